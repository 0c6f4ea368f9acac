import JvmDerived
import JvmDerived.Pilot.@@N@@Statement
import JvmDerived.Pilot.@@N@@Code
set_option linter.unusedVariables false
set_option linter.unusedSimpArgs false
namespace Jvm.Pilot.@@N@@
open Jvm Jvm.ClassFile Sem Op Lib Jvm.Free Jvm.Stand Jvm.LawKit Jvm.RoadKit Bundle Jvm.Pilot.@@N@@.Jvm.D
section OwnWalk
variable {p : Program} {l : Launch} {e : Env} {R : Room} {s : State} {m : MethodId} {args : Array Value} {below : List Frame} {meth : Method} {c : Code} {T T' : State} {locs : List Loc} {cells slots kc ks : Nat} {g g' : JFrame} {Q : Option Value → Heap → List Loc → Prop}
/-- from here the run comes to its end, and the end is as Q says -/
def own_G (p : Program) (e : Env) (below : List Frame) (s : State) (Q : Option Value → Heap → List Loc → Prop) (kc ks : Nat) (T : State) (g : JFrame) : Prop :=
  ∃ s₂ o, Steps p.tables e below (T.setTop g) s₂ ∧ s₂.status = .running ∧ Ended s₂ below o ∧ ∃ v L, o = .returned v ∧ Q v s₂.heap L ∧ FrameEnd s o s₂ L kc ks
theorem own_fe {Z : State} {h : Heap} {a : Addr} {C n d : String} {v v' : Value} (q : Fld Z h a C n d v) (e : v = v') : Fld Z h a C n d v' := e ▸ q
theorem own_ve {Z : State} {h : Heap} {a : Addr} {k : ClassId} {ty : FieldType} {n : Int32} {vs vs' : List Value} {d : Value} (q : Arv Z h a k ty n vs d) (e : vs = vs') : Arv Z h a k ty n vs' d := e ▸ q
theorem own_gs {vs : List Value} {j : Nat} {v d : Value} (h : j < vs.length) : (vs.set j v).getD j d = v := by simp [List.getD_eq_getElem?_getD, h]
theorem own_ge {vs : List Value} {i j : Nat} {v d : Value} (e : i = j) (h : j < vs.length) : (vs.set i v).getD j d = v := by subst e; exact own_gs h
theorem own_gn {vs : List Value} {i j : Nat} {v w d : Value} (h : i ≠ j) (q : vs.getD j d = w) : (vs.set i v).getD j d = w := by rw [List.getD_eq_getElem?_getD, List.getElem?_set_ne h, ← List.getD_eq_getElem?_getD]; exact q
theorem own_ls {vs : List Value} {i j : Nat} {v : Value} (h : j < vs.length) : j < (vs.set i v).length := by rw [List.length_set]; exact h
theorem own_enter (q : g = g') (k : own_G p e below s Q kc ks T g') : own_G p e below s Q kc ks T g := q ▸ k
theorem own_st (st : ∀ t, Steps p.tables e below (T'.setTop g') t → Steps p.tables e below (T.setTop g) t) (k : own_G p e below s Q kc ks T' g') : own_G p e below s Q kc ks T g := by
  obtain ⟨s₂, o, h1, h2⟩ := k
  exact ⟨s₂, o, st _ h1, h2⟩
theorem own_tr (st : Steps p.tables e below (T.setTop g) (T'.setTop g')) (k : own_G p e below s Q kc ks T' g') : own_G p e below s Q kc ks T g := own_st (fun _ h => st.trans h) k
theorem own_ret (X : Stand p l e R s m args below meth c T locs cells slots) (hx : p.tables.exec = Jvm.exec) (hlk : meth.locks = false) {pc : Nat} {Ls : Array Slot} {w : Value} {t : FieldType} {i : Instr} {rest : List Value} (hret : meth.sig.returnType = some t) (hn : narrow t w = w)
    (hi : (i = .ireturn ∧ (t = .int ∨ t = .boolean ∨ t = .byte ∨ t = .char ∨ t = .short) ∧ ∃ z, w = .int z) ∨ (i = .lreturn ∧ t = .long ∧ ∃ z, w = .long z) ∨ (i = .dreturn ∧ t = .double ∧ ∃ z, w = .double z) ∨ (i = .freturn ∧ t = .float ∧ ∃ z, w = .float z) ∨ (i = .areturn ∧ t.isReference = true ∧ w.isRef = true))
    (hd : decode c.code pc = .ok (i, 1)) (hc : cells ≤ kc) (hs : slots ≤ ks) (hQ : Q (some w) T.heap locs) : own_G p e below s Q kc ks T (mkF m pc Ls (w :: rest)) := by
  obtain ⟨fs, hr, hrun, hended, hW, hsame⟩ := X.leave (v := some w) (fun h => by rw [hret] at h; cases h) hlk
  exact ⟨_, _, retOut X hx hret hn hi hd hr, hrun, hended, _, _, rfl, hQ, ⟨_, rfl⟩, hW, hsame.mono hc hs⟩
theorem own_retI (X : Stand p l e R s m args below meth c T locs cells slots) (hx : p.tables.exec = Jvm.exec) (hlk : meth.locks = false) {pc : Nat} {Ls : Array Slot} {z : Int32} {rest : List Value} (hret : meth.sig.returnType = some .int)
    (hd : decode c.code pc = .ok (.ireturn, 1)) (hc : cells ≤ kc) (hs : slots ≤ ks) (hQ : Q (some (.int z)) T.heap locs) : own_G p e below s Q kc ks T (mkF m pc Ls (.int z :: rest)) :=
  own_ret X hx hlk hret rfl (Or.inl ⟨rfl, Or.inl rfl, z, rfl⟩) hd hc hs hQ
theorem own_retZ (X : Stand p l e R s m args below meth c T locs cells slots) (hx : p.tables.exec = Jvm.exec) (hlk : meth.locks = false) {pc : Nat} {Ls : Array Slot} {z : Int32} {rest : List Value} (hret : meth.sig.returnType = some .boolean)
    (hd : decode c.code pc = .ok (.ireturn, 1)) (hn : narrow .boolean (.int z) = .int z) (hc : cells ≤ kc) (hs : slots ≤ ks) (hQ : Q (some (.int z)) T.heap locs) : own_G p e below s Q kc ks T (mkF m pc Ls (.int z :: rest)) :=
  own_ret X hx hlk hret hn (Or.inl ⟨rfl, Or.inr (Or.inl rfl), z, rfl⟩) hd hc hs hQ
theorem own_retJ (X : Stand p l e R s m args below meth c T locs cells slots) (hx : p.tables.exec = Jvm.exec) (hlk : meth.locks = false) {pc : Nat} {Ls : Array Slot} {z : Int64} {rest : List Value} (hret : meth.sig.returnType = some .long)
    (hd : decode c.code pc = .ok (.lreturn, 1)) (hc : cells ≤ kc) (hs : slots ≤ ks) (hQ : Q (some (.long z)) T.heap locs) : own_G p e below s Q kc ks T (mkF m pc Ls (.long z :: rest)) :=
  own_ret X hx hlk hret rfl (Or.inr (Or.inl ⟨rfl, rfl, z, rfl⟩)) hd hc hs hQ
theorem own_retD (X : Stand p l e R s m args below meth c T locs cells slots) (hx : p.tables.exec = Jvm.exec) (hlk : meth.locks = false) {pc : Nat} {Ls : Array Slot} {z : UInt64} {rest : List Value} (hret : meth.sig.returnType = some .double)
    (hd : decode c.code pc = .ok (.dreturn, 1)) (hc : cells ≤ kc) (hs : slots ≤ ks) (hQ : Q (some (.double z)) T.heap locs) : own_G p e below s Q kc ks T (mkF m pc Ls (.double z :: rest)) :=
  own_ret X hx hlk hret rfl (Or.inr (Or.inr (Or.inl ⟨rfl, rfl, z, rfl⟩))) hd hc hs hQ
theorem own_retA (X : Stand p l e R s m args below meth c T locs cells slots) (hx : p.tables.exec = Jvm.exec) (hlk : meth.locks = false) {pc : Nat} {Ls : Array Slot} {w : Value} {t : FieldType} {rest : List Value} (hret : meth.sig.returnType = some t) (ht : t.isReference = true) (hw : w.isRef = true)
    (hd : decode c.code pc = .ok (.areturn, 1)) (hc : cells ≤ kc) (hs : slots ≤ ks) (hQ : Q (some w) T.heap locs) : own_G p e below s Q kc ks T (mkF m pc Ls (w :: rest)) :=
  own_ret X hx hlk hret (by cases t <;> first | (cases ht; done) | (cases w <;> first | (cases hw; done) | rfl)) (Or.inr (Or.inr (Or.inr (Or.inr ⟨rfl, ht, hw⟩)))) hd hc hs hQ
theorem own_retV (X : Stand p l e R s m args below meth c T locs cells slots) (hx : p.tables.exec = Jvm.exec) (hlk : meth.locks = false) {pc : Nat} {Ls : Array Slot} (hret : meth.sig.returnType = none)
    (hd : decode c.code pc = .ok (.return_, 1)) (hc : cells ≤ kc) (hs : slots ≤ ks) (hQ : Q none T.heap locs) : own_G p e below s Q kc ks T (mkF m pc Ls []) := by
  obtain ⟨fs, hr, hrun, hended, hW, hsame⟩ := X.leave (v := none) (fun _ => rfl) hlk
  exact ⟨_, _, X.returnOut hx hret hd hr, hrun, hended, _, _, rfl, hQ, ⟨_, rfl⟩, hW, hsame.mono hc hs⟩
end OwnWalk
section OwnFloat
/-! ## Doubles as fractions: x is n / 2^k, exactly -/
def own_Dy (x : UInt64) (n : Int) (k : Nat) : Prop :=
  (∃ s c q, FP.Core.val64 x = .fin s c q) ∧ k ≤ 1074 ∧ FP.Core.zval FP.Core.b64 (FP.Core.val64 x) = n * ((2 ^ (1074 - k) : Nat) : Int)
theorem own_qmax : FP.Core.b64.qmax = 971 := by decide
theorem own_p : FP.Core.b64.p = 53 := by decide
theorem own_signed_abs (n : Int) : FP.Core.signed (decide (n < 0)) n.natAbs = n := by
  unfold FP.Core.signed; by_cases h : n < 0 <;> simp [h] <;> omega
/-- every n / 2^k with |n| < 2^53 is a double's value -/
theorem own_fitV {n : Int} {k : Nat} (hk : k ≤ 1074) (hn : n.natAbs < 9007199254740992) :
    ∃ V, FP.Core.fits FP.Core.b64 V ∧ (∃ s c q, V = .fin s c q) ∧ FP.Core.zval FP.Core.b64 V = n * ((2 ^ (1074 - k) : Nat) : Int) := by
  obtain ⟨c', q', h1, h2⟩ := FP.Core.round_exact FP.Core.good_b64 (decide (n < 0)) (c := n.natAbs) (q := -(k : Int)) (by rw [own_p]; exact hn) (by rw [FP.Core.qmin_b64]; omega) (by rw [own_qmax]; omega)
  refine ⟨_, FP.Core.round_fits FP.Core.good_b64 (.fin (decide (n < 0)) n.natAbs (-(k : Int))), ⟨_, _, _, h1⟩, ?_⟩
  rw [h1]
  show FP.Core.signed (decide (n < 0)) (FP.Core.inUnits c' q' FP.Core.b64.qmin) = _
  rw [h2]
  unfold FP.Core.inUnits
  rw [FP.Core.qmin_b64, show (-(k : Int) - -1074).toNat = 1074 - k by omega, FP.Core.signed_mul, own_signed_abs]
/-- what is worth n / 2^k rounds to that -/
theorem own_round {s : Bool} {c : Nat} {q e0 n : Int} {k : Nat} (hk : k ≤ 1074) (hn : n.natAbs < 9007199254740992) (h0 : e0 ≤ -1074) (h1 : e0 ≤ q)
    (h : FP.Core.signed s (FP.Core.inUnits c q e0) = n * ((2 ^ (1074 - k) : Nat) : Int) * ((2 ^ (-1074 - e0).toNat : Nat) : Int)) :
    (∃ s' c' q', FP.Core.round FP.Core.b64 (.fin s c q) = .fin s' c' q') ∧ FP.Core.zval FP.Core.b64 (FP.Core.round FP.Core.b64 (.fin s c q)) = n * ((2 ^ (1074 - k) : Nat) : Int) := by
  obtain ⟨V, v1, ⟨vs, vc, vq, v2⟩, v3⟩ := own_fitV hk hn
  have hne : V ≠ .nan := by rw [v2]; exact FP.Core.Datum.noConfusion
  have hq := FP.Core.qmin_b64
  have le := FP.Core.zval_round_le FP.Core.good_b64 (s := s) (c := c) (q := q) (e0 := e0) v1 hne (by rw [hq]; exact h0) h1 (by rw [hq, v3, h]; exact Int.le_refl _)
  have ge := FP.Core.zval_round_ge FP.Core.good_b64 (s := s) (c := c) (q := q) (e0 := e0) v1 hne (by rw [hq]; exact h0) h1 (by rw [hq, v3, h]; exact Int.le_refl _)
  have e : FP.Core.zval FP.Core.b64 (FP.Core.round FP.Core.b64 (.fin s c q)) = FP.Core.zval FP.Core.b64 V := Int.le_antisymm le ge
  refine ⟨?_, e.trans v3⟩
  rcases FP.Core.roundRatio_cases FP.Core.b64 s c 1 q with ⟨c', q', h'⟩ | h'
  · exact ⟨_, _, _, h'⟩
  · exfalso
    have e' : FP.Core.zval FP.Core.b64 (FP.Core.roundRatio FP.Core.b64 s c 1 q) = FP.Core.zval FP.Core.b64 V := e
    rw [h', v2] at e'
    rw [v2] at v1
    have hlt := FP.Core.zmag_lt_top FP.Core.good_b64 v1
    have e2 : FP.Core.signed s (FP.Core.b64.tails * 2 ^ (FP.Core.b64.exps - 2)) = FP.Core.signed vs (FP.Core.inUnits vc vq FP.Core.b64.qmin) := e'
    clear e'
    generalize FP.Core.inUnits vc vq FP.Core.b64.qmin = a at e2 hlt
    generalize FP.Core.b64.tails * 2 ^ (FP.Core.b64.exps - 2) = b at e2 hlt
    cases s <;> cases vs <;> simp only [FP.Core.signed, if_true, Bool.false_eq_true, if_false] at e2 <;> omega
theorem own_Dy.fin {x : UInt64} {n : Int} {k : Nat} (h : own_Dy x n k) : Fl.Fin64 x := by
  obtain ⟨⟨s, c, q, h1⟩, -⟩ := h
  exact Fl.fin64_core.mpr ⟨s, c, q, h1⟩
theorem own_Dy.nn {x : UInt64} {n : Int} {k : Nat} (h : own_Dy x n k) : Fl.NoNaN64 x := h.fin.noNaN
theorem own_Dy.ne {x : UInt64} {n : Int} {k : Nat} (h : own_Dy x n k) : FP.Core.val64 x ≠ .nan := by
  obtain ⟨⟨s, c, q, h1⟩, -⟩ := h; rw [h1]; exact FP.Core.Datum.noConfusion
theorem own_pow {j k : Nat} (h : j + k ≤ 1074) : ((2 ^ (1074 - j) : Nat) : Int) = ((2 ^ k : Nat) : Int) * ((2 ^ (1074 - (j + k)) : Nat) : Int) := by
  rw [← Int.natCast_mul, ← Nat.pow_add]; congr 2; omega
/-- the same number, with a greater denominator -/
theorem own_Dy.up {x : UInt64} {n : Int} {k : Nat} (h : own_Dy x n k) (j : Nat) (hj : k + j ≤ 1074) : own_Dy x (n * ((2 ^ j : Nat) : Int)) (k + j) := by
  obtain ⟨h1, -, h3⟩ := h
  refine ⟨h1, hj, ?_⟩
  rw [h3, own_pow hj, Int.mul_assoc]
theorem own_Dy.dn {x : UInt64} {n : Int} {k j : Nat} (h : own_Dy x (n * ((2 ^ j : Nat) : Int)) (k + j)) : own_Dy x n k := by
  obtain ⟨h1, h2, h3⟩ := h
  refine ⟨h1, by omega, ?_⟩
  rw [h3, own_pow h2, Int.mul_assoc]
theorem own_dy_l2d {a : Int64} (h1 : -9007199254740992 < a.toInt) (h2 : a.toInt < 9007199254740992) : own_Dy (FP.l2d a) a.toInt 0 := by
  have hr := own_round (s := decide (a.toInt < 0)) (c := a.toInt.natAbs) (q := 0) (e0 := -1074) (n := a.toInt) (k := 0) (by omega) (by omega) (by omega) (by omega) (by
    unfold FP.Core.inUnits
    rw [FP.Core.signed_mul, own_signed_abs, show (0 - -1074 : Int).toNat = 1074 from rfl, show (-1074 - -1074 : Int).toNat = 0 from rfl, Nat.pow_zero, Int.natCast_one, Int.mul_one])
  have hv : FP.Core.val64 (FP.l2d a) = FP.Core.round FP.Core.b64 (.fin (decide (a.toInt < 0)) a.toInt.natAbs 0) := FP.Core.val64_l2d a
  unfold own_Dy
  rw [hv]
  exact ⟨hr.1, by omega, hr.2⟩
theorem own_dy_i2d (a : Int32) : own_Dy (FP.i2d a) a.toInt 0 := by
  have h := Int32.toInt_lt a
  have h' := Int32.le_toInt a
  have e : a.toInt64.toInt = a.toInt := Int32.toInt_toInt64 a
  have := own_dy_l2d (a := a.toInt64) (by omega) (by omega)
  rw [e] at this
  exact (FP.Core.i2d_l2d a ▸ this : own_Dy (FP.Core.i2d a) a.toInt 0)
theorem own_Dy.add {x y : UInt64} {n m : Int} {k : Nat} (hx : own_Dy x n k) (hy : own_Dy y m k) (h : (n + m).natAbs < 9007199254740992) : own_Dy (FP.dadd x y) (n + m) k := by
  obtain ⟨⟨s, c, q, hx1⟩, hk, hx3⟩ := hx
  obtain ⟨⟨t, d, r, hy1⟩, -, hy3⟩ := hy
  obtain ⟨sg, w, e, h1, h2, h3⟩ := FP.Core.sum_units (f := FP.Core.b64) (hx1 ▸ FP.Core.val64_fits x) (hy1 ▸ FP.Core.val64_fits y)
  have hq := FP.Core.qmin_b64
  rw [← hx1, ← hy1, hx3, hy3, ← Int.add_mul] at h3
  have hr := own_round (s := sg) (c := w) (q := e) (e0 := -1074) (n := n + m) (k := k) hk h (by omega) (by rw [hq] at h2; exact h2) (by
    rw [hq] at h3; rw [h3, show (-1074 - -1074 : Int).toNat = 0 from rfl, Nat.pow_zero, Int.natCast_one, Int.mul_one])
  have hv : FP.Core.val64 (FP.dadd x y) = FP.Core.round FP.Core.b64 (.fin sg w e) := by
    have := FP.Core.val64_dadd x y
    rw [hx1, hy1, h1] at this
    exact this
  unfold own_Dy
  rw [hv]
  exact ⟨hr.1, hk, hr.2⟩
theorem own_Dy.sub {x y : UInt64} {n m : Int} {k : Nat} (hx : own_Dy x n k) (hy : own_Dy y m k) (h : (n - m).natAbs < 9007199254740992) : own_Dy (FP.dsub x y) (n - m) k := by
  obtain ⟨⟨s, c, q, hx1⟩, hk, hx3⟩ := hx
  obtain ⟨⟨t, d, r, hy1⟩, -, hy3⟩ := hy
  have hyn : FP.Core.fits FP.Core.b64 (FP.Core.negate (.fin t d r)) := FP.Core.negate_fits (hy1 ▸ FP.Core.val64_fits y)
  obtain ⟨sg, w, e, h1, h2, h3⟩ := FP.Core.sum_units (f := FP.Core.b64) (s := s) (c := c) (q := q) (t := !t) (d := d) (r := r) (hx1 ▸ FP.Core.val64_fits x) hyn
  have hq := FP.Core.qmin_b64
  have hneg : FP.Core.zval FP.Core.b64 (.fin (!t) d r) = -(m * ((2 ^ (1074 - k) : Nat) : Int)) := by
    rw [← hy3, hy1]; exact FP.Core.zval_negate FP.Core.b64 (.fin t d r)
  rw [← hx1, hx3, hneg, ← Int.sub_eq_add_neg, ← Int.sub_mul] at h3
  have hr := own_round (s := sg) (c := w) (q := e) (e0 := -1074) (n := n - m) (k := k) hk h (by omega) (by rw [hq] at h2; exact h2) (by
    rw [hq] at h3; rw [h3, show (-1074 - -1074 : Int).toNat = 0 from rfl, Nat.pow_zero, Int.natCast_one, Int.mul_one])
  have hv : FP.Core.val64 (FP.dsub x y) = FP.Core.round FP.Core.b64 (.fin sg w e) := by
    have := FP.Core.val64_dsub x y
    rw [hx1, hy1] at this
    exact this.trans (congrArg _ h1)
  unfold own_Dy
  rw [hv]
  exact ⟨hr.1, hk, hr.2⟩
theorem own_Dy.mul {x y : UInt64} {n m : Int} {k j : Nat} (hx : own_Dy x n k) (hy : own_Dy y m j) (hkj : k + j ≤ 1074) (h : (n * m).natAbs < 9007199254740992) : own_Dy (FP.dmul x y) (n * m) (k + j) := by
  obtain ⟨⟨s, c, q, hx1⟩, hk, hx3⟩ := hx
  obtain ⟨⟨t, d, r, hy1⟩, hj, hy3⟩ := hy
  obtain ⟨h1, h2, h3⟩ := FP.Core.product_units (f := FP.Core.b64) (hx1 ▸ FP.Core.val64_fits x) (hy1 ▸ FP.Core.val64_fits y)
  have hq := FP.Core.qmin_b64
  have hs : FP.Core.signed (s != t) (FP.Core.zmag FP.Core.b64 (.fin s c q) * FP.Core.zmag FP.Core.b64 (.fin t d r)) = FP.Core.zval FP.Core.b64 (.fin s c q) * FP.Core.zval FP.Core.b64 (.fin t d r) := by
    show _ = FP.Core.signed s (FP.Core.zmag FP.Core.b64 (.fin s c q)) * FP.Core.signed t (FP.Core.zmag FP.Core.b64 (.fin t d r))
    generalize FP.Core.zmag FP.Core.b64 (.fin s c q) = a
    generalize FP.Core.zmag FP.Core.b64 (.fin t d r) = b
    cases s <;> cases t <;> simp [FP.Core.signed, Int.natCast_mul, Int.neg_mul, Int.mul_neg]
  have hr := own_round (s := s != t) (c := c * d) (q := q + r) (e0 := -2148) (n := n * m) (k := k + j) hkj h (by omega) (by rw [hq] at h2; omega) (by
    rw [hq] at h3
    have h3' : FP.Core.inUnits (c * d) (q + r) (-2148) = FP.Core.zmag FP.Core.b64 (FP.Core.Datum.fin s c q) * FP.Core.zmag FP.Core.b64 (FP.Core.Datum.fin t d r) := h3
    rw [h3', hs, ← hx1, ← hy1, hx3, hy3, show (-1074 - -2148 : Int).toNat = 1074 from rfl]
    have e1 : ((2 ^ (1074 - k) : Nat) : Int) * ((2 ^ (1074 - j) : Nat) : Int) = ((2 ^ (1074 - (k + j)) : Nat) : Int) * ((2 ^ 1074 : Nat) : Int) := by
      rw [← Int.natCast_mul, ← Int.natCast_mul, ← Nat.pow_add, ← Nat.pow_add]; congr 2; omega
    generalize ((2 ^ (1074 - k) : Nat) : Int) = A at e1 ⊢
    generalize ((2 ^ (1074 - j) : Nat) : Int) = B at e1 ⊢
    generalize ((2 ^ (1074 - (k + j)) : Nat) : Int) = C at e1 ⊢
    generalize ((2 ^ 1074 : Nat) : Int) = D at e1 ⊢
    calc n * A * (m * B) = n * m * (A * B) := by ac_rfl
      _ = n * m * C * D := by rw [e1]; ac_rfl)
  have hv : FP.Core.val64 (FP.dmul x y) = FP.Core.round FP.Core.b64 (.fin (s != t) (c * d) (q + r)) := by
    have := FP.Core.val64_dmul x y
    rw [hx1, hy1] at this
    exact this.trans (congrArg _ h1)
  unfold own_Dy
  rw [hv]
  exact ⟨hr.1, hkj, hr.2⟩
theorem own_Dy.cmp {x y : UInt64} {n m : Int} {k : Nat} (hx : own_Dy x n k) (hy : own_Dy y m k) : FP.dcmp x y = some (compare n m) := by
  have h := FP.Core.dcmp_zval hx.ne hy.ne
  rw [hx.2.2, hy.2.2, FP.Core.compare_mul_pos _ _ _ (by have := Nat.two_pow_pos (1074 - k); omega)] at h
  exact h
theorem own_Dy.eq {x y : UInt64} {n m : Int} {k : Nat} (hx : own_Dy x n k) (hy : own_Dy y m k) (h : n = m) (o : CmpOp) : cmpValue (FP.dcmp x y) o = 0 := by
  rw [hx.cmp hy, (FP.Core.compare_eq_iff n m).mpr h]; rfl
theorem own_Dy.lt {x y : UInt64} {n m : Int} {k : Nat} (hx : own_Dy x n k) (hy : own_Dy y m k) (h : n < m) (o : CmpOp) : cmpValue (FP.dcmp x y) o = -1 := by
  rw [hx.cmp hy, (FP.Core.compare_lt_iff n m).mpr h]; rfl
theorem own_Dy.gt {x y : UInt64} {n m : Int} {k : Nat} (hx : own_Dy x n k) (hy : own_Dy y m k) (h : m < n) (o : CmpOp) : cmpValue (FP.dcmp x y) o = 1 := by
  rw [hx.cmp hy, (FP.Core.compare_gt_iff n m).mpr h]; rfl
end OwnFloat
section OwnInt
theorem own_ladd {a b : Int64} (h : (a.toInt + b.toInt).natAbs < 9223372036854775808) : (a + b).toInt = a.toInt + b.toInt := by
  have q := c_ladd a b; have r := rng64 (a + b); omega
theorem own_lsub {a b : Int64} (h : (a.toInt - b.toInt).natAbs < 9223372036854775808) : (a - b).toInt = a.toInt - b.toInt := by
  have q := c_lsub a b; have r := rng64 (a - b); omega
theorem own_lmul {a b : Int64} (h : (a.toInt * b.toInt).natAbs < 9223372036854775808) : (a * b).toInt = a.toInt * b.toInt := by
  have q := c_lmul a b; have r := rng64 (a * b); generalize a.toInt * b.toInt = z at *; omega
theorem own_iadd {a b : Int32} (h : (a.toInt + b.toInt).natAbs < 2147483648) : (a + b).toInt = a.toInt + b.toInt := by
  have q := c_iadd a b; have r := rng32 (a + b); omega
theorem own_isub {a b : Int32} (h : (a.toInt - b.toInt).natAbs < 2147483648) : (a - b).toInt = a.toInt - b.toInt := by
  have q := c_isub a b; have r := rng32 (a - b); omega
theorem own_imul {a b : Int32} (h : (a.toInt * b.toInt).natAbs < 2147483648) : (a * b).toInt = a.toInt * b.toInt := by
  have q := c_imul a b; have r := rng32 (a * b); generalize a.toInt * b.toInt = z at *; omega
theorem own_absmul {n m : Int} {A B : Nat} (hn : n.natAbs ≤ A) (hm : m.natAbs ≤ B) : (n * m).natAbs ≤ A * B := by
  rw [Int.natAbs_mul]; exact Nat.mul_le_mul hn hm
end OwnInt
section OwnShift
theorem own_bv {q : Int32} {n : Nat} (h : q.toInt = (n : Int)) : q.toBitVec.toNat = n := by
  have h1 : q.toBitVec.toInt = (n : Int) := h
  have h2 := BitVec.toInt_eq_toNat_cond q.toBitVec
  have h3 := q.toBitVec.isLt
  split at h2 <;> omega
theorem own_lshl {x : Int64} {q : Int32} {n : Nat} (hq : q.toInt = (n : Int)) (hn : n < 64) (hb : (x.toInt * ((2 ^ n : Nat) : Int)).natAbs < 9223372036854775808) : (x <<< (q &&& 0x3f).toInt64).toInt = x.toInt * ((2 ^ n : Nat) : Int) := by
  have h1 := c_lshl x q n (by rw [own_bv hq]; omega)
  have h2 := rng64 (x <<< (q &&& 0x3f).toInt64)
  generalize x.toInt * ((2 ^ n : Nat) : Int) = z at *
  omega
theorem own_ishl {x : Int32} {q : Int32} {n : Nat} (hq : q.toInt = (n : Int)) (hn : n < 32) (hb : (x.toInt * ((2 ^ n : Nat) : Int)).natAbs < 2147483648) : (x <<< (q &&& 31)).toInt = x.toInt * ((2 ^ n : Nat) : Int) := by
  have h1 := c_ishl x q n (by rw [own_bv hq]; omega)
  have h2 := rng32 (x <<< (q &&& 31))
  generalize x.toInt * ((2 ^ n : Nat) : Int) = z at *
  omega
theorem own_ishl1 {q : Int32} {n : Nat} (hq : q.toInt = (n : Int)) (hn : n < 31) : ((1 : Int32) <<< (q &&& 31)).toInt = ((2 ^ n : Nat) : Int) := by
  have e : (1 : Int32).toInt = 1 := by decide
  have hp : 2 ^ n ≤ 2 ^ 30 := Nat.pow_le_pow_right (by omega) (by omega)
  rw [own_ishl hq (by omega) (by rw [e, Int.one_mul, Int.natAbs_natCast]; omega), e, Int.one_mul]
theorem own_lshl1 {q : Int32} {n : Nat} (hq : q.toInt = (n : Int)) (hn : n < 63) : ((1 : Int64) <<< (q &&& 0x3f).toInt64).toInt = ((2 ^ n : Nat) : Int) := by
  have e : (1 : Int64).toInt = 1 := by decide
  have hp : 2 ^ n ≤ 2 ^ 62 := Nat.pow_le_pow_right (by omega) (by omega)
  rw [own_lshl hq (by omega) (by rw [e, Int.one_mul, Int.natAbs_natCast]; omega), e, Int.one_mul]
/-- a mask of ones: what is left is some natural below the power -/
theorem own_andN (x : Int32) (mk : Int32) (M : Nat) (hM : mk.toInt = (M : Int)) : ∃ n : Nat, (x &&& mk).toInt = (n : Int) ∧ n ≤ M := by
  have h := c_and x mk (by omega)
  exact ⟨(x &&& mk).toInt.toNat, by omega, by omega⟩
theorem own_andL (x : Int64) (mk : Int64) (k : Nat) (hk : k ≤ 63) (hm : mk.toBitVec.toNat = 2 ^ k - 1) : ∃ n : Nat, (x &&& mk).toInt = (n : Int) ∧ n < 2 ^ k := by
  have h := c_maskL x mk k hk hm
  have hp := Nat.two_pow_pos k
  have h1 := Int.emod_nonneg x.toInt (show ((2 ^ k : Nat) : Int) ≠ 0 by omega)
  have h2 := Int.emod_lt_of_pos x.toInt (show (0 : Int) < ((2 ^ k : Nat) : Int) by omega)
  exact ⟨(x &&& mk).toInt.toNat, by omega, by omega⟩
theorem own_irem {x y : Int32} (hx : 0 ≤ x.toInt) (hy : 0 < y.toInt) : (x % y).toInt = x.toInt % y.toInt := by
  rw [Int32.toInt_mod, Int.tmod_eq_emod_of_nonneg hx]
theorem own_lrem {x y : Int64} (hx : 0 ≤ x.toInt) (hy : 0 < y.toInt) : (x - x / y * y).toInt = x.toInt % y.toInt := by
  rw [lrem_mod, Int64.toInt_mod, Int.tmod_eq_emod_of_nonneg hx]
end OwnShift
section OwnPlain
def own_z (c : Int32) (d : UInt64) : Int32 := if ifCond.holds .eq (cmpValue (FP.dcmp d (0 : UInt64)) .l) = true then c else c + (1 : Int32)
theorem own_zy {d : UInt64} (c : Int32) (h : ifCond.holds .eq (cmpValue (FP.dcmp d (0 : UInt64)) .l) = true) : c = own_z c d := by unfold own_z; rw [if_pos h]
theorem own_zn {d : UInt64} (c : Int32) (h : ¬ ifCond.holds .eq (cmpValue (FP.dcmp d (0 : UInt64)) .l) = true) : c + (1 : Int32) = own_z c d := by unfold own_z; rw [if_neg h]
theorem own_zn0 {d : UInt64} (h : ¬ ifCond.holds .eq (cmpValue (FP.dcmp d (0 : UInt64)) .l) = true) : (1 : Int32) = own_z (0 : Int32) d := by unfold own_z; rw [if_neg h]; decide
theorem own_z0 : own_Dy (0 : UInt64) 0 0 := ⟨⟨false, 0, -1074, by decide +kernel⟩, by omega, by decide +kernel⟩
theorem own_ne0 {x : Int32} (h : x ≠ 0) : ¬ ifCond.holds .eq (cmpValue (FP.dcmp (FP.i2d x) (0 : UInt64)) .l) = true := by
  have e : (0 : Int32).toInt = 0 := by decide
  rcases Int.lt_trichotomy x.toInt 0 with q | q | q
  · rw [(own_dy_i2d x).lt own_z0 q .l]; decide
  · exact absurd (Int32.toInt_inj.mp (q.trans e.symm)) h
  · rw [(own_dy_i2d x).gt own_z0 q .l]; decide
theorem own_zp : ifCond.holds .eq (cmpValue (FP.dcmp (0 : UInt64) (0 : UInt64)) .l) = true := by decide +kernel
theorem own_zm : ifCond.holds .eq (cmpValue (FP.dcmp (9223372036854775808 : UInt64) (0 : UInt64)) .l) = true := by decide +kernel
theorem own_and3 (x : Int32) : x &&& (3 : Int32) = 0 ∨ x &&& (3 : Int32) = 1 ∨ ¬ (x &&& (3 : Int32)) < 2 ∧ x &&& (3 : Int32) ≠ 0 ∧ x &&& (3 : Int32) ≠ 1 := by
  obtain ⟨n, h, hn⟩ := own_andN x 3 3 (by decide)
  have e0 : (0 : Int32).toInt = 0 := by decide
  have e1 : (1 : Int32).toInt = 1 := by decide
  have e2 : (2 : Int32).toInt = 2 := by decide
  by_cases q0 : n = 0
  · exact Or.inl (Int32.toInt_inj.mp (by rw [h, q0]; rfl))
  · by_cases q1 : n = 1
    · exact Or.inr (Or.inl (Int32.toInt_inj.mp (by rw [h, q1]; rfl)))
    · refine Or.inr (Or.inr ⟨?_, fun q => ?_, fun q => ?_⟩)
      · rw [Int32.lt_iff_toInt_lt]; omega
      · rw [q] at h; omega
      · rw [q] at h; omega
def own_val (p : Int32) : UInt64 := if (p &&& (3 : Int32)) = (0 : Int32) then (0 : UInt64) else if (p &&& (3 : Int32)) = (1 : Int32) then (9223372036854775808 : UInt64) else FP.i2d (p >>> ((2 : Int32) &&& 31))
def own_cnt (p : Int32) : Int32 := if (p &&& (3 : Int32)) < (2 : Int32) then (0 : Int32) else if (p >>> ((2 : Int32) &&& 31)) = (0 : Int32) then (0 : Int32) else (1 : Int32)
theorem own_zc (c x : Int32) : own_z c (own_val x) = c + own_cnt x := by
  unfold own_val own_cnt
  rcases own_and3 x with q | q | ⟨q, q0, q1⟩
  · rw [if_pos q, if_pos (by rw [q]; decide), ← own_zy c own_zp, Int32.add_zero]
  · rw [if_neg (by rw [q]; decide), if_pos q, if_pos (by rw [q]; decide), ← own_zy c own_zm, Int32.add_zero]
  · rw [if_neg q0, if_neg q1, if_neg q]
    by_cases w : (x >>> ((2 : Int32) &&& 31)) = (0 : Int32)
    · rw [if_pos w, w, ← own_zy c (by decide +kernel), Int32.add_zero]
    · rw [if_neg w, ← own_zn c (own_ne0 w)]
theorem own_m3 (p : Int32) : (p &&& (3 : Int32)) % (3 : Int32) = 0 ∨ (p &&& (3 : Int32)) % (3 : Int32) = 1 ∨ (p &&& (3 : Int32)) % (3 : Int32) = 2 := by
  obtain ⟨n, h, hn⟩ := own_andN p 3 3 (by decide)
  have e5 : (3 : Int32).toInt = 3 := by decide
  have a : ((p &&& (3 : Int32)) % (3 : Int32)).toInt = (n : Int) % 3 := by rw [own_irem (by omega) (by omega), h, e5]
  have b : (n : Int) % 3 = 0 ∨ (n : Int) % 3 = 1 ∨ (n : Int) % 3 = 2 := by omega
  rcases b with q | q | q <;> rw [q] at a
  · exact Or.inl (Int32.toInt_inj.mp a)
  · exact Or.inr (Or.inl (Int32.toInt_inj.mp a))
  · exact Or.inr (Or.inr (Int32.toInt_inj.mp a))
end OwnPlain
theorem d9_0 : decode jdk_41_method_11_code 0 = .ok (.iload_n 0, 1) := by decide +kernel
theorem d9_1 : decode jdk_41_method_11_code 1 = .ok (.ifCond .lt 8, 3) := by decide +kernel
theorem d9_4 : decode jdk_41_method_11_code 4 = .ok (.iload_n 0, 1) := by decide +kernel
theorem d9_5 : decode jdk_41_method_11_code 5 = .ok (.iload_n 1, 1) := by decide +kernel
theorem d9_6 : decode jdk_41_method_11_code 6 = .ok (.if_icmp .lt 10, 3) := by decide +kernel
theorem d9_16 : decode jdk_41_method_11_code 16 = .ok (.iload_n 0, 1) := by decide +kernel
theorem d9_17 : decode jdk_41_method_11_code 17 = .ok (.ireturn, 1) := by decide +kernel
theorem pn9 : plainName "jdk/internal/util/Preconditions" = true := by first | (simp [plainName, overriddenIn]; done) | decide +kernel
theorem ef9 (m : MethodId) (p0 : Int32) (p1 : Int32) : entryFrame m #[(.int p0), (.int p1), .null] 3 = mkF m 0 #[.val (.int p0), .val (.int p1), .val .null] [] := by first | (simp [entryFrame, mkF, argsToLocals, Value.category]; done) | rfl
def Q9 (Z : State) (p0 : Int32) (p1 : Int32) (h0 : Heap) (n0 : Nat) (v : Option Value) (h : Heap) (L : List Loc) : Prop := v = some (.int p0) ∧ Fr n0 L ∧ h = h0
set_option maxRecDepth 65536 in
set_option maxHeartbeats 40000000 in
theorem rm9 (l : Launch) (Z : State) (ar : Array Value) (hw : ∀ d ∈ tables_1, d.before ar Z = true) (ws : List Jvm.Cond) (p0 : Int32) (p1 : Int32) (h0 : Heap) (n0 : Nat) (Z0 : n0 ≤ h0.size) (hb1 : ¬ (p0 < (0 : Int32))) (hb6 : p0 < p1) :
    MetFree l (⟨"jdk/internal/util/Preconditions", "checkIndex", "(IILjava/util/function/BiFunction;)I"⟩ : MethodName) (head1 (Jvm.Cond.code (⟨"jdk/internal/util/Preconditions", "checkIndex", "(IILjava/util/function/BiFunction;)I"⟩ : MethodName) jdk_41_method_11_code 3 (some .int) :: ws) ({ frames := 0, cells := 0, slots := 0, locals := 0 } : Room)) (fun a U => a = #[(.int p0), (.int p1), .null] ∧ Z.Warmed39 U.vm ∧ U.heap = h0) (fun _ _ _ _ _ => True) (fun _ U o U' => ∃ v L, o = .returned v ∧ Q9 Z p0 p1 h0 n0 v U'.heap L ∧ FrameEnd U o U' L ({ frames := 0, cells := 0, slots := 0, locals := 0 } : Room).cells ({ frames := 0, cells := 0, slots := 0, locals := 0 } : Room).slots) := by
  refine MetFree.of_bodySF (plainFor_of_name pn9) hisR ?_
  intro p e s m args below meth c s₁ Bd hml0 hP hK
  obtain ⟨rfl, hZ, hh⟩ := hP
  have hx := Bd.exec
  have hby := Bd.bytes
  have hlk := Bd.notSynchronized
  have hml : c.maxLocals = 3 := hml0
  have hown : s.vm.findClass "jdk/internal/util/Preconditions" = some m.cls := findClass_of_methodNamed Bd.named
  have hnm := (name_of_methodNamed Bd.named Bd.method).1
  have X0 : Stand p l e ({ frames := 0, cells := 0, slots := 0, locals := 0 } : Room) s m #[(.int p0), (.int p1), .null] below meth c s₁ [] 0 0 := Stand.of_body Bd
  have e0 : s₁.heap = h0 := by rw [← hh, Bd.state]; rfl
  have N0 := Fr.nil n0
  have K0 := Keep.refl h0 []
  refine own_enter (Q := Q9 Z p0 p1 h0 n0) (ef9 m p0 p1) ?_
  refine own_st (T' := s₁) (g' := (mkF m 17 #[.val (.int p0), .val (.int p1), .val .null] [(.int p0)])) (fun t k => ?_) ?_
  · show Steps p.tables e below (s₁.setTop (mkF m 0 #[.val (.int p0), .val (.int p1), .val .null] [])) t
    refine XS.iloadN X0.here hx rfl (hb hby d9_0) rfl ?_
    show Steps p.tables e below (s₁.setTop (mkF m 1 #[.val (.int p0), .val (.int p1), .val .null] [(.int p0)])) t
    refine XS.ifNo X0.here hx rfl (hb hby d9_1) rfl ((if0 _ _).trans (flt (hb1 : ¬ (p0 < (0 : Int32)))).1) ?_
    show Steps p.tables e below (s₁.setTop (mkF m 4 #[.val (.int p0), .val (.int p1), .val .null] [])) t
    refine XS.iloadN X0.here hx rfl (hb hby d9_4) rfl ?_
    show Steps p.tables e below (s₁.setTop (mkF m 5 #[.val (.int p0), .val (.int p1), .val .null] [(.int p0)])) t
    refine XS.iloadN X0.here hx rfl (hb hby d9_5) rfl ?_
    show Steps p.tables e below (s₁.setTop (mkF m 6 #[.val (.int p0), .val (.int p1), .val .null] [(.int p1), (.int p0)])) t
    refine XS.icmpYes X0.here hx rfl (pc0 := 6) (pc' := 16) rfl (hb hby d9_6) rfl (tlt (hb6 : p0 < p1)).1 (by decide) (by decide) ?_
    show Steps p.tables e below (s₁.setTop (mkF m 16 #[.val (.int p0), .val (.int p1), .val .null] [])) t
    refine XS.iloadN X0.here hx rfl (hb hby d9_16) rfl ?_
    exact k
  refine own_retI X0 hx hlk Bd.returns (hb hby d9_17) (by decide) (by decide) ?_
  show Q9 Z p0 p1 h0 n0 (some (.int p0)) s₁.heap _
  rw [(e0 : s₁.heap = h0)]
  exact ⟨rfl, N0, rfl⟩
theorem d8_0 : decode jdk_31_method_17_code 0 = .ok (.iload_n 0, 1) := by decide +kernel
theorem d8_1 : decode jdk_31_method_17_code 1 = .ok (.iload_n 1, 1) := by decide +kernel
theorem d8_2 : decode jdk_31_method_17_code 2 = .ok (.aconst_null, 1) := by decide +kernel
theorem d8_3 : decode jdk_31_method_17_code 3 = .ok (.invokestatic 105, 3) := by decide +kernel
theorem d8_6 : decode jdk_31_method_17_code 6 = .ok (.ireturn, 1) := by decide +kernel
theorem pn8 : plainName "java/util/Objects" = true := by first | (simp [plainName, overriddenIn]; done) | decide +kernel
theorem pd8_0 : parseMethodDescriptor "(IILjava/util/function/BiFunction;)I" = some ⟨[.int, .int, (.object "java/util/function/BiFunction")], some .int⟩ := by decide +kernel
theorem ef8 (m : MethodId) (p0 : Int32) (p1 : Int32) : entryFrame m #[(.int p0), (.int p1)] 2 = mkF m 0 #[.val (.int p0), .val (.int p1)] [] := by first | (simp [entryFrame, mkF, argsToLocals, Value.category]; done) | rfl
def Q8 (Z : State) (p0 : Int32) (p1 : Int32) (h0 : Heap) (n0 : Nat) (v : Option Value) (h : Heap) (L : List Loc) : Prop := v = some (.int p0) ∧ Fr n0 L ∧ h = h0
set_option maxRecDepth 65536 in
set_option maxHeartbeats 40000000 in
theorem rm8 (l : Launch) (Z : State) (ar : Array Value) (hw : ∀ d ∈ tables_1, d.before ar Z = true) (ws : List Jvm.Cond) (p0 : Int32) (p1 : Int32) (h0 : Heap) (n0 : Nat) (Z0 : n0 ≤ h0.size) (h3_hb1 : ¬ (p0 < (0 : Int32))) (h3_hb6 : p0 < p1) :
    MetFree l (⟨"java/util/Objects", "checkIndex", "(II)I"⟩ : MethodName) (head1 (Jvm.Cond.code (⟨"java/util/Objects", "checkIndex", "(II)I"⟩ : MethodName) jdk_31_method_17_code 2 (some .int) :: ws) ({ frames := 1, cells := 0, slots := 0, locals := 14 } : Room)) (fun a U => a = #[(.int p0), (.int p1)] ∧ Z.Warmed39 U.vm ∧ U.heap = h0) (fun _ _ _ _ _ => True) (fun _ U o U' => ∃ v L, o = .returned v ∧ Q8 Z p0 p1 h0 n0 v U'.heap L ∧ FrameEnd U o U' L ({ frames := 1, cells := 0, slots := 0, locals := 14 } : Room).cells ({ frames := 1, cells := 0, slots := 0, locals := 14 } : Room).slots) := by
  refine MetFree.of_bodySF (plainFor_of_name pn8) hisR ?_
  intro p e s m args below meth c s₁ Bd hml0 hP hK
  obtain ⟨rfl, hZ, hh⟩ := hP
  have hx := Bd.exec
  have hby := Bd.bytes
  have hlk := Bd.notSynchronized
  have hml : c.maxLocals = 2 := hml0
  have hown : s.vm.findClass "java/util/Objects" = some m.cls := findClass_of_methodNamed Bd.named
  have hnm := (name_of_methodNamed Bd.named Bd.method).1
  have X0 : Stand p l e ({ frames := 1, cells := 0, slots := 0, locals := 14 } : Room) s m #[(.int p0), (.int p1)] below meth c s₁ [] 0 0 := Stand.of_body Bd
  have e0 : s₁.heap = h0 := by rw [← hh, Bd.state]; rfl
  have N0 := Fr.nil n0
  have K0 := Keep.refl h0 []
  refine own_enter (Q := Q8 Z p0 p1 h0 n0) (ef8 m p0 p1) ?_
  refine own_st (T' := s₁) (g' := (mkF m 3 #[.val (.int p0), .val (.int p1)] [.null, (.int p1), (.int p0)])) (fun t k => ?_) ?_
  · show Steps p.tables e below (s₁.setTop (mkF m 0 #[.val (.int p0), .val (.int p1)] [])) t
    refine XS.iloadN X0.here hx rfl (hb hby d8_0) rfl ?_
    show Steps p.tables e below (s₁.setTop (mkF m 1 #[.val (.int p0), .val (.int p1)] [(.int p0)])) t
    refine XS.iloadN X0.here hx rfl (hb hby d8_1) rfl ?_
    show Steps p.tables e below (s₁.setTop (mkF m 2 #[.val (.int p0), .val (.int p1)] [(.int p1), (.int p0)])) t
    refine XS.aconstNull X0.here hx rfl (hb hby d8_2) ?_
    exact k
  obtain ⟨_, _, ⟨T1, L1, k1, n1⟩, -, X1, ⟨Lc1, hQ1, l1, y1, z1⟩, st1⟩ := Jvm.LawKit.callS X0 hx (y := (⟨"jdk/internal/util/Preconditions", "checkIndex", "(IILjava/util/function/BiFunction;)I"⟩ : MethodName)) hown (mvT hZ (hw _ (List.mem_of_getElem? (i := 46) rfl))) (mvT hZ (hw _ (List.mem_of_getElem? (i := 47) rfl))) (mvT hZ (hw _ (List.mem_of_getElem? (i := 48) rfl))) (mvT hZ (hw _ (List.mem_of_getElem? (i := 49) rfl))) (by decide) (backOf (W := 0) (rm9 l Z ar hw [] p0 p1 h0 n0 Z0 h3_hb1 h3_hb6) hZ (hw _ (List.mem_of_getElem? (i := 49) rfl)) (hw _ (List.mem_of_getElem? (i := 48) rfl)) (by decide) (by decide)) (g := (mkF m 3 #[.val (.int p0), .val (.int p1)] [.null, (.int p1), (.int p0)])) rfl (by rw [hml]; rfl) (argsL := [(.int p0), (.int p1), .null]) (rest := []) (lenOf pd8_0 rfl) rfl (by show 2 * 0 + _ ≤ _; exact Nat.le_of_eq rfl) (hb hby d8_3) (fun _ _ => ⟨rfl, e0, (by decide : 0 + 0 ≤ _), (by decide : 0 + 0 ≤ _)⟩)
  dsimp only [Pt.U, Pt.locs, Pt.cells, Pt.slots] at X1 l1 y1 z1 st1 hQ1
  subst l1 y1 z1
  obtain ⟨rfl, N1q, e1⟩ := hQ1
  have n2 := Fr.app N0 N1q
  refine own_st (T' := T1) (g' := (mkF m 6 #[.val (.int p0), .val (.int p1)] [(.int p0)])) st1 ?_
  refine own_retI X1 hx hlk Bd.returns (hb hby d8_6) (by decide) (by decide) ?_
  show Q8 Z p0 p1 h0 n0 (some (.int p0)) T1.heap _
  rw [(e1 : T1.heap = h0)]
  exact ⟨rfl, n2, rfl⟩
theorem d2_0 : decode prog_47_method_1_code 0 = .ok (.aload_n 0, 1) := by decide +kernel
theorem d2_1 : decode prog_47_method_1_code 1 = .ok (.invokespecial 1, 3) := by decide +kernel
theorem d2_4 : decode prog_47_method_1_code 4 = .ok (.iload_n 1, 1) := by decide +kernel
theorem d2_5 : decode prog_47_method_1_code 5 = .ok (.ifCond .lt 7, 3) := by decide +kernel
theorem d2_8 : decode prog_47_method_1_code 8 = .ok (.iload_n 2, 1) := by decide +kernel
theorem d2_9 : decode prog_47_method_1_code 9 = .ok (.ifCond .ge 18, 3) := by decide +kernel
theorem d2_27 : decode prog_47_method_1_code 27 = .ok (.aload_n 0, 1) := by decide +kernel
theorem d2_28 : decode prog_47_method_1_code 28 = .ok (.iload_n 1, 1) := by decide +kernel
theorem d2_29 : decode prog_47_method_1_code 29 = .ok (.putfield 16, 3) := by decide +kernel
theorem d2_32 : decode prog_47_method_1_code 32 = .ok (.aload_n 0, 1) := by decide +kernel
theorem d2_33 : decode prog_47_method_1_code 33 = .ok (.iload_n 2, 1) := by decide +kernel
theorem d2_34 : decode prog_47_method_1_code 34 = .ok (.putfield 22, 3) := by decide +kernel
theorem d2_37 : decode prog_47_method_1_code 37 = .ok (.return_, 1) := by decide +kernel
theorem pnA00 : plainName "com/example/winnowfold/winnowfold/math/AbstractMatrix" = true := by first | (simp [plainName, overriddenIn]; done) | decide +kernel
theorem efA00 (m : MethodId) (a0 : Addr) : entryFrame m #[(.ref a0), (.int (0 : Int32)), (.int (0 : Int32))] 3 = mkF m 0 #[.val (.ref a0), .val (.int (0 : Int32)), .val (.int (0 : Int32))] [] := by first | (simp [entryFrame, mkF, argsToLocals, Value.category]; done) | rfl
def QA00 (Z : State) (a0 : Addr) (u_rows_a0 : Value) (u_columns_a0 : Value) (u_values_a0 : Value) (h0 : Heap) (n0 : Nat) (v : Option Value) (h : Heap) (L : List Loc) : Prop := v = none ∧ Fr n0 L ∧ Keep h0 h [a0] ∧ Exa Z h a0 "com/example/winnowfold/winnowfold/math/DenseMatrix" ∧ Fld Z h a0 "com/example/winnowfold/winnowfold/math/AbstractMatrix" "rows" "I" (.int (0 : Int32)) ∧ Fld Z h a0 "com/example/winnowfold/winnowfold/math/AbstractMatrix" "columns" "I" (.int (0 : Int32)) ∧ Fld Z h a0 "com/example/winnowfold/winnowfold/math/DenseMatrix" "values" "[D" u_values_a0
set_option maxRecDepth 65536 in
set_option maxHeartbeats 40000000 in
theorem rmA00 (l : Launch) (Z : State) (ar : Array Value) (hw : ∀ d ∈ tables_1, d.before ar Z = true) (ws : List Jvm.Cond) (a0 : Addr) (u_rows_a0 : Value) (u_columns_a0 : Value) (u_values_a0 : Value) (h0 : Heap) (n0 : Nat) (Z0 : n0 ≤ h0.size) (E_a0 : Exa Z h0 a0 "com/example/winnowfold/winnowfold/math/DenseMatrix") (F_rows_a0 : Fld Z h0 a0 "com/example/winnowfold/winnowfold/math/AbstractMatrix" "rows" "I" u_rows_a0) (F_columns_a0 : Fld Z h0 a0 "com/example/winnowfold/winnowfold/math/AbstractMatrix" "columns" "I" u_columns_a0) (F_values_a0 : Fld Z h0 a0 "com/example/winnowfold/winnowfold/math/DenseMatrix" "values" "[D" u_values_a0) (g_a0 : n0 ≤ a0) :
    MetFree l (⟨"com/example/winnowfold/winnowfold/math/AbstractMatrix", "<init>", "(II)V"⟩ : MethodName) (head1 (Jvm.Cond.code (⟨"com/example/winnowfold/winnowfold/math/AbstractMatrix", "<init>", "(II)V"⟩ : MethodName) prog_47_method_1_code 3 none :: ws) ({ frames := 1, cells := 0, slots := 0, locals := 12 } : Room)) (fun a U => a = #[(.ref a0), (.int (0 : Int32)), (.int (0 : Int32))] ∧ Z.Warmed39 U.vm ∧ U.heap = h0) (fun _ _ _ _ _ => True) (fun _ U o U' => ∃ v L, o = .returned v ∧ QA00 Z a0 u_rows_a0 u_columns_a0 u_values_a0 h0 n0 v U'.heap L ∧ FrameEnd U o U' L ({ frames := 1, cells := 0, slots := 0, locals := 12 } : Room).cells ({ frames := 1, cells := 0, slots := 0, locals := 12 } : Room).slots) := by
  refine MetFree.of_bodySF (plainFor_of_name pnA00) hisR ?_
  intro p e s m args below meth c s₁ Bd hml0 hP hK
  obtain ⟨rfl, hZ, hh⟩ := hP
  have hx := Bd.exec
  have hby := Bd.bytes
  have hlk := Bd.notSynchronized
  have hml : c.maxLocals = 3 := hml0
  have hown : s.vm.findClass "com/example/winnowfold/winnowfold/math/AbstractMatrix" = some m.cls := findClass_of_methodNamed Bd.named
  have hnm := (name_of_methodNamed Bd.named Bd.method).1
  have X0 : Stand p l e ({ frames := 1, cells := 0, slots := 0, locals := 12 } : Room) s m #[(.ref a0), (.int (0 : Int32)), (.int (0 : Int32))] below meth c s₁ [] 0 0 := Stand.of_body Bd
  have e0 : s₁.heap = h0 := by rw [← hh, Bd.state]; rfl
  have N0 := Fr.nil n0
  have K0 := Keep.refl h0 [a0]
  refine own_enter (Q := QA00 Z a0 u_rows_a0 u_columns_a0 u_values_a0 h0 n0) (efA00 m a0) ?_
  refine own_st (T' := s₁) (g' := (mkF m 1 #[.val (.ref a0), .val (.int (0 : Int32)), .val (.int (0 : Int32))] [(.ref a0)])) (fun t k => ?_) ?_
  · show Steps p.tables e below (s₁.setTop (mkF m 0 #[.val (.ref a0), .val (.int (0 : Int32)), .val (.int (0 : Int32))] [])) t
    refine XS.aloadN X0.here hx rfl (hb hby d2_0) rfl rfl ?_
    exact k
  obtain ⟨T1, X1, e1, st1⟩ := initO X0 hx hZ hown (hw _ (List.mem_of_getElem? (i := 11) rfl)) (hw _ (List.mem_of_getElem? (i := 12) rfl)) (hw _ (List.mem_of_getElem? (i := 13) rfl)) e0 (g := (mkF m 1 #[.val (.ref a0), .val (.int (0 : Int32)), .val (.int (0 : Int32))] [(.ref a0)])) rfl (by rw [hml]; rfl) rfl (hb hby d2_1) (by decide) (W := 0) (by show 2 * 0 + _ ≤ _; exact Nat.le_of_eq rfl) (by decide)
  refine own_st (T' := T1) (g' := (mkF m 4 #[.val (.ref a0), .val (.int (0 : Int32)), .val (.int (0 : Int32))] [])) st1 ?_
  refine own_st (T' := T1) (g' := (mkF m 29 #[.val (.ref a0), .val (.int (0 : Int32)), .val (.int (0 : Int32))] [(.int (0 : Int32)), (.ref a0)])) (fun t k => ?_) ?_
  · show Steps p.tables e below (T1.setTop (mkF m 4 #[.val (.ref a0), .val (.int (0 : Int32)), .val (.int (0 : Int32))] [])) t
    refine XS.iloadN X1.here hx rfl (hb hby d2_4) rfl ?_
    show Steps p.tables e below (T1.setTop (mkF m 5 #[.val (.ref a0), .val (.int (0 : Int32)), .val (.int (0 : Int32))] [(.int (0 : Int32))])) t
    refine XS.ifNo X1.here hx rfl (hb hby d2_5) rfl (by decide) ?_
    show Steps p.tables e below (T1.setTop (mkF m 8 #[.val (.ref a0), .val (.int (0 : Int32)), .val (.int (0 : Int32))] [])) t
    refine XS.iloadN X1.here hx rfl (hb hby d2_8) rfl ?_
    show Steps p.tables e below (T1.setTop (mkF m 9 #[.val (.ref a0), .val (.int (0 : Int32)), .val (.int (0 : Int32))] [(.int (0 : Int32))])) t
    refine XS.ifYes X1.here hx rfl (pc0 := 9) (pc' := 27) rfl (hb hby d2_9) rfl (by decide) (by decide) (by decide) ?_
    show Steps p.tables e below (T1.setTop (mkF m 27 #[.val (.ref a0), .val (.int (0 : Int32)), .val (.int (0 : Int32))] [])) t
    refine XS.aloadN X1.here hx rfl (hb hby d2_27) rfl rfl ?_
    show Steps p.tables e below (T1.setTop (mkF m 28 #[.val (.ref a0), .val (.int (0 : Int32)), .val (.int (0 : Int32))] [(.ref a0)])) t
    refine XS.iloadN X1.here hx rfl (hb hby d2_28) rfl ?_
    exact k
  obtain ⟨T2, h2, X2, e2, W2, st2⟩ := putF X1 hx hZ hown (host := "") (Or.inl (hw _ (List.mem_of_getElem? (i := 14) rfl))) Via.refl e1 F_rows_a0 E_a0 (Or.inr ⟨(hw _ (List.mem_of_getElem? (i := 15) rfl)), rfl, hnm⟩) (hw _ (List.mem_of_getElem? (i := 1) rfl)) (ty := .int) (by decide) rfl rfl (g := (mkF m 29 #[.val (.ref a0), .val (.int (0 : Int32)), .val (.int (0 : Int32))] [(.int (0 : Int32)), (.ref a0)])) rfl rfl (hb hby d2_29)
  have f3 := E_a0.wr W2
  have f4 := F_rows_a0.same W2
  have f5 := F_columns_a0.other W2 (Or.inr (slot_ne (Or.inr (hw _ (List.mem_of_getElem? (i := 17) rfl))) (Or.inr (hw _ (List.mem_of_getElem? (i := 15) rfl))) (by decide) (t := .int) (t' := .int) (by decide) (by decide)))
  have f6 := F_values_a0.other W2 (Or.inr (slot_ne (Or.inr (hw _ (List.mem_of_getElem? (i := 21) rfl))) (Or.inr (hw _ (List.mem_of_getElem? (i := 15) rfl))) (by decide) (t := (.array .double)) (t' := .int) (by decide) (by decide)))
  have z7 := Nat.le_trans Z0 (Keep.of_wr W2).1
  have k8 := K0.wr W2 (Or.inl (List.mem_of_getElem? (i := 0) rfl))
  have n9 := Fr.snoc X2 N0 g_a0
  refine own_st (T' := T2) (g' := (mkF m 32 #[.val (.ref a0), .val (.int (0 : Int32)), .val (.int (0 : Int32))] [])) st2 ?_
  refine own_st (T' := T2) (g' := (mkF m 34 #[.val (.ref a0), .val (.int (0 : Int32)), .val (.int (0 : Int32))] [(.int (0 : Int32)), (.ref a0)])) (fun t k => ?_) ?_
  · show Steps p.tables e below (T2.setTop (mkF m 32 #[.val (.ref a0), .val (.int (0 : Int32)), .val (.int (0 : Int32))] [])) t
    refine XS.aloadN X2.here hx rfl (hb hby d2_32) rfl rfl ?_
    show Steps p.tables e below (T2.setTop (mkF m 33 #[.val (.ref a0), .val (.int (0 : Int32)), .val (.int (0 : Int32))] [(.ref a0)])) t
    refine XS.iloadN X2.here hx rfl (hb hby d2_33) rfl ?_
    exact k
  obtain ⟨T10, h10, X10, e10, W10, st10⟩ := putF X2 hx hZ hown (host := "") (Or.inl (hw _ (List.mem_of_getElem? (i := 16) rfl))) Via.refl e2 f5 f3 (Or.inr ⟨(hw _ (List.mem_of_getElem? (i := 17) rfl)), rfl, hnm⟩) (hw _ (List.mem_of_getElem? (i := 1) rfl)) (ty := .int) (by decide) rfl rfl (g := (mkF m 34 #[.val (.ref a0), .val (.int (0 : Int32)), .val (.int (0 : Int32))] [(.int (0 : Int32)), (.ref a0)])) rfl rfl (hb hby d2_34)
  have f11 := f3.wr W10
  have f12 := f4.other W10 (Or.inr (slot_ne (Or.inr (hw _ (List.mem_of_getElem? (i := 15) rfl))) (Or.inr (hw _ (List.mem_of_getElem? (i := 17) rfl))) (by decide) (t := .int) (t' := .int) (by decide) (by decide)))
  have f13 := f5.same W10
  have f14 := f6.other W10 (Or.inr (slot_ne (Or.inr (hw _ (List.mem_of_getElem? (i := 21) rfl))) (Or.inr (hw _ (List.mem_of_getElem? (i := 17) rfl))) (by decide) (t := (.array .double)) (t' := .int) (by decide) (by decide)))
  have z15 := Nat.le_trans z7 (Keep.of_wr W10).1
  have k16 := k8.wr W10 (Or.inl (List.mem_of_getElem? (i := 0) rfl))
  have n17 := Fr.snoc X10 n9 g_a0
  refine own_st (T' := T10) (g' := (mkF m 37 #[.val (.ref a0), .val (.int (0 : Int32)), .val (.int (0 : Int32))] [])) st10 ?_
  refine own_retV X10 hx hlk Bd.returns (hb hby d2_37) (by decide) (by decide) ?_
  show QA00 Z a0 u_rows_a0 u_columns_a0 u_values_a0 h0 n0 none T10.heap _
  rw [(e10 : T10.heap = h10)]
  exact ⟨rfl, n17, k16, f11, f12, f13, f14⟩
theorem pnA01 : plainName "com/example/winnowfold/winnowfold/math/AbstractMatrix" = true := by first | (simp [plainName, overriddenIn]; done) | decide +kernel
theorem efA01 (m : MethodId) (a0 : Addr) : entryFrame m #[(.ref a0), (.int (0 : Int32)), (.int (1 : Int32))] 3 = mkF m 0 #[.val (.ref a0), .val (.int (0 : Int32)), .val (.int (1 : Int32))] [] := by first | (simp [entryFrame, mkF, argsToLocals, Value.category]; done) | rfl
def QA01 (Z : State) (a0 : Addr) (u_rows_a0 : Value) (u_columns_a0 : Value) (u_values_a0 : Value) (h0 : Heap) (n0 : Nat) (v : Option Value) (h : Heap) (L : List Loc) : Prop := v = none ∧ Fr n0 L ∧ Keep h0 h [a0] ∧ Exa Z h a0 "com/example/winnowfold/winnowfold/math/DenseMatrix" ∧ Fld Z h a0 "com/example/winnowfold/winnowfold/math/AbstractMatrix" "rows" "I" (.int (0 : Int32)) ∧ Fld Z h a0 "com/example/winnowfold/winnowfold/math/AbstractMatrix" "columns" "I" (.int (1 : Int32)) ∧ Fld Z h a0 "com/example/winnowfold/winnowfold/math/DenseMatrix" "values" "[D" u_values_a0
set_option maxRecDepth 65536 in
set_option maxHeartbeats 40000000 in
theorem rmA01 (l : Launch) (Z : State) (ar : Array Value) (hw : ∀ d ∈ tables_1, d.before ar Z = true) (ws : List Jvm.Cond) (a0 : Addr) (u_rows_a0 : Value) (u_columns_a0 : Value) (u_values_a0 : Value) (h0 : Heap) (n0 : Nat) (Z0 : n0 ≤ h0.size) (E_a0 : Exa Z h0 a0 "com/example/winnowfold/winnowfold/math/DenseMatrix") (F_rows_a0 : Fld Z h0 a0 "com/example/winnowfold/winnowfold/math/AbstractMatrix" "rows" "I" u_rows_a0) (F_columns_a0 : Fld Z h0 a0 "com/example/winnowfold/winnowfold/math/AbstractMatrix" "columns" "I" u_columns_a0) (F_values_a0 : Fld Z h0 a0 "com/example/winnowfold/winnowfold/math/DenseMatrix" "values" "[D" u_values_a0) (g_a0 : n0 ≤ a0) :
    MetFree l (⟨"com/example/winnowfold/winnowfold/math/AbstractMatrix", "<init>", "(II)V"⟩ : MethodName) (head1 (Jvm.Cond.code (⟨"com/example/winnowfold/winnowfold/math/AbstractMatrix", "<init>", "(II)V"⟩ : MethodName) prog_47_method_1_code 3 none :: ws) ({ frames := 1, cells := 0, slots := 0, locals := 12 } : Room)) (fun a U => a = #[(.ref a0), (.int (0 : Int32)), (.int (1 : Int32))] ∧ Z.Warmed39 U.vm ∧ U.heap = h0) (fun _ _ _ _ _ => True) (fun _ U o U' => ∃ v L, o = .returned v ∧ QA01 Z a0 u_rows_a0 u_columns_a0 u_values_a0 h0 n0 v U'.heap L ∧ FrameEnd U o U' L ({ frames := 1, cells := 0, slots := 0, locals := 12 } : Room).cells ({ frames := 1, cells := 0, slots := 0, locals := 12 } : Room).slots) := by
  refine MetFree.of_bodySF (plainFor_of_name pnA01) hisR ?_
  intro p e s m args below meth c s₁ Bd hml0 hP hK
  obtain ⟨rfl, hZ, hh⟩ := hP
  have hx := Bd.exec
  have hby := Bd.bytes
  have hlk := Bd.notSynchronized
  have hml : c.maxLocals = 3 := hml0
  have hown : s.vm.findClass "com/example/winnowfold/winnowfold/math/AbstractMatrix" = some m.cls := findClass_of_methodNamed Bd.named
  have hnm := (name_of_methodNamed Bd.named Bd.method).1
  have X0 : Stand p l e ({ frames := 1, cells := 0, slots := 0, locals := 12 } : Room) s m #[(.ref a0), (.int (0 : Int32)), (.int (1 : Int32))] below meth c s₁ [] 0 0 := Stand.of_body Bd
  have e0 : s₁.heap = h0 := by rw [← hh, Bd.state]; rfl
  have N0 := Fr.nil n0
  have K0 := Keep.refl h0 [a0]
  refine own_enter (Q := QA01 Z a0 u_rows_a0 u_columns_a0 u_values_a0 h0 n0) (efA01 m a0) ?_
  refine own_st (T' := s₁) (g' := (mkF m 1 #[.val (.ref a0), .val (.int (0 : Int32)), .val (.int (1 : Int32))] [(.ref a0)])) (fun t k => ?_) ?_
  · show Steps p.tables e below (s₁.setTop (mkF m 0 #[.val (.ref a0), .val (.int (0 : Int32)), .val (.int (1 : Int32))] [])) t
    refine XS.aloadN X0.here hx rfl (hb hby d2_0) rfl rfl ?_
    exact k
  obtain ⟨T1, X1, e1, st1⟩ := initO X0 hx hZ hown (hw _ (List.mem_of_getElem? (i := 11) rfl)) (hw _ (List.mem_of_getElem? (i := 12) rfl)) (hw _ (List.mem_of_getElem? (i := 13) rfl)) e0 (g := (mkF m 1 #[.val (.ref a0), .val (.int (0 : Int32)), .val (.int (1 : Int32))] [(.ref a0)])) rfl (by rw [hml]; rfl) rfl (hb hby d2_1) (by decide) (W := 0) (by show 2 * 0 + _ ≤ _; exact Nat.le_of_eq rfl) (by decide)
  refine own_st (T' := T1) (g' := (mkF m 4 #[.val (.ref a0), .val (.int (0 : Int32)), .val (.int (1 : Int32))] [])) st1 ?_
  refine own_st (T' := T1) (g' := (mkF m 29 #[.val (.ref a0), .val (.int (0 : Int32)), .val (.int (1 : Int32))] [(.int (0 : Int32)), (.ref a0)])) (fun t k => ?_) ?_
  · show Steps p.tables e below (T1.setTop (mkF m 4 #[.val (.ref a0), .val (.int (0 : Int32)), .val (.int (1 : Int32))] [])) t
    refine XS.iloadN X1.here hx rfl (hb hby d2_4) rfl ?_
    show Steps p.tables e below (T1.setTop (mkF m 5 #[.val (.ref a0), .val (.int (0 : Int32)), .val (.int (1 : Int32))] [(.int (0 : Int32))])) t
    refine XS.ifNo X1.here hx rfl (hb hby d2_5) rfl (by decide) ?_
    show Steps p.tables e below (T1.setTop (mkF m 8 #[.val (.ref a0), .val (.int (0 : Int32)), .val (.int (1 : Int32))] [])) t
    refine XS.iloadN X1.here hx rfl (hb hby d2_8) rfl ?_
    show Steps p.tables e below (T1.setTop (mkF m 9 #[.val (.ref a0), .val (.int (0 : Int32)), .val (.int (1 : Int32))] [(.int (1 : Int32))])) t
    refine XS.ifYes X1.here hx rfl (pc0 := 9) (pc' := 27) rfl (hb hby d2_9) rfl (by decide) (by decide) (by decide) ?_
    show Steps p.tables e below (T1.setTop (mkF m 27 #[.val (.ref a0), .val (.int (0 : Int32)), .val (.int (1 : Int32))] [])) t
    refine XS.aloadN X1.here hx rfl (hb hby d2_27) rfl rfl ?_
    show Steps p.tables e below (T1.setTop (mkF m 28 #[.val (.ref a0), .val (.int (0 : Int32)), .val (.int (1 : Int32))] [(.ref a0)])) t
    refine XS.iloadN X1.here hx rfl (hb hby d2_28) rfl ?_
    exact k
  obtain ⟨T2, h2, X2, e2, W2, st2⟩ := putF X1 hx hZ hown (host := "") (Or.inl (hw _ (List.mem_of_getElem? (i := 14) rfl))) Via.refl e1 F_rows_a0 E_a0 (Or.inr ⟨(hw _ (List.mem_of_getElem? (i := 15) rfl)), rfl, hnm⟩) (hw _ (List.mem_of_getElem? (i := 1) rfl)) (ty := .int) (by decide) rfl rfl (g := (mkF m 29 #[.val (.ref a0), .val (.int (0 : Int32)), .val (.int (1 : Int32))] [(.int (0 : Int32)), (.ref a0)])) rfl rfl (hb hby d2_29)
  have f3 := E_a0.wr W2
  have f4 := F_rows_a0.same W2
  have f5 := F_columns_a0.other W2 (Or.inr (slot_ne (Or.inr (hw _ (List.mem_of_getElem? (i := 17) rfl))) (Or.inr (hw _ (List.mem_of_getElem? (i := 15) rfl))) (by decide) (t := .int) (t' := .int) (by decide) (by decide)))
  have f6 := F_values_a0.other W2 (Or.inr (slot_ne (Or.inr (hw _ (List.mem_of_getElem? (i := 21) rfl))) (Or.inr (hw _ (List.mem_of_getElem? (i := 15) rfl))) (by decide) (t := (.array .double)) (t' := .int) (by decide) (by decide)))
  have z7 := Nat.le_trans Z0 (Keep.of_wr W2).1
  have k8 := K0.wr W2 (Or.inl (List.mem_of_getElem? (i := 0) rfl))
  have n9 := Fr.snoc X2 N0 g_a0
  refine own_st (T' := T2) (g' := (mkF m 32 #[.val (.ref a0), .val (.int (0 : Int32)), .val (.int (1 : Int32))] [])) st2 ?_
  refine own_st (T' := T2) (g' := (mkF m 34 #[.val (.ref a0), .val (.int (0 : Int32)), .val (.int (1 : Int32))] [(.int (1 : Int32)), (.ref a0)])) (fun t k => ?_) ?_
  · show Steps p.tables e below (T2.setTop (mkF m 32 #[.val (.ref a0), .val (.int (0 : Int32)), .val (.int (1 : Int32))] [])) t
    refine XS.aloadN X2.here hx rfl (hb hby d2_32) rfl rfl ?_
    show Steps p.tables e below (T2.setTop (mkF m 33 #[.val (.ref a0), .val (.int (0 : Int32)), .val (.int (1 : Int32))] [(.ref a0)])) t
    refine XS.iloadN X2.here hx rfl (hb hby d2_33) rfl ?_
    exact k
  obtain ⟨T10, h10, X10, e10, W10, st10⟩ := putF X2 hx hZ hown (host := "") (Or.inl (hw _ (List.mem_of_getElem? (i := 16) rfl))) Via.refl e2 f5 f3 (Or.inr ⟨(hw _ (List.mem_of_getElem? (i := 17) rfl)), rfl, hnm⟩) (hw _ (List.mem_of_getElem? (i := 1) rfl)) (ty := .int) (by decide) rfl rfl (g := (mkF m 34 #[.val (.ref a0), .val (.int (0 : Int32)), .val (.int (1 : Int32))] [(.int (1 : Int32)), (.ref a0)])) rfl rfl (hb hby d2_34)
  have f11 := f3.wr W10
  have f12 := f4.other W10 (Or.inr (slot_ne (Or.inr (hw _ (List.mem_of_getElem? (i := 15) rfl))) (Or.inr (hw _ (List.mem_of_getElem? (i := 17) rfl))) (by decide) (t := .int) (t' := .int) (by decide) (by decide)))
  have f13 := f5.same W10
  have f14 := f6.other W10 (Or.inr (slot_ne (Or.inr (hw _ (List.mem_of_getElem? (i := 21) rfl))) (Or.inr (hw _ (List.mem_of_getElem? (i := 17) rfl))) (by decide) (t := (.array .double)) (t' := .int) (by decide) (by decide)))
  have z15 := Nat.le_trans z7 (Keep.of_wr W10).1
  have k16 := k8.wr W10 (Or.inl (List.mem_of_getElem? (i := 0) rfl))
  have n17 := Fr.snoc X10 n9 g_a0
  refine own_st (T' := T10) (g' := (mkF m 37 #[.val (.ref a0), .val (.int (0 : Int32)), .val (.int (1 : Int32))] [])) st10 ?_
  refine own_retV X10 hx hlk Bd.returns (hb hby d2_37) (by decide) (by decide) ?_
  show QA01 Z a0 u_rows_a0 u_columns_a0 u_values_a0 h0 n0 none T10.heap _
  rw [(e10 : T10.heap = h10)]
  exact ⟨rfl, n17, k16, f11, f12, f13, f14⟩
theorem pnA02 : plainName "com/example/winnowfold/winnowfold/math/AbstractMatrix" = true := by first | (simp [plainName, overriddenIn]; done) | decide +kernel
theorem efA02 (m : MethodId) (a0 : Addr) : entryFrame m #[(.ref a0), (.int (0 : Int32)), (.int (2 : Int32))] 3 = mkF m 0 #[.val (.ref a0), .val (.int (0 : Int32)), .val (.int (2 : Int32))] [] := by first | (simp [entryFrame, mkF, argsToLocals, Value.category]; done) | rfl
def QA02 (Z : State) (a0 : Addr) (u_rows_a0 : Value) (u_columns_a0 : Value) (u_values_a0 : Value) (h0 : Heap) (n0 : Nat) (v : Option Value) (h : Heap) (L : List Loc) : Prop := v = none ∧ Fr n0 L ∧ Keep h0 h [a0] ∧ Exa Z h a0 "com/example/winnowfold/winnowfold/math/DenseMatrix" ∧ Fld Z h a0 "com/example/winnowfold/winnowfold/math/AbstractMatrix" "rows" "I" (.int (0 : Int32)) ∧ Fld Z h a0 "com/example/winnowfold/winnowfold/math/AbstractMatrix" "columns" "I" (.int (2 : Int32)) ∧ Fld Z h a0 "com/example/winnowfold/winnowfold/math/DenseMatrix" "values" "[D" u_values_a0
set_option maxRecDepth 65536 in
set_option maxHeartbeats 40000000 in
theorem rmA02 (l : Launch) (Z : State) (ar : Array Value) (hw : ∀ d ∈ tables_1, d.before ar Z = true) (ws : List Jvm.Cond) (a0 : Addr) (u_rows_a0 : Value) (u_columns_a0 : Value) (u_values_a0 : Value) (h0 : Heap) (n0 : Nat) (Z0 : n0 ≤ h0.size) (E_a0 : Exa Z h0 a0 "com/example/winnowfold/winnowfold/math/DenseMatrix") (F_rows_a0 : Fld Z h0 a0 "com/example/winnowfold/winnowfold/math/AbstractMatrix" "rows" "I" u_rows_a0) (F_columns_a0 : Fld Z h0 a0 "com/example/winnowfold/winnowfold/math/AbstractMatrix" "columns" "I" u_columns_a0) (F_values_a0 : Fld Z h0 a0 "com/example/winnowfold/winnowfold/math/DenseMatrix" "values" "[D" u_values_a0) (g_a0 : n0 ≤ a0) :
    MetFree l (⟨"com/example/winnowfold/winnowfold/math/AbstractMatrix", "<init>", "(II)V"⟩ : MethodName) (head1 (Jvm.Cond.code (⟨"com/example/winnowfold/winnowfold/math/AbstractMatrix", "<init>", "(II)V"⟩ : MethodName) prog_47_method_1_code 3 none :: ws) ({ frames := 1, cells := 0, slots := 0, locals := 12 } : Room)) (fun a U => a = #[(.ref a0), (.int (0 : Int32)), (.int (2 : Int32))] ∧ Z.Warmed39 U.vm ∧ U.heap = h0) (fun _ _ _ _ _ => True) (fun _ U o U' => ∃ v L, o = .returned v ∧ QA02 Z a0 u_rows_a0 u_columns_a0 u_values_a0 h0 n0 v U'.heap L ∧ FrameEnd U o U' L ({ frames := 1, cells := 0, slots := 0, locals := 12 } : Room).cells ({ frames := 1, cells := 0, slots := 0, locals := 12 } : Room).slots) := by
  refine MetFree.of_bodySF (plainFor_of_name pnA02) hisR ?_
  intro p e s m args below meth c s₁ Bd hml0 hP hK
  obtain ⟨rfl, hZ, hh⟩ := hP
  have hx := Bd.exec
  have hby := Bd.bytes
  have hlk := Bd.notSynchronized
  have hml : c.maxLocals = 3 := hml0
  have hown : s.vm.findClass "com/example/winnowfold/winnowfold/math/AbstractMatrix" = some m.cls := findClass_of_methodNamed Bd.named
  have hnm := (name_of_methodNamed Bd.named Bd.method).1
  have X0 : Stand p l e ({ frames := 1, cells := 0, slots := 0, locals := 12 } : Room) s m #[(.ref a0), (.int (0 : Int32)), (.int (2 : Int32))] below meth c s₁ [] 0 0 := Stand.of_body Bd
  have e0 : s₁.heap = h0 := by rw [← hh, Bd.state]; rfl
  have N0 := Fr.nil n0
  have K0 := Keep.refl h0 [a0]
  refine own_enter (Q := QA02 Z a0 u_rows_a0 u_columns_a0 u_values_a0 h0 n0) (efA02 m a0) ?_
  refine own_st (T' := s₁) (g' := (mkF m 1 #[.val (.ref a0), .val (.int (0 : Int32)), .val (.int (2 : Int32))] [(.ref a0)])) (fun t k => ?_) ?_
  · show Steps p.tables e below (s₁.setTop (mkF m 0 #[.val (.ref a0), .val (.int (0 : Int32)), .val (.int (2 : Int32))] [])) t
    refine XS.aloadN X0.here hx rfl (hb hby d2_0) rfl rfl ?_
    exact k
  obtain ⟨T1, X1, e1, st1⟩ := initO X0 hx hZ hown (hw _ (List.mem_of_getElem? (i := 11) rfl)) (hw _ (List.mem_of_getElem? (i := 12) rfl)) (hw _ (List.mem_of_getElem? (i := 13) rfl)) e0 (g := (mkF m 1 #[.val (.ref a0), .val (.int (0 : Int32)), .val (.int (2 : Int32))] [(.ref a0)])) rfl (by rw [hml]; rfl) rfl (hb hby d2_1) (by decide) (W := 0) (by show 2 * 0 + _ ≤ _; exact Nat.le_of_eq rfl) (by decide)
  refine own_st (T' := T1) (g' := (mkF m 4 #[.val (.ref a0), .val (.int (0 : Int32)), .val (.int (2 : Int32))] [])) st1 ?_
  refine own_st (T' := T1) (g' := (mkF m 29 #[.val (.ref a0), .val (.int (0 : Int32)), .val (.int (2 : Int32))] [(.int (0 : Int32)), (.ref a0)])) (fun t k => ?_) ?_
  · show Steps p.tables e below (T1.setTop (mkF m 4 #[.val (.ref a0), .val (.int (0 : Int32)), .val (.int (2 : Int32))] [])) t
    refine XS.iloadN X1.here hx rfl (hb hby d2_4) rfl ?_
    show Steps p.tables e below (T1.setTop (mkF m 5 #[.val (.ref a0), .val (.int (0 : Int32)), .val (.int (2 : Int32))] [(.int (0 : Int32))])) t
    refine XS.ifNo X1.here hx rfl (hb hby d2_5) rfl (by decide) ?_
    show Steps p.tables e below (T1.setTop (mkF m 8 #[.val (.ref a0), .val (.int (0 : Int32)), .val (.int (2 : Int32))] [])) t
    refine XS.iloadN X1.here hx rfl (hb hby d2_8) rfl ?_
    show Steps p.tables e below (T1.setTop (mkF m 9 #[.val (.ref a0), .val (.int (0 : Int32)), .val (.int (2 : Int32))] [(.int (2 : Int32))])) t
    refine XS.ifYes X1.here hx rfl (pc0 := 9) (pc' := 27) rfl (hb hby d2_9) rfl (by decide) (by decide) (by decide) ?_
    show Steps p.tables e below (T1.setTop (mkF m 27 #[.val (.ref a0), .val (.int (0 : Int32)), .val (.int (2 : Int32))] [])) t
    refine XS.aloadN X1.here hx rfl (hb hby d2_27) rfl rfl ?_
    show Steps p.tables e below (T1.setTop (mkF m 28 #[.val (.ref a0), .val (.int (0 : Int32)), .val (.int (2 : Int32))] [(.ref a0)])) t
    refine XS.iloadN X1.here hx rfl (hb hby d2_28) rfl ?_
    exact k
  obtain ⟨T2, h2, X2, e2, W2, st2⟩ := putF X1 hx hZ hown (host := "") (Or.inl (hw _ (List.mem_of_getElem? (i := 14) rfl))) Via.refl e1 F_rows_a0 E_a0 (Or.inr ⟨(hw _ (List.mem_of_getElem? (i := 15) rfl)), rfl, hnm⟩) (hw _ (List.mem_of_getElem? (i := 1) rfl)) (ty := .int) (by decide) rfl rfl (g := (mkF m 29 #[.val (.ref a0), .val (.int (0 : Int32)), .val (.int (2 : Int32))] [(.int (0 : Int32)), (.ref a0)])) rfl rfl (hb hby d2_29)
  have f3 := E_a0.wr W2
  have f4 := F_rows_a0.same W2
  have f5 := F_columns_a0.other W2 (Or.inr (slot_ne (Or.inr (hw _ (List.mem_of_getElem? (i := 17) rfl))) (Or.inr (hw _ (List.mem_of_getElem? (i := 15) rfl))) (by decide) (t := .int) (t' := .int) (by decide) (by decide)))
  have f6 := F_values_a0.other W2 (Or.inr (slot_ne (Or.inr (hw _ (List.mem_of_getElem? (i := 21) rfl))) (Or.inr (hw _ (List.mem_of_getElem? (i := 15) rfl))) (by decide) (t := (.array .double)) (t' := .int) (by decide) (by decide)))
  have z7 := Nat.le_trans Z0 (Keep.of_wr W2).1
  have k8 := K0.wr W2 (Or.inl (List.mem_of_getElem? (i := 0) rfl))
  have n9 := Fr.snoc X2 N0 g_a0
  refine own_st (T' := T2) (g' := (mkF m 32 #[.val (.ref a0), .val (.int (0 : Int32)), .val (.int (2 : Int32))] [])) st2 ?_
  refine own_st (T' := T2) (g' := (mkF m 34 #[.val (.ref a0), .val (.int (0 : Int32)), .val (.int (2 : Int32))] [(.int (2 : Int32)), (.ref a0)])) (fun t k => ?_) ?_
  · show Steps p.tables e below (T2.setTop (mkF m 32 #[.val (.ref a0), .val (.int (0 : Int32)), .val (.int (2 : Int32))] [])) t
    refine XS.aloadN X2.here hx rfl (hb hby d2_32) rfl rfl ?_
    show Steps p.tables e below (T2.setTop (mkF m 33 #[.val (.ref a0), .val (.int (0 : Int32)), .val (.int (2 : Int32))] [(.ref a0)])) t
    refine XS.iloadN X2.here hx rfl (hb hby d2_33) rfl ?_
    exact k
  obtain ⟨T10, h10, X10, e10, W10, st10⟩ := putF X2 hx hZ hown (host := "") (Or.inl (hw _ (List.mem_of_getElem? (i := 16) rfl))) Via.refl e2 f5 f3 (Or.inr ⟨(hw _ (List.mem_of_getElem? (i := 17) rfl)), rfl, hnm⟩) (hw _ (List.mem_of_getElem? (i := 1) rfl)) (ty := .int) (by decide) rfl rfl (g := (mkF m 34 #[.val (.ref a0), .val (.int (0 : Int32)), .val (.int (2 : Int32))] [(.int (2 : Int32)), (.ref a0)])) rfl rfl (hb hby d2_34)
  have f11 := f3.wr W10
  have f12 := f4.other W10 (Or.inr (slot_ne (Or.inr (hw _ (List.mem_of_getElem? (i := 15) rfl))) (Or.inr (hw _ (List.mem_of_getElem? (i := 17) rfl))) (by decide) (t := .int) (t' := .int) (by decide) (by decide)))
  have f13 := f5.same W10
  have f14 := f6.other W10 (Or.inr (slot_ne (Or.inr (hw _ (List.mem_of_getElem? (i := 21) rfl))) (Or.inr (hw _ (List.mem_of_getElem? (i := 17) rfl))) (by decide) (t := (.array .double)) (t' := .int) (by decide) (by decide)))
  have z15 := Nat.le_trans z7 (Keep.of_wr W10).1
  have k16 := k8.wr W10 (Or.inl (List.mem_of_getElem? (i := 0) rfl))
  have n17 := Fr.snoc X10 n9 g_a0
  refine own_st (T' := T10) (g' := (mkF m 37 #[.val (.ref a0), .val (.int (0 : Int32)), .val (.int (2 : Int32))] [])) st10 ?_
  refine own_retV X10 hx hlk Bd.returns (hb hby d2_37) (by decide) (by decide) ?_
  show QA02 Z a0 u_rows_a0 u_columns_a0 u_values_a0 h0 n0 none T10.heap _
  rw [(e10 : T10.heap = h10)]
  exact ⟨rfl, n17, k16, f11, f12, f13, f14⟩
theorem pnA10 : plainName "com/example/winnowfold/winnowfold/math/AbstractMatrix" = true := by first | (simp [plainName, overriddenIn]; done) | decide +kernel
theorem efA10 (m : MethodId) (a0 : Addr) : entryFrame m #[(.ref a0), (.int (1 : Int32)), (.int (0 : Int32))] 3 = mkF m 0 #[.val (.ref a0), .val (.int (1 : Int32)), .val (.int (0 : Int32))] [] := by first | (simp [entryFrame, mkF, argsToLocals, Value.category]; done) | rfl
def QA10 (Z : State) (a0 : Addr) (u_rows_a0 : Value) (u_columns_a0 : Value) (u_values_a0 : Value) (h0 : Heap) (n0 : Nat) (v : Option Value) (h : Heap) (L : List Loc) : Prop := v = none ∧ Fr n0 L ∧ Keep h0 h [a0] ∧ Exa Z h a0 "com/example/winnowfold/winnowfold/math/DenseMatrix" ∧ Fld Z h a0 "com/example/winnowfold/winnowfold/math/AbstractMatrix" "rows" "I" (.int (1 : Int32)) ∧ Fld Z h a0 "com/example/winnowfold/winnowfold/math/AbstractMatrix" "columns" "I" (.int (0 : Int32)) ∧ Fld Z h a0 "com/example/winnowfold/winnowfold/math/DenseMatrix" "values" "[D" u_values_a0
set_option maxRecDepth 65536 in
set_option maxHeartbeats 40000000 in
theorem rmA10 (l : Launch) (Z : State) (ar : Array Value) (hw : ∀ d ∈ tables_1, d.before ar Z = true) (ws : List Jvm.Cond) (a0 : Addr) (u_rows_a0 : Value) (u_columns_a0 : Value) (u_values_a0 : Value) (h0 : Heap) (n0 : Nat) (Z0 : n0 ≤ h0.size) (E_a0 : Exa Z h0 a0 "com/example/winnowfold/winnowfold/math/DenseMatrix") (F_rows_a0 : Fld Z h0 a0 "com/example/winnowfold/winnowfold/math/AbstractMatrix" "rows" "I" u_rows_a0) (F_columns_a0 : Fld Z h0 a0 "com/example/winnowfold/winnowfold/math/AbstractMatrix" "columns" "I" u_columns_a0) (F_values_a0 : Fld Z h0 a0 "com/example/winnowfold/winnowfold/math/DenseMatrix" "values" "[D" u_values_a0) (g_a0 : n0 ≤ a0) :
    MetFree l (⟨"com/example/winnowfold/winnowfold/math/AbstractMatrix", "<init>", "(II)V"⟩ : MethodName) (head1 (Jvm.Cond.code (⟨"com/example/winnowfold/winnowfold/math/AbstractMatrix", "<init>", "(II)V"⟩ : MethodName) prog_47_method_1_code 3 none :: ws) ({ frames := 1, cells := 0, slots := 0, locals := 12 } : Room)) (fun a U => a = #[(.ref a0), (.int (1 : Int32)), (.int (0 : Int32))] ∧ Z.Warmed39 U.vm ∧ U.heap = h0) (fun _ _ _ _ _ => True) (fun _ U o U' => ∃ v L, o = .returned v ∧ QA10 Z a0 u_rows_a0 u_columns_a0 u_values_a0 h0 n0 v U'.heap L ∧ FrameEnd U o U' L ({ frames := 1, cells := 0, slots := 0, locals := 12 } : Room).cells ({ frames := 1, cells := 0, slots := 0, locals := 12 } : Room).slots) := by
  refine MetFree.of_bodySF (plainFor_of_name pnA10) hisR ?_
  intro p e s m args below meth c s₁ Bd hml0 hP hK
  obtain ⟨rfl, hZ, hh⟩ := hP
  have hx := Bd.exec
  have hby := Bd.bytes
  have hlk := Bd.notSynchronized
  have hml : c.maxLocals = 3 := hml0
  have hown : s.vm.findClass "com/example/winnowfold/winnowfold/math/AbstractMatrix" = some m.cls := findClass_of_methodNamed Bd.named
  have hnm := (name_of_methodNamed Bd.named Bd.method).1
  have X0 : Stand p l e ({ frames := 1, cells := 0, slots := 0, locals := 12 } : Room) s m #[(.ref a0), (.int (1 : Int32)), (.int (0 : Int32))] below meth c s₁ [] 0 0 := Stand.of_body Bd
  have e0 : s₁.heap = h0 := by rw [← hh, Bd.state]; rfl
  have N0 := Fr.nil n0
  have K0 := Keep.refl h0 [a0]
  refine own_enter (Q := QA10 Z a0 u_rows_a0 u_columns_a0 u_values_a0 h0 n0) (efA10 m a0) ?_
  refine own_st (T' := s₁) (g' := (mkF m 1 #[.val (.ref a0), .val (.int (1 : Int32)), .val (.int (0 : Int32))] [(.ref a0)])) (fun t k => ?_) ?_
  · show Steps p.tables e below (s₁.setTop (mkF m 0 #[.val (.ref a0), .val (.int (1 : Int32)), .val (.int (0 : Int32))] [])) t
    refine XS.aloadN X0.here hx rfl (hb hby d2_0) rfl rfl ?_
    exact k
  obtain ⟨T1, X1, e1, st1⟩ := initO X0 hx hZ hown (hw _ (List.mem_of_getElem? (i := 11) rfl)) (hw _ (List.mem_of_getElem? (i := 12) rfl)) (hw _ (List.mem_of_getElem? (i := 13) rfl)) e0 (g := (mkF m 1 #[.val (.ref a0), .val (.int (1 : Int32)), .val (.int (0 : Int32))] [(.ref a0)])) rfl (by rw [hml]; rfl) rfl (hb hby d2_1) (by decide) (W := 0) (by show 2 * 0 + _ ≤ _; exact Nat.le_of_eq rfl) (by decide)
  refine own_st (T' := T1) (g' := (mkF m 4 #[.val (.ref a0), .val (.int (1 : Int32)), .val (.int (0 : Int32))] [])) st1 ?_
  refine own_st (T' := T1) (g' := (mkF m 29 #[.val (.ref a0), .val (.int (1 : Int32)), .val (.int (0 : Int32))] [(.int (1 : Int32)), (.ref a0)])) (fun t k => ?_) ?_
  · show Steps p.tables e below (T1.setTop (mkF m 4 #[.val (.ref a0), .val (.int (1 : Int32)), .val (.int (0 : Int32))] [])) t
    refine XS.iloadN X1.here hx rfl (hb hby d2_4) rfl ?_
    show Steps p.tables e below (T1.setTop (mkF m 5 #[.val (.ref a0), .val (.int (1 : Int32)), .val (.int (0 : Int32))] [(.int (1 : Int32))])) t
    refine XS.ifNo X1.here hx rfl (hb hby d2_5) rfl (by decide) ?_
    show Steps p.tables e below (T1.setTop (mkF m 8 #[.val (.ref a0), .val (.int (1 : Int32)), .val (.int (0 : Int32))] [])) t
    refine XS.iloadN X1.here hx rfl (hb hby d2_8) rfl ?_
    show Steps p.tables e below (T1.setTop (mkF m 9 #[.val (.ref a0), .val (.int (1 : Int32)), .val (.int (0 : Int32))] [(.int (0 : Int32))])) t
    refine XS.ifYes X1.here hx rfl (pc0 := 9) (pc' := 27) rfl (hb hby d2_9) rfl (by decide) (by decide) (by decide) ?_
    show Steps p.tables e below (T1.setTop (mkF m 27 #[.val (.ref a0), .val (.int (1 : Int32)), .val (.int (0 : Int32))] [])) t
    refine XS.aloadN X1.here hx rfl (hb hby d2_27) rfl rfl ?_
    show Steps p.tables e below (T1.setTop (mkF m 28 #[.val (.ref a0), .val (.int (1 : Int32)), .val (.int (0 : Int32))] [(.ref a0)])) t
    refine XS.iloadN X1.here hx rfl (hb hby d2_28) rfl ?_
    exact k
  obtain ⟨T2, h2, X2, e2, W2, st2⟩ := putF X1 hx hZ hown (host := "") (Or.inl (hw _ (List.mem_of_getElem? (i := 14) rfl))) Via.refl e1 F_rows_a0 E_a0 (Or.inr ⟨(hw _ (List.mem_of_getElem? (i := 15) rfl)), rfl, hnm⟩) (hw _ (List.mem_of_getElem? (i := 1) rfl)) (ty := .int) (by decide) rfl rfl (g := (mkF m 29 #[.val (.ref a0), .val (.int (1 : Int32)), .val (.int (0 : Int32))] [(.int (1 : Int32)), (.ref a0)])) rfl rfl (hb hby d2_29)
  have f3 := E_a0.wr W2
  have f4 := F_rows_a0.same W2
  have f5 := F_columns_a0.other W2 (Or.inr (slot_ne (Or.inr (hw _ (List.mem_of_getElem? (i := 17) rfl))) (Or.inr (hw _ (List.mem_of_getElem? (i := 15) rfl))) (by decide) (t := .int) (t' := .int) (by decide) (by decide)))
  have f6 := F_values_a0.other W2 (Or.inr (slot_ne (Or.inr (hw _ (List.mem_of_getElem? (i := 21) rfl))) (Or.inr (hw _ (List.mem_of_getElem? (i := 15) rfl))) (by decide) (t := (.array .double)) (t' := .int) (by decide) (by decide)))
  have z7 := Nat.le_trans Z0 (Keep.of_wr W2).1
  have k8 := K0.wr W2 (Or.inl (List.mem_of_getElem? (i := 0) rfl))
  have n9 := Fr.snoc X2 N0 g_a0
  refine own_st (T' := T2) (g' := (mkF m 32 #[.val (.ref a0), .val (.int (1 : Int32)), .val (.int (0 : Int32))] [])) st2 ?_
  refine own_st (T' := T2) (g' := (mkF m 34 #[.val (.ref a0), .val (.int (1 : Int32)), .val (.int (0 : Int32))] [(.int (0 : Int32)), (.ref a0)])) (fun t k => ?_) ?_
  · show Steps p.tables e below (T2.setTop (mkF m 32 #[.val (.ref a0), .val (.int (1 : Int32)), .val (.int (0 : Int32))] [])) t
    refine XS.aloadN X2.here hx rfl (hb hby d2_32) rfl rfl ?_
    show Steps p.tables e below (T2.setTop (mkF m 33 #[.val (.ref a0), .val (.int (1 : Int32)), .val (.int (0 : Int32))] [(.ref a0)])) t
    refine XS.iloadN X2.here hx rfl (hb hby d2_33) rfl ?_
    exact k
  obtain ⟨T10, h10, X10, e10, W10, st10⟩ := putF X2 hx hZ hown (host := "") (Or.inl (hw _ (List.mem_of_getElem? (i := 16) rfl))) Via.refl e2 f5 f3 (Or.inr ⟨(hw _ (List.mem_of_getElem? (i := 17) rfl)), rfl, hnm⟩) (hw _ (List.mem_of_getElem? (i := 1) rfl)) (ty := .int) (by decide) rfl rfl (g := (mkF m 34 #[.val (.ref a0), .val (.int (1 : Int32)), .val (.int (0 : Int32))] [(.int (0 : Int32)), (.ref a0)])) rfl rfl (hb hby d2_34)
  have f11 := f3.wr W10
  have f12 := f4.other W10 (Or.inr (slot_ne (Or.inr (hw _ (List.mem_of_getElem? (i := 15) rfl))) (Or.inr (hw _ (List.mem_of_getElem? (i := 17) rfl))) (by decide) (t := .int) (t' := .int) (by decide) (by decide)))
  have f13 := f5.same W10
  have f14 := f6.other W10 (Or.inr (slot_ne (Or.inr (hw _ (List.mem_of_getElem? (i := 21) rfl))) (Or.inr (hw _ (List.mem_of_getElem? (i := 17) rfl))) (by decide) (t := (.array .double)) (t' := .int) (by decide) (by decide)))
  have z15 := Nat.le_trans z7 (Keep.of_wr W10).1
  have k16 := k8.wr W10 (Or.inl (List.mem_of_getElem? (i := 0) rfl))
  have n17 := Fr.snoc X10 n9 g_a0
  refine own_st (T' := T10) (g' := (mkF m 37 #[.val (.ref a0), .val (.int (1 : Int32)), .val (.int (0 : Int32))] [])) st10 ?_
  refine own_retV X10 hx hlk Bd.returns (hb hby d2_37) (by decide) (by decide) ?_
  show QA10 Z a0 u_rows_a0 u_columns_a0 u_values_a0 h0 n0 none T10.heap _
  rw [(e10 : T10.heap = h10)]
  exact ⟨rfl, n17, k16, f11, f12, f13, f14⟩
theorem pnA11 : plainName "com/example/winnowfold/winnowfold/math/AbstractMatrix" = true := by first | (simp [plainName, overriddenIn]; done) | decide +kernel
theorem efA11 (m : MethodId) (a0 : Addr) : entryFrame m #[(.ref a0), (.int (1 : Int32)), (.int (1 : Int32))] 3 = mkF m 0 #[.val (.ref a0), .val (.int (1 : Int32)), .val (.int (1 : Int32))] [] := by first | (simp [entryFrame, mkF, argsToLocals, Value.category]; done) | rfl
def QA11 (Z : State) (a0 : Addr) (u_rows_a0 : Value) (u_columns_a0 : Value) (u_values_a0 : Value) (h0 : Heap) (n0 : Nat) (v : Option Value) (h : Heap) (L : List Loc) : Prop := v = none ∧ Fr n0 L ∧ Keep h0 h [a0] ∧ Exa Z h a0 "com/example/winnowfold/winnowfold/math/DenseMatrix" ∧ Fld Z h a0 "com/example/winnowfold/winnowfold/math/AbstractMatrix" "rows" "I" (.int (1 : Int32)) ∧ Fld Z h a0 "com/example/winnowfold/winnowfold/math/AbstractMatrix" "columns" "I" (.int (1 : Int32)) ∧ Fld Z h a0 "com/example/winnowfold/winnowfold/math/DenseMatrix" "values" "[D" u_values_a0
set_option maxRecDepth 65536 in
set_option maxHeartbeats 40000000 in
theorem rmA11 (l : Launch) (Z : State) (ar : Array Value) (hw : ∀ d ∈ tables_1, d.before ar Z = true) (ws : List Jvm.Cond) (a0 : Addr) (u_rows_a0 : Value) (u_columns_a0 : Value) (u_values_a0 : Value) (h0 : Heap) (n0 : Nat) (Z0 : n0 ≤ h0.size) (E_a0 : Exa Z h0 a0 "com/example/winnowfold/winnowfold/math/DenseMatrix") (F_rows_a0 : Fld Z h0 a0 "com/example/winnowfold/winnowfold/math/AbstractMatrix" "rows" "I" u_rows_a0) (F_columns_a0 : Fld Z h0 a0 "com/example/winnowfold/winnowfold/math/AbstractMatrix" "columns" "I" u_columns_a0) (F_values_a0 : Fld Z h0 a0 "com/example/winnowfold/winnowfold/math/DenseMatrix" "values" "[D" u_values_a0) (g_a0 : n0 ≤ a0) :
    MetFree l (⟨"com/example/winnowfold/winnowfold/math/AbstractMatrix", "<init>", "(II)V"⟩ : MethodName) (head1 (Jvm.Cond.code (⟨"com/example/winnowfold/winnowfold/math/AbstractMatrix", "<init>", "(II)V"⟩ : MethodName) prog_47_method_1_code 3 none :: ws) ({ frames := 1, cells := 0, slots := 0, locals := 12 } : Room)) (fun a U => a = #[(.ref a0), (.int (1 : Int32)), (.int (1 : Int32))] ∧ Z.Warmed39 U.vm ∧ U.heap = h0) (fun _ _ _ _ _ => True) (fun _ U o U' => ∃ v L, o = .returned v ∧ QA11 Z a0 u_rows_a0 u_columns_a0 u_values_a0 h0 n0 v U'.heap L ∧ FrameEnd U o U' L ({ frames := 1, cells := 0, slots := 0, locals := 12 } : Room).cells ({ frames := 1, cells := 0, slots := 0, locals := 12 } : Room).slots) := by
  refine MetFree.of_bodySF (plainFor_of_name pnA11) hisR ?_
  intro p e s m args below meth c s₁ Bd hml0 hP hK
  obtain ⟨rfl, hZ, hh⟩ := hP
  have hx := Bd.exec
  have hby := Bd.bytes
  have hlk := Bd.notSynchronized
  have hml : c.maxLocals = 3 := hml0
  have hown : s.vm.findClass "com/example/winnowfold/winnowfold/math/AbstractMatrix" = some m.cls := findClass_of_methodNamed Bd.named
  have hnm := (name_of_methodNamed Bd.named Bd.method).1
  have X0 : Stand p l e ({ frames := 1, cells := 0, slots := 0, locals := 12 } : Room) s m #[(.ref a0), (.int (1 : Int32)), (.int (1 : Int32))] below meth c s₁ [] 0 0 := Stand.of_body Bd
  have e0 : s₁.heap = h0 := by rw [← hh, Bd.state]; rfl
  have N0 := Fr.nil n0
  have K0 := Keep.refl h0 [a0]
  refine own_enter (Q := QA11 Z a0 u_rows_a0 u_columns_a0 u_values_a0 h0 n0) (efA11 m a0) ?_
  refine own_st (T' := s₁) (g' := (mkF m 1 #[.val (.ref a0), .val (.int (1 : Int32)), .val (.int (1 : Int32))] [(.ref a0)])) (fun t k => ?_) ?_
  · show Steps p.tables e below (s₁.setTop (mkF m 0 #[.val (.ref a0), .val (.int (1 : Int32)), .val (.int (1 : Int32))] [])) t
    refine XS.aloadN X0.here hx rfl (hb hby d2_0) rfl rfl ?_
    exact k
  obtain ⟨T1, X1, e1, st1⟩ := initO X0 hx hZ hown (hw _ (List.mem_of_getElem? (i := 11) rfl)) (hw _ (List.mem_of_getElem? (i := 12) rfl)) (hw _ (List.mem_of_getElem? (i := 13) rfl)) e0 (g := (mkF m 1 #[.val (.ref a0), .val (.int (1 : Int32)), .val (.int (1 : Int32))] [(.ref a0)])) rfl (by rw [hml]; rfl) rfl (hb hby d2_1) (by decide) (W := 0) (by show 2 * 0 + _ ≤ _; exact Nat.le_of_eq rfl) (by decide)
  refine own_st (T' := T1) (g' := (mkF m 4 #[.val (.ref a0), .val (.int (1 : Int32)), .val (.int (1 : Int32))] [])) st1 ?_
  refine own_st (T' := T1) (g' := (mkF m 29 #[.val (.ref a0), .val (.int (1 : Int32)), .val (.int (1 : Int32))] [(.int (1 : Int32)), (.ref a0)])) (fun t k => ?_) ?_
  · show Steps p.tables e below (T1.setTop (mkF m 4 #[.val (.ref a0), .val (.int (1 : Int32)), .val (.int (1 : Int32))] [])) t
    refine XS.iloadN X1.here hx rfl (hb hby d2_4) rfl ?_
    show Steps p.tables e below (T1.setTop (mkF m 5 #[.val (.ref a0), .val (.int (1 : Int32)), .val (.int (1 : Int32))] [(.int (1 : Int32))])) t
    refine XS.ifNo X1.here hx rfl (hb hby d2_5) rfl (by decide) ?_
    show Steps p.tables e below (T1.setTop (mkF m 8 #[.val (.ref a0), .val (.int (1 : Int32)), .val (.int (1 : Int32))] [])) t
    refine XS.iloadN X1.here hx rfl (hb hby d2_8) rfl ?_
    show Steps p.tables e below (T1.setTop (mkF m 9 #[.val (.ref a0), .val (.int (1 : Int32)), .val (.int (1 : Int32))] [(.int (1 : Int32))])) t
    refine XS.ifYes X1.here hx rfl (pc0 := 9) (pc' := 27) rfl (hb hby d2_9) rfl (by decide) (by decide) (by decide) ?_
    show Steps p.tables e below (T1.setTop (mkF m 27 #[.val (.ref a0), .val (.int (1 : Int32)), .val (.int (1 : Int32))] [])) t
    refine XS.aloadN X1.here hx rfl (hb hby d2_27) rfl rfl ?_
    show Steps p.tables e below (T1.setTop (mkF m 28 #[.val (.ref a0), .val (.int (1 : Int32)), .val (.int (1 : Int32))] [(.ref a0)])) t
    refine XS.iloadN X1.here hx rfl (hb hby d2_28) rfl ?_
    exact k
  obtain ⟨T2, h2, X2, e2, W2, st2⟩ := putF X1 hx hZ hown (host := "") (Or.inl (hw _ (List.mem_of_getElem? (i := 14) rfl))) Via.refl e1 F_rows_a0 E_a0 (Or.inr ⟨(hw _ (List.mem_of_getElem? (i := 15) rfl)), rfl, hnm⟩) (hw _ (List.mem_of_getElem? (i := 1) rfl)) (ty := .int) (by decide) rfl rfl (g := (mkF m 29 #[.val (.ref a0), .val (.int (1 : Int32)), .val (.int (1 : Int32))] [(.int (1 : Int32)), (.ref a0)])) rfl rfl (hb hby d2_29)
  have f3 := E_a0.wr W2
  have f4 := F_rows_a0.same W2
  have f5 := F_columns_a0.other W2 (Or.inr (slot_ne (Or.inr (hw _ (List.mem_of_getElem? (i := 17) rfl))) (Or.inr (hw _ (List.mem_of_getElem? (i := 15) rfl))) (by decide) (t := .int) (t' := .int) (by decide) (by decide)))
  have f6 := F_values_a0.other W2 (Or.inr (slot_ne (Or.inr (hw _ (List.mem_of_getElem? (i := 21) rfl))) (Or.inr (hw _ (List.mem_of_getElem? (i := 15) rfl))) (by decide) (t := (.array .double)) (t' := .int) (by decide) (by decide)))
  have z7 := Nat.le_trans Z0 (Keep.of_wr W2).1
  have k8 := K0.wr W2 (Or.inl (List.mem_of_getElem? (i := 0) rfl))
  have n9 := Fr.snoc X2 N0 g_a0
  refine own_st (T' := T2) (g' := (mkF m 32 #[.val (.ref a0), .val (.int (1 : Int32)), .val (.int (1 : Int32))] [])) st2 ?_
  refine own_st (T' := T2) (g' := (mkF m 34 #[.val (.ref a0), .val (.int (1 : Int32)), .val (.int (1 : Int32))] [(.int (1 : Int32)), (.ref a0)])) (fun t k => ?_) ?_
  · show Steps p.tables e below (T2.setTop (mkF m 32 #[.val (.ref a0), .val (.int (1 : Int32)), .val (.int (1 : Int32))] [])) t
    refine XS.aloadN X2.here hx rfl (hb hby d2_32) rfl rfl ?_
    show Steps p.tables e below (T2.setTop (mkF m 33 #[.val (.ref a0), .val (.int (1 : Int32)), .val (.int (1 : Int32))] [(.ref a0)])) t
    refine XS.iloadN X2.here hx rfl (hb hby d2_33) rfl ?_
    exact k
  obtain ⟨T10, h10, X10, e10, W10, st10⟩ := putF X2 hx hZ hown (host := "") (Or.inl (hw _ (List.mem_of_getElem? (i := 16) rfl))) Via.refl e2 f5 f3 (Or.inr ⟨(hw _ (List.mem_of_getElem? (i := 17) rfl)), rfl, hnm⟩) (hw _ (List.mem_of_getElem? (i := 1) rfl)) (ty := .int) (by decide) rfl rfl (g := (mkF m 34 #[.val (.ref a0), .val (.int (1 : Int32)), .val (.int (1 : Int32))] [(.int (1 : Int32)), (.ref a0)])) rfl rfl (hb hby d2_34)
  have f11 := f3.wr W10
  have f12 := f4.other W10 (Or.inr (slot_ne (Or.inr (hw _ (List.mem_of_getElem? (i := 15) rfl))) (Or.inr (hw _ (List.mem_of_getElem? (i := 17) rfl))) (by decide) (t := .int) (t' := .int) (by decide) (by decide)))
  have f13 := f5.same W10
  have f14 := f6.other W10 (Or.inr (slot_ne (Or.inr (hw _ (List.mem_of_getElem? (i := 21) rfl))) (Or.inr (hw _ (List.mem_of_getElem? (i := 17) rfl))) (by decide) (t := (.array .double)) (t' := .int) (by decide) (by decide)))
  have z15 := Nat.le_trans z7 (Keep.of_wr W10).1
  have k16 := k8.wr W10 (Or.inl (List.mem_of_getElem? (i := 0) rfl))
  have n17 := Fr.snoc X10 n9 g_a0
  refine own_st (T' := T10) (g' := (mkF m 37 #[.val (.ref a0), .val (.int (1 : Int32)), .val (.int (1 : Int32))] [])) st10 ?_
  refine own_retV X10 hx hlk Bd.returns (hb hby d2_37) (by decide) (by decide) ?_
  show QA11 Z a0 u_rows_a0 u_columns_a0 u_values_a0 h0 n0 none T10.heap _
  rw [(e10 : T10.heap = h10)]
  exact ⟨rfl, n17, k16, f11, f12, f13, f14⟩
theorem pnA12 : plainName "com/example/winnowfold/winnowfold/math/AbstractMatrix" = true := by first | (simp [plainName, overriddenIn]; done) | decide +kernel
theorem efA12 (m : MethodId) (a0 : Addr) : entryFrame m #[(.ref a0), (.int (1 : Int32)), (.int (2 : Int32))] 3 = mkF m 0 #[.val (.ref a0), .val (.int (1 : Int32)), .val (.int (2 : Int32))] [] := by first | (simp [entryFrame, mkF, argsToLocals, Value.category]; done) | rfl
def QA12 (Z : State) (a0 : Addr) (u_rows_a0 : Value) (u_columns_a0 : Value) (u_values_a0 : Value) (h0 : Heap) (n0 : Nat) (v : Option Value) (h : Heap) (L : List Loc) : Prop := v = none ∧ Fr n0 L ∧ Keep h0 h [a0] ∧ Exa Z h a0 "com/example/winnowfold/winnowfold/math/DenseMatrix" ∧ Fld Z h a0 "com/example/winnowfold/winnowfold/math/AbstractMatrix" "rows" "I" (.int (1 : Int32)) ∧ Fld Z h a0 "com/example/winnowfold/winnowfold/math/AbstractMatrix" "columns" "I" (.int (2 : Int32)) ∧ Fld Z h a0 "com/example/winnowfold/winnowfold/math/DenseMatrix" "values" "[D" u_values_a0
set_option maxRecDepth 65536 in
set_option maxHeartbeats 40000000 in
theorem rmA12 (l : Launch) (Z : State) (ar : Array Value) (hw : ∀ d ∈ tables_1, d.before ar Z = true) (ws : List Jvm.Cond) (a0 : Addr) (u_rows_a0 : Value) (u_columns_a0 : Value) (u_values_a0 : Value) (h0 : Heap) (n0 : Nat) (Z0 : n0 ≤ h0.size) (E_a0 : Exa Z h0 a0 "com/example/winnowfold/winnowfold/math/DenseMatrix") (F_rows_a0 : Fld Z h0 a0 "com/example/winnowfold/winnowfold/math/AbstractMatrix" "rows" "I" u_rows_a0) (F_columns_a0 : Fld Z h0 a0 "com/example/winnowfold/winnowfold/math/AbstractMatrix" "columns" "I" u_columns_a0) (F_values_a0 : Fld Z h0 a0 "com/example/winnowfold/winnowfold/math/DenseMatrix" "values" "[D" u_values_a0) (g_a0 : n0 ≤ a0) :
    MetFree l (⟨"com/example/winnowfold/winnowfold/math/AbstractMatrix", "<init>", "(II)V"⟩ : MethodName) (head1 (Jvm.Cond.code (⟨"com/example/winnowfold/winnowfold/math/AbstractMatrix", "<init>", "(II)V"⟩ : MethodName) prog_47_method_1_code 3 none :: ws) ({ frames := 1, cells := 0, slots := 0, locals := 12 } : Room)) (fun a U => a = #[(.ref a0), (.int (1 : Int32)), (.int (2 : Int32))] ∧ Z.Warmed39 U.vm ∧ U.heap = h0) (fun _ _ _ _ _ => True) (fun _ U o U' => ∃ v L, o = .returned v ∧ QA12 Z a0 u_rows_a0 u_columns_a0 u_values_a0 h0 n0 v U'.heap L ∧ FrameEnd U o U' L ({ frames := 1, cells := 0, slots := 0, locals := 12 } : Room).cells ({ frames := 1, cells := 0, slots := 0, locals := 12 } : Room).slots) := by
  refine MetFree.of_bodySF (plainFor_of_name pnA12) hisR ?_
  intro p e s m args below meth c s₁ Bd hml0 hP hK
  obtain ⟨rfl, hZ, hh⟩ := hP
  have hx := Bd.exec
  have hby := Bd.bytes
  have hlk := Bd.notSynchronized
  have hml : c.maxLocals = 3 := hml0
  have hown : s.vm.findClass "com/example/winnowfold/winnowfold/math/AbstractMatrix" = some m.cls := findClass_of_methodNamed Bd.named
  have hnm := (name_of_methodNamed Bd.named Bd.method).1
  have X0 : Stand p l e ({ frames := 1, cells := 0, slots := 0, locals := 12 } : Room) s m #[(.ref a0), (.int (1 : Int32)), (.int (2 : Int32))] below meth c s₁ [] 0 0 := Stand.of_body Bd
  have e0 : s₁.heap = h0 := by rw [← hh, Bd.state]; rfl
  have N0 := Fr.nil n0
  have K0 := Keep.refl h0 [a0]
  refine own_enter (Q := QA12 Z a0 u_rows_a0 u_columns_a0 u_values_a0 h0 n0) (efA12 m a0) ?_
  refine own_st (T' := s₁) (g' := (mkF m 1 #[.val (.ref a0), .val (.int (1 : Int32)), .val (.int (2 : Int32))] [(.ref a0)])) (fun t k => ?_) ?_
  · show Steps p.tables e below (s₁.setTop (mkF m 0 #[.val (.ref a0), .val (.int (1 : Int32)), .val (.int (2 : Int32))] [])) t
    refine XS.aloadN X0.here hx rfl (hb hby d2_0) rfl rfl ?_
    exact k
  obtain ⟨T1, X1, e1, st1⟩ := initO X0 hx hZ hown (hw _ (List.mem_of_getElem? (i := 11) rfl)) (hw _ (List.mem_of_getElem? (i := 12) rfl)) (hw _ (List.mem_of_getElem? (i := 13) rfl)) e0 (g := (mkF m 1 #[.val (.ref a0), .val (.int (1 : Int32)), .val (.int (2 : Int32))] [(.ref a0)])) rfl (by rw [hml]; rfl) rfl (hb hby d2_1) (by decide) (W := 0) (by show 2 * 0 + _ ≤ _; exact Nat.le_of_eq rfl) (by decide)
  refine own_st (T' := T1) (g' := (mkF m 4 #[.val (.ref a0), .val (.int (1 : Int32)), .val (.int (2 : Int32))] [])) st1 ?_
  refine own_st (T' := T1) (g' := (mkF m 29 #[.val (.ref a0), .val (.int (1 : Int32)), .val (.int (2 : Int32))] [(.int (1 : Int32)), (.ref a0)])) (fun t k => ?_) ?_
  · show Steps p.tables e below (T1.setTop (mkF m 4 #[.val (.ref a0), .val (.int (1 : Int32)), .val (.int (2 : Int32))] [])) t
    refine XS.iloadN X1.here hx rfl (hb hby d2_4) rfl ?_
    show Steps p.tables e below (T1.setTop (mkF m 5 #[.val (.ref a0), .val (.int (1 : Int32)), .val (.int (2 : Int32))] [(.int (1 : Int32))])) t
    refine XS.ifNo X1.here hx rfl (hb hby d2_5) rfl (by decide) ?_
    show Steps p.tables e below (T1.setTop (mkF m 8 #[.val (.ref a0), .val (.int (1 : Int32)), .val (.int (2 : Int32))] [])) t
    refine XS.iloadN X1.here hx rfl (hb hby d2_8) rfl ?_
    show Steps p.tables e below (T1.setTop (mkF m 9 #[.val (.ref a0), .val (.int (1 : Int32)), .val (.int (2 : Int32))] [(.int (2 : Int32))])) t
    refine XS.ifYes X1.here hx rfl (pc0 := 9) (pc' := 27) rfl (hb hby d2_9) rfl (by decide) (by decide) (by decide) ?_
    show Steps p.tables e below (T1.setTop (mkF m 27 #[.val (.ref a0), .val (.int (1 : Int32)), .val (.int (2 : Int32))] [])) t
    refine XS.aloadN X1.here hx rfl (hb hby d2_27) rfl rfl ?_
    show Steps p.tables e below (T1.setTop (mkF m 28 #[.val (.ref a0), .val (.int (1 : Int32)), .val (.int (2 : Int32))] [(.ref a0)])) t
    refine XS.iloadN X1.here hx rfl (hb hby d2_28) rfl ?_
    exact k
  obtain ⟨T2, h2, X2, e2, W2, st2⟩ := putF X1 hx hZ hown (host := "") (Or.inl (hw _ (List.mem_of_getElem? (i := 14) rfl))) Via.refl e1 F_rows_a0 E_a0 (Or.inr ⟨(hw _ (List.mem_of_getElem? (i := 15) rfl)), rfl, hnm⟩) (hw _ (List.mem_of_getElem? (i := 1) rfl)) (ty := .int) (by decide) rfl rfl (g := (mkF m 29 #[.val (.ref a0), .val (.int (1 : Int32)), .val (.int (2 : Int32))] [(.int (1 : Int32)), (.ref a0)])) rfl rfl (hb hby d2_29)
  have f3 := E_a0.wr W2
  have f4 := F_rows_a0.same W2
  have f5 := F_columns_a0.other W2 (Or.inr (slot_ne (Or.inr (hw _ (List.mem_of_getElem? (i := 17) rfl))) (Or.inr (hw _ (List.mem_of_getElem? (i := 15) rfl))) (by decide) (t := .int) (t' := .int) (by decide) (by decide)))
  have f6 := F_values_a0.other W2 (Or.inr (slot_ne (Or.inr (hw _ (List.mem_of_getElem? (i := 21) rfl))) (Or.inr (hw _ (List.mem_of_getElem? (i := 15) rfl))) (by decide) (t := (.array .double)) (t' := .int) (by decide) (by decide)))
  have z7 := Nat.le_trans Z0 (Keep.of_wr W2).1
  have k8 := K0.wr W2 (Or.inl (List.mem_of_getElem? (i := 0) rfl))
  have n9 := Fr.snoc X2 N0 g_a0
  refine own_st (T' := T2) (g' := (mkF m 32 #[.val (.ref a0), .val (.int (1 : Int32)), .val (.int (2 : Int32))] [])) st2 ?_
  refine own_st (T' := T2) (g' := (mkF m 34 #[.val (.ref a0), .val (.int (1 : Int32)), .val (.int (2 : Int32))] [(.int (2 : Int32)), (.ref a0)])) (fun t k => ?_) ?_
  · show Steps p.tables e below (T2.setTop (mkF m 32 #[.val (.ref a0), .val (.int (1 : Int32)), .val (.int (2 : Int32))] [])) t
    refine XS.aloadN X2.here hx rfl (hb hby d2_32) rfl rfl ?_
    show Steps p.tables e below (T2.setTop (mkF m 33 #[.val (.ref a0), .val (.int (1 : Int32)), .val (.int (2 : Int32))] [(.ref a0)])) t
    refine XS.iloadN X2.here hx rfl (hb hby d2_33) rfl ?_
    exact k
  obtain ⟨T10, h10, X10, e10, W10, st10⟩ := putF X2 hx hZ hown (host := "") (Or.inl (hw _ (List.mem_of_getElem? (i := 16) rfl))) Via.refl e2 f5 f3 (Or.inr ⟨(hw _ (List.mem_of_getElem? (i := 17) rfl)), rfl, hnm⟩) (hw _ (List.mem_of_getElem? (i := 1) rfl)) (ty := .int) (by decide) rfl rfl (g := (mkF m 34 #[.val (.ref a0), .val (.int (1 : Int32)), .val (.int (2 : Int32))] [(.int (2 : Int32)), (.ref a0)])) rfl rfl (hb hby d2_34)
  have f11 := f3.wr W10
  have f12 := f4.other W10 (Or.inr (slot_ne (Or.inr (hw _ (List.mem_of_getElem? (i := 15) rfl))) (Or.inr (hw _ (List.mem_of_getElem? (i := 17) rfl))) (by decide) (t := .int) (t' := .int) (by decide) (by decide)))
  have f13 := f5.same W10
  have f14 := f6.other W10 (Or.inr (slot_ne (Or.inr (hw _ (List.mem_of_getElem? (i := 21) rfl))) (Or.inr (hw _ (List.mem_of_getElem? (i := 17) rfl))) (by decide) (t := (.array .double)) (t' := .int) (by decide) (by decide)))
  have z15 := Nat.le_trans z7 (Keep.of_wr W10).1
  have k16 := k8.wr W10 (Or.inl (List.mem_of_getElem? (i := 0) rfl))
  have n17 := Fr.snoc X10 n9 g_a0
  refine own_st (T' := T10) (g' := (mkF m 37 #[.val (.ref a0), .val (.int (1 : Int32)), .val (.int (2 : Int32))] [])) st10 ?_
  refine own_retV X10 hx hlk Bd.returns (hb hby d2_37) (by decide) (by decide) ?_
  show QA12 Z a0 u_rows_a0 u_columns_a0 u_values_a0 h0 n0 none T10.heap _
  rw [(e10 : T10.heap = h10)]
  exact ⟨rfl, n17, k16, f11, f12, f13, f14⟩
theorem pnA20 : plainName "com/example/winnowfold/winnowfold/math/AbstractMatrix" = true := by first | (simp [plainName, overriddenIn]; done) | decide +kernel
theorem efA20 (m : MethodId) (a0 : Addr) : entryFrame m #[(.ref a0), (.int (2 : Int32)), (.int (0 : Int32))] 3 = mkF m 0 #[.val (.ref a0), .val (.int (2 : Int32)), .val (.int (0 : Int32))] [] := by first | (simp [entryFrame, mkF, argsToLocals, Value.category]; done) | rfl
def QA20 (Z : State) (a0 : Addr) (u_rows_a0 : Value) (u_columns_a0 : Value) (u_values_a0 : Value) (h0 : Heap) (n0 : Nat) (v : Option Value) (h : Heap) (L : List Loc) : Prop := v = none ∧ Fr n0 L ∧ Keep h0 h [a0] ∧ Exa Z h a0 "com/example/winnowfold/winnowfold/math/DenseMatrix" ∧ Fld Z h a0 "com/example/winnowfold/winnowfold/math/AbstractMatrix" "rows" "I" (.int (2 : Int32)) ∧ Fld Z h a0 "com/example/winnowfold/winnowfold/math/AbstractMatrix" "columns" "I" (.int (0 : Int32)) ∧ Fld Z h a0 "com/example/winnowfold/winnowfold/math/DenseMatrix" "values" "[D" u_values_a0
set_option maxRecDepth 65536 in
set_option maxHeartbeats 40000000 in
theorem rmA20 (l : Launch) (Z : State) (ar : Array Value) (hw : ∀ d ∈ tables_1, d.before ar Z = true) (ws : List Jvm.Cond) (a0 : Addr) (u_rows_a0 : Value) (u_columns_a0 : Value) (u_values_a0 : Value) (h0 : Heap) (n0 : Nat) (Z0 : n0 ≤ h0.size) (E_a0 : Exa Z h0 a0 "com/example/winnowfold/winnowfold/math/DenseMatrix") (F_rows_a0 : Fld Z h0 a0 "com/example/winnowfold/winnowfold/math/AbstractMatrix" "rows" "I" u_rows_a0) (F_columns_a0 : Fld Z h0 a0 "com/example/winnowfold/winnowfold/math/AbstractMatrix" "columns" "I" u_columns_a0) (F_values_a0 : Fld Z h0 a0 "com/example/winnowfold/winnowfold/math/DenseMatrix" "values" "[D" u_values_a0) (g_a0 : n0 ≤ a0) :
    MetFree l (⟨"com/example/winnowfold/winnowfold/math/AbstractMatrix", "<init>", "(II)V"⟩ : MethodName) (head1 (Jvm.Cond.code (⟨"com/example/winnowfold/winnowfold/math/AbstractMatrix", "<init>", "(II)V"⟩ : MethodName) prog_47_method_1_code 3 none :: ws) ({ frames := 1, cells := 0, slots := 0, locals := 12 } : Room)) (fun a U => a = #[(.ref a0), (.int (2 : Int32)), (.int (0 : Int32))] ∧ Z.Warmed39 U.vm ∧ U.heap = h0) (fun _ _ _ _ _ => True) (fun _ U o U' => ∃ v L, o = .returned v ∧ QA20 Z a0 u_rows_a0 u_columns_a0 u_values_a0 h0 n0 v U'.heap L ∧ FrameEnd U o U' L ({ frames := 1, cells := 0, slots := 0, locals := 12 } : Room).cells ({ frames := 1, cells := 0, slots := 0, locals := 12 } : Room).slots) := by
  refine MetFree.of_bodySF (plainFor_of_name pnA20) hisR ?_
  intro p e s m args below meth c s₁ Bd hml0 hP hK
  obtain ⟨rfl, hZ, hh⟩ := hP
  have hx := Bd.exec
  have hby := Bd.bytes
  have hlk := Bd.notSynchronized
  have hml : c.maxLocals = 3 := hml0
  have hown : s.vm.findClass "com/example/winnowfold/winnowfold/math/AbstractMatrix" = some m.cls := findClass_of_methodNamed Bd.named
  have hnm := (name_of_methodNamed Bd.named Bd.method).1
  have X0 : Stand p l e ({ frames := 1, cells := 0, slots := 0, locals := 12 } : Room) s m #[(.ref a0), (.int (2 : Int32)), (.int (0 : Int32))] below meth c s₁ [] 0 0 := Stand.of_body Bd
  have e0 : s₁.heap = h0 := by rw [← hh, Bd.state]; rfl
  have N0 := Fr.nil n0
  have K0 := Keep.refl h0 [a0]
  refine own_enter (Q := QA20 Z a0 u_rows_a0 u_columns_a0 u_values_a0 h0 n0) (efA20 m a0) ?_
  refine own_st (T' := s₁) (g' := (mkF m 1 #[.val (.ref a0), .val (.int (2 : Int32)), .val (.int (0 : Int32))] [(.ref a0)])) (fun t k => ?_) ?_
  · show Steps p.tables e below (s₁.setTop (mkF m 0 #[.val (.ref a0), .val (.int (2 : Int32)), .val (.int (0 : Int32))] [])) t
    refine XS.aloadN X0.here hx rfl (hb hby d2_0) rfl rfl ?_
    exact k
  obtain ⟨T1, X1, e1, st1⟩ := initO X0 hx hZ hown (hw _ (List.mem_of_getElem? (i := 11) rfl)) (hw _ (List.mem_of_getElem? (i := 12) rfl)) (hw _ (List.mem_of_getElem? (i := 13) rfl)) e0 (g := (mkF m 1 #[.val (.ref a0), .val (.int (2 : Int32)), .val (.int (0 : Int32))] [(.ref a0)])) rfl (by rw [hml]; rfl) rfl (hb hby d2_1) (by decide) (W := 0) (by show 2 * 0 + _ ≤ _; exact Nat.le_of_eq rfl) (by decide)
  refine own_st (T' := T1) (g' := (mkF m 4 #[.val (.ref a0), .val (.int (2 : Int32)), .val (.int (0 : Int32))] [])) st1 ?_
  refine own_st (T' := T1) (g' := (mkF m 29 #[.val (.ref a0), .val (.int (2 : Int32)), .val (.int (0 : Int32))] [(.int (2 : Int32)), (.ref a0)])) (fun t k => ?_) ?_
  · show Steps p.tables e below (T1.setTop (mkF m 4 #[.val (.ref a0), .val (.int (2 : Int32)), .val (.int (0 : Int32))] [])) t
    refine XS.iloadN X1.here hx rfl (hb hby d2_4) rfl ?_
    show Steps p.tables e below (T1.setTop (mkF m 5 #[.val (.ref a0), .val (.int (2 : Int32)), .val (.int (0 : Int32))] [(.int (2 : Int32))])) t
    refine XS.ifNo X1.here hx rfl (hb hby d2_5) rfl (by decide) ?_
    show Steps p.tables e below (T1.setTop (mkF m 8 #[.val (.ref a0), .val (.int (2 : Int32)), .val (.int (0 : Int32))] [])) t
    refine XS.iloadN X1.here hx rfl (hb hby d2_8) rfl ?_
    show Steps p.tables e below (T1.setTop (mkF m 9 #[.val (.ref a0), .val (.int (2 : Int32)), .val (.int (0 : Int32))] [(.int (0 : Int32))])) t
    refine XS.ifYes X1.here hx rfl (pc0 := 9) (pc' := 27) rfl (hb hby d2_9) rfl (by decide) (by decide) (by decide) ?_
    show Steps p.tables e below (T1.setTop (mkF m 27 #[.val (.ref a0), .val (.int (2 : Int32)), .val (.int (0 : Int32))] [])) t
    refine XS.aloadN X1.here hx rfl (hb hby d2_27) rfl rfl ?_
    show Steps p.tables e below (T1.setTop (mkF m 28 #[.val (.ref a0), .val (.int (2 : Int32)), .val (.int (0 : Int32))] [(.ref a0)])) t
    refine XS.iloadN X1.here hx rfl (hb hby d2_28) rfl ?_
    exact k
  obtain ⟨T2, h2, X2, e2, W2, st2⟩ := putF X1 hx hZ hown (host := "") (Or.inl (hw _ (List.mem_of_getElem? (i := 14) rfl))) Via.refl e1 F_rows_a0 E_a0 (Or.inr ⟨(hw _ (List.mem_of_getElem? (i := 15) rfl)), rfl, hnm⟩) (hw _ (List.mem_of_getElem? (i := 1) rfl)) (ty := .int) (by decide) rfl rfl (g := (mkF m 29 #[.val (.ref a0), .val (.int (2 : Int32)), .val (.int (0 : Int32))] [(.int (2 : Int32)), (.ref a0)])) rfl rfl (hb hby d2_29)
  have f3 := E_a0.wr W2
  have f4 := F_rows_a0.same W2
  have f5 := F_columns_a0.other W2 (Or.inr (slot_ne (Or.inr (hw _ (List.mem_of_getElem? (i := 17) rfl))) (Or.inr (hw _ (List.mem_of_getElem? (i := 15) rfl))) (by decide) (t := .int) (t' := .int) (by decide) (by decide)))
  have f6 := F_values_a0.other W2 (Or.inr (slot_ne (Or.inr (hw _ (List.mem_of_getElem? (i := 21) rfl))) (Or.inr (hw _ (List.mem_of_getElem? (i := 15) rfl))) (by decide) (t := (.array .double)) (t' := .int) (by decide) (by decide)))
  have z7 := Nat.le_trans Z0 (Keep.of_wr W2).1
  have k8 := K0.wr W2 (Or.inl (List.mem_of_getElem? (i := 0) rfl))
  have n9 := Fr.snoc X2 N0 g_a0
  refine own_st (T' := T2) (g' := (mkF m 32 #[.val (.ref a0), .val (.int (2 : Int32)), .val (.int (0 : Int32))] [])) st2 ?_
  refine own_st (T' := T2) (g' := (mkF m 34 #[.val (.ref a0), .val (.int (2 : Int32)), .val (.int (0 : Int32))] [(.int (0 : Int32)), (.ref a0)])) (fun t k => ?_) ?_
  · show Steps p.tables e below (T2.setTop (mkF m 32 #[.val (.ref a0), .val (.int (2 : Int32)), .val (.int (0 : Int32))] [])) t
    refine XS.aloadN X2.here hx rfl (hb hby d2_32) rfl rfl ?_
    show Steps p.tables e below (T2.setTop (mkF m 33 #[.val (.ref a0), .val (.int (2 : Int32)), .val (.int (0 : Int32))] [(.ref a0)])) t
    refine XS.iloadN X2.here hx rfl (hb hby d2_33) rfl ?_
    exact k
  obtain ⟨T10, h10, X10, e10, W10, st10⟩ := putF X2 hx hZ hown (host := "") (Or.inl (hw _ (List.mem_of_getElem? (i := 16) rfl))) Via.refl e2 f5 f3 (Or.inr ⟨(hw _ (List.mem_of_getElem? (i := 17) rfl)), rfl, hnm⟩) (hw _ (List.mem_of_getElem? (i := 1) rfl)) (ty := .int) (by decide) rfl rfl (g := (mkF m 34 #[.val (.ref a0), .val (.int (2 : Int32)), .val (.int (0 : Int32))] [(.int (0 : Int32)), (.ref a0)])) rfl rfl (hb hby d2_34)
  have f11 := f3.wr W10
  have f12 := f4.other W10 (Or.inr (slot_ne (Or.inr (hw _ (List.mem_of_getElem? (i := 15) rfl))) (Or.inr (hw _ (List.mem_of_getElem? (i := 17) rfl))) (by decide) (t := .int) (t' := .int) (by decide) (by decide)))
  have f13 := f5.same W10
  have f14 := f6.other W10 (Or.inr (slot_ne (Or.inr (hw _ (List.mem_of_getElem? (i := 21) rfl))) (Or.inr (hw _ (List.mem_of_getElem? (i := 17) rfl))) (by decide) (t := (.array .double)) (t' := .int) (by decide) (by decide)))
  have z15 := Nat.le_trans z7 (Keep.of_wr W10).1
  have k16 := k8.wr W10 (Or.inl (List.mem_of_getElem? (i := 0) rfl))
  have n17 := Fr.snoc X10 n9 g_a0
  refine own_st (T' := T10) (g' := (mkF m 37 #[.val (.ref a0), .val (.int (2 : Int32)), .val (.int (0 : Int32))] [])) st10 ?_
  refine own_retV X10 hx hlk Bd.returns (hb hby d2_37) (by decide) (by decide) ?_
  show QA20 Z a0 u_rows_a0 u_columns_a0 u_values_a0 h0 n0 none T10.heap _
  rw [(e10 : T10.heap = h10)]
  exact ⟨rfl, n17, k16, f11, f12, f13, f14⟩
theorem pnA21 : plainName "com/example/winnowfold/winnowfold/math/AbstractMatrix" = true := by first | (simp [plainName, overriddenIn]; done) | decide +kernel
theorem efA21 (m : MethodId) (a0 : Addr) : entryFrame m #[(.ref a0), (.int (2 : Int32)), (.int (1 : Int32))] 3 = mkF m 0 #[.val (.ref a0), .val (.int (2 : Int32)), .val (.int (1 : Int32))] [] := by first | (simp [entryFrame, mkF, argsToLocals, Value.category]; done) | rfl
def QA21 (Z : State) (a0 : Addr) (u_rows_a0 : Value) (u_columns_a0 : Value) (u_values_a0 : Value) (h0 : Heap) (n0 : Nat) (v : Option Value) (h : Heap) (L : List Loc) : Prop := v = none ∧ Fr n0 L ∧ Keep h0 h [a0] ∧ Exa Z h a0 "com/example/winnowfold/winnowfold/math/DenseMatrix" ∧ Fld Z h a0 "com/example/winnowfold/winnowfold/math/AbstractMatrix" "rows" "I" (.int (2 : Int32)) ∧ Fld Z h a0 "com/example/winnowfold/winnowfold/math/AbstractMatrix" "columns" "I" (.int (1 : Int32)) ∧ Fld Z h a0 "com/example/winnowfold/winnowfold/math/DenseMatrix" "values" "[D" u_values_a0
set_option maxRecDepth 65536 in
set_option maxHeartbeats 40000000 in
theorem rmA21 (l : Launch) (Z : State) (ar : Array Value) (hw : ∀ d ∈ tables_1, d.before ar Z = true) (ws : List Jvm.Cond) (a0 : Addr) (u_rows_a0 : Value) (u_columns_a0 : Value) (u_values_a0 : Value) (h0 : Heap) (n0 : Nat) (Z0 : n0 ≤ h0.size) (E_a0 : Exa Z h0 a0 "com/example/winnowfold/winnowfold/math/DenseMatrix") (F_rows_a0 : Fld Z h0 a0 "com/example/winnowfold/winnowfold/math/AbstractMatrix" "rows" "I" u_rows_a0) (F_columns_a0 : Fld Z h0 a0 "com/example/winnowfold/winnowfold/math/AbstractMatrix" "columns" "I" u_columns_a0) (F_values_a0 : Fld Z h0 a0 "com/example/winnowfold/winnowfold/math/DenseMatrix" "values" "[D" u_values_a0) (g_a0 : n0 ≤ a0) :
    MetFree l (⟨"com/example/winnowfold/winnowfold/math/AbstractMatrix", "<init>", "(II)V"⟩ : MethodName) (head1 (Jvm.Cond.code (⟨"com/example/winnowfold/winnowfold/math/AbstractMatrix", "<init>", "(II)V"⟩ : MethodName) prog_47_method_1_code 3 none :: ws) ({ frames := 1, cells := 0, slots := 0, locals := 12 } : Room)) (fun a U => a = #[(.ref a0), (.int (2 : Int32)), (.int (1 : Int32))] ∧ Z.Warmed39 U.vm ∧ U.heap = h0) (fun _ _ _ _ _ => True) (fun _ U o U' => ∃ v L, o = .returned v ∧ QA21 Z a0 u_rows_a0 u_columns_a0 u_values_a0 h0 n0 v U'.heap L ∧ FrameEnd U o U' L ({ frames := 1, cells := 0, slots := 0, locals := 12 } : Room).cells ({ frames := 1, cells := 0, slots := 0, locals := 12 } : Room).slots) := by
  refine MetFree.of_bodySF (plainFor_of_name pnA21) hisR ?_
  intro p e s m args below meth c s₁ Bd hml0 hP hK
  obtain ⟨rfl, hZ, hh⟩ := hP
  have hx := Bd.exec
  have hby := Bd.bytes
  have hlk := Bd.notSynchronized
  have hml : c.maxLocals = 3 := hml0
  have hown : s.vm.findClass "com/example/winnowfold/winnowfold/math/AbstractMatrix" = some m.cls := findClass_of_methodNamed Bd.named
  have hnm := (name_of_methodNamed Bd.named Bd.method).1
  have X0 : Stand p l e ({ frames := 1, cells := 0, slots := 0, locals := 12 } : Room) s m #[(.ref a0), (.int (2 : Int32)), (.int (1 : Int32))] below meth c s₁ [] 0 0 := Stand.of_body Bd
  have e0 : s₁.heap = h0 := by rw [← hh, Bd.state]; rfl
  have N0 := Fr.nil n0
  have K0 := Keep.refl h0 [a0]
  refine own_enter (Q := QA21 Z a0 u_rows_a0 u_columns_a0 u_values_a0 h0 n0) (efA21 m a0) ?_
  refine own_st (T' := s₁) (g' := (mkF m 1 #[.val (.ref a0), .val (.int (2 : Int32)), .val (.int (1 : Int32))] [(.ref a0)])) (fun t k => ?_) ?_
  · show Steps p.tables e below (s₁.setTop (mkF m 0 #[.val (.ref a0), .val (.int (2 : Int32)), .val (.int (1 : Int32))] [])) t
    refine XS.aloadN X0.here hx rfl (hb hby d2_0) rfl rfl ?_
    exact k
  obtain ⟨T1, X1, e1, st1⟩ := initO X0 hx hZ hown (hw _ (List.mem_of_getElem? (i := 11) rfl)) (hw _ (List.mem_of_getElem? (i := 12) rfl)) (hw _ (List.mem_of_getElem? (i := 13) rfl)) e0 (g := (mkF m 1 #[.val (.ref a0), .val (.int (2 : Int32)), .val (.int (1 : Int32))] [(.ref a0)])) rfl (by rw [hml]; rfl) rfl (hb hby d2_1) (by decide) (W := 0) (by show 2 * 0 + _ ≤ _; exact Nat.le_of_eq rfl) (by decide)
  refine own_st (T' := T1) (g' := (mkF m 4 #[.val (.ref a0), .val (.int (2 : Int32)), .val (.int (1 : Int32))] [])) st1 ?_
  refine own_st (T' := T1) (g' := (mkF m 29 #[.val (.ref a0), .val (.int (2 : Int32)), .val (.int (1 : Int32))] [(.int (2 : Int32)), (.ref a0)])) (fun t k => ?_) ?_
  · show Steps p.tables e below (T1.setTop (mkF m 4 #[.val (.ref a0), .val (.int (2 : Int32)), .val (.int (1 : Int32))] [])) t
    refine XS.iloadN X1.here hx rfl (hb hby d2_4) rfl ?_
    show Steps p.tables e below (T1.setTop (mkF m 5 #[.val (.ref a0), .val (.int (2 : Int32)), .val (.int (1 : Int32))] [(.int (2 : Int32))])) t
    refine XS.ifNo X1.here hx rfl (hb hby d2_5) rfl (by decide) ?_
    show Steps p.tables e below (T1.setTop (mkF m 8 #[.val (.ref a0), .val (.int (2 : Int32)), .val (.int (1 : Int32))] [])) t
    refine XS.iloadN X1.here hx rfl (hb hby d2_8) rfl ?_
    show Steps p.tables e below (T1.setTop (mkF m 9 #[.val (.ref a0), .val (.int (2 : Int32)), .val (.int (1 : Int32))] [(.int (1 : Int32))])) t
    refine XS.ifYes X1.here hx rfl (pc0 := 9) (pc' := 27) rfl (hb hby d2_9) rfl (by decide) (by decide) (by decide) ?_
    show Steps p.tables e below (T1.setTop (mkF m 27 #[.val (.ref a0), .val (.int (2 : Int32)), .val (.int (1 : Int32))] [])) t
    refine XS.aloadN X1.here hx rfl (hb hby d2_27) rfl rfl ?_
    show Steps p.tables e below (T1.setTop (mkF m 28 #[.val (.ref a0), .val (.int (2 : Int32)), .val (.int (1 : Int32))] [(.ref a0)])) t
    refine XS.iloadN X1.here hx rfl (hb hby d2_28) rfl ?_
    exact k
  obtain ⟨T2, h2, X2, e2, W2, st2⟩ := putF X1 hx hZ hown (host := "") (Or.inl (hw _ (List.mem_of_getElem? (i := 14) rfl))) Via.refl e1 F_rows_a0 E_a0 (Or.inr ⟨(hw _ (List.mem_of_getElem? (i := 15) rfl)), rfl, hnm⟩) (hw _ (List.mem_of_getElem? (i := 1) rfl)) (ty := .int) (by decide) rfl rfl (g := (mkF m 29 #[.val (.ref a0), .val (.int (2 : Int32)), .val (.int (1 : Int32))] [(.int (2 : Int32)), (.ref a0)])) rfl rfl (hb hby d2_29)
  have f3 := E_a0.wr W2
  have f4 := F_rows_a0.same W2
  have f5 := F_columns_a0.other W2 (Or.inr (slot_ne (Or.inr (hw _ (List.mem_of_getElem? (i := 17) rfl))) (Or.inr (hw _ (List.mem_of_getElem? (i := 15) rfl))) (by decide) (t := .int) (t' := .int) (by decide) (by decide)))
  have f6 := F_values_a0.other W2 (Or.inr (slot_ne (Or.inr (hw _ (List.mem_of_getElem? (i := 21) rfl))) (Or.inr (hw _ (List.mem_of_getElem? (i := 15) rfl))) (by decide) (t := (.array .double)) (t' := .int) (by decide) (by decide)))
  have z7 := Nat.le_trans Z0 (Keep.of_wr W2).1
  have k8 := K0.wr W2 (Or.inl (List.mem_of_getElem? (i := 0) rfl))
  have n9 := Fr.snoc X2 N0 g_a0
  refine own_st (T' := T2) (g' := (mkF m 32 #[.val (.ref a0), .val (.int (2 : Int32)), .val (.int (1 : Int32))] [])) st2 ?_
  refine own_st (T' := T2) (g' := (mkF m 34 #[.val (.ref a0), .val (.int (2 : Int32)), .val (.int (1 : Int32))] [(.int (1 : Int32)), (.ref a0)])) (fun t k => ?_) ?_
  · show Steps p.tables e below (T2.setTop (mkF m 32 #[.val (.ref a0), .val (.int (2 : Int32)), .val (.int (1 : Int32))] [])) t
    refine XS.aloadN X2.here hx rfl (hb hby d2_32) rfl rfl ?_
    show Steps p.tables e below (T2.setTop (mkF m 33 #[.val (.ref a0), .val (.int (2 : Int32)), .val (.int (1 : Int32))] [(.ref a0)])) t
    refine XS.iloadN X2.here hx rfl (hb hby d2_33) rfl ?_
    exact k
  obtain ⟨T10, h10, X10, e10, W10, st10⟩ := putF X2 hx hZ hown (host := "") (Or.inl (hw _ (List.mem_of_getElem? (i := 16) rfl))) Via.refl e2 f5 f3 (Or.inr ⟨(hw _ (List.mem_of_getElem? (i := 17) rfl)), rfl, hnm⟩) (hw _ (List.mem_of_getElem? (i := 1) rfl)) (ty := .int) (by decide) rfl rfl (g := (mkF m 34 #[.val (.ref a0), .val (.int (2 : Int32)), .val (.int (1 : Int32))] [(.int (1 : Int32)), (.ref a0)])) rfl rfl (hb hby d2_34)
  have f11 := f3.wr W10
  have f12 := f4.other W10 (Or.inr (slot_ne (Or.inr (hw _ (List.mem_of_getElem? (i := 15) rfl))) (Or.inr (hw _ (List.mem_of_getElem? (i := 17) rfl))) (by decide) (t := .int) (t' := .int) (by decide) (by decide)))
  have f13 := f5.same W10
  have f14 := f6.other W10 (Or.inr (slot_ne (Or.inr (hw _ (List.mem_of_getElem? (i := 21) rfl))) (Or.inr (hw _ (List.mem_of_getElem? (i := 17) rfl))) (by decide) (t := (.array .double)) (t' := .int) (by decide) (by decide)))
  have z15 := Nat.le_trans z7 (Keep.of_wr W10).1
  have k16 := k8.wr W10 (Or.inl (List.mem_of_getElem? (i := 0) rfl))
  have n17 := Fr.snoc X10 n9 g_a0
  refine own_st (T' := T10) (g' := (mkF m 37 #[.val (.ref a0), .val (.int (2 : Int32)), .val (.int (1 : Int32))] [])) st10 ?_
  refine own_retV X10 hx hlk Bd.returns (hb hby d2_37) (by decide) (by decide) ?_
  show QA21 Z a0 u_rows_a0 u_columns_a0 u_values_a0 h0 n0 none T10.heap _
  rw [(e10 : T10.heap = h10)]
  exact ⟨rfl, n17, k16, f11, f12, f13, f14⟩
theorem pnA22 : plainName "com/example/winnowfold/winnowfold/math/AbstractMatrix" = true := by first | (simp [plainName, overriddenIn]; done) | decide +kernel
theorem efA22 (m : MethodId) (a0 : Addr) : entryFrame m #[(.ref a0), (.int (2 : Int32)), (.int (2 : Int32))] 3 = mkF m 0 #[.val (.ref a0), .val (.int (2 : Int32)), .val (.int (2 : Int32))] [] := by first | (simp [entryFrame, mkF, argsToLocals, Value.category]; done) | rfl
def QA22 (Z : State) (a0 : Addr) (u_rows_a0 : Value) (u_columns_a0 : Value) (u_values_a0 : Value) (h0 : Heap) (n0 : Nat) (v : Option Value) (h : Heap) (L : List Loc) : Prop := v = none ∧ Fr n0 L ∧ Keep h0 h [a0] ∧ Exa Z h a0 "com/example/winnowfold/winnowfold/math/DenseMatrix" ∧ Fld Z h a0 "com/example/winnowfold/winnowfold/math/AbstractMatrix" "rows" "I" (.int (2 : Int32)) ∧ Fld Z h a0 "com/example/winnowfold/winnowfold/math/AbstractMatrix" "columns" "I" (.int (2 : Int32)) ∧ Fld Z h a0 "com/example/winnowfold/winnowfold/math/DenseMatrix" "values" "[D" u_values_a0
set_option maxRecDepth 65536 in
set_option maxHeartbeats 40000000 in
theorem rmA22 (l : Launch) (Z : State) (ar : Array Value) (hw : ∀ d ∈ tables_1, d.before ar Z = true) (ws : List Jvm.Cond) (a0 : Addr) (u_rows_a0 : Value) (u_columns_a0 : Value) (u_values_a0 : Value) (h0 : Heap) (n0 : Nat) (Z0 : n0 ≤ h0.size) (E_a0 : Exa Z h0 a0 "com/example/winnowfold/winnowfold/math/DenseMatrix") (F_rows_a0 : Fld Z h0 a0 "com/example/winnowfold/winnowfold/math/AbstractMatrix" "rows" "I" u_rows_a0) (F_columns_a0 : Fld Z h0 a0 "com/example/winnowfold/winnowfold/math/AbstractMatrix" "columns" "I" u_columns_a0) (F_values_a0 : Fld Z h0 a0 "com/example/winnowfold/winnowfold/math/DenseMatrix" "values" "[D" u_values_a0) (g_a0 : n0 ≤ a0) :
    MetFree l (⟨"com/example/winnowfold/winnowfold/math/AbstractMatrix", "<init>", "(II)V"⟩ : MethodName) (head1 (Jvm.Cond.code (⟨"com/example/winnowfold/winnowfold/math/AbstractMatrix", "<init>", "(II)V"⟩ : MethodName) prog_47_method_1_code 3 none :: ws) ({ frames := 1, cells := 0, slots := 0, locals := 12 } : Room)) (fun a U => a = #[(.ref a0), (.int (2 : Int32)), (.int (2 : Int32))] ∧ Z.Warmed39 U.vm ∧ U.heap = h0) (fun _ _ _ _ _ => True) (fun _ U o U' => ∃ v L, o = .returned v ∧ QA22 Z a0 u_rows_a0 u_columns_a0 u_values_a0 h0 n0 v U'.heap L ∧ FrameEnd U o U' L ({ frames := 1, cells := 0, slots := 0, locals := 12 } : Room).cells ({ frames := 1, cells := 0, slots := 0, locals := 12 } : Room).slots) := by
  refine MetFree.of_bodySF (plainFor_of_name pnA22) hisR ?_
  intro p e s m args below meth c s₁ Bd hml0 hP hK
  obtain ⟨rfl, hZ, hh⟩ := hP
  have hx := Bd.exec
  have hby := Bd.bytes
  have hlk := Bd.notSynchronized
  have hml : c.maxLocals = 3 := hml0
  have hown : s.vm.findClass "com/example/winnowfold/winnowfold/math/AbstractMatrix" = some m.cls := findClass_of_methodNamed Bd.named
  have hnm := (name_of_methodNamed Bd.named Bd.method).1
  have X0 : Stand p l e ({ frames := 1, cells := 0, slots := 0, locals := 12 } : Room) s m #[(.ref a0), (.int (2 : Int32)), (.int (2 : Int32))] below meth c s₁ [] 0 0 := Stand.of_body Bd
  have e0 : s₁.heap = h0 := by rw [← hh, Bd.state]; rfl
  have N0 := Fr.nil n0
  have K0 := Keep.refl h0 [a0]
  refine own_enter (Q := QA22 Z a0 u_rows_a0 u_columns_a0 u_values_a0 h0 n0) (efA22 m a0) ?_
  refine own_st (T' := s₁) (g' := (mkF m 1 #[.val (.ref a0), .val (.int (2 : Int32)), .val (.int (2 : Int32))] [(.ref a0)])) (fun t k => ?_) ?_
  · show Steps p.tables e below (s₁.setTop (mkF m 0 #[.val (.ref a0), .val (.int (2 : Int32)), .val (.int (2 : Int32))] [])) t
    refine XS.aloadN X0.here hx rfl (hb hby d2_0) rfl rfl ?_
    exact k
  obtain ⟨T1, X1, e1, st1⟩ := initO X0 hx hZ hown (hw _ (List.mem_of_getElem? (i := 11) rfl)) (hw _ (List.mem_of_getElem? (i := 12) rfl)) (hw _ (List.mem_of_getElem? (i := 13) rfl)) e0 (g := (mkF m 1 #[.val (.ref a0), .val (.int (2 : Int32)), .val (.int (2 : Int32))] [(.ref a0)])) rfl (by rw [hml]; rfl) rfl (hb hby d2_1) (by decide) (W := 0) (by show 2 * 0 + _ ≤ _; exact Nat.le_of_eq rfl) (by decide)
  refine own_st (T' := T1) (g' := (mkF m 4 #[.val (.ref a0), .val (.int (2 : Int32)), .val (.int (2 : Int32))] [])) st1 ?_
  refine own_st (T' := T1) (g' := (mkF m 29 #[.val (.ref a0), .val (.int (2 : Int32)), .val (.int (2 : Int32))] [(.int (2 : Int32)), (.ref a0)])) (fun t k => ?_) ?_
  · show Steps p.tables e below (T1.setTop (mkF m 4 #[.val (.ref a0), .val (.int (2 : Int32)), .val (.int (2 : Int32))] [])) t
    refine XS.iloadN X1.here hx rfl (hb hby d2_4) rfl ?_
    show Steps p.tables e below (T1.setTop (mkF m 5 #[.val (.ref a0), .val (.int (2 : Int32)), .val (.int (2 : Int32))] [(.int (2 : Int32))])) t
    refine XS.ifNo X1.here hx rfl (hb hby d2_5) rfl (by decide) ?_
    show Steps p.tables e below (T1.setTop (mkF m 8 #[.val (.ref a0), .val (.int (2 : Int32)), .val (.int (2 : Int32))] [])) t
    refine XS.iloadN X1.here hx rfl (hb hby d2_8) rfl ?_
    show Steps p.tables e below (T1.setTop (mkF m 9 #[.val (.ref a0), .val (.int (2 : Int32)), .val (.int (2 : Int32))] [(.int (2 : Int32))])) t
    refine XS.ifYes X1.here hx rfl (pc0 := 9) (pc' := 27) rfl (hb hby d2_9) rfl (by decide) (by decide) (by decide) ?_
    show Steps p.tables e below (T1.setTop (mkF m 27 #[.val (.ref a0), .val (.int (2 : Int32)), .val (.int (2 : Int32))] [])) t
    refine XS.aloadN X1.here hx rfl (hb hby d2_27) rfl rfl ?_
    show Steps p.tables e below (T1.setTop (mkF m 28 #[.val (.ref a0), .val (.int (2 : Int32)), .val (.int (2 : Int32))] [(.ref a0)])) t
    refine XS.iloadN X1.here hx rfl (hb hby d2_28) rfl ?_
    exact k
  obtain ⟨T2, h2, X2, e2, W2, st2⟩ := putF X1 hx hZ hown (host := "") (Or.inl (hw _ (List.mem_of_getElem? (i := 14) rfl))) Via.refl e1 F_rows_a0 E_a0 (Or.inr ⟨(hw _ (List.mem_of_getElem? (i := 15) rfl)), rfl, hnm⟩) (hw _ (List.mem_of_getElem? (i := 1) rfl)) (ty := .int) (by decide) rfl rfl (g := (mkF m 29 #[.val (.ref a0), .val (.int (2 : Int32)), .val (.int (2 : Int32))] [(.int (2 : Int32)), (.ref a0)])) rfl rfl (hb hby d2_29)
  have f3 := E_a0.wr W2
  have f4 := F_rows_a0.same W2
  have f5 := F_columns_a0.other W2 (Or.inr (slot_ne (Or.inr (hw _ (List.mem_of_getElem? (i := 17) rfl))) (Or.inr (hw _ (List.mem_of_getElem? (i := 15) rfl))) (by decide) (t := .int) (t' := .int) (by decide) (by decide)))
  have f6 := F_values_a0.other W2 (Or.inr (slot_ne (Or.inr (hw _ (List.mem_of_getElem? (i := 21) rfl))) (Or.inr (hw _ (List.mem_of_getElem? (i := 15) rfl))) (by decide) (t := (.array .double)) (t' := .int) (by decide) (by decide)))
  have z7 := Nat.le_trans Z0 (Keep.of_wr W2).1
  have k8 := K0.wr W2 (Or.inl (List.mem_of_getElem? (i := 0) rfl))
  have n9 := Fr.snoc X2 N0 g_a0
  refine own_st (T' := T2) (g' := (mkF m 32 #[.val (.ref a0), .val (.int (2 : Int32)), .val (.int (2 : Int32))] [])) st2 ?_
  refine own_st (T' := T2) (g' := (mkF m 34 #[.val (.ref a0), .val (.int (2 : Int32)), .val (.int (2 : Int32))] [(.int (2 : Int32)), (.ref a0)])) (fun t k => ?_) ?_
  · show Steps p.tables e below (T2.setTop (mkF m 32 #[.val (.ref a0), .val (.int (2 : Int32)), .val (.int (2 : Int32))] [])) t
    refine XS.aloadN X2.here hx rfl (hb hby d2_32) rfl rfl ?_
    show Steps p.tables e below (T2.setTop (mkF m 33 #[.val (.ref a0), .val (.int (2 : Int32)), .val (.int (2 : Int32))] [(.ref a0)])) t
    refine XS.iloadN X2.here hx rfl (hb hby d2_33) rfl ?_
    exact k
  obtain ⟨T10, h10, X10, e10, W10, st10⟩ := putF X2 hx hZ hown (host := "") (Or.inl (hw _ (List.mem_of_getElem? (i := 16) rfl))) Via.refl e2 f5 f3 (Or.inr ⟨(hw _ (List.mem_of_getElem? (i := 17) rfl)), rfl, hnm⟩) (hw _ (List.mem_of_getElem? (i := 1) rfl)) (ty := .int) (by decide) rfl rfl (g := (mkF m 34 #[.val (.ref a0), .val (.int (2 : Int32)), .val (.int (2 : Int32))] [(.int (2 : Int32)), (.ref a0)])) rfl rfl (hb hby d2_34)
  have f11 := f3.wr W10
  have f12 := f4.other W10 (Or.inr (slot_ne (Or.inr (hw _ (List.mem_of_getElem? (i := 15) rfl))) (Or.inr (hw _ (List.mem_of_getElem? (i := 17) rfl))) (by decide) (t := .int) (t' := .int) (by decide) (by decide)))
  have f13 := f5.same W10
  have f14 := f6.other W10 (Or.inr (slot_ne (Or.inr (hw _ (List.mem_of_getElem? (i := 21) rfl))) (Or.inr (hw _ (List.mem_of_getElem? (i := 17) rfl))) (by decide) (t := (.array .double)) (t' := .int) (by decide) (by decide)))
  have z15 := Nat.le_trans z7 (Keep.of_wr W10).1
  have k16 := k8.wr W10 (Or.inl (List.mem_of_getElem? (i := 0) rfl))
  have n17 := Fr.snoc X10 n9 g_a0
  refine own_st (T' := T10) (g' := (mkF m 37 #[.val (.ref a0), .val (.int (2 : Int32)), .val (.int (2 : Int32))] [])) st10 ?_
  refine own_retV X10 hx hlk Bd.returns (hb hby d2_37) (by decide) (by decide) ?_
  show QA22 Z a0 u_rows_a0 u_columns_a0 u_values_a0 h0 n0 none T10.heap _
  rw [(e10 : T10.heap = h10)]
  exact ⟨rfl, n17, k16, f11, f12, f13, f14⟩
theorem d1_0 : decode prog_51_method_1_code 0 = .ok (.aload_n 0, 1) := by decide +kernel
theorem d1_1 : decode prog_51_method_1_code 1 = .ok (.iload_n 1, 1) := by decide +kernel
theorem d1_2 : decode prog_51_method_1_code 2 = .ok (.iload_n 2, 1) := by decide +kernel
theorem d1_3 : decode prog_51_method_1_code 3 = .ok (.invokespecial 1, 3) := by decide +kernel
theorem d1_6 : decode prog_51_method_1_code 6 = .ok (.iload_n 1, 1) := by decide +kernel
theorem d1_7 : decode prog_51_method_1_code 7 = .ok (.i2l, 1) := by decide +kernel
theorem d1_8 : decode prog_51_method_1_code 8 = .ok (.iload_n 2, 1) := by decide +kernel
theorem d1_9 : decode prog_51_method_1_code 9 = .ok (.i2l, 1) := by decide +kernel
theorem d1_10 : decode prog_51_method_1_code 10 = .ok (.lmul, 1) := by decide +kernel
theorem d1_11 : decode prog_51_method_1_code 11 = .ok (.lstore_n 3, 1) := by decide +kernel
theorem d1_12 : decode prog_51_method_1_code 12 = .ok (.lload_n 3, 1) := by decide +kernel
theorem d1_13 : decode prog_51_method_1_code 13 = .ok (.ldc2_w 9, 3) := by decide +kernel
theorem d1_16 : decode prog_51_method_1_code 16 = .ok (.lcmp, 1) := by decide +kernel
theorem d1_17 : decode prog_51_method_1_code 17 = .ok (.ifCond .le 18, 3) := by decide +kernel
theorem d1_35 : decode prog_51_method_1_code 35 = .ok (.aload_n 0, 1) := by decide +kernel
theorem d1_36 : decode prog_51_method_1_code 36 = .ok (.lload_n 3, 1) := by decide +kernel
theorem d1_37 : decode prog_51_method_1_code 37 = .ok (.l2i, 1) := by decide +kernel
theorem d1_38 : decode prog_51_method_1_code 38 = .ok (.newarray .double, 2) := by decide +kernel
theorem d1_40 : decode prog_51_method_1_code 40 = .ok (.putfield 20, 3) := by decide +kernel
theorem d1_43 : decode prog_51_method_1_code 43 = .ok (.return_, 1) := by decide +kernel
theorem pnI00 : plainName "com/example/winnowfold/winnowfold/math/DenseMatrix" = true := by first | (simp [plainName, overriddenIn]; done) | decide +kernel
theorem pdI00_0 : parseMethodDescriptor "(II)V" = some ⟨[.int, .int], none⟩ := by decide +kernel
theorem efI00 (m : MethodId) (a0 : Addr) : entryFrame m #[(.ref a0), (.int (0 : Int32)), (.int (0 : Int32))] 5 = mkF m 0 #[.val (.ref a0), .val (.int (0 : Int32)), .val (.int (0 : Int32)), .unset, .unset] [] := by first | (simp [entryFrame, mkF, argsToLocals, Value.category]; done) | rfl
def QI00 (Z : State) (a0 : Addr) (u_rows_a0 : Value) (u_columns_a0 : Value) (u_values_a0 : Value) (h0 : Heap) (n0 : Nat) (v : Option Value) (h : Heap) (L : List Loc) : Prop := ∃ (x0 : Addr) (kx_x0 : ClassId), v = none ∧ Fr n0 L ∧ Keep h0 h [a0] ∧ h0.size ≤ x0 ∧ Exa Z h a0 "com/example/winnowfold/winnowfold/math/DenseMatrix" ∧ Fld Z h a0 "com/example/winnowfold/winnowfold/math/AbstractMatrix" "rows" "I" (.int (0 : Int32)) ∧ Fld Z h a0 "com/example/winnowfold/winnowfold/math/AbstractMatrix" "columns" "I" (.int (0 : Int32)) ∧ Fld Z h a0 "com/example/winnowfold/winnowfold/math/DenseMatrix" "values" "[D" (.ref x0) ∧ Arv Z h x0 kx_x0 .double (0 : Int32) [] (.double (0 : UInt64))
set_option maxRecDepth 65536 in
set_option maxHeartbeats 40000000 in
theorem rmI00 (l : Launch) (Z : State) (ar : Array Value) (hw : ∀ d ∈ tables_1, d.before ar Z = true) (ws : List Jvm.Cond) (a0 : Addr) (u_rows_a0 : Value) (u_columns_a0 : Value) (u_values_a0 : Value) (h0 : Heap) (n0 : Nat) (Z0 : n0 ≤ h0.size) (E_a0 : Exa Z h0 a0 "com/example/winnowfold/winnowfold/math/DenseMatrix") (F_rows_a0 : Fld Z h0 a0 "com/example/winnowfold/winnowfold/math/AbstractMatrix" "rows" "I" u_rows_a0) (F_columns_a0 : Fld Z h0 a0 "com/example/winnowfold/winnowfold/math/AbstractMatrix" "columns" "I" u_columns_a0) (F_values_a0 : Fld Z h0 a0 "com/example/winnowfold/winnowfold/math/DenseMatrix" "values" "[D" u_values_a0) (g_a0 : n0 ≤ a0) :
    MetFree l (⟨"com/example/winnowfold/winnowfold/math/DenseMatrix", "<init>", "(II)V"⟩ : MethodName) (head1 (Jvm.Cond.code (⟨"com/example/winnowfold/winnowfold/math/DenseMatrix", "<init>", "(II)V"⟩ : MethodName) prog_51_method_1_code 5 none :: ws) ({ frames := 2, cells := 1, slots := 0, locals := 26 } : Room)) (fun a U => a = #[(.ref a0), (.int (0 : Int32)), (.int (0 : Int32))] ∧ Z.Warmed39 U.vm ∧ U.heap = h0) (fun _ _ _ _ _ => True) (fun _ U o U' => ∃ v L, o = .returned v ∧ QI00 Z a0 u_rows_a0 u_columns_a0 u_values_a0 h0 n0 v U'.heap L ∧ FrameEnd U o U' L ({ frames := 2, cells := 1, slots := 0, locals := 26 } : Room).cells ({ frames := 2, cells := 1, slots := 0, locals := 26 } : Room).slots) := by
  refine MetFree.of_bodySF (plainFor_of_name pnI00) hisR ?_
  intro p e s m args below meth c s₁ Bd hml0 hP hK
  obtain ⟨rfl, hZ, hh⟩ := hP
  have hx := Bd.exec
  have hby := Bd.bytes
  have hlk := Bd.notSynchronized
  have hml : c.maxLocals = 5 := hml0
  have hown : s.vm.findClass "com/example/winnowfold/winnowfold/math/DenseMatrix" = some m.cls := findClass_of_methodNamed Bd.named
  have hnm := (name_of_methodNamed Bd.named Bd.method).1
  have X0 : Stand p l e ({ frames := 2, cells := 1, slots := 0, locals := 26 } : Room) s m #[(.ref a0), (.int (0 : Int32)), (.int (0 : Int32))] below meth c s₁ [] 0 0 := Stand.of_body Bd
  have e0 : s₁.heap = h0 := by rw [← hh, Bd.state]; rfl
  have N0 := Fr.nil n0
  have K0 := Keep.refl h0 [a0]
  refine own_enter (Q := QI00 Z a0 u_rows_a0 u_columns_a0 u_values_a0 h0 n0) (efI00 m a0) ?_
  refine own_st (T' := s₁) (g' := (mkF m 3 #[.val (.ref a0), .val (.int (0 : Int32)), .val (.int (0 : Int32)), .unset, .unset] [(.int (0 : Int32)), (.int (0 : Int32)), (.ref a0)])) (fun t k => ?_) ?_
  · show Steps p.tables e below (s₁.setTop (mkF m 0 #[.val (.ref a0), .val (.int (0 : Int32)), .val (.int (0 : Int32)), .unset, .unset] [])) t
    refine XS.aloadN X0.here hx rfl (hb hby d1_0) rfl rfl ?_
    show Steps p.tables e below (s₁.setTop (mkF m 1 #[.val (.ref a0), .val (.int (0 : Int32)), .val (.int (0 : Int32)), .unset, .unset] [(.ref a0)])) t
    refine XS.iloadN X0.here hx rfl (hb hby d1_1) rfl ?_
    show Steps p.tables e below (s₁.setTop (mkF m 2 #[.val (.ref a0), .val (.int (0 : Int32)), .val (.int (0 : Int32)), .unset, .unset] [(.int (0 : Int32)), (.ref a0)])) t
    refine XS.iloadN X0.here hx rfl (hb hby d1_2) rfl ?_
    exact k
  obtain ⟨_, _, ⟨T1, L1, k1, n1⟩, -, X1, ⟨Lc1, hQ1, l1, y1, z1⟩, st1⟩ := X0.specialBack hx (y := (⟨"com/example/winnowfold/winnowfold/math/AbstractMatrix", "<init>", "(II)V"⟩ : MethodName)) rfl hown (mvT hZ (hw _ (List.mem_of_getElem? (i := 6) rfl))) (mvT hZ (hw _ (List.mem_of_getElem? (i := 7) rfl))) (mvT hZ (hw _ (List.mem_of_getElem? (i := 10) rfl))) (by decide) (backOf (W := 0) (rmA00 l Z ar hw [] a0 u_rows_a0 u_columns_a0 u_values_a0 h0 n0 Z0 E_a0 F_rows_a0 F_columns_a0 F_values_a0 g_a0) hZ (hw _ (List.mem_of_getElem? (i := 10) rfl)) (hw _ (List.mem_of_getElem? (i := 9) rfl)) (by decide) (by decide)) (g := (mkF m 3 #[.val (.ref a0), .val (.int (0 : Int32)), .val (.int (0 : Int32)), .unset, .unset] [(.int (0 : Int32)), (.int (0 : Int32)), (.ref a0)])) rfl (by rw [hml]; rfl) (Steps.refl _) (a := a0) (argsL := [(.int (0 : Int32)), (.int (0 : Int32))]) (rest := []) (lenOf pdI00_0 rfl) rfl (by show 2 * 0 + _ ≤ _; exact Nat.le_of_eq rfl) (hb hby d1_3) (fun _ _ => ⟨rfl, e0, (by decide : 0 + 0 ≤ _), (by decide : 0 + 0 ≤ _)⟩)
  dsimp only [Pt.U, Pt.locs, Pt.cells, Pt.slots] at X1 l1 y1 z1 st1 hQ1
  subst l1 y1 z1
  obtain ⟨rfl, N1q, K1, f2, f3, f4, f5⟩ := hQ1
  have n6 := Fr.app N0 N1q
  have f7 := E_a0.keep K1
  have z8 := Nat.le_trans Z0 K1.1
  have k9 := K0.trans K1 (allS (Or.inl (List.mem_of_getElem? (i := 0) rfl)) all0)
  refine own_tr (T' := T1) (g' := (mkF m 6 #[.val (.ref a0), .val (.int (0 : Int32)), .val (.int (0 : Int32)), .unset, .unset] [])) st1 ?_
  refine own_st (T' := T1) (g' := (mkF m 38 #[.val (.ref a0), .val (.int (0 : Int32)), .val (.int (0 : Int32)), .val (.long (0 : Int64)), .second] [(.int (0 : Int32)), (.ref a0)])) (fun t k => ?_) ?_
  · show Steps p.tables e below (T1.setTop (mkF m 6 #[.val (.ref a0), .val (.int (0 : Int32)), .val (.int (0 : Int32)), .unset, .unset] [])) t
    refine XS.iloadN X1.here hx rfl (hb hby d1_6) rfl ?_
    show Steps p.tables e below (T1.setTop (mkF m 7 #[.val (.ref a0), .val (.int (0 : Int32)), .val (.int (0 : Int32)), .unset, .unset] [(.int (0 : Int32))])) t
    refine XS.i2l X1.here hx rfl (hb hby d1_7) rfl ?_
    show Steps p.tables e below (T1.setTop (mkF m 8 #[.val (.ref a0), .val (.int (0 : Int32)), .val (.int (0 : Int32)), .unset, .unset] [(.long (0 : Int64))])) t
    refine XS.iloadN X1.here hx rfl (hb hby d1_8) rfl ?_
    show Steps p.tables e below (T1.setTop (mkF m 9 #[.val (.ref a0), .val (.int (0 : Int32)), .val (.int (0 : Int32)), .unset, .unset] [(.int (0 : Int32)), (.long (0 : Int64))])) t
    refine XS.i2l X1.here hx rfl (hb hby d1_9) rfl ?_
    show Steps p.tables e below (T1.setTop (mkF m 10 #[.val (.ref a0), .val (.int (0 : Int32)), .val (.int (0 : Int32)), .unset, .unset] [(.long (0 : Int64)), (.long (0 : Int64))])) t
    refine XS.lmul X1.here hx rfl (hb hby d1_10) rfl ?_
    show Steps p.tables e below (T1.setTop (mkF m 11 #[.val (.ref a0), .val (.int (0 : Int32)), .val (.int (0 : Int32)), .unset, .unset] [(.long (0 : Int64))])) t
    refine XS.lstoreN X1.here hx rfl (hb hby d1_11) rfl (l' := #[.val (.ref a0), .val (.int (0 : Int32)), .val (.int (0 : Int32)), .val (.long (0 : Int64)), .second]) rfl ?_
    show Steps p.tables e below (T1.setTop (mkF m 12 #[.val (.ref a0), .val (.int (0 : Int32)), .val (.int (0 : Int32)), .val (.long (0 : Int64)), .second] [])) t
    refine XS.lloadN X1.here hx rfl (hb hby d1_12) rfl ?_
    show Steps p.tables e below (T1.setTop (mkF m 13 #[.val (.ref a0), .val (.int (0 : Int32)), .val (.int (0 : Int32)), .val (.long (0 : Int64)), .second] [(.long (0 : Int64))])) t
    refine X1.ldc2Long hx hown (mvT hZ (hw _ (List.mem_of_getElem? (i := 18) rfl))) (g := (mkF m 13 #[.val (.ref a0), .val (.int (0 : Int32)), .val (.int (0 : Int32)), .val (.long (0 : Int64)), .second] [(.long (0 : Int64))])) rfl (hb hby d1_13) _ ?_
    show Steps p.tables e below (T1.setTop (mkF m 16 #[.val (.ref a0), .val (.int (0 : Int32)), .val (.int (0 : Int32)), .val (.long (0 : Int64)), .second] [(.long (2147483639 : Int64)), (.long (0 : Int64))])) t
    refine XS.lcmp X1.here hx rfl (hb hby d1_16) rfl ?_
    show Steps p.tables e below (T1.setTop (mkF m 17 #[.val (.ref a0), .val (.int (0 : Int32)), .val (.int (0 : Int32)), .val (.long (0 : Int64)), .second] [(.int (lcmpW (0 : Int64) (2147483639 : Int64)))])) t
    refine XS.ifYes X1.here hx rfl (pc0 := 17) (pc' := 35) rfl (hb hby d1_17) rfl (by decide) (by decide) (by decide) ?_
    show Steps p.tables e below (T1.setTop (mkF m 35 #[.val (.ref a0), .val (.int (0 : Int32)), .val (.int (0 : Int32)), .val (.long (0 : Int64)), .second] [])) t
    refine XS.aloadN X1.here hx rfl (hb hby d1_35) rfl rfl ?_
    show Steps p.tables e below (T1.setTop (mkF m 36 #[.val (.ref a0), .val (.int (0 : Int32)), .val (.int (0 : Int32)), .val (.long (0 : Int64)), .second] [(.ref a0)])) t
    refine XS.lloadN X1.here hx rfl (hb hby d1_36) rfl ?_
    show Steps p.tables e below (T1.setTop (mkF m 37 #[.val (.ref a0), .val (.int (0 : Int32)), .val (.int (0 : Int32)), .val (.long (0 : Int64)), .second] [(.long (0 : Int64)), (.ref a0)])) t
    refine XS.l2i X1.here hx rfl (hb hby d1_37) rfl ?_
    exact k
  obtain ⟨T10, h10, k10, X10, e10, E10, A10, st10⟩ := newP X1 hx hZ (hw _ (List.mem_of_getElem? (i := 19) rfl)) (rfl : T1.heap = T1.heap) (g := (mkF m 38 #[.val (.ref a0), .val (.int (0 : Int32)), .val (.int (0 : Int32)), .val (.long (0 : Int64)), .second] [(.int (0 : Int32)), (.ref a0)])) rfl (hb hby d1_38) rfl (by decide) (cap := 0) (by decide) (by decide) (by decide) (by decide)
  obtain ⟨b10, g10⟩ : ∃ z, z = T1.heap.size := ⟨_, rfl⟩
  rw [← g10] at A10 st10
  have ne_a0_b10 : a0 ≠ b10 := Nat.ne_of_lt (Nat.lt_of_lt_of_le f2.lt (Nat.le_of_eq g10.symm))
  have g_b10 : n0 ≤ b10 := Nat.le_trans z8 (Nat.le_of_eq g10.symm)
  have sz_b10 : h0.size ≤ b10 := Nat.le_trans k9.1 (Nat.le_of_eq g10.symm)
  have f11 := f2.ext E10
  have f12 := f3.ext E10
  have f13 := f4.ext E10
  have f14 := f5.ext E10
  have z15 := Nat.le_trans z8 E10.1
  have k16 := k9.ext E10
  have v17 : Arv Z h10 b10 k10 .double (0 : Int32) [] (.double (0 : UInt64)) := Arv.new A10 (by decide)
  refine own_st (T' := T10) (g' := (mkF m 40 #[.val (.ref a0), .val (.int (0 : Int32)), .val (.int (0 : Int32)), .val (.long (0 : Int64)), .second] [(.ref b10), (.ref a0)])) st10 ?_
  obtain ⟨T18, h18, X18, e18, W18, st18⟩ := putF X10 hx hZ hown (host := "") (Or.inl (hw _ (List.mem_of_getElem? (i := 20) rfl))) Via.refl e10 f14 f11 (Or.inr ⟨(hw _ (List.mem_of_getElem? (i := 21) rfl)), rfl, hnm⟩) (hw _ (List.mem_of_getElem? (i := 1) rfl)) (ty := (.array .double)) (by decide) rfl rfl (g := (mkF m 40 #[.val (.ref a0), .val (.int (0 : Int32)), .val (.int (0 : Int32)), .val (.long (0 : Int64)), .second] [(.ref b10), (.ref a0)])) rfl rfl (hb hby d1_40)
  have f19 := f11.wr W18
  have f20 := f12.other W18 (Or.inr (slot_ne (Or.inr (hw _ (List.mem_of_getElem? (i := 15) rfl))) (Or.inr (hw _ (List.mem_of_getElem? (i := 21) rfl))) (by decide) (t := .int) (t' := (.array .double)) (by decide) (by decide)))
  have f21 := f13.other W18 (Or.inr (slot_ne (Or.inr (hw _ (List.mem_of_getElem? (i := 17) rfl))) (Or.inr (hw _ (List.mem_of_getElem? (i := 21) rfl))) (by decide) (t := .int) (t' := (.array .double)) (by decide) (by decide)))
  have f22 := f14.same W18
  have f23 := v17.other W18 (Ne.symm ne_a0_b10)
  have z24 := Nat.le_trans z15 (Keep.of_wr W18).1
  have k25 := k16.wr W18 (Or.inl (List.mem_of_getElem? (i := 0) rfl))
  have n26 := Fr.snoc X18 n6 g_a0
  refine own_st (T' := T18) (g' := (mkF m 43 #[.val (.ref a0), .val (.int (0 : Int32)), .val (.int (0 : Int32)), .val (.long (0 : Int64)), .second] [])) st18 ?_
  refine own_retV X18 hx hlk Bd.returns (hb hby d1_43) (by decide) (by decide) ?_
  show QI00 Z a0 u_rows_a0 u_columns_a0 u_values_a0 h0 n0 none T18.heap _
  rw [(e18 : T18.heap = h18)]
  exact ⟨b10, k10, rfl, n26, k25, sz_b10, f19, f20, f21, f22, f23⟩
theorem pnI01 : plainName "com/example/winnowfold/winnowfold/math/DenseMatrix" = true := by first | (simp [plainName, overriddenIn]; done) | decide +kernel
theorem pdI01_0 : parseMethodDescriptor "(II)V" = some ⟨[.int, .int], none⟩ := by decide +kernel
theorem efI01 (m : MethodId) (a0 : Addr) : entryFrame m #[(.ref a0), (.int (0 : Int32)), (.int (1 : Int32))] 5 = mkF m 0 #[.val (.ref a0), .val (.int (0 : Int32)), .val (.int (1 : Int32)), .unset, .unset] [] := by first | (simp [entryFrame, mkF, argsToLocals, Value.category]; done) | rfl
def QI01 (Z : State) (a0 : Addr) (u_rows_a0 : Value) (u_columns_a0 : Value) (u_values_a0 : Value) (h0 : Heap) (n0 : Nat) (v : Option Value) (h : Heap) (L : List Loc) : Prop := ∃ (x0 : Addr) (kx_x0 : ClassId), v = none ∧ Fr n0 L ∧ Keep h0 h [a0] ∧ h0.size ≤ x0 ∧ Exa Z h a0 "com/example/winnowfold/winnowfold/math/DenseMatrix" ∧ Fld Z h a0 "com/example/winnowfold/winnowfold/math/AbstractMatrix" "rows" "I" (.int (0 : Int32)) ∧ Fld Z h a0 "com/example/winnowfold/winnowfold/math/AbstractMatrix" "columns" "I" (.int (1 : Int32)) ∧ Fld Z h a0 "com/example/winnowfold/winnowfold/math/DenseMatrix" "values" "[D" (.ref x0) ∧ Arv Z h x0 kx_x0 .double (0 : Int32) [] (.double (0 : UInt64))
set_option maxRecDepth 65536 in
set_option maxHeartbeats 40000000 in
theorem rmI01 (l : Launch) (Z : State) (ar : Array Value) (hw : ∀ d ∈ tables_1, d.before ar Z = true) (ws : List Jvm.Cond) (a0 : Addr) (u_rows_a0 : Value) (u_columns_a0 : Value) (u_values_a0 : Value) (h0 : Heap) (n0 : Nat) (Z0 : n0 ≤ h0.size) (E_a0 : Exa Z h0 a0 "com/example/winnowfold/winnowfold/math/DenseMatrix") (F_rows_a0 : Fld Z h0 a0 "com/example/winnowfold/winnowfold/math/AbstractMatrix" "rows" "I" u_rows_a0) (F_columns_a0 : Fld Z h0 a0 "com/example/winnowfold/winnowfold/math/AbstractMatrix" "columns" "I" u_columns_a0) (F_values_a0 : Fld Z h0 a0 "com/example/winnowfold/winnowfold/math/DenseMatrix" "values" "[D" u_values_a0) (g_a0 : n0 ≤ a0) :
    MetFree l (⟨"com/example/winnowfold/winnowfold/math/DenseMatrix", "<init>", "(II)V"⟩ : MethodName) (head1 (Jvm.Cond.code (⟨"com/example/winnowfold/winnowfold/math/DenseMatrix", "<init>", "(II)V"⟩ : MethodName) prog_51_method_1_code 5 none :: ws) ({ frames := 2, cells := 1, slots := 0, locals := 26 } : Room)) (fun a U => a = #[(.ref a0), (.int (0 : Int32)), (.int (1 : Int32))] ∧ Z.Warmed39 U.vm ∧ U.heap = h0) (fun _ _ _ _ _ => True) (fun _ U o U' => ∃ v L, o = .returned v ∧ QI01 Z a0 u_rows_a0 u_columns_a0 u_values_a0 h0 n0 v U'.heap L ∧ FrameEnd U o U' L ({ frames := 2, cells := 1, slots := 0, locals := 26 } : Room).cells ({ frames := 2, cells := 1, slots := 0, locals := 26 } : Room).slots) := by
  refine MetFree.of_bodySF (plainFor_of_name pnI01) hisR ?_
  intro p e s m args below meth c s₁ Bd hml0 hP hK
  obtain ⟨rfl, hZ, hh⟩ := hP
  have hx := Bd.exec
  have hby := Bd.bytes
  have hlk := Bd.notSynchronized
  have hml : c.maxLocals = 5 := hml0
  have hown : s.vm.findClass "com/example/winnowfold/winnowfold/math/DenseMatrix" = some m.cls := findClass_of_methodNamed Bd.named
  have hnm := (name_of_methodNamed Bd.named Bd.method).1
  have X0 : Stand p l e ({ frames := 2, cells := 1, slots := 0, locals := 26 } : Room) s m #[(.ref a0), (.int (0 : Int32)), (.int (1 : Int32))] below meth c s₁ [] 0 0 := Stand.of_body Bd
  have e0 : s₁.heap = h0 := by rw [← hh, Bd.state]; rfl
  have N0 := Fr.nil n0
  have K0 := Keep.refl h0 [a0]
  refine own_enter (Q := QI01 Z a0 u_rows_a0 u_columns_a0 u_values_a0 h0 n0) (efI01 m a0) ?_
  refine own_st (T' := s₁) (g' := (mkF m 3 #[.val (.ref a0), .val (.int (0 : Int32)), .val (.int (1 : Int32)), .unset, .unset] [(.int (1 : Int32)), (.int (0 : Int32)), (.ref a0)])) (fun t k => ?_) ?_
  · show Steps p.tables e below (s₁.setTop (mkF m 0 #[.val (.ref a0), .val (.int (0 : Int32)), .val (.int (1 : Int32)), .unset, .unset] [])) t
    refine XS.aloadN X0.here hx rfl (hb hby d1_0) rfl rfl ?_
    show Steps p.tables e below (s₁.setTop (mkF m 1 #[.val (.ref a0), .val (.int (0 : Int32)), .val (.int (1 : Int32)), .unset, .unset] [(.ref a0)])) t
    refine XS.iloadN X0.here hx rfl (hb hby d1_1) rfl ?_
    show Steps p.tables e below (s₁.setTop (mkF m 2 #[.val (.ref a0), .val (.int (0 : Int32)), .val (.int (1 : Int32)), .unset, .unset] [(.int (0 : Int32)), (.ref a0)])) t
    refine XS.iloadN X0.here hx rfl (hb hby d1_2) rfl ?_
    exact k
  obtain ⟨_, _, ⟨T1, L1, k1, n1⟩, -, X1, ⟨Lc1, hQ1, l1, y1, z1⟩, st1⟩ := X0.specialBack hx (y := (⟨"com/example/winnowfold/winnowfold/math/AbstractMatrix", "<init>", "(II)V"⟩ : MethodName)) rfl hown (mvT hZ (hw _ (List.mem_of_getElem? (i := 6) rfl))) (mvT hZ (hw _ (List.mem_of_getElem? (i := 7) rfl))) (mvT hZ (hw _ (List.mem_of_getElem? (i := 10) rfl))) (by decide) (backOf (W := 0) (rmA01 l Z ar hw [] a0 u_rows_a0 u_columns_a0 u_values_a0 h0 n0 Z0 E_a0 F_rows_a0 F_columns_a0 F_values_a0 g_a0) hZ (hw _ (List.mem_of_getElem? (i := 10) rfl)) (hw _ (List.mem_of_getElem? (i := 9) rfl)) (by decide) (by decide)) (g := (mkF m 3 #[.val (.ref a0), .val (.int (0 : Int32)), .val (.int (1 : Int32)), .unset, .unset] [(.int (1 : Int32)), (.int (0 : Int32)), (.ref a0)])) rfl (by rw [hml]; rfl) (Steps.refl _) (a := a0) (argsL := [(.int (0 : Int32)), (.int (1 : Int32))]) (rest := []) (lenOf pdI01_0 rfl) rfl (by show 2 * 0 + _ ≤ _; exact Nat.le_of_eq rfl) (hb hby d1_3) (fun _ _ => ⟨rfl, e0, (by decide : 0 + 0 ≤ _), (by decide : 0 + 0 ≤ _)⟩)
  dsimp only [Pt.U, Pt.locs, Pt.cells, Pt.slots] at X1 l1 y1 z1 st1 hQ1
  subst l1 y1 z1
  obtain ⟨rfl, N1q, K1, f2, f3, f4, f5⟩ := hQ1
  have n6 := Fr.app N0 N1q
  have f7 := E_a0.keep K1
  have z8 := Nat.le_trans Z0 K1.1
  have k9 := K0.trans K1 (allS (Or.inl (List.mem_of_getElem? (i := 0) rfl)) all0)
  refine own_tr (T' := T1) (g' := (mkF m 6 #[.val (.ref a0), .val (.int (0 : Int32)), .val (.int (1 : Int32)), .unset, .unset] [])) st1 ?_
  refine own_st (T' := T1) (g' := (mkF m 38 #[.val (.ref a0), .val (.int (0 : Int32)), .val (.int (1 : Int32)), .val (.long (0 : Int64)), .second] [(.int (0 : Int32)), (.ref a0)])) (fun t k => ?_) ?_
  · show Steps p.tables e below (T1.setTop (mkF m 6 #[.val (.ref a0), .val (.int (0 : Int32)), .val (.int (1 : Int32)), .unset, .unset] [])) t
    refine XS.iloadN X1.here hx rfl (hb hby d1_6) rfl ?_
    show Steps p.tables e below (T1.setTop (mkF m 7 #[.val (.ref a0), .val (.int (0 : Int32)), .val (.int (1 : Int32)), .unset, .unset] [(.int (0 : Int32))])) t
    refine XS.i2l X1.here hx rfl (hb hby d1_7) rfl ?_
    show Steps p.tables e below (T1.setTop (mkF m 8 #[.val (.ref a0), .val (.int (0 : Int32)), .val (.int (1 : Int32)), .unset, .unset] [(.long (0 : Int64))])) t
    refine XS.iloadN X1.here hx rfl (hb hby d1_8) rfl ?_
    show Steps p.tables e below (T1.setTop (mkF m 9 #[.val (.ref a0), .val (.int (0 : Int32)), .val (.int (1 : Int32)), .unset, .unset] [(.int (1 : Int32)), (.long (0 : Int64))])) t
    refine XS.i2l X1.here hx rfl (hb hby d1_9) rfl ?_
    show Steps p.tables e below (T1.setTop (mkF m 10 #[.val (.ref a0), .val (.int (0 : Int32)), .val (.int (1 : Int32)), .unset, .unset] [(.long (1 : Int64)), (.long (0 : Int64))])) t
    refine XS.lmul X1.here hx rfl (hb hby d1_10) rfl ?_
    show Steps p.tables e below (T1.setTop (mkF m 11 #[.val (.ref a0), .val (.int (0 : Int32)), .val (.int (1 : Int32)), .unset, .unset] [(.long (0 : Int64))])) t
    refine XS.lstoreN X1.here hx rfl (hb hby d1_11) rfl (l' := #[.val (.ref a0), .val (.int (0 : Int32)), .val (.int (1 : Int32)), .val (.long (0 : Int64)), .second]) rfl ?_
    show Steps p.tables e below (T1.setTop (mkF m 12 #[.val (.ref a0), .val (.int (0 : Int32)), .val (.int (1 : Int32)), .val (.long (0 : Int64)), .second] [])) t
    refine XS.lloadN X1.here hx rfl (hb hby d1_12) rfl ?_
    show Steps p.tables e below (T1.setTop (mkF m 13 #[.val (.ref a0), .val (.int (0 : Int32)), .val (.int (1 : Int32)), .val (.long (0 : Int64)), .second] [(.long (0 : Int64))])) t
    refine X1.ldc2Long hx hown (mvT hZ (hw _ (List.mem_of_getElem? (i := 18) rfl))) (g := (mkF m 13 #[.val (.ref a0), .val (.int (0 : Int32)), .val (.int (1 : Int32)), .val (.long (0 : Int64)), .second] [(.long (0 : Int64))])) rfl (hb hby d1_13) _ ?_
    show Steps p.tables e below (T1.setTop (mkF m 16 #[.val (.ref a0), .val (.int (0 : Int32)), .val (.int (1 : Int32)), .val (.long (0 : Int64)), .second] [(.long (2147483639 : Int64)), (.long (0 : Int64))])) t
    refine XS.lcmp X1.here hx rfl (hb hby d1_16) rfl ?_
    show Steps p.tables e below (T1.setTop (mkF m 17 #[.val (.ref a0), .val (.int (0 : Int32)), .val (.int (1 : Int32)), .val (.long (0 : Int64)), .second] [(.int (lcmpW (0 : Int64) (2147483639 : Int64)))])) t
    refine XS.ifYes X1.here hx rfl (pc0 := 17) (pc' := 35) rfl (hb hby d1_17) rfl (by decide) (by decide) (by decide) ?_
    show Steps p.tables e below (T1.setTop (mkF m 35 #[.val (.ref a0), .val (.int (0 : Int32)), .val (.int (1 : Int32)), .val (.long (0 : Int64)), .second] [])) t
    refine XS.aloadN X1.here hx rfl (hb hby d1_35) rfl rfl ?_
    show Steps p.tables e below (T1.setTop (mkF m 36 #[.val (.ref a0), .val (.int (0 : Int32)), .val (.int (1 : Int32)), .val (.long (0 : Int64)), .second] [(.ref a0)])) t
    refine XS.lloadN X1.here hx rfl (hb hby d1_36) rfl ?_
    show Steps p.tables e below (T1.setTop (mkF m 37 #[.val (.ref a0), .val (.int (0 : Int32)), .val (.int (1 : Int32)), .val (.long (0 : Int64)), .second] [(.long (0 : Int64)), (.ref a0)])) t
    refine XS.l2i X1.here hx rfl (hb hby d1_37) rfl ?_
    exact k
  obtain ⟨T10, h10, k10, X10, e10, E10, A10, st10⟩ := newP X1 hx hZ (hw _ (List.mem_of_getElem? (i := 19) rfl)) (rfl : T1.heap = T1.heap) (g := (mkF m 38 #[.val (.ref a0), .val (.int (0 : Int32)), .val (.int (1 : Int32)), .val (.long (0 : Int64)), .second] [(.int (0 : Int32)), (.ref a0)])) rfl (hb hby d1_38) rfl (by decide) (cap := 0) (by decide) (by decide) (by decide) (by decide)
  obtain ⟨b10, g10⟩ : ∃ z, z = T1.heap.size := ⟨_, rfl⟩
  rw [← g10] at A10 st10
  have ne_a0_b10 : a0 ≠ b10 := Nat.ne_of_lt (Nat.lt_of_lt_of_le f2.lt (Nat.le_of_eq g10.symm))
  have g_b10 : n0 ≤ b10 := Nat.le_trans z8 (Nat.le_of_eq g10.symm)
  have sz_b10 : h0.size ≤ b10 := Nat.le_trans k9.1 (Nat.le_of_eq g10.symm)
  have f11 := f2.ext E10
  have f12 := f3.ext E10
  have f13 := f4.ext E10
  have f14 := f5.ext E10
  have z15 := Nat.le_trans z8 E10.1
  have k16 := k9.ext E10
  have v17 : Arv Z h10 b10 k10 .double (0 : Int32) [] (.double (0 : UInt64)) := Arv.new A10 (by decide)
  refine own_st (T' := T10) (g' := (mkF m 40 #[.val (.ref a0), .val (.int (0 : Int32)), .val (.int (1 : Int32)), .val (.long (0 : Int64)), .second] [(.ref b10), (.ref a0)])) st10 ?_
  obtain ⟨T18, h18, X18, e18, W18, st18⟩ := putF X10 hx hZ hown (host := "") (Or.inl (hw _ (List.mem_of_getElem? (i := 20) rfl))) Via.refl e10 f14 f11 (Or.inr ⟨(hw _ (List.mem_of_getElem? (i := 21) rfl)), rfl, hnm⟩) (hw _ (List.mem_of_getElem? (i := 1) rfl)) (ty := (.array .double)) (by decide) rfl rfl (g := (mkF m 40 #[.val (.ref a0), .val (.int (0 : Int32)), .val (.int (1 : Int32)), .val (.long (0 : Int64)), .second] [(.ref b10), (.ref a0)])) rfl rfl (hb hby d1_40)
  have f19 := f11.wr W18
  have f20 := f12.other W18 (Or.inr (slot_ne (Or.inr (hw _ (List.mem_of_getElem? (i := 15) rfl))) (Or.inr (hw _ (List.mem_of_getElem? (i := 21) rfl))) (by decide) (t := .int) (t' := (.array .double)) (by decide) (by decide)))
  have f21 := f13.other W18 (Or.inr (slot_ne (Or.inr (hw _ (List.mem_of_getElem? (i := 17) rfl))) (Or.inr (hw _ (List.mem_of_getElem? (i := 21) rfl))) (by decide) (t := .int) (t' := (.array .double)) (by decide) (by decide)))
  have f22 := f14.same W18
  have f23 := v17.other W18 (Ne.symm ne_a0_b10)
  have z24 := Nat.le_trans z15 (Keep.of_wr W18).1
  have k25 := k16.wr W18 (Or.inl (List.mem_of_getElem? (i := 0) rfl))
  have n26 := Fr.snoc X18 n6 g_a0
  refine own_st (T' := T18) (g' := (mkF m 43 #[.val (.ref a0), .val (.int (0 : Int32)), .val (.int (1 : Int32)), .val (.long (0 : Int64)), .second] [])) st18 ?_
  refine own_retV X18 hx hlk Bd.returns (hb hby d1_43) (by decide) (by decide) ?_
  show QI01 Z a0 u_rows_a0 u_columns_a0 u_values_a0 h0 n0 none T18.heap _
  rw [(e18 : T18.heap = h18)]
  exact ⟨b10, k10, rfl, n26, k25, sz_b10, f19, f20, f21, f22, f23⟩
theorem pnI02 : plainName "com/example/winnowfold/winnowfold/math/DenseMatrix" = true := by first | (simp [plainName, overriddenIn]; done) | decide +kernel
theorem pdI02_0 : parseMethodDescriptor "(II)V" = some ⟨[.int, .int], none⟩ := by decide +kernel
theorem efI02 (m : MethodId) (a0 : Addr) : entryFrame m #[(.ref a0), (.int (0 : Int32)), (.int (2 : Int32))] 5 = mkF m 0 #[.val (.ref a0), .val (.int (0 : Int32)), .val (.int (2 : Int32)), .unset, .unset] [] := by first | (simp [entryFrame, mkF, argsToLocals, Value.category]; done) | rfl
def QI02 (Z : State) (a0 : Addr) (u_rows_a0 : Value) (u_columns_a0 : Value) (u_values_a0 : Value) (h0 : Heap) (n0 : Nat) (v : Option Value) (h : Heap) (L : List Loc) : Prop := ∃ (x0 : Addr) (kx_x0 : ClassId), v = none ∧ Fr n0 L ∧ Keep h0 h [a0] ∧ h0.size ≤ x0 ∧ Exa Z h a0 "com/example/winnowfold/winnowfold/math/DenseMatrix" ∧ Fld Z h a0 "com/example/winnowfold/winnowfold/math/AbstractMatrix" "rows" "I" (.int (0 : Int32)) ∧ Fld Z h a0 "com/example/winnowfold/winnowfold/math/AbstractMatrix" "columns" "I" (.int (2 : Int32)) ∧ Fld Z h a0 "com/example/winnowfold/winnowfold/math/DenseMatrix" "values" "[D" (.ref x0) ∧ Arv Z h x0 kx_x0 .double (0 : Int32) [] (.double (0 : UInt64))
set_option maxRecDepth 65536 in
set_option maxHeartbeats 40000000 in
theorem rmI02 (l : Launch) (Z : State) (ar : Array Value) (hw : ∀ d ∈ tables_1, d.before ar Z = true) (ws : List Jvm.Cond) (a0 : Addr) (u_rows_a0 : Value) (u_columns_a0 : Value) (u_values_a0 : Value) (h0 : Heap) (n0 : Nat) (Z0 : n0 ≤ h0.size) (E_a0 : Exa Z h0 a0 "com/example/winnowfold/winnowfold/math/DenseMatrix") (F_rows_a0 : Fld Z h0 a0 "com/example/winnowfold/winnowfold/math/AbstractMatrix" "rows" "I" u_rows_a0) (F_columns_a0 : Fld Z h0 a0 "com/example/winnowfold/winnowfold/math/AbstractMatrix" "columns" "I" u_columns_a0) (F_values_a0 : Fld Z h0 a0 "com/example/winnowfold/winnowfold/math/DenseMatrix" "values" "[D" u_values_a0) (g_a0 : n0 ≤ a0) :
    MetFree l (⟨"com/example/winnowfold/winnowfold/math/DenseMatrix", "<init>", "(II)V"⟩ : MethodName) (head1 (Jvm.Cond.code (⟨"com/example/winnowfold/winnowfold/math/DenseMatrix", "<init>", "(II)V"⟩ : MethodName) prog_51_method_1_code 5 none :: ws) ({ frames := 2, cells := 1, slots := 0, locals := 26 } : Room)) (fun a U => a = #[(.ref a0), (.int (0 : Int32)), (.int (2 : Int32))] ∧ Z.Warmed39 U.vm ∧ U.heap = h0) (fun _ _ _ _ _ => True) (fun _ U o U' => ∃ v L, o = .returned v ∧ QI02 Z a0 u_rows_a0 u_columns_a0 u_values_a0 h0 n0 v U'.heap L ∧ FrameEnd U o U' L ({ frames := 2, cells := 1, slots := 0, locals := 26 } : Room).cells ({ frames := 2, cells := 1, slots := 0, locals := 26 } : Room).slots) := by
  refine MetFree.of_bodySF (plainFor_of_name pnI02) hisR ?_
  intro p e s m args below meth c s₁ Bd hml0 hP hK
  obtain ⟨rfl, hZ, hh⟩ := hP
  have hx := Bd.exec
  have hby := Bd.bytes
  have hlk := Bd.notSynchronized
  have hml : c.maxLocals = 5 := hml0
  have hown : s.vm.findClass "com/example/winnowfold/winnowfold/math/DenseMatrix" = some m.cls := findClass_of_methodNamed Bd.named
  have hnm := (name_of_methodNamed Bd.named Bd.method).1
  have X0 : Stand p l e ({ frames := 2, cells := 1, slots := 0, locals := 26 } : Room) s m #[(.ref a0), (.int (0 : Int32)), (.int (2 : Int32))] below meth c s₁ [] 0 0 := Stand.of_body Bd
  have e0 : s₁.heap = h0 := by rw [← hh, Bd.state]; rfl
  have N0 := Fr.nil n0
  have K0 := Keep.refl h0 [a0]
  refine own_enter (Q := QI02 Z a0 u_rows_a0 u_columns_a0 u_values_a0 h0 n0) (efI02 m a0) ?_
  refine own_st (T' := s₁) (g' := (mkF m 3 #[.val (.ref a0), .val (.int (0 : Int32)), .val (.int (2 : Int32)), .unset, .unset] [(.int (2 : Int32)), (.int (0 : Int32)), (.ref a0)])) (fun t k => ?_) ?_
  · show Steps p.tables e below (s₁.setTop (mkF m 0 #[.val (.ref a0), .val (.int (0 : Int32)), .val (.int (2 : Int32)), .unset, .unset] [])) t
    refine XS.aloadN X0.here hx rfl (hb hby d1_0) rfl rfl ?_
    show Steps p.tables e below (s₁.setTop (mkF m 1 #[.val (.ref a0), .val (.int (0 : Int32)), .val (.int (2 : Int32)), .unset, .unset] [(.ref a0)])) t
    refine XS.iloadN X0.here hx rfl (hb hby d1_1) rfl ?_
    show Steps p.tables e below (s₁.setTop (mkF m 2 #[.val (.ref a0), .val (.int (0 : Int32)), .val (.int (2 : Int32)), .unset, .unset] [(.int (0 : Int32)), (.ref a0)])) t
    refine XS.iloadN X0.here hx rfl (hb hby d1_2) rfl ?_
    exact k
  obtain ⟨_, _, ⟨T1, L1, k1, n1⟩, -, X1, ⟨Lc1, hQ1, l1, y1, z1⟩, st1⟩ := X0.specialBack hx (y := (⟨"com/example/winnowfold/winnowfold/math/AbstractMatrix", "<init>", "(II)V"⟩ : MethodName)) rfl hown (mvT hZ (hw _ (List.mem_of_getElem? (i := 6) rfl))) (mvT hZ (hw _ (List.mem_of_getElem? (i := 7) rfl))) (mvT hZ (hw _ (List.mem_of_getElem? (i := 10) rfl))) (by decide) (backOf (W := 0) (rmA02 l Z ar hw [] a0 u_rows_a0 u_columns_a0 u_values_a0 h0 n0 Z0 E_a0 F_rows_a0 F_columns_a0 F_values_a0 g_a0) hZ (hw _ (List.mem_of_getElem? (i := 10) rfl)) (hw _ (List.mem_of_getElem? (i := 9) rfl)) (by decide) (by decide)) (g := (mkF m 3 #[.val (.ref a0), .val (.int (0 : Int32)), .val (.int (2 : Int32)), .unset, .unset] [(.int (2 : Int32)), (.int (0 : Int32)), (.ref a0)])) rfl (by rw [hml]; rfl) (Steps.refl _) (a := a0) (argsL := [(.int (0 : Int32)), (.int (2 : Int32))]) (rest := []) (lenOf pdI02_0 rfl) rfl (by show 2 * 0 + _ ≤ _; exact Nat.le_of_eq rfl) (hb hby d1_3) (fun _ _ => ⟨rfl, e0, (by decide : 0 + 0 ≤ _), (by decide : 0 + 0 ≤ _)⟩)
  dsimp only [Pt.U, Pt.locs, Pt.cells, Pt.slots] at X1 l1 y1 z1 st1 hQ1
  subst l1 y1 z1
  obtain ⟨rfl, N1q, K1, f2, f3, f4, f5⟩ := hQ1
  have n6 := Fr.app N0 N1q
  have f7 := E_a0.keep K1
  have z8 := Nat.le_trans Z0 K1.1
  have k9 := K0.trans K1 (allS (Or.inl (List.mem_of_getElem? (i := 0) rfl)) all0)
  refine own_tr (T' := T1) (g' := (mkF m 6 #[.val (.ref a0), .val (.int (0 : Int32)), .val (.int (2 : Int32)), .unset, .unset] [])) st1 ?_
  refine own_st (T' := T1) (g' := (mkF m 38 #[.val (.ref a0), .val (.int (0 : Int32)), .val (.int (2 : Int32)), .val (.long (0 : Int64)), .second] [(.int (0 : Int32)), (.ref a0)])) (fun t k => ?_) ?_
  · show Steps p.tables e below (T1.setTop (mkF m 6 #[.val (.ref a0), .val (.int (0 : Int32)), .val (.int (2 : Int32)), .unset, .unset] [])) t
    refine XS.iloadN X1.here hx rfl (hb hby d1_6) rfl ?_
    show Steps p.tables e below (T1.setTop (mkF m 7 #[.val (.ref a0), .val (.int (0 : Int32)), .val (.int (2 : Int32)), .unset, .unset] [(.int (0 : Int32))])) t
    refine XS.i2l X1.here hx rfl (hb hby d1_7) rfl ?_
    show Steps p.tables e below (T1.setTop (mkF m 8 #[.val (.ref a0), .val (.int (0 : Int32)), .val (.int (2 : Int32)), .unset, .unset] [(.long (0 : Int64))])) t
    refine XS.iloadN X1.here hx rfl (hb hby d1_8) rfl ?_
    show Steps p.tables e below (T1.setTop (mkF m 9 #[.val (.ref a0), .val (.int (0 : Int32)), .val (.int (2 : Int32)), .unset, .unset] [(.int (2 : Int32)), (.long (0 : Int64))])) t
    refine XS.i2l X1.here hx rfl (hb hby d1_9) rfl ?_
    show Steps p.tables e below (T1.setTop (mkF m 10 #[.val (.ref a0), .val (.int (0 : Int32)), .val (.int (2 : Int32)), .unset, .unset] [(.long (2 : Int64)), (.long (0 : Int64))])) t
    refine XS.lmul X1.here hx rfl (hb hby d1_10) rfl ?_
    show Steps p.tables e below (T1.setTop (mkF m 11 #[.val (.ref a0), .val (.int (0 : Int32)), .val (.int (2 : Int32)), .unset, .unset] [(.long (0 : Int64))])) t
    refine XS.lstoreN X1.here hx rfl (hb hby d1_11) rfl (l' := #[.val (.ref a0), .val (.int (0 : Int32)), .val (.int (2 : Int32)), .val (.long (0 : Int64)), .second]) rfl ?_
    show Steps p.tables e below (T1.setTop (mkF m 12 #[.val (.ref a0), .val (.int (0 : Int32)), .val (.int (2 : Int32)), .val (.long (0 : Int64)), .second] [])) t
    refine XS.lloadN X1.here hx rfl (hb hby d1_12) rfl ?_
    show Steps p.tables e below (T1.setTop (mkF m 13 #[.val (.ref a0), .val (.int (0 : Int32)), .val (.int (2 : Int32)), .val (.long (0 : Int64)), .second] [(.long (0 : Int64))])) t
    refine X1.ldc2Long hx hown (mvT hZ (hw _ (List.mem_of_getElem? (i := 18) rfl))) (g := (mkF m 13 #[.val (.ref a0), .val (.int (0 : Int32)), .val (.int (2 : Int32)), .val (.long (0 : Int64)), .second] [(.long (0 : Int64))])) rfl (hb hby d1_13) _ ?_
    show Steps p.tables e below (T1.setTop (mkF m 16 #[.val (.ref a0), .val (.int (0 : Int32)), .val (.int (2 : Int32)), .val (.long (0 : Int64)), .second] [(.long (2147483639 : Int64)), (.long (0 : Int64))])) t
    refine XS.lcmp X1.here hx rfl (hb hby d1_16) rfl ?_
    show Steps p.tables e below (T1.setTop (mkF m 17 #[.val (.ref a0), .val (.int (0 : Int32)), .val (.int (2 : Int32)), .val (.long (0 : Int64)), .second] [(.int (lcmpW (0 : Int64) (2147483639 : Int64)))])) t
    refine XS.ifYes X1.here hx rfl (pc0 := 17) (pc' := 35) rfl (hb hby d1_17) rfl (by decide) (by decide) (by decide) ?_
    show Steps p.tables e below (T1.setTop (mkF m 35 #[.val (.ref a0), .val (.int (0 : Int32)), .val (.int (2 : Int32)), .val (.long (0 : Int64)), .second] [])) t
    refine XS.aloadN X1.here hx rfl (hb hby d1_35) rfl rfl ?_
    show Steps p.tables e below (T1.setTop (mkF m 36 #[.val (.ref a0), .val (.int (0 : Int32)), .val (.int (2 : Int32)), .val (.long (0 : Int64)), .second] [(.ref a0)])) t
    refine XS.lloadN X1.here hx rfl (hb hby d1_36) rfl ?_
    show Steps p.tables e below (T1.setTop (mkF m 37 #[.val (.ref a0), .val (.int (0 : Int32)), .val (.int (2 : Int32)), .val (.long (0 : Int64)), .second] [(.long (0 : Int64)), (.ref a0)])) t
    refine XS.l2i X1.here hx rfl (hb hby d1_37) rfl ?_
    exact k
  obtain ⟨T10, h10, k10, X10, e10, E10, A10, st10⟩ := newP X1 hx hZ (hw _ (List.mem_of_getElem? (i := 19) rfl)) (rfl : T1.heap = T1.heap) (g := (mkF m 38 #[.val (.ref a0), .val (.int (0 : Int32)), .val (.int (2 : Int32)), .val (.long (0 : Int64)), .second] [(.int (0 : Int32)), (.ref a0)])) rfl (hb hby d1_38) rfl (by decide) (cap := 0) (by decide) (by decide) (by decide) (by decide)
  obtain ⟨b10, g10⟩ : ∃ z, z = T1.heap.size := ⟨_, rfl⟩
  rw [← g10] at A10 st10
  have ne_a0_b10 : a0 ≠ b10 := Nat.ne_of_lt (Nat.lt_of_lt_of_le f2.lt (Nat.le_of_eq g10.symm))
  have g_b10 : n0 ≤ b10 := Nat.le_trans z8 (Nat.le_of_eq g10.symm)
  have sz_b10 : h0.size ≤ b10 := Nat.le_trans k9.1 (Nat.le_of_eq g10.symm)
  have f11 := f2.ext E10
  have f12 := f3.ext E10
  have f13 := f4.ext E10
  have f14 := f5.ext E10
  have z15 := Nat.le_trans z8 E10.1
  have k16 := k9.ext E10
  have v17 : Arv Z h10 b10 k10 .double (0 : Int32) [] (.double (0 : UInt64)) := Arv.new A10 (by decide)
  refine own_st (T' := T10) (g' := (mkF m 40 #[.val (.ref a0), .val (.int (0 : Int32)), .val (.int (2 : Int32)), .val (.long (0 : Int64)), .second] [(.ref b10), (.ref a0)])) st10 ?_
  obtain ⟨T18, h18, X18, e18, W18, st18⟩ := putF X10 hx hZ hown (host := "") (Or.inl (hw _ (List.mem_of_getElem? (i := 20) rfl))) Via.refl e10 f14 f11 (Or.inr ⟨(hw _ (List.mem_of_getElem? (i := 21) rfl)), rfl, hnm⟩) (hw _ (List.mem_of_getElem? (i := 1) rfl)) (ty := (.array .double)) (by decide) rfl rfl (g := (mkF m 40 #[.val (.ref a0), .val (.int (0 : Int32)), .val (.int (2 : Int32)), .val (.long (0 : Int64)), .second] [(.ref b10), (.ref a0)])) rfl rfl (hb hby d1_40)
  have f19 := f11.wr W18
  have f20 := f12.other W18 (Or.inr (slot_ne (Or.inr (hw _ (List.mem_of_getElem? (i := 15) rfl))) (Or.inr (hw _ (List.mem_of_getElem? (i := 21) rfl))) (by decide) (t := .int) (t' := (.array .double)) (by decide) (by decide)))
  have f21 := f13.other W18 (Or.inr (slot_ne (Or.inr (hw _ (List.mem_of_getElem? (i := 17) rfl))) (Or.inr (hw _ (List.mem_of_getElem? (i := 21) rfl))) (by decide) (t := .int) (t' := (.array .double)) (by decide) (by decide)))
  have f22 := f14.same W18
  have f23 := v17.other W18 (Ne.symm ne_a0_b10)
  have z24 := Nat.le_trans z15 (Keep.of_wr W18).1
  have k25 := k16.wr W18 (Or.inl (List.mem_of_getElem? (i := 0) rfl))
  have n26 := Fr.snoc X18 n6 g_a0
  refine own_st (T' := T18) (g' := (mkF m 43 #[.val (.ref a0), .val (.int (0 : Int32)), .val (.int (2 : Int32)), .val (.long (0 : Int64)), .second] [])) st18 ?_
  refine own_retV X18 hx hlk Bd.returns (hb hby d1_43) (by decide) (by decide) ?_
  show QI02 Z a0 u_rows_a0 u_columns_a0 u_values_a0 h0 n0 none T18.heap _
  rw [(e18 : T18.heap = h18)]
  exact ⟨b10, k10, rfl, n26, k25, sz_b10, f19, f20, f21, f22, f23⟩
theorem pnI10 : plainName "com/example/winnowfold/winnowfold/math/DenseMatrix" = true := by first | (simp [plainName, overriddenIn]; done) | decide +kernel
theorem pdI10_0 : parseMethodDescriptor "(II)V" = some ⟨[.int, .int], none⟩ := by decide +kernel
theorem efI10 (m : MethodId) (a0 : Addr) : entryFrame m #[(.ref a0), (.int (1 : Int32)), (.int (0 : Int32))] 5 = mkF m 0 #[.val (.ref a0), .val (.int (1 : Int32)), .val (.int (0 : Int32)), .unset, .unset] [] := by first | (simp [entryFrame, mkF, argsToLocals, Value.category]; done) | rfl
def QI10 (Z : State) (a0 : Addr) (u_rows_a0 : Value) (u_columns_a0 : Value) (u_values_a0 : Value) (h0 : Heap) (n0 : Nat) (v : Option Value) (h : Heap) (L : List Loc) : Prop := ∃ (x0 : Addr) (kx_x0 : ClassId), v = none ∧ Fr n0 L ∧ Keep h0 h [a0] ∧ h0.size ≤ x0 ∧ Exa Z h a0 "com/example/winnowfold/winnowfold/math/DenseMatrix" ∧ Fld Z h a0 "com/example/winnowfold/winnowfold/math/AbstractMatrix" "rows" "I" (.int (1 : Int32)) ∧ Fld Z h a0 "com/example/winnowfold/winnowfold/math/AbstractMatrix" "columns" "I" (.int (0 : Int32)) ∧ Fld Z h a0 "com/example/winnowfold/winnowfold/math/DenseMatrix" "values" "[D" (.ref x0) ∧ Arv Z h x0 kx_x0 .double (0 : Int32) [] (.double (0 : UInt64))
set_option maxRecDepth 65536 in
set_option maxHeartbeats 40000000 in
theorem rmI10 (l : Launch) (Z : State) (ar : Array Value) (hw : ∀ d ∈ tables_1, d.before ar Z = true) (ws : List Jvm.Cond) (a0 : Addr) (u_rows_a0 : Value) (u_columns_a0 : Value) (u_values_a0 : Value) (h0 : Heap) (n0 : Nat) (Z0 : n0 ≤ h0.size) (E_a0 : Exa Z h0 a0 "com/example/winnowfold/winnowfold/math/DenseMatrix") (F_rows_a0 : Fld Z h0 a0 "com/example/winnowfold/winnowfold/math/AbstractMatrix" "rows" "I" u_rows_a0) (F_columns_a0 : Fld Z h0 a0 "com/example/winnowfold/winnowfold/math/AbstractMatrix" "columns" "I" u_columns_a0) (F_values_a0 : Fld Z h0 a0 "com/example/winnowfold/winnowfold/math/DenseMatrix" "values" "[D" u_values_a0) (g_a0 : n0 ≤ a0) :
    MetFree l (⟨"com/example/winnowfold/winnowfold/math/DenseMatrix", "<init>", "(II)V"⟩ : MethodName) (head1 (Jvm.Cond.code (⟨"com/example/winnowfold/winnowfold/math/DenseMatrix", "<init>", "(II)V"⟩ : MethodName) prog_51_method_1_code 5 none :: ws) ({ frames := 2, cells := 1, slots := 0, locals := 26 } : Room)) (fun a U => a = #[(.ref a0), (.int (1 : Int32)), (.int (0 : Int32))] ∧ Z.Warmed39 U.vm ∧ U.heap = h0) (fun _ _ _ _ _ => True) (fun _ U o U' => ∃ v L, o = .returned v ∧ QI10 Z a0 u_rows_a0 u_columns_a0 u_values_a0 h0 n0 v U'.heap L ∧ FrameEnd U o U' L ({ frames := 2, cells := 1, slots := 0, locals := 26 } : Room).cells ({ frames := 2, cells := 1, slots := 0, locals := 26 } : Room).slots) := by
  refine MetFree.of_bodySF (plainFor_of_name pnI10) hisR ?_
  intro p e s m args below meth c s₁ Bd hml0 hP hK
  obtain ⟨rfl, hZ, hh⟩ := hP
  have hx := Bd.exec
  have hby := Bd.bytes
  have hlk := Bd.notSynchronized
  have hml : c.maxLocals = 5 := hml0
  have hown : s.vm.findClass "com/example/winnowfold/winnowfold/math/DenseMatrix" = some m.cls := findClass_of_methodNamed Bd.named
  have hnm := (name_of_methodNamed Bd.named Bd.method).1
  have X0 : Stand p l e ({ frames := 2, cells := 1, slots := 0, locals := 26 } : Room) s m #[(.ref a0), (.int (1 : Int32)), (.int (0 : Int32))] below meth c s₁ [] 0 0 := Stand.of_body Bd
  have e0 : s₁.heap = h0 := by rw [← hh, Bd.state]; rfl
  have N0 := Fr.nil n0
  have K0 := Keep.refl h0 [a0]
  refine own_enter (Q := QI10 Z a0 u_rows_a0 u_columns_a0 u_values_a0 h0 n0) (efI10 m a0) ?_
  refine own_st (T' := s₁) (g' := (mkF m 3 #[.val (.ref a0), .val (.int (1 : Int32)), .val (.int (0 : Int32)), .unset, .unset] [(.int (0 : Int32)), (.int (1 : Int32)), (.ref a0)])) (fun t k => ?_) ?_
  · show Steps p.tables e below (s₁.setTop (mkF m 0 #[.val (.ref a0), .val (.int (1 : Int32)), .val (.int (0 : Int32)), .unset, .unset] [])) t
    refine XS.aloadN X0.here hx rfl (hb hby d1_0) rfl rfl ?_
    show Steps p.tables e below (s₁.setTop (mkF m 1 #[.val (.ref a0), .val (.int (1 : Int32)), .val (.int (0 : Int32)), .unset, .unset] [(.ref a0)])) t
    refine XS.iloadN X0.here hx rfl (hb hby d1_1) rfl ?_
    show Steps p.tables e below (s₁.setTop (mkF m 2 #[.val (.ref a0), .val (.int (1 : Int32)), .val (.int (0 : Int32)), .unset, .unset] [(.int (1 : Int32)), (.ref a0)])) t
    refine XS.iloadN X0.here hx rfl (hb hby d1_2) rfl ?_
    exact k
  obtain ⟨_, _, ⟨T1, L1, k1, n1⟩, -, X1, ⟨Lc1, hQ1, l1, y1, z1⟩, st1⟩ := X0.specialBack hx (y := (⟨"com/example/winnowfold/winnowfold/math/AbstractMatrix", "<init>", "(II)V"⟩ : MethodName)) rfl hown (mvT hZ (hw _ (List.mem_of_getElem? (i := 6) rfl))) (mvT hZ (hw _ (List.mem_of_getElem? (i := 7) rfl))) (mvT hZ (hw _ (List.mem_of_getElem? (i := 10) rfl))) (by decide) (backOf (W := 0) (rmA10 l Z ar hw [] a0 u_rows_a0 u_columns_a0 u_values_a0 h0 n0 Z0 E_a0 F_rows_a0 F_columns_a0 F_values_a0 g_a0) hZ (hw _ (List.mem_of_getElem? (i := 10) rfl)) (hw _ (List.mem_of_getElem? (i := 9) rfl)) (by decide) (by decide)) (g := (mkF m 3 #[.val (.ref a0), .val (.int (1 : Int32)), .val (.int (0 : Int32)), .unset, .unset] [(.int (0 : Int32)), (.int (1 : Int32)), (.ref a0)])) rfl (by rw [hml]; rfl) (Steps.refl _) (a := a0) (argsL := [(.int (1 : Int32)), (.int (0 : Int32))]) (rest := []) (lenOf pdI10_0 rfl) rfl (by show 2 * 0 + _ ≤ _; exact Nat.le_of_eq rfl) (hb hby d1_3) (fun _ _ => ⟨rfl, e0, (by decide : 0 + 0 ≤ _), (by decide : 0 + 0 ≤ _)⟩)
  dsimp only [Pt.U, Pt.locs, Pt.cells, Pt.slots] at X1 l1 y1 z1 st1 hQ1
  subst l1 y1 z1
  obtain ⟨rfl, N1q, K1, f2, f3, f4, f5⟩ := hQ1
  have n6 := Fr.app N0 N1q
  have f7 := E_a0.keep K1
  have z8 := Nat.le_trans Z0 K1.1
  have k9 := K0.trans K1 (allS (Or.inl (List.mem_of_getElem? (i := 0) rfl)) all0)
  refine own_tr (T' := T1) (g' := (mkF m 6 #[.val (.ref a0), .val (.int (1 : Int32)), .val (.int (0 : Int32)), .unset, .unset] [])) st1 ?_
  refine own_st (T' := T1) (g' := (mkF m 38 #[.val (.ref a0), .val (.int (1 : Int32)), .val (.int (0 : Int32)), .val (.long (0 : Int64)), .second] [(.int (0 : Int32)), (.ref a0)])) (fun t k => ?_) ?_
  · show Steps p.tables e below (T1.setTop (mkF m 6 #[.val (.ref a0), .val (.int (1 : Int32)), .val (.int (0 : Int32)), .unset, .unset] [])) t
    refine XS.iloadN X1.here hx rfl (hb hby d1_6) rfl ?_
    show Steps p.tables e below (T1.setTop (mkF m 7 #[.val (.ref a0), .val (.int (1 : Int32)), .val (.int (0 : Int32)), .unset, .unset] [(.int (1 : Int32))])) t
    refine XS.i2l X1.here hx rfl (hb hby d1_7) rfl ?_
    show Steps p.tables e below (T1.setTop (mkF m 8 #[.val (.ref a0), .val (.int (1 : Int32)), .val (.int (0 : Int32)), .unset, .unset] [(.long (1 : Int64))])) t
    refine XS.iloadN X1.here hx rfl (hb hby d1_8) rfl ?_
    show Steps p.tables e below (T1.setTop (mkF m 9 #[.val (.ref a0), .val (.int (1 : Int32)), .val (.int (0 : Int32)), .unset, .unset] [(.int (0 : Int32)), (.long (1 : Int64))])) t
    refine XS.i2l X1.here hx rfl (hb hby d1_9) rfl ?_
    show Steps p.tables e below (T1.setTop (mkF m 10 #[.val (.ref a0), .val (.int (1 : Int32)), .val (.int (0 : Int32)), .unset, .unset] [(.long (0 : Int64)), (.long (1 : Int64))])) t
    refine XS.lmul X1.here hx rfl (hb hby d1_10) rfl ?_
    show Steps p.tables e below (T1.setTop (mkF m 11 #[.val (.ref a0), .val (.int (1 : Int32)), .val (.int (0 : Int32)), .unset, .unset] [(.long (0 : Int64))])) t
    refine XS.lstoreN X1.here hx rfl (hb hby d1_11) rfl (l' := #[.val (.ref a0), .val (.int (1 : Int32)), .val (.int (0 : Int32)), .val (.long (0 : Int64)), .second]) rfl ?_
    show Steps p.tables e below (T1.setTop (mkF m 12 #[.val (.ref a0), .val (.int (1 : Int32)), .val (.int (0 : Int32)), .val (.long (0 : Int64)), .second] [])) t
    refine XS.lloadN X1.here hx rfl (hb hby d1_12) rfl ?_
    show Steps p.tables e below (T1.setTop (mkF m 13 #[.val (.ref a0), .val (.int (1 : Int32)), .val (.int (0 : Int32)), .val (.long (0 : Int64)), .second] [(.long (0 : Int64))])) t
    refine X1.ldc2Long hx hown (mvT hZ (hw _ (List.mem_of_getElem? (i := 18) rfl))) (g := (mkF m 13 #[.val (.ref a0), .val (.int (1 : Int32)), .val (.int (0 : Int32)), .val (.long (0 : Int64)), .second] [(.long (0 : Int64))])) rfl (hb hby d1_13) _ ?_
    show Steps p.tables e below (T1.setTop (mkF m 16 #[.val (.ref a0), .val (.int (1 : Int32)), .val (.int (0 : Int32)), .val (.long (0 : Int64)), .second] [(.long (2147483639 : Int64)), (.long (0 : Int64))])) t
    refine XS.lcmp X1.here hx rfl (hb hby d1_16) rfl ?_
    show Steps p.tables e below (T1.setTop (mkF m 17 #[.val (.ref a0), .val (.int (1 : Int32)), .val (.int (0 : Int32)), .val (.long (0 : Int64)), .second] [(.int (lcmpW (0 : Int64) (2147483639 : Int64)))])) t
    refine XS.ifYes X1.here hx rfl (pc0 := 17) (pc' := 35) rfl (hb hby d1_17) rfl (by decide) (by decide) (by decide) ?_
    show Steps p.tables e below (T1.setTop (mkF m 35 #[.val (.ref a0), .val (.int (1 : Int32)), .val (.int (0 : Int32)), .val (.long (0 : Int64)), .second] [])) t
    refine XS.aloadN X1.here hx rfl (hb hby d1_35) rfl rfl ?_
    show Steps p.tables e below (T1.setTop (mkF m 36 #[.val (.ref a0), .val (.int (1 : Int32)), .val (.int (0 : Int32)), .val (.long (0 : Int64)), .second] [(.ref a0)])) t
    refine XS.lloadN X1.here hx rfl (hb hby d1_36) rfl ?_
    show Steps p.tables e below (T1.setTop (mkF m 37 #[.val (.ref a0), .val (.int (1 : Int32)), .val (.int (0 : Int32)), .val (.long (0 : Int64)), .second] [(.long (0 : Int64)), (.ref a0)])) t
    refine XS.l2i X1.here hx rfl (hb hby d1_37) rfl ?_
    exact k
  obtain ⟨T10, h10, k10, X10, e10, E10, A10, st10⟩ := newP X1 hx hZ (hw _ (List.mem_of_getElem? (i := 19) rfl)) (rfl : T1.heap = T1.heap) (g := (mkF m 38 #[.val (.ref a0), .val (.int (1 : Int32)), .val (.int (0 : Int32)), .val (.long (0 : Int64)), .second] [(.int (0 : Int32)), (.ref a0)])) rfl (hb hby d1_38) rfl (by decide) (cap := 0) (by decide) (by decide) (by decide) (by decide)
  obtain ⟨b10, g10⟩ : ∃ z, z = T1.heap.size := ⟨_, rfl⟩
  rw [← g10] at A10 st10
  have ne_a0_b10 : a0 ≠ b10 := Nat.ne_of_lt (Nat.lt_of_lt_of_le f2.lt (Nat.le_of_eq g10.symm))
  have g_b10 : n0 ≤ b10 := Nat.le_trans z8 (Nat.le_of_eq g10.symm)
  have sz_b10 : h0.size ≤ b10 := Nat.le_trans k9.1 (Nat.le_of_eq g10.symm)
  have f11 := f2.ext E10
  have f12 := f3.ext E10
  have f13 := f4.ext E10
  have f14 := f5.ext E10
  have z15 := Nat.le_trans z8 E10.1
  have k16 := k9.ext E10
  have v17 : Arv Z h10 b10 k10 .double (0 : Int32) [] (.double (0 : UInt64)) := Arv.new A10 (by decide)
  refine own_st (T' := T10) (g' := (mkF m 40 #[.val (.ref a0), .val (.int (1 : Int32)), .val (.int (0 : Int32)), .val (.long (0 : Int64)), .second] [(.ref b10), (.ref a0)])) st10 ?_
  obtain ⟨T18, h18, X18, e18, W18, st18⟩ := putF X10 hx hZ hown (host := "") (Or.inl (hw _ (List.mem_of_getElem? (i := 20) rfl))) Via.refl e10 f14 f11 (Or.inr ⟨(hw _ (List.mem_of_getElem? (i := 21) rfl)), rfl, hnm⟩) (hw _ (List.mem_of_getElem? (i := 1) rfl)) (ty := (.array .double)) (by decide) rfl rfl (g := (mkF m 40 #[.val (.ref a0), .val (.int (1 : Int32)), .val (.int (0 : Int32)), .val (.long (0 : Int64)), .second] [(.ref b10), (.ref a0)])) rfl rfl (hb hby d1_40)
  have f19 := f11.wr W18
  have f20 := f12.other W18 (Or.inr (slot_ne (Or.inr (hw _ (List.mem_of_getElem? (i := 15) rfl))) (Or.inr (hw _ (List.mem_of_getElem? (i := 21) rfl))) (by decide) (t := .int) (t' := (.array .double)) (by decide) (by decide)))
  have f21 := f13.other W18 (Or.inr (slot_ne (Or.inr (hw _ (List.mem_of_getElem? (i := 17) rfl))) (Or.inr (hw _ (List.mem_of_getElem? (i := 21) rfl))) (by decide) (t := .int) (t' := (.array .double)) (by decide) (by decide)))
  have f22 := f14.same W18
  have f23 := v17.other W18 (Ne.symm ne_a0_b10)
  have z24 := Nat.le_trans z15 (Keep.of_wr W18).1
  have k25 := k16.wr W18 (Or.inl (List.mem_of_getElem? (i := 0) rfl))
  have n26 := Fr.snoc X18 n6 g_a0
  refine own_st (T' := T18) (g' := (mkF m 43 #[.val (.ref a0), .val (.int (1 : Int32)), .val (.int (0 : Int32)), .val (.long (0 : Int64)), .second] [])) st18 ?_
  refine own_retV X18 hx hlk Bd.returns (hb hby d1_43) (by decide) (by decide) ?_
  show QI10 Z a0 u_rows_a0 u_columns_a0 u_values_a0 h0 n0 none T18.heap _
  rw [(e18 : T18.heap = h18)]
  exact ⟨b10, k10, rfl, n26, k25, sz_b10, f19, f20, f21, f22, f23⟩
theorem pnI11 : plainName "com/example/winnowfold/winnowfold/math/DenseMatrix" = true := by first | (simp [plainName, overriddenIn]; done) | decide +kernel
theorem pdI11_0 : parseMethodDescriptor "(II)V" = some ⟨[.int, .int], none⟩ := by decide +kernel
theorem efI11 (m : MethodId) (a0 : Addr) : entryFrame m #[(.ref a0), (.int (1 : Int32)), (.int (1 : Int32))] 5 = mkF m 0 #[.val (.ref a0), .val (.int (1 : Int32)), .val (.int (1 : Int32)), .unset, .unset] [] := by first | (simp [entryFrame, mkF, argsToLocals, Value.category]; done) | rfl
def QI11 (Z : State) (a0 : Addr) (u_rows_a0 : Value) (u_columns_a0 : Value) (u_values_a0 : Value) (h0 : Heap) (n0 : Nat) (v : Option Value) (h : Heap) (L : List Loc) : Prop := ∃ (x0 : Addr) (kx_x0 : ClassId), v = none ∧ Fr n0 L ∧ Keep h0 h [a0] ∧ h0.size ≤ x0 ∧ Exa Z h a0 "com/example/winnowfold/winnowfold/math/DenseMatrix" ∧ Fld Z h a0 "com/example/winnowfold/winnowfold/math/AbstractMatrix" "rows" "I" (.int (1 : Int32)) ∧ Fld Z h a0 "com/example/winnowfold/winnowfold/math/AbstractMatrix" "columns" "I" (.int (1 : Int32)) ∧ Fld Z h a0 "com/example/winnowfold/winnowfold/math/DenseMatrix" "values" "[D" (.ref x0) ∧ Arv Z h x0 kx_x0 .double (1 : Int32) [(.double (0 : UInt64))] (.double (0 : UInt64))
set_option maxRecDepth 65536 in
set_option maxHeartbeats 40000000 in
theorem rmI11 (l : Launch) (Z : State) (ar : Array Value) (hw : ∀ d ∈ tables_1, d.before ar Z = true) (ws : List Jvm.Cond) (a0 : Addr) (u_rows_a0 : Value) (u_columns_a0 : Value) (u_values_a0 : Value) (h0 : Heap) (n0 : Nat) (Z0 : n0 ≤ h0.size) (E_a0 : Exa Z h0 a0 "com/example/winnowfold/winnowfold/math/DenseMatrix") (F_rows_a0 : Fld Z h0 a0 "com/example/winnowfold/winnowfold/math/AbstractMatrix" "rows" "I" u_rows_a0) (F_columns_a0 : Fld Z h0 a0 "com/example/winnowfold/winnowfold/math/AbstractMatrix" "columns" "I" u_columns_a0) (F_values_a0 : Fld Z h0 a0 "com/example/winnowfold/winnowfold/math/DenseMatrix" "values" "[D" u_values_a0) (g_a0 : n0 ≤ a0) :
    MetFree l (⟨"com/example/winnowfold/winnowfold/math/DenseMatrix", "<init>", "(II)V"⟩ : MethodName) (head1 (Jvm.Cond.code (⟨"com/example/winnowfold/winnowfold/math/DenseMatrix", "<init>", "(II)V"⟩ : MethodName) prog_51_method_1_code 5 none :: ws) ({ frames := 2, cells := 1, slots := 1, locals := 26 } : Room)) (fun a U => a = #[(.ref a0), (.int (1 : Int32)), (.int (1 : Int32))] ∧ Z.Warmed39 U.vm ∧ U.heap = h0) (fun _ _ _ _ _ => True) (fun _ U o U' => ∃ v L, o = .returned v ∧ QI11 Z a0 u_rows_a0 u_columns_a0 u_values_a0 h0 n0 v U'.heap L ∧ FrameEnd U o U' L ({ frames := 2, cells := 1, slots := 1, locals := 26 } : Room).cells ({ frames := 2, cells := 1, slots := 1, locals := 26 } : Room).slots) := by
  refine MetFree.of_bodySF (plainFor_of_name pnI11) hisR ?_
  intro p e s m args below meth c s₁ Bd hml0 hP hK
  obtain ⟨rfl, hZ, hh⟩ := hP
  have hx := Bd.exec
  have hby := Bd.bytes
  have hlk := Bd.notSynchronized
  have hml : c.maxLocals = 5 := hml0
  have hown : s.vm.findClass "com/example/winnowfold/winnowfold/math/DenseMatrix" = some m.cls := findClass_of_methodNamed Bd.named
  have hnm := (name_of_methodNamed Bd.named Bd.method).1
  have X0 : Stand p l e ({ frames := 2, cells := 1, slots := 1, locals := 26 } : Room) s m #[(.ref a0), (.int (1 : Int32)), (.int (1 : Int32))] below meth c s₁ [] 0 0 := Stand.of_body Bd
  have e0 : s₁.heap = h0 := by rw [← hh, Bd.state]; rfl
  have N0 := Fr.nil n0
  have K0 := Keep.refl h0 [a0]
  refine own_enter (Q := QI11 Z a0 u_rows_a0 u_columns_a0 u_values_a0 h0 n0) (efI11 m a0) ?_
  refine own_st (T' := s₁) (g' := (mkF m 3 #[.val (.ref a0), .val (.int (1 : Int32)), .val (.int (1 : Int32)), .unset, .unset] [(.int (1 : Int32)), (.int (1 : Int32)), (.ref a0)])) (fun t k => ?_) ?_
  · show Steps p.tables e below (s₁.setTop (mkF m 0 #[.val (.ref a0), .val (.int (1 : Int32)), .val (.int (1 : Int32)), .unset, .unset] [])) t
    refine XS.aloadN X0.here hx rfl (hb hby d1_0) rfl rfl ?_
    show Steps p.tables e below (s₁.setTop (mkF m 1 #[.val (.ref a0), .val (.int (1 : Int32)), .val (.int (1 : Int32)), .unset, .unset] [(.ref a0)])) t
    refine XS.iloadN X0.here hx rfl (hb hby d1_1) rfl ?_
    show Steps p.tables e below (s₁.setTop (mkF m 2 #[.val (.ref a0), .val (.int (1 : Int32)), .val (.int (1 : Int32)), .unset, .unset] [(.int (1 : Int32)), (.ref a0)])) t
    refine XS.iloadN X0.here hx rfl (hb hby d1_2) rfl ?_
    exact k
  obtain ⟨_, _, ⟨T1, L1, k1, n1⟩, -, X1, ⟨Lc1, hQ1, l1, y1, z1⟩, st1⟩ := X0.specialBack hx (y := (⟨"com/example/winnowfold/winnowfold/math/AbstractMatrix", "<init>", "(II)V"⟩ : MethodName)) rfl hown (mvT hZ (hw _ (List.mem_of_getElem? (i := 6) rfl))) (mvT hZ (hw _ (List.mem_of_getElem? (i := 7) rfl))) (mvT hZ (hw _ (List.mem_of_getElem? (i := 10) rfl))) (by decide) (backOf (W := 0) (rmA11 l Z ar hw [] a0 u_rows_a0 u_columns_a0 u_values_a0 h0 n0 Z0 E_a0 F_rows_a0 F_columns_a0 F_values_a0 g_a0) hZ (hw _ (List.mem_of_getElem? (i := 10) rfl)) (hw _ (List.mem_of_getElem? (i := 9) rfl)) (by decide) (by decide)) (g := (mkF m 3 #[.val (.ref a0), .val (.int (1 : Int32)), .val (.int (1 : Int32)), .unset, .unset] [(.int (1 : Int32)), (.int (1 : Int32)), (.ref a0)])) rfl (by rw [hml]; rfl) (Steps.refl _) (a := a0) (argsL := [(.int (1 : Int32)), (.int (1 : Int32))]) (rest := []) (lenOf pdI11_0 rfl) rfl (by show 2 * 0 + _ ≤ _; exact Nat.le_of_eq rfl) (hb hby d1_3) (fun _ _ => ⟨rfl, e0, (by decide : 0 + 0 ≤ _), (by decide : 0 + 0 ≤ _)⟩)
  dsimp only [Pt.U, Pt.locs, Pt.cells, Pt.slots] at X1 l1 y1 z1 st1 hQ1
  subst l1 y1 z1
  obtain ⟨rfl, N1q, K1, f2, f3, f4, f5⟩ := hQ1
  have n6 := Fr.app N0 N1q
  have f7 := E_a0.keep K1
  have z8 := Nat.le_trans Z0 K1.1
  have k9 := K0.trans K1 (allS (Or.inl (List.mem_of_getElem? (i := 0) rfl)) all0)
  refine own_tr (T' := T1) (g' := (mkF m 6 #[.val (.ref a0), .val (.int (1 : Int32)), .val (.int (1 : Int32)), .unset, .unset] [])) st1 ?_
  refine own_st (T' := T1) (g' := (mkF m 38 #[.val (.ref a0), .val (.int (1 : Int32)), .val (.int (1 : Int32)), .val (.long (1 : Int64)), .second] [(.int (1 : Int32)), (.ref a0)])) (fun t k => ?_) ?_
  · show Steps p.tables e below (T1.setTop (mkF m 6 #[.val (.ref a0), .val (.int (1 : Int32)), .val (.int (1 : Int32)), .unset, .unset] [])) t
    refine XS.iloadN X1.here hx rfl (hb hby d1_6) rfl ?_
    show Steps p.tables e below (T1.setTop (mkF m 7 #[.val (.ref a0), .val (.int (1 : Int32)), .val (.int (1 : Int32)), .unset, .unset] [(.int (1 : Int32))])) t
    refine XS.i2l X1.here hx rfl (hb hby d1_7) rfl ?_
    show Steps p.tables e below (T1.setTop (mkF m 8 #[.val (.ref a0), .val (.int (1 : Int32)), .val (.int (1 : Int32)), .unset, .unset] [(.long (1 : Int64))])) t
    refine XS.iloadN X1.here hx rfl (hb hby d1_8) rfl ?_
    show Steps p.tables e below (T1.setTop (mkF m 9 #[.val (.ref a0), .val (.int (1 : Int32)), .val (.int (1 : Int32)), .unset, .unset] [(.int (1 : Int32)), (.long (1 : Int64))])) t
    refine XS.i2l X1.here hx rfl (hb hby d1_9) rfl ?_
    show Steps p.tables e below (T1.setTop (mkF m 10 #[.val (.ref a0), .val (.int (1 : Int32)), .val (.int (1 : Int32)), .unset, .unset] [(.long (1 : Int64)), (.long (1 : Int64))])) t
    refine XS.lmul X1.here hx rfl (hb hby d1_10) rfl ?_
    show Steps p.tables e below (T1.setTop (mkF m 11 #[.val (.ref a0), .val (.int (1 : Int32)), .val (.int (1 : Int32)), .unset, .unset] [(.long (1 : Int64))])) t
    refine XS.lstoreN X1.here hx rfl (hb hby d1_11) rfl (l' := #[.val (.ref a0), .val (.int (1 : Int32)), .val (.int (1 : Int32)), .val (.long (1 : Int64)), .second]) rfl ?_
    show Steps p.tables e below (T1.setTop (mkF m 12 #[.val (.ref a0), .val (.int (1 : Int32)), .val (.int (1 : Int32)), .val (.long (1 : Int64)), .second] [])) t
    refine XS.lloadN X1.here hx rfl (hb hby d1_12) rfl ?_
    show Steps p.tables e below (T1.setTop (mkF m 13 #[.val (.ref a0), .val (.int (1 : Int32)), .val (.int (1 : Int32)), .val (.long (1 : Int64)), .second] [(.long (1 : Int64))])) t
    refine X1.ldc2Long hx hown (mvT hZ (hw _ (List.mem_of_getElem? (i := 18) rfl))) (g := (mkF m 13 #[.val (.ref a0), .val (.int (1 : Int32)), .val (.int (1 : Int32)), .val (.long (1 : Int64)), .second] [(.long (1 : Int64))])) rfl (hb hby d1_13) _ ?_
    show Steps p.tables e below (T1.setTop (mkF m 16 #[.val (.ref a0), .val (.int (1 : Int32)), .val (.int (1 : Int32)), .val (.long (1 : Int64)), .second] [(.long (2147483639 : Int64)), (.long (1 : Int64))])) t
    refine XS.lcmp X1.here hx rfl (hb hby d1_16) rfl ?_
    show Steps p.tables e below (T1.setTop (mkF m 17 #[.val (.ref a0), .val (.int (1 : Int32)), .val (.int (1 : Int32)), .val (.long (1 : Int64)), .second] [(.int (lcmpW (1 : Int64) (2147483639 : Int64)))])) t
    refine XS.ifYes X1.here hx rfl (pc0 := 17) (pc' := 35) rfl (hb hby d1_17) rfl (by decide) (by decide) (by decide) ?_
    show Steps p.tables e below (T1.setTop (mkF m 35 #[.val (.ref a0), .val (.int (1 : Int32)), .val (.int (1 : Int32)), .val (.long (1 : Int64)), .second] [])) t
    refine XS.aloadN X1.here hx rfl (hb hby d1_35) rfl rfl ?_
    show Steps p.tables e below (T1.setTop (mkF m 36 #[.val (.ref a0), .val (.int (1 : Int32)), .val (.int (1 : Int32)), .val (.long (1 : Int64)), .second] [(.ref a0)])) t
    refine XS.lloadN X1.here hx rfl (hb hby d1_36) rfl ?_
    show Steps p.tables e below (T1.setTop (mkF m 37 #[.val (.ref a0), .val (.int (1 : Int32)), .val (.int (1 : Int32)), .val (.long (1 : Int64)), .second] [(.long (1 : Int64)), (.ref a0)])) t
    refine XS.l2i X1.here hx rfl (hb hby d1_37) rfl ?_
    exact k
  obtain ⟨T10, h10, k10, X10, e10, E10, A10, st10⟩ := newP X1 hx hZ (hw _ (List.mem_of_getElem? (i := 19) rfl)) (rfl : T1.heap = T1.heap) (g := (mkF m 38 #[.val (.ref a0), .val (.int (1 : Int32)), .val (.int (1 : Int32)), .val (.long (1 : Int64)), .second] [(.int (1 : Int32)), (.ref a0)])) rfl (hb hby d1_38) rfl (by decide) (cap := 1) (by decide) (by decide) (by decide) (by decide)
  obtain ⟨b10, g10⟩ : ∃ z, z = T1.heap.size := ⟨_, rfl⟩
  rw [← g10] at A10 st10
  have ne_a0_b10 : a0 ≠ b10 := Nat.ne_of_lt (Nat.lt_of_lt_of_le f2.lt (Nat.le_of_eq g10.symm))
  have g_b10 : n0 ≤ b10 := Nat.le_trans z8 (Nat.le_of_eq g10.symm)
  have sz_b10 : h0.size ≤ b10 := Nat.le_trans k9.1 (Nat.le_of_eq g10.symm)
  have f11 := f2.ext E10
  have f12 := f3.ext E10
  have f13 := f4.ext E10
  have f14 := f5.ext E10
  have z15 := Nat.le_trans z8 E10.1
  have k16 := k9.ext E10
  have v17 : Arv Z h10 b10 k10 .double (1 : Int32) [(.double (0 : UInt64))] (.double (0 : UInt64)) := (Arv.new A10 (by decide)).pad (pad_rep [] (.double (0 : UInt64)) 1)
  refine own_st (T' := T10) (g' := (mkF m 40 #[.val (.ref a0), .val (.int (1 : Int32)), .val (.int (1 : Int32)), .val (.long (1 : Int64)), .second] [(.ref b10), (.ref a0)])) st10 ?_
  obtain ⟨T18, h18, X18, e18, W18, st18⟩ := putF X10 hx hZ hown (host := "") (Or.inl (hw _ (List.mem_of_getElem? (i := 20) rfl))) Via.refl e10 f14 f11 (Or.inr ⟨(hw _ (List.mem_of_getElem? (i := 21) rfl)), rfl, hnm⟩) (hw _ (List.mem_of_getElem? (i := 1) rfl)) (ty := (.array .double)) (by decide) rfl rfl (g := (mkF m 40 #[.val (.ref a0), .val (.int (1 : Int32)), .val (.int (1 : Int32)), .val (.long (1 : Int64)), .second] [(.ref b10), (.ref a0)])) rfl rfl (hb hby d1_40)
  have f19 := f11.wr W18
  have f20 := f12.other W18 (Or.inr (slot_ne (Or.inr (hw _ (List.mem_of_getElem? (i := 15) rfl))) (Or.inr (hw _ (List.mem_of_getElem? (i := 21) rfl))) (by decide) (t := .int) (t' := (.array .double)) (by decide) (by decide)))
  have f21 := f13.other W18 (Or.inr (slot_ne (Or.inr (hw _ (List.mem_of_getElem? (i := 17) rfl))) (Or.inr (hw _ (List.mem_of_getElem? (i := 21) rfl))) (by decide) (t := .int) (t' := (.array .double)) (by decide) (by decide)))
  have f22 := f14.same W18
  have f23 := v17.other W18 (Ne.symm ne_a0_b10)
  have z24 := Nat.le_trans z15 (Keep.of_wr W18).1
  have k25 := k16.wr W18 (Or.inl (List.mem_of_getElem? (i := 0) rfl))
  have n26 := Fr.snoc X18 n6 g_a0
  refine own_st (T' := T18) (g' := (mkF m 43 #[.val (.ref a0), .val (.int (1 : Int32)), .val (.int (1 : Int32)), .val (.long (1 : Int64)), .second] [])) st18 ?_
  refine own_retV X18 hx hlk Bd.returns (hb hby d1_43) (by decide) (by decide) ?_
  show QI11 Z a0 u_rows_a0 u_columns_a0 u_values_a0 h0 n0 none T18.heap _
  rw [(e18 : T18.heap = h18)]
  exact ⟨b10, k10, rfl, n26, k25, sz_b10, f19, f20, f21, f22, f23⟩
theorem pnI12 : plainName "com/example/winnowfold/winnowfold/math/DenseMatrix" = true := by first | (simp [plainName, overriddenIn]; done) | decide +kernel
theorem pdI12_0 : parseMethodDescriptor "(II)V" = some ⟨[.int, .int], none⟩ := by decide +kernel
theorem efI12 (m : MethodId) (a0 : Addr) : entryFrame m #[(.ref a0), (.int (1 : Int32)), (.int (2 : Int32))] 5 = mkF m 0 #[.val (.ref a0), .val (.int (1 : Int32)), .val (.int (2 : Int32)), .unset, .unset] [] := by first | (simp [entryFrame, mkF, argsToLocals, Value.category]; done) | rfl
def QI12 (Z : State) (a0 : Addr) (u_rows_a0 : Value) (u_columns_a0 : Value) (u_values_a0 : Value) (h0 : Heap) (n0 : Nat) (v : Option Value) (h : Heap) (L : List Loc) : Prop := ∃ (x0 : Addr) (kx_x0 : ClassId), v = none ∧ Fr n0 L ∧ Keep h0 h [a0] ∧ h0.size ≤ x0 ∧ Exa Z h a0 "com/example/winnowfold/winnowfold/math/DenseMatrix" ∧ Fld Z h a0 "com/example/winnowfold/winnowfold/math/AbstractMatrix" "rows" "I" (.int (1 : Int32)) ∧ Fld Z h a0 "com/example/winnowfold/winnowfold/math/AbstractMatrix" "columns" "I" (.int (2 : Int32)) ∧ Fld Z h a0 "com/example/winnowfold/winnowfold/math/DenseMatrix" "values" "[D" (.ref x0) ∧ Arv Z h x0 kx_x0 .double (2 : Int32) [(.double (0 : UInt64)), (.double (0 : UInt64))] (.double (0 : UInt64))
set_option maxRecDepth 65536 in
set_option maxHeartbeats 40000000 in
theorem rmI12 (l : Launch) (Z : State) (ar : Array Value) (hw : ∀ d ∈ tables_1, d.before ar Z = true) (ws : List Jvm.Cond) (a0 : Addr) (u_rows_a0 : Value) (u_columns_a0 : Value) (u_values_a0 : Value) (h0 : Heap) (n0 : Nat) (Z0 : n0 ≤ h0.size) (E_a0 : Exa Z h0 a0 "com/example/winnowfold/winnowfold/math/DenseMatrix") (F_rows_a0 : Fld Z h0 a0 "com/example/winnowfold/winnowfold/math/AbstractMatrix" "rows" "I" u_rows_a0) (F_columns_a0 : Fld Z h0 a0 "com/example/winnowfold/winnowfold/math/AbstractMatrix" "columns" "I" u_columns_a0) (F_values_a0 : Fld Z h0 a0 "com/example/winnowfold/winnowfold/math/DenseMatrix" "values" "[D" u_values_a0) (g_a0 : n0 ≤ a0) :
    MetFree l (⟨"com/example/winnowfold/winnowfold/math/DenseMatrix", "<init>", "(II)V"⟩ : MethodName) (head1 (Jvm.Cond.code (⟨"com/example/winnowfold/winnowfold/math/DenseMatrix", "<init>", "(II)V"⟩ : MethodName) prog_51_method_1_code 5 none :: ws) ({ frames := 2, cells := 1, slots := 2, locals := 26 } : Room)) (fun a U => a = #[(.ref a0), (.int (1 : Int32)), (.int (2 : Int32))] ∧ Z.Warmed39 U.vm ∧ U.heap = h0) (fun _ _ _ _ _ => True) (fun _ U o U' => ∃ v L, o = .returned v ∧ QI12 Z a0 u_rows_a0 u_columns_a0 u_values_a0 h0 n0 v U'.heap L ∧ FrameEnd U o U' L ({ frames := 2, cells := 1, slots := 2, locals := 26 } : Room).cells ({ frames := 2, cells := 1, slots := 2, locals := 26 } : Room).slots) := by
  refine MetFree.of_bodySF (plainFor_of_name pnI12) hisR ?_
  intro p e s m args below meth c s₁ Bd hml0 hP hK
  obtain ⟨rfl, hZ, hh⟩ := hP
  have hx := Bd.exec
  have hby := Bd.bytes
  have hlk := Bd.notSynchronized
  have hml : c.maxLocals = 5 := hml0
  have hown : s.vm.findClass "com/example/winnowfold/winnowfold/math/DenseMatrix" = some m.cls := findClass_of_methodNamed Bd.named
  have hnm := (name_of_methodNamed Bd.named Bd.method).1
  have X0 : Stand p l e ({ frames := 2, cells := 1, slots := 2, locals := 26 } : Room) s m #[(.ref a0), (.int (1 : Int32)), (.int (2 : Int32))] below meth c s₁ [] 0 0 := Stand.of_body Bd
  have e0 : s₁.heap = h0 := by rw [← hh, Bd.state]; rfl
  have N0 := Fr.nil n0
  have K0 := Keep.refl h0 [a0]
  refine own_enter (Q := QI12 Z a0 u_rows_a0 u_columns_a0 u_values_a0 h0 n0) (efI12 m a0) ?_
  refine own_st (T' := s₁) (g' := (mkF m 3 #[.val (.ref a0), .val (.int (1 : Int32)), .val (.int (2 : Int32)), .unset, .unset] [(.int (2 : Int32)), (.int (1 : Int32)), (.ref a0)])) (fun t k => ?_) ?_
  · show Steps p.tables e below (s₁.setTop (mkF m 0 #[.val (.ref a0), .val (.int (1 : Int32)), .val (.int (2 : Int32)), .unset, .unset] [])) t
    refine XS.aloadN X0.here hx rfl (hb hby d1_0) rfl rfl ?_
    show Steps p.tables e below (s₁.setTop (mkF m 1 #[.val (.ref a0), .val (.int (1 : Int32)), .val (.int (2 : Int32)), .unset, .unset] [(.ref a0)])) t
    refine XS.iloadN X0.here hx rfl (hb hby d1_1) rfl ?_
    show Steps p.tables e below (s₁.setTop (mkF m 2 #[.val (.ref a0), .val (.int (1 : Int32)), .val (.int (2 : Int32)), .unset, .unset] [(.int (1 : Int32)), (.ref a0)])) t
    refine XS.iloadN X0.here hx rfl (hb hby d1_2) rfl ?_
    exact k
  obtain ⟨_, _, ⟨T1, L1, k1, n1⟩, -, X1, ⟨Lc1, hQ1, l1, y1, z1⟩, st1⟩ := X0.specialBack hx (y := (⟨"com/example/winnowfold/winnowfold/math/AbstractMatrix", "<init>", "(II)V"⟩ : MethodName)) rfl hown (mvT hZ (hw _ (List.mem_of_getElem? (i := 6) rfl))) (mvT hZ (hw _ (List.mem_of_getElem? (i := 7) rfl))) (mvT hZ (hw _ (List.mem_of_getElem? (i := 10) rfl))) (by decide) (backOf (W := 0) (rmA12 l Z ar hw [] a0 u_rows_a0 u_columns_a0 u_values_a0 h0 n0 Z0 E_a0 F_rows_a0 F_columns_a0 F_values_a0 g_a0) hZ (hw _ (List.mem_of_getElem? (i := 10) rfl)) (hw _ (List.mem_of_getElem? (i := 9) rfl)) (by decide) (by decide)) (g := (mkF m 3 #[.val (.ref a0), .val (.int (1 : Int32)), .val (.int (2 : Int32)), .unset, .unset] [(.int (2 : Int32)), (.int (1 : Int32)), (.ref a0)])) rfl (by rw [hml]; rfl) (Steps.refl _) (a := a0) (argsL := [(.int (1 : Int32)), (.int (2 : Int32))]) (rest := []) (lenOf pdI12_0 rfl) rfl (by show 2 * 0 + _ ≤ _; exact Nat.le_of_eq rfl) (hb hby d1_3) (fun _ _ => ⟨rfl, e0, (by decide : 0 + 0 ≤ _), (by decide : 0 + 0 ≤ _)⟩)
  dsimp only [Pt.U, Pt.locs, Pt.cells, Pt.slots] at X1 l1 y1 z1 st1 hQ1
  subst l1 y1 z1
  obtain ⟨rfl, N1q, K1, f2, f3, f4, f5⟩ := hQ1
  have n6 := Fr.app N0 N1q
  have f7 := E_a0.keep K1
  have z8 := Nat.le_trans Z0 K1.1
  have k9 := K0.trans K1 (allS (Or.inl (List.mem_of_getElem? (i := 0) rfl)) all0)
  refine own_tr (T' := T1) (g' := (mkF m 6 #[.val (.ref a0), .val (.int (1 : Int32)), .val (.int (2 : Int32)), .unset, .unset] [])) st1 ?_
  refine own_st (T' := T1) (g' := (mkF m 38 #[.val (.ref a0), .val (.int (1 : Int32)), .val (.int (2 : Int32)), .val (.long (2 : Int64)), .second] [(.int (2 : Int32)), (.ref a0)])) (fun t k => ?_) ?_
  · show Steps p.tables e below (T1.setTop (mkF m 6 #[.val (.ref a0), .val (.int (1 : Int32)), .val (.int (2 : Int32)), .unset, .unset] [])) t
    refine XS.iloadN X1.here hx rfl (hb hby d1_6) rfl ?_
    show Steps p.tables e below (T1.setTop (mkF m 7 #[.val (.ref a0), .val (.int (1 : Int32)), .val (.int (2 : Int32)), .unset, .unset] [(.int (1 : Int32))])) t
    refine XS.i2l X1.here hx rfl (hb hby d1_7) rfl ?_
    show Steps p.tables e below (T1.setTop (mkF m 8 #[.val (.ref a0), .val (.int (1 : Int32)), .val (.int (2 : Int32)), .unset, .unset] [(.long (1 : Int64))])) t
    refine XS.iloadN X1.here hx rfl (hb hby d1_8) rfl ?_
    show Steps p.tables e below (T1.setTop (mkF m 9 #[.val (.ref a0), .val (.int (1 : Int32)), .val (.int (2 : Int32)), .unset, .unset] [(.int (2 : Int32)), (.long (1 : Int64))])) t
    refine XS.i2l X1.here hx rfl (hb hby d1_9) rfl ?_
    show Steps p.tables e below (T1.setTop (mkF m 10 #[.val (.ref a0), .val (.int (1 : Int32)), .val (.int (2 : Int32)), .unset, .unset] [(.long (2 : Int64)), (.long (1 : Int64))])) t
    refine XS.lmul X1.here hx rfl (hb hby d1_10) rfl ?_
    show Steps p.tables e below (T1.setTop (mkF m 11 #[.val (.ref a0), .val (.int (1 : Int32)), .val (.int (2 : Int32)), .unset, .unset] [(.long (2 : Int64))])) t
    refine XS.lstoreN X1.here hx rfl (hb hby d1_11) rfl (l' := #[.val (.ref a0), .val (.int (1 : Int32)), .val (.int (2 : Int32)), .val (.long (2 : Int64)), .second]) rfl ?_
    show Steps p.tables e below (T1.setTop (mkF m 12 #[.val (.ref a0), .val (.int (1 : Int32)), .val (.int (2 : Int32)), .val (.long (2 : Int64)), .second] [])) t
    refine XS.lloadN X1.here hx rfl (hb hby d1_12) rfl ?_
    show Steps p.tables e below (T1.setTop (mkF m 13 #[.val (.ref a0), .val (.int (1 : Int32)), .val (.int (2 : Int32)), .val (.long (2 : Int64)), .second] [(.long (2 : Int64))])) t
    refine X1.ldc2Long hx hown (mvT hZ (hw _ (List.mem_of_getElem? (i := 18) rfl))) (g := (mkF m 13 #[.val (.ref a0), .val (.int (1 : Int32)), .val (.int (2 : Int32)), .val (.long (2 : Int64)), .second] [(.long (2 : Int64))])) rfl (hb hby d1_13) _ ?_
    show Steps p.tables e below (T1.setTop (mkF m 16 #[.val (.ref a0), .val (.int (1 : Int32)), .val (.int (2 : Int32)), .val (.long (2 : Int64)), .second] [(.long (2147483639 : Int64)), (.long (2 : Int64))])) t
    refine XS.lcmp X1.here hx rfl (hb hby d1_16) rfl ?_
    show Steps p.tables e below (T1.setTop (mkF m 17 #[.val (.ref a0), .val (.int (1 : Int32)), .val (.int (2 : Int32)), .val (.long (2 : Int64)), .second] [(.int (lcmpW (2 : Int64) (2147483639 : Int64)))])) t
    refine XS.ifYes X1.here hx rfl (pc0 := 17) (pc' := 35) rfl (hb hby d1_17) rfl (by decide) (by decide) (by decide) ?_
    show Steps p.tables e below (T1.setTop (mkF m 35 #[.val (.ref a0), .val (.int (1 : Int32)), .val (.int (2 : Int32)), .val (.long (2 : Int64)), .second] [])) t
    refine XS.aloadN X1.here hx rfl (hb hby d1_35) rfl rfl ?_
    show Steps p.tables e below (T1.setTop (mkF m 36 #[.val (.ref a0), .val (.int (1 : Int32)), .val (.int (2 : Int32)), .val (.long (2 : Int64)), .second] [(.ref a0)])) t
    refine XS.lloadN X1.here hx rfl (hb hby d1_36) rfl ?_
    show Steps p.tables e below (T1.setTop (mkF m 37 #[.val (.ref a0), .val (.int (1 : Int32)), .val (.int (2 : Int32)), .val (.long (2 : Int64)), .second] [(.long (2 : Int64)), (.ref a0)])) t
    refine XS.l2i X1.here hx rfl (hb hby d1_37) rfl ?_
    exact k
  obtain ⟨T10, h10, k10, X10, e10, E10, A10, st10⟩ := newP X1 hx hZ (hw _ (List.mem_of_getElem? (i := 19) rfl)) (rfl : T1.heap = T1.heap) (g := (mkF m 38 #[.val (.ref a0), .val (.int (1 : Int32)), .val (.int (2 : Int32)), .val (.long (2 : Int64)), .second] [(.int (2 : Int32)), (.ref a0)])) rfl (hb hby d1_38) rfl (by decide) (cap := 2) (by decide) (by decide) (by decide) (by decide)
  obtain ⟨b10, g10⟩ : ∃ z, z = T1.heap.size := ⟨_, rfl⟩
  rw [← g10] at A10 st10
  have ne_a0_b10 : a0 ≠ b10 := Nat.ne_of_lt (Nat.lt_of_lt_of_le f2.lt (Nat.le_of_eq g10.symm))
  have g_b10 : n0 ≤ b10 := Nat.le_trans z8 (Nat.le_of_eq g10.symm)
  have sz_b10 : h0.size ≤ b10 := Nat.le_trans k9.1 (Nat.le_of_eq g10.symm)
  have f11 := f2.ext E10
  have f12 := f3.ext E10
  have f13 := f4.ext E10
  have f14 := f5.ext E10
  have z15 := Nat.le_trans z8 E10.1
  have k16 := k9.ext E10
  have v17 : Arv Z h10 b10 k10 .double (2 : Int32) [(.double (0 : UInt64)), (.double (0 : UInt64))] (.double (0 : UInt64)) := (Arv.new A10 (by decide)).pad (pad_rep [] (.double (0 : UInt64)) 2)
  refine own_st (T' := T10) (g' := (mkF m 40 #[.val (.ref a0), .val (.int (1 : Int32)), .val (.int (2 : Int32)), .val (.long (2 : Int64)), .second] [(.ref b10), (.ref a0)])) st10 ?_
  obtain ⟨T18, h18, X18, e18, W18, st18⟩ := putF X10 hx hZ hown (host := "") (Or.inl (hw _ (List.mem_of_getElem? (i := 20) rfl))) Via.refl e10 f14 f11 (Or.inr ⟨(hw _ (List.mem_of_getElem? (i := 21) rfl)), rfl, hnm⟩) (hw _ (List.mem_of_getElem? (i := 1) rfl)) (ty := (.array .double)) (by decide) rfl rfl (g := (mkF m 40 #[.val (.ref a0), .val (.int (1 : Int32)), .val (.int (2 : Int32)), .val (.long (2 : Int64)), .second] [(.ref b10), (.ref a0)])) rfl rfl (hb hby d1_40)
  have f19 := f11.wr W18
  have f20 := f12.other W18 (Or.inr (slot_ne (Or.inr (hw _ (List.mem_of_getElem? (i := 15) rfl))) (Or.inr (hw _ (List.mem_of_getElem? (i := 21) rfl))) (by decide) (t := .int) (t' := (.array .double)) (by decide) (by decide)))
  have f21 := f13.other W18 (Or.inr (slot_ne (Or.inr (hw _ (List.mem_of_getElem? (i := 17) rfl))) (Or.inr (hw _ (List.mem_of_getElem? (i := 21) rfl))) (by decide) (t := .int) (t' := (.array .double)) (by decide) (by decide)))
  have f22 := f14.same W18
  have f23 := v17.other W18 (Ne.symm ne_a0_b10)
  have z24 := Nat.le_trans z15 (Keep.of_wr W18).1
  have k25 := k16.wr W18 (Or.inl (List.mem_of_getElem? (i := 0) rfl))
  have n26 := Fr.snoc X18 n6 g_a0
  refine own_st (T' := T18) (g' := (mkF m 43 #[.val (.ref a0), .val (.int (1 : Int32)), .val (.int (2 : Int32)), .val (.long (2 : Int64)), .second] [])) st18 ?_
  refine own_retV X18 hx hlk Bd.returns (hb hby d1_43) (by decide) (by decide) ?_
  show QI12 Z a0 u_rows_a0 u_columns_a0 u_values_a0 h0 n0 none T18.heap _
  rw [(e18 : T18.heap = h18)]
  exact ⟨b10, k10, rfl, n26, k25, sz_b10, f19, f20, f21, f22, f23⟩
theorem pnI20 : plainName "com/example/winnowfold/winnowfold/math/DenseMatrix" = true := by first | (simp [plainName, overriddenIn]; done) | decide +kernel
theorem pdI20_0 : parseMethodDescriptor "(II)V" = some ⟨[.int, .int], none⟩ := by decide +kernel
theorem efI20 (m : MethodId) (a0 : Addr) : entryFrame m #[(.ref a0), (.int (2 : Int32)), (.int (0 : Int32))] 5 = mkF m 0 #[.val (.ref a0), .val (.int (2 : Int32)), .val (.int (0 : Int32)), .unset, .unset] [] := by first | (simp [entryFrame, mkF, argsToLocals, Value.category]; done) | rfl
def QI20 (Z : State) (a0 : Addr) (u_rows_a0 : Value) (u_columns_a0 : Value) (u_values_a0 : Value) (h0 : Heap) (n0 : Nat) (v : Option Value) (h : Heap) (L : List Loc) : Prop := ∃ (x0 : Addr) (kx_x0 : ClassId), v = none ∧ Fr n0 L ∧ Keep h0 h [a0] ∧ h0.size ≤ x0 ∧ Exa Z h a0 "com/example/winnowfold/winnowfold/math/DenseMatrix" ∧ Fld Z h a0 "com/example/winnowfold/winnowfold/math/AbstractMatrix" "rows" "I" (.int (2 : Int32)) ∧ Fld Z h a0 "com/example/winnowfold/winnowfold/math/AbstractMatrix" "columns" "I" (.int (0 : Int32)) ∧ Fld Z h a0 "com/example/winnowfold/winnowfold/math/DenseMatrix" "values" "[D" (.ref x0) ∧ Arv Z h x0 kx_x0 .double (0 : Int32) [] (.double (0 : UInt64))
set_option maxRecDepth 65536 in
set_option maxHeartbeats 40000000 in
theorem rmI20 (l : Launch) (Z : State) (ar : Array Value) (hw : ∀ d ∈ tables_1, d.before ar Z = true) (ws : List Jvm.Cond) (a0 : Addr) (u_rows_a0 : Value) (u_columns_a0 : Value) (u_values_a0 : Value) (h0 : Heap) (n0 : Nat) (Z0 : n0 ≤ h0.size) (E_a0 : Exa Z h0 a0 "com/example/winnowfold/winnowfold/math/DenseMatrix") (F_rows_a0 : Fld Z h0 a0 "com/example/winnowfold/winnowfold/math/AbstractMatrix" "rows" "I" u_rows_a0) (F_columns_a0 : Fld Z h0 a0 "com/example/winnowfold/winnowfold/math/AbstractMatrix" "columns" "I" u_columns_a0) (F_values_a0 : Fld Z h0 a0 "com/example/winnowfold/winnowfold/math/DenseMatrix" "values" "[D" u_values_a0) (g_a0 : n0 ≤ a0) :
    MetFree l (⟨"com/example/winnowfold/winnowfold/math/DenseMatrix", "<init>", "(II)V"⟩ : MethodName) (head1 (Jvm.Cond.code (⟨"com/example/winnowfold/winnowfold/math/DenseMatrix", "<init>", "(II)V"⟩ : MethodName) prog_51_method_1_code 5 none :: ws) ({ frames := 2, cells := 1, slots := 0, locals := 26 } : Room)) (fun a U => a = #[(.ref a0), (.int (2 : Int32)), (.int (0 : Int32))] ∧ Z.Warmed39 U.vm ∧ U.heap = h0) (fun _ _ _ _ _ => True) (fun _ U o U' => ∃ v L, o = .returned v ∧ QI20 Z a0 u_rows_a0 u_columns_a0 u_values_a0 h0 n0 v U'.heap L ∧ FrameEnd U o U' L ({ frames := 2, cells := 1, slots := 0, locals := 26 } : Room).cells ({ frames := 2, cells := 1, slots := 0, locals := 26 } : Room).slots) := by
  refine MetFree.of_bodySF (plainFor_of_name pnI20) hisR ?_
  intro p e s m args below meth c s₁ Bd hml0 hP hK
  obtain ⟨rfl, hZ, hh⟩ := hP
  have hx := Bd.exec
  have hby := Bd.bytes
  have hlk := Bd.notSynchronized
  have hml : c.maxLocals = 5 := hml0
  have hown : s.vm.findClass "com/example/winnowfold/winnowfold/math/DenseMatrix" = some m.cls := findClass_of_methodNamed Bd.named
  have hnm := (name_of_methodNamed Bd.named Bd.method).1
  have X0 : Stand p l e ({ frames := 2, cells := 1, slots := 0, locals := 26 } : Room) s m #[(.ref a0), (.int (2 : Int32)), (.int (0 : Int32))] below meth c s₁ [] 0 0 := Stand.of_body Bd
  have e0 : s₁.heap = h0 := by rw [← hh, Bd.state]; rfl
  have N0 := Fr.nil n0
  have K0 := Keep.refl h0 [a0]
  refine own_enter (Q := QI20 Z a0 u_rows_a0 u_columns_a0 u_values_a0 h0 n0) (efI20 m a0) ?_
  refine own_st (T' := s₁) (g' := (mkF m 3 #[.val (.ref a0), .val (.int (2 : Int32)), .val (.int (0 : Int32)), .unset, .unset] [(.int (0 : Int32)), (.int (2 : Int32)), (.ref a0)])) (fun t k => ?_) ?_
  · show Steps p.tables e below (s₁.setTop (mkF m 0 #[.val (.ref a0), .val (.int (2 : Int32)), .val (.int (0 : Int32)), .unset, .unset] [])) t
    refine XS.aloadN X0.here hx rfl (hb hby d1_0) rfl rfl ?_
    show Steps p.tables e below (s₁.setTop (mkF m 1 #[.val (.ref a0), .val (.int (2 : Int32)), .val (.int (0 : Int32)), .unset, .unset] [(.ref a0)])) t
    refine XS.iloadN X0.here hx rfl (hb hby d1_1) rfl ?_
    show Steps p.tables e below (s₁.setTop (mkF m 2 #[.val (.ref a0), .val (.int (2 : Int32)), .val (.int (0 : Int32)), .unset, .unset] [(.int (2 : Int32)), (.ref a0)])) t
    refine XS.iloadN X0.here hx rfl (hb hby d1_2) rfl ?_
    exact k
  obtain ⟨_, _, ⟨T1, L1, k1, n1⟩, -, X1, ⟨Lc1, hQ1, l1, y1, z1⟩, st1⟩ := X0.specialBack hx (y := (⟨"com/example/winnowfold/winnowfold/math/AbstractMatrix", "<init>", "(II)V"⟩ : MethodName)) rfl hown (mvT hZ (hw _ (List.mem_of_getElem? (i := 6) rfl))) (mvT hZ (hw _ (List.mem_of_getElem? (i := 7) rfl))) (mvT hZ (hw _ (List.mem_of_getElem? (i := 10) rfl))) (by decide) (backOf (W := 0) (rmA20 l Z ar hw [] a0 u_rows_a0 u_columns_a0 u_values_a0 h0 n0 Z0 E_a0 F_rows_a0 F_columns_a0 F_values_a0 g_a0) hZ (hw _ (List.mem_of_getElem? (i := 10) rfl)) (hw _ (List.mem_of_getElem? (i := 9) rfl)) (by decide) (by decide)) (g := (mkF m 3 #[.val (.ref a0), .val (.int (2 : Int32)), .val (.int (0 : Int32)), .unset, .unset] [(.int (0 : Int32)), (.int (2 : Int32)), (.ref a0)])) rfl (by rw [hml]; rfl) (Steps.refl _) (a := a0) (argsL := [(.int (2 : Int32)), (.int (0 : Int32))]) (rest := []) (lenOf pdI20_0 rfl) rfl (by show 2 * 0 + _ ≤ _; exact Nat.le_of_eq rfl) (hb hby d1_3) (fun _ _ => ⟨rfl, e0, (by decide : 0 + 0 ≤ _), (by decide : 0 + 0 ≤ _)⟩)
  dsimp only [Pt.U, Pt.locs, Pt.cells, Pt.slots] at X1 l1 y1 z1 st1 hQ1
  subst l1 y1 z1
  obtain ⟨rfl, N1q, K1, f2, f3, f4, f5⟩ := hQ1
  have n6 := Fr.app N0 N1q
  have f7 := E_a0.keep K1
  have z8 := Nat.le_trans Z0 K1.1
  have k9 := K0.trans K1 (allS (Or.inl (List.mem_of_getElem? (i := 0) rfl)) all0)
  refine own_tr (T' := T1) (g' := (mkF m 6 #[.val (.ref a0), .val (.int (2 : Int32)), .val (.int (0 : Int32)), .unset, .unset] [])) st1 ?_
  refine own_st (T' := T1) (g' := (mkF m 38 #[.val (.ref a0), .val (.int (2 : Int32)), .val (.int (0 : Int32)), .val (.long (0 : Int64)), .second] [(.int (0 : Int32)), (.ref a0)])) (fun t k => ?_) ?_
  · show Steps p.tables e below (T1.setTop (mkF m 6 #[.val (.ref a0), .val (.int (2 : Int32)), .val (.int (0 : Int32)), .unset, .unset] [])) t
    refine XS.iloadN X1.here hx rfl (hb hby d1_6) rfl ?_
    show Steps p.tables e below (T1.setTop (mkF m 7 #[.val (.ref a0), .val (.int (2 : Int32)), .val (.int (0 : Int32)), .unset, .unset] [(.int (2 : Int32))])) t
    refine XS.i2l X1.here hx rfl (hb hby d1_7) rfl ?_
    show Steps p.tables e below (T1.setTop (mkF m 8 #[.val (.ref a0), .val (.int (2 : Int32)), .val (.int (0 : Int32)), .unset, .unset] [(.long (2 : Int64))])) t
    refine XS.iloadN X1.here hx rfl (hb hby d1_8) rfl ?_
    show Steps p.tables e below (T1.setTop (mkF m 9 #[.val (.ref a0), .val (.int (2 : Int32)), .val (.int (0 : Int32)), .unset, .unset] [(.int (0 : Int32)), (.long (2 : Int64))])) t
    refine XS.i2l X1.here hx rfl (hb hby d1_9) rfl ?_
    show Steps p.tables e below (T1.setTop (mkF m 10 #[.val (.ref a0), .val (.int (2 : Int32)), .val (.int (0 : Int32)), .unset, .unset] [(.long (0 : Int64)), (.long (2 : Int64))])) t
    refine XS.lmul X1.here hx rfl (hb hby d1_10) rfl ?_
    show Steps p.tables e below (T1.setTop (mkF m 11 #[.val (.ref a0), .val (.int (2 : Int32)), .val (.int (0 : Int32)), .unset, .unset] [(.long (0 : Int64))])) t
    refine XS.lstoreN X1.here hx rfl (hb hby d1_11) rfl (l' := #[.val (.ref a0), .val (.int (2 : Int32)), .val (.int (0 : Int32)), .val (.long (0 : Int64)), .second]) rfl ?_
    show Steps p.tables e below (T1.setTop (mkF m 12 #[.val (.ref a0), .val (.int (2 : Int32)), .val (.int (0 : Int32)), .val (.long (0 : Int64)), .second] [])) t
    refine XS.lloadN X1.here hx rfl (hb hby d1_12) rfl ?_
    show Steps p.tables e below (T1.setTop (mkF m 13 #[.val (.ref a0), .val (.int (2 : Int32)), .val (.int (0 : Int32)), .val (.long (0 : Int64)), .second] [(.long (0 : Int64))])) t
    refine X1.ldc2Long hx hown (mvT hZ (hw _ (List.mem_of_getElem? (i := 18) rfl))) (g := (mkF m 13 #[.val (.ref a0), .val (.int (2 : Int32)), .val (.int (0 : Int32)), .val (.long (0 : Int64)), .second] [(.long (0 : Int64))])) rfl (hb hby d1_13) _ ?_
    show Steps p.tables e below (T1.setTop (mkF m 16 #[.val (.ref a0), .val (.int (2 : Int32)), .val (.int (0 : Int32)), .val (.long (0 : Int64)), .second] [(.long (2147483639 : Int64)), (.long (0 : Int64))])) t
    refine XS.lcmp X1.here hx rfl (hb hby d1_16) rfl ?_
    show Steps p.tables e below (T1.setTop (mkF m 17 #[.val (.ref a0), .val (.int (2 : Int32)), .val (.int (0 : Int32)), .val (.long (0 : Int64)), .second] [(.int (lcmpW (0 : Int64) (2147483639 : Int64)))])) t
    refine XS.ifYes X1.here hx rfl (pc0 := 17) (pc' := 35) rfl (hb hby d1_17) rfl (by decide) (by decide) (by decide) ?_
    show Steps p.tables e below (T1.setTop (mkF m 35 #[.val (.ref a0), .val (.int (2 : Int32)), .val (.int (0 : Int32)), .val (.long (0 : Int64)), .second] [])) t
    refine XS.aloadN X1.here hx rfl (hb hby d1_35) rfl rfl ?_
    show Steps p.tables e below (T1.setTop (mkF m 36 #[.val (.ref a0), .val (.int (2 : Int32)), .val (.int (0 : Int32)), .val (.long (0 : Int64)), .second] [(.ref a0)])) t
    refine XS.lloadN X1.here hx rfl (hb hby d1_36) rfl ?_
    show Steps p.tables e below (T1.setTop (mkF m 37 #[.val (.ref a0), .val (.int (2 : Int32)), .val (.int (0 : Int32)), .val (.long (0 : Int64)), .second] [(.long (0 : Int64)), (.ref a0)])) t
    refine XS.l2i X1.here hx rfl (hb hby d1_37) rfl ?_
    exact k
  obtain ⟨T10, h10, k10, X10, e10, E10, A10, st10⟩ := newP X1 hx hZ (hw _ (List.mem_of_getElem? (i := 19) rfl)) (rfl : T1.heap = T1.heap) (g := (mkF m 38 #[.val (.ref a0), .val (.int (2 : Int32)), .val (.int (0 : Int32)), .val (.long (0 : Int64)), .second] [(.int (0 : Int32)), (.ref a0)])) rfl (hb hby d1_38) rfl (by decide) (cap := 0) (by decide) (by decide) (by decide) (by decide)
  obtain ⟨b10, g10⟩ : ∃ z, z = T1.heap.size := ⟨_, rfl⟩
  rw [← g10] at A10 st10
  have ne_a0_b10 : a0 ≠ b10 := Nat.ne_of_lt (Nat.lt_of_lt_of_le f2.lt (Nat.le_of_eq g10.symm))
  have g_b10 : n0 ≤ b10 := Nat.le_trans z8 (Nat.le_of_eq g10.symm)
  have sz_b10 : h0.size ≤ b10 := Nat.le_trans k9.1 (Nat.le_of_eq g10.symm)
  have f11 := f2.ext E10
  have f12 := f3.ext E10
  have f13 := f4.ext E10
  have f14 := f5.ext E10
  have z15 := Nat.le_trans z8 E10.1
  have k16 := k9.ext E10
  have v17 : Arv Z h10 b10 k10 .double (0 : Int32) [] (.double (0 : UInt64)) := Arv.new A10 (by decide)
  refine own_st (T' := T10) (g' := (mkF m 40 #[.val (.ref a0), .val (.int (2 : Int32)), .val (.int (0 : Int32)), .val (.long (0 : Int64)), .second] [(.ref b10), (.ref a0)])) st10 ?_
  obtain ⟨T18, h18, X18, e18, W18, st18⟩ := putF X10 hx hZ hown (host := "") (Or.inl (hw _ (List.mem_of_getElem? (i := 20) rfl))) Via.refl e10 f14 f11 (Or.inr ⟨(hw _ (List.mem_of_getElem? (i := 21) rfl)), rfl, hnm⟩) (hw _ (List.mem_of_getElem? (i := 1) rfl)) (ty := (.array .double)) (by decide) rfl rfl (g := (mkF m 40 #[.val (.ref a0), .val (.int (2 : Int32)), .val (.int (0 : Int32)), .val (.long (0 : Int64)), .second] [(.ref b10), (.ref a0)])) rfl rfl (hb hby d1_40)
  have f19 := f11.wr W18
  have f20 := f12.other W18 (Or.inr (slot_ne (Or.inr (hw _ (List.mem_of_getElem? (i := 15) rfl))) (Or.inr (hw _ (List.mem_of_getElem? (i := 21) rfl))) (by decide) (t := .int) (t' := (.array .double)) (by decide) (by decide)))
  have f21 := f13.other W18 (Or.inr (slot_ne (Or.inr (hw _ (List.mem_of_getElem? (i := 17) rfl))) (Or.inr (hw _ (List.mem_of_getElem? (i := 21) rfl))) (by decide) (t := .int) (t' := (.array .double)) (by decide) (by decide)))
  have f22 := f14.same W18
  have f23 := v17.other W18 (Ne.symm ne_a0_b10)
  have z24 := Nat.le_trans z15 (Keep.of_wr W18).1
  have k25 := k16.wr W18 (Or.inl (List.mem_of_getElem? (i := 0) rfl))
  have n26 := Fr.snoc X18 n6 g_a0
  refine own_st (T' := T18) (g' := (mkF m 43 #[.val (.ref a0), .val (.int (2 : Int32)), .val (.int (0 : Int32)), .val (.long (0 : Int64)), .second] [])) st18 ?_
  refine own_retV X18 hx hlk Bd.returns (hb hby d1_43) (by decide) (by decide) ?_
  show QI20 Z a0 u_rows_a0 u_columns_a0 u_values_a0 h0 n0 none T18.heap _
  rw [(e18 : T18.heap = h18)]
  exact ⟨b10, k10, rfl, n26, k25, sz_b10, f19, f20, f21, f22, f23⟩
theorem pnI21 : plainName "com/example/winnowfold/winnowfold/math/DenseMatrix" = true := by first | (simp [plainName, overriddenIn]; done) | decide +kernel
theorem pdI21_0 : parseMethodDescriptor "(II)V" = some ⟨[.int, .int], none⟩ := by decide +kernel
theorem efI21 (m : MethodId) (a0 : Addr) : entryFrame m #[(.ref a0), (.int (2 : Int32)), (.int (1 : Int32))] 5 = mkF m 0 #[.val (.ref a0), .val (.int (2 : Int32)), .val (.int (1 : Int32)), .unset, .unset] [] := by first | (simp [entryFrame, mkF, argsToLocals, Value.category]; done) | rfl
def QI21 (Z : State) (a0 : Addr) (u_rows_a0 : Value) (u_columns_a0 : Value) (u_values_a0 : Value) (h0 : Heap) (n0 : Nat) (v : Option Value) (h : Heap) (L : List Loc) : Prop := ∃ (x0 : Addr) (kx_x0 : ClassId), v = none ∧ Fr n0 L ∧ Keep h0 h [a0] ∧ h0.size ≤ x0 ∧ Exa Z h a0 "com/example/winnowfold/winnowfold/math/DenseMatrix" ∧ Fld Z h a0 "com/example/winnowfold/winnowfold/math/AbstractMatrix" "rows" "I" (.int (2 : Int32)) ∧ Fld Z h a0 "com/example/winnowfold/winnowfold/math/AbstractMatrix" "columns" "I" (.int (1 : Int32)) ∧ Fld Z h a0 "com/example/winnowfold/winnowfold/math/DenseMatrix" "values" "[D" (.ref x0) ∧ Arv Z h x0 kx_x0 .double (2 : Int32) [(.double (0 : UInt64)), (.double (0 : UInt64))] (.double (0 : UInt64))
set_option maxRecDepth 65536 in
set_option maxHeartbeats 40000000 in
theorem rmI21 (l : Launch) (Z : State) (ar : Array Value) (hw : ∀ d ∈ tables_1, d.before ar Z = true) (ws : List Jvm.Cond) (a0 : Addr) (u_rows_a0 : Value) (u_columns_a0 : Value) (u_values_a0 : Value) (h0 : Heap) (n0 : Nat) (Z0 : n0 ≤ h0.size) (E_a0 : Exa Z h0 a0 "com/example/winnowfold/winnowfold/math/DenseMatrix") (F_rows_a0 : Fld Z h0 a0 "com/example/winnowfold/winnowfold/math/AbstractMatrix" "rows" "I" u_rows_a0) (F_columns_a0 : Fld Z h0 a0 "com/example/winnowfold/winnowfold/math/AbstractMatrix" "columns" "I" u_columns_a0) (F_values_a0 : Fld Z h0 a0 "com/example/winnowfold/winnowfold/math/DenseMatrix" "values" "[D" u_values_a0) (g_a0 : n0 ≤ a0) :
    MetFree l (⟨"com/example/winnowfold/winnowfold/math/DenseMatrix", "<init>", "(II)V"⟩ : MethodName) (head1 (Jvm.Cond.code (⟨"com/example/winnowfold/winnowfold/math/DenseMatrix", "<init>", "(II)V"⟩ : MethodName) prog_51_method_1_code 5 none :: ws) ({ frames := 2, cells := 1, slots := 2, locals := 26 } : Room)) (fun a U => a = #[(.ref a0), (.int (2 : Int32)), (.int (1 : Int32))] ∧ Z.Warmed39 U.vm ∧ U.heap = h0) (fun _ _ _ _ _ => True) (fun _ U o U' => ∃ v L, o = .returned v ∧ QI21 Z a0 u_rows_a0 u_columns_a0 u_values_a0 h0 n0 v U'.heap L ∧ FrameEnd U o U' L ({ frames := 2, cells := 1, slots := 2, locals := 26 } : Room).cells ({ frames := 2, cells := 1, slots := 2, locals := 26 } : Room).slots) := by
  refine MetFree.of_bodySF (plainFor_of_name pnI21) hisR ?_
  intro p e s m args below meth c s₁ Bd hml0 hP hK
  obtain ⟨rfl, hZ, hh⟩ := hP
  have hx := Bd.exec
  have hby := Bd.bytes
  have hlk := Bd.notSynchronized
  have hml : c.maxLocals = 5 := hml0
  have hown : s.vm.findClass "com/example/winnowfold/winnowfold/math/DenseMatrix" = some m.cls := findClass_of_methodNamed Bd.named
  have hnm := (name_of_methodNamed Bd.named Bd.method).1
  have X0 : Stand p l e ({ frames := 2, cells := 1, slots := 2, locals := 26 } : Room) s m #[(.ref a0), (.int (2 : Int32)), (.int (1 : Int32))] below meth c s₁ [] 0 0 := Stand.of_body Bd
  have e0 : s₁.heap = h0 := by rw [← hh, Bd.state]; rfl
  have N0 := Fr.nil n0
  have K0 := Keep.refl h0 [a0]
  refine own_enter (Q := QI21 Z a0 u_rows_a0 u_columns_a0 u_values_a0 h0 n0) (efI21 m a0) ?_
  refine own_st (T' := s₁) (g' := (mkF m 3 #[.val (.ref a0), .val (.int (2 : Int32)), .val (.int (1 : Int32)), .unset, .unset] [(.int (1 : Int32)), (.int (2 : Int32)), (.ref a0)])) (fun t k => ?_) ?_
  · show Steps p.tables e below (s₁.setTop (mkF m 0 #[.val (.ref a0), .val (.int (2 : Int32)), .val (.int (1 : Int32)), .unset, .unset] [])) t
    refine XS.aloadN X0.here hx rfl (hb hby d1_0) rfl rfl ?_
    show Steps p.tables e below (s₁.setTop (mkF m 1 #[.val (.ref a0), .val (.int (2 : Int32)), .val (.int (1 : Int32)), .unset, .unset] [(.ref a0)])) t
    refine XS.iloadN X0.here hx rfl (hb hby d1_1) rfl ?_
    show Steps p.tables e below (s₁.setTop (mkF m 2 #[.val (.ref a0), .val (.int (2 : Int32)), .val (.int (1 : Int32)), .unset, .unset] [(.int (2 : Int32)), (.ref a0)])) t
    refine XS.iloadN X0.here hx rfl (hb hby d1_2) rfl ?_
    exact k
  obtain ⟨_, _, ⟨T1, L1, k1, n1⟩, -, X1, ⟨Lc1, hQ1, l1, y1, z1⟩, st1⟩ := X0.specialBack hx (y := (⟨"com/example/winnowfold/winnowfold/math/AbstractMatrix", "<init>", "(II)V"⟩ : MethodName)) rfl hown (mvT hZ (hw _ (List.mem_of_getElem? (i := 6) rfl))) (mvT hZ (hw _ (List.mem_of_getElem? (i := 7) rfl))) (mvT hZ (hw _ (List.mem_of_getElem? (i := 10) rfl))) (by decide) (backOf (W := 0) (rmA21 l Z ar hw [] a0 u_rows_a0 u_columns_a0 u_values_a0 h0 n0 Z0 E_a0 F_rows_a0 F_columns_a0 F_values_a0 g_a0) hZ (hw _ (List.mem_of_getElem? (i := 10) rfl)) (hw _ (List.mem_of_getElem? (i := 9) rfl)) (by decide) (by decide)) (g := (mkF m 3 #[.val (.ref a0), .val (.int (2 : Int32)), .val (.int (1 : Int32)), .unset, .unset] [(.int (1 : Int32)), (.int (2 : Int32)), (.ref a0)])) rfl (by rw [hml]; rfl) (Steps.refl _) (a := a0) (argsL := [(.int (2 : Int32)), (.int (1 : Int32))]) (rest := []) (lenOf pdI21_0 rfl) rfl (by show 2 * 0 + _ ≤ _; exact Nat.le_of_eq rfl) (hb hby d1_3) (fun _ _ => ⟨rfl, e0, (by decide : 0 + 0 ≤ _), (by decide : 0 + 0 ≤ _)⟩)
  dsimp only [Pt.U, Pt.locs, Pt.cells, Pt.slots] at X1 l1 y1 z1 st1 hQ1
  subst l1 y1 z1
  obtain ⟨rfl, N1q, K1, f2, f3, f4, f5⟩ := hQ1
  have n6 := Fr.app N0 N1q
  have f7 := E_a0.keep K1
  have z8 := Nat.le_trans Z0 K1.1
  have k9 := K0.trans K1 (allS (Or.inl (List.mem_of_getElem? (i := 0) rfl)) all0)
  refine own_tr (T' := T1) (g' := (mkF m 6 #[.val (.ref a0), .val (.int (2 : Int32)), .val (.int (1 : Int32)), .unset, .unset] [])) st1 ?_
  refine own_st (T' := T1) (g' := (mkF m 38 #[.val (.ref a0), .val (.int (2 : Int32)), .val (.int (1 : Int32)), .val (.long (2 : Int64)), .second] [(.int (2 : Int32)), (.ref a0)])) (fun t k => ?_) ?_
  · show Steps p.tables e below (T1.setTop (mkF m 6 #[.val (.ref a0), .val (.int (2 : Int32)), .val (.int (1 : Int32)), .unset, .unset] [])) t
    refine XS.iloadN X1.here hx rfl (hb hby d1_6) rfl ?_
    show Steps p.tables e below (T1.setTop (mkF m 7 #[.val (.ref a0), .val (.int (2 : Int32)), .val (.int (1 : Int32)), .unset, .unset] [(.int (2 : Int32))])) t
    refine XS.i2l X1.here hx rfl (hb hby d1_7) rfl ?_
    show Steps p.tables e below (T1.setTop (mkF m 8 #[.val (.ref a0), .val (.int (2 : Int32)), .val (.int (1 : Int32)), .unset, .unset] [(.long (2 : Int64))])) t
    refine XS.iloadN X1.here hx rfl (hb hby d1_8) rfl ?_
    show Steps p.tables e below (T1.setTop (mkF m 9 #[.val (.ref a0), .val (.int (2 : Int32)), .val (.int (1 : Int32)), .unset, .unset] [(.int (1 : Int32)), (.long (2 : Int64))])) t
    refine XS.i2l X1.here hx rfl (hb hby d1_9) rfl ?_
    show Steps p.tables e below (T1.setTop (mkF m 10 #[.val (.ref a0), .val (.int (2 : Int32)), .val (.int (1 : Int32)), .unset, .unset] [(.long (1 : Int64)), (.long (2 : Int64))])) t
    refine XS.lmul X1.here hx rfl (hb hby d1_10) rfl ?_
    show Steps p.tables e below (T1.setTop (mkF m 11 #[.val (.ref a0), .val (.int (2 : Int32)), .val (.int (1 : Int32)), .unset, .unset] [(.long (2 : Int64))])) t
    refine XS.lstoreN X1.here hx rfl (hb hby d1_11) rfl (l' := #[.val (.ref a0), .val (.int (2 : Int32)), .val (.int (1 : Int32)), .val (.long (2 : Int64)), .second]) rfl ?_
    show Steps p.tables e below (T1.setTop (mkF m 12 #[.val (.ref a0), .val (.int (2 : Int32)), .val (.int (1 : Int32)), .val (.long (2 : Int64)), .second] [])) t
    refine XS.lloadN X1.here hx rfl (hb hby d1_12) rfl ?_
    show Steps p.tables e below (T1.setTop (mkF m 13 #[.val (.ref a0), .val (.int (2 : Int32)), .val (.int (1 : Int32)), .val (.long (2 : Int64)), .second] [(.long (2 : Int64))])) t
    refine X1.ldc2Long hx hown (mvT hZ (hw _ (List.mem_of_getElem? (i := 18) rfl))) (g := (mkF m 13 #[.val (.ref a0), .val (.int (2 : Int32)), .val (.int (1 : Int32)), .val (.long (2 : Int64)), .second] [(.long (2 : Int64))])) rfl (hb hby d1_13) _ ?_
    show Steps p.tables e below (T1.setTop (mkF m 16 #[.val (.ref a0), .val (.int (2 : Int32)), .val (.int (1 : Int32)), .val (.long (2 : Int64)), .second] [(.long (2147483639 : Int64)), (.long (2 : Int64))])) t
    refine XS.lcmp X1.here hx rfl (hb hby d1_16) rfl ?_
    show Steps p.tables e below (T1.setTop (mkF m 17 #[.val (.ref a0), .val (.int (2 : Int32)), .val (.int (1 : Int32)), .val (.long (2 : Int64)), .second] [(.int (lcmpW (2 : Int64) (2147483639 : Int64)))])) t
    refine XS.ifYes X1.here hx rfl (pc0 := 17) (pc' := 35) rfl (hb hby d1_17) rfl (by decide) (by decide) (by decide) ?_
    show Steps p.tables e below (T1.setTop (mkF m 35 #[.val (.ref a0), .val (.int (2 : Int32)), .val (.int (1 : Int32)), .val (.long (2 : Int64)), .second] [])) t
    refine XS.aloadN X1.here hx rfl (hb hby d1_35) rfl rfl ?_
    show Steps p.tables e below (T1.setTop (mkF m 36 #[.val (.ref a0), .val (.int (2 : Int32)), .val (.int (1 : Int32)), .val (.long (2 : Int64)), .second] [(.ref a0)])) t
    refine XS.lloadN X1.here hx rfl (hb hby d1_36) rfl ?_
    show Steps p.tables e below (T1.setTop (mkF m 37 #[.val (.ref a0), .val (.int (2 : Int32)), .val (.int (1 : Int32)), .val (.long (2 : Int64)), .second] [(.long (2 : Int64)), (.ref a0)])) t
    refine XS.l2i X1.here hx rfl (hb hby d1_37) rfl ?_
    exact k
  obtain ⟨T10, h10, k10, X10, e10, E10, A10, st10⟩ := newP X1 hx hZ (hw _ (List.mem_of_getElem? (i := 19) rfl)) (rfl : T1.heap = T1.heap) (g := (mkF m 38 #[.val (.ref a0), .val (.int (2 : Int32)), .val (.int (1 : Int32)), .val (.long (2 : Int64)), .second] [(.int (2 : Int32)), (.ref a0)])) rfl (hb hby d1_38) rfl (by decide) (cap := 2) (by decide) (by decide) (by decide) (by decide)
  obtain ⟨b10, g10⟩ : ∃ z, z = T1.heap.size := ⟨_, rfl⟩
  rw [← g10] at A10 st10
  have ne_a0_b10 : a0 ≠ b10 := Nat.ne_of_lt (Nat.lt_of_lt_of_le f2.lt (Nat.le_of_eq g10.symm))
  have g_b10 : n0 ≤ b10 := Nat.le_trans z8 (Nat.le_of_eq g10.symm)
  have sz_b10 : h0.size ≤ b10 := Nat.le_trans k9.1 (Nat.le_of_eq g10.symm)
  have f11 := f2.ext E10
  have f12 := f3.ext E10
  have f13 := f4.ext E10
  have f14 := f5.ext E10
  have z15 := Nat.le_trans z8 E10.1
  have k16 := k9.ext E10
  have v17 : Arv Z h10 b10 k10 .double (2 : Int32) [(.double (0 : UInt64)), (.double (0 : UInt64))] (.double (0 : UInt64)) := (Arv.new A10 (by decide)).pad (pad_rep [] (.double (0 : UInt64)) 2)
  refine own_st (T' := T10) (g' := (mkF m 40 #[.val (.ref a0), .val (.int (2 : Int32)), .val (.int (1 : Int32)), .val (.long (2 : Int64)), .second] [(.ref b10), (.ref a0)])) st10 ?_
  obtain ⟨T18, h18, X18, e18, W18, st18⟩ := putF X10 hx hZ hown (host := "") (Or.inl (hw _ (List.mem_of_getElem? (i := 20) rfl))) Via.refl e10 f14 f11 (Or.inr ⟨(hw _ (List.mem_of_getElem? (i := 21) rfl)), rfl, hnm⟩) (hw _ (List.mem_of_getElem? (i := 1) rfl)) (ty := (.array .double)) (by decide) rfl rfl (g := (mkF m 40 #[.val (.ref a0), .val (.int (2 : Int32)), .val (.int (1 : Int32)), .val (.long (2 : Int64)), .second] [(.ref b10), (.ref a0)])) rfl rfl (hb hby d1_40)
  have f19 := f11.wr W18
  have f20 := f12.other W18 (Or.inr (slot_ne (Or.inr (hw _ (List.mem_of_getElem? (i := 15) rfl))) (Or.inr (hw _ (List.mem_of_getElem? (i := 21) rfl))) (by decide) (t := .int) (t' := (.array .double)) (by decide) (by decide)))
  have f21 := f13.other W18 (Or.inr (slot_ne (Or.inr (hw _ (List.mem_of_getElem? (i := 17) rfl))) (Or.inr (hw _ (List.mem_of_getElem? (i := 21) rfl))) (by decide) (t := .int) (t' := (.array .double)) (by decide) (by decide)))
  have f22 := f14.same W18
  have f23 := v17.other W18 (Ne.symm ne_a0_b10)
  have z24 := Nat.le_trans z15 (Keep.of_wr W18).1
  have k25 := k16.wr W18 (Or.inl (List.mem_of_getElem? (i := 0) rfl))
  have n26 := Fr.snoc X18 n6 g_a0
  refine own_st (T' := T18) (g' := (mkF m 43 #[.val (.ref a0), .val (.int (2 : Int32)), .val (.int (1 : Int32)), .val (.long (2 : Int64)), .second] [])) st18 ?_
  refine own_retV X18 hx hlk Bd.returns (hb hby d1_43) (by decide) (by decide) ?_
  show QI21 Z a0 u_rows_a0 u_columns_a0 u_values_a0 h0 n0 none T18.heap _
  rw [(e18 : T18.heap = h18)]
  exact ⟨b10, k10, rfl, n26, k25, sz_b10, f19, f20, f21, f22, f23⟩
theorem pnI22 : plainName "com/example/winnowfold/winnowfold/math/DenseMatrix" = true := by first | (simp [plainName, overriddenIn]; done) | decide +kernel
theorem pdI22_0 : parseMethodDescriptor "(II)V" = some ⟨[.int, .int], none⟩ := by decide +kernel
theorem efI22 (m : MethodId) (a0 : Addr) : entryFrame m #[(.ref a0), (.int (2 : Int32)), (.int (2 : Int32))] 5 = mkF m 0 #[.val (.ref a0), .val (.int (2 : Int32)), .val (.int (2 : Int32)), .unset, .unset] [] := by first | (simp [entryFrame, mkF, argsToLocals, Value.category]; done) | rfl
def QI22 (Z : State) (a0 : Addr) (u_rows_a0 : Value) (u_columns_a0 : Value) (u_values_a0 : Value) (h0 : Heap) (n0 : Nat) (v : Option Value) (h : Heap) (L : List Loc) : Prop := ∃ (x0 : Addr) (kx_x0 : ClassId), v = none ∧ Fr n0 L ∧ Keep h0 h [a0] ∧ h0.size ≤ x0 ∧ Exa Z h a0 "com/example/winnowfold/winnowfold/math/DenseMatrix" ∧ Fld Z h a0 "com/example/winnowfold/winnowfold/math/AbstractMatrix" "rows" "I" (.int (2 : Int32)) ∧ Fld Z h a0 "com/example/winnowfold/winnowfold/math/AbstractMatrix" "columns" "I" (.int (2 : Int32)) ∧ Fld Z h a0 "com/example/winnowfold/winnowfold/math/DenseMatrix" "values" "[D" (.ref x0) ∧ Arv Z h x0 kx_x0 .double (4 : Int32) [(.double (0 : UInt64)), (.double (0 : UInt64)), (.double (0 : UInt64)), (.double (0 : UInt64))] (.double (0 : UInt64))
set_option maxRecDepth 65536 in
set_option maxHeartbeats 40000000 in
theorem rmI22 (l : Launch) (Z : State) (ar : Array Value) (hw : ∀ d ∈ tables_1, d.before ar Z = true) (ws : List Jvm.Cond) (a0 : Addr) (u_rows_a0 : Value) (u_columns_a0 : Value) (u_values_a0 : Value) (h0 : Heap) (n0 : Nat) (Z0 : n0 ≤ h0.size) (E_a0 : Exa Z h0 a0 "com/example/winnowfold/winnowfold/math/DenseMatrix") (F_rows_a0 : Fld Z h0 a0 "com/example/winnowfold/winnowfold/math/AbstractMatrix" "rows" "I" u_rows_a0) (F_columns_a0 : Fld Z h0 a0 "com/example/winnowfold/winnowfold/math/AbstractMatrix" "columns" "I" u_columns_a0) (F_values_a0 : Fld Z h0 a0 "com/example/winnowfold/winnowfold/math/DenseMatrix" "values" "[D" u_values_a0) (g_a0 : n0 ≤ a0) :
    MetFree l (⟨"com/example/winnowfold/winnowfold/math/DenseMatrix", "<init>", "(II)V"⟩ : MethodName) (head1 (Jvm.Cond.code (⟨"com/example/winnowfold/winnowfold/math/DenseMatrix", "<init>", "(II)V"⟩ : MethodName) prog_51_method_1_code 5 none :: ws) ({ frames := 2, cells := 1, slots := 4, locals := 26 } : Room)) (fun a U => a = #[(.ref a0), (.int (2 : Int32)), (.int (2 : Int32))] ∧ Z.Warmed39 U.vm ∧ U.heap = h0) (fun _ _ _ _ _ => True) (fun _ U o U' => ∃ v L, o = .returned v ∧ QI22 Z a0 u_rows_a0 u_columns_a0 u_values_a0 h0 n0 v U'.heap L ∧ FrameEnd U o U' L ({ frames := 2, cells := 1, slots := 4, locals := 26 } : Room).cells ({ frames := 2, cells := 1, slots := 4, locals := 26 } : Room).slots) := by
  refine MetFree.of_bodySF (plainFor_of_name pnI22) hisR ?_
  intro p e s m args below meth c s₁ Bd hml0 hP hK
  obtain ⟨rfl, hZ, hh⟩ := hP
  have hx := Bd.exec
  have hby := Bd.bytes
  have hlk := Bd.notSynchronized
  have hml : c.maxLocals = 5 := hml0
  have hown : s.vm.findClass "com/example/winnowfold/winnowfold/math/DenseMatrix" = some m.cls := findClass_of_methodNamed Bd.named
  have hnm := (name_of_methodNamed Bd.named Bd.method).1
  have X0 : Stand p l e ({ frames := 2, cells := 1, slots := 4, locals := 26 } : Room) s m #[(.ref a0), (.int (2 : Int32)), (.int (2 : Int32))] below meth c s₁ [] 0 0 := Stand.of_body Bd
  have e0 : s₁.heap = h0 := by rw [← hh, Bd.state]; rfl
  have N0 := Fr.nil n0
  have K0 := Keep.refl h0 [a0]
  refine own_enter (Q := QI22 Z a0 u_rows_a0 u_columns_a0 u_values_a0 h0 n0) (efI22 m a0) ?_
  refine own_st (T' := s₁) (g' := (mkF m 3 #[.val (.ref a0), .val (.int (2 : Int32)), .val (.int (2 : Int32)), .unset, .unset] [(.int (2 : Int32)), (.int (2 : Int32)), (.ref a0)])) (fun t k => ?_) ?_
  · show Steps p.tables e below (s₁.setTop (mkF m 0 #[.val (.ref a0), .val (.int (2 : Int32)), .val (.int (2 : Int32)), .unset, .unset] [])) t
    refine XS.aloadN X0.here hx rfl (hb hby d1_0) rfl rfl ?_
    show Steps p.tables e below (s₁.setTop (mkF m 1 #[.val (.ref a0), .val (.int (2 : Int32)), .val (.int (2 : Int32)), .unset, .unset] [(.ref a0)])) t
    refine XS.iloadN X0.here hx rfl (hb hby d1_1) rfl ?_
    show Steps p.tables e below (s₁.setTop (mkF m 2 #[.val (.ref a0), .val (.int (2 : Int32)), .val (.int (2 : Int32)), .unset, .unset] [(.int (2 : Int32)), (.ref a0)])) t
    refine XS.iloadN X0.here hx rfl (hb hby d1_2) rfl ?_
    exact k
  obtain ⟨_, _, ⟨T1, L1, k1, n1⟩, -, X1, ⟨Lc1, hQ1, l1, y1, z1⟩, st1⟩ := X0.specialBack hx (y := (⟨"com/example/winnowfold/winnowfold/math/AbstractMatrix", "<init>", "(II)V"⟩ : MethodName)) rfl hown (mvT hZ (hw _ (List.mem_of_getElem? (i := 6) rfl))) (mvT hZ (hw _ (List.mem_of_getElem? (i := 7) rfl))) (mvT hZ (hw _ (List.mem_of_getElem? (i := 10) rfl))) (by decide) (backOf (W := 0) (rmA22 l Z ar hw [] a0 u_rows_a0 u_columns_a0 u_values_a0 h0 n0 Z0 E_a0 F_rows_a0 F_columns_a0 F_values_a0 g_a0) hZ (hw _ (List.mem_of_getElem? (i := 10) rfl)) (hw _ (List.mem_of_getElem? (i := 9) rfl)) (by decide) (by decide)) (g := (mkF m 3 #[.val (.ref a0), .val (.int (2 : Int32)), .val (.int (2 : Int32)), .unset, .unset] [(.int (2 : Int32)), (.int (2 : Int32)), (.ref a0)])) rfl (by rw [hml]; rfl) (Steps.refl _) (a := a0) (argsL := [(.int (2 : Int32)), (.int (2 : Int32))]) (rest := []) (lenOf pdI22_0 rfl) rfl (by show 2 * 0 + _ ≤ _; exact Nat.le_of_eq rfl) (hb hby d1_3) (fun _ _ => ⟨rfl, e0, (by decide : 0 + 0 ≤ _), (by decide : 0 + 0 ≤ _)⟩)
  dsimp only [Pt.U, Pt.locs, Pt.cells, Pt.slots] at X1 l1 y1 z1 st1 hQ1
  subst l1 y1 z1
  obtain ⟨rfl, N1q, K1, f2, f3, f4, f5⟩ := hQ1
  have n6 := Fr.app N0 N1q
  have f7 := E_a0.keep K1
  have z8 := Nat.le_trans Z0 K1.1
  have k9 := K0.trans K1 (allS (Or.inl (List.mem_of_getElem? (i := 0) rfl)) all0)
  refine own_tr (T' := T1) (g' := (mkF m 6 #[.val (.ref a0), .val (.int (2 : Int32)), .val (.int (2 : Int32)), .unset, .unset] [])) st1 ?_
  refine own_st (T' := T1) (g' := (mkF m 38 #[.val (.ref a0), .val (.int (2 : Int32)), .val (.int (2 : Int32)), .val (.long (4 : Int64)), .second] [(.int (4 : Int32)), (.ref a0)])) (fun t k => ?_) ?_
  · show Steps p.tables e below (T1.setTop (mkF m 6 #[.val (.ref a0), .val (.int (2 : Int32)), .val (.int (2 : Int32)), .unset, .unset] [])) t
    refine XS.iloadN X1.here hx rfl (hb hby d1_6) rfl ?_
    show Steps p.tables e below (T1.setTop (mkF m 7 #[.val (.ref a0), .val (.int (2 : Int32)), .val (.int (2 : Int32)), .unset, .unset] [(.int (2 : Int32))])) t
    refine XS.i2l X1.here hx rfl (hb hby d1_7) rfl ?_
    show Steps p.tables e below (T1.setTop (mkF m 8 #[.val (.ref a0), .val (.int (2 : Int32)), .val (.int (2 : Int32)), .unset, .unset] [(.long (2 : Int64))])) t
    refine XS.iloadN X1.here hx rfl (hb hby d1_8) rfl ?_
    show Steps p.tables e below (T1.setTop (mkF m 9 #[.val (.ref a0), .val (.int (2 : Int32)), .val (.int (2 : Int32)), .unset, .unset] [(.int (2 : Int32)), (.long (2 : Int64))])) t
    refine XS.i2l X1.here hx rfl (hb hby d1_9) rfl ?_
    show Steps p.tables e below (T1.setTop (mkF m 10 #[.val (.ref a0), .val (.int (2 : Int32)), .val (.int (2 : Int32)), .unset, .unset] [(.long (2 : Int64)), (.long (2 : Int64))])) t
    refine XS.lmul X1.here hx rfl (hb hby d1_10) rfl ?_
    show Steps p.tables e below (T1.setTop (mkF m 11 #[.val (.ref a0), .val (.int (2 : Int32)), .val (.int (2 : Int32)), .unset, .unset] [(.long (4 : Int64))])) t
    refine XS.lstoreN X1.here hx rfl (hb hby d1_11) rfl (l' := #[.val (.ref a0), .val (.int (2 : Int32)), .val (.int (2 : Int32)), .val (.long (4 : Int64)), .second]) rfl ?_
    show Steps p.tables e below (T1.setTop (mkF m 12 #[.val (.ref a0), .val (.int (2 : Int32)), .val (.int (2 : Int32)), .val (.long (4 : Int64)), .second] [])) t
    refine XS.lloadN X1.here hx rfl (hb hby d1_12) rfl ?_
    show Steps p.tables e below (T1.setTop (mkF m 13 #[.val (.ref a0), .val (.int (2 : Int32)), .val (.int (2 : Int32)), .val (.long (4 : Int64)), .second] [(.long (4 : Int64))])) t
    refine X1.ldc2Long hx hown (mvT hZ (hw _ (List.mem_of_getElem? (i := 18) rfl))) (g := (mkF m 13 #[.val (.ref a0), .val (.int (2 : Int32)), .val (.int (2 : Int32)), .val (.long (4 : Int64)), .second] [(.long (4 : Int64))])) rfl (hb hby d1_13) _ ?_
    show Steps p.tables e below (T1.setTop (mkF m 16 #[.val (.ref a0), .val (.int (2 : Int32)), .val (.int (2 : Int32)), .val (.long (4 : Int64)), .second] [(.long (2147483639 : Int64)), (.long (4 : Int64))])) t
    refine XS.lcmp X1.here hx rfl (hb hby d1_16) rfl ?_
    show Steps p.tables e below (T1.setTop (mkF m 17 #[.val (.ref a0), .val (.int (2 : Int32)), .val (.int (2 : Int32)), .val (.long (4 : Int64)), .second] [(.int (lcmpW (4 : Int64) (2147483639 : Int64)))])) t
    refine XS.ifYes X1.here hx rfl (pc0 := 17) (pc' := 35) rfl (hb hby d1_17) rfl (by decide) (by decide) (by decide) ?_
    show Steps p.tables e below (T1.setTop (mkF m 35 #[.val (.ref a0), .val (.int (2 : Int32)), .val (.int (2 : Int32)), .val (.long (4 : Int64)), .second] [])) t
    refine XS.aloadN X1.here hx rfl (hb hby d1_35) rfl rfl ?_
    show Steps p.tables e below (T1.setTop (mkF m 36 #[.val (.ref a0), .val (.int (2 : Int32)), .val (.int (2 : Int32)), .val (.long (4 : Int64)), .second] [(.ref a0)])) t
    refine XS.lloadN X1.here hx rfl (hb hby d1_36) rfl ?_
    show Steps p.tables e below (T1.setTop (mkF m 37 #[.val (.ref a0), .val (.int (2 : Int32)), .val (.int (2 : Int32)), .val (.long (4 : Int64)), .second] [(.long (4 : Int64)), (.ref a0)])) t
    refine XS.l2i X1.here hx rfl (hb hby d1_37) rfl ?_
    exact k
  obtain ⟨T10, h10, k10, X10, e10, E10, A10, st10⟩ := newP X1 hx hZ (hw _ (List.mem_of_getElem? (i := 19) rfl)) (rfl : T1.heap = T1.heap) (g := (mkF m 38 #[.val (.ref a0), .val (.int (2 : Int32)), .val (.int (2 : Int32)), .val (.long (4 : Int64)), .second] [(.int (4 : Int32)), (.ref a0)])) rfl (hb hby d1_38) rfl (by decide) (cap := 4) (by decide) (by decide) (by decide) (by decide)
  obtain ⟨b10, g10⟩ : ∃ z, z = T1.heap.size := ⟨_, rfl⟩
  rw [← g10] at A10 st10
  have ne_a0_b10 : a0 ≠ b10 := Nat.ne_of_lt (Nat.lt_of_lt_of_le f2.lt (Nat.le_of_eq g10.symm))
  have g_b10 : n0 ≤ b10 := Nat.le_trans z8 (Nat.le_of_eq g10.symm)
  have sz_b10 : h0.size ≤ b10 := Nat.le_trans k9.1 (Nat.le_of_eq g10.symm)
  have f11 := f2.ext E10
  have f12 := f3.ext E10
  have f13 := f4.ext E10
  have f14 := f5.ext E10
  have z15 := Nat.le_trans z8 E10.1
  have k16 := k9.ext E10
  have v17 : Arv Z h10 b10 k10 .double (4 : Int32) [(.double (0 : UInt64)), (.double (0 : UInt64)), (.double (0 : UInt64)), (.double (0 : UInt64))] (.double (0 : UInt64)) := (Arv.new A10 (by decide)).pad (pad_rep [] (.double (0 : UInt64)) 4)
  refine own_st (T' := T10) (g' := (mkF m 40 #[.val (.ref a0), .val (.int (2 : Int32)), .val (.int (2 : Int32)), .val (.long (4 : Int64)), .second] [(.ref b10), (.ref a0)])) st10 ?_
  obtain ⟨T18, h18, X18, e18, W18, st18⟩ := putF X10 hx hZ hown (host := "") (Or.inl (hw _ (List.mem_of_getElem? (i := 20) rfl))) Via.refl e10 f14 f11 (Or.inr ⟨(hw _ (List.mem_of_getElem? (i := 21) rfl)), rfl, hnm⟩) (hw _ (List.mem_of_getElem? (i := 1) rfl)) (ty := (.array .double)) (by decide) rfl rfl (g := (mkF m 40 #[.val (.ref a0), .val (.int (2 : Int32)), .val (.int (2 : Int32)), .val (.long (4 : Int64)), .second] [(.ref b10), (.ref a0)])) rfl rfl (hb hby d1_40)
  have f19 := f11.wr W18
  have f20 := f12.other W18 (Or.inr (slot_ne (Or.inr (hw _ (List.mem_of_getElem? (i := 15) rfl))) (Or.inr (hw _ (List.mem_of_getElem? (i := 21) rfl))) (by decide) (t := .int) (t' := (.array .double)) (by decide) (by decide)))
  have f21 := f13.other W18 (Or.inr (slot_ne (Or.inr (hw _ (List.mem_of_getElem? (i := 17) rfl))) (Or.inr (hw _ (List.mem_of_getElem? (i := 21) rfl))) (by decide) (t := .int) (t' := (.array .double)) (by decide) (by decide)))
  have f22 := f14.same W18
  have f23 := v17.other W18 (Ne.symm ne_a0_b10)
  have z24 := Nat.le_trans z15 (Keep.of_wr W18).1
  have k25 := k16.wr W18 (Or.inl (List.mem_of_getElem? (i := 0) rfl))
  have n26 := Fr.snoc X18 n6 g_a0
  refine own_st (T' := T18) (g' := (mkF m 43 #[.val (.ref a0), .val (.int (2 : Int32)), .val (.int (2 : Int32)), .val (.long (4 : Int64)), .second] [])) st18 ?_
  refine own_retV X18 hx hlk Bd.returns (hb hby d1_43) (by decide) (by decide) ?_
  show QI22 Z a0 u_rows_a0 u_columns_a0 u_values_a0 h0 n0 none T18.heap _
  rw [(e18 : T18.heap = h18)]
  exact ⟨b10, k10, rfl, n26, k25, sz_b10, f19, f20, f21, f22, f23⟩
theorem d7_0 : decode prog_47_method_16_code 0 = .ok (.iload_n 1, 1) := by decide +kernel
theorem d7_1 : decode prog_47_method_16_code 1 = .ok (.aload_n 0, 1) := by decide +kernel
theorem d7_2 : decode prog_47_method_16_code 2 = .ok (.getfield 16, 3) := by decide +kernel
theorem d7_5 : decode prog_47_method_16_code 5 = .ok (.invokestatic 44, 3) := by decide +kernel
theorem d7_8 : decode prog_47_method_16_code 8 = .ok (.pop, 1) := by decide +kernel
theorem d7_9 : decode prog_47_method_16_code 9 = .ok (.iload_n 2, 1) := by decide +kernel
theorem d7_10 : decode prog_47_method_16_code 10 = .ok (.aload_n 0, 1) := by decide +kernel
theorem d7_11 : decode prog_47_method_16_code 11 = .ok (.getfield 22, 3) := by decide +kernel
theorem d7_14 : decode prog_47_method_16_code 14 = .ok (.invokestatic 44, 3) := by decide +kernel
theorem d7_17 : decode prog_47_method_16_code 17 = .ok (.pop, 1) := by decide +kernel
theorem d7_18 : decode prog_47_method_16_code 18 = .ok (.return_, 1) := by decide +kernel
theorem pn7 : plainName "com/example/winnowfold/winnowfold/math/AbstractMatrix" = true := by first | (simp [plainName, overriddenIn]; done) | decide +kernel
theorem pd7_0 : parseMethodDescriptor "(II)I" = some ⟨[.int, .int], some .int⟩ := by decide +kernel
theorem ef7 (m : MethodId) (a0 : Addr) (p1 : Int32) (p2 : Int32) : entryFrame m #[(.ref a0), (.int p1), (.int p2)] 3 = mkF m 0 #[.val (.ref a0), .val (.int p1), .val (.int p2)] [] := by first | (simp [entryFrame, mkF, argsToLocals, Value.category]; done) | rfl
def Q7 (Z : State) (a0 : Addr) (p1 : Int32) (p2 : Int32) (w_rows_a0 : Int32) (w_columns_a0 : Int32) (h0 : Heap) (n0 : Nat) (v : Option Value) (h : Heap) (L : List Loc) : Prop := v = none ∧ Fr n0 L ∧ h = h0
set_option maxRecDepth 65536 in
set_option maxHeartbeats 40000000 in
theorem rm7 (l : Launch) (Z : State) (ar : Array Value) (hw : ∀ d ∈ tables_1, d.before ar Z = true) (ws : List Jvm.Cond) (a0 : Addr) (p1 : Int32) (p2 : Int32) (w_rows_a0 : Int32) (w_columns_a0 : Int32) (h0 : Heap) (n0 : Nat) (Z0 : n0 ≤ h0.size) (E_a0 : Exa Z h0 a0 "com/example/winnowfold/winnowfold/math/DenseMatrix") (F_rows_a0 : Fld Z h0 a0 "com/example/winnowfold/winnowfold/math/AbstractMatrix" "rows" "I" (.int w_rows_a0)) (F_columns_a0 : Fld Z h0 a0 "com/example/winnowfold/winnowfold/math/AbstractMatrix" "columns" "I" (.int w_columns_a0)) (h5_h3_hb1 : ¬ (p1 < (0 : Int32))) (h5_h3_hb6 : p1 < w_rows_a0) (h14_h3_hb1 : ¬ (p2 < (0 : Int32))) (h14_h3_hb6 : p2 < w_columns_a0) :
    MetFree l (⟨"com/example/winnowfold/winnowfold/math/AbstractMatrix", "checkCell", "(II)V"⟩ : MethodName) (head1 (Jvm.Cond.code (⟨"com/example/winnowfold/winnowfold/math/AbstractMatrix", "checkCell", "(II)V"⟩ : MethodName) prog_47_method_16_code 3 none :: ws) ({ frames := 2, cells := 0, slots := 0, locals := 27 } : Room)) (fun a U => a = #[(.ref a0), (.int p1), (.int p2)] ∧ Z.Warmed39 U.vm ∧ U.heap = h0) (fun _ _ _ _ _ => True) (fun _ U o U' => ∃ v L, o = .returned v ∧ Q7 Z a0 p1 p2 w_rows_a0 w_columns_a0 h0 n0 v U'.heap L ∧ FrameEnd U o U' L ({ frames := 2, cells := 0, slots := 0, locals := 27 } : Room).cells ({ frames := 2, cells := 0, slots := 0, locals := 27 } : Room).slots) := by
  refine MetFree.of_bodySF (plainFor_of_name pn7) hisR ?_
  intro p e s m args below meth c s₁ Bd hml0 hP hK
  obtain ⟨rfl, hZ, hh⟩ := hP
  have hx := Bd.exec
  have hby := Bd.bytes
  have hlk := Bd.notSynchronized
  have hml : c.maxLocals = 3 := hml0
  have hown : s.vm.findClass "com/example/winnowfold/winnowfold/math/AbstractMatrix" = some m.cls := findClass_of_methodNamed Bd.named
  have hnm := (name_of_methodNamed Bd.named Bd.method).1
  have X0 : Stand p l e ({ frames := 2, cells := 0, slots := 0, locals := 27 } : Room) s m #[(.ref a0), (.int p1), (.int p2)] below meth c s₁ [] 0 0 := Stand.of_body Bd
  have e0 : s₁.heap = h0 := by rw [← hh, Bd.state]; rfl
  have N0 := Fr.nil n0
  have K0 := Keep.refl h0 []
  refine own_enter (Q := Q7 Z a0 p1 p2 w_rows_a0 w_columns_a0 h0 n0) (ef7 m a0 p1 p2) ?_
  refine own_st (T' := s₁) (g' := (mkF m 2 #[.val (.ref a0), .val (.int p1), .val (.int p2)] [(.ref a0), (.int p1)])) (fun t k => ?_) ?_
  · show Steps p.tables e below (s₁.setTop (mkF m 0 #[.val (.ref a0), .val (.int p1), .val (.int p2)] [])) t
    refine XS.iloadN X0.here hx rfl (hb hby d7_0) rfl ?_
    show Steps p.tables e below (s₁.setTop (mkF m 1 #[.val (.ref a0), .val (.int p1), .val (.int p2)] [(.int p1)])) t
    refine XS.aloadN X0.here hx rfl (hb hby d7_1) rfl rfl ?_
    exact k
  obtain ⟨T1, X1, e1, st1⟩ := getF X0 hx hZ hown (host := "") (Or.inl (hw _ (List.mem_of_getElem? (i := 14) rfl))) Via.refl e0 F_rows_a0 (g := (mkF m 2 #[.val (.ref a0), .val (.int p1), .val (.int p2)] [(.ref a0), (.int p1)])) rfl rfl (hb hby d7_2)
  refine own_st (T' := T1) (g' := (mkF m 5 #[.val (.ref a0), .val (.int p1), .val (.int p2)] [(.int w_rows_a0), (.int p1)])) st1 ?_
  obtain ⟨_, _, ⟨T2, L2, k2, n2⟩, -, X2, ⟨Lc2, hQ2, l2, y2, z2⟩, st2⟩ := Jvm.LawKit.callS X1 hx (y := (⟨"java/util/Objects", "checkIndex", "(II)I"⟩ : MethodName)) hown (mvT hZ (hw _ (List.mem_of_getElem? (i := 42) rfl))) (mvT hZ (hw _ (List.mem_of_getElem? (i := 43) rfl))) (mvT hZ (hw _ (List.mem_of_getElem? (i := 44) rfl))) (mvT hZ (hw _ (List.mem_of_getElem? (i := 45) rfl))) (by decide) (backOf (W := 0) (rm8 l Z ar hw [] p1 w_rows_a0 h0 n0 Z0 h5_h3_hb1 h5_h3_hb6) hZ (hw _ (List.mem_of_getElem? (i := 45) rfl)) (hw _ (List.mem_of_getElem? (i := 44) rfl)) (by decide) (by decide)) (g := (mkF m 5 #[.val (.ref a0), .val (.int p1), .val (.int p2)] [(.int w_rows_a0), (.int p1)])) rfl (by rw [hml]; rfl) (argsL := [(.int p1), (.int w_rows_a0)]) (rest := []) (lenOf pd7_0 rfl) rfl (by show 2 * 0 + _ ≤ _; exact Nat.le_of_eq rfl) (hb hby d7_5) (fun _ _ => ⟨rfl, e1, (by decide : 0 + 0 ≤ _), (by decide : 0 + 0 ≤ _)⟩)
  dsimp only [Pt.U, Pt.locs, Pt.cells, Pt.slots] at X2 l2 y2 z2 st2 hQ2
  subst l2 y2 z2
  obtain ⟨rfl, N2q, e2⟩ := hQ2
  have n3 := Fr.app N0 N2q
  refine own_st (T' := T2) (g' := (mkF m 8 #[.val (.ref a0), .val (.int p1), .val (.int p2)] [(.int p1)])) st2 ?_
  refine own_st (T' := T2) (g' := (mkF m 11 #[.val (.ref a0), .val (.int p1), .val (.int p2)] [(.ref a0), (.int p2)])) (fun t k => ?_) ?_
  · show Steps p.tables e below (T2.setTop (mkF m 8 #[.val (.ref a0), .val (.int p1), .val (.int p2)] [(.int p1)])) t
    refine XS.pop X2.here hx rfl (hb hby d7_8) rfl rfl ?_
    show Steps p.tables e below (T2.setTop (mkF m 9 #[.val (.ref a0), .val (.int p1), .val (.int p2)] [])) t
    refine XS.iloadN X2.here hx rfl (hb hby d7_9) rfl ?_
    show Steps p.tables e below (T2.setTop (mkF m 10 #[.val (.ref a0), .val (.int p1), .val (.int p2)] [(.int p2)])) t
    refine XS.aloadN X2.here hx rfl (hb hby d7_10) rfl rfl ?_
    exact k
  obtain ⟨T4, X4, e4, st4⟩ := getF X2 hx hZ hown (host := "") (Or.inl (hw _ (List.mem_of_getElem? (i := 16) rfl))) Via.refl e2 F_columns_a0 (g := (mkF m 11 #[.val (.ref a0), .val (.int p1), .val (.int p2)] [(.ref a0), (.int p2)])) rfl rfl (hb hby d7_11)
  refine own_st (T' := T4) (g' := (mkF m 14 #[.val (.ref a0), .val (.int p1), .val (.int p2)] [(.int w_columns_a0), (.int p2)])) st4 ?_
  obtain ⟨_, _, ⟨T5, L5, k5, n5⟩, -, X5, ⟨Lc5, hQ5, l5, y5, z5⟩, st5⟩ := Jvm.LawKit.callS X4 hx (y := (⟨"java/util/Objects", "checkIndex", "(II)I"⟩ : MethodName)) hown (mvT hZ (hw _ (List.mem_of_getElem? (i := 42) rfl))) (mvT hZ (hw _ (List.mem_of_getElem? (i := 43) rfl))) (mvT hZ (hw _ (List.mem_of_getElem? (i := 44) rfl))) (mvT hZ (hw _ (List.mem_of_getElem? (i := 45) rfl))) (by decide) (backOf (W := 0) (rm8 l Z ar hw [] p2 w_columns_a0 h0 n0 Z0 h14_h3_hb1 h14_h3_hb6) hZ (hw _ (List.mem_of_getElem? (i := 45) rfl)) (hw _ (List.mem_of_getElem? (i := 44) rfl)) (by decide) (by decide)) (g := (mkF m 14 #[.val (.ref a0), .val (.int p1), .val (.int p2)] [(.int w_columns_a0), (.int p2)])) rfl (by rw [hml]; rfl) (argsL := [(.int p2), (.int w_columns_a0)]) (rest := []) (lenOf pd7_0 rfl) rfl (by show 2 * 0 + _ ≤ _; exact Nat.le_of_eq rfl) (hb hby d7_14) (fun _ _ => ⟨rfl, e4, (by decide : 0 + 0 ≤ _), (by decide : 0 + 0 ≤ _)⟩)
  dsimp only [Pt.U, Pt.locs, Pt.cells, Pt.slots] at X5 l5 y5 z5 st5 hQ5
  subst l5 y5 z5
  obtain ⟨rfl, N5q, e5⟩ := hQ5
  have n6 := Fr.app n3 N5q
  refine own_st (T' := T5) (g' := (mkF m 17 #[.val (.ref a0), .val (.int p1), .val (.int p2)] [(.int p2)])) st5 ?_
  refine own_st (T' := T5) (g' := (mkF m 18 #[.val (.ref a0), .val (.int p1), .val (.int p2)] [])) (fun t k => ?_) ?_
  · show Steps p.tables e below (T5.setTop (mkF m 17 #[.val (.ref a0), .val (.int p1), .val (.int p2)] [(.int p2)])) t
    refine XS.pop X5.here hx rfl (hb hby d7_17) rfl rfl ?_
    exact k
  refine own_retV X5 hx hlk Bd.returns (hb hby d7_18) (by decide) (by decide) ?_
  show Q7 Z a0 p1 p2 w_rows_a0 w_columns_a0 h0 n0 none T5.heap _
  rw [(e5 : T5.heap = h0)]
  exact ⟨rfl, n6, rfl⟩
theorem d10_0 : decode prog_47_method_3_code 0 = .ok (.aload_n 0, 1) := by decide +kernel
theorem d10_1 : decode prog_47_method_3_code 1 = .ok (.getfield 22, 3) := by decide +kernel
theorem d10_4 : decode prog_47_method_3_code 4 = .ok (.ireturn, 1) := by decide +kernel
theorem pn10 : plainName "com/example/winnowfold/winnowfold/math/AbstractMatrix" = true := by first | (simp [plainName, overriddenIn]; done) | decide +kernel
theorem ef10 (m : MethodId) (a0 : Addr) : entryFrame m #[(.ref a0)] 1 = mkF m 0 #[.val (.ref a0)] [] := by first | (simp [entryFrame, mkF, argsToLocals, Value.category]; done) | rfl
def Q10 (Z : State) (a0 : Addr) (w_columns_a0 : Int32) (h0 : Heap) (n0 : Nat) (v : Option Value) (h : Heap) (L : List Loc) : Prop := v = some (.int w_columns_a0) ∧ Fr n0 L ∧ h = h0
set_option maxRecDepth 65536 in
set_option maxHeartbeats 40000000 in
theorem rm10 (l : Launch) (Z : State) (ar : Array Value) (hw : ∀ d ∈ tables_1, d.before ar Z = true) (ws : List Jvm.Cond) (a0 : Addr) (w_columns_a0 : Int32) (h0 : Heap) (n0 : Nat) (Z0 : n0 ≤ h0.size) (E_a0 : Exa Z h0 a0 "com/example/winnowfold/winnowfold/math/DenseMatrix") (F_columns_a0 : Fld Z h0 a0 "com/example/winnowfold/winnowfold/math/AbstractMatrix" "columns" "I" (.int w_columns_a0)) :
    MetFree l (⟨"com/example/winnowfold/winnowfold/math/AbstractMatrix", "columnSize", "()I"⟩ : MethodName) (head1 (Jvm.Cond.code (⟨"com/example/winnowfold/winnowfold/math/AbstractMatrix", "columnSize", "()I"⟩ : MethodName) prog_47_method_3_code 1 (some .int) :: ws) ({ frames := 0, cells := 0, slots := 0, locals := 0 } : Room)) (fun a U => a = #[(.ref a0)] ∧ Z.Warmed39 U.vm ∧ U.heap = h0) (fun _ _ _ _ _ => True) (fun _ U o U' => ∃ v L, o = .returned v ∧ Q10 Z a0 w_columns_a0 h0 n0 v U'.heap L ∧ FrameEnd U o U' L ({ frames := 0, cells := 0, slots := 0, locals := 0 } : Room).cells ({ frames := 0, cells := 0, slots := 0, locals := 0 } : Room).slots) := by
  refine MetFree.of_bodySF (plainFor_of_name pn10) hisR ?_
  intro p e s m args below meth c s₁ Bd hml0 hP hK
  obtain ⟨rfl, hZ, hh⟩ := hP
  have hx := Bd.exec
  have hby := Bd.bytes
  have hlk := Bd.notSynchronized
  have hml : c.maxLocals = 1 := hml0
  have hown : s.vm.findClass "com/example/winnowfold/winnowfold/math/AbstractMatrix" = some m.cls := findClass_of_methodNamed Bd.named
  have hnm := (name_of_methodNamed Bd.named Bd.method).1
  have X0 : Stand p l e ({ frames := 0, cells := 0, slots := 0, locals := 0 } : Room) s m #[(.ref a0)] below meth c s₁ [] 0 0 := Stand.of_body Bd
  have e0 : s₁.heap = h0 := by rw [← hh, Bd.state]; rfl
  have N0 := Fr.nil n0
  have K0 := Keep.refl h0 []
  refine own_enter (Q := Q10 Z a0 w_columns_a0 h0 n0) (ef10 m a0) ?_
  refine own_st (T' := s₁) (g' := (mkF m 1 #[.val (.ref a0)] [(.ref a0)])) (fun t k => ?_) ?_
  · show Steps p.tables e below (s₁.setTop (mkF m 0 #[.val (.ref a0)] [])) t
    refine XS.aloadN X0.here hx rfl (hb hby d10_0) rfl rfl ?_
    exact k
  obtain ⟨T1, X1, e1, st1⟩ := getF X0 hx hZ hown (host := "") (Or.inl (hw _ (List.mem_of_getElem? (i := 16) rfl))) Via.refl e0 F_columns_a0 (g := (mkF m 1 #[.val (.ref a0)] [(.ref a0)])) rfl rfl (hb hby d10_1)
  refine own_st (T' := T1) (g' := (mkF m 4 #[.val (.ref a0)] [(.int w_columns_a0)])) st1 ?_
  refine own_retI X1 hx hlk Bd.returns (hb hby d10_4) (by decide) (by decide) ?_
  show Q10 Z a0 w_columns_a0 h0 n0 (some (.int w_columns_a0)) T1.heap _
  rw [(e1 : T1.heap = h0)]
  exact ⟨rfl, N0, rfl⟩
theorem d6_0 : decode prog_51_method_5_code 0 = .ok (.aload_n 0, 1) := by decide +kernel
theorem d6_1 : decode prog_51_method_5_code 1 = .ok (.iload_n 1, 1) := by decide +kernel
theorem d6_2 : decode prog_51_method_5_code 2 = .ok (.iload_n 2, 1) := by decide +kernel
theorem d6_3 : decode prog_51_method_5_code 3 = .ok (.invokevirtual 88, 3) := by decide +kernel
theorem d6_6 : decode prog_51_method_5_code 6 = .ok (.aload_n 0, 1) := by decide +kernel
theorem d6_7 : decode prog_51_method_5_code 7 = .ok (.getfield 20, 3) := by decide +kernel
theorem d6_10 : decode prog_51_method_5_code 10 = .ok (.iload_n 1, 1) := by decide +kernel
theorem d6_11 : decode prog_51_method_5_code 11 = .ok (.aload_n 0, 1) := by decide +kernel
theorem d6_12 : decode prog_51_method_5_code 12 = .ok (.invokevirtual 27, 3) := by decide +kernel
theorem d6_15 : decode prog_51_method_5_code 15 = .ok (.imul, 1) := by decide +kernel
theorem d6_16 : decode prog_51_method_5_code 16 = .ok (.iload_n 2, 1) := by decide +kernel
theorem d6_17 : decode prog_51_method_5_code 17 = .ok (.iadd, 1) := by decide +kernel
theorem d6_18 : decode prog_51_method_5_code 18 = .ok (.dload_n 3, 1) := by decide +kernel
theorem d6_19 : decode prog_51_method_5_code 19 = .ok (.dastore, 1) := by decide +kernel
theorem d6_20 : decode prog_51_method_5_code 20 = .ok (.return_, 1) := by decide +kernel
theorem pn6 : plainName "com/example/winnowfold/winnowfold/math/DenseMatrix" = true := by first | (simp [plainName, overriddenIn]; done) | decide +kernel
theorem pd6_0 : parseMethodDescriptor "(II)V" = some ⟨[.int, .int], none⟩ := by decide +kernel
theorem pd6_1 : parseMethodDescriptor "()I" = some ⟨[], some .int⟩ := by decide +kernel
theorem ef6 (m : MethodId) (a0 : Addr) (p1 : Int32) (p2 : Int32) (d3 : UInt64) : entryFrame m #[(.ref a0), (.int p1), (.int p2), (.double d3)] 5 = mkF m 0 #[.val (.ref a0), .val (.int p1), .val (.int p2), .val (.double d3), .second] [] := by first | (simp [entryFrame, mkF, argsToLocals, Value.category]; done) | rfl
def Q6 (Z : State) (a0 : Addr) (p1 : Int32) (p2 : Int32) (d3 : UInt64) (w_rows_a0 : Int32) (w_columns_a0 : Int32) (w_values_a0 : Addr) (kk_w_values_a0 : ClassId) (z_w_values_a0 : Int32) (vs_w_values_a0 : List Value) (dv_w_values_a0 : Value) (h0 : Heap) (n0 : Nat) (v : Option Value) (h : Heap) (L : List Loc) : Prop := v = none ∧ Fr n0 L ∧ Keep h0 h [w_values_a0] ∧ Arv Z h w_values_a0 kk_w_values_a0 .double z_w_values_a0 (vs_w_values_a0.set (((p1 * w_columns_a0) + p2)).toNatClampNeg (.double d3)) dv_w_values_a0
set_option maxRecDepth 65536 in
set_option maxHeartbeats 40000000 in
theorem rm6 (l : Launch) (Z : State) (ar : Array Value) (hw : ∀ d ∈ tables_1, d.before ar Z = true) (ws : List Jvm.Cond) (a0 : Addr) (p1 : Int32) (p2 : Int32) (d3 : UInt64) (w_rows_a0 : Int32) (w_columns_a0 : Int32) (w_values_a0 : Addr) (kk_w_values_a0 : ClassId) (z_w_values_a0 : Int32) (vs_w_values_a0 : List Value) (dv_w_values_a0 : Value) (h0 : Heap) (n0 : Nat) (Z0 : n0 ≤ h0.size) (E_a0 : Exa Z h0 a0 "com/example/winnowfold/winnowfold/math/DenseMatrix") (F_rows_a0 : Fld Z h0 a0 "com/example/winnowfold/winnowfold/math/AbstractMatrix" "rows" "I" (.int w_rows_a0)) (F_columns_a0 : Fld Z h0 a0 "com/example/winnowfold/winnowfold/math/AbstractMatrix" "columns" "I" (.int w_columns_a0)) (F_values_a0 : Fld Z h0 a0 "com/example/winnowfold/winnowfold/math/DenseMatrix" "values" "[D" (.ref w_values_a0)) (V_w_values_a0 : Arv Z h0 w_values_a0 kk_w_values_a0 .double z_w_values_a0 vs_w_values_a0 dv_w_values_a0) (h3_h5_h3_hb1 : ¬ (p1 < (0 : Int32))) (h3_h5_h3_hb6 : p1 < w_rows_a0) (h3_h14_h3_hb1 : ¬ (p2 < (0 : Int32))) (h3_h14_h3_hb6 : p2 < w_columns_a0) (hin19 : ¬ ((p1 * w_columns_a0) + p2) < 0 ∧ ((p1 * w_columns_a0) + p2) < z_w_values_a0) (hle_vs_w_values_a0 : (((p1 * w_columns_a0) + p2)).toNatClampNeg < (vs_w_values_a0).length) (ne_a0_w_values_a0 : a0 ≠ w_values_a0) (g_w_values_a0 : n0 ≤ w_values_a0) :
    MetFree l (⟨"com/example/winnowfold/winnowfold/math/DenseMatrix", "set", "(IID)V"⟩ : MethodName) (head1 (Jvm.Cond.code (⟨"com/example/winnowfold/winnowfold/math/DenseMatrix", "set", "(IID)V"⟩ : MethodName) prog_51_method_5_code 5 none :: ws) ({ frames := 3, cells := 0, slots := 0, locals := 41 } : Room)) (fun a U => a = #[(.ref a0), (.int p1), (.int p2), (.double d3)] ∧ Z.Warmed39 U.vm ∧ U.heap = h0) (fun _ _ _ _ _ => True) (fun _ U o U' => ∃ v L, o = .returned v ∧ Q6 Z a0 p1 p2 d3 w_rows_a0 w_columns_a0 w_values_a0 kk_w_values_a0 z_w_values_a0 vs_w_values_a0 dv_w_values_a0 h0 n0 v U'.heap L ∧ FrameEnd U o U' L ({ frames := 3, cells := 0, slots := 0, locals := 41 } : Room).cells ({ frames := 3, cells := 0, slots := 0, locals := 41 } : Room).slots) := by
  refine MetFree.of_bodySF (plainFor_of_name pn6) hisR ?_
  intro p e s m args below meth c s₁ Bd hml0 hP hK
  obtain ⟨rfl, hZ, hh⟩ := hP
  have hx := Bd.exec
  have hby := Bd.bytes
  have hlk := Bd.notSynchronized
  have hml : c.maxLocals = 5 := hml0
  have hown : s.vm.findClass "com/example/winnowfold/winnowfold/math/DenseMatrix" = some m.cls := findClass_of_methodNamed Bd.named
  have hnm := (name_of_methodNamed Bd.named Bd.method).1
  have X0 : Stand p l e ({ frames := 3, cells := 0, slots := 0, locals := 41 } : Room) s m #[(.ref a0), (.int p1), (.int p2), (.double d3)] below meth c s₁ [] 0 0 := Stand.of_body Bd
  have e0 : s₁.heap = h0 := by rw [← hh, Bd.state]; rfl
  have N0 := Fr.nil n0
  have K0 := Keep.refl h0 [w_values_a0]
  refine own_enter (Q := Q6 Z a0 p1 p2 d3 w_rows_a0 w_columns_a0 w_values_a0 kk_w_values_a0 z_w_values_a0 vs_w_values_a0 dv_w_values_a0 h0 n0) (ef6 m a0 p1 p2 d3) ?_
  refine own_st (T' := s₁) (g' := (mkF m 3 #[.val (.ref a0), .val (.int p1), .val (.int p2), .val (.double d3), .second] [(.int p2), (.int p1), (.ref a0)])) (fun t k => ?_) ?_
  · show Steps p.tables e below (s₁.setTop (mkF m 0 #[.val (.ref a0), .val (.int p1), .val (.int p2), .val (.double d3), .second] [])) t
    refine XS.aloadN X0.here hx rfl (hb hby d6_0) rfl rfl ?_
    show Steps p.tables e below (s₁.setTop (mkF m 1 #[.val (.ref a0), .val (.int p1), .val (.int p2), .val (.double d3), .second] [(.ref a0)])) t
    refine XS.iloadN X0.here hx rfl (hb hby d6_1) rfl ?_
    show Steps p.tables e below (s₁.setTop (mkF m 2 #[.val (.ref a0), .val (.int p1), .val (.int p2), .val (.double d3), .second] [(.int p1), (.ref a0)])) t
    refine XS.iloadN X0.here hx rfl (hb hby d6_2) rfl ?_
    exact k
  obtain ⟨cq1, kq1, qa1, qb1, qc1⟩ := isOf hZ e0 E_a0
  obtain ⟨_, _, ⟨T1, L1, k1, n1⟩, -, X1, ⟨Lc1, hQ1, l1, y1, z1⟩, st1⟩ := X0.virtualBackUp hx (owner := "com/example/winnowfold/winnowfold/math/AbstractMatrix") (x := (⟨"com/example/winnowfold/winnowfold/math/DenseMatrix", "checkCell", "(II)V"⟩ : MethodName)) (y := (⟨"com/example/winnowfold/winnowfold/math/AbstractMatrix", "checkCell", "(II)V"⟩ : MethodName)) hown (mvT hZ (hw _ (List.mem_of_getElem? (i := 36) rfl))) (mvT hZ (hw _ (List.mem_of_getElem? (i := 37) rfl))) (mvT hZ (hw _ (List.mem_of_getElem? (i := 38) rfl))) (by decide) (mvT hZ (hw _ (List.mem_of_getElem? (i := 40) rfl))) (mvT hZ (hw _ (List.mem_of_getElem? (i := 39) rfl))) (backOf (W := 0) (rm7 l Z ar hw [] a0 p1 p2 w_rows_a0 w_columns_a0 h0 n0 Z0 E_a0 F_rows_a0 F_columns_a0 h3_h5_h3_hb1 h3_h5_h3_hb6 h3_h14_h3_hb1 h3_h14_h3_hb6) hZ (hw _ (List.mem_of_getElem? (i := 41) rfl)) (hw _ (List.mem_of_getElem? (i := 9) rfl)) (by decide) (by decide)) qa1 qc1 (g := (mkF m 3 #[.val (.ref a0), .val (.int p1), .val (.int p2), .val (.double d3), .second] [(.int p2), (.int p1), (.ref a0)])) rfl (by rw [hml]; rfl) (Steps.refl _) (argsL := [(.int p1), (.int p2)]) (rest := []) (lenOf pd6_0 rfl) rfl (by show 2 * 0 + _ ≤ _; exact Nat.le_of_eq rfl) (hb hby d6_3) (fun _ _ => ⟨rfl, e0, (by decide : 0 + 0 ≤ _), (by decide : 0 + 0 ≤ _)⟩)
  dsimp only [Pt.U, Pt.locs, Pt.cells, Pt.slots] at X1 l1 y1 z1 st1 hQ1
  subst l1 y1 z1
  obtain ⟨rfl, N1q, e1⟩ := hQ1
  have n2 := Fr.app N0 N1q
  refine own_tr (T' := T1) (g' := (mkF m 6 #[.val (.ref a0), .val (.int p1), .val (.int p2), .val (.double d3), .second] [])) st1 ?_
  refine own_st (T' := T1) (g' := (mkF m 7 #[.val (.ref a0), .val (.int p1), .val (.int p2), .val (.double d3), .second] [(.ref a0)])) (fun t k => ?_) ?_
  · show Steps p.tables e below (T1.setTop (mkF m 6 #[.val (.ref a0), .val (.int p1), .val (.int p2), .val (.double d3), .second] [])) t
    refine XS.aloadN X1.here hx rfl (hb hby d6_6) rfl rfl ?_
    exact k
  obtain ⟨T3, X3, e3, st3⟩ := getF X1 hx hZ hown (host := "") (Or.inl (hw _ (List.mem_of_getElem? (i := 20) rfl))) Via.refl e1 F_values_a0 (g := (mkF m 7 #[.val (.ref a0), .val (.int p1), .val (.int p2), .val (.double d3), .second] [(.ref a0)])) rfl rfl (hb hby d6_7)
  refine own_st (T' := T3) (g' := (mkF m 10 #[.val (.ref a0), .val (.int p1), .val (.int p2), .val (.double d3), .second] [(.ref w_values_a0)])) st3 ?_
  refine own_st (T' := T3) (g' := (mkF m 12 #[.val (.ref a0), .val (.int p1), .val (.int p2), .val (.double d3), .second] [(.ref a0), (.int p1), (.ref w_values_a0)])) (fun t k => ?_) ?_
  · show Steps p.tables e below (T3.setTop (mkF m 10 #[.val (.ref a0), .val (.int p1), .val (.int p2), .val (.double d3), .second] [(.ref w_values_a0)])) t
    refine XS.iloadN X3.here hx rfl (hb hby d6_10) rfl ?_
    show Steps p.tables e below (T3.setTop (mkF m 11 #[.val (.ref a0), .val (.int p1), .val (.int p2), .val (.double d3), .second] [(.int p1), (.ref w_values_a0)])) t
    refine XS.aloadN X3.here hx rfl (hb hby d6_11) rfl rfl ?_
    exact k
  obtain ⟨cq4, kq4, qa4, qb4, qc4⟩ := isOf hZ e3 E_a0
  obtain ⟨_, _, ⟨T4, L4, k4, n4⟩, -, X4, ⟨Lc4, hQ4, l4, y4, z4⟩, st4⟩ := X3.virtualBackUp hx (owner := "com/example/winnowfold/winnowfold/math/AbstractMatrix") (x := (⟨"com/example/winnowfold/winnowfold/math/DenseMatrix", "columnSize", "()I"⟩ : MethodName)) (y := (⟨"com/example/winnowfold/winnowfold/math/AbstractMatrix", "columnSize", "()I"⟩ : MethodName)) hown (mvT hZ (hw _ (List.mem_of_getElem? (i := 50) rfl))) (mvT hZ (hw _ (List.mem_of_getElem? (i := 51) rfl))) (mvT hZ (hw _ (List.mem_of_getElem? (i := 52) rfl))) (by decide) (mvT hZ (hw _ (List.mem_of_getElem? (i := 54) rfl))) (mvT hZ (hw _ (List.mem_of_getElem? (i := 53) rfl))) (backOf (W := 2) (rm10 l Z ar hw [] a0 w_columns_a0 h0 n0 Z0 E_a0 F_columns_a0) hZ (hw _ (List.mem_of_getElem? (i := 55) rfl)) (hw _ (List.mem_of_getElem? (i := 9) rfl)) (by decide) (by decide)) qa4 qc4 (g := (mkF m 12 #[.val (.ref a0), .val (.int p1), .val (.int p2), .val (.double d3), .second] [(.ref a0), (.int p1), (.ref w_values_a0)])) rfl (by rw [hml]; rfl) (Steps.refl _) (argsL := []) (rest := [(.int p1), (.ref w_values_a0)]) (lenOf pd6_1 rfl) rfl (by show 2 * 0 + _ ≤ _; exact Nat.le_of_eq rfl) (hb hby d6_12) (fun _ _ => ⟨rfl, e3, (by decide : 0 + 0 ≤ _), (by decide : 0 + 0 ≤ _)⟩)
  dsimp only [Pt.U, Pt.locs, Pt.cells, Pt.slots] at X4 l4 y4 z4 st4 hQ4
  subst l4 y4 z4
  obtain ⟨rfl, N4q, e4⟩ := hQ4
  have n5 := Fr.app n2 N4q
  refine own_tr (T' := T4) (g' := (mkF m 15 #[.val (.ref a0), .val (.int p1), .val (.int p2), .val (.double d3), .second] [(.int w_columns_a0), (.int p1), (.ref w_values_a0)])) st4 ?_
  refine own_st (T' := T4) (g' := (mkF m 19 #[.val (.ref a0), .val (.int p1), .val (.int p2), .val (.double d3), .second] [(.double d3), (.int ((p1 * w_columns_a0) + p2)), (.ref w_values_a0)])) (fun t k => ?_) ?_
  · show Steps p.tables e below (T4.setTop (mkF m 15 #[.val (.ref a0), .val (.int p1), .val (.int p2), .val (.double d3), .second] [(.int w_columns_a0), (.int p1), (.ref w_values_a0)])) t
    refine XS.imul X4.here hx rfl (hb hby d6_15) rfl ?_
    show Steps p.tables e below (T4.setTop (mkF m 16 #[.val (.ref a0), .val (.int p1), .val (.int p2), .val (.double d3), .second] [(.int (p1 * w_columns_a0)), (.ref w_values_a0)])) t
    refine XS.iloadN X4.here hx rfl (hb hby d6_16) rfl ?_
    show Steps p.tables e below (T4.setTop (mkF m 17 #[.val (.ref a0), .val (.int p1), .val (.int p2), .val (.double d3), .second] [(.int p2), (.int (p1 * w_columns_a0)), (.ref w_values_a0)])) t
    refine XS.iadd X4.here hx rfl (hb hby d6_17) rfl ?_
    show Steps p.tables e below (T4.setTop (mkF m 18 #[.val (.ref a0), .val (.int p1), .val (.int p2), .val (.double d3), .second] [(.int ((p1 * w_columns_a0) + p2)), (.ref w_values_a0)])) t
    refine XS.dloadN X4.here hx rfl (hb hby d6_18) rfl ?_
    exact k
  obtain ⟨c6, r6a, r6b, r6c, r6d, r6e, r6f⟩ := id V_w_values_a0
  have i6 : ¬ (((p1 * w_columns_a0) + p2) < 0 ∨ c6.slots.size ≤ (((p1 * w_columns_a0) + p2)).toNatClampNeg) := inb_of r6c hin19
  obtain ⟨T6, h6, X6, e6, W6, st6⟩ := stD X4 hx hZ e4 r6a (j := ((p1 * w_columns_a0) + p2)) i6 (g := (mkF m 19 #[.val (.ref a0), .val (.int p1), .val (.int p2), .val (.double d3), .second] [(.double d3), (.int ((p1 * w_columns_a0) + p2)), (.ref w_values_a0)])) rfl rfl (hb hby d6_19)
  have v7 := Arv.set r6a r6b r6c r6d r6e r6f rfl W6 (((p1 * w_columns_a0) + p2)).toNatClampNeg rfl hle_vs_w_values_a0
  have f8 := E_a0.wr W6
  have f9 := F_rows_a0.other W6 (Or.inl ne_a0_w_values_a0)
  have f10 := F_columns_a0.other W6 (Or.inl ne_a0_w_values_a0)
  have f11 := F_values_a0.other W6 (Or.inl ne_a0_w_values_a0)
  have z12 := Nat.le_trans Z0 (Keep.of_wr W6).1
  have k13 := K0.wr W6 (Or.inl (List.mem_of_getElem? (i := 0) rfl))
  have n14 := Fr.snoc X6 n5 g_w_values_a0
  refine own_st (T' := T6) (g' := (mkF m 20 #[.val (.ref a0), .val (.int p1), .val (.int p2), .val (.double d3), .second] [])) st6 ?_
  refine own_retV X6 hx hlk Bd.returns (hb hby d6_20) (by decide) (by decide) ?_
  show Q6 Z a0 p1 p2 d3 w_rows_a0 w_columns_a0 w_values_a0 kk_w_values_a0 z_w_values_a0 vs_w_values_a0 dv_w_values_a0 h0 n0 none T6.heap _
  rw [(e6 : T6.heap = h6)]
  exact ⟨rfl, n14, k13, v7⟩
theorem d5_0 : decode method_3_code 0 = .ok (.iload_n 0, 1) := by decide +kernel
theorem d5_1 : decode method_3_code 1 = .ok (.iconst 3, 1) := by decide +kernel
theorem d5_2 : decode method_3_code 2 = .ok (.iand, 1) := by decide +kernel
theorem d5_3 : decode method_3_code 3 = .ok (.istore_n 1, 1) := by decide +kernel
theorem d5_4 : decode method_3_code 4 = .ok (.iload_n 1, 1) := by decide +kernel
theorem d5_5 : decode method_3_code 5 = .ok (.ifCond .ne 5, 3) := by decide +kernel
theorem d5_8 : decode method_3_code 8 = .ok (.dconst 0, 1) := by decide +kernel
theorem d5_9 : decode method_3_code 9 = .ok (.dreturn, 1) := by decide +kernel
theorem d5_10 : decode method_3_code 10 = .ok (.iload_n 1, 1) := by decide +kernel
theorem d5_11 : decode method_3_code 11 = .ok (.iconst 1, 1) := by decide +kernel
theorem d5_12 : decode method_3_code 12 = .ok (.if_icmp .ne 7, 3) := by decide +kernel
theorem d5_15 : decode method_3_code 15 = .ok (.ldc2_w 30, 3) := by decide +kernel
theorem d5_18 : decode method_3_code 18 = .ok (.dreturn, 1) := by decide +kernel
theorem d5_19 : decode method_3_code 19 = .ok (.iload_n 0, 1) := by decide +kernel
theorem d5_20 : decode method_3_code 20 = .ok (.iconst 2, 1) := by decide +kernel
theorem d5_21 : decode method_3_code 21 = .ok (.ishr, 1) := by decide +kernel
theorem d5_22 : decode method_3_code 22 = .ok (.i2d, 1) := by decide +kernel
theorem d5_23 : decode method_3_code 23 = .ok (.dreturn, 1) := by decide +kernel
theorem pn5 : plainName "com/example/winnowfold/winnowfold/math/DenseMatrixNonZeroCountPinLaw" = true := by first | (simp [plainName, overriddenIn]; done) | decide +kernel
theorem ef5 (m : MethodId) (p0 : Int32) : entryFrame m #[(.int p0)] 2 = mkF m 0 #[.val (.int p0), .unset] [] := by first | (simp [entryFrame, mkF, argsToLocals, Value.category]; done) | rfl
def Q5 (Z : State) (p0 : Int32) (h0 : Heap) (n0 : Nat) (v : Option Value) (h : Heap) (L : List Loc) : Prop := v = some (.double (own_val p0)) ∧ Fr n0 L ∧ h = h0
set_option maxRecDepth 65536 in
set_option maxHeartbeats 40000000 in
theorem rm5 (l : Launch) (Z : State) (ar : Array Value) (hw : ∀ d ∈ tables_1, d.before ar Z = true) (ws : List Jvm.Cond) (p0 : Int32) (h0 : Heap) (n0 : Nat) (Z0 : n0 ≤ h0.size) :
    MetFree l (⟨"com/example/winnowfold/winnowfold/math/DenseMatrixNonZeroCountPinLaw", "val", "(I)D"⟩ : MethodName) (head1 (Jvm.Cond.code (⟨"com/example/winnowfold/winnowfold/math/DenseMatrixNonZeroCountPinLaw", "val", "(I)D"⟩ : MethodName) method_3_code 2 (some .double) :: ws) ({ frames := 0, cells := 0, slots := 0, locals := 0 } : Room)) (fun a U => a = #[(.int p0)] ∧ Z.Warmed39 U.vm ∧ U.heap = h0) (fun _ _ _ _ _ => True) (fun _ U o U' => ∃ v L, o = .returned v ∧ Q5 Z p0 h0 n0 v U'.heap L ∧ FrameEnd U o U' L ({ frames := 0, cells := 0, slots := 0, locals := 0 } : Room).cells ({ frames := 0, cells := 0, slots := 0, locals := 0 } : Room).slots) := by
  refine MetFree.of_bodySF (plainFor_of_name pn5) hisR ?_
  intro p e s m args below meth c s₁ Bd hml0 hP hK
  obtain ⟨rfl, hZ, hh⟩ := hP
  have hx := Bd.exec
  have hby := Bd.bytes
  have hlk := Bd.notSynchronized
  have hml : c.maxLocals = 2 := hml0
  have hown : s.vm.findClass "com/example/winnowfold/winnowfold/math/DenseMatrixNonZeroCountPinLaw" = some m.cls := findClass_of_methodNamed Bd.named
  have hnm := (name_of_methodNamed Bd.named Bd.method).1
  have X0 : Stand p l e ({ frames := 0, cells := 0, slots := 0, locals := 0 } : Room) s m #[(.int p0)] below meth c s₁ [] 0 0 := Stand.of_body Bd
  have e0 : s₁.heap = h0 := by rw [← hh, Bd.state]; rfl
  have N0 := Fr.nil n0
  have K0 := Keep.refl h0 []
  refine own_enter (Q := Q5 Z p0 h0 n0) (ef5 m p0) ?_
  refine own_st (T' := s₁) (g' := (mkF m 5 #[.val (.int p0), .val (.int (p0 &&& (3 : Int32)))] [(.int (p0 &&& (3 : Int32)))])) (fun t k => ?_) ?_
  · show Steps p.tables e below (s₁.setTop (mkF m 0 #[.val (.int p0), .unset] [])) t
    refine XS.iloadN X0.here hx rfl (hb hby d5_0) rfl ?_
    show Steps p.tables e below (s₁.setTop (mkF m 1 #[.val (.int p0), .unset] [(.int p0)])) t
    refine XS.iconst X0.here hx rfl (hb hby d5_1) ?_
    show Steps p.tables e below (s₁.setTop (mkF m 2 #[.val (.int p0), .unset] [(.int (3 : Int32)), (.int p0)])) t
    refine XS.iand X0.here hx rfl (hb hby d5_2) rfl ?_
    show Steps p.tables e below (s₁.setTop (mkF m 3 #[.val (.int p0), .unset] [(.int (p0 &&& (3 : Int32)))])) t
    refine XS.istoreN X0.here hx rfl (hb hby d5_3) rfl (l' := #[.val (.int p0), .val (.int (p0 &&& (3 : Int32)))]) rfl ?_
    show Steps p.tables e below (s₁.setTop (mkF m 4 #[.val (.int p0), .val (.int (p0 &&& (3 : Int32)))] [])) t
    refine XS.iloadN X0.here hx rfl (hb hby d5_4) rfl ?_
    exact k
  by_cases hc5_1 : (p0 &&& (3 : Int32)) = (0 : Int32)
  · refine own_st (T' := s₁) (g' := (mkF m 9 #[.val (.int p0), .val (.int (p0 &&& (3 : Int32)))] [(.double (0 : UInt64))])) (fun t k => ?_) ?_
    · show Steps p.tables e below (s₁.setTop (mkF m 5 #[.val (.int p0), .val (.int (p0 &&& (3 : Int32)))] [(.int (p0 &&& (3 : Int32)))])) t
      refine XS.ifNo X0.here hx rfl (hb hby d5_5) rfl ((if0 _ _).trans (teq hc5_1).2) ?_
      show Steps p.tables e below (s₁.setTop (mkF m 8 #[.val (.int p0), .val (.int (p0 &&& (3 : Int32)))] [])) t
      refine XS.dconst0 X0.here hx rfl (hb hby d5_8) rfl ?_
      exact k
    refine own_retD X0 hx hlk Bd.returns (hb hby d5_9) (by decide) (by decide) ?_
    show Q5 Z p0 h0 n0 (some (.double (0 : UInt64))) s₁.heap _
    rw [(e0 : s₁.heap = h0)]
    exact ⟨congrArg (fun z => some (Value.double z)) (by unfold own_val; rw [if_pos hc5_1]), N0, rfl⟩
  · refine own_st (T' := s₁) (g' := (mkF m 12 #[.val (.int p0), .val (.int (p0 &&& (3 : Int32)))] [(.int (1 : Int32)), (.int (p0 &&& (3 : Int32)))])) (fun t k => ?_) ?_
    · show Steps p.tables e below (s₁.setTop (mkF m 5 #[.val (.int p0), .val (.int (p0 &&& (3 : Int32)))] [(.int (p0 &&& (3 : Int32)))])) t
      refine XS.ifYes X0.here hx rfl (pc0 := 5) (pc' := 10) rfl (hb hby d5_5) rfl ((if0 _ _).trans (feq hc5_1).2) (by decide) (by decide) ?_
      show Steps p.tables e below (s₁.setTop (mkF m 10 #[.val (.int p0), .val (.int (p0 &&& (3 : Int32)))] [])) t
      refine XS.iloadN X0.here hx rfl (hb hby d5_10) rfl ?_
      show Steps p.tables e below (s₁.setTop (mkF m 11 #[.val (.int p0), .val (.int (p0 &&& (3 : Int32)))] [(.int (p0 &&& (3 : Int32)))])) t
      refine XS.iconst X0.here hx rfl (hb hby d5_11) ?_
      exact k
    by_cases hc12_2 : (p0 &&& (3 : Int32)) = (1 : Int32)
    · refine own_st (T' := s₁) (g' := (mkF m 18 #[.val (.int p0), .val (.int (p0 &&& (3 : Int32)))] [(.double (9223372036854775808 : UInt64))])) (fun t k => ?_) ?_
      · show Steps p.tables e below (s₁.setTop (mkF m 12 #[.val (.int p0), .val (.int (p0 &&& (3 : Int32)))] [(.int (1 : Int32)), (.int (p0 &&& (3 : Int32)))])) t
        refine XS.icmpNo X0.here hx rfl (hb hby d5_12) rfl (teq hc12_2).2 ?_
        show Steps p.tables e below (s₁.setTop (mkF m 15 #[.val (.int p0), .val (.int (p0 &&& (3 : Int32)))] [])) t
        refine X0.ldc2DoubleC hx hown (mvT hZ (hw _ (List.mem_of_getElem? (i := 59) rfl))) (g := (mkF m 15 #[.val (.int p0), .val (.int (p0 &&& (3 : Int32)))] [])) rfl (hb hby d5_15) _ ?_
        exact k
      refine own_retD X0 hx hlk Bd.returns (hb hby d5_18) (by decide) (by decide) ?_
      show Q5 Z p0 h0 n0 (some (.double (9223372036854775808 : UInt64))) s₁.heap _
      rw [(e0 : s₁.heap = h0)]
      exact ⟨congrArg (fun z => some (Value.double z)) (by unfold own_val; rw [if_neg hc5_1]; rw [if_pos hc12_2]), N0, rfl⟩
    · refine own_st (T' := s₁) (g' := (mkF m 23 #[.val (.int p0), .val (.int (p0 &&& (3 : Int32)))] [(.double (FP.i2d (p0 >>> ((2 : Int32) &&& 31))))])) (fun t k => ?_) ?_
      · show Steps p.tables e below (s₁.setTop (mkF m 12 #[.val (.int p0), .val (.int (p0 &&& (3 : Int32)))] [(.int (1 : Int32)), (.int (p0 &&& (3 : Int32)))])) t
        refine XS.icmpYes X0.here hx rfl (pc0 := 12) (pc' := 19) rfl (hb hby d5_12) rfl (feq hc12_2).2 (by decide) (by decide) ?_
        show Steps p.tables e below (s₁.setTop (mkF m 19 #[.val (.int p0), .val (.int (p0 &&& (3 : Int32)))] [])) t
        refine XS.iloadN X0.here hx rfl (hb hby d5_19) rfl ?_
        show Steps p.tables e below (s₁.setTop (mkF m 20 #[.val (.int p0), .val (.int (p0 &&& (3 : Int32)))] [(.int p0)])) t
        refine XS.iconst X0.here hx rfl (hb hby d5_20) ?_
        show Steps p.tables e below (s₁.setTop (mkF m 21 #[.val (.int p0), .val (.int (p0 &&& (3 : Int32)))] [(.int (2 : Int32)), (.int p0)])) t
        refine XS.ishr X0.here hx rfl (hb hby d5_21) rfl ?_
        show Steps p.tables e below (s₁.setTop (mkF m 22 #[.val (.int p0), .val (.int (p0 &&& (3 : Int32)))] [(.int (p0 >>> ((2 : Int32) &&& 31)))])) t
        refine XS.i2dS X0.here hx rfl (hb hby d5_22) rfl rfl ?_
        exact k
      refine own_retD X0 hx hlk Bd.returns (hb hby d5_23) (by decide) (by decide) ?_
      show Q5 Z p0 h0 n0 (some (.double (FP.i2d (p0 >>> ((2 : Int32) &&& 31))))) s₁.heap _
      rw [(e0 : s₁.heap = h0)]
      exact ⟨congrArg (fun z => some (Value.double z)) (by unfold own_val; rw [if_neg hc5_1]; rw [if_neg hc12_2]), N0, rfl⟩
theorem d11_0 : decode method_4_code 0 = .ok (.iload_n 0, 1) := by decide +kernel
theorem d11_1 : decode method_4_code 1 = .ok (.iconst 3, 1) := by decide +kernel
theorem d11_2 : decode method_4_code 2 = .ok (.iand, 1) := by decide +kernel
theorem d11_3 : decode method_4_code 3 = .ok (.iconst 2, 1) := by decide +kernel
theorem d11_4 : decode method_4_code 4 = .ok (.if_icmp .lt 11, 3) := by decide +kernel
theorem d11_7 : decode method_4_code 7 = .ok (.iload_n 0, 1) := by decide +kernel
theorem d11_8 : decode method_4_code 8 = .ok (.iconst 2, 1) := by decide +kernel
theorem d11_9 : decode method_4_code 9 = .ok (.ishr, 1) := by decide +kernel
theorem d11_10 : decode method_4_code 10 = .ok (.ifCond .eq 5, 3) := by decide +kernel
theorem d11_13 : decode method_4_code 13 = .ok (.iconst 1, 1) := by decide +kernel
theorem d11_14 : decode method_4_code 14 = .ok (.ireturn, 1) := by decide +kernel
theorem d11_15 : decode method_4_code 15 = .ok (.iconst 0, 1) := by decide +kernel
theorem d11_16 : decode method_4_code 16 = .ok (.ireturn, 1) := by decide +kernel
theorem pn11 : plainName "com/example/winnowfold/winnowfold/math/DenseMatrixNonZeroCountPinLaw" = true := by first | (simp [plainName, overriddenIn]; done) | decide +kernel
theorem ef11 (m : MethodId) (p0 : Int32) : entryFrame m #[(.int p0)] 1 = mkF m 0 #[.val (.int p0)] [] := by first | (simp [entryFrame, mkF, argsToLocals, Value.category]; done) | rfl
def Q11 (Z : State) (p0 : Int32) (h0 : Heap) (n0 : Nat) (v : Option Value) (h : Heap) (L : List Loc) : Prop := v = some (.int (own_cnt p0)) ∧ Fr n0 L ∧ h = h0
set_option maxRecDepth 65536 in
set_option maxHeartbeats 40000000 in
theorem rm11 (l : Launch) (Z : State) (ar : Array Value) (hw : ∀ d ∈ tables_1, d.before ar Z = true) (ws : List Jvm.Cond) (p0 : Int32) (h0 : Heap) (n0 : Nat) (Z0 : n0 ≤ h0.size) :
    MetFree l (⟨"com/example/winnowfold/winnowfold/math/DenseMatrixNonZeroCountPinLaw", "nz", "(I)I"⟩ : MethodName) (head1 (Jvm.Cond.code (⟨"com/example/winnowfold/winnowfold/math/DenseMatrixNonZeroCountPinLaw", "nz", "(I)I"⟩ : MethodName) method_4_code 1 (some .int) :: ws) ({ frames := 0, cells := 0, slots := 0, locals := 0 } : Room)) (fun a U => a = #[(.int p0)] ∧ Z.Warmed39 U.vm ∧ U.heap = h0) (fun _ _ _ _ _ => True) (fun _ U o U' => ∃ v L, o = .returned v ∧ Q11 Z p0 h0 n0 v U'.heap L ∧ FrameEnd U o U' L ({ frames := 0, cells := 0, slots := 0, locals := 0 } : Room).cells ({ frames := 0, cells := 0, slots := 0, locals := 0 } : Room).slots) := by
  refine MetFree.of_bodySF (plainFor_of_name pn11) hisR ?_
  intro p e s m args below meth c s₁ Bd hml0 hP hK
  obtain ⟨rfl, hZ, hh⟩ := hP
  have hx := Bd.exec
  have hby := Bd.bytes
  have hlk := Bd.notSynchronized
  have hml : c.maxLocals = 1 := hml0
  have hown : s.vm.findClass "com/example/winnowfold/winnowfold/math/DenseMatrixNonZeroCountPinLaw" = some m.cls := findClass_of_methodNamed Bd.named
  have hnm := (name_of_methodNamed Bd.named Bd.method).1
  have X0 : Stand p l e ({ frames := 0, cells := 0, slots := 0, locals := 0 } : Room) s m #[(.int p0)] below meth c s₁ [] 0 0 := Stand.of_body Bd
  have e0 : s₁.heap = h0 := by rw [← hh, Bd.state]; rfl
  have N0 := Fr.nil n0
  have K0 := Keep.refl h0 []
  refine own_enter (Q := Q11 Z p0 h0 n0) (ef11 m p0) ?_
  refine own_st (T' := s₁) (g' := (mkF m 4 #[.val (.int p0)] [(.int (2 : Int32)), (.int (p0 &&& (3 : Int32)))])) (fun t k => ?_) ?_
  · show Steps p.tables e below (s₁.setTop (mkF m 0 #[.val (.int p0)] [])) t
    refine XS.iloadN X0.here hx rfl (hb hby d11_0) rfl ?_
    show Steps p.tables e below (s₁.setTop (mkF m 1 #[.val (.int p0)] [(.int p0)])) t
    refine XS.iconst X0.here hx rfl (hb hby d11_1) ?_
    show Steps p.tables e below (s₁.setTop (mkF m 2 #[.val (.int p0)] [(.int (3 : Int32)), (.int p0)])) t
    refine XS.iand X0.here hx rfl (hb hby d11_2) rfl ?_
    show Steps p.tables e below (s₁.setTop (mkF m 3 #[.val (.int p0)] [(.int (p0 &&& (3 : Int32)))])) t
    refine XS.iconst X0.here hx rfl (hb hby d11_3) ?_
    exact k
  by_cases hc4_1 : (p0 &&& (3 : Int32)) < (2 : Int32)
  · refine own_st (T' := s₁) (g' := (mkF m 16 #[.val (.int p0)] [(.int (0 : Int32))])) (fun t k => ?_) ?_
    · show Steps p.tables e below (s₁.setTop (mkF m 4 #[.val (.int p0)] [(.int (2 : Int32)), (.int (p0 &&& (3 : Int32)))])) t
      refine XS.icmpYes X0.here hx rfl (pc0 := 4) (pc' := 15) rfl (hb hby d11_4) rfl (tlt hc4_1).1 (by decide) (by decide) ?_
      show Steps p.tables e below (s₁.setTop (mkF m 15 #[.val (.int p0)] [])) t
      refine XS.iconst X0.here hx rfl (hb hby d11_15) ?_
      exact k
    refine own_retI X0 hx hlk Bd.returns (hb hby d11_16) (by decide) (by decide) ?_
    show Q11 Z p0 h0 n0 (some (.int (0 : Int32))) s₁.heap _
    rw [(e0 : s₁.heap = h0)]
    exact ⟨congrArg (fun z => some (Value.int z)) (by unfold own_cnt; rw [if_pos hc4_1]), N0, rfl⟩
  · refine own_st (T' := s₁) (g' := (mkF m 10 #[.val (.int p0)] [(.int (p0 >>> ((2 : Int32) &&& 31)))])) (fun t k => ?_) ?_
    · show Steps p.tables e below (s₁.setTop (mkF m 4 #[.val (.int p0)] [(.int (2 : Int32)), (.int (p0 &&& (3 : Int32)))])) t
      refine XS.icmpNo X0.here hx rfl (hb hby d11_4) rfl (flt hc4_1).1 ?_
      show Steps p.tables e below (s₁.setTop (mkF m 7 #[.val (.int p0)] [])) t
      refine XS.iloadN X0.here hx rfl (hb hby d11_7) rfl ?_
      show Steps p.tables e below (s₁.setTop (mkF m 8 #[.val (.int p0)] [(.int p0)])) t
      refine XS.iconst X0.here hx rfl (hb hby d11_8) ?_
      show Steps p.tables e below (s₁.setTop (mkF m 9 #[.val (.int p0)] [(.int (2 : Int32)), (.int p0)])) t
      refine XS.ishr X0.here hx rfl (hb hby d11_9) rfl ?_
      exact k
    by_cases hc10_2 : (p0 >>> ((2 : Int32) &&& 31)) = (0 : Int32)
    · refine own_st (T' := s₁) (g' := (mkF m 16 #[.val (.int p0)] [(.int (0 : Int32))])) (fun t k => ?_) ?_
      · show Steps p.tables e below (s₁.setTop (mkF m 10 #[.val (.int p0)] [(.int (p0 >>> ((2 : Int32) &&& 31)))])) t
        refine XS.ifYes X0.here hx rfl (pc0 := 10) (pc' := 15) rfl (hb hby d11_10) rfl ((if0 _ _).trans (teq hc10_2).1) (by decide) (by decide) ?_
        show Steps p.tables e below (s₁.setTop (mkF m 15 #[.val (.int p0)] [])) t
        refine XS.iconst X0.here hx rfl (hb hby d11_15) ?_
        exact k
      refine own_retI X0 hx hlk Bd.returns (hb hby d11_16) (by decide) (by decide) ?_
      show Q11 Z p0 h0 n0 (some (.int (0 : Int32))) s₁.heap _
      rw [(e0 : s₁.heap = h0)]
      exact ⟨congrArg (fun z => some (Value.int z)) (by unfold own_cnt; rw [if_neg hc4_1]; rw [if_pos hc10_2]), N0, rfl⟩
    · refine own_st (T' := s₁) (g' := (mkF m 14 #[.val (.int p0)] [(.int (1 : Int32))])) (fun t k => ?_) ?_
      · show Steps p.tables e below (s₁.setTop (mkF m 10 #[.val (.int p0)] [(.int (p0 >>> ((2 : Int32) &&& 31)))])) t
        refine XS.ifNo X0.here hx rfl (hb hby d11_10) rfl ((if0 _ _).trans (feq hc10_2).1) ?_
        show Steps p.tables e below (s₁.setTop (mkF m 13 #[.val (.int p0)] [])) t
        refine XS.iconst X0.here hx rfl (hb hby d11_13) ?_
        exact k
      refine own_retI X0 hx hlk Bd.returns (hb hby d11_14) (by decide) (by decide) ?_
      show Q11 Z p0 h0 n0 (some (.int (1 : Int32))) s₁.heap _
      rw [(e0 : s₁.heap = h0)]
      exact ⟨congrArg (fun z => some (Value.int z)) (by unfold own_cnt; rw [if_neg hc4_1]; rw [if_neg hc10_2]), N0, rfl⟩
theorem d4_0 : decode prog_51_method_7_code 0 = .ok (.iconst 0, 1) := by decide +kernel
theorem d4_1 : decode prog_51_method_7_code 1 = .ok (.istore_n 1, 1) := by decide +kernel
theorem d4_2 : decode prog_51_method_7_code 2 = .ok (.aload_n 0, 1) := by decide +kernel
theorem d4_3 : decode prog_51_method_7_code 3 = .ok (.getfield 20, 3) := by decide +kernel
theorem d4_6 : decode prog_51_method_7_code 6 = .ok (.astore_n 2, 1) := by decide +kernel
theorem d4_7 : decode prog_51_method_7_code 7 = .ok (.aload_n 2, 1) := by decide +kernel
theorem d4_8 : decode prog_51_method_7_code 8 = .ok (.arraylength, 1) := by decide +kernel
theorem d4_9 : decode prog_51_method_7_code 9 = .ok (.istore_n 3, 1) := by decide +kernel
theorem d4_10 : decode prog_51_method_7_code 10 = .ok (.iconst 0, 1) := by decide +kernel
theorem d4_11 : decode prog_51_method_7_code 11 = .ok (.istore 4, 2) := by decide +kernel
theorem d4_13 : decode prog_51_method_7_code 13 = .ok (.iload 4, 2) := by decide +kernel
theorem d4_15 : decode prog_51_method_7_code 15 = .ok (.iload_n 3, 1) := by decide +kernel
theorem d4_16 : decode prog_51_method_7_code 16 = .ok (.if_icmp .ge 25, 3) := by decide +kernel
theorem d4_41 : decode prog_51_method_7_code 41 = .ok (.iload_n 1, 1) := by decide +kernel
theorem d4_42 : decode prog_51_method_7_code 42 = .ok (.ireturn, 1) := by decide +kernel
theorem pnz0 : plainName "com/example/winnowfold/winnowfold/math/DenseMatrix" = true := by first | (simp [plainName, overriddenIn]; done) | decide +kernel
theorem efz0 (m : MethodId) (a0 : Addr) : entryFrame m #[(.ref a0)] 7 = mkF m 0 #[.val (.ref a0), .unset, .unset, .unset, .unset, .unset, .unset] [] := by first | (simp [entryFrame, mkF, argsToLocals, Value.category]; done) | rfl
def Qz0 (Z : State) (a0 : Addr) (w_values_a0 : Addr) (kk_w_values_a0 : ClassId) (h0 : Heap) (n0 : Nat) (v : Option Value) (h : Heap) (L : List Loc) : Prop := v = some (.int (0 : Int32)) ∧ Fr n0 L ∧ h = h0
set_option maxRecDepth 65536 in
set_option maxHeartbeats 40000000 in
theorem rmz0 (l : Launch) (Z : State) (ar : Array Value) (hw : ∀ d ∈ tables_1, d.before ar Z = true) (ws : List Jvm.Cond) (a0 : Addr) (w_values_a0 : Addr) (kk_w_values_a0 : ClassId) (h0 : Heap) (n0 : Nat) (Z0 : n0 ≤ h0.size) (E_a0 : Exa Z h0 a0 "com/example/winnowfold/winnowfold/math/DenseMatrix") (F_values_a0 : Fld Z h0 a0 "com/example/winnowfold/winnowfold/math/DenseMatrix" "values" "[D" (.ref w_values_a0)) (V_w_values_a0 : Arv Z h0 w_values_a0 kk_w_values_a0 .double (0 : Int32) [] (.double (0 : UInt64))) :
    MetFree l (⟨"com/example/winnowfold/winnowfold/math/DenseMatrix", "nonZeroCount", "()I"⟩ : MethodName) (head1 (Jvm.Cond.code (⟨"com/example/winnowfold/winnowfold/math/DenseMatrix", "nonZeroCount", "()I"⟩ : MethodName) prog_51_method_7_code 7 (some .int) :: ws) ({ frames := 0, cells := 0, slots := 0, locals := 0 } : Room)) (fun a U => a = #[(.ref a0)] ∧ Z.Warmed39 U.vm ∧ U.heap = h0) (fun _ _ _ _ _ => True) (fun _ U o U' => ∃ v L, o = .returned v ∧ Qz0 Z a0 w_values_a0 kk_w_values_a0 h0 n0 v U'.heap L ∧ FrameEnd U o U' L ({ frames := 0, cells := 0, slots := 0, locals := 0 } : Room).cells ({ frames := 0, cells := 0, slots := 0, locals := 0 } : Room).slots) := by
  refine MetFree.of_bodySF (plainFor_of_name pnz0) hisR ?_
  intro p e s m args below meth c s₁ Bd hml0 hP hK
  obtain ⟨rfl, hZ, hh⟩ := hP
  have hx := Bd.exec
  have hby := Bd.bytes
  have hlk := Bd.notSynchronized
  have hml : c.maxLocals = 7 := hml0
  have hown : s.vm.findClass "com/example/winnowfold/winnowfold/math/DenseMatrix" = some m.cls := findClass_of_methodNamed Bd.named
  have hnm := (name_of_methodNamed Bd.named Bd.method).1
  have X0 : Stand p l e ({ frames := 0, cells := 0, slots := 0, locals := 0 } : Room) s m #[(.ref a0)] below meth c s₁ [] 0 0 := Stand.of_body Bd
  have e0 : s₁.heap = h0 := by rw [← hh, Bd.state]; rfl
  have N0 := Fr.nil n0
  have K0 := Keep.refl h0 []
  refine own_enter (Q := Qz0 Z a0 w_values_a0 kk_w_values_a0 h0 n0) (efz0 m a0) ?_
  refine own_st (T' := s₁) (g' := (mkF m 3 #[.val (.ref a0), .val (.int (0 : Int32)), .unset, .unset, .unset, .unset, .unset] [(.ref a0)])) (fun t k => ?_) ?_
  · show Steps p.tables e below (s₁.setTop (mkF m 0 #[.val (.ref a0), .unset, .unset, .unset, .unset, .unset, .unset] [])) t
    refine XS.iconst X0.here hx rfl (hb hby d4_0) ?_
    show Steps p.tables e below (s₁.setTop (mkF m 1 #[.val (.ref a0), .unset, .unset, .unset, .unset, .unset, .unset] [(.int (0 : Int32))])) t
    refine XS.istoreN X0.here hx rfl (hb hby d4_1) rfl (l' := #[.val (.ref a0), .val (.int (0 : Int32)), .unset, .unset, .unset, .unset, .unset]) rfl ?_
    show Steps p.tables e below (s₁.setTop (mkF m 2 #[.val (.ref a0), .val (.int (0 : Int32)), .unset, .unset, .unset, .unset, .unset] [])) t
    refine XS.aloadN X0.here hx rfl (hb hby d4_2) rfl rfl ?_
    exact k
  obtain ⟨T1, X1, e1, st1⟩ := getF X0 hx hZ hown (host := "") (Or.inl (hw _ (List.mem_of_getElem? (i := 20) rfl))) Via.refl e0 F_values_a0 (g := (mkF m 3 #[.val (.ref a0), .val (.int (0 : Int32)), .unset, .unset, .unset, .unset, .unset] [(.ref a0)])) rfl rfl (hb hby d4_3)
  refine own_st (T' := T1) (g' := (mkF m 6 #[.val (.ref a0), .val (.int (0 : Int32)), .unset, .unset, .unset, .unset, .unset] [(.ref w_values_a0)])) st1 ?_
  refine own_st (T' := T1) (g' := (mkF m 8 #[.val (.ref a0), .val (.int (0 : Int32)), .val (.ref w_values_a0), .unset, .unset, .unset, .unset] [(.ref w_values_a0)])) (fun t k => ?_) ?_
  · show Steps p.tables e below (T1.setTop (mkF m 6 #[.val (.ref a0), .val (.int (0 : Int32)), .unset, .unset, .unset, .unset, .unset] [(.ref w_values_a0)])) t
    refine XS.astoreN X1.here hx rfl (hb hby d4_6) rfl rfl (l' := #[.val (.ref a0), .val (.int (0 : Int32)), .val (.ref w_values_a0), .unset, .unset, .unset, .unset]) rfl ?_
    show Steps p.tables e below (T1.setTop (mkF m 7 #[.val (.ref a0), .val (.int (0 : Int32)), .val (.ref w_values_a0), .unset, .unset, .unset, .unset] [])) t
    refine XS.aloadN X1.here hx rfl (hb hby d4_7) rfl rfl ?_
    exact k
  obtain ⟨c2, r2a, -, r2c, r2d, -, -⟩ := id V_w_values_a0
  refine own_st (T' := T1) (g' := (mkF m 42 #[.val (.ref a0), .val (.int (0 : Int32)), .val (.ref w_values_a0), .val (.int (0 : Int32)), .val (.int (0 : Int32)), .unset, .unset] [(.int (0 : Int32))])) (fun t k => ?_) ?_
  · show Steps p.tables e below (T1.setTop (mkF m 8 #[.val (.ref a0), .val (.int (0 : Int32)), .val (.ref w_values_a0), .unset, .unset, .unset, .unset] [(.ref w_values_a0)])) t
    refine X1.arraylength hx (by rw [e1]; exact r2a.1) (State.isArrayOf_alike hZ.alike r2a.2.1) (g := (mkF m 8 #[.val (.ref a0), .val (.int (0 : Int32)), .val (.ref w_values_a0), .unset, .unset, .unset, .unset] [(.ref w_values_a0)])) rfl rfl (hb hby d4_8) _ ?_
    rw [len_of r2c r2d]
    show Steps p.tables e below (T1.setTop (mkF m 9 #[.val (.ref a0), .val (.int (0 : Int32)), .val (.ref w_values_a0), .unset, .unset, .unset, .unset] [(.int (0 : Int32))])) t
    refine XS.istoreN X1.here hx rfl (hb hby d4_9) rfl (l' := #[.val (.ref a0), .val (.int (0 : Int32)), .val (.ref w_values_a0), .val (.int (0 : Int32)), .unset, .unset, .unset]) rfl ?_
    show Steps p.tables e below (T1.setTop (mkF m 10 #[.val (.ref a0), .val (.int (0 : Int32)), .val (.ref w_values_a0), .val (.int (0 : Int32)), .unset, .unset, .unset] [])) t
    refine XS.iconst X1.here hx rfl (hb hby d4_10) ?_
    show Steps p.tables e below (T1.setTop (mkF m 11 #[.val (.ref a0), .val (.int (0 : Int32)), .val (.ref w_values_a0), .val (.int (0 : Int32)), .unset, .unset, .unset] [(.int (0 : Int32))])) t
    refine XS.istore X1.here hx rfl (hb hby d4_11) rfl (l' := #[.val (.ref a0), .val (.int (0 : Int32)), .val (.ref w_values_a0), .val (.int (0 : Int32)), .val (.int (0 : Int32)), .unset, .unset]) rfl ?_
    show Steps p.tables e below (T1.setTop (mkF m 13 #[.val (.ref a0), .val (.int (0 : Int32)), .val (.ref w_values_a0), .val (.int (0 : Int32)), .val (.int (0 : Int32)), .unset, .unset] [])) t
    refine XS.iload X1.here hx rfl (hb hby d4_13) rfl ?_
    show Steps p.tables e below (T1.setTop (mkF m 15 #[.val (.ref a0), .val (.int (0 : Int32)), .val (.ref w_values_a0), .val (.int (0 : Int32)), .val (.int (0 : Int32)), .unset, .unset] [(.int (0 : Int32))])) t
    refine XS.iloadN X1.here hx rfl (hb hby d4_15) rfl ?_
    show Steps p.tables e below (T1.setTop (mkF m 16 #[.val (.ref a0), .val (.int (0 : Int32)), .val (.ref w_values_a0), .val (.int (0 : Int32)), .val (.int (0 : Int32)), .unset, .unset] [(.int (0 : Int32)), (.int (0 : Int32))])) t
    refine XS.icmpYes X1.here hx rfl (pc0 := 16) (pc' := 41) rfl (hb hby d4_16) rfl (by decide) (by decide) (by decide) ?_
    show Steps p.tables e below (T1.setTop (mkF m 41 #[.val (.ref a0), .val (.int (0 : Int32)), .val (.ref w_values_a0), .val (.int (0 : Int32)), .val (.int (0 : Int32)), .unset, .unset] [])) t
    refine XS.iloadN X1.here hx rfl (hb hby d4_41) rfl ?_
    exact k
  refine own_retI X1 hx hlk Bd.returns (hb hby d4_42) (by decide) (by decide) ?_
  show Qz0 Z a0 w_values_a0 kk_w_values_a0 h0 n0 (some (.int (0 : Int32))) T1.heap _
  rw [(e1 : T1.heap = h0)]
  exact ⟨congrArg (fun z => some (Value.int z)) (rfl), N0, rfl⟩
theorem d4_19 : decode prog_51_method_7_code 19 = .ok (.aload_n 2, 1) := by decide +kernel
theorem d4_20 : decode prog_51_method_7_code 20 = .ok (.iload 4, 2) := by decide +kernel
theorem d4_22 : decode prog_51_method_7_code 22 = .ok (.daload, 1) := by decide +kernel
theorem d4_23 : decode prog_51_method_7_code 23 = .ok (.dstore 5, 2) := by decide +kernel
theorem d4_25 : decode prog_51_method_7_code 25 = .ok (.dload 5, 2) := by decide +kernel
theorem d4_27 : decode prog_51_method_7_code 27 = .ok (.dconst 0, 1) := by decide +kernel
theorem d4_28 : decode prog_51_method_7_code 28 = .ok (.dcmp .l, 1) := by decide +kernel
theorem d4_29 : decode prog_51_method_7_code 29 = .ok (.ifCond .eq 6, 3) := by decide +kernel
theorem d4_32 : decode prog_51_method_7_code 32 = .ok (.iinc 1 1, 3) := by decide +kernel
theorem d4_35 : decode prog_51_method_7_code 35 = .ok (.iinc 4 1, 3) := by decide +kernel
theorem d4_38 : decode prog_51_method_7_code 38 = .ok (.goto (-25), 3) := by decide +kernel
theorem pnz1 : plainName "com/example/winnowfold/winnowfold/math/DenseMatrix" = true := by first | (simp [plainName, overriddenIn]; done) | decide +kernel
theorem efz1 (m : MethodId) (a0 : Addr) : entryFrame m #[(.ref a0)] 7 = mkF m 0 #[.val (.ref a0), .unset, .unset, .unset, .unset, .unset, .unset] [] := by first | (simp [entryFrame, mkF, argsToLocals, Value.category]; done) | rfl
def Qz1 (Z : State) (a0 : Addr) (w_values_a0 : Addr) (kk_w_values_a0 : ClassId) (el0 : UInt64) (h0 : Heap) (n0 : Nat) (v : Option Value) (h : Heap) (L : List Loc) : Prop := v = some (.int (own_z (0 : Int32) el0)) ∧ Fr n0 L ∧ h = h0
set_option maxRecDepth 65536 in
set_option maxHeartbeats 40000000 in
theorem rmz1 (l : Launch) (Z : State) (ar : Array Value) (hw : ∀ d ∈ tables_1, d.before ar Z = true) (ws : List Jvm.Cond) (a0 : Addr) (w_values_a0 : Addr) (kk_w_values_a0 : ClassId) (el0 : UInt64) (h0 : Heap) (n0 : Nat) (Z0 : n0 ≤ h0.size) (E_a0 : Exa Z h0 a0 "com/example/winnowfold/winnowfold/math/DenseMatrix") (F_values_a0 : Fld Z h0 a0 "com/example/winnowfold/winnowfold/math/DenseMatrix" "values" "[D" (.ref w_values_a0)) (V_w_values_a0 : Arv Z h0 w_values_a0 kk_w_values_a0 .double (1 : Int32) [(.double el0)] (.double (0 : UInt64))) :
    MetFree l (⟨"com/example/winnowfold/winnowfold/math/DenseMatrix", "nonZeroCount", "()I"⟩ : MethodName) (head1 (Jvm.Cond.code (⟨"com/example/winnowfold/winnowfold/math/DenseMatrix", "nonZeroCount", "()I"⟩ : MethodName) prog_51_method_7_code 7 (some .int) :: ws) ({ frames := 0, cells := 0, slots := 0, locals := 0 } : Room)) (fun a U => a = #[(.ref a0)] ∧ Z.Warmed39 U.vm ∧ U.heap = h0) (fun _ _ _ _ _ => True) (fun _ U o U' => ∃ v L, o = .returned v ∧ Qz1 Z a0 w_values_a0 kk_w_values_a0 el0 h0 n0 v U'.heap L ∧ FrameEnd U o U' L ({ frames := 0, cells := 0, slots := 0, locals := 0 } : Room).cells ({ frames := 0, cells := 0, slots := 0, locals := 0 } : Room).slots) := by
  refine MetFree.of_bodySF (plainFor_of_name pnz1) hisR ?_
  intro p e s m args below meth c s₁ Bd hml0 hP hK
  obtain ⟨rfl, hZ, hh⟩ := hP
  have hx := Bd.exec
  have hby := Bd.bytes
  have hlk := Bd.notSynchronized
  have hml : c.maxLocals = 7 := hml0
  have hown : s.vm.findClass "com/example/winnowfold/winnowfold/math/DenseMatrix" = some m.cls := findClass_of_methodNamed Bd.named
  have hnm := (name_of_methodNamed Bd.named Bd.method).1
  have X0 : Stand p l e ({ frames := 0, cells := 0, slots := 0, locals := 0 } : Room) s m #[(.ref a0)] below meth c s₁ [] 0 0 := Stand.of_body Bd
  have e0 : s₁.heap = h0 := by rw [← hh, Bd.state]; rfl
  have N0 := Fr.nil n0
  have K0 := Keep.refl h0 []
  refine own_enter (Q := Qz1 Z a0 w_values_a0 kk_w_values_a0 el0 h0 n0) (efz1 m a0) ?_
  refine own_st (T' := s₁) (g' := (mkF m 3 #[.val (.ref a0), .val (.int (0 : Int32)), .unset, .unset, .unset, .unset, .unset] [(.ref a0)])) (fun t k => ?_) ?_
  · show Steps p.tables e below (s₁.setTop (mkF m 0 #[.val (.ref a0), .unset, .unset, .unset, .unset, .unset, .unset] [])) t
    refine XS.iconst X0.here hx rfl (hb hby d4_0) ?_
    show Steps p.tables e below (s₁.setTop (mkF m 1 #[.val (.ref a0), .unset, .unset, .unset, .unset, .unset, .unset] [(.int (0 : Int32))])) t
    refine XS.istoreN X0.here hx rfl (hb hby d4_1) rfl (l' := #[.val (.ref a0), .val (.int (0 : Int32)), .unset, .unset, .unset, .unset, .unset]) rfl ?_
    show Steps p.tables e below (s₁.setTop (mkF m 2 #[.val (.ref a0), .val (.int (0 : Int32)), .unset, .unset, .unset, .unset, .unset] [])) t
    refine XS.aloadN X0.here hx rfl (hb hby d4_2) rfl rfl ?_
    exact k
  obtain ⟨T1, X1, e1, st1⟩ := getF X0 hx hZ hown (host := "") (Or.inl (hw _ (List.mem_of_getElem? (i := 20) rfl))) Via.refl e0 F_values_a0 (g := (mkF m 3 #[.val (.ref a0), .val (.int (0 : Int32)), .unset, .unset, .unset, .unset, .unset] [(.ref a0)])) rfl rfl (hb hby d4_3)
  refine own_st (T' := T1) (g' := (mkF m 6 #[.val (.ref a0), .val (.int (0 : Int32)), .unset, .unset, .unset, .unset, .unset] [(.ref w_values_a0)])) st1 ?_
  refine own_st (T' := T1) (g' := (mkF m 8 #[.val (.ref a0), .val (.int (0 : Int32)), .val (.ref w_values_a0), .unset, .unset, .unset, .unset] [(.ref w_values_a0)])) (fun t k => ?_) ?_
  · show Steps p.tables e below (T1.setTop (mkF m 6 #[.val (.ref a0), .val (.int (0 : Int32)), .unset, .unset, .unset, .unset, .unset] [(.ref w_values_a0)])) t
    refine XS.astoreN X1.here hx rfl (hb hby d4_6) rfl rfl (l' := #[.val (.ref a0), .val (.int (0 : Int32)), .val (.ref w_values_a0), .unset, .unset, .unset, .unset]) rfl ?_
    show Steps p.tables e below (T1.setTop (mkF m 7 #[.val (.ref a0), .val (.int (0 : Int32)), .val (.ref w_values_a0), .unset, .unset, .unset, .unset] [])) t
    refine XS.aloadN X1.here hx rfl (hb hby d4_7) rfl rfl ?_
    exact k
  obtain ⟨c2, r2a, -, r2c, r2d, -, -⟩ := id V_w_values_a0
  refine own_st (T' := T1) (g' := (mkF m 22 #[.val (.ref a0), .val (.int (0 : Int32)), .val (.ref w_values_a0), .val (.int (1 : Int32)), .val (.int (0 : Int32)), .unset, .unset] [(.int (0 : Int32)), (.ref w_values_a0)])) (fun t k => ?_) ?_
  · show Steps p.tables e below (T1.setTop (mkF m 8 #[.val (.ref a0), .val (.int (0 : Int32)), .val (.ref w_values_a0), .unset, .unset, .unset, .unset] [(.ref w_values_a0)])) t
    refine X1.arraylength hx (by rw [e1]; exact r2a.1) (State.isArrayOf_alike hZ.alike r2a.2.1) (g := (mkF m 8 #[.val (.ref a0), .val (.int (0 : Int32)), .val (.ref w_values_a0), .unset, .unset, .unset, .unset] [(.ref w_values_a0)])) rfl rfl (hb hby d4_8) _ ?_
    rw [len_of r2c r2d]
    show Steps p.tables e below (T1.setTop (mkF m 9 #[.val (.ref a0), .val (.int (0 : Int32)), .val (.ref w_values_a0), .unset, .unset, .unset, .unset] [(.int (1 : Int32))])) t
    refine XS.istoreN X1.here hx rfl (hb hby d4_9) rfl (l' := #[.val (.ref a0), .val (.int (0 : Int32)), .val (.ref w_values_a0), .val (.int (1 : Int32)), .unset, .unset, .unset]) rfl ?_
    show Steps p.tables e below (T1.setTop (mkF m 10 #[.val (.ref a0), .val (.int (0 : Int32)), .val (.ref w_values_a0), .val (.int (1 : Int32)), .unset, .unset, .unset] [])) t
    refine XS.iconst X1.here hx rfl (hb hby d4_10) ?_
    show Steps p.tables e below (T1.setTop (mkF m 11 #[.val (.ref a0), .val (.int (0 : Int32)), .val (.ref w_values_a0), .val (.int (1 : Int32)), .unset, .unset, .unset] [(.int (0 : Int32))])) t
    refine XS.istore X1.here hx rfl (hb hby d4_11) rfl (l' := #[.val (.ref a0), .val (.int (0 : Int32)), .val (.ref w_values_a0), .val (.int (1 : Int32)), .val (.int (0 : Int32)), .unset, .unset]) rfl ?_
    show Steps p.tables e below (T1.setTop (mkF m 13 #[.val (.ref a0), .val (.int (0 : Int32)), .val (.ref w_values_a0), .val (.int (1 : Int32)), .val (.int (0 : Int32)), .unset, .unset] [])) t
    refine XS.iload X1.here hx rfl (hb hby d4_13) rfl ?_
    show Steps p.tables e below (T1.setTop (mkF m 15 #[.val (.ref a0), .val (.int (0 : Int32)), .val (.ref w_values_a0), .val (.int (1 : Int32)), .val (.int (0 : Int32)), .unset, .unset] [(.int (0 : Int32))])) t
    refine XS.iloadN X1.here hx rfl (hb hby d4_15) rfl ?_
    show Steps p.tables e below (T1.setTop (mkF m 16 #[.val (.ref a0), .val (.int (0 : Int32)), .val (.ref w_values_a0), .val (.int (1 : Int32)), .val (.int (0 : Int32)), .unset, .unset] [(.int (1 : Int32)), (.int (0 : Int32))])) t
    refine XS.icmpNo X1.here hx rfl (hb hby d4_16) rfl (by decide) ?_
    show Steps p.tables e below (T1.setTop (mkF m 19 #[.val (.ref a0), .val (.int (0 : Int32)), .val (.ref w_values_a0), .val (.int (1 : Int32)), .val (.int (0 : Int32)), .unset, .unset] [])) t
    refine XS.aloadN X1.here hx rfl (hb hby d4_19) rfl rfl ?_
    show Steps p.tables e below (T1.setTop (mkF m 20 #[.val (.ref a0), .val (.int (0 : Int32)), .val (.ref w_values_a0), .val (.int (1 : Int32)), .val (.int (0 : Int32)), .unset, .unset] [(.ref w_values_a0)])) t
    refine XS.iload X1.here hx rfl (hb hby d4_20) rfl ?_
    exact k
  obtain ⟨c3, r3a, r3b, r3c, r3d, r3e, r3f⟩ := id V_w_values_a0
  have i3 : ¬ ((0 : Int32) < 0 ∨ c3.slots.size ≤ ((0 : Int32)).toNatClampNeg) := inb_of r3c ⟨by decide, by decide⟩
  have y3 : c3.slots[((0 : Int32)).toNatClampNeg]? = some (.double el0) := r3e.at i3 rfl
  refine own_st (T' := T1) (g' := (mkF m 25 #[.val (.ref a0), .val (.int (0 : Int32)), .val (.ref w_values_a0), .val (.int (1 : Int32)), .val (.int (0 : Int32)), .val (.double el0), .second] [])) (fun t k => ?_) ?_
  · show Steps p.tables e below (T1.setTop (mkF m 22 #[.val (.ref a0), .val (.int (0 : Int32)), .val (.ref w_values_a0), .val (.int (1 : Int32)), .val (.int (0 : Int32)), .unset, .unset] [(.int (0 : Int32)), (.ref w_values_a0)])) t
    refine X1.daload hx (j := (0 : Int32)) (v := (.double el0)) (by rw [e1]; exact r3a.1) (State.isArrayOf_alike hZ.alike r3a.2.1) r3a.2.2 i3 y3 (g := (mkF m 22 #[.val (.ref a0), .val (.int (0 : Int32)), .val (.ref w_values_a0), .val (.int (1 : Int32)), .val (.int (0 : Int32)), .unset, .unset] [(.int (0 : Int32)), (.ref w_values_a0)])) rfl rfl (hb hby d4_22) _ ?_
    show Steps p.tables e below (T1.setTop (mkF m 23 #[.val (.ref a0), .val (.int (0 : Int32)), .val (.ref w_values_a0), .val (.int (1 : Int32)), .val (.int (0 : Int32)), .unset, .unset] [(.double el0)])) t
    refine XS.dstore X1.here hx rfl (hb hby d4_23) rfl (l' := #[.val (.ref a0), .val (.int (0 : Int32)), .val (.ref w_values_a0), .val (.int (1 : Int32)), .val (.int (0 : Int32)), .val (.double el0), .second]) rfl ?_
    exact k
  have hJ35_0 : ∀ (c0 : Int32) (hc0 : c0 = own_z (0 : Int32) el0), own_G p e below s (Qz1 Z a0 w_values_a0 kk_w_values_a0 el0 h0 n0) (({ frames := 0, cells := 0, slots := 0, locals := 0 } : Room)).cells (({ frames := 0, cells := 0, slots := 0, locals := 0 } : Room)).slots T1 (mkF m 35 #[.val (.ref a0), .val (.int c0), .val (.ref w_values_a0), .val (.int (1 : Int32)), .val (.int (0 : Int32)), .val (.double el0), .second] []) := by
    intro c0 hc0
    refine own_st (T' := T1) (g' := (mkF m 42 #[.val (.ref a0), .val (.int c0), .val (.ref w_values_a0), .val (.int (1 : Int32)), .val (.int (1 : Int32)), .val (.double el0), .second] [(.int c0)])) (fun t k => ?_) ?_
    · show Steps p.tables e below (T1.setTop (mkF m 35 #[.val (.ref a0), .val (.int c0), .val (.ref w_values_a0), .val (.int (1 : Int32)), .val (.int (0 : Int32)), .val (.double el0), .second] [])) t
      refine XS.iinc X1.here hx rfl (hb hby d4_35) rfl (l' := #[.val (.ref a0), .val (.int c0), .val (.ref w_values_a0), .val (.int (1 : Int32)), .val (.int (1 : Int32)), .val (.double el0), .second]) rfl ?_
      show Steps p.tables e below (T1.setTop (mkF m 38 #[.val (.ref a0), .val (.int c0), .val (.ref w_values_a0), .val (.int (1 : Int32)), .val (.int (1 : Int32)), .val (.double el0), .second] [])) t
      refine XS.goto X1.here hx rfl (pc0 := 38) (pc' := 13) rfl (hb hby d4_38) (by decide) (by decide) ?_
      show Steps p.tables e below (T1.setTop (mkF m 13 #[.val (.ref a0), .val (.int c0), .val (.ref w_values_a0), .val (.int (1 : Int32)), .val (.int (1 : Int32)), .val (.double el0), .second] [])) t
      refine XS.iload X1.here hx rfl (hb hby d4_13) rfl ?_
      show Steps p.tables e below (T1.setTop (mkF m 15 #[.val (.ref a0), .val (.int c0), .val (.ref w_values_a0), .val (.int (1 : Int32)), .val (.int (1 : Int32)), .val (.double el0), .second] [(.int (1 : Int32))])) t
      refine XS.iloadN X1.here hx rfl (hb hby d4_15) rfl ?_
      show Steps p.tables e below (T1.setTop (mkF m 16 #[.val (.ref a0), .val (.int c0), .val (.ref w_values_a0), .val (.int (1 : Int32)), .val (.int (1 : Int32)), .val (.double el0), .second] [(.int (1 : Int32)), (.int (1 : Int32))])) t
      refine XS.icmpYes X1.here hx rfl (pc0 := 16) (pc' := 41) rfl (hb hby d4_16) rfl (by decide) (by decide) (by decide) ?_
      show Steps p.tables e below (T1.setTop (mkF m 41 #[.val (.ref a0), .val (.int c0), .val (.ref w_values_a0), .val (.int (1 : Int32)), .val (.int (1 : Int32)), .val (.double el0), .second] [])) t
      refine XS.iloadN X1.here hx rfl (hb hby d4_41) rfl ?_
      exact k
    refine own_retI X1 hx hlk Bd.returns (hb hby d4_42) (by decide) (by decide) ?_
    show Qz1 Z a0 w_values_a0 kk_w_values_a0 el0 h0 n0 (some (.int c0)) T1.heap _
    rw [(e1 : T1.heap = h0)]
    exact ⟨congrArg (fun z => some (Value.int z)) (by rw [hc0]), N0, rfl⟩
  refine own_st (T' := T1) (g' := (mkF m 29 #[.val (.ref a0), .val (.int (0 : Int32)), .val (.ref w_values_a0), .val (.int (1 : Int32)), .val (.int (0 : Int32)), .val (.double el0), .second] [(.int (cmpValue (FP.dcmp el0 (0 : UInt64)) .l))])) (fun t k => ?_) ?_
  · show Steps p.tables e below (T1.setTop (mkF m 25 #[.val (.ref a0), .val (.int (0 : Int32)), .val (.ref w_values_a0), .val (.int (1 : Int32)), .val (.int (0 : Int32)), .val (.double el0), .second] [])) t
    refine XS.dload X1.here hx rfl (hb hby d4_25) rfl ?_
    show Steps p.tables e below (T1.setTop (mkF m 27 #[.val (.ref a0), .val (.int (0 : Int32)), .val (.ref w_values_a0), .val (.int (1 : Int32)), .val (.int (0 : Int32)), .val (.double el0), .second] [(.double el0)])) t
    refine XS.dconst0 X1.here hx rfl (hb hby d4_27) rfl ?_
    show Steps p.tables e below (T1.setTop (mkF m 28 #[.val (.ref a0), .val (.int (0 : Int32)), .val (.ref w_values_a0), .val (.int (1 : Int32)), .val (.int (0 : Int32)), .val (.double el0), .second] [(.double (0 : UInt64)), (.double el0)])) t
    refine XS.dcmpS X1.here hx rfl (hb hby d4_28) rfl rfl ?_
    exact k
  by_cases hc29_4 : ifCond.holds .eq (cmpValue (FP.dcmp el0 (0 : UInt64)) .l) = true
  · refine own_st (T' := T1) (g' := (mkF m 35 #[.val (.ref a0), .val (.int (0 : Int32)), .val (.ref w_values_a0), .val (.int (1 : Int32)), .val (.int (0 : Int32)), .val (.double el0), .second] [])) (fun t k => ?_) ?_
    · show Steps p.tables e below (T1.setTop (mkF m 29 #[.val (.ref a0), .val (.int (0 : Int32)), .val (.ref w_values_a0), .val (.int (1 : Int32)), .val (.int (0 : Int32)), .val (.double el0), .second] [(.int (cmpValue (FP.dcmp el0 (0 : UInt64)) .l))])) t
      refine XS.ifYes X1.here hx rfl (pc0 := 29) (pc' := 35) rfl (hb hby d4_29) rfl hc29_4 (by decide) (by decide) ?_
      exact k
    exact hJ35_0 _ (own_zy _ hc29_4)
  · refine own_st (T' := T1) (g' := (mkF m 35 #[.val (.ref a0), .val (.int (1 : Int32)), .val (.ref w_values_a0), .val (.int (1 : Int32)), .val (.int (0 : Int32)), .val (.double el0), .second] [])) (fun t k => ?_) ?_
    · show Steps p.tables e below (T1.setTop (mkF m 29 #[.val (.ref a0), .val (.int (0 : Int32)), .val (.ref w_values_a0), .val (.int (1 : Int32)), .val (.int (0 : Int32)), .val (.double el0), .second] [(.int (cmpValue (FP.dcmp el0 (0 : UInt64)) .l))])) t
      refine XS.ifNo X1.here hx rfl (hb hby d4_29) rfl (Bool.eq_false_iff.mpr hc29_4) ?_
      show Steps p.tables e below (T1.setTop (mkF m 32 #[.val (.ref a0), .val (.int (0 : Int32)), .val (.ref w_values_a0), .val (.int (1 : Int32)), .val (.int (0 : Int32)), .val (.double el0), .second] [])) t
      refine XS.iinc X1.here hx rfl (hb hby d4_32) rfl (l' := #[.val (.ref a0), .val (.int (1 : Int32)), .val (.ref w_values_a0), .val (.int (1 : Int32)), .val (.int (0 : Int32)), .val (.double el0), .second]) rfl ?_
      exact k
    exact hJ35_0 _ (own_zn0 hc29_4)
theorem pnz2 : plainName "com/example/winnowfold/winnowfold/math/DenseMatrix" = true := by first | (simp [plainName, overriddenIn]; done) | decide +kernel
theorem efz2 (m : MethodId) (a0 : Addr) : entryFrame m #[(.ref a0)] 7 = mkF m 0 #[.val (.ref a0), .unset, .unset, .unset, .unset, .unset, .unset] [] := by first | (simp [entryFrame, mkF, argsToLocals, Value.category]; done) | rfl
def Qz2 (Z : State) (a0 : Addr) (w_values_a0 : Addr) (kk_w_values_a0 : ClassId) (el0 : UInt64) (el1 : UInt64) (h0 : Heap) (n0 : Nat) (v : Option Value) (h : Heap) (L : List Loc) : Prop := v = some (.int (own_z (own_z (0 : Int32) el0) el1)) ∧ Fr n0 L ∧ h = h0
set_option maxRecDepth 65536 in
set_option maxHeartbeats 40000000 in
theorem rmz2 (l : Launch) (Z : State) (ar : Array Value) (hw : ∀ d ∈ tables_1, d.before ar Z = true) (ws : List Jvm.Cond) (a0 : Addr) (w_values_a0 : Addr) (kk_w_values_a0 : ClassId) (el0 : UInt64) (el1 : UInt64) (h0 : Heap) (n0 : Nat) (Z0 : n0 ≤ h0.size) (E_a0 : Exa Z h0 a0 "com/example/winnowfold/winnowfold/math/DenseMatrix") (F_values_a0 : Fld Z h0 a0 "com/example/winnowfold/winnowfold/math/DenseMatrix" "values" "[D" (.ref w_values_a0)) (V_w_values_a0 : Arv Z h0 w_values_a0 kk_w_values_a0 .double (2 : Int32) [(.double el0), (.double el1)] (.double (0 : UInt64))) :
    MetFree l (⟨"com/example/winnowfold/winnowfold/math/DenseMatrix", "nonZeroCount", "()I"⟩ : MethodName) (head1 (Jvm.Cond.code (⟨"com/example/winnowfold/winnowfold/math/DenseMatrix", "nonZeroCount", "()I"⟩ : MethodName) prog_51_method_7_code 7 (some .int) :: ws) ({ frames := 0, cells := 0, slots := 0, locals := 0 } : Room)) (fun a U => a = #[(.ref a0)] ∧ Z.Warmed39 U.vm ∧ U.heap = h0) (fun _ _ _ _ _ => True) (fun _ U o U' => ∃ v L, o = .returned v ∧ Qz2 Z a0 w_values_a0 kk_w_values_a0 el0 el1 h0 n0 v U'.heap L ∧ FrameEnd U o U' L ({ frames := 0, cells := 0, slots := 0, locals := 0 } : Room).cells ({ frames := 0, cells := 0, slots := 0, locals := 0 } : Room).slots) := by
  refine MetFree.of_bodySF (plainFor_of_name pnz2) hisR ?_
  intro p e s m args below meth c s₁ Bd hml0 hP hK
  obtain ⟨rfl, hZ, hh⟩ := hP
  have hx := Bd.exec
  have hby := Bd.bytes
  have hlk := Bd.notSynchronized
  have hml : c.maxLocals = 7 := hml0
  have hown : s.vm.findClass "com/example/winnowfold/winnowfold/math/DenseMatrix" = some m.cls := findClass_of_methodNamed Bd.named
  have hnm := (name_of_methodNamed Bd.named Bd.method).1
  have X0 : Stand p l e ({ frames := 0, cells := 0, slots := 0, locals := 0 } : Room) s m #[(.ref a0)] below meth c s₁ [] 0 0 := Stand.of_body Bd
  have e0 : s₁.heap = h0 := by rw [← hh, Bd.state]; rfl
  have N0 := Fr.nil n0
  have K0 := Keep.refl h0 []
  refine own_enter (Q := Qz2 Z a0 w_values_a0 kk_w_values_a0 el0 el1 h0 n0) (efz2 m a0) ?_
  refine own_st (T' := s₁) (g' := (mkF m 3 #[.val (.ref a0), .val (.int (0 : Int32)), .unset, .unset, .unset, .unset, .unset] [(.ref a0)])) (fun t k => ?_) ?_
  · show Steps p.tables e below (s₁.setTop (mkF m 0 #[.val (.ref a0), .unset, .unset, .unset, .unset, .unset, .unset] [])) t
    refine XS.iconst X0.here hx rfl (hb hby d4_0) ?_
    show Steps p.tables e below (s₁.setTop (mkF m 1 #[.val (.ref a0), .unset, .unset, .unset, .unset, .unset, .unset] [(.int (0 : Int32))])) t
    refine XS.istoreN X0.here hx rfl (hb hby d4_1) rfl (l' := #[.val (.ref a0), .val (.int (0 : Int32)), .unset, .unset, .unset, .unset, .unset]) rfl ?_
    show Steps p.tables e below (s₁.setTop (mkF m 2 #[.val (.ref a0), .val (.int (0 : Int32)), .unset, .unset, .unset, .unset, .unset] [])) t
    refine XS.aloadN X0.here hx rfl (hb hby d4_2) rfl rfl ?_
    exact k
  obtain ⟨T1, X1, e1, st1⟩ := getF X0 hx hZ hown (host := "") (Or.inl (hw _ (List.mem_of_getElem? (i := 20) rfl))) Via.refl e0 F_values_a0 (g := (mkF m 3 #[.val (.ref a0), .val (.int (0 : Int32)), .unset, .unset, .unset, .unset, .unset] [(.ref a0)])) rfl rfl (hb hby d4_3)
  refine own_st (T' := T1) (g' := (mkF m 6 #[.val (.ref a0), .val (.int (0 : Int32)), .unset, .unset, .unset, .unset, .unset] [(.ref w_values_a0)])) st1 ?_
  refine own_st (T' := T1) (g' := (mkF m 8 #[.val (.ref a0), .val (.int (0 : Int32)), .val (.ref w_values_a0), .unset, .unset, .unset, .unset] [(.ref w_values_a0)])) (fun t k => ?_) ?_
  · show Steps p.tables e below (T1.setTop (mkF m 6 #[.val (.ref a0), .val (.int (0 : Int32)), .unset, .unset, .unset, .unset, .unset] [(.ref w_values_a0)])) t
    refine XS.astoreN X1.here hx rfl (hb hby d4_6) rfl rfl (l' := #[.val (.ref a0), .val (.int (0 : Int32)), .val (.ref w_values_a0), .unset, .unset, .unset, .unset]) rfl ?_
    show Steps p.tables e below (T1.setTop (mkF m 7 #[.val (.ref a0), .val (.int (0 : Int32)), .val (.ref w_values_a0), .unset, .unset, .unset, .unset] [])) t
    refine XS.aloadN X1.here hx rfl (hb hby d4_7) rfl rfl ?_
    exact k
  obtain ⟨c2, r2a, -, r2c, r2d, -, -⟩ := id V_w_values_a0
  refine own_st (T' := T1) (g' := (mkF m 22 #[.val (.ref a0), .val (.int (0 : Int32)), .val (.ref w_values_a0), .val (.int (2 : Int32)), .val (.int (0 : Int32)), .unset, .unset] [(.int (0 : Int32)), (.ref w_values_a0)])) (fun t k => ?_) ?_
  · show Steps p.tables e below (T1.setTop (mkF m 8 #[.val (.ref a0), .val (.int (0 : Int32)), .val (.ref w_values_a0), .unset, .unset, .unset, .unset] [(.ref w_values_a0)])) t
    refine X1.arraylength hx (by rw [e1]; exact r2a.1) (State.isArrayOf_alike hZ.alike r2a.2.1) (g := (mkF m 8 #[.val (.ref a0), .val (.int (0 : Int32)), .val (.ref w_values_a0), .unset, .unset, .unset, .unset] [(.ref w_values_a0)])) rfl rfl (hb hby d4_8) _ ?_
    rw [len_of r2c r2d]
    show Steps p.tables e below (T1.setTop (mkF m 9 #[.val (.ref a0), .val (.int (0 : Int32)), .val (.ref w_values_a0), .unset, .unset, .unset, .unset] [(.int (2 : Int32))])) t
    refine XS.istoreN X1.here hx rfl (hb hby d4_9) rfl (l' := #[.val (.ref a0), .val (.int (0 : Int32)), .val (.ref w_values_a0), .val (.int (2 : Int32)), .unset, .unset, .unset]) rfl ?_
    show Steps p.tables e below (T1.setTop (mkF m 10 #[.val (.ref a0), .val (.int (0 : Int32)), .val (.ref w_values_a0), .val (.int (2 : Int32)), .unset, .unset, .unset] [])) t
    refine XS.iconst X1.here hx rfl (hb hby d4_10) ?_
    show Steps p.tables e below (T1.setTop (mkF m 11 #[.val (.ref a0), .val (.int (0 : Int32)), .val (.ref w_values_a0), .val (.int (2 : Int32)), .unset, .unset, .unset] [(.int (0 : Int32))])) t
    refine XS.istore X1.here hx rfl (hb hby d4_11) rfl (l' := #[.val (.ref a0), .val (.int (0 : Int32)), .val (.ref w_values_a0), .val (.int (2 : Int32)), .val (.int (0 : Int32)), .unset, .unset]) rfl ?_
    show Steps p.tables e below (T1.setTop (mkF m 13 #[.val (.ref a0), .val (.int (0 : Int32)), .val (.ref w_values_a0), .val (.int (2 : Int32)), .val (.int (0 : Int32)), .unset, .unset] [])) t
    refine XS.iload X1.here hx rfl (hb hby d4_13) rfl ?_
    show Steps p.tables e below (T1.setTop (mkF m 15 #[.val (.ref a0), .val (.int (0 : Int32)), .val (.ref w_values_a0), .val (.int (2 : Int32)), .val (.int (0 : Int32)), .unset, .unset] [(.int (0 : Int32))])) t
    refine XS.iloadN X1.here hx rfl (hb hby d4_15) rfl ?_
    show Steps p.tables e below (T1.setTop (mkF m 16 #[.val (.ref a0), .val (.int (0 : Int32)), .val (.ref w_values_a0), .val (.int (2 : Int32)), .val (.int (0 : Int32)), .unset, .unset] [(.int (2 : Int32)), (.int (0 : Int32))])) t
    refine XS.icmpNo X1.here hx rfl (hb hby d4_16) rfl (by decide) ?_
    show Steps p.tables e below (T1.setTop (mkF m 19 #[.val (.ref a0), .val (.int (0 : Int32)), .val (.ref w_values_a0), .val (.int (2 : Int32)), .val (.int (0 : Int32)), .unset, .unset] [])) t
    refine XS.aloadN X1.here hx rfl (hb hby d4_19) rfl rfl ?_
    show Steps p.tables e below (T1.setTop (mkF m 20 #[.val (.ref a0), .val (.int (0 : Int32)), .val (.ref w_values_a0), .val (.int (2 : Int32)), .val (.int (0 : Int32)), .unset, .unset] [(.ref w_values_a0)])) t
    refine XS.iload X1.here hx rfl (hb hby d4_20) rfl ?_
    exact k
  obtain ⟨c3, r3a, r3b, r3c, r3d, r3e, r3f⟩ := id V_w_values_a0
  have i3 : ¬ ((0 : Int32) < 0 ∨ c3.slots.size ≤ ((0 : Int32)).toNatClampNeg) := inb_of r3c ⟨by decide, by decide⟩
  have y3 : c3.slots[((0 : Int32)).toNatClampNeg]? = some (.double el0) := r3e.at i3 rfl
  refine own_st (T' := T1) (g' := (mkF m 25 #[.val (.ref a0), .val (.int (0 : Int32)), .val (.ref w_values_a0), .val (.int (2 : Int32)), .val (.int (0 : Int32)), .val (.double el0), .second] [])) (fun t k => ?_) ?_
  · show Steps p.tables e below (T1.setTop (mkF m 22 #[.val (.ref a0), .val (.int (0 : Int32)), .val (.ref w_values_a0), .val (.int (2 : Int32)), .val (.int (0 : Int32)), .unset, .unset] [(.int (0 : Int32)), (.ref w_values_a0)])) t
    refine X1.daload hx (j := (0 : Int32)) (v := (.double el0)) (by rw [e1]; exact r3a.1) (State.isArrayOf_alike hZ.alike r3a.2.1) r3a.2.2 i3 y3 (g := (mkF m 22 #[.val (.ref a0), .val (.int (0 : Int32)), .val (.ref w_values_a0), .val (.int (2 : Int32)), .val (.int (0 : Int32)), .unset, .unset] [(.int (0 : Int32)), (.ref w_values_a0)])) rfl rfl (hb hby d4_22) _ ?_
    show Steps p.tables e below (T1.setTop (mkF m 23 #[.val (.ref a0), .val (.int (0 : Int32)), .val (.ref w_values_a0), .val (.int (2 : Int32)), .val (.int (0 : Int32)), .unset, .unset] [(.double el0)])) t
    refine XS.dstore X1.here hx rfl (hb hby d4_23) rfl (l' := #[.val (.ref a0), .val (.int (0 : Int32)), .val (.ref w_values_a0), .val (.int (2 : Int32)), .val (.int (0 : Int32)), .val (.double el0), .second]) rfl ?_
    exact k
  have hJ35_0 : ∀ (c0 : Int32) (hc0 : c0 = own_z (0 : Int32) el0), own_G p e below s (Qz2 Z a0 w_values_a0 kk_w_values_a0 el0 el1 h0 n0) (({ frames := 0, cells := 0, slots := 0, locals := 0 } : Room)).cells (({ frames := 0, cells := 0, slots := 0, locals := 0 } : Room)).slots T1 (mkF m 35 #[.val (.ref a0), .val (.int c0), .val (.ref w_values_a0), .val (.int (2 : Int32)), .val (.int (0 : Int32)), .val (.double el0), .second] []) := by
    intro c0 hc0
    refine own_st (T' := T1) (g' := (mkF m 22 #[.val (.ref a0), .val (.int c0), .val (.ref w_values_a0), .val (.int (2 : Int32)), .val (.int (1 : Int32)), .val (.double el0), .second] [(.int (1 : Int32)), (.ref w_values_a0)])) (fun t k => ?_) ?_
    · show Steps p.tables e below (T1.setTop (mkF m 35 #[.val (.ref a0), .val (.int c0), .val (.ref w_values_a0), .val (.int (2 : Int32)), .val (.int (0 : Int32)), .val (.double el0), .second] [])) t
      refine XS.iinc X1.here hx rfl (hb hby d4_35) rfl (l' := #[.val (.ref a0), .val (.int c0), .val (.ref w_values_a0), .val (.int (2 : Int32)), .val (.int (1 : Int32)), .val (.double el0), .second]) rfl ?_
      show Steps p.tables e below (T1.setTop (mkF m 38 #[.val (.ref a0), .val (.int c0), .val (.ref w_values_a0), .val (.int (2 : Int32)), .val (.int (1 : Int32)), .val (.double el0), .second] [])) t
      refine XS.goto X1.here hx rfl (pc0 := 38) (pc' := 13) rfl (hb hby d4_38) (by decide) (by decide) ?_
      show Steps p.tables e below (T1.setTop (mkF m 13 #[.val (.ref a0), .val (.int c0), .val (.ref w_values_a0), .val (.int (2 : Int32)), .val (.int (1 : Int32)), .val (.double el0), .second] [])) t
      refine XS.iload X1.here hx rfl (hb hby d4_13) rfl ?_
      show Steps p.tables e below (T1.setTop (mkF m 15 #[.val (.ref a0), .val (.int c0), .val (.ref w_values_a0), .val (.int (2 : Int32)), .val (.int (1 : Int32)), .val (.double el0), .second] [(.int (1 : Int32))])) t
      refine XS.iloadN X1.here hx rfl (hb hby d4_15) rfl ?_
      show Steps p.tables e below (T1.setTop (mkF m 16 #[.val (.ref a0), .val (.int c0), .val (.ref w_values_a0), .val (.int (2 : Int32)), .val (.int (1 : Int32)), .val (.double el0), .second] [(.int (2 : Int32)), (.int (1 : Int32))])) t
      refine XS.icmpNo X1.here hx rfl (hb hby d4_16) rfl (by decide) ?_
      show Steps p.tables e below (T1.setTop (mkF m 19 #[.val (.ref a0), .val (.int c0), .val (.ref w_values_a0), .val (.int (2 : Int32)), .val (.int (1 : Int32)), .val (.double el0), .second] [])) t
      refine XS.aloadN X1.here hx rfl (hb hby d4_19) rfl rfl ?_
      show Steps p.tables e below (T1.setTop (mkF m 20 #[.val (.ref a0), .val (.int c0), .val (.ref w_values_a0), .val (.int (2 : Int32)), .val (.int (1 : Int32)), .val (.double el0), .second] [(.ref w_values_a0)])) t
      refine XS.iload X1.here hx rfl (hb hby d4_20) rfl ?_
      exact k
    obtain ⟨c4, r4a, r4b, r4c, r4d, r4e, r4f⟩ := id V_w_values_a0
    have i4 : ¬ ((1 : Int32) < 0 ∨ c4.slots.size ≤ ((1 : Int32)).toNatClampNeg) := inb_of r4c ⟨by decide, by decide⟩
    have y4 : c4.slots[((1 : Int32)).toNatClampNeg]? = some (.double el1) := r4e.at i4 rfl
    refine own_st (T' := T1) (g' := (mkF m 25 #[.val (.ref a0), .val (.int c0), .val (.ref w_values_a0), .val (.int (2 : Int32)), .val (.int (1 : Int32)), .val (.double el1), .second] [])) (fun t k => ?_) ?_
    · show Steps p.tables e below (T1.setTop (mkF m 22 #[.val (.ref a0), .val (.int c0), .val (.ref w_values_a0), .val (.int (2 : Int32)), .val (.int (1 : Int32)), .val (.double el0), .second] [(.int (1 : Int32)), (.ref w_values_a0)])) t
      refine X1.daload hx (j := (1 : Int32)) (v := (.double el1)) (by rw [e1]; exact r4a.1) (State.isArrayOf_alike hZ.alike r4a.2.1) r4a.2.2 i4 y4 (g := (mkF m 22 #[.val (.ref a0), .val (.int c0), .val (.ref w_values_a0), .val (.int (2 : Int32)), .val (.int (1 : Int32)), .val (.double el0), .second] [(.int (1 : Int32)), (.ref w_values_a0)])) rfl rfl (hb hby d4_22) _ ?_
      show Steps p.tables e below (T1.setTop (mkF m 23 #[.val (.ref a0), .val (.int c0), .val (.ref w_values_a0), .val (.int (2 : Int32)), .val (.int (1 : Int32)), .val (.double el0), .second] [(.double el1)])) t
      refine XS.dstore X1.here hx rfl (hb hby d4_23) rfl (l' := #[.val (.ref a0), .val (.int c0), .val (.ref w_values_a0), .val (.int (2 : Int32)), .val (.int (1 : Int32)), .val (.double el1), .second]) rfl ?_
      exact k
    have hJ35_1 : ∀ (c1 : Int32) (hc1 : c1 = own_z c0 el1), own_G p e below s (Qz2 Z a0 w_values_a0 kk_w_values_a0 el0 el1 h0 n0) (({ frames := 0, cells := 0, slots := 0, locals := 0 } : Room)).cells (({ frames := 0, cells := 0, slots := 0, locals := 0 } : Room)).slots T1 (mkF m 35 #[.val (.ref a0), .val (.int c1), .val (.ref w_values_a0), .val (.int (2 : Int32)), .val (.int (1 : Int32)), .val (.double el1), .second] []) := by
      intro c1 hc1
      refine own_st (T' := T1) (g' := (mkF m 42 #[.val (.ref a0), .val (.int c1), .val (.ref w_values_a0), .val (.int (2 : Int32)), .val (.int (2 : Int32)), .val (.double el1), .second] [(.int c1)])) (fun t k => ?_) ?_
      · show Steps p.tables e below (T1.setTop (mkF m 35 #[.val (.ref a0), .val (.int c1), .val (.ref w_values_a0), .val (.int (2 : Int32)), .val (.int (1 : Int32)), .val (.double el1), .second] [])) t
        refine XS.iinc X1.here hx rfl (hb hby d4_35) rfl (l' := #[.val (.ref a0), .val (.int c1), .val (.ref w_values_a0), .val (.int (2 : Int32)), .val (.int (2 : Int32)), .val (.double el1), .second]) rfl ?_
        show Steps p.tables e below (T1.setTop (mkF m 38 #[.val (.ref a0), .val (.int c1), .val (.ref w_values_a0), .val (.int (2 : Int32)), .val (.int (2 : Int32)), .val (.double el1), .second] [])) t
        refine XS.goto X1.here hx rfl (pc0 := 38) (pc' := 13) rfl (hb hby d4_38) (by decide) (by decide) ?_
        show Steps p.tables e below (T1.setTop (mkF m 13 #[.val (.ref a0), .val (.int c1), .val (.ref w_values_a0), .val (.int (2 : Int32)), .val (.int (2 : Int32)), .val (.double el1), .second] [])) t
        refine XS.iload X1.here hx rfl (hb hby d4_13) rfl ?_
        show Steps p.tables e below (T1.setTop (mkF m 15 #[.val (.ref a0), .val (.int c1), .val (.ref w_values_a0), .val (.int (2 : Int32)), .val (.int (2 : Int32)), .val (.double el1), .second] [(.int (2 : Int32))])) t
        refine XS.iloadN X1.here hx rfl (hb hby d4_15) rfl ?_
        show Steps p.tables e below (T1.setTop (mkF m 16 #[.val (.ref a0), .val (.int c1), .val (.ref w_values_a0), .val (.int (2 : Int32)), .val (.int (2 : Int32)), .val (.double el1), .second] [(.int (2 : Int32)), (.int (2 : Int32))])) t
        refine XS.icmpYes X1.here hx rfl (pc0 := 16) (pc' := 41) rfl (hb hby d4_16) rfl (by decide) (by decide) (by decide) ?_
        show Steps p.tables e below (T1.setTop (mkF m 41 #[.val (.ref a0), .val (.int c1), .val (.ref w_values_a0), .val (.int (2 : Int32)), .val (.int (2 : Int32)), .val (.double el1), .second] [])) t
        refine XS.iloadN X1.here hx rfl (hb hby d4_41) rfl ?_
        exact k
      refine own_retI X1 hx hlk Bd.returns (hb hby d4_42) (by decide) (by decide) ?_
      show Qz2 Z a0 w_values_a0 kk_w_values_a0 el0 el1 h0 n0 (some (.int c1)) T1.heap _
      rw [(e1 : T1.heap = h0)]
      exact ⟨congrArg (fun z => some (Value.int z)) (by rw [hc1, hc0]), N0, rfl⟩
    refine own_st (T' := T1) (g' := (mkF m 29 #[.val (.ref a0), .val (.int c0), .val (.ref w_values_a0), .val (.int (2 : Int32)), .val (.int (1 : Int32)), .val (.double el1), .second] [(.int (cmpValue (FP.dcmp el1 (0 : UInt64)) .l))])) (fun t k => ?_) ?_
    · show Steps p.tables e below (T1.setTop (mkF m 25 #[.val (.ref a0), .val (.int c0), .val (.ref w_values_a0), .val (.int (2 : Int32)), .val (.int (1 : Int32)), .val (.double el1), .second] [])) t
      refine XS.dload X1.here hx rfl (hb hby d4_25) rfl ?_
      show Steps p.tables e below (T1.setTop (mkF m 27 #[.val (.ref a0), .val (.int c0), .val (.ref w_values_a0), .val (.int (2 : Int32)), .val (.int (1 : Int32)), .val (.double el1), .second] [(.double el1)])) t
      refine XS.dconst0 X1.here hx rfl (hb hby d4_27) rfl ?_
      show Steps p.tables e below (T1.setTop (mkF m 28 #[.val (.ref a0), .val (.int c0), .val (.ref w_values_a0), .val (.int (2 : Int32)), .val (.int (1 : Int32)), .val (.double el1), .second] [(.double (0 : UInt64)), (.double el1)])) t
      refine XS.dcmpS X1.here hx rfl (hb hby d4_28) rfl rfl ?_
      exact k
    by_cases hc29_5 : ifCond.holds .eq (cmpValue (FP.dcmp el1 (0 : UInt64)) .l) = true
    · refine own_st (T' := T1) (g' := (mkF m 35 #[.val (.ref a0), .val (.int c0), .val (.ref w_values_a0), .val (.int (2 : Int32)), .val (.int (1 : Int32)), .val (.double el1), .second] [])) (fun t k => ?_) ?_
      · show Steps p.tables e below (T1.setTop (mkF m 29 #[.val (.ref a0), .val (.int c0), .val (.ref w_values_a0), .val (.int (2 : Int32)), .val (.int (1 : Int32)), .val (.double el1), .second] [(.int (cmpValue (FP.dcmp el1 (0 : UInt64)) .l))])) t
        refine XS.ifYes X1.here hx rfl (pc0 := 29) (pc' := 35) rfl (hb hby d4_29) rfl hc29_5 (by decide) (by decide) ?_
        exact k
      exact hJ35_1 _ (own_zy _ hc29_5)
    · refine own_st (T' := T1) (g' := (mkF m 35 #[.val (.ref a0), .val (.int (c0 + (1 : Int32))), .val (.ref w_values_a0), .val (.int (2 : Int32)), .val (.int (1 : Int32)), .val (.double el1), .second] [])) (fun t k => ?_) ?_
      · show Steps p.tables e below (T1.setTop (mkF m 29 #[.val (.ref a0), .val (.int c0), .val (.ref w_values_a0), .val (.int (2 : Int32)), .val (.int (1 : Int32)), .val (.double el1), .second] [(.int (cmpValue (FP.dcmp el1 (0 : UInt64)) .l))])) t
        refine XS.ifNo X1.here hx rfl (hb hby d4_29) rfl (Bool.eq_false_iff.mpr hc29_5) ?_
        show Steps p.tables e below (T1.setTop (mkF m 32 #[.val (.ref a0), .val (.int c0), .val (.ref w_values_a0), .val (.int (2 : Int32)), .val (.int (1 : Int32)), .val (.double el1), .second] [])) t
        refine XS.iinc X1.here hx rfl (hb hby d4_32) rfl (l' := #[.val (.ref a0), .val (.int (c0 + (1 : Int32))), .val (.ref w_values_a0), .val (.int (2 : Int32)), .val (.int (1 : Int32)), .val (.double el1), .second]) rfl ?_
        exact k
      exact hJ35_1 _ (own_zn _ hc29_5)
  refine own_st (T' := T1) (g' := (mkF m 29 #[.val (.ref a0), .val (.int (0 : Int32)), .val (.ref w_values_a0), .val (.int (2 : Int32)), .val (.int (0 : Int32)), .val (.double el0), .second] [(.int (cmpValue (FP.dcmp el0 (0 : UInt64)) .l))])) (fun t k => ?_) ?_
  · show Steps p.tables e below (T1.setTop (mkF m 25 #[.val (.ref a0), .val (.int (0 : Int32)), .val (.ref w_values_a0), .val (.int (2 : Int32)), .val (.int (0 : Int32)), .val (.double el0), .second] [])) t
    refine XS.dload X1.here hx rfl (hb hby d4_25) rfl ?_
    show Steps p.tables e below (T1.setTop (mkF m 27 #[.val (.ref a0), .val (.int (0 : Int32)), .val (.ref w_values_a0), .val (.int (2 : Int32)), .val (.int (0 : Int32)), .val (.double el0), .second] [(.double el0)])) t
    refine XS.dconst0 X1.here hx rfl (hb hby d4_27) rfl ?_
    show Steps p.tables e below (T1.setTop (mkF m 28 #[.val (.ref a0), .val (.int (0 : Int32)), .val (.ref w_values_a0), .val (.int (2 : Int32)), .val (.int (0 : Int32)), .val (.double el0), .second] [(.double (0 : UInt64)), (.double el0)])) t
    refine XS.dcmpS X1.here hx rfl (hb hby d4_28) rfl rfl ?_
    exact k
  by_cases hc29_6 : ifCond.holds .eq (cmpValue (FP.dcmp el0 (0 : UInt64)) .l) = true
  · refine own_st (T' := T1) (g' := (mkF m 35 #[.val (.ref a0), .val (.int (0 : Int32)), .val (.ref w_values_a0), .val (.int (2 : Int32)), .val (.int (0 : Int32)), .val (.double el0), .second] [])) (fun t k => ?_) ?_
    · show Steps p.tables e below (T1.setTop (mkF m 29 #[.val (.ref a0), .val (.int (0 : Int32)), .val (.ref w_values_a0), .val (.int (2 : Int32)), .val (.int (0 : Int32)), .val (.double el0), .second] [(.int (cmpValue (FP.dcmp el0 (0 : UInt64)) .l))])) t
      refine XS.ifYes X1.here hx rfl (pc0 := 29) (pc' := 35) rfl (hb hby d4_29) rfl hc29_6 (by decide) (by decide) ?_
      exact k
    exact hJ35_0 _ (own_zy _ hc29_6)
  · refine own_st (T' := T1) (g' := (mkF m 35 #[.val (.ref a0), .val (.int (1 : Int32)), .val (.ref w_values_a0), .val (.int (2 : Int32)), .val (.int (0 : Int32)), .val (.double el0), .second] [])) (fun t k => ?_) ?_
    · show Steps p.tables e below (T1.setTop (mkF m 29 #[.val (.ref a0), .val (.int (0 : Int32)), .val (.ref w_values_a0), .val (.int (2 : Int32)), .val (.int (0 : Int32)), .val (.double el0), .second] [(.int (cmpValue (FP.dcmp el0 (0 : UInt64)) .l))])) t
      refine XS.ifNo X1.here hx rfl (hb hby d4_29) rfl (Bool.eq_false_iff.mpr hc29_6) ?_
      show Steps p.tables e below (T1.setTop (mkF m 32 #[.val (.ref a0), .val (.int (0 : Int32)), .val (.ref w_values_a0), .val (.int (2 : Int32)), .val (.int (0 : Int32)), .val (.double el0), .second] [])) t
      refine XS.iinc X1.here hx rfl (hb hby d4_32) rfl (l' := #[.val (.ref a0), .val (.int (1 : Int32)), .val (.ref w_values_a0), .val (.int (2 : Int32)), .val (.int (0 : Int32)), .val (.double el0), .second]) rfl ?_
      exact k
    exact hJ35_0 _ (own_zn0 hc29_6)
theorem pnz4 : plainName "com/example/winnowfold/winnowfold/math/DenseMatrix" = true := by first | (simp [plainName, overriddenIn]; done) | decide +kernel
theorem efz4 (m : MethodId) (a0 : Addr) : entryFrame m #[(.ref a0)] 7 = mkF m 0 #[.val (.ref a0), .unset, .unset, .unset, .unset, .unset, .unset] [] := by first | (simp [entryFrame, mkF, argsToLocals, Value.category]; done) | rfl
def Qz4 (Z : State) (a0 : Addr) (w_values_a0 : Addr) (kk_w_values_a0 : ClassId) (el0 : UInt64) (el1 : UInt64) (el2 : UInt64) (el3 : UInt64) (h0 : Heap) (n0 : Nat) (v : Option Value) (h : Heap) (L : List Loc) : Prop := v = some (.int (own_z (own_z (own_z (own_z (0 : Int32) el0) el1) el2) el3)) ∧ Fr n0 L ∧ h = h0
set_option maxRecDepth 65536 in
set_option maxHeartbeats 40000000 in
theorem rmz4 (l : Launch) (Z : State) (ar : Array Value) (hw : ∀ d ∈ tables_1, d.before ar Z = true) (ws : List Jvm.Cond) (a0 : Addr) (w_values_a0 : Addr) (kk_w_values_a0 : ClassId) (el0 : UInt64) (el1 : UInt64) (el2 : UInt64) (el3 : UInt64) (h0 : Heap) (n0 : Nat) (Z0 : n0 ≤ h0.size) (E_a0 : Exa Z h0 a0 "com/example/winnowfold/winnowfold/math/DenseMatrix") (F_values_a0 : Fld Z h0 a0 "com/example/winnowfold/winnowfold/math/DenseMatrix" "values" "[D" (.ref w_values_a0)) (V_w_values_a0 : Arv Z h0 w_values_a0 kk_w_values_a0 .double (4 : Int32) [(.double el0), (.double el1), (.double el2), (.double el3)] (.double (0 : UInt64))) :
    MetFree l (⟨"com/example/winnowfold/winnowfold/math/DenseMatrix", "nonZeroCount", "()I"⟩ : MethodName) (head1 (Jvm.Cond.code (⟨"com/example/winnowfold/winnowfold/math/DenseMatrix", "nonZeroCount", "()I"⟩ : MethodName) prog_51_method_7_code 7 (some .int) :: ws) ({ frames := 0, cells := 0, slots := 0, locals := 0 } : Room)) (fun a U => a = #[(.ref a0)] ∧ Z.Warmed39 U.vm ∧ U.heap = h0) (fun _ _ _ _ _ => True) (fun _ U o U' => ∃ v L, o = .returned v ∧ Qz4 Z a0 w_values_a0 kk_w_values_a0 el0 el1 el2 el3 h0 n0 v U'.heap L ∧ FrameEnd U o U' L ({ frames := 0, cells := 0, slots := 0, locals := 0 } : Room).cells ({ frames := 0, cells := 0, slots := 0, locals := 0 } : Room).slots) := by
  refine MetFree.of_bodySF (plainFor_of_name pnz4) hisR ?_
  intro p e s m args below meth c s₁ Bd hml0 hP hK
  obtain ⟨rfl, hZ, hh⟩ := hP
  have hx := Bd.exec
  have hby := Bd.bytes
  have hlk := Bd.notSynchronized
  have hml : c.maxLocals = 7 := hml0
  have hown : s.vm.findClass "com/example/winnowfold/winnowfold/math/DenseMatrix" = some m.cls := findClass_of_methodNamed Bd.named
  have hnm := (name_of_methodNamed Bd.named Bd.method).1
  have X0 : Stand p l e ({ frames := 0, cells := 0, slots := 0, locals := 0 } : Room) s m #[(.ref a0)] below meth c s₁ [] 0 0 := Stand.of_body Bd
  have e0 : s₁.heap = h0 := by rw [← hh, Bd.state]; rfl
  have N0 := Fr.nil n0
  have K0 := Keep.refl h0 []
  refine own_enter (Q := Qz4 Z a0 w_values_a0 kk_w_values_a0 el0 el1 el2 el3 h0 n0) (efz4 m a0) ?_
  refine own_st (T' := s₁) (g' := (mkF m 3 #[.val (.ref a0), .val (.int (0 : Int32)), .unset, .unset, .unset, .unset, .unset] [(.ref a0)])) (fun t k => ?_) ?_
  · show Steps p.tables e below (s₁.setTop (mkF m 0 #[.val (.ref a0), .unset, .unset, .unset, .unset, .unset, .unset] [])) t
    refine XS.iconst X0.here hx rfl (hb hby d4_0) ?_
    show Steps p.tables e below (s₁.setTop (mkF m 1 #[.val (.ref a0), .unset, .unset, .unset, .unset, .unset, .unset] [(.int (0 : Int32))])) t
    refine XS.istoreN X0.here hx rfl (hb hby d4_1) rfl (l' := #[.val (.ref a0), .val (.int (0 : Int32)), .unset, .unset, .unset, .unset, .unset]) rfl ?_
    show Steps p.tables e below (s₁.setTop (mkF m 2 #[.val (.ref a0), .val (.int (0 : Int32)), .unset, .unset, .unset, .unset, .unset] [])) t
    refine XS.aloadN X0.here hx rfl (hb hby d4_2) rfl rfl ?_
    exact k
  obtain ⟨T1, X1, e1, st1⟩ := getF X0 hx hZ hown (host := "") (Or.inl (hw _ (List.mem_of_getElem? (i := 20) rfl))) Via.refl e0 F_values_a0 (g := (mkF m 3 #[.val (.ref a0), .val (.int (0 : Int32)), .unset, .unset, .unset, .unset, .unset] [(.ref a0)])) rfl rfl (hb hby d4_3)
  refine own_st (T' := T1) (g' := (mkF m 6 #[.val (.ref a0), .val (.int (0 : Int32)), .unset, .unset, .unset, .unset, .unset] [(.ref w_values_a0)])) st1 ?_
  refine own_st (T' := T1) (g' := (mkF m 8 #[.val (.ref a0), .val (.int (0 : Int32)), .val (.ref w_values_a0), .unset, .unset, .unset, .unset] [(.ref w_values_a0)])) (fun t k => ?_) ?_
  · show Steps p.tables e below (T1.setTop (mkF m 6 #[.val (.ref a0), .val (.int (0 : Int32)), .unset, .unset, .unset, .unset, .unset] [(.ref w_values_a0)])) t
    refine XS.astoreN X1.here hx rfl (hb hby d4_6) rfl rfl (l' := #[.val (.ref a0), .val (.int (0 : Int32)), .val (.ref w_values_a0), .unset, .unset, .unset, .unset]) rfl ?_
    show Steps p.tables e below (T1.setTop (mkF m 7 #[.val (.ref a0), .val (.int (0 : Int32)), .val (.ref w_values_a0), .unset, .unset, .unset, .unset] [])) t
    refine XS.aloadN X1.here hx rfl (hb hby d4_7) rfl rfl ?_
    exact k
  obtain ⟨c2, r2a, -, r2c, r2d, -, -⟩ := id V_w_values_a0
  refine own_st (T' := T1) (g' := (mkF m 22 #[.val (.ref a0), .val (.int (0 : Int32)), .val (.ref w_values_a0), .val (.int (4 : Int32)), .val (.int (0 : Int32)), .unset, .unset] [(.int (0 : Int32)), (.ref w_values_a0)])) (fun t k => ?_) ?_
  · show Steps p.tables e below (T1.setTop (mkF m 8 #[.val (.ref a0), .val (.int (0 : Int32)), .val (.ref w_values_a0), .unset, .unset, .unset, .unset] [(.ref w_values_a0)])) t
    refine X1.arraylength hx (by rw [e1]; exact r2a.1) (State.isArrayOf_alike hZ.alike r2a.2.1) (g := (mkF m 8 #[.val (.ref a0), .val (.int (0 : Int32)), .val (.ref w_values_a0), .unset, .unset, .unset, .unset] [(.ref w_values_a0)])) rfl rfl (hb hby d4_8) _ ?_
    rw [len_of r2c r2d]
    show Steps p.tables e below (T1.setTop (mkF m 9 #[.val (.ref a0), .val (.int (0 : Int32)), .val (.ref w_values_a0), .unset, .unset, .unset, .unset] [(.int (4 : Int32))])) t
    refine XS.istoreN X1.here hx rfl (hb hby d4_9) rfl (l' := #[.val (.ref a0), .val (.int (0 : Int32)), .val (.ref w_values_a0), .val (.int (4 : Int32)), .unset, .unset, .unset]) rfl ?_
    show Steps p.tables e below (T1.setTop (mkF m 10 #[.val (.ref a0), .val (.int (0 : Int32)), .val (.ref w_values_a0), .val (.int (4 : Int32)), .unset, .unset, .unset] [])) t
    refine XS.iconst X1.here hx rfl (hb hby d4_10) ?_
    show Steps p.tables e below (T1.setTop (mkF m 11 #[.val (.ref a0), .val (.int (0 : Int32)), .val (.ref w_values_a0), .val (.int (4 : Int32)), .unset, .unset, .unset] [(.int (0 : Int32))])) t
    refine XS.istore X1.here hx rfl (hb hby d4_11) rfl (l' := #[.val (.ref a0), .val (.int (0 : Int32)), .val (.ref w_values_a0), .val (.int (4 : Int32)), .val (.int (0 : Int32)), .unset, .unset]) rfl ?_
    show Steps p.tables e below (T1.setTop (mkF m 13 #[.val (.ref a0), .val (.int (0 : Int32)), .val (.ref w_values_a0), .val (.int (4 : Int32)), .val (.int (0 : Int32)), .unset, .unset] [])) t
    refine XS.iload X1.here hx rfl (hb hby d4_13) rfl ?_
    show Steps p.tables e below (T1.setTop (mkF m 15 #[.val (.ref a0), .val (.int (0 : Int32)), .val (.ref w_values_a0), .val (.int (4 : Int32)), .val (.int (0 : Int32)), .unset, .unset] [(.int (0 : Int32))])) t
    refine XS.iloadN X1.here hx rfl (hb hby d4_15) rfl ?_
    show Steps p.tables e below (T1.setTop (mkF m 16 #[.val (.ref a0), .val (.int (0 : Int32)), .val (.ref w_values_a0), .val (.int (4 : Int32)), .val (.int (0 : Int32)), .unset, .unset] [(.int (4 : Int32)), (.int (0 : Int32))])) t
    refine XS.icmpNo X1.here hx rfl (hb hby d4_16) rfl (by decide) ?_
    show Steps p.tables e below (T1.setTop (mkF m 19 #[.val (.ref a0), .val (.int (0 : Int32)), .val (.ref w_values_a0), .val (.int (4 : Int32)), .val (.int (0 : Int32)), .unset, .unset] [])) t
    refine XS.aloadN X1.here hx rfl (hb hby d4_19) rfl rfl ?_
    show Steps p.tables e below (T1.setTop (mkF m 20 #[.val (.ref a0), .val (.int (0 : Int32)), .val (.ref w_values_a0), .val (.int (4 : Int32)), .val (.int (0 : Int32)), .unset, .unset] [(.ref w_values_a0)])) t
    refine XS.iload X1.here hx rfl (hb hby d4_20) rfl ?_
    exact k
  obtain ⟨c3, r3a, r3b, r3c, r3d, r3e, r3f⟩ := id V_w_values_a0
  have i3 : ¬ ((0 : Int32) < 0 ∨ c3.slots.size ≤ ((0 : Int32)).toNatClampNeg) := inb_of r3c ⟨by decide, by decide⟩
  have y3 : c3.slots[((0 : Int32)).toNatClampNeg]? = some (.double el0) := r3e.at i3 rfl
  refine own_st (T' := T1) (g' := (mkF m 25 #[.val (.ref a0), .val (.int (0 : Int32)), .val (.ref w_values_a0), .val (.int (4 : Int32)), .val (.int (0 : Int32)), .val (.double el0), .second] [])) (fun t k => ?_) ?_
  · show Steps p.tables e below (T1.setTop (mkF m 22 #[.val (.ref a0), .val (.int (0 : Int32)), .val (.ref w_values_a0), .val (.int (4 : Int32)), .val (.int (0 : Int32)), .unset, .unset] [(.int (0 : Int32)), (.ref w_values_a0)])) t
    refine X1.daload hx (j := (0 : Int32)) (v := (.double el0)) (by rw [e1]; exact r3a.1) (State.isArrayOf_alike hZ.alike r3a.2.1) r3a.2.2 i3 y3 (g := (mkF m 22 #[.val (.ref a0), .val (.int (0 : Int32)), .val (.ref w_values_a0), .val (.int (4 : Int32)), .val (.int (0 : Int32)), .unset, .unset] [(.int (0 : Int32)), (.ref w_values_a0)])) rfl rfl (hb hby d4_22) _ ?_
    show Steps p.tables e below (T1.setTop (mkF m 23 #[.val (.ref a0), .val (.int (0 : Int32)), .val (.ref w_values_a0), .val (.int (4 : Int32)), .val (.int (0 : Int32)), .unset, .unset] [(.double el0)])) t
    refine XS.dstore X1.here hx rfl (hb hby d4_23) rfl (l' := #[.val (.ref a0), .val (.int (0 : Int32)), .val (.ref w_values_a0), .val (.int (4 : Int32)), .val (.int (0 : Int32)), .val (.double el0), .second]) rfl ?_
    exact k
  have hJ35_0 : ∀ (c0 : Int32) (hc0 : c0 = own_z (0 : Int32) el0), own_G p e below s (Qz4 Z a0 w_values_a0 kk_w_values_a0 el0 el1 el2 el3 h0 n0) (({ frames := 0, cells := 0, slots := 0, locals := 0 } : Room)).cells (({ frames := 0, cells := 0, slots := 0, locals := 0 } : Room)).slots T1 (mkF m 35 #[.val (.ref a0), .val (.int c0), .val (.ref w_values_a0), .val (.int (4 : Int32)), .val (.int (0 : Int32)), .val (.double el0), .second] []) := by
    intro c0 hc0
    refine own_st (T' := T1) (g' := (mkF m 22 #[.val (.ref a0), .val (.int c0), .val (.ref w_values_a0), .val (.int (4 : Int32)), .val (.int (1 : Int32)), .val (.double el0), .second] [(.int (1 : Int32)), (.ref w_values_a0)])) (fun t k => ?_) ?_
    · show Steps p.tables e below (T1.setTop (mkF m 35 #[.val (.ref a0), .val (.int c0), .val (.ref w_values_a0), .val (.int (4 : Int32)), .val (.int (0 : Int32)), .val (.double el0), .second] [])) t
      refine XS.iinc X1.here hx rfl (hb hby d4_35) rfl (l' := #[.val (.ref a0), .val (.int c0), .val (.ref w_values_a0), .val (.int (4 : Int32)), .val (.int (1 : Int32)), .val (.double el0), .second]) rfl ?_
      show Steps p.tables e below (T1.setTop (mkF m 38 #[.val (.ref a0), .val (.int c0), .val (.ref w_values_a0), .val (.int (4 : Int32)), .val (.int (1 : Int32)), .val (.double el0), .second] [])) t
      refine XS.goto X1.here hx rfl (pc0 := 38) (pc' := 13) rfl (hb hby d4_38) (by decide) (by decide) ?_
      show Steps p.tables e below (T1.setTop (mkF m 13 #[.val (.ref a0), .val (.int c0), .val (.ref w_values_a0), .val (.int (4 : Int32)), .val (.int (1 : Int32)), .val (.double el0), .second] [])) t
      refine XS.iload X1.here hx rfl (hb hby d4_13) rfl ?_
      show Steps p.tables e below (T1.setTop (mkF m 15 #[.val (.ref a0), .val (.int c0), .val (.ref w_values_a0), .val (.int (4 : Int32)), .val (.int (1 : Int32)), .val (.double el0), .second] [(.int (1 : Int32))])) t
      refine XS.iloadN X1.here hx rfl (hb hby d4_15) rfl ?_
      show Steps p.tables e below (T1.setTop (mkF m 16 #[.val (.ref a0), .val (.int c0), .val (.ref w_values_a0), .val (.int (4 : Int32)), .val (.int (1 : Int32)), .val (.double el0), .second] [(.int (4 : Int32)), (.int (1 : Int32))])) t
      refine XS.icmpNo X1.here hx rfl (hb hby d4_16) rfl (by decide) ?_
      show Steps p.tables e below (T1.setTop (mkF m 19 #[.val (.ref a0), .val (.int c0), .val (.ref w_values_a0), .val (.int (4 : Int32)), .val (.int (1 : Int32)), .val (.double el0), .second] [])) t
      refine XS.aloadN X1.here hx rfl (hb hby d4_19) rfl rfl ?_
      show Steps p.tables e below (T1.setTop (mkF m 20 #[.val (.ref a0), .val (.int c0), .val (.ref w_values_a0), .val (.int (4 : Int32)), .val (.int (1 : Int32)), .val (.double el0), .second] [(.ref w_values_a0)])) t
      refine XS.iload X1.here hx rfl (hb hby d4_20) rfl ?_
      exact k
    obtain ⟨c4, r4a, r4b, r4c, r4d, r4e, r4f⟩ := id V_w_values_a0
    have i4 : ¬ ((1 : Int32) < 0 ∨ c4.slots.size ≤ ((1 : Int32)).toNatClampNeg) := inb_of r4c ⟨by decide, by decide⟩
    have y4 : c4.slots[((1 : Int32)).toNatClampNeg]? = some (.double el1) := r4e.at i4 rfl
    refine own_st (T' := T1) (g' := (mkF m 25 #[.val (.ref a0), .val (.int c0), .val (.ref w_values_a0), .val (.int (4 : Int32)), .val (.int (1 : Int32)), .val (.double el1), .second] [])) (fun t k => ?_) ?_
    · show Steps p.tables e below (T1.setTop (mkF m 22 #[.val (.ref a0), .val (.int c0), .val (.ref w_values_a0), .val (.int (4 : Int32)), .val (.int (1 : Int32)), .val (.double el0), .second] [(.int (1 : Int32)), (.ref w_values_a0)])) t
      refine X1.daload hx (j := (1 : Int32)) (v := (.double el1)) (by rw [e1]; exact r4a.1) (State.isArrayOf_alike hZ.alike r4a.2.1) r4a.2.2 i4 y4 (g := (mkF m 22 #[.val (.ref a0), .val (.int c0), .val (.ref w_values_a0), .val (.int (4 : Int32)), .val (.int (1 : Int32)), .val (.double el0), .second] [(.int (1 : Int32)), (.ref w_values_a0)])) rfl rfl (hb hby d4_22) _ ?_
      show Steps p.tables e below (T1.setTop (mkF m 23 #[.val (.ref a0), .val (.int c0), .val (.ref w_values_a0), .val (.int (4 : Int32)), .val (.int (1 : Int32)), .val (.double el0), .second] [(.double el1)])) t
      refine XS.dstore X1.here hx rfl (hb hby d4_23) rfl (l' := #[.val (.ref a0), .val (.int c0), .val (.ref w_values_a0), .val (.int (4 : Int32)), .val (.int (1 : Int32)), .val (.double el1), .second]) rfl ?_
      exact k
    have hJ35_1 : ∀ (c1 : Int32) (hc1 : c1 = own_z c0 el1), own_G p e below s (Qz4 Z a0 w_values_a0 kk_w_values_a0 el0 el1 el2 el3 h0 n0) (({ frames := 0, cells := 0, slots := 0, locals := 0 } : Room)).cells (({ frames := 0, cells := 0, slots := 0, locals := 0 } : Room)).slots T1 (mkF m 35 #[.val (.ref a0), .val (.int c1), .val (.ref w_values_a0), .val (.int (4 : Int32)), .val (.int (1 : Int32)), .val (.double el1), .second] []) := by
      intro c1 hc1
      refine own_st (T' := T1) (g' := (mkF m 22 #[.val (.ref a0), .val (.int c1), .val (.ref w_values_a0), .val (.int (4 : Int32)), .val (.int (2 : Int32)), .val (.double el1), .second] [(.int (2 : Int32)), (.ref w_values_a0)])) (fun t k => ?_) ?_
      · show Steps p.tables e below (T1.setTop (mkF m 35 #[.val (.ref a0), .val (.int c1), .val (.ref w_values_a0), .val (.int (4 : Int32)), .val (.int (1 : Int32)), .val (.double el1), .second] [])) t
        refine XS.iinc X1.here hx rfl (hb hby d4_35) rfl (l' := #[.val (.ref a0), .val (.int c1), .val (.ref w_values_a0), .val (.int (4 : Int32)), .val (.int (2 : Int32)), .val (.double el1), .second]) rfl ?_
        show Steps p.tables e below (T1.setTop (mkF m 38 #[.val (.ref a0), .val (.int c1), .val (.ref w_values_a0), .val (.int (4 : Int32)), .val (.int (2 : Int32)), .val (.double el1), .second] [])) t
        refine XS.goto X1.here hx rfl (pc0 := 38) (pc' := 13) rfl (hb hby d4_38) (by decide) (by decide) ?_
        show Steps p.tables e below (T1.setTop (mkF m 13 #[.val (.ref a0), .val (.int c1), .val (.ref w_values_a0), .val (.int (4 : Int32)), .val (.int (2 : Int32)), .val (.double el1), .second] [])) t
        refine XS.iload X1.here hx rfl (hb hby d4_13) rfl ?_
        show Steps p.tables e below (T1.setTop (mkF m 15 #[.val (.ref a0), .val (.int c1), .val (.ref w_values_a0), .val (.int (4 : Int32)), .val (.int (2 : Int32)), .val (.double el1), .second] [(.int (2 : Int32))])) t
        refine XS.iloadN X1.here hx rfl (hb hby d4_15) rfl ?_
        show Steps p.tables e below (T1.setTop (mkF m 16 #[.val (.ref a0), .val (.int c1), .val (.ref w_values_a0), .val (.int (4 : Int32)), .val (.int (2 : Int32)), .val (.double el1), .second] [(.int (4 : Int32)), (.int (2 : Int32))])) t
        refine XS.icmpNo X1.here hx rfl (hb hby d4_16) rfl (by decide) ?_
        show Steps p.tables e below (T1.setTop (mkF m 19 #[.val (.ref a0), .val (.int c1), .val (.ref w_values_a0), .val (.int (4 : Int32)), .val (.int (2 : Int32)), .val (.double el1), .second] [])) t
        refine XS.aloadN X1.here hx rfl (hb hby d4_19) rfl rfl ?_
        show Steps p.tables e below (T1.setTop (mkF m 20 #[.val (.ref a0), .val (.int c1), .val (.ref w_values_a0), .val (.int (4 : Int32)), .val (.int (2 : Int32)), .val (.double el1), .second] [(.ref w_values_a0)])) t
        refine XS.iload X1.here hx rfl (hb hby d4_20) rfl ?_
        exact k
      obtain ⟨c5, r5a, r5b, r5c, r5d, r5e, r5f⟩ := id V_w_values_a0
      have i5 : ¬ ((2 : Int32) < 0 ∨ c5.slots.size ≤ ((2 : Int32)).toNatClampNeg) := inb_of r5c ⟨by decide, by decide⟩
      have y5 : c5.slots[((2 : Int32)).toNatClampNeg]? = some (.double el2) := r5e.at i5 rfl
      refine own_st (T' := T1) (g' := (mkF m 25 #[.val (.ref a0), .val (.int c1), .val (.ref w_values_a0), .val (.int (4 : Int32)), .val (.int (2 : Int32)), .val (.double el2), .second] [])) (fun t k => ?_) ?_
      · show Steps p.tables e below (T1.setTop (mkF m 22 #[.val (.ref a0), .val (.int c1), .val (.ref w_values_a0), .val (.int (4 : Int32)), .val (.int (2 : Int32)), .val (.double el1), .second] [(.int (2 : Int32)), (.ref w_values_a0)])) t
        refine X1.daload hx (j := (2 : Int32)) (v := (.double el2)) (by rw [e1]; exact r5a.1) (State.isArrayOf_alike hZ.alike r5a.2.1) r5a.2.2 i5 y5 (g := (mkF m 22 #[.val (.ref a0), .val (.int c1), .val (.ref w_values_a0), .val (.int (4 : Int32)), .val (.int (2 : Int32)), .val (.double el1), .second] [(.int (2 : Int32)), (.ref w_values_a0)])) rfl rfl (hb hby d4_22) _ ?_
        show Steps p.tables e below (T1.setTop (mkF m 23 #[.val (.ref a0), .val (.int c1), .val (.ref w_values_a0), .val (.int (4 : Int32)), .val (.int (2 : Int32)), .val (.double el1), .second] [(.double el2)])) t
        refine XS.dstore X1.here hx rfl (hb hby d4_23) rfl (l' := #[.val (.ref a0), .val (.int c1), .val (.ref w_values_a0), .val (.int (4 : Int32)), .val (.int (2 : Int32)), .val (.double el2), .second]) rfl ?_
        exact k
      have hJ35_2 : ∀ (c2 : Int32) (hc2 : c2 = own_z c1 el2), own_G p e below s (Qz4 Z a0 w_values_a0 kk_w_values_a0 el0 el1 el2 el3 h0 n0) (({ frames := 0, cells := 0, slots := 0, locals := 0 } : Room)).cells (({ frames := 0, cells := 0, slots := 0, locals := 0 } : Room)).slots T1 (mkF m 35 #[.val (.ref a0), .val (.int c2), .val (.ref w_values_a0), .val (.int (4 : Int32)), .val (.int (2 : Int32)), .val (.double el2), .second] []) := by
        intro c2 hc2
        refine own_st (T' := T1) (g' := (mkF m 22 #[.val (.ref a0), .val (.int c2), .val (.ref w_values_a0), .val (.int (4 : Int32)), .val (.int (3 : Int32)), .val (.double el2), .second] [(.int (3 : Int32)), (.ref w_values_a0)])) (fun t k => ?_) ?_
        · show Steps p.tables e below (T1.setTop (mkF m 35 #[.val (.ref a0), .val (.int c2), .val (.ref w_values_a0), .val (.int (4 : Int32)), .val (.int (2 : Int32)), .val (.double el2), .second] [])) t
          refine XS.iinc X1.here hx rfl (hb hby d4_35) rfl (l' := #[.val (.ref a0), .val (.int c2), .val (.ref w_values_a0), .val (.int (4 : Int32)), .val (.int (3 : Int32)), .val (.double el2), .second]) rfl ?_
          show Steps p.tables e below (T1.setTop (mkF m 38 #[.val (.ref a0), .val (.int c2), .val (.ref w_values_a0), .val (.int (4 : Int32)), .val (.int (3 : Int32)), .val (.double el2), .second] [])) t
          refine XS.goto X1.here hx rfl (pc0 := 38) (pc' := 13) rfl (hb hby d4_38) (by decide) (by decide) ?_
          show Steps p.tables e below (T1.setTop (mkF m 13 #[.val (.ref a0), .val (.int c2), .val (.ref w_values_a0), .val (.int (4 : Int32)), .val (.int (3 : Int32)), .val (.double el2), .second] [])) t
          refine XS.iload X1.here hx rfl (hb hby d4_13) rfl ?_
          show Steps p.tables e below (T1.setTop (mkF m 15 #[.val (.ref a0), .val (.int c2), .val (.ref w_values_a0), .val (.int (4 : Int32)), .val (.int (3 : Int32)), .val (.double el2), .second] [(.int (3 : Int32))])) t
          refine XS.iloadN X1.here hx rfl (hb hby d4_15) rfl ?_
          show Steps p.tables e below (T1.setTop (mkF m 16 #[.val (.ref a0), .val (.int c2), .val (.ref w_values_a0), .val (.int (4 : Int32)), .val (.int (3 : Int32)), .val (.double el2), .second] [(.int (4 : Int32)), (.int (3 : Int32))])) t
          refine XS.icmpNo X1.here hx rfl (hb hby d4_16) rfl (by decide) ?_
          show Steps p.tables e below (T1.setTop (mkF m 19 #[.val (.ref a0), .val (.int c2), .val (.ref w_values_a0), .val (.int (4 : Int32)), .val (.int (3 : Int32)), .val (.double el2), .second] [])) t
          refine XS.aloadN X1.here hx rfl (hb hby d4_19) rfl rfl ?_
          show Steps p.tables e below (T1.setTop (mkF m 20 #[.val (.ref a0), .val (.int c2), .val (.ref w_values_a0), .val (.int (4 : Int32)), .val (.int (3 : Int32)), .val (.double el2), .second] [(.ref w_values_a0)])) t
          refine XS.iload X1.here hx rfl (hb hby d4_20) rfl ?_
          exact k
        obtain ⟨c6, r6a, r6b, r6c, r6d, r6e, r6f⟩ := id V_w_values_a0
        have i6 : ¬ ((3 : Int32) < 0 ∨ c6.slots.size ≤ ((3 : Int32)).toNatClampNeg) := inb_of r6c ⟨by decide, by decide⟩
        have y6 : c6.slots[((3 : Int32)).toNatClampNeg]? = some (.double el3) := r6e.at i6 rfl
        refine own_st (T' := T1) (g' := (mkF m 25 #[.val (.ref a0), .val (.int c2), .val (.ref w_values_a0), .val (.int (4 : Int32)), .val (.int (3 : Int32)), .val (.double el3), .second] [])) (fun t k => ?_) ?_
        · show Steps p.tables e below (T1.setTop (mkF m 22 #[.val (.ref a0), .val (.int c2), .val (.ref w_values_a0), .val (.int (4 : Int32)), .val (.int (3 : Int32)), .val (.double el2), .second] [(.int (3 : Int32)), (.ref w_values_a0)])) t
          refine X1.daload hx (j := (3 : Int32)) (v := (.double el3)) (by rw [e1]; exact r6a.1) (State.isArrayOf_alike hZ.alike r6a.2.1) r6a.2.2 i6 y6 (g := (mkF m 22 #[.val (.ref a0), .val (.int c2), .val (.ref w_values_a0), .val (.int (4 : Int32)), .val (.int (3 : Int32)), .val (.double el2), .second] [(.int (3 : Int32)), (.ref w_values_a0)])) rfl rfl (hb hby d4_22) _ ?_
          show Steps p.tables e below (T1.setTop (mkF m 23 #[.val (.ref a0), .val (.int c2), .val (.ref w_values_a0), .val (.int (4 : Int32)), .val (.int (3 : Int32)), .val (.double el2), .second] [(.double el3)])) t
          refine XS.dstore X1.here hx rfl (hb hby d4_23) rfl (l' := #[.val (.ref a0), .val (.int c2), .val (.ref w_values_a0), .val (.int (4 : Int32)), .val (.int (3 : Int32)), .val (.double el3), .second]) rfl ?_
          exact k
        have hJ35_3 : ∀ (c3 : Int32) (hc3 : c3 = own_z c2 el3), own_G p e below s (Qz4 Z a0 w_values_a0 kk_w_values_a0 el0 el1 el2 el3 h0 n0) (({ frames := 0, cells := 0, slots := 0, locals := 0 } : Room)).cells (({ frames := 0, cells := 0, slots := 0, locals := 0 } : Room)).slots T1 (mkF m 35 #[.val (.ref a0), .val (.int c3), .val (.ref w_values_a0), .val (.int (4 : Int32)), .val (.int (3 : Int32)), .val (.double el3), .second] []) := by
          intro c3 hc3
          refine own_st (T' := T1) (g' := (mkF m 42 #[.val (.ref a0), .val (.int c3), .val (.ref w_values_a0), .val (.int (4 : Int32)), .val (.int (4 : Int32)), .val (.double el3), .second] [(.int c3)])) (fun t k => ?_) ?_
          · show Steps p.tables e below (T1.setTop (mkF m 35 #[.val (.ref a0), .val (.int c3), .val (.ref w_values_a0), .val (.int (4 : Int32)), .val (.int (3 : Int32)), .val (.double el3), .second] [])) t
            refine XS.iinc X1.here hx rfl (hb hby d4_35) rfl (l' := #[.val (.ref a0), .val (.int c3), .val (.ref w_values_a0), .val (.int (4 : Int32)), .val (.int (4 : Int32)), .val (.double el3), .second]) rfl ?_
            show Steps p.tables e below (T1.setTop (mkF m 38 #[.val (.ref a0), .val (.int c3), .val (.ref w_values_a0), .val (.int (4 : Int32)), .val (.int (4 : Int32)), .val (.double el3), .second] [])) t
            refine XS.goto X1.here hx rfl (pc0 := 38) (pc' := 13) rfl (hb hby d4_38) (by decide) (by decide) ?_
            show Steps p.tables e below (T1.setTop (mkF m 13 #[.val (.ref a0), .val (.int c3), .val (.ref w_values_a0), .val (.int (4 : Int32)), .val (.int (4 : Int32)), .val (.double el3), .second] [])) t
            refine XS.iload X1.here hx rfl (hb hby d4_13) rfl ?_
            show Steps p.tables e below (T1.setTop (mkF m 15 #[.val (.ref a0), .val (.int c3), .val (.ref w_values_a0), .val (.int (4 : Int32)), .val (.int (4 : Int32)), .val (.double el3), .second] [(.int (4 : Int32))])) t
            refine XS.iloadN X1.here hx rfl (hb hby d4_15) rfl ?_
            show Steps p.tables e below (T1.setTop (mkF m 16 #[.val (.ref a0), .val (.int c3), .val (.ref w_values_a0), .val (.int (4 : Int32)), .val (.int (4 : Int32)), .val (.double el3), .second] [(.int (4 : Int32)), (.int (4 : Int32))])) t
            refine XS.icmpYes X1.here hx rfl (pc0 := 16) (pc' := 41) rfl (hb hby d4_16) rfl (by decide) (by decide) (by decide) ?_
            show Steps p.tables e below (T1.setTop (mkF m 41 #[.val (.ref a0), .val (.int c3), .val (.ref w_values_a0), .val (.int (4 : Int32)), .val (.int (4 : Int32)), .val (.double el3), .second] [])) t
            refine XS.iloadN X1.here hx rfl (hb hby d4_41) rfl ?_
            exact k
          refine own_retI X1 hx hlk Bd.returns (hb hby d4_42) (by decide) (by decide) ?_
          show Qz4 Z a0 w_values_a0 kk_w_values_a0 el0 el1 el2 el3 h0 n0 (some (.int c3)) T1.heap _
          rw [(e1 : T1.heap = h0)]
          exact ⟨congrArg (fun z => some (Value.int z)) (by rw [hc3, hc2, hc1, hc0]), N0, rfl⟩
        refine own_st (T' := T1) (g' := (mkF m 29 #[.val (.ref a0), .val (.int c2), .val (.ref w_values_a0), .val (.int (4 : Int32)), .val (.int (3 : Int32)), .val (.double el3), .second] [(.int (cmpValue (FP.dcmp el3 (0 : UInt64)) .l))])) (fun t k => ?_) ?_
        · show Steps p.tables e below (T1.setTop (mkF m 25 #[.val (.ref a0), .val (.int c2), .val (.ref w_values_a0), .val (.int (4 : Int32)), .val (.int (3 : Int32)), .val (.double el3), .second] [])) t
          refine XS.dload X1.here hx rfl (hb hby d4_25) rfl ?_
          show Steps p.tables e below (T1.setTop (mkF m 27 #[.val (.ref a0), .val (.int c2), .val (.ref w_values_a0), .val (.int (4 : Int32)), .val (.int (3 : Int32)), .val (.double el3), .second] [(.double el3)])) t
          refine XS.dconst0 X1.here hx rfl (hb hby d4_27) rfl ?_
          show Steps p.tables e below (T1.setTop (mkF m 28 #[.val (.ref a0), .val (.int c2), .val (.ref w_values_a0), .val (.int (4 : Int32)), .val (.int (3 : Int32)), .val (.double el3), .second] [(.double (0 : UInt64)), (.double el3)])) t
          refine XS.dcmpS X1.here hx rfl (hb hby d4_28) rfl rfl ?_
          exact k
        by_cases hc29_7 : ifCond.holds .eq (cmpValue (FP.dcmp el3 (0 : UInt64)) .l) = true
        · refine own_st (T' := T1) (g' := (mkF m 35 #[.val (.ref a0), .val (.int c2), .val (.ref w_values_a0), .val (.int (4 : Int32)), .val (.int (3 : Int32)), .val (.double el3), .second] [])) (fun t k => ?_) ?_
          · show Steps p.tables e below (T1.setTop (mkF m 29 #[.val (.ref a0), .val (.int c2), .val (.ref w_values_a0), .val (.int (4 : Int32)), .val (.int (3 : Int32)), .val (.double el3), .second] [(.int (cmpValue (FP.dcmp el3 (0 : UInt64)) .l))])) t
            refine XS.ifYes X1.here hx rfl (pc0 := 29) (pc' := 35) rfl (hb hby d4_29) rfl hc29_7 (by decide) (by decide) ?_
            exact k
          exact hJ35_3 _ (own_zy _ hc29_7)
        · refine own_st (T' := T1) (g' := (mkF m 35 #[.val (.ref a0), .val (.int (c2 + (1 : Int32))), .val (.ref w_values_a0), .val (.int (4 : Int32)), .val (.int (3 : Int32)), .val (.double el3), .second] [])) (fun t k => ?_) ?_
          · show Steps p.tables e below (T1.setTop (mkF m 29 #[.val (.ref a0), .val (.int c2), .val (.ref w_values_a0), .val (.int (4 : Int32)), .val (.int (3 : Int32)), .val (.double el3), .second] [(.int (cmpValue (FP.dcmp el3 (0 : UInt64)) .l))])) t
            refine XS.ifNo X1.here hx rfl (hb hby d4_29) rfl (Bool.eq_false_iff.mpr hc29_7) ?_
            show Steps p.tables e below (T1.setTop (mkF m 32 #[.val (.ref a0), .val (.int c2), .val (.ref w_values_a0), .val (.int (4 : Int32)), .val (.int (3 : Int32)), .val (.double el3), .second] [])) t
            refine XS.iinc X1.here hx rfl (hb hby d4_32) rfl (l' := #[.val (.ref a0), .val (.int (c2 + (1 : Int32))), .val (.ref w_values_a0), .val (.int (4 : Int32)), .val (.int (3 : Int32)), .val (.double el3), .second]) rfl ?_
            exact k
          exact hJ35_3 _ (own_zn _ hc29_7)
      refine own_st (T' := T1) (g' := (mkF m 29 #[.val (.ref a0), .val (.int c1), .val (.ref w_values_a0), .val (.int (4 : Int32)), .val (.int (2 : Int32)), .val (.double el2), .second] [(.int (cmpValue (FP.dcmp el2 (0 : UInt64)) .l))])) (fun t k => ?_) ?_
      · show Steps p.tables e below (T1.setTop (mkF m 25 #[.val (.ref a0), .val (.int c1), .val (.ref w_values_a0), .val (.int (4 : Int32)), .val (.int (2 : Int32)), .val (.double el2), .second] [])) t
        refine XS.dload X1.here hx rfl (hb hby d4_25) rfl ?_
        show Steps p.tables e below (T1.setTop (mkF m 27 #[.val (.ref a0), .val (.int c1), .val (.ref w_values_a0), .val (.int (4 : Int32)), .val (.int (2 : Int32)), .val (.double el2), .second] [(.double el2)])) t
        refine XS.dconst0 X1.here hx rfl (hb hby d4_27) rfl ?_
        show Steps p.tables e below (T1.setTop (mkF m 28 #[.val (.ref a0), .val (.int c1), .val (.ref w_values_a0), .val (.int (4 : Int32)), .val (.int (2 : Int32)), .val (.double el2), .second] [(.double (0 : UInt64)), (.double el2)])) t
        refine XS.dcmpS X1.here hx rfl (hb hby d4_28) rfl rfl ?_
        exact k
      by_cases hc29_8 : ifCond.holds .eq (cmpValue (FP.dcmp el2 (0 : UInt64)) .l) = true
      · refine own_st (T' := T1) (g' := (mkF m 35 #[.val (.ref a0), .val (.int c1), .val (.ref w_values_a0), .val (.int (4 : Int32)), .val (.int (2 : Int32)), .val (.double el2), .second] [])) (fun t k => ?_) ?_
        · show Steps p.tables e below (T1.setTop (mkF m 29 #[.val (.ref a0), .val (.int c1), .val (.ref w_values_a0), .val (.int (4 : Int32)), .val (.int (2 : Int32)), .val (.double el2), .second] [(.int (cmpValue (FP.dcmp el2 (0 : UInt64)) .l))])) t
          refine XS.ifYes X1.here hx rfl (pc0 := 29) (pc' := 35) rfl (hb hby d4_29) rfl hc29_8 (by decide) (by decide) ?_
          exact k
        exact hJ35_2 _ (own_zy _ hc29_8)
      · refine own_st (T' := T1) (g' := (mkF m 35 #[.val (.ref a0), .val (.int (c1 + (1 : Int32))), .val (.ref w_values_a0), .val (.int (4 : Int32)), .val (.int (2 : Int32)), .val (.double el2), .second] [])) (fun t k => ?_) ?_
        · show Steps p.tables e below (T1.setTop (mkF m 29 #[.val (.ref a0), .val (.int c1), .val (.ref w_values_a0), .val (.int (4 : Int32)), .val (.int (2 : Int32)), .val (.double el2), .second] [(.int (cmpValue (FP.dcmp el2 (0 : UInt64)) .l))])) t
          refine XS.ifNo X1.here hx rfl (hb hby d4_29) rfl (Bool.eq_false_iff.mpr hc29_8) ?_
          show Steps p.tables e below (T1.setTop (mkF m 32 #[.val (.ref a0), .val (.int c1), .val (.ref w_values_a0), .val (.int (4 : Int32)), .val (.int (2 : Int32)), .val (.double el2), .second] [])) t
          refine XS.iinc X1.here hx rfl (hb hby d4_32) rfl (l' := #[.val (.ref a0), .val (.int (c1 + (1 : Int32))), .val (.ref w_values_a0), .val (.int (4 : Int32)), .val (.int (2 : Int32)), .val (.double el2), .second]) rfl ?_
          exact k
        exact hJ35_2 _ (own_zn _ hc29_8)
    refine own_st (T' := T1) (g' := (mkF m 29 #[.val (.ref a0), .val (.int c0), .val (.ref w_values_a0), .val (.int (4 : Int32)), .val (.int (1 : Int32)), .val (.double el1), .second] [(.int (cmpValue (FP.dcmp el1 (0 : UInt64)) .l))])) (fun t k => ?_) ?_
    · show Steps p.tables e below (T1.setTop (mkF m 25 #[.val (.ref a0), .val (.int c0), .val (.ref w_values_a0), .val (.int (4 : Int32)), .val (.int (1 : Int32)), .val (.double el1), .second] [])) t
      refine XS.dload X1.here hx rfl (hb hby d4_25) rfl ?_
      show Steps p.tables e below (T1.setTop (mkF m 27 #[.val (.ref a0), .val (.int c0), .val (.ref w_values_a0), .val (.int (4 : Int32)), .val (.int (1 : Int32)), .val (.double el1), .second] [(.double el1)])) t
      refine XS.dconst0 X1.here hx rfl (hb hby d4_27) rfl ?_
      show Steps p.tables e below (T1.setTop (mkF m 28 #[.val (.ref a0), .val (.int c0), .val (.ref w_values_a0), .val (.int (4 : Int32)), .val (.int (1 : Int32)), .val (.double el1), .second] [(.double (0 : UInt64)), (.double el1)])) t
      refine XS.dcmpS X1.here hx rfl (hb hby d4_28) rfl rfl ?_
      exact k
    by_cases hc29_9 : ifCond.holds .eq (cmpValue (FP.dcmp el1 (0 : UInt64)) .l) = true
    · refine own_st (T' := T1) (g' := (mkF m 35 #[.val (.ref a0), .val (.int c0), .val (.ref w_values_a0), .val (.int (4 : Int32)), .val (.int (1 : Int32)), .val (.double el1), .second] [])) (fun t k => ?_) ?_
      · show Steps p.tables e below (T1.setTop (mkF m 29 #[.val (.ref a0), .val (.int c0), .val (.ref w_values_a0), .val (.int (4 : Int32)), .val (.int (1 : Int32)), .val (.double el1), .second] [(.int (cmpValue (FP.dcmp el1 (0 : UInt64)) .l))])) t
        refine XS.ifYes X1.here hx rfl (pc0 := 29) (pc' := 35) rfl (hb hby d4_29) rfl hc29_9 (by decide) (by decide) ?_
        exact k
      exact hJ35_1 _ (own_zy _ hc29_9)
    · refine own_st (T' := T1) (g' := (mkF m 35 #[.val (.ref a0), .val (.int (c0 + (1 : Int32))), .val (.ref w_values_a0), .val (.int (4 : Int32)), .val (.int (1 : Int32)), .val (.double el1), .second] [])) (fun t k => ?_) ?_
      · show Steps p.tables e below (T1.setTop (mkF m 29 #[.val (.ref a0), .val (.int c0), .val (.ref w_values_a0), .val (.int (4 : Int32)), .val (.int (1 : Int32)), .val (.double el1), .second] [(.int (cmpValue (FP.dcmp el1 (0 : UInt64)) .l))])) t
        refine XS.ifNo X1.here hx rfl (hb hby d4_29) rfl (Bool.eq_false_iff.mpr hc29_9) ?_
        show Steps p.tables e below (T1.setTop (mkF m 32 #[.val (.ref a0), .val (.int c0), .val (.ref w_values_a0), .val (.int (4 : Int32)), .val (.int (1 : Int32)), .val (.double el1), .second] [])) t
        refine XS.iinc X1.here hx rfl (hb hby d4_32) rfl (l' := #[.val (.ref a0), .val (.int (c0 + (1 : Int32))), .val (.ref w_values_a0), .val (.int (4 : Int32)), .val (.int (1 : Int32)), .val (.double el1), .second]) rfl ?_
        exact k
      exact hJ35_1 _ (own_zn _ hc29_9)
  refine own_st (T' := T1) (g' := (mkF m 29 #[.val (.ref a0), .val (.int (0 : Int32)), .val (.ref w_values_a0), .val (.int (4 : Int32)), .val (.int (0 : Int32)), .val (.double el0), .second] [(.int (cmpValue (FP.dcmp el0 (0 : UInt64)) .l))])) (fun t k => ?_) ?_
  · show Steps p.tables e below (T1.setTop (mkF m 25 #[.val (.ref a0), .val (.int (0 : Int32)), .val (.ref w_values_a0), .val (.int (4 : Int32)), .val (.int (0 : Int32)), .val (.double el0), .second] [])) t
    refine XS.dload X1.here hx rfl (hb hby d4_25) rfl ?_
    show Steps p.tables e below (T1.setTop (mkF m 27 #[.val (.ref a0), .val (.int (0 : Int32)), .val (.ref w_values_a0), .val (.int (4 : Int32)), .val (.int (0 : Int32)), .val (.double el0), .second] [(.double el0)])) t
    refine XS.dconst0 X1.here hx rfl (hb hby d4_27) rfl ?_
    show Steps p.tables e below (T1.setTop (mkF m 28 #[.val (.ref a0), .val (.int (0 : Int32)), .val (.ref w_values_a0), .val (.int (4 : Int32)), .val (.int (0 : Int32)), .val (.double el0), .second] [(.double (0 : UInt64)), (.double el0)])) t
    refine XS.dcmpS X1.here hx rfl (hb hby d4_28) rfl rfl ?_
    exact k
  by_cases hc29_10 : ifCond.holds .eq (cmpValue (FP.dcmp el0 (0 : UInt64)) .l) = true
  · refine own_st (T' := T1) (g' := (mkF m 35 #[.val (.ref a0), .val (.int (0 : Int32)), .val (.ref w_values_a0), .val (.int (4 : Int32)), .val (.int (0 : Int32)), .val (.double el0), .second] [])) (fun t k => ?_) ?_
    · show Steps p.tables e below (T1.setTop (mkF m 29 #[.val (.ref a0), .val (.int (0 : Int32)), .val (.ref w_values_a0), .val (.int (4 : Int32)), .val (.int (0 : Int32)), .val (.double el0), .second] [(.int (cmpValue (FP.dcmp el0 (0 : UInt64)) .l))])) t
      refine XS.ifYes X1.here hx rfl (pc0 := 29) (pc' := 35) rfl (hb hby d4_29) rfl hc29_10 (by decide) (by decide) ?_
      exact k
    exact hJ35_0 _ (own_zy _ hc29_10)
  · refine own_st (T' := T1) (g' := (mkF m 35 #[.val (.ref a0), .val (.int (1 : Int32)), .val (.ref w_values_a0), .val (.int (4 : Int32)), .val (.int (0 : Int32)), .val (.double el0), .second] [])) (fun t k => ?_) ?_
    · show Steps p.tables e below (T1.setTop (mkF m 29 #[.val (.ref a0), .val (.int (0 : Int32)), .val (.ref w_values_a0), .val (.int (4 : Int32)), .val (.int (0 : Int32)), .val (.double el0), .second] [(.int (cmpValue (FP.dcmp el0 (0 : UInt64)) .l))])) t
      refine XS.ifNo X1.here hx rfl (hb hby d4_29) rfl (Bool.eq_false_iff.mpr hc29_10) ?_
      show Steps p.tables e below (T1.setTop (mkF m 32 #[.val (.ref a0), .val (.int (0 : Int32)), .val (.ref w_values_a0), .val (.int (4 : Int32)), .val (.int (0 : Int32)), .val (.double el0), .second] [])) t
      refine XS.iinc X1.here hx rfl (hb hby d4_32) rfl (l' := #[.val (.ref a0), .val (.int (1 : Int32)), .val (.ref w_values_a0), .val (.int (4 : Int32)), .val (.int (0 : Int32)), .val (.double el0), .second]) rfl ?_
      exact k
    exact hJ35_0 _ (own_zn0 hc29_10)
theorem pn0 : plainName "com/example/winnowfold/winnowfold/math/DenseMatrixNonZeroCountPinLaw" = true := by first | (simp [plainName, overriddenIn]; done) | decide +kernel
theorem pd0_0 : parseMethodDescriptor "(II)V" = some ⟨[.int, .int], none⟩ := by decide +kernel
theorem pd0_1 : parseMethodDescriptor "()I" = some ⟨[], some .int⟩ := by decide +kernel
theorem pd0_2 : parseMethodDescriptor "(I)D" = some ⟨[.int], some .double⟩ := by decide +kernel
theorem pd0_3 : parseMethodDescriptor "(IID)V" = some ⟨[.int, .int, .double], none⟩ := by decide +kernel
theorem pd0_4 : parseMethodDescriptor "(I)I" = some ⟨[.int], some .int⟩ := by decide +kernel
theorem ef0 (m : MethodId) (p0 : Int32) (p1 : Int32) (p2 : Int32) (p3 : Int32) (p4 : Int32) : entryFrame m #[(.int p0), (.int p1), (.int p2), (.int p3), (.int p4)] maxLocals = mkF m 0 #[.val (.int p0), .val (.int p1), .val (.int p2), .val (.int p3), .val (.int p4), .unset, .unset, .unset, .unset] [] := by first | (simp [entryFrame, mkF, argsToLocals, Value.category, maxLocals]; done) | rfl
def Q0 (Z : State) (p0 : Int32) (p1 : Int32) (p2 : Int32) (p3 : Int32) (p4 : Int32) (h0 : Heap) (n0 : Nat) (v : Option Value) (h : Heap) (L : List Loc) : Prop := v = some (.int (1 : Int32)) ∧ Fr n0 L
set_option maxRecDepth 65536 in
set_option maxHeartbeats 40000000 in
theorem rm0 (l : Launch) (Z : State) (ar : Array Value) (hw : ∀ d ∈ tables_1, d.before ar Z = true) (ws : List Jvm.Cond) (p0 : Int32) (p1 : Int32) (p2 : Int32) (p3 : Int32) (p4 : Int32) (h0 : Heap) (n0 : Nat) (Z0 : n0 ≤ h0.size) :
    MetFree l x (head1 (Jvm.Cond.code x code maxLocals ret :: ws) room_1) (fun a U => a = #[(.int p0), (.int p1), (.int p2), (.int p3), (.int p4)] ∧ Z.Warmed39 U.vm ∧ U.heap = h0) (fun _ _ _ _ _ => True) (fun _ U o U' => ∃ v L, o = .returned v ∧ Q0 Z p0 p1 p2 p3 p4 h0 n0 v U'.heap L ∧ FrameEnd U o U' L room_1.cells room_1.slots) := by
  refine MetFree.of_bodySF (plainFor_of_name pn0) hisR ?_
  intro p e s m args below meth c s₁ Bd hml0 hP hK
  obtain ⟨rfl, hZ, hh⟩ := hP
  have hx := Bd.exec
  have hby := Bd.bytes
  have hlk := Bd.notSynchronized
  have hml : c.maxLocals = 9 := hml0
  have hown : s.vm.findClass "com/example/winnowfold/winnowfold/math/DenseMatrixNonZeroCountPinLaw" = some m.cls := findClass_of_methodNamed Bd.named
  have hnm := (name_of_methodNamed Bd.named Bd.method).1
  have X0 : Stand p l e room_1 s m #[(.int p0), (.int p1), (.int p2), (.int p3), (.int p4)] below meth c s₁ [] 0 0 := Stand.of_body Bd
  have e0 : s₁.heap = h0 := by rw [← hh, Bd.state]; rfl
  have N0 := Fr.nil n0
  have K0 := Keep.refl h0 []
  refine own_enter (Q := Q0 Z p0 p1 p2 p3 p4 h0 n0) (ef0 m p0 p1 p2 p3 p4) ?_
  refine own_st (T' := s₁) (g' := (mkF m 5 #[.val (.int p0), .val (.int p1), .val (.int p2), .val (.int p3), .val (.int p4), .unset, .unset, .unset, .unset] [(.int ((p0 &&& (3 : Int32)) % (3 : Int32)))])) (fun t k => ?_) ?_
  · show Steps p.tables e below (s₁.setTop (mkF m 0 #[.val (.int p0), .val (.int p1), .val (.int p2), .val (.int p3), .val (.int p4), .unset, .unset, .unset, .unset] [])) t
    refine XS.iloadN X0.here hx rfl (hb hby at_0) rfl ?_
    show Steps p.tables e below (s₁.setTop (mkF m 1 #[.val (.int p0), .val (.int p1), .val (.int p2), .val (.int p3), .val (.int p4), .unset, .unset, .unset, .unset] [(.int p0)])) t
    refine XS.iconst X0.here hx rfl (hb hby at_1) ?_
    show Steps p.tables e below (s₁.setTop (mkF m 2 #[.val (.int p0), .val (.int p1), .val (.int p2), .val (.int p3), .val (.int p4), .unset, .unset, .unset, .unset] [(.int (3 : Int32)), (.int p0)])) t
    refine XS.iand X0.here hx rfl (hb hby at_2) rfl ?_
    show Steps p.tables e below (s₁.setTop (mkF m 3 #[.val (.int p0), .val (.int p1), .val (.int p2), .val (.int p3), .val (.int p4), .unset, .unset, .unset, .unset] [(.int (p0 &&& (3 : Int32)))])) t
    refine XS.iconst X0.here hx rfl (hb hby at_3) ?_
    show Steps p.tables e below (s₁.setTop (mkF m 4 #[.val (.int p0), .val (.int p1), .val (.int p2), .val (.int p3), .val (.int p4), .unset, .unset, .unset, .unset] [(.int (3 : Int32)), (.int (p0 &&& (3 : Int32)))])) t
    refine iremM X0 hx rfl (hb hby at_4) rfl (by decide) ?_
    exact k
  rcases own_m3 p0 with hk5_1 | hk5_2 | hk5_3
  · rw [hk5_1]
    refine own_st (T' := s₁) (g' := (mkF m 14 #[.val (.int p0), .val (.int p1), .val (.int p2), .val (.int p3), .val (.int p4), .val (.int (0 : Int32)), .unset, .unset, .unset] [(.int ((((p0.toUInt32 >>> ((2 : Int32) &&& 31).toUInt32).toInt32) &&& (3 : Int32)) % (3 : Int32)))])) (fun t k => ?_) ?_
    · show Steps p.tables e below (s₁.setTop (mkF m 5 #[.val (.int p0), .val (.int p1), .val (.int p2), .val (.int p3), .val (.int p4), .unset, .unset, .unset, .unset] [(.int (0 : Int32))])) t
      refine XS.istore X0.here hx rfl (hb hby at_5) rfl (l' := #[.val (.int p0), .val (.int p1), .val (.int p2), .val (.int p3), .val (.int p4), .val (.int (0 : Int32)), .unset, .unset, .unset]) rfl ?_
      show Steps p.tables e below (s₁.setTop (mkF m 7 #[.val (.int p0), .val (.int p1), .val (.int p2), .val (.int p3), .val (.int p4), .val (.int (0 : Int32)), .unset, .unset, .unset] [])) t
      refine XS.iloadN X0.here hx rfl (hb hby at_7) rfl ?_
      show Steps p.tables e below (s₁.setTop (mkF m 8 #[.val (.int p0), .val (.int p1), .val (.int p2), .val (.int p3), .val (.int p4), .val (.int (0 : Int32)), .unset, .unset, .unset] [(.int p0)])) t
      refine XS.iconst X0.here hx rfl (hb hby at_8) ?_
      show Steps p.tables e below (s₁.setTop (mkF m 9 #[.val (.int p0), .val (.int p1), .val (.int p2), .val (.int p3), .val (.int p4), .val (.int (0 : Int32)), .unset, .unset, .unset] [(.int (2 : Int32)), (.int p0)])) t
      refine XS.iushr X0.here hx rfl (hb hby at_9) rfl ?_
      show Steps p.tables e below (s₁.setTop (mkF m 10 #[.val (.int p0), .val (.int p1), .val (.int p2), .val (.int p3), .val (.int p4), .val (.int (0 : Int32)), .unset, .unset, .unset] [(.int ((p0.toUInt32 >>> ((2 : Int32) &&& 31).toUInt32).toInt32))])) t
      refine XS.iconst X0.here hx rfl (hb hby at_10) ?_
      show Steps p.tables e below (s₁.setTop (mkF m 11 #[.val (.int p0), .val (.int p1), .val (.int p2), .val (.int p3), .val (.int p4), .val (.int (0 : Int32)), .unset, .unset, .unset] [(.int (3 : Int32)), (.int ((p0.toUInt32 >>> ((2 : Int32) &&& 31).toUInt32).toInt32))])) t
      refine XS.iand X0.here hx rfl (hb hby at_11) rfl ?_
      show Steps p.tables e below (s₁.setTop (mkF m 12 #[.val (.int p0), .val (.int p1), .val (.int p2), .val (.int p3), .val (.int p4), .val (.int (0 : Int32)), .unset, .unset, .unset] [(.int (((p0.toUInt32 >>> ((2 : Int32) &&& 31).toUInt32).toInt32) &&& (3 : Int32)))])) t
      refine XS.iconst X0.here hx rfl (hb hby at_12) ?_
      show Steps p.tables e below (s₁.setTop (mkF m 13 #[.val (.int p0), .val (.int p1), .val (.int p2), .val (.int p3), .val (.int p4), .val (.int (0 : Int32)), .unset, .unset, .unset] [(.int (3 : Int32)), (.int (((p0.toUInt32 >>> ((2 : Int32) &&& 31).toUInt32).toInt32) &&& (3 : Int32)))])) t
      refine iremM X0 hx rfl (hb hby at_13) rfl (by decide) ?_
      exact k
    rcases own_m3 _ with hk14_4 | hk14_5 | hk14_6
    · rw [hk14_4]
      refine own_st (T' := s₁) (g' := (mkF m 16 #[.val (.int p0), .val (.int p1), .val (.int p2), .val (.int p3), .val (.int p4), .val (.int (0 : Int32)), .val (.int (0 : Int32)), .unset, .unset] [])) (fun t k => ?_) ?_
      · show Steps p.tables e below (s₁.setTop (mkF m 14 #[.val (.int p0), .val (.int p1), .val (.int p2), .val (.int p3), .val (.int p4), .val (.int (0 : Int32)), .unset, .unset, .unset] [(.int (0 : Int32))])) t
        refine XS.istore X0.here hx rfl (hb hby at_14) rfl (l' := #[.val (.int p0), .val (.int p1), .val (.int p2), .val (.int p3), .val (.int p4), .val (.int (0 : Int32)), .val (.int (0 : Int32)), .unset, .unset]) rfl ?_
        exact k
      obtain ⟨T7, h7, X7, e7, E7, A7, D7, -, st7⟩ := newO X0 hx hZ hown (hw _ (List.mem_of_getElem? (i := 0) rfl)) (hw _ (List.mem_of_getElem? (i := 1) rfl)) (hw _ (List.mem_of_getElem? (i := 2) rfl)) e0 (g := (mkF m 16 #[.val (.int p0), .val (.int p1), .val (.int p2), .val (.int p3), .val (.int p4), .val (.int (0 : Int32)), .val (.int (0 : Int32)), .unset, .unset] [])) rfl (hb hby at_16) (by decide) (by decide)
      obtain ⟨b7, g7⟩ : ∃ z, z = h0.size := ⟨_, rfl⟩
      rw [← g7] at A7 D7 st7
      have g_b7 : n0 ≤ b7 := Nat.le_trans Z0 (Nat.le_of_eq g7.symm)
      have sz_b7 : h0.size ≤ b7 := Nat.le_trans K0.1 (Nat.le_of_eq g7.symm)
      have z8 := Nat.le_trans Z0 E7.1
      have k9 := K0.ext E7
      have f10 : Fld Z h7 b7 "com/example/winnowfold/winnowfold/math/AbstractMatrix" "rows" "I" (.int (0 : Int32)) := D7 (Or.inr (hw _ (List.mem_of_getElem? (i := 15) rfl))) (ty := .int) (by decide)
      have f11 : Fld Z h7 b7 "com/example/winnowfold/winnowfold/math/AbstractMatrix" "columns" "I" (.int (0 : Int32)) := D7 (Or.inr (hw _ (List.mem_of_getElem? (i := 17) rfl))) (ty := .int) (by decide)
      have f12 : Fld Z h7 b7 "com/example/winnowfold/winnowfold/math/DenseMatrix" "values" "[D" .null := D7 (Or.inr (hw _ (List.mem_of_getElem? (i := 21) rfl))) (ty := (.array .double)) (by decide)
      refine own_st (T' := T7) (g' := (mkF m 19 #[.val (.int p0), .val (.int p1), .val (.int p2), .val (.int p3), .val (.int p4), .val (.int (0 : Int32)), .val (.int (0 : Int32)), .unset, .unset] [(.ref b7)])) st7 ?_
      refine own_st (T' := T7) (g' := (mkF m 24 #[.val (.int p0), .val (.int p1), .val (.int p2), .val (.int p3), .val (.int p4), .val (.int (0 : Int32)), .val (.int (0 : Int32)), .unset, .unset] [(.int (0 : Int32)), (.int (0 : Int32)), (.ref b7), (.ref b7)])) (fun t k => ?_) ?_
      · show Steps p.tables e below (T7.setTop (mkF m 19 #[.val (.int p0), .val (.int p1), .val (.int p2), .val (.int p3), .val (.int p4), .val (.int (0 : Int32)), .val (.int (0 : Int32)), .unset, .unset] [(.ref b7)])) t
        refine XS.dup X7.here hx rfl (hb hby at_19) rfl rfl ?_
        show Steps p.tables e below (T7.setTop (mkF m 20 #[.val (.int p0), .val (.int p1), .val (.int p2), .val (.int p3), .val (.int p4), .val (.int (0 : Int32)), .val (.int (0 : Int32)), .unset, .unset] [(.ref b7), (.ref b7)])) t
        refine XS.iload X7.here hx rfl (hb hby at_20) rfl ?_
        show Steps p.tables e below (T7.setTop (mkF m 22 #[.val (.int p0), .val (.int p1), .val (.int p2), .val (.int p3), .val (.int p4), .val (.int (0 : Int32)), .val (.int (0 : Int32)), .unset, .unset] [(.int (0 : Int32)), (.ref b7), (.ref b7)])) t
        refine XS.iload X7.here hx rfl (hb hby at_22) rfl ?_
        exact k
      obtain ⟨_, _, ⟨T13, L13, k13, n13⟩, -, X13, ⟨Lc13, hQ13, l13, y13, z13⟩, st13⟩ := X7.specialBack hx (y := (⟨"com/example/winnowfold/winnowfold/math/DenseMatrix", "<init>", "(II)V"⟩ : MethodName)) rfl hown (mvT hZ (hw _ (List.mem_of_getElem? (i := 3) rfl))) (mvT hZ (hw _ (List.mem_of_getElem? (i := 4) rfl))) (mvT hZ (hw _ (List.mem_of_getElem? (i := 5) rfl))) (by decide) (backOf (W := 1) (rmI00 l Z ar hw [] b7 ((.int (0 : Int32))) ((.int (0 : Int32))) (.null) h7 n0 z8 A7 f10 f11 f12 g_b7) hZ (hw _ (List.mem_of_getElem? (i := 5) rfl)) (hw _ (List.mem_of_getElem? (i := 2) rfl)) (by decide) (by decide)) (g := (mkF m 24 #[.val (.int p0), .val (.int p1), .val (.int p2), .val (.int p3), .val (.int p4), .val (.int (0 : Int32)), .val (.int (0 : Int32)), .unset, .unset] [(.int (0 : Int32)), (.int (0 : Int32)), (.ref b7), (.ref b7)])) rfl (by rw [hml]; rfl) (Steps.refl _) (a := b7) (argsL := [(.int (0 : Int32)), (.int (0 : Int32))]) (rest := [(.ref b7)]) (lenOf pd0_0 rfl) rfl (by show 2 * 0 + _ ≤ _; exact Nat.le_of_eq rfl) (hb hby at_24) (fun _ _ => ⟨rfl, e7, (by decide : 1 + 1 ≤ _), (by decide : 3 + 0 ≤ _)⟩)
      dsimp only [Pt.U, Pt.locs, Pt.cells, Pt.slots] at X13 l13 y13 z13 st13 hQ13
      subst l13 y13 z13
      obtain ⟨x0_13, kx_x0_13, rfl, N13q, K13, sz13_x0, f14, f15, f16, f17, f18⟩ := hQ13
      have n19 := Fr.app N0 N13q
      have ne_b7_x0_13 : b7 ≠ x0_13 := Nat.ne_of_lt (Nat.lt_of_lt_of_le A7.lt sz13_x0)
      have g_x0_13 : n0 ≤ x0_13 := Nat.le_trans z8 sz13_x0
      have sz_x0_13 : h0.size ≤ x0_13 := Nat.le_trans k9.1 sz13_x0
      have f20 := A7.keep K13
      have z21 := Nat.le_trans z8 K13.1
      have k22 := k9.trans K13 (allS (Or.inr sz_b7) all0)
      refine own_tr (T' := T13) (g' := (mkF m 27 #[.val (.int p0), .val (.int p1), .val (.int p2), .val (.int p3), .val (.int p4), .val (.int (0 : Int32)), .val (.int (0 : Int32)), .unset, .unset] [(.ref b7)])) st13 ?_
      refine own_st (T' := T13) (g' := (mkF m 160 #[.val (.int p0), .val (.int p1), .val (.int p2), .val (.int p3), .val (.int p4), .val (.int (0 : Int32)), .val (.int (0 : Int32)), .val (.ref b7), .val (.int (0 : Int32))] [(.ref b7)])) (fun t k => ?_) ?_
      · show Steps p.tables e below (T13.setTop (mkF m 27 #[.val (.int p0), .val (.int p1), .val (.int p2), .val (.int p3), .val (.int p4), .val (.int (0 : Int32)), .val (.int (0 : Int32)), .unset, .unset] [(.ref b7)])) t
        refine XS.astore X13.here hx rfl (hb hby at_27) rfl rfl (l' := #[.val (.int p0), .val (.int p1), .val (.int p2), .val (.int p3), .val (.int p4), .val (.int (0 : Int32)), .val (.int (0 : Int32)), .val (.ref b7), .unset]) rfl ?_
        show Steps p.tables e below (T13.setTop (mkF m 29 #[.val (.int p0), .val (.int p1), .val (.int p2), .val (.int p3), .val (.int p4), .val (.int (0 : Int32)), .val (.int (0 : Int32)), .val (.ref b7), .unset] [])) t
        refine XS.iconst X13.here hx rfl (hb hby at_29) ?_
        show Steps p.tables e below (T13.setTop (mkF m 30 #[.val (.int p0), .val (.int p1), .val (.int p2), .val (.int p3), .val (.int p4), .val (.int (0 : Int32)), .val (.int (0 : Int32)), .val (.ref b7), .unset] [(.int (0 : Int32))])) t
        refine XS.istore X13.here hx rfl (hb hby at_30) rfl (l' := #[.val (.int p0), .val (.int p1), .val (.int p2), .val (.int p3), .val (.int p4), .val (.int (0 : Int32)), .val (.int (0 : Int32)), .val (.ref b7), .val (.int (0 : Int32))]) rfl ?_
        show Steps p.tables e below (T13.setTop (mkF m 32 #[.val (.int p0), .val (.int p1), .val (.int p2), .val (.int p3), .val (.int p4), .val (.int (0 : Int32)), .val (.int (0 : Int32)), .val (.ref b7), .val (.int (0 : Int32))] [])) t
        refine XS.iload X13.here hx rfl (hb hby at_32) rfl ?_
        show Steps p.tables e below (T13.setTop (mkF m 34 #[.val (.int p0), .val (.int p1), .val (.int p2), .val (.int p3), .val (.int p4), .val (.int (0 : Int32)), .val (.int (0 : Int32)), .val (.ref b7), .val (.int (0 : Int32))] [(.int (0 : Int32))])) t
        refine XS.ifYes X13.here hx rfl (pc0 := 34) (pc' := 62) rfl (hb hby at_34) rfl (by decide) (by decide) (by decide) ?_
        show Steps p.tables e below (T13.setTop (mkF m 62 #[.val (.int p0), .val (.int p1), .val (.int p2), .val (.int p3), .val (.int p4), .val (.int (0 : Int32)), .val (.int (0 : Int32)), .val (.ref b7), .val (.int (0 : Int32))] [])) t
        refine XS.iload X13.here hx rfl (hb hby at_62) rfl ?_
        show Steps p.tables e below (T13.setTop (mkF m 64 #[.val (.int p0), .val (.int p1), .val (.int p2), .val (.int p3), .val (.int p4), .val (.int (0 : Int32)), .val (.int (0 : Int32)), .val (.ref b7), .val (.int (0 : Int32))] [(.int (0 : Int32))])) t
        refine XS.ifYes X13.here hx rfl (pc0 := 64) (pc' := 93) rfl (hb hby at_64) rfl (by decide) (by decide) (by decide) ?_
        show Steps p.tables e below (T13.setTop (mkF m 93 #[.val (.int p0), .val (.int p1), .val (.int p2), .val (.int p3), .val (.int p4), .val (.int (0 : Int32)), .val (.int (0 : Int32)), .val (.ref b7), .val (.int (0 : Int32))] [])) t
        refine XS.iload X13.here hx rfl (hb hby at_93) rfl ?_
        show Steps p.tables e below (T13.setTop (mkF m 95 #[.val (.int p0), .val (.int p1), .val (.int p2), .val (.int p3), .val (.int p4), .val (.int (0 : Int32)), .val (.int (0 : Int32)), .val (.ref b7), .val (.int (0 : Int32))] [(.int (0 : Int32))])) t
        refine XS.iconst X13.here hx rfl (hb hby at_95) ?_
        show Steps p.tables e below (T13.setTop (mkF m 96 #[.val (.int p0), .val (.int p1), .val (.int p2), .val (.int p3), .val (.int p4), .val (.int (0 : Int32)), .val (.int (0 : Int32)), .val (.ref b7), .val (.int (0 : Int32))] [(.int (1 : Int32)), (.int (0 : Int32))])) t
        refine XS.icmpYes X13.here hx rfl (pc0 := 96) (pc' := 124) rfl (hb hby at_96) rfl (by decide) (by decide) (by decide) ?_
        show Steps p.tables e below (T13.setTop (mkF m 124 #[.val (.int p0), .val (.int p1), .val (.int p2), .val (.int p3), .val (.int p4), .val (.int (0 : Int32)), .val (.int (0 : Int32)), .val (.ref b7), .val (.int (0 : Int32))] [])) t
        refine XS.iload X13.here hx rfl (hb hby at_124) rfl ?_
        show Steps p.tables e below (T13.setTop (mkF m 126 #[.val (.int p0), .val (.int p1), .val (.int p2), .val (.int p3), .val (.int p4), .val (.int (0 : Int32)), .val (.int (0 : Int32)), .val (.ref b7), .val (.int (0 : Int32))] [(.int (0 : Int32))])) t
        refine XS.iconst X13.here hx rfl (hb hby at_126) ?_
        show Steps p.tables e below (T13.setTop (mkF m 127 #[.val (.int p0), .val (.int p1), .val (.int p2), .val (.int p3), .val (.int p4), .val (.int (0 : Int32)), .val (.int (0 : Int32)), .val (.ref b7), .val (.int (0 : Int32))] [(.int (1 : Int32)), (.int (0 : Int32))])) t
        refine XS.icmpYes X13.here hx rfl (pc0 := 127) (pc' := 158) rfl (hb hby at_127) rfl (by decide) (by decide) (by decide) ?_
        show Steps p.tables e below (T13.setTop (mkF m 158 #[.val (.int p0), .val (.int p1), .val (.int p2), .val (.int p3), .val (.int p4), .val (.int (0 : Int32)), .val (.int (0 : Int32)), .val (.ref b7), .val (.int (0 : Int32))] [])) t
        refine XS.aload X13.here hx rfl (hb hby at_158) rfl rfl ?_
        exact k
      obtain ⟨cq23, kq23, qa23, qb23, qc23⟩ := isOf hZ (rfl : T13.heap = T13.heap) f14
      obtain ⟨_, _, ⟨T23, L23, k23, n23⟩, -, X23, ⟨Lc23, hQ23, l23, y23, z23⟩, st23⟩ := X13.virtualBack hx (y := (⟨"com/example/winnowfold/winnowfold/math/DenseMatrix", "nonZeroCount", "()I"⟩ : MethodName)) (z := (⟨"com/example/winnowfold/winnowfold/math/DenseMatrix", "nonZeroCount", "()I"⟩ : MethodName)) hown (mvT hZ (hw _ (List.mem_of_getElem? (i := 22) rfl))) (mvT hZ (hw _ (List.mem_of_getElem? (i := 23) rfl))) (notFace_of_selects (args := #[]) (mvT hZ (hw _ (List.mem_of_getElem? (i := 25) rfl)))) (mvT hZ (hw _ (List.mem_of_getElem? (i := 25) rfl))) (mvT hZ (hw _ (List.mem_of_getElem? (i := 24) rfl))) (by decide) (backOf (W := 0) (rmz0 l Z ar hw [] b7 x0_13 kx_x0_13 T13.heap n0 z21 f14 f17 f18) hZ (hw _ (List.mem_of_getElem? (i := 26) rfl)) (hw _ (List.mem_of_getElem? (i := 2) rfl)) (by decide) (by decide)) qa23 qc23 (g := (mkF m 160 #[.val (.int p0), .val (.int p1), .val (.int p2), .val (.int p3), .val (.int p4), .val (.int (0 : Int32)), .val (.int (0 : Int32)), .val (.ref b7), .val (.int (0 : Int32))] [(.ref b7)])) rfl (by rw [hml]; rfl) (Steps.refl _) (argsL := []) (rest := []) (lenOf pd0_1 rfl) rfl (by show 2 * 0 + _ ≤ _; exact Nat.le_of_eq rfl) (hb hby at_160) (fun _ _ => ⟨rfl, (rfl : T13.heap = T13.heap), (by decide : 2 + 0 ≤ _), (by decide : 3 + 0 ≤ _)⟩)
      dsimp only [Pt.U, Pt.locs, Pt.cells, Pt.slots] at X23 l23 y23 z23 st23 hQ23
      subst l23 y23 z23
      obtain ⟨rfl, N23q, e23⟩ := hQ23
      have n24 := Fr.app n19 N23q
      refine own_tr (T' := T23) (g' := (mkF m 163 #[.val (.int p0), .val (.int p1), .val (.int p2), .val (.int p3), .val (.int p4), .val (.int (0 : Int32)), .val (.int (0 : Int32)), .val (.ref b7), .val (.int (0 : Int32))] [(.int (0 : Int32))])) st23 ?_
      refine own_st (T' := T23) (g' := (mkF m 173 #[.val (.int p0), .val (.int p1), .val (.int p2), .val (.int p3), .val (.int p4), .val (.int (0 : Int32)), .val (.int (0 : Int32)), .val (.ref b7), .val (.int (0 : Int32))] [(.int (1 : Int32))])) (fun t k => ?_) ?_
      · show Steps p.tables e below (T23.setTop (mkF m 163 #[.val (.int p0), .val (.int p1), .val (.int p2), .val (.int p3), .val (.int p4), .val (.int (0 : Int32)), .val (.int (0 : Int32)), .val (.ref b7), .val (.int (0 : Int32))] [(.int (0 : Int32))])) t
        refine XS.iload X23.here hx rfl (hb hby at_163) rfl ?_
        show Steps p.tables e below (T23.setTop (mkF m 165 #[.val (.int p0), .val (.int p1), .val (.int p2), .val (.int p3), .val (.int p4), .val (.int (0 : Int32)), .val (.int (0 : Int32)), .val (.ref b7), .val (.int (0 : Int32))] [(.int (0 : Int32)), (.int (0 : Int32))])) t
        refine XS.icmpNo X23.here hx rfl (hb hby at_165) rfl (by decide) ?_
        show Steps p.tables e below (T23.setTop (mkF m 168 #[.val (.int p0), .val (.int p1), .val (.int p2), .val (.int p3), .val (.int p4), .val (.int (0 : Int32)), .val (.int (0 : Int32)), .val (.ref b7), .val (.int (0 : Int32))] [])) t
        refine XS.iconst X23.here hx rfl (hb hby at_168) ?_
        show Steps p.tables e below (T23.setTop (mkF m 169 #[.val (.int p0), .val (.int p1), .val (.int p2), .val (.int p3), .val (.int p4), .val (.int (0 : Int32)), .val (.int (0 : Int32)), .val (.ref b7), .val (.int (0 : Int32))] [(.int (1 : Int32))])) t
        refine XS.goto X23.here hx rfl (pc0 := 169) (pc' := 173) rfl (hb hby at_169) (by decide) (by decide) ?_
        exact k
      refine own_retZ X23 hx hlk Bd.returns (hb hby at_173) rfl (by decide) (by decide) ?_
      show Q0 Z p0 p1 p2 p3 p4 h0 n0 (some (.int (1 : Int32))) T23.heap _
      exact ⟨rfl, n24⟩
    · rw [hk14_5]
      refine own_st (T' := s₁) (g' := (mkF m 16 #[.val (.int p0), .val (.int p1), .val (.int p2), .val (.int p3), .val (.int p4), .val (.int (0 : Int32)), .val (.int (1 : Int32)), .unset, .unset] [])) (fun t k => ?_) ?_
      · show Steps p.tables e below (s₁.setTop (mkF m 14 #[.val (.int p0), .val (.int p1), .val (.int p2), .val (.int p3), .val (.int p4), .val (.int (0 : Int32)), .unset, .unset, .unset] [(.int (1 : Int32))])) t
        refine XS.istore X0.here hx rfl (hb hby at_14) rfl (l' := #[.val (.int p0), .val (.int p1), .val (.int p2), .val (.int p3), .val (.int p4), .val (.int (0 : Int32)), .val (.int (1 : Int32)), .unset, .unset]) rfl ?_
        exact k
      obtain ⟨T25, h25, X25, e25, E25, A25, D25, -, st25⟩ := newO X0 hx hZ hown (hw _ (List.mem_of_getElem? (i := 0) rfl)) (hw _ (List.mem_of_getElem? (i := 1) rfl)) (hw _ (List.mem_of_getElem? (i := 2) rfl)) e0 (g := (mkF m 16 #[.val (.int p0), .val (.int p1), .val (.int p2), .val (.int p3), .val (.int p4), .val (.int (0 : Int32)), .val (.int (1 : Int32)), .unset, .unset] [])) rfl (hb hby at_16) (by decide) (by decide)
      obtain ⟨b25, g25⟩ : ∃ z, z = h0.size := ⟨_, rfl⟩
      rw [← g25] at A25 D25 st25
      have g_b25 : n0 ≤ b25 := Nat.le_trans Z0 (Nat.le_of_eq g25.symm)
      have sz_b25 : h0.size ≤ b25 := Nat.le_trans K0.1 (Nat.le_of_eq g25.symm)
      have z26 := Nat.le_trans Z0 E25.1
      have k27 := K0.ext E25
      have f28 : Fld Z h25 b25 "com/example/winnowfold/winnowfold/math/AbstractMatrix" "rows" "I" (.int (0 : Int32)) := D25 (Or.inr (hw _ (List.mem_of_getElem? (i := 15) rfl))) (ty := .int) (by decide)
      have f29 : Fld Z h25 b25 "com/example/winnowfold/winnowfold/math/AbstractMatrix" "columns" "I" (.int (0 : Int32)) := D25 (Or.inr (hw _ (List.mem_of_getElem? (i := 17) rfl))) (ty := .int) (by decide)
      have f30 : Fld Z h25 b25 "com/example/winnowfold/winnowfold/math/DenseMatrix" "values" "[D" .null := D25 (Or.inr (hw _ (List.mem_of_getElem? (i := 21) rfl))) (ty := (.array .double)) (by decide)
      refine own_st (T' := T25) (g' := (mkF m 19 #[.val (.int p0), .val (.int p1), .val (.int p2), .val (.int p3), .val (.int p4), .val (.int (0 : Int32)), .val (.int (1 : Int32)), .unset, .unset] [(.ref b25)])) st25 ?_
      refine own_st (T' := T25) (g' := (mkF m 24 #[.val (.int p0), .val (.int p1), .val (.int p2), .val (.int p3), .val (.int p4), .val (.int (0 : Int32)), .val (.int (1 : Int32)), .unset, .unset] [(.int (1 : Int32)), (.int (0 : Int32)), (.ref b25), (.ref b25)])) (fun t k => ?_) ?_
      · show Steps p.tables e below (T25.setTop (mkF m 19 #[.val (.int p0), .val (.int p1), .val (.int p2), .val (.int p3), .val (.int p4), .val (.int (0 : Int32)), .val (.int (1 : Int32)), .unset, .unset] [(.ref b25)])) t
        refine XS.dup X25.here hx rfl (hb hby at_19) rfl rfl ?_
        show Steps p.tables e below (T25.setTop (mkF m 20 #[.val (.int p0), .val (.int p1), .val (.int p2), .val (.int p3), .val (.int p4), .val (.int (0 : Int32)), .val (.int (1 : Int32)), .unset, .unset] [(.ref b25), (.ref b25)])) t
        refine XS.iload X25.here hx rfl (hb hby at_20) rfl ?_
        show Steps p.tables e below (T25.setTop (mkF m 22 #[.val (.int p0), .val (.int p1), .val (.int p2), .val (.int p3), .val (.int p4), .val (.int (0 : Int32)), .val (.int (1 : Int32)), .unset, .unset] [(.int (0 : Int32)), (.ref b25), (.ref b25)])) t
        refine XS.iload X25.here hx rfl (hb hby at_22) rfl ?_
        exact k
      obtain ⟨_, _, ⟨T31, L31, k31, n31⟩, -, X31, ⟨Lc31, hQ31, l31, y31, z31⟩, st31⟩ := X25.specialBack hx (y := (⟨"com/example/winnowfold/winnowfold/math/DenseMatrix", "<init>", "(II)V"⟩ : MethodName)) rfl hown (mvT hZ (hw _ (List.mem_of_getElem? (i := 3) rfl))) (mvT hZ (hw _ (List.mem_of_getElem? (i := 4) rfl))) (mvT hZ (hw _ (List.mem_of_getElem? (i := 5) rfl))) (by decide) (backOf (W := 1) (rmI01 l Z ar hw [] b25 ((.int (0 : Int32))) ((.int (0 : Int32))) (.null) h25 n0 z26 A25 f28 f29 f30 g_b25) hZ (hw _ (List.mem_of_getElem? (i := 5) rfl)) (hw _ (List.mem_of_getElem? (i := 2) rfl)) (by decide) (by decide)) (g := (mkF m 24 #[.val (.int p0), .val (.int p1), .val (.int p2), .val (.int p3), .val (.int p4), .val (.int (0 : Int32)), .val (.int (1 : Int32)), .unset, .unset] [(.int (1 : Int32)), (.int (0 : Int32)), (.ref b25), (.ref b25)])) rfl (by rw [hml]; rfl) (Steps.refl _) (a := b25) (argsL := [(.int (0 : Int32)), (.int (1 : Int32))]) (rest := [(.ref b25)]) (lenOf pd0_0 rfl) rfl (by show 2 * 0 + _ ≤ _; exact Nat.le_of_eq rfl) (hb hby at_24) (fun _ _ => ⟨rfl, e25, (by decide : 1 + 1 ≤ _), (by decide : 3 + 0 ≤ _)⟩)
      dsimp only [Pt.U, Pt.locs, Pt.cells, Pt.slots] at X31 l31 y31 z31 st31 hQ31
      subst l31 y31 z31
      obtain ⟨x0_31, kx_x0_31, rfl, N31q, K31, sz31_x0, f32, f33, f34, f35, f36⟩ := hQ31
      have n37 := Fr.app N0 N31q
      have ne_b25_x0_31 : b25 ≠ x0_31 := Nat.ne_of_lt (Nat.lt_of_lt_of_le A25.lt sz31_x0)
      have g_x0_31 : n0 ≤ x0_31 := Nat.le_trans z26 sz31_x0
      have sz_x0_31 : h0.size ≤ x0_31 := Nat.le_trans k27.1 sz31_x0
      have f38 := A25.keep K31
      have z39 := Nat.le_trans z26 K31.1
      have k40 := k27.trans K31 (allS (Or.inr sz_b25) all0)
      refine own_tr (T' := T31) (g' := (mkF m 27 #[.val (.int p0), .val (.int p1), .val (.int p2), .val (.int p3), .val (.int p4), .val (.int (0 : Int32)), .val (.int (1 : Int32)), .unset, .unset] [(.ref b25)])) st31 ?_
      refine own_st (T' := T31) (g' := (mkF m 160 #[.val (.int p0), .val (.int p1), .val (.int p2), .val (.int p3), .val (.int p4), .val (.int (0 : Int32)), .val (.int (1 : Int32)), .val (.ref b25), .val (.int (0 : Int32))] [(.ref b25)])) (fun t k => ?_) ?_
      · show Steps p.tables e below (T31.setTop (mkF m 27 #[.val (.int p0), .val (.int p1), .val (.int p2), .val (.int p3), .val (.int p4), .val (.int (0 : Int32)), .val (.int (1 : Int32)), .unset, .unset] [(.ref b25)])) t
        refine XS.astore X31.here hx rfl (hb hby at_27) rfl rfl (l' := #[.val (.int p0), .val (.int p1), .val (.int p2), .val (.int p3), .val (.int p4), .val (.int (0 : Int32)), .val (.int (1 : Int32)), .val (.ref b25), .unset]) rfl ?_
        show Steps p.tables e below (T31.setTop (mkF m 29 #[.val (.int p0), .val (.int p1), .val (.int p2), .val (.int p3), .val (.int p4), .val (.int (0 : Int32)), .val (.int (1 : Int32)), .val (.ref b25), .unset] [])) t
        refine XS.iconst X31.here hx rfl (hb hby at_29) ?_
        show Steps p.tables e below (T31.setTop (mkF m 30 #[.val (.int p0), .val (.int p1), .val (.int p2), .val (.int p3), .val (.int p4), .val (.int (0 : Int32)), .val (.int (1 : Int32)), .val (.ref b25), .unset] [(.int (0 : Int32))])) t
        refine XS.istore X31.here hx rfl (hb hby at_30) rfl (l' := #[.val (.int p0), .val (.int p1), .val (.int p2), .val (.int p3), .val (.int p4), .val (.int (0 : Int32)), .val (.int (1 : Int32)), .val (.ref b25), .val (.int (0 : Int32))]) rfl ?_
        show Steps p.tables e below (T31.setTop (mkF m 32 #[.val (.int p0), .val (.int p1), .val (.int p2), .val (.int p3), .val (.int p4), .val (.int (0 : Int32)), .val (.int (1 : Int32)), .val (.ref b25), .val (.int (0 : Int32))] [])) t
        refine XS.iload X31.here hx rfl (hb hby at_32) rfl ?_
        show Steps p.tables e below (T31.setTop (mkF m 34 #[.val (.int p0), .val (.int p1), .val (.int p2), .val (.int p3), .val (.int p4), .val (.int (0 : Int32)), .val (.int (1 : Int32)), .val (.ref b25), .val (.int (0 : Int32))] [(.int (0 : Int32))])) t
        refine XS.ifYes X31.here hx rfl (pc0 := 34) (pc' := 62) rfl (hb hby at_34) rfl (by decide) (by decide) (by decide) ?_
        show Steps p.tables e below (T31.setTop (mkF m 62 #[.val (.int p0), .val (.int p1), .val (.int p2), .val (.int p3), .val (.int p4), .val (.int (0 : Int32)), .val (.int (1 : Int32)), .val (.ref b25), .val (.int (0 : Int32))] [])) t
        refine XS.iload X31.here hx rfl (hb hby at_62) rfl ?_
        show Steps p.tables e below (T31.setTop (mkF m 64 #[.val (.int p0), .val (.int p1), .val (.int p2), .val (.int p3), .val (.int p4), .val (.int (0 : Int32)), .val (.int (1 : Int32)), .val (.ref b25), .val (.int (0 : Int32))] [(.int (0 : Int32))])) t
        refine XS.ifYes X31.here hx rfl (pc0 := 64) (pc' := 93) rfl (hb hby at_64) rfl (by decide) (by decide) (by decide) ?_
        show Steps p.tables e below (T31.setTop (mkF m 93 #[.val (.int p0), .val (.int p1), .val (.int p2), .val (.int p3), .val (.int p4), .val (.int (0 : Int32)), .val (.int (1 : Int32)), .val (.ref b25), .val (.int (0 : Int32))] [])) t
        refine XS.iload X31.here hx rfl (hb hby at_93) rfl ?_
        show Steps p.tables e below (T31.setTop (mkF m 95 #[.val (.int p0), .val (.int p1), .val (.int p2), .val (.int p3), .val (.int p4), .val (.int (0 : Int32)), .val (.int (1 : Int32)), .val (.ref b25), .val (.int (0 : Int32))] [(.int (0 : Int32))])) t
        refine XS.iconst X31.here hx rfl (hb hby at_95) ?_
        show Steps p.tables e below (T31.setTop (mkF m 96 #[.val (.int p0), .val (.int p1), .val (.int p2), .val (.int p3), .val (.int p4), .val (.int (0 : Int32)), .val (.int (1 : Int32)), .val (.ref b25), .val (.int (0 : Int32))] [(.int (1 : Int32)), (.int (0 : Int32))])) t
        refine XS.icmpYes X31.here hx rfl (pc0 := 96) (pc' := 124) rfl (hb hby at_96) rfl (by decide) (by decide) (by decide) ?_
        show Steps p.tables e below (T31.setTop (mkF m 124 #[.val (.int p0), .val (.int p1), .val (.int p2), .val (.int p3), .val (.int p4), .val (.int (0 : Int32)), .val (.int (1 : Int32)), .val (.ref b25), .val (.int (0 : Int32))] [])) t
        refine XS.iload X31.here hx rfl (hb hby at_124) rfl ?_
        show Steps p.tables e below (T31.setTop (mkF m 126 #[.val (.int p0), .val (.int p1), .val (.int p2), .val (.int p3), .val (.int p4), .val (.int (0 : Int32)), .val (.int (1 : Int32)), .val (.ref b25), .val (.int (0 : Int32))] [(.int (0 : Int32))])) t
        refine XS.iconst X31.here hx rfl (hb hby at_126) ?_
        show Steps p.tables e below (T31.setTop (mkF m 127 #[.val (.int p0), .val (.int p1), .val (.int p2), .val (.int p3), .val (.int p4), .val (.int (0 : Int32)), .val (.int (1 : Int32)), .val (.ref b25), .val (.int (0 : Int32))] [(.int (1 : Int32)), (.int (0 : Int32))])) t
        refine XS.icmpYes X31.here hx rfl (pc0 := 127) (pc' := 158) rfl (hb hby at_127) rfl (by decide) (by decide) (by decide) ?_
        show Steps p.tables e below (T31.setTop (mkF m 158 #[.val (.int p0), .val (.int p1), .val (.int p2), .val (.int p3), .val (.int p4), .val (.int (0 : Int32)), .val (.int (1 : Int32)), .val (.ref b25), .val (.int (0 : Int32))] [])) t
        refine XS.aload X31.here hx rfl (hb hby at_158) rfl rfl ?_
        exact k
      obtain ⟨cq41, kq41, qa41, qb41, qc41⟩ := isOf hZ (rfl : T31.heap = T31.heap) f32
      obtain ⟨_, _, ⟨T41, L41, k41, n41⟩, -, X41, ⟨Lc41, hQ41, l41, y41, z41⟩, st41⟩ := X31.virtualBack hx (y := (⟨"com/example/winnowfold/winnowfold/math/DenseMatrix", "nonZeroCount", "()I"⟩ : MethodName)) (z := (⟨"com/example/winnowfold/winnowfold/math/DenseMatrix", "nonZeroCount", "()I"⟩ : MethodName)) hown (mvT hZ (hw _ (List.mem_of_getElem? (i := 22) rfl))) (mvT hZ (hw _ (List.mem_of_getElem? (i := 23) rfl))) (notFace_of_selects (args := #[]) (mvT hZ (hw _ (List.mem_of_getElem? (i := 25) rfl)))) (mvT hZ (hw _ (List.mem_of_getElem? (i := 25) rfl))) (mvT hZ (hw _ (List.mem_of_getElem? (i := 24) rfl))) (by decide) (backOf (W := 0) (rmz0 l Z ar hw [] b25 x0_31 kx_x0_31 T31.heap n0 z39 f32 f35 f36) hZ (hw _ (List.mem_of_getElem? (i := 26) rfl)) (hw _ (List.mem_of_getElem? (i := 2) rfl)) (by decide) (by decide)) qa41 qc41 (g := (mkF m 160 #[.val (.int p0), .val (.int p1), .val (.int p2), .val (.int p3), .val (.int p4), .val (.int (0 : Int32)), .val (.int (1 : Int32)), .val (.ref b25), .val (.int (0 : Int32))] [(.ref b25)])) rfl (by rw [hml]; rfl) (Steps.refl _) (argsL := []) (rest := []) (lenOf pd0_1 rfl) rfl (by show 2 * 0 + _ ≤ _; exact Nat.le_of_eq rfl) (hb hby at_160) (fun _ _ => ⟨rfl, (rfl : T31.heap = T31.heap), (by decide : 2 + 0 ≤ _), (by decide : 3 + 0 ≤ _)⟩)
      dsimp only [Pt.U, Pt.locs, Pt.cells, Pt.slots] at X41 l41 y41 z41 st41 hQ41
      subst l41 y41 z41
      obtain ⟨rfl, N41q, e41⟩ := hQ41
      have n42 := Fr.app n37 N41q
      refine own_tr (T' := T41) (g' := (mkF m 163 #[.val (.int p0), .val (.int p1), .val (.int p2), .val (.int p3), .val (.int p4), .val (.int (0 : Int32)), .val (.int (1 : Int32)), .val (.ref b25), .val (.int (0 : Int32))] [(.int (0 : Int32))])) st41 ?_
      refine own_st (T' := T41) (g' := (mkF m 173 #[.val (.int p0), .val (.int p1), .val (.int p2), .val (.int p3), .val (.int p4), .val (.int (0 : Int32)), .val (.int (1 : Int32)), .val (.ref b25), .val (.int (0 : Int32))] [(.int (1 : Int32))])) (fun t k => ?_) ?_
      · show Steps p.tables e below (T41.setTop (mkF m 163 #[.val (.int p0), .val (.int p1), .val (.int p2), .val (.int p3), .val (.int p4), .val (.int (0 : Int32)), .val (.int (1 : Int32)), .val (.ref b25), .val (.int (0 : Int32))] [(.int (0 : Int32))])) t
        refine XS.iload X41.here hx rfl (hb hby at_163) rfl ?_
        show Steps p.tables e below (T41.setTop (mkF m 165 #[.val (.int p0), .val (.int p1), .val (.int p2), .val (.int p3), .val (.int p4), .val (.int (0 : Int32)), .val (.int (1 : Int32)), .val (.ref b25), .val (.int (0 : Int32))] [(.int (0 : Int32)), (.int (0 : Int32))])) t
        refine XS.icmpNo X41.here hx rfl (hb hby at_165) rfl (by decide) ?_
        show Steps p.tables e below (T41.setTop (mkF m 168 #[.val (.int p0), .val (.int p1), .val (.int p2), .val (.int p3), .val (.int p4), .val (.int (0 : Int32)), .val (.int (1 : Int32)), .val (.ref b25), .val (.int (0 : Int32))] [])) t
        refine XS.iconst X41.here hx rfl (hb hby at_168) ?_
        show Steps p.tables e below (T41.setTop (mkF m 169 #[.val (.int p0), .val (.int p1), .val (.int p2), .val (.int p3), .val (.int p4), .val (.int (0 : Int32)), .val (.int (1 : Int32)), .val (.ref b25), .val (.int (0 : Int32))] [(.int (1 : Int32))])) t
        refine XS.goto X41.here hx rfl (pc0 := 169) (pc' := 173) rfl (hb hby at_169) (by decide) (by decide) ?_
        exact k
      refine own_retZ X41 hx hlk Bd.returns (hb hby at_173) rfl (by decide) (by decide) ?_
      show Q0 Z p0 p1 p2 p3 p4 h0 n0 (some (.int (1 : Int32))) T41.heap _
      exact ⟨rfl, n42⟩
    · rw [hk14_6]
      refine own_st (T' := s₁) (g' := (mkF m 16 #[.val (.int p0), .val (.int p1), .val (.int p2), .val (.int p3), .val (.int p4), .val (.int (0 : Int32)), .val (.int (2 : Int32)), .unset, .unset] [])) (fun t k => ?_) ?_
      · show Steps p.tables e below (s₁.setTop (mkF m 14 #[.val (.int p0), .val (.int p1), .val (.int p2), .val (.int p3), .val (.int p4), .val (.int (0 : Int32)), .unset, .unset, .unset] [(.int (2 : Int32))])) t
        refine XS.istore X0.here hx rfl (hb hby at_14) rfl (l' := #[.val (.int p0), .val (.int p1), .val (.int p2), .val (.int p3), .val (.int p4), .val (.int (0 : Int32)), .val (.int (2 : Int32)), .unset, .unset]) rfl ?_
        exact k
      obtain ⟨T43, h43, X43, e43, E43, A43, D43, -, st43⟩ := newO X0 hx hZ hown (hw _ (List.mem_of_getElem? (i := 0) rfl)) (hw _ (List.mem_of_getElem? (i := 1) rfl)) (hw _ (List.mem_of_getElem? (i := 2) rfl)) e0 (g := (mkF m 16 #[.val (.int p0), .val (.int p1), .val (.int p2), .val (.int p3), .val (.int p4), .val (.int (0 : Int32)), .val (.int (2 : Int32)), .unset, .unset] [])) rfl (hb hby at_16) (by decide) (by decide)
      obtain ⟨b43, g43⟩ : ∃ z, z = h0.size := ⟨_, rfl⟩
      rw [← g43] at A43 D43 st43
      have g_b43 : n0 ≤ b43 := Nat.le_trans Z0 (Nat.le_of_eq g43.symm)
      have sz_b43 : h0.size ≤ b43 := Nat.le_trans K0.1 (Nat.le_of_eq g43.symm)
      have z44 := Nat.le_trans Z0 E43.1
      have k45 := K0.ext E43
      have f46 : Fld Z h43 b43 "com/example/winnowfold/winnowfold/math/AbstractMatrix" "rows" "I" (.int (0 : Int32)) := D43 (Or.inr (hw _ (List.mem_of_getElem? (i := 15) rfl))) (ty := .int) (by decide)
      have f47 : Fld Z h43 b43 "com/example/winnowfold/winnowfold/math/AbstractMatrix" "columns" "I" (.int (0 : Int32)) := D43 (Or.inr (hw _ (List.mem_of_getElem? (i := 17) rfl))) (ty := .int) (by decide)
      have f48 : Fld Z h43 b43 "com/example/winnowfold/winnowfold/math/DenseMatrix" "values" "[D" .null := D43 (Or.inr (hw _ (List.mem_of_getElem? (i := 21) rfl))) (ty := (.array .double)) (by decide)
      refine own_st (T' := T43) (g' := (mkF m 19 #[.val (.int p0), .val (.int p1), .val (.int p2), .val (.int p3), .val (.int p4), .val (.int (0 : Int32)), .val (.int (2 : Int32)), .unset, .unset] [(.ref b43)])) st43 ?_
      refine own_st (T' := T43) (g' := (mkF m 24 #[.val (.int p0), .val (.int p1), .val (.int p2), .val (.int p3), .val (.int p4), .val (.int (0 : Int32)), .val (.int (2 : Int32)), .unset, .unset] [(.int (2 : Int32)), (.int (0 : Int32)), (.ref b43), (.ref b43)])) (fun t k => ?_) ?_
      · show Steps p.tables e below (T43.setTop (mkF m 19 #[.val (.int p0), .val (.int p1), .val (.int p2), .val (.int p3), .val (.int p4), .val (.int (0 : Int32)), .val (.int (2 : Int32)), .unset, .unset] [(.ref b43)])) t
        refine XS.dup X43.here hx rfl (hb hby at_19) rfl rfl ?_
        show Steps p.tables e below (T43.setTop (mkF m 20 #[.val (.int p0), .val (.int p1), .val (.int p2), .val (.int p3), .val (.int p4), .val (.int (0 : Int32)), .val (.int (2 : Int32)), .unset, .unset] [(.ref b43), (.ref b43)])) t
        refine XS.iload X43.here hx rfl (hb hby at_20) rfl ?_
        show Steps p.tables e below (T43.setTop (mkF m 22 #[.val (.int p0), .val (.int p1), .val (.int p2), .val (.int p3), .val (.int p4), .val (.int (0 : Int32)), .val (.int (2 : Int32)), .unset, .unset] [(.int (0 : Int32)), (.ref b43), (.ref b43)])) t
        refine XS.iload X43.here hx rfl (hb hby at_22) rfl ?_
        exact k
      obtain ⟨_, _, ⟨T49, L49, k49, n49⟩, -, X49, ⟨Lc49, hQ49, l49, y49, z49⟩, st49⟩ := X43.specialBack hx (y := (⟨"com/example/winnowfold/winnowfold/math/DenseMatrix", "<init>", "(II)V"⟩ : MethodName)) rfl hown (mvT hZ (hw _ (List.mem_of_getElem? (i := 3) rfl))) (mvT hZ (hw _ (List.mem_of_getElem? (i := 4) rfl))) (mvT hZ (hw _ (List.mem_of_getElem? (i := 5) rfl))) (by decide) (backOf (W := 1) (rmI02 l Z ar hw [] b43 ((.int (0 : Int32))) ((.int (0 : Int32))) (.null) h43 n0 z44 A43 f46 f47 f48 g_b43) hZ (hw _ (List.mem_of_getElem? (i := 5) rfl)) (hw _ (List.mem_of_getElem? (i := 2) rfl)) (by decide) (by decide)) (g := (mkF m 24 #[.val (.int p0), .val (.int p1), .val (.int p2), .val (.int p3), .val (.int p4), .val (.int (0 : Int32)), .val (.int (2 : Int32)), .unset, .unset] [(.int (2 : Int32)), (.int (0 : Int32)), (.ref b43), (.ref b43)])) rfl (by rw [hml]; rfl) (Steps.refl _) (a := b43) (argsL := [(.int (0 : Int32)), (.int (2 : Int32))]) (rest := [(.ref b43)]) (lenOf pd0_0 rfl) rfl (by show 2 * 0 + _ ≤ _; exact Nat.le_of_eq rfl) (hb hby at_24) (fun _ _ => ⟨rfl, e43, (by decide : 1 + 1 ≤ _), (by decide : 3 + 0 ≤ _)⟩)
      dsimp only [Pt.U, Pt.locs, Pt.cells, Pt.slots] at X49 l49 y49 z49 st49 hQ49
      subst l49 y49 z49
      obtain ⟨x0_49, kx_x0_49, rfl, N49q, K49, sz49_x0, f50, f51, f52, f53, f54⟩ := hQ49
      have n55 := Fr.app N0 N49q
      have ne_b43_x0_49 : b43 ≠ x0_49 := Nat.ne_of_lt (Nat.lt_of_lt_of_le A43.lt sz49_x0)
      have g_x0_49 : n0 ≤ x0_49 := Nat.le_trans z44 sz49_x0
      have sz_x0_49 : h0.size ≤ x0_49 := Nat.le_trans k45.1 sz49_x0
      have f56 := A43.keep K49
      have z57 := Nat.le_trans z44 K49.1
      have k58 := k45.trans K49 (allS (Or.inr sz_b43) all0)
      refine own_tr (T' := T49) (g' := (mkF m 27 #[.val (.int p0), .val (.int p1), .val (.int p2), .val (.int p3), .val (.int p4), .val (.int (0 : Int32)), .val (.int (2 : Int32)), .unset, .unset] [(.ref b43)])) st49 ?_
      refine own_st (T' := T49) (g' := (mkF m 160 #[.val (.int p0), .val (.int p1), .val (.int p2), .val (.int p3), .val (.int p4), .val (.int (0 : Int32)), .val (.int (2 : Int32)), .val (.ref b43), .val (.int (0 : Int32))] [(.ref b43)])) (fun t k => ?_) ?_
      · show Steps p.tables e below (T49.setTop (mkF m 27 #[.val (.int p0), .val (.int p1), .val (.int p2), .val (.int p3), .val (.int p4), .val (.int (0 : Int32)), .val (.int (2 : Int32)), .unset, .unset] [(.ref b43)])) t
        refine XS.astore X49.here hx rfl (hb hby at_27) rfl rfl (l' := #[.val (.int p0), .val (.int p1), .val (.int p2), .val (.int p3), .val (.int p4), .val (.int (0 : Int32)), .val (.int (2 : Int32)), .val (.ref b43), .unset]) rfl ?_
        show Steps p.tables e below (T49.setTop (mkF m 29 #[.val (.int p0), .val (.int p1), .val (.int p2), .val (.int p3), .val (.int p4), .val (.int (0 : Int32)), .val (.int (2 : Int32)), .val (.ref b43), .unset] [])) t
        refine XS.iconst X49.here hx rfl (hb hby at_29) ?_
        show Steps p.tables e below (T49.setTop (mkF m 30 #[.val (.int p0), .val (.int p1), .val (.int p2), .val (.int p3), .val (.int p4), .val (.int (0 : Int32)), .val (.int (2 : Int32)), .val (.ref b43), .unset] [(.int (0 : Int32))])) t
        refine XS.istore X49.here hx rfl (hb hby at_30) rfl (l' := #[.val (.int p0), .val (.int p1), .val (.int p2), .val (.int p3), .val (.int p4), .val (.int (0 : Int32)), .val (.int (2 : Int32)), .val (.ref b43), .val (.int (0 : Int32))]) rfl ?_
        show Steps p.tables e below (T49.setTop (mkF m 32 #[.val (.int p0), .val (.int p1), .val (.int p2), .val (.int p3), .val (.int p4), .val (.int (0 : Int32)), .val (.int (2 : Int32)), .val (.ref b43), .val (.int (0 : Int32))] [])) t
        refine XS.iload X49.here hx rfl (hb hby at_32) rfl ?_
        show Steps p.tables e below (T49.setTop (mkF m 34 #[.val (.int p0), .val (.int p1), .val (.int p2), .val (.int p3), .val (.int p4), .val (.int (0 : Int32)), .val (.int (2 : Int32)), .val (.ref b43), .val (.int (0 : Int32))] [(.int (0 : Int32))])) t
        refine XS.ifYes X49.here hx rfl (pc0 := 34) (pc' := 62) rfl (hb hby at_34) rfl (by decide) (by decide) (by decide) ?_
        show Steps p.tables e below (T49.setTop (mkF m 62 #[.val (.int p0), .val (.int p1), .val (.int p2), .val (.int p3), .val (.int p4), .val (.int (0 : Int32)), .val (.int (2 : Int32)), .val (.ref b43), .val (.int (0 : Int32))] [])) t
        refine XS.iload X49.here hx rfl (hb hby at_62) rfl ?_
        show Steps p.tables e below (T49.setTop (mkF m 64 #[.val (.int p0), .val (.int p1), .val (.int p2), .val (.int p3), .val (.int p4), .val (.int (0 : Int32)), .val (.int (2 : Int32)), .val (.ref b43), .val (.int (0 : Int32))] [(.int (0 : Int32))])) t
        refine XS.ifYes X49.here hx rfl (pc0 := 64) (pc' := 93) rfl (hb hby at_64) rfl (by decide) (by decide) (by decide) ?_
        show Steps p.tables e below (T49.setTop (mkF m 93 #[.val (.int p0), .val (.int p1), .val (.int p2), .val (.int p3), .val (.int p4), .val (.int (0 : Int32)), .val (.int (2 : Int32)), .val (.ref b43), .val (.int (0 : Int32))] [])) t
        refine XS.iload X49.here hx rfl (hb hby at_93) rfl ?_
        show Steps p.tables e below (T49.setTop (mkF m 95 #[.val (.int p0), .val (.int p1), .val (.int p2), .val (.int p3), .val (.int p4), .val (.int (0 : Int32)), .val (.int (2 : Int32)), .val (.ref b43), .val (.int (0 : Int32))] [(.int (0 : Int32))])) t
        refine XS.iconst X49.here hx rfl (hb hby at_95) ?_
        show Steps p.tables e below (T49.setTop (mkF m 96 #[.val (.int p0), .val (.int p1), .val (.int p2), .val (.int p3), .val (.int p4), .val (.int (0 : Int32)), .val (.int (2 : Int32)), .val (.ref b43), .val (.int (0 : Int32))] [(.int (1 : Int32)), (.int (0 : Int32))])) t
        refine XS.icmpYes X49.here hx rfl (pc0 := 96) (pc' := 124) rfl (hb hby at_96) rfl (by decide) (by decide) (by decide) ?_
        show Steps p.tables e below (T49.setTop (mkF m 124 #[.val (.int p0), .val (.int p1), .val (.int p2), .val (.int p3), .val (.int p4), .val (.int (0 : Int32)), .val (.int (2 : Int32)), .val (.ref b43), .val (.int (0 : Int32))] [])) t
        refine XS.iload X49.here hx rfl (hb hby at_124) rfl ?_
        show Steps p.tables e below (T49.setTop (mkF m 126 #[.val (.int p0), .val (.int p1), .val (.int p2), .val (.int p3), .val (.int p4), .val (.int (0 : Int32)), .val (.int (2 : Int32)), .val (.ref b43), .val (.int (0 : Int32))] [(.int (0 : Int32))])) t
        refine XS.iconst X49.here hx rfl (hb hby at_126) ?_
        show Steps p.tables e below (T49.setTop (mkF m 127 #[.val (.int p0), .val (.int p1), .val (.int p2), .val (.int p3), .val (.int p4), .val (.int (0 : Int32)), .val (.int (2 : Int32)), .val (.ref b43), .val (.int (0 : Int32))] [(.int (1 : Int32)), (.int (0 : Int32))])) t
        refine XS.icmpYes X49.here hx rfl (pc0 := 127) (pc' := 158) rfl (hb hby at_127) rfl (by decide) (by decide) (by decide) ?_
        show Steps p.tables e below (T49.setTop (mkF m 158 #[.val (.int p0), .val (.int p1), .val (.int p2), .val (.int p3), .val (.int p4), .val (.int (0 : Int32)), .val (.int (2 : Int32)), .val (.ref b43), .val (.int (0 : Int32))] [])) t
        refine XS.aload X49.here hx rfl (hb hby at_158) rfl rfl ?_
        exact k
      obtain ⟨cq59, kq59, qa59, qb59, qc59⟩ := isOf hZ (rfl : T49.heap = T49.heap) f50
      obtain ⟨_, _, ⟨T59, L59, k59, n59⟩, -, X59, ⟨Lc59, hQ59, l59, y59, z59⟩, st59⟩ := X49.virtualBack hx (y := (⟨"com/example/winnowfold/winnowfold/math/DenseMatrix", "nonZeroCount", "()I"⟩ : MethodName)) (z := (⟨"com/example/winnowfold/winnowfold/math/DenseMatrix", "nonZeroCount", "()I"⟩ : MethodName)) hown (mvT hZ (hw _ (List.mem_of_getElem? (i := 22) rfl))) (mvT hZ (hw _ (List.mem_of_getElem? (i := 23) rfl))) (notFace_of_selects (args := #[]) (mvT hZ (hw _ (List.mem_of_getElem? (i := 25) rfl)))) (mvT hZ (hw _ (List.mem_of_getElem? (i := 25) rfl))) (mvT hZ (hw _ (List.mem_of_getElem? (i := 24) rfl))) (by decide) (backOf (W := 0) (rmz0 l Z ar hw [] b43 x0_49 kx_x0_49 T49.heap n0 z57 f50 f53 f54) hZ (hw _ (List.mem_of_getElem? (i := 26) rfl)) (hw _ (List.mem_of_getElem? (i := 2) rfl)) (by decide) (by decide)) qa59 qc59 (g := (mkF m 160 #[.val (.int p0), .val (.int p1), .val (.int p2), .val (.int p3), .val (.int p4), .val (.int (0 : Int32)), .val (.int (2 : Int32)), .val (.ref b43), .val (.int (0 : Int32))] [(.ref b43)])) rfl (by rw [hml]; rfl) (Steps.refl _) (argsL := []) (rest := []) (lenOf pd0_1 rfl) rfl (by show 2 * 0 + _ ≤ _; exact Nat.le_of_eq rfl) (hb hby at_160) (fun _ _ => ⟨rfl, (rfl : T49.heap = T49.heap), (by decide : 2 + 0 ≤ _), (by decide : 3 + 0 ≤ _)⟩)
      dsimp only [Pt.U, Pt.locs, Pt.cells, Pt.slots] at X59 l59 y59 z59 st59 hQ59
      subst l59 y59 z59
      obtain ⟨rfl, N59q, e59⟩ := hQ59
      have n60 := Fr.app n55 N59q
      refine own_tr (T' := T59) (g' := (mkF m 163 #[.val (.int p0), .val (.int p1), .val (.int p2), .val (.int p3), .val (.int p4), .val (.int (0 : Int32)), .val (.int (2 : Int32)), .val (.ref b43), .val (.int (0 : Int32))] [(.int (0 : Int32))])) st59 ?_
      refine own_st (T' := T59) (g' := (mkF m 173 #[.val (.int p0), .val (.int p1), .val (.int p2), .val (.int p3), .val (.int p4), .val (.int (0 : Int32)), .val (.int (2 : Int32)), .val (.ref b43), .val (.int (0 : Int32))] [(.int (1 : Int32))])) (fun t k => ?_) ?_
      · show Steps p.tables e below (T59.setTop (mkF m 163 #[.val (.int p0), .val (.int p1), .val (.int p2), .val (.int p3), .val (.int p4), .val (.int (0 : Int32)), .val (.int (2 : Int32)), .val (.ref b43), .val (.int (0 : Int32))] [(.int (0 : Int32))])) t
        refine XS.iload X59.here hx rfl (hb hby at_163) rfl ?_
        show Steps p.tables e below (T59.setTop (mkF m 165 #[.val (.int p0), .val (.int p1), .val (.int p2), .val (.int p3), .val (.int p4), .val (.int (0 : Int32)), .val (.int (2 : Int32)), .val (.ref b43), .val (.int (0 : Int32))] [(.int (0 : Int32)), (.int (0 : Int32))])) t
        refine XS.icmpNo X59.here hx rfl (hb hby at_165) rfl (by decide) ?_
        show Steps p.tables e below (T59.setTop (mkF m 168 #[.val (.int p0), .val (.int p1), .val (.int p2), .val (.int p3), .val (.int p4), .val (.int (0 : Int32)), .val (.int (2 : Int32)), .val (.ref b43), .val (.int (0 : Int32))] [])) t
        refine XS.iconst X59.here hx rfl (hb hby at_168) ?_
        show Steps p.tables e below (T59.setTop (mkF m 169 #[.val (.int p0), .val (.int p1), .val (.int p2), .val (.int p3), .val (.int p4), .val (.int (0 : Int32)), .val (.int (2 : Int32)), .val (.ref b43), .val (.int (0 : Int32))] [(.int (1 : Int32))])) t
        refine XS.goto X59.here hx rfl (pc0 := 169) (pc' := 173) rfl (hb hby at_169) (by decide) (by decide) ?_
        exact k
      refine own_retZ X59 hx hlk Bd.returns (hb hby at_173) rfl (by decide) (by decide) ?_
      show Q0 Z p0 p1 p2 p3 p4 h0 n0 (some (.int (1 : Int32))) T59.heap _
      exact ⟨rfl, n60⟩
  · rw [hk5_2]
    refine own_st (T' := s₁) (g' := (mkF m 14 #[.val (.int p0), .val (.int p1), .val (.int p2), .val (.int p3), .val (.int p4), .val (.int (1 : Int32)), .unset, .unset, .unset] [(.int ((((p0.toUInt32 >>> ((2 : Int32) &&& 31).toUInt32).toInt32) &&& (3 : Int32)) % (3 : Int32)))])) (fun t k => ?_) ?_
    · show Steps p.tables e below (s₁.setTop (mkF m 5 #[.val (.int p0), .val (.int p1), .val (.int p2), .val (.int p3), .val (.int p4), .unset, .unset, .unset, .unset] [(.int (1 : Int32))])) t
      refine XS.istore X0.here hx rfl (hb hby at_5) rfl (l' := #[.val (.int p0), .val (.int p1), .val (.int p2), .val (.int p3), .val (.int p4), .val (.int (1 : Int32)), .unset, .unset, .unset]) rfl ?_
      show Steps p.tables e below (s₁.setTop (mkF m 7 #[.val (.int p0), .val (.int p1), .val (.int p2), .val (.int p3), .val (.int p4), .val (.int (1 : Int32)), .unset, .unset, .unset] [])) t
      refine XS.iloadN X0.here hx rfl (hb hby at_7) rfl ?_
      show Steps p.tables e below (s₁.setTop (mkF m 8 #[.val (.int p0), .val (.int p1), .val (.int p2), .val (.int p3), .val (.int p4), .val (.int (1 : Int32)), .unset, .unset, .unset] [(.int p0)])) t
      refine XS.iconst X0.here hx rfl (hb hby at_8) ?_
      show Steps p.tables e below (s₁.setTop (mkF m 9 #[.val (.int p0), .val (.int p1), .val (.int p2), .val (.int p3), .val (.int p4), .val (.int (1 : Int32)), .unset, .unset, .unset] [(.int (2 : Int32)), (.int p0)])) t
      refine XS.iushr X0.here hx rfl (hb hby at_9) rfl ?_
      show Steps p.tables e below (s₁.setTop (mkF m 10 #[.val (.int p0), .val (.int p1), .val (.int p2), .val (.int p3), .val (.int p4), .val (.int (1 : Int32)), .unset, .unset, .unset] [(.int ((p0.toUInt32 >>> ((2 : Int32) &&& 31).toUInt32).toInt32))])) t
      refine XS.iconst X0.here hx rfl (hb hby at_10) ?_
      show Steps p.tables e below (s₁.setTop (mkF m 11 #[.val (.int p0), .val (.int p1), .val (.int p2), .val (.int p3), .val (.int p4), .val (.int (1 : Int32)), .unset, .unset, .unset] [(.int (3 : Int32)), (.int ((p0.toUInt32 >>> ((2 : Int32) &&& 31).toUInt32).toInt32))])) t
      refine XS.iand X0.here hx rfl (hb hby at_11) rfl ?_
      show Steps p.tables e below (s₁.setTop (mkF m 12 #[.val (.int p0), .val (.int p1), .val (.int p2), .val (.int p3), .val (.int p4), .val (.int (1 : Int32)), .unset, .unset, .unset] [(.int (((p0.toUInt32 >>> ((2 : Int32) &&& 31).toUInt32).toInt32) &&& (3 : Int32)))])) t
      refine XS.iconst X0.here hx rfl (hb hby at_12) ?_
      show Steps p.tables e below (s₁.setTop (mkF m 13 #[.val (.int p0), .val (.int p1), .val (.int p2), .val (.int p3), .val (.int p4), .val (.int (1 : Int32)), .unset, .unset, .unset] [(.int (3 : Int32)), (.int (((p0.toUInt32 >>> ((2 : Int32) &&& 31).toUInt32).toInt32) &&& (3 : Int32)))])) t
      refine iremM X0 hx rfl (hb hby at_13) rfl (by decide) ?_
      exact k
    rcases own_m3 _ with hk14_61 | hk14_62 | hk14_63
    · rw [hk14_61]
      refine own_st (T' := s₁) (g' := (mkF m 16 #[.val (.int p0), .val (.int p1), .val (.int p2), .val (.int p3), .val (.int p4), .val (.int (1 : Int32)), .val (.int (0 : Int32)), .unset, .unset] [])) (fun t k => ?_) ?_
      · show Steps p.tables e below (s₁.setTop (mkF m 14 #[.val (.int p0), .val (.int p1), .val (.int p2), .val (.int p3), .val (.int p4), .val (.int (1 : Int32)), .unset, .unset, .unset] [(.int (0 : Int32))])) t
        refine XS.istore X0.here hx rfl (hb hby at_14) rfl (l' := #[.val (.int p0), .val (.int p1), .val (.int p2), .val (.int p3), .val (.int p4), .val (.int (1 : Int32)), .val (.int (0 : Int32)), .unset, .unset]) rfl ?_
        exact k
      obtain ⟨T64, h64, X64, e64, E64, A64, D64, -, st64⟩ := newO X0 hx hZ hown (hw _ (List.mem_of_getElem? (i := 0) rfl)) (hw _ (List.mem_of_getElem? (i := 1) rfl)) (hw _ (List.mem_of_getElem? (i := 2) rfl)) e0 (g := (mkF m 16 #[.val (.int p0), .val (.int p1), .val (.int p2), .val (.int p3), .val (.int p4), .val (.int (1 : Int32)), .val (.int (0 : Int32)), .unset, .unset] [])) rfl (hb hby at_16) (by decide) (by decide)
      obtain ⟨b64, g64⟩ : ∃ z, z = h0.size := ⟨_, rfl⟩
      rw [← g64] at A64 D64 st64
      have g_b64 : n0 ≤ b64 := Nat.le_trans Z0 (Nat.le_of_eq g64.symm)
      have sz_b64 : h0.size ≤ b64 := Nat.le_trans K0.1 (Nat.le_of_eq g64.symm)
      have z65 := Nat.le_trans Z0 E64.1
      have k66 := K0.ext E64
      have f67 : Fld Z h64 b64 "com/example/winnowfold/winnowfold/math/AbstractMatrix" "rows" "I" (.int (0 : Int32)) := D64 (Or.inr (hw _ (List.mem_of_getElem? (i := 15) rfl))) (ty := .int) (by decide)
      have f68 : Fld Z h64 b64 "com/example/winnowfold/winnowfold/math/AbstractMatrix" "columns" "I" (.int (0 : Int32)) := D64 (Or.inr (hw _ (List.mem_of_getElem? (i := 17) rfl))) (ty := .int) (by decide)
      have f69 : Fld Z h64 b64 "com/example/winnowfold/winnowfold/math/DenseMatrix" "values" "[D" .null := D64 (Or.inr (hw _ (List.mem_of_getElem? (i := 21) rfl))) (ty := (.array .double)) (by decide)
      refine own_st (T' := T64) (g' := (mkF m 19 #[.val (.int p0), .val (.int p1), .val (.int p2), .val (.int p3), .val (.int p4), .val (.int (1 : Int32)), .val (.int (0 : Int32)), .unset, .unset] [(.ref b64)])) st64 ?_
      refine own_st (T' := T64) (g' := (mkF m 24 #[.val (.int p0), .val (.int p1), .val (.int p2), .val (.int p3), .val (.int p4), .val (.int (1 : Int32)), .val (.int (0 : Int32)), .unset, .unset] [(.int (0 : Int32)), (.int (1 : Int32)), (.ref b64), (.ref b64)])) (fun t k => ?_) ?_
      · show Steps p.tables e below (T64.setTop (mkF m 19 #[.val (.int p0), .val (.int p1), .val (.int p2), .val (.int p3), .val (.int p4), .val (.int (1 : Int32)), .val (.int (0 : Int32)), .unset, .unset] [(.ref b64)])) t
        refine XS.dup X64.here hx rfl (hb hby at_19) rfl rfl ?_
        show Steps p.tables e below (T64.setTop (mkF m 20 #[.val (.int p0), .val (.int p1), .val (.int p2), .val (.int p3), .val (.int p4), .val (.int (1 : Int32)), .val (.int (0 : Int32)), .unset, .unset] [(.ref b64), (.ref b64)])) t
        refine XS.iload X64.here hx rfl (hb hby at_20) rfl ?_
        show Steps p.tables e below (T64.setTop (mkF m 22 #[.val (.int p0), .val (.int p1), .val (.int p2), .val (.int p3), .val (.int p4), .val (.int (1 : Int32)), .val (.int (0 : Int32)), .unset, .unset] [(.int (1 : Int32)), (.ref b64), (.ref b64)])) t
        refine XS.iload X64.here hx rfl (hb hby at_22) rfl ?_
        exact k
      obtain ⟨_, _, ⟨T70, L70, k70, n70⟩, -, X70, ⟨Lc70, hQ70, l70, y70, z70⟩, st70⟩ := X64.specialBack hx (y := (⟨"com/example/winnowfold/winnowfold/math/DenseMatrix", "<init>", "(II)V"⟩ : MethodName)) rfl hown (mvT hZ (hw _ (List.mem_of_getElem? (i := 3) rfl))) (mvT hZ (hw _ (List.mem_of_getElem? (i := 4) rfl))) (mvT hZ (hw _ (List.mem_of_getElem? (i := 5) rfl))) (by decide) (backOf (W := 1) (rmI10 l Z ar hw [] b64 ((.int (0 : Int32))) ((.int (0 : Int32))) (.null) h64 n0 z65 A64 f67 f68 f69 g_b64) hZ (hw _ (List.mem_of_getElem? (i := 5) rfl)) (hw _ (List.mem_of_getElem? (i := 2) rfl)) (by decide) (by decide)) (g := (mkF m 24 #[.val (.int p0), .val (.int p1), .val (.int p2), .val (.int p3), .val (.int p4), .val (.int (1 : Int32)), .val (.int (0 : Int32)), .unset, .unset] [(.int (0 : Int32)), (.int (1 : Int32)), (.ref b64), (.ref b64)])) rfl (by rw [hml]; rfl) (Steps.refl _) (a := b64) (argsL := [(.int (1 : Int32)), (.int (0 : Int32))]) (rest := [(.ref b64)]) (lenOf pd0_0 rfl) rfl (by show 2 * 0 + _ ≤ _; exact Nat.le_of_eq rfl) (hb hby at_24) (fun _ _ => ⟨rfl, e64, (by decide : 1 + 1 ≤ _), (by decide : 3 + 0 ≤ _)⟩)
      dsimp only [Pt.U, Pt.locs, Pt.cells, Pt.slots] at X70 l70 y70 z70 st70 hQ70
      subst l70 y70 z70
      obtain ⟨x0_70, kx_x0_70, rfl, N70q, K70, sz70_x0, f71, f72, f73, f74, f75⟩ := hQ70
      have n76 := Fr.app N0 N70q
      have ne_b64_x0_70 : b64 ≠ x0_70 := Nat.ne_of_lt (Nat.lt_of_lt_of_le A64.lt sz70_x0)
      have g_x0_70 : n0 ≤ x0_70 := Nat.le_trans z65 sz70_x0
      have sz_x0_70 : h0.size ≤ x0_70 := Nat.le_trans k66.1 sz70_x0
      have f77 := A64.keep K70
      have z78 := Nat.le_trans z65 K70.1
      have k79 := k66.trans K70 (allS (Or.inr sz_b64) all0)
      refine own_tr (T' := T70) (g' := (mkF m 27 #[.val (.int p0), .val (.int p1), .val (.int p2), .val (.int p3), .val (.int p4), .val (.int (1 : Int32)), .val (.int (0 : Int32)), .unset, .unset] [(.ref b64)])) st70 ?_
      refine own_st (T' := T70) (g' := (mkF m 160 #[.val (.int p0), .val (.int p1), .val (.int p2), .val (.int p3), .val (.int p4), .val (.int (1 : Int32)), .val (.int (0 : Int32)), .val (.ref b64), .val (.int (0 : Int32))] [(.ref b64)])) (fun t k => ?_) ?_
      · show Steps p.tables e below (T70.setTop (mkF m 27 #[.val (.int p0), .val (.int p1), .val (.int p2), .val (.int p3), .val (.int p4), .val (.int (1 : Int32)), .val (.int (0 : Int32)), .unset, .unset] [(.ref b64)])) t
        refine XS.astore X70.here hx rfl (hb hby at_27) rfl rfl (l' := #[.val (.int p0), .val (.int p1), .val (.int p2), .val (.int p3), .val (.int p4), .val (.int (1 : Int32)), .val (.int (0 : Int32)), .val (.ref b64), .unset]) rfl ?_
        show Steps p.tables e below (T70.setTop (mkF m 29 #[.val (.int p0), .val (.int p1), .val (.int p2), .val (.int p3), .val (.int p4), .val (.int (1 : Int32)), .val (.int (0 : Int32)), .val (.ref b64), .unset] [])) t
        refine XS.iconst X70.here hx rfl (hb hby at_29) ?_
        show Steps p.tables e below (T70.setTop (mkF m 30 #[.val (.int p0), .val (.int p1), .val (.int p2), .val (.int p3), .val (.int p4), .val (.int (1 : Int32)), .val (.int (0 : Int32)), .val (.ref b64), .unset] [(.int (0 : Int32))])) t
        refine XS.istore X70.here hx rfl (hb hby at_30) rfl (l' := #[.val (.int p0), .val (.int p1), .val (.int p2), .val (.int p3), .val (.int p4), .val (.int (1 : Int32)), .val (.int (0 : Int32)), .val (.ref b64), .val (.int (0 : Int32))]) rfl ?_
        show Steps p.tables e below (T70.setTop (mkF m 32 #[.val (.int p0), .val (.int p1), .val (.int p2), .val (.int p3), .val (.int p4), .val (.int (1 : Int32)), .val (.int (0 : Int32)), .val (.ref b64), .val (.int (0 : Int32))] [])) t
        refine XS.iload X70.here hx rfl (hb hby at_32) rfl ?_
        show Steps p.tables e below (T70.setTop (mkF m 34 #[.val (.int p0), .val (.int p1), .val (.int p2), .val (.int p3), .val (.int p4), .val (.int (1 : Int32)), .val (.int (0 : Int32)), .val (.ref b64), .val (.int (0 : Int32))] [(.int (1 : Int32))])) t
        refine XS.ifNo X70.here hx rfl (hb hby at_34) rfl (by decide) ?_
        show Steps p.tables e below (T70.setTop (mkF m 37 #[.val (.int p0), .val (.int p1), .val (.int p2), .val (.int p3), .val (.int p4), .val (.int (1 : Int32)), .val (.int (0 : Int32)), .val (.ref b64), .val (.int (0 : Int32))] [])) t
        refine XS.iload X70.here hx rfl (hb hby at_37) rfl ?_
        show Steps p.tables e below (T70.setTop (mkF m 39 #[.val (.int p0), .val (.int p1), .val (.int p2), .val (.int p3), .val (.int p4), .val (.int (1 : Int32)), .val (.int (0 : Int32)), .val (.ref b64), .val (.int (0 : Int32))] [(.int (0 : Int32))])) t
        refine XS.ifYes X70.here hx rfl (pc0 := 39) (pc' := 62) rfl (hb hby at_39) rfl (by decide) (by decide) (by decide) ?_
        show Steps p.tables e below (T70.setTop (mkF m 62 #[.val (.int p0), .val (.int p1), .val (.int p2), .val (.int p3), .val (.int p4), .val (.int (1 : Int32)), .val (.int (0 : Int32)), .val (.ref b64), .val (.int (0 : Int32))] [])) t
        refine XS.iload X70.here hx rfl (hb hby at_62) rfl ?_
        show Steps p.tables e below (T70.setTop (mkF m 64 #[.val (.int p0), .val (.int p1), .val (.int p2), .val (.int p3), .val (.int p4), .val (.int (1 : Int32)), .val (.int (0 : Int32)), .val (.ref b64), .val (.int (0 : Int32))] [(.int (1 : Int32))])) t
        refine XS.ifNo X70.here hx rfl (hb hby at_64) rfl (by decide) ?_
        show Steps p.tables e below (T70.setTop (mkF m 67 #[.val (.int p0), .val (.int p1), .val (.int p2), .val (.int p3), .val (.int p4), .val (.int (1 : Int32)), .val (.int (0 : Int32)), .val (.ref b64), .val (.int (0 : Int32))] [])) t
        refine XS.iload X70.here hx rfl (hb hby at_67) rfl ?_
        show Steps p.tables e below (T70.setTop (mkF m 69 #[.val (.int p0), .val (.int p1), .val (.int p2), .val (.int p3), .val (.int p4), .val (.int (1 : Int32)), .val (.int (0 : Int32)), .val (.ref b64), .val (.int (0 : Int32))] [(.int (0 : Int32))])) t
        refine XS.iconst X70.here hx rfl (hb hby at_69) ?_
        show Steps p.tables e below (T70.setTop (mkF m 70 #[.val (.int p0), .val (.int p1), .val (.int p2), .val (.int p3), .val (.int p4), .val (.int (1 : Int32)), .val (.int (0 : Int32)), .val (.ref b64), .val (.int (0 : Int32))] [(.int (1 : Int32)), (.int (0 : Int32))])) t
        refine XS.icmpYes X70.here hx rfl (pc0 := 70) (pc' := 93) rfl (hb hby at_70) rfl (by decide) (by decide) (by decide) ?_
        show Steps p.tables e below (T70.setTop (mkF m 93 #[.val (.int p0), .val (.int p1), .val (.int p2), .val (.int p3), .val (.int p4), .val (.int (1 : Int32)), .val (.int (0 : Int32)), .val (.ref b64), .val (.int (0 : Int32))] [])) t
        refine XS.iload X70.here hx rfl (hb hby at_93) rfl ?_
        show Steps p.tables e below (T70.setTop (mkF m 95 #[.val (.int p0), .val (.int p1), .val (.int p2), .val (.int p3), .val (.int p4), .val (.int (1 : Int32)), .val (.int (0 : Int32)), .val (.ref b64), .val (.int (0 : Int32))] [(.int (1 : Int32))])) t
        refine XS.iconst X70.here hx rfl (hb hby at_95) ?_
        show Steps p.tables e below (T70.setTop (mkF m 96 #[.val (.int p0), .val (.int p1), .val (.int p2), .val (.int p3), .val (.int p4), .val (.int (1 : Int32)), .val (.int (0 : Int32)), .val (.ref b64), .val (.int (0 : Int32))] [(.int (1 : Int32)), (.int (1 : Int32))])) t
        refine XS.icmpYes X70.here hx rfl (pc0 := 96) (pc' := 124) rfl (hb hby at_96) rfl (by decide) (by decide) (by decide) ?_
        show Steps p.tables e below (T70.setTop (mkF m 124 #[.val (.int p0), .val (.int p1), .val (.int p2), .val (.int p3), .val (.int p4), .val (.int (1 : Int32)), .val (.int (0 : Int32)), .val (.ref b64), .val (.int (0 : Int32))] [])) t
        refine XS.iload X70.here hx rfl (hb hby at_124) rfl ?_
        show Steps p.tables e below (T70.setTop (mkF m 126 #[.val (.int p0), .val (.int p1), .val (.int p2), .val (.int p3), .val (.int p4), .val (.int (1 : Int32)), .val (.int (0 : Int32)), .val (.ref b64), .val (.int (0 : Int32))] [(.int (1 : Int32))])) t
        refine XS.iconst X70.here hx rfl (hb hby at_126) ?_
        show Steps p.tables e below (T70.setTop (mkF m 127 #[.val (.int p0), .val (.int p1), .val (.int p2), .val (.int p3), .val (.int p4), .val (.int (1 : Int32)), .val (.int (0 : Int32)), .val (.ref b64), .val (.int (0 : Int32))] [(.int (1 : Int32)), (.int (1 : Int32))])) t
        refine XS.icmpYes X70.here hx rfl (pc0 := 127) (pc' := 158) rfl (hb hby at_127) rfl (by decide) (by decide) (by decide) ?_
        show Steps p.tables e below (T70.setTop (mkF m 158 #[.val (.int p0), .val (.int p1), .val (.int p2), .val (.int p3), .val (.int p4), .val (.int (1 : Int32)), .val (.int (0 : Int32)), .val (.ref b64), .val (.int (0 : Int32))] [])) t
        refine XS.aload X70.here hx rfl (hb hby at_158) rfl rfl ?_
        exact k
      obtain ⟨cq80, kq80, qa80, qb80, qc80⟩ := isOf hZ (rfl : T70.heap = T70.heap) f71
      obtain ⟨_, _, ⟨T80, L80, k80, n80⟩, -, X80, ⟨Lc80, hQ80, l80, y80, z80⟩, st80⟩ := X70.virtualBack hx (y := (⟨"com/example/winnowfold/winnowfold/math/DenseMatrix", "nonZeroCount", "()I"⟩ : MethodName)) (z := (⟨"com/example/winnowfold/winnowfold/math/DenseMatrix", "nonZeroCount", "()I"⟩ : MethodName)) hown (mvT hZ (hw _ (List.mem_of_getElem? (i := 22) rfl))) (mvT hZ (hw _ (List.mem_of_getElem? (i := 23) rfl))) (notFace_of_selects (args := #[]) (mvT hZ (hw _ (List.mem_of_getElem? (i := 25) rfl)))) (mvT hZ (hw _ (List.mem_of_getElem? (i := 25) rfl))) (mvT hZ (hw _ (List.mem_of_getElem? (i := 24) rfl))) (by decide) (backOf (W := 0) (rmz0 l Z ar hw [] b64 x0_70 kx_x0_70 T70.heap n0 z78 f71 f74 f75) hZ (hw _ (List.mem_of_getElem? (i := 26) rfl)) (hw _ (List.mem_of_getElem? (i := 2) rfl)) (by decide) (by decide)) qa80 qc80 (g := (mkF m 160 #[.val (.int p0), .val (.int p1), .val (.int p2), .val (.int p3), .val (.int p4), .val (.int (1 : Int32)), .val (.int (0 : Int32)), .val (.ref b64), .val (.int (0 : Int32))] [(.ref b64)])) rfl (by rw [hml]; rfl) (Steps.refl _) (argsL := []) (rest := []) (lenOf pd0_1 rfl) rfl (by show 2 * 0 + _ ≤ _; exact Nat.le_of_eq rfl) (hb hby at_160) (fun _ _ => ⟨rfl, (rfl : T70.heap = T70.heap), (by decide : 2 + 0 ≤ _), (by decide : 3 + 0 ≤ _)⟩)
      dsimp only [Pt.U, Pt.locs, Pt.cells, Pt.slots] at X80 l80 y80 z80 st80 hQ80
      subst l80 y80 z80
      obtain ⟨rfl, N80q, e80⟩ := hQ80
      have n81 := Fr.app n76 N80q
      refine own_tr (T' := T80) (g' := (mkF m 163 #[.val (.int p0), .val (.int p1), .val (.int p2), .val (.int p3), .val (.int p4), .val (.int (1 : Int32)), .val (.int (0 : Int32)), .val (.ref b64), .val (.int (0 : Int32))] [(.int (0 : Int32))])) st80 ?_
      refine own_st (T' := T80) (g' := (mkF m 173 #[.val (.int p0), .val (.int p1), .val (.int p2), .val (.int p3), .val (.int p4), .val (.int (1 : Int32)), .val (.int (0 : Int32)), .val (.ref b64), .val (.int (0 : Int32))] [(.int (1 : Int32))])) (fun t k => ?_) ?_
      · show Steps p.tables e below (T80.setTop (mkF m 163 #[.val (.int p0), .val (.int p1), .val (.int p2), .val (.int p3), .val (.int p4), .val (.int (1 : Int32)), .val (.int (0 : Int32)), .val (.ref b64), .val (.int (0 : Int32))] [(.int (0 : Int32))])) t
        refine XS.iload X80.here hx rfl (hb hby at_163) rfl ?_
        show Steps p.tables e below (T80.setTop (mkF m 165 #[.val (.int p0), .val (.int p1), .val (.int p2), .val (.int p3), .val (.int p4), .val (.int (1 : Int32)), .val (.int (0 : Int32)), .val (.ref b64), .val (.int (0 : Int32))] [(.int (0 : Int32)), (.int (0 : Int32))])) t
        refine XS.icmpNo X80.here hx rfl (hb hby at_165) rfl (by decide) ?_
        show Steps p.tables e below (T80.setTop (mkF m 168 #[.val (.int p0), .val (.int p1), .val (.int p2), .val (.int p3), .val (.int p4), .val (.int (1 : Int32)), .val (.int (0 : Int32)), .val (.ref b64), .val (.int (0 : Int32))] [])) t
        refine XS.iconst X80.here hx rfl (hb hby at_168) ?_
        show Steps p.tables e below (T80.setTop (mkF m 169 #[.val (.int p0), .val (.int p1), .val (.int p2), .val (.int p3), .val (.int p4), .val (.int (1 : Int32)), .val (.int (0 : Int32)), .val (.ref b64), .val (.int (0 : Int32))] [(.int (1 : Int32))])) t
        refine XS.goto X80.here hx rfl (pc0 := 169) (pc' := 173) rfl (hb hby at_169) (by decide) (by decide) ?_
        exact k
      refine own_retZ X80 hx hlk Bd.returns (hb hby at_173) rfl (by decide) (by decide) ?_
      show Q0 Z p0 p1 p2 p3 p4 h0 n0 (some (.int (1 : Int32))) T80.heap _
      exact ⟨rfl, n81⟩
    · rw [hk14_62]
      refine own_st (T' := s₁) (g' := (mkF m 16 #[.val (.int p0), .val (.int p1), .val (.int p2), .val (.int p3), .val (.int p4), .val (.int (1 : Int32)), .val (.int (1 : Int32)), .unset, .unset] [])) (fun t k => ?_) ?_
      · show Steps p.tables e below (s₁.setTop (mkF m 14 #[.val (.int p0), .val (.int p1), .val (.int p2), .val (.int p3), .val (.int p4), .val (.int (1 : Int32)), .unset, .unset, .unset] [(.int (1 : Int32))])) t
        refine XS.istore X0.here hx rfl (hb hby at_14) rfl (l' := #[.val (.int p0), .val (.int p1), .val (.int p2), .val (.int p3), .val (.int p4), .val (.int (1 : Int32)), .val (.int (1 : Int32)), .unset, .unset]) rfl ?_
        exact k
      obtain ⟨T82, h82, X82, e82, E82, A82, D82, -, st82⟩ := newO X0 hx hZ hown (hw _ (List.mem_of_getElem? (i := 0) rfl)) (hw _ (List.mem_of_getElem? (i := 1) rfl)) (hw _ (List.mem_of_getElem? (i := 2) rfl)) e0 (g := (mkF m 16 #[.val (.int p0), .val (.int p1), .val (.int p2), .val (.int p3), .val (.int p4), .val (.int (1 : Int32)), .val (.int (1 : Int32)), .unset, .unset] [])) rfl (hb hby at_16) (by decide) (by decide)
      obtain ⟨b82, g82⟩ : ∃ z, z = h0.size := ⟨_, rfl⟩
      rw [← g82] at A82 D82 st82
      have g_b82 : n0 ≤ b82 := Nat.le_trans Z0 (Nat.le_of_eq g82.symm)
      have sz_b82 : h0.size ≤ b82 := Nat.le_trans K0.1 (Nat.le_of_eq g82.symm)
      have z83 := Nat.le_trans Z0 E82.1
      have k84 := K0.ext E82
      have f85 : Fld Z h82 b82 "com/example/winnowfold/winnowfold/math/AbstractMatrix" "rows" "I" (.int (0 : Int32)) := D82 (Or.inr (hw _ (List.mem_of_getElem? (i := 15) rfl))) (ty := .int) (by decide)
      have f86 : Fld Z h82 b82 "com/example/winnowfold/winnowfold/math/AbstractMatrix" "columns" "I" (.int (0 : Int32)) := D82 (Or.inr (hw _ (List.mem_of_getElem? (i := 17) rfl))) (ty := .int) (by decide)
      have f87 : Fld Z h82 b82 "com/example/winnowfold/winnowfold/math/DenseMatrix" "values" "[D" .null := D82 (Or.inr (hw _ (List.mem_of_getElem? (i := 21) rfl))) (ty := (.array .double)) (by decide)
      refine own_st (T' := T82) (g' := (mkF m 19 #[.val (.int p0), .val (.int p1), .val (.int p2), .val (.int p3), .val (.int p4), .val (.int (1 : Int32)), .val (.int (1 : Int32)), .unset, .unset] [(.ref b82)])) st82 ?_
      refine own_st (T' := T82) (g' := (mkF m 24 #[.val (.int p0), .val (.int p1), .val (.int p2), .val (.int p3), .val (.int p4), .val (.int (1 : Int32)), .val (.int (1 : Int32)), .unset, .unset] [(.int (1 : Int32)), (.int (1 : Int32)), (.ref b82), (.ref b82)])) (fun t k => ?_) ?_
      · show Steps p.tables e below (T82.setTop (mkF m 19 #[.val (.int p0), .val (.int p1), .val (.int p2), .val (.int p3), .val (.int p4), .val (.int (1 : Int32)), .val (.int (1 : Int32)), .unset, .unset] [(.ref b82)])) t
        refine XS.dup X82.here hx rfl (hb hby at_19) rfl rfl ?_
        show Steps p.tables e below (T82.setTop (mkF m 20 #[.val (.int p0), .val (.int p1), .val (.int p2), .val (.int p3), .val (.int p4), .val (.int (1 : Int32)), .val (.int (1 : Int32)), .unset, .unset] [(.ref b82), (.ref b82)])) t
        refine XS.iload X82.here hx rfl (hb hby at_20) rfl ?_
        show Steps p.tables e below (T82.setTop (mkF m 22 #[.val (.int p0), .val (.int p1), .val (.int p2), .val (.int p3), .val (.int p4), .val (.int (1 : Int32)), .val (.int (1 : Int32)), .unset, .unset] [(.int (1 : Int32)), (.ref b82), (.ref b82)])) t
        refine XS.iload X82.here hx rfl (hb hby at_22) rfl ?_
        exact k
      obtain ⟨_, _, ⟨T88, L88, k88, n88⟩, -, X88, ⟨Lc88, hQ88, l88, y88, z88⟩, st88⟩ := X82.specialBack hx (y := (⟨"com/example/winnowfold/winnowfold/math/DenseMatrix", "<init>", "(II)V"⟩ : MethodName)) rfl hown (mvT hZ (hw _ (List.mem_of_getElem? (i := 3) rfl))) (mvT hZ (hw _ (List.mem_of_getElem? (i := 4) rfl))) (mvT hZ (hw _ (List.mem_of_getElem? (i := 5) rfl))) (by decide) (backOf (W := 1) (rmI11 l Z ar hw [] b82 ((.int (0 : Int32))) ((.int (0 : Int32))) (.null) h82 n0 z83 A82 f85 f86 f87 g_b82) hZ (hw _ (List.mem_of_getElem? (i := 5) rfl)) (hw _ (List.mem_of_getElem? (i := 2) rfl)) (by decide) (by decide)) (g := (mkF m 24 #[.val (.int p0), .val (.int p1), .val (.int p2), .val (.int p3), .val (.int p4), .val (.int (1 : Int32)), .val (.int (1 : Int32)), .unset, .unset] [(.int (1 : Int32)), (.int (1 : Int32)), (.ref b82), (.ref b82)])) rfl (by rw [hml]; rfl) (Steps.refl _) (a := b82) (argsL := [(.int (1 : Int32)), (.int (1 : Int32))]) (rest := [(.ref b82)]) (lenOf pd0_0 rfl) rfl (by show 2 * 0 + _ ≤ _; exact Nat.le_of_eq rfl) (hb hby at_24) (fun _ _ => ⟨rfl, e82, (by decide : 1 + 1 ≤ _), (by decide : 3 + 1 ≤ _)⟩)
      dsimp only [Pt.U, Pt.locs, Pt.cells, Pt.slots] at X88 l88 y88 z88 st88 hQ88
      subst l88 y88 z88
      obtain ⟨x0_88, kx_x0_88, rfl, N88q, K88, sz88_x0, f89, f90, f91, f92, f93⟩ := hQ88
      have n94 := Fr.app N0 N88q
      have ne_b82_x0_88 : b82 ≠ x0_88 := Nat.ne_of_lt (Nat.lt_of_lt_of_le A82.lt sz88_x0)
      have g_x0_88 : n0 ≤ x0_88 := Nat.le_trans z83 sz88_x0
      have sz_x0_88 : h0.size ≤ x0_88 := Nat.le_trans k84.1 sz88_x0
      have f95 := A82.keep K88
      have z96 := Nat.le_trans z83 K88.1
      have k97 := k84.trans K88 (allS (Or.inr sz_b82) all0)
      refine own_tr (T' := T88) (g' := (mkF m 27 #[.val (.int p0), .val (.int p1), .val (.int p2), .val (.int p3), .val (.int p4), .val (.int (1 : Int32)), .val (.int (1 : Int32)), .unset, .unset] [(.ref b82)])) st88 ?_
      refine own_st (T' := T88) (g' := (mkF m 47 #[.val (.int p0), .val (.int p1), .val (.int p2), .val (.int p3), .val (.int p4), .val (.int (1 : Int32)), .val (.int (1 : Int32)), .val (.ref b82), .val (.int (0 : Int32))] [(.int p1), (.int (0 : Int32)), (.int (0 : Int32)), (.ref b82)])) (fun t k => ?_) ?_
      · show Steps p.tables e below (T88.setTop (mkF m 27 #[.val (.int p0), .val (.int p1), .val (.int p2), .val (.int p3), .val (.int p4), .val (.int (1 : Int32)), .val (.int (1 : Int32)), .unset, .unset] [(.ref b82)])) t
        refine XS.astore X88.here hx rfl (hb hby at_27) rfl rfl (l' := #[.val (.int p0), .val (.int p1), .val (.int p2), .val (.int p3), .val (.int p4), .val (.int (1 : Int32)), .val (.int (1 : Int32)), .val (.ref b82), .unset]) rfl ?_
        show Steps p.tables e below (T88.setTop (mkF m 29 #[.val (.int p0), .val (.int p1), .val (.int p2), .val (.int p3), .val (.int p4), .val (.int (1 : Int32)), .val (.int (1 : Int32)), .val (.ref b82), .unset] [])) t
        refine XS.iconst X88.here hx rfl (hb hby at_29) ?_
        show Steps p.tables e below (T88.setTop (mkF m 30 #[.val (.int p0), .val (.int p1), .val (.int p2), .val (.int p3), .val (.int p4), .val (.int (1 : Int32)), .val (.int (1 : Int32)), .val (.ref b82), .unset] [(.int (0 : Int32))])) t
        refine XS.istore X88.here hx rfl (hb hby at_30) rfl (l' := #[.val (.int p0), .val (.int p1), .val (.int p2), .val (.int p3), .val (.int p4), .val (.int (1 : Int32)), .val (.int (1 : Int32)), .val (.ref b82), .val (.int (0 : Int32))]) rfl ?_
        show Steps p.tables e below (T88.setTop (mkF m 32 #[.val (.int p0), .val (.int p1), .val (.int p2), .val (.int p3), .val (.int p4), .val (.int (1 : Int32)), .val (.int (1 : Int32)), .val (.ref b82), .val (.int (0 : Int32))] [])) t
        refine XS.iload X88.here hx rfl (hb hby at_32) rfl ?_
        show Steps p.tables e below (T88.setTop (mkF m 34 #[.val (.int p0), .val (.int p1), .val (.int p2), .val (.int p3), .val (.int p4), .val (.int (1 : Int32)), .val (.int (1 : Int32)), .val (.ref b82), .val (.int (0 : Int32))] [(.int (1 : Int32))])) t
        refine XS.ifNo X88.here hx rfl (hb hby at_34) rfl (by decide) ?_
        show Steps p.tables e below (T88.setTop (mkF m 37 #[.val (.int p0), .val (.int p1), .val (.int p2), .val (.int p3), .val (.int p4), .val (.int (1 : Int32)), .val (.int (1 : Int32)), .val (.ref b82), .val (.int (0 : Int32))] [])) t
        refine XS.iload X88.here hx rfl (hb hby at_37) rfl ?_
        show Steps p.tables e below (T88.setTop (mkF m 39 #[.val (.int p0), .val (.int p1), .val (.int p2), .val (.int p3), .val (.int p4), .val (.int (1 : Int32)), .val (.int (1 : Int32)), .val (.ref b82), .val (.int (0 : Int32))] [(.int (1 : Int32))])) t
        refine XS.ifNo X88.here hx rfl (hb hby at_39) rfl (by decide) ?_
        show Steps p.tables e below (T88.setTop (mkF m 42 #[.val (.int p0), .val (.int p1), .val (.int p2), .val (.int p3), .val (.int p4), .val (.int (1 : Int32)), .val (.int (1 : Int32)), .val (.ref b82), .val (.int (0 : Int32))] [])) t
        refine XS.aload X88.here hx rfl (hb hby at_42) rfl rfl ?_
        show Steps p.tables e below (T88.setTop (mkF m 44 #[.val (.int p0), .val (.int p1), .val (.int p2), .val (.int p3), .val (.int p4), .val (.int (1 : Int32)), .val (.int (1 : Int32)), .val (.ref b82), .val (.int (0 : Int32))] [(.ref b82)])) t
        refine XS.iconst X88.here hx rfl (hb hby at_44) ?_
        show Steps p.tables e below (T88.setTop (mkF m 45 #[.val (.int p0), .val (.int p1), .val (.int p2), .val (.int p3), .val (.int p4), .val (.int (1 : Int32)), .val (.int (1 : Int32)), .val (.ref b82), .val (.int (0 : Int32))] [(.int (0 : Int32)), (.ref b82)])) t
        refine XS.iconst X88.here hx rfl (hb hby at_45) ?_
        show Steps p.tables e below (T88.setTop (mkF m 46 #[.val (.int p0), .val (.int p1), .val (.int p2), .val (.int p3), .val (.int p4), .val (.int (1 : Int32)), .val (.int (1 : Int32)), .val (.ref b82), .val (.int (0 : Int32))] [(.int (0 : Int32)), (.int (0 : Int32)), (.ref b82)])) t
        refine XS.iloadN X88.here hx rfl (hb hby at_46) rfl ?_
        exact k
      obtain ⟨_, _, ⟨T98, L98, k98, n98⟩, -, X98, ⟨Lc98, hQ98, l98, y98, z98⟩, st98⟩ := Jvm.LawKit.callS X88 hx (y := (⟨"com/example/winnowfold/winnowfold/math/DenseMatrixNonZeroCountPinLaw", "val", "(I)D"⟩ : MethodName)) hown (mvT hZ (hw _ (List.mem_of_getElem? (i := 27) rfl))) (mvT hZ (hw _ (List.mem_of_getElem? (i := 28) rfl))) (mvT hZ (hw _ (List.mem_of_getElem? (i := 29) rfl))) (mvT hZ (hw _ (List.mem_of_getElem? (i := 30) rfl))) (by decide) (backOf (W := 3) (rm5 l Z ar hw [] p1 T88.heap n0 z96) hZ (hw _ (List.mem_of_getElem? (i := 30) rfl)) (hw _ (List.mem_of_getElem? (i := 29) rfl)) (by decide) (by decide)) (g := (mkF m 47 #[.val (.int p0), .val (.int p1), .val (.int p2), .val (.int p3), .val (.int p4), .val (.int (1 : Int32)), .val (.int (1 : Int32)), .val (.ref b82), .val (.int (0 : Int32))] [(.int p1), (.int (0 : Int32)), (.int (0 : Int32)), (.ref b82)])) rfl (by rw [hml]; rfl) (argsL := [(.int p1)]) (rest := [(.int (0 : Int32)), (.int (0 : Int32)), (.ref b82)]) (lenOf pd0_2 rfl) rfl (by show 2 * 0 + _ ≤ _; exact Nat.le_of_eq rfl) (hb hby at_47) (fun _ _ => ⟨rfl, (rfl : T88.heap = T88.heap), (by decide : 2 + 0 ≤ _), (by decide : 4 + 0 ≤ _)⟩)
      dsimp only [Pt.U, Pt.locs, Pt.cells, Pt.slots] at X98 l98 y98 z98 st98 hQ98
      subst l98 y98 z98
      obtain ⟨rfl, N98q, e98⟩ := hQ98
      have n99 := Fr.app n94 N98q
      refine own_st (T' := T98) (g' := (mkF m 50 #[.val (.int p0), .val (.int p1), .val (.int p2), .val (.int p3), .val (.int p4), .val (.int (1 : Int32)), .val (.int (1 : Int32)), .val (.ref b82), .val (.int (0 : Int32))] [(.double (own_val p1)), (.int (0 : Int32)), (.int (0 : Int32)), (.ref b82)])) st98 ?_
      obtain ⟨cq100, kq100, qa100, qb100, qc100⟩ := isOf hZ e98 f89
      obtain ⟨_, _, ⟨T100, L100, k100, n100⟩, -, X100, ⟨Lc100, hQ100, l100, y100, z100⟩, st100⟩ := X98.virtualBack hx (y := (⟨"com/example/winnowfold/winnowfold/math/DenseMatrix", "set", "(IID)V"⟩ : MethodName)) (z := (⟨"com/example/winnowfold/winnowfold/math/DenseMatrix", "set", "(IID)V"⟩ : MethodName)) hown (mvT hZ (hw _ (List.mem_of_getElem? (i := 31) rfl))) (mvT hZ (hw _ (List.mem_of_getElem? (i := 32) rfl))) (notFace_of_selects (args := #[]) (mvT hZ (hw _ (List.mem_of_getElem? (i := 34) rfl)))) (mvT hZ (hw _ (List.mem_of_getElem? (i := 34) rfl))) (mvT hZ (hw _ (List.mem_of_getElem? (i := 33) rfl))) (by decide) (backOf (W := 0) (rm6 l Z ar hw [] b82 ((0 : Int32)) ((0 : Int32)) ((own_val p1)) ((1 : Int32)) ((1 : Int32)) x0_88 kx_x0_88 ((1 : Int32)) ([(.double (0 : UInt64))]) ((.double (0 : UInt64))) T88.heap n0 z96 f89 f90 f91 f92 f93 (by decide) (by decide) (by decide) (by decide) (by decide) (show ((((0 : Int32) * (1 : Int32)) + (0 : Int32))).toNatClampNeg < 1 by decide) ne_b82_x0_88 g_x0_88) hZ (hw _ (List.mem_of_getElem? (i := 35) rfl)) (hw _ (List.mem_of_getElem? (i := 2) rfl)) (by decide) (by decide)) qa100 qc100 (g := (mkF m 50 #[.val (.int p0), .val (.int p1), .val (.int p2), .val (.int p3), .val (.int p4), .val (.int (1 : Int32)), .val (.int (1 : Int32)), .val (.ref b82), .val (.int (0 : Int32))] [(.double (own_val p1)), (.int (0 : Int32)), (.int (0 : Int32)), (.ref b82)])) rfl (by rw [hml]; rfl) (Steps.refl _) (argsL := [(.int (0 : Int32)), (.int (0 : Int32)), (.double (own_val p1))]) (rest := []) (lenOf pd0_3 rfl) rfl (by show 2 * 0 + _ ≤ _; exact Nat.le_of_eq rfl) (hb hby at_50) (fun _ _ => ⟨rfl, e98, (by decide : 2 + 0 ≤ _), (by decide : 4 + 0 ≤ _)⟩)
      dsimp only [Pt.U, Pt.locs, Pt.cells, Pt.slots] at X100 l100 y100 z100 st100 hQ100
      subst l100 y100 z100
      obtain ⟨rfl, N100q, K100, f101⟩ := hQ100
      have n102 := Fr.app n99 N100q
      have f103 := f89.keep K100
      have f104 := f90.keep K100 (ninS ne_b82_x0_88 nin0)
      have f105 := f91.keep K100 (ninS ne_b82_x0_88 nin0)
      have f106 := f92.keep K100 (ninS ne_b82_x0_88 nin0)
      have f107 := own_ve (vs' := [(.double (own_val p1))]) f101 (by rw [show ((((0 : Int32) * (1 : Int32)) + (0 : Int32))).toNatClampNeg = 0 by decide]; rfl)
      have z108 := Nat.le_trans z96 K100.1
      have k109 := k97.trans K100 (allS (Or.inr sz_x0_88) all0)
      refine own_tr (T' := T100) (g' := (mkF m 53 #[.val (.int p0), .val (.int p1), .val (.int p2), .val (.int p3), .val (.int p4), .val (.int (1 : Int32)), .val (.int (1 : Int32)), .val (.ref b82), .val (.int (0 : Int32))] [])) st100 ?_
      refine own_st (T' := T100) (g' := (mkF m 56 #[.val (.int p0), .val (.int p1), .val (.int p2), .val (.int p3), .val (.int p4), .val (.int (1 : Int32)), .val (.int (1 : Int32)), .val (.ref b82), .val (.int (0 : Int32))] [(.int p1), (.int (0 : Int32))])) (fun t k => ?_) ?_
      · show Steps p.tables e below (T100.setTop (mkF m 53 #[.val (.int p0), .val (.int p1), .val (.int p2), .val (.int p3), .val (.int p4), .val (.int (1 : Int32)), .val (.int (1 : Int32)), .val (.ref b82), .val (.int (0 : Int32))] [])) t
        refine XS.iload X100.here hx rfl (hb hby at_53) rfl ?_
        show Steps p.tables e below (T100.setTop (mkF m 55 #[.val (.int p0), .val (.int p1), .val (.int p2), .val (.int p3), .val (.int p4), .val (.int (1 : Int32)), .val (.int (1 : Int32)), .val (.ref b82), .val (.int (0 : Int32))] [(.int (0 : Int32))])) t
        refine XS.iloadN X100.here hx rfl (hb hby at_55) rfl ?_
        exact k
      obtain ⟨_, _, ⟨T110, L110, k110, n110⟩, -, X110, ⟨Lc110, hQ110, l110, y110, z110⟩, st110⟩ := Jvm.LawKit.callS X100 hx (y := (⟨"com/example/winnowfold/winnowfold/math/DenseMatrixNonZeroCountPinLaw", "nz", "(I)I"⟩ : MethodName)) hown (mvT hZ (hw _ (List.mem_of_getElem? (i := 56) rfl))) (mvT hZ (hw _ (List.mem_of_getElem? (i := 57) rfl))) (mvT hZ (hw _ (List.mem_of_getElem? (i := 29) rfl))) (mvT hZ (hw _ (List.mem_of_getElem? (i := 58) rfl))) (by decide) (backOf (W := 1) (rm11 l Z ar hw [] p1 T100.heap n0 z108) hZ (hw _ (List.mem_of_getElem? (i := 58) rfl)) (hw _ (List.mem_of_getElem? (i := 29) rfl)) (by decide) (by decide)) (g := (mkF m 56 #[.val (.int p0), .val (.int p1), .val (.int p2), .val (.int p3), .val (.int p4), .val (.int (1 : Int32)), .val (.int (1 : Int32)), .val (.ref b82), .val (.int (0 : Int32))] [(.int p1), (.int (0 : Int32))])) rfl (by rw [hml]; rfl) (argsL := [(.int p1)]) (rest := [(.int (0 : Int32))]) (lenOf pd0_4 rfl) rfl (by show 2 * 0 + _ ≤ _; exact Nat.le_of_eq rfl) (hb hby at_56) (fun _ _ => ⟨rfl, (rfl : T100.heap = T100.heap), (by decide : 2 + 0 ≤ _), (by decide : 4 + 0 ≤ _)⟩)
      dsimp only [Pt.U, Pt.locs, Pt.cells, Pt.slots] at X110 l110 y110 z110 st110 hQ110
      subst l110 y110 z110
      obtain ⟨rfl, N110q, e110⟩ := hQ110
      have n111 := Fr.app n102 N110q
      refine own_st (T' := T110) (g' := (mkF m 59 #[.val (.int p0), .val (.int p1), .val (.int p2), .val (.int p3), .val (.int p4), .val (.int (1 : Int32)), .val (.int (1 : Int32)), .val (.ref b82), .val (.int (0 : Int32))] [(.int (own_cnt p1)), (.int (0 : Int32))])) st110 ?_
      refine own_st (T' := T110) (g' := (mkF m 160 #[.val (.int p0), .val (.int p1), .val (.int p2), .val (.int p3), .val (.int p4), .val (.int (1 : Int32)), .val (.int (1 : Int32)), .val (.ref b82), .val (.int ((0 : Int32) + (own_cnt p1)))] [(.ref b82)])) (fun t k => ?_) ?_
      · show Steps p.tables e below (T110.setTop (mkF m 59 #[.val (.int p0), .val (.int p1), .val (.int p2), .val (.int p3), .val (.int p4), .val (.int (1 : Int32)), .val (.int (1 : Int32)), .val (.ref b82), .val (.int (0 : Int32))] [(.int (own_cnt p1)), (.int (0 : Int32))])) t
        refine XS.iadd X110.here hx rfl (hb hby at_59) rfl ?_
        show Steps p.tables e below (T110.setTop (mkF m 60 #[.val (.int p0), .val (.int p1), .val (.int p2), .val (.int p3), .val (.int p4), .val (.int (1 : Int32)), .val (.int (1 : Int32)), .val (.ref b82), .val (.int (0 : Int32))] [(.int ((0 : Int32) + (own_cnt p1)))])) t
        refine XS.istore X110.here hx rfl (hb hby at_60) rfl (l' := #[.val (.int p0), .val (.int p1), .val (.int p2), .val (.int p3), .val (.int p4), .val (.int (1 : Int32)), .val (.int (1 : Int32)), .val (.ref b82), .val (.int ((0 : Int32) + (own_cnt p1)))]) rfl ?_
        show Steps p.tables e below (T110.setTop (mkF m 62 #[.val (.int p0), .val (.int p1), .val (.int p2), .val (.int p3), .val (.int p4), .val (.int (1 : Int32)), .val (.int (1 : Int32)), .val (.ref b82), .val (.int ((0 : Int32) + (own_cnt p1)))] [])) t
        refine XS.iload X110.here hx rfl (hb hby at_62) rfl ?_
        show Steps p.tables e below (T110.setTop (mkF m 64 #[.val (.int p0), .val (.int p1), .val (.int p2), .val (.int p3), .val (.int p4), .val (.int (1 : Int32)), .val (.int (1 : Int32)), .val (.ref b82), .val (.int ((0 : Int32) + (own_cnt p1)))] [(.int (1 : Int32))])) t
        refine XS.ifNo X110.here hx rfl (hb hby at_64) rfl (by decide) ?_
        show Steps p.tables e below (T110.setTop (mkF m 67 #[.val (.int p0), .val (.int p1), .val (.int p2), .val (.int p3), .val (.int p4), .val (.int (1 : Int32)), .val (.int (1 : Int32)), .val (.ref b82), .val (.int ((0 : Int32) + (own_cnt p1)))] [])) t
        refine XS.iload X110.here hx rfl (hb hby at_67) rfl ?_
        show Steps p.tables e below (T110.setTop (mkF m 69 #[.val (.int p0), .val (.int p1), .val (.int p2), .val (.int p3), .val (.int p4), .val (.int (1 : Int32)), .val (.int (1 : Int32)), .val (.ref b82), .val (.int ((0 : Int32) + (own_cnt p1)))] [(.int (1 : Int32))])) t
        refine XS.iconst X110.here hx rfl (hb hby at_69) ?_
        show Steps p.tables e below (T110.setTop (mkF m 70 #[.val (.int p0), .val (.int p1), .val (.int p2), .val (.int p3), .val (.int p4), .val (.int (1 : Int32)), .val (.int (1 : Int32)), .val (.ref b82), .val (.int ((0 : Int32) + (own_cnt p1)))] [(.int (1 : Int32)), (.int (1 : Int32))])) t
        refine XS.icmpYes X110.here hx rfl (pc0 := 70) (pc' := 93) rfl (hb hby at_70) rfl (by decide) (by decide) (by decide) ?_
        show Steps p.tables e below (T110.setTop (mkF m 93 #[.val (.int p0), .val (.int p1), .val (.int p2), .val (.int p3), .val (.int p4), .val (.int (1 : Int32)), .val (.int (1 : Int32)), .val (.ref b82), .val (.int ((0 : Int32) + (own_cnt p1)))] [])) t
        refine XS.iload X110.here hx rfl (hb hby at_93) rfl ?_
        show Steps p.tables e below (T110.setTop (mkF m 95 #[.val (.int p0), .val (.int p1), .val (.int p2), .val (.int p3), .val (.int p4), .val (.int (1 : Int32)), .val (.int (1 : Int32)), .val (.ref b82), .val (.int ((0 : Int32) + (own_cnt p1)))] [(.int (1 : Int32))])) t
        refine XS.iconst X110.here hx rfl (hb hby at_95) ?_
        show Steps p.tables e below (T110.setTop (mkF m 96 #[.val (.int p0), .val (.int p1), .val (.int p2), .val (.int p3), .val (.int p4), .val (.int (1 : Int32)), .val (.int (1 : Int32)), .val (.ref b82), .val (.int ((0 : Int32) + (own_cnt p1)))] [(.int (1 : Int32)), (.int (1 : Int32))])) t
        refine XS.icmpYes X110.here hx rfl (pc0 := 96) (pc' := 124) rfl (hb hby at_96) rfl (by decide) (by decide) (by decide) ?_
        show Steps p.tables e below (T110.setTop (mkF m 124 #[.val (.int p0), .val (.int p1), .val (.int p2), .val (.int p3), .val (.int p4), .val (.int (1 : Int32)), .val (.int (1 : Int32)), .val (.ref b82), .val (.int ((0 : Int32) + (own_cnt p1)))] [])) t
        refine XS.iload X110.here hx rfl (hb hby at_124) rfl ?_
        show Steps p.tables e below (T110.setTop (mkF m 126 #[.val (.int p0), .val (.int p1), .val (.int p2), .val (.int p3), .val (.int p4), .val (.int (1 : Int32)), .val (.int (1 : Int32)), .val (.ref b82), .val (.int ((0 : Int32) + (own_cnt p1)))] [(.int (1 : Int32))])) t
        refine XS.iconst X110.here hx rfl (hb hby at_126) ?_
        show Steps p.tables e below (T110.setTop (mkF m 127 #[.val (.int p0), .val (.int p1), .val (.int p2), .val (.int p3), .val (.int p4), .val (.int (1 : Int32)), .val (.int (1 : Int32)), .val (.ref b82), .val (.int ((0 : Int32) + (own_cnt p1)))] [(.int (1 : Int32)), (.int (1 : Int32))])) t
        refine XS.icmpYes X110.here hx rfl (pc0 := 127) (pc' := 158) rfl (hb hby at_127) rfl (by decide) (by decide) (by decide) ?_
        show Steps p.tables e below (T110.setTop (mkF m 158 #[.val (.int p0), .val (.int p1), .val (.int p2), .val (.int p3), .val (.int p4), .val (.int (1 : Int32)), .val (.int (1 : Int32)), .val (.ref b82), .val (.int ((0 : Int32) + (own_cnt p1)))] [])) t
        refine XS.aload X110.here hx rfl (hb hby at_158) rfl rfl ?_
        exact k
      obtain ⟨cq112, kq112, qa112, qb112, qc112⟩ := isOf hZ e110 f103
      obtain ⟨_, _, ⟨T112, L112, k112, n112⟩, -, X112, ⟨Lc112, hQ112, l112, y112, z112⟩, st112⟩ := X110.virtualBack hx (y := (⟨"com/example/winnowfold/winnowfold/math/DenseMatrix", "nonZeroCount", "()I"⟩ : MethodName)) (z := (⟨"com/example/winnowfold/winnowfold/math/DenseMatrix", "nonZeroCount", "()I"⟩ : MethodName)) hown (mvT hZ (hw _ (List.mem_of_getElem? (i := 22) rfl))) (mvT hZ (hw _ (List.mem_of_getElem? (i := 23) rfl))) (notFace_of_selects (args := #[]) (mvT hZ (hw _ (List.mem_of_getElem? (i := 25) rfl)))) (mvT hZ (hw _ (List.mem_of_getElem? (i := 25) rfl))) (mvT hZ (hw _ (List.mem_of_getElem? (i := 24) rfl))) (by decide) (backOf (W := 0) (rmz1 l Z ar hw [] b82 x0_88 kx_x0_88 ((own_val p1)) T100.heap n0 z108 f103 f106 f107) hZ (hw _ (List.mem_of_getElem? (i := 26) rfl)) (hw _ (List.mem_of_getElem? (i := 2) rfl)) (by decide) (by decide)) qa112 qc112 (g := (mkF m 160 #[.val (.int p0), .val (.int p1), .val (.int p2), .val (.int p3), .val (.int p4), .val (.int (1 : Int32)), .val (.int (1 : Int32)), .val (.ref b82), .val (.int ((0 : Int32) + (own_cnt p1)))] [(.ref b82)])) rfl (by rw [hml]; rfl) (Steps.refl _) (argsL := []) (rest := []) (lenOf pd0_1 rfl) rfl (by show 2 * 0 + _ ≤ _; exact Nat.le_of_eq rfl) (hb hby at_160) (fun _ _ => ⟨rfl, e110, (by decide : 2 + 0 ≤ _), (by decide : 4 + 0 ≤ _)⟩)
      dsimp only [Pt.U, Pt.locs, Pt.cells, Pt.slots] at X112 l112 y112 z112 st112 hQ112
      subst l112 y112 z112
      obtain ⟨rfl, N112q, e112⟩ := hQ112
      have n113 := Fr.app n111 N112q
      refine own_tr (T' := T112) (g' := (mkF m 163 #[.val (.int p0), .val (.int p1), .val (.int p2), .val (.int p3), .val (.int p4), .val (.int (1 : Int32)), .val (.int (1 : Int32)), .val (.ref b82), .val (.int ((0 : Int32) + (own_cnt p1)))] [(.int (own_z (0 : Int32) (own_val p1)))])) st112 ?_
      refine own_st (T' := T112) (g' := (mkF m 173 #[.val (.int p0), .val (.int p1), .val (.int p2), .val (.int p3), .val (.int p4), .val (.int (1 : Int32)), .val (.int (1 : Int32)), .val (.ref b82), .val (.int ((0 : Int32) + (own_cnt p1)))] [(.int (1 : Int32))])) (fun t k => ?_) ?_
      · show Steps p.tables e below (T112.setTop (mkF m 163 #[.val (.int p0), .val (.int p1), .val (.int p2), .val (.int p3), .val (.int p4), .val (.int (1 : Int32)), .val (.int (1 : Int32)), .val (.ref b82), .val (.int ((0 : Int32) + (own_cnt p1)))] [(.int (own_z (0 : Int32) (own_val p1)))])) t
        refine XS.iload X112.here hx rfl (hb hby at_163) rfl ?_
        show Steps p.tables e below (T112.setTop (mkF m 165 #[.val (.int p0), .val (.int p1), .val (.int p2), .val (.int p3), .val (.int p4), .val (.int (1 : Int32)), .val (.int (1 : Int32)), .val (.ref b82), .val (.int ((0 : Int32) + (own_cnt p1)))] [(.int ((0 : Int32) + (own_cnt p1))), (.int (own_z (0 : Int32) (own_val p1)))])) t
        refine XS.icmpNo X112.here hx rfl (hb hby at_165) rfl (teq ((by simp only [own_zc]) : (own_z (0 : Int32) (own_val p1)) = ((0 : Int32) + (own_cnt p1)))).2 ?_
        show Steps p.tables e below (T112.setTop (mkF m 168 #[.val (.int p0), .val (.int p1), .val (.int p2), .val (.int p3), .val (.int p4), .val (.int (1 : Int32)), .val (.int (1 : Int32)), .val (.ref b82), .val (.int ((0 : Int32) + (own_cnt p1)))] [])) t
        refine XS.iconst X112.here hx rfl (hb hby at_168) ?_
        show Steps p.tables e below (T112.setTop (mkF m 169 #[.val (.int p0), .val (.int p1), .val (.int p2), .val (.int p3), .val (.int p4), .val (.int (1 : Int32)), .val (.int (1 : Int32)), .val (.ref b82), .val (.int ((0 : Int32) + (own_cnt p1)))] [(.int (1 : Int32))])) t
        refine XS.goto X112.here hx rfl (pc0 := 169) (pc' := 173) rfl (hb hby at_169) (by decide) (by decide) ?_
        exact k
      refine own_retZ X112 hx hlk Bd.returns (hb hby at_173) rfl (by decide) (by decide) ?_
      show Q0 Z p0 p1 p2 p3 p4 h0 n0 (some (.int (1 : Int32))) T112.heap _
      exact ⟨rfl, n113⟩
    · rw [hk14_63]
      refine own_st (T' := s₁) (g' := (mkF m 16 #[.val (.int p0), .val (.int p1), .val (.int p2), .val (.int p3), .val (.int p4), .val (.int (1 : Int32)), .val (.int (2 : Int32)), .unset, .unset] [])) (fun t k => ?_) ?_
      · show Steps p.tables e below (s₁.setTop (mkF m 14 #[.val (.int p0), .val (.int p1), .val (.int p2), .val (.int p3), .val (.int p4), .val (.int (1 : Int32)), .unset, .unset, .unset] [(.int (2 : Int32))])) t
        refine XS.istore X0.here hx rfl (hb hby at_14) rfl (l' := #[.val (.int p0), .val (.int p1), .val (.int p2), .val (.int p3), .val (.int p4), .val (.int (1 : Int32)), .val (.int (2 : Int32)), .unset, .unset]) rfl ?_
        exact k
      obtain ⟨T114, h114, X114, e114, E114, A114, D114, -, st114⟩ := newO X0 hx hZ hown (hw _ (List.mem_of_getElem? (i := 0) rfl)) (hw _ (List.mem_of_getElem? (i := 1) rfl)) (hw _ (List.mem_of_getElem? (i := 2) rfl)) e0 (g := (mkF m 16 #[.val (.int p0), .val (.int p1), .val (.int p2), .val (.int p3), .val (.int p4), .val (.int (1 : Int32)), .val (.int (2 : Int32)), .unset, .unset] [])) rfl (hb hby at_16) (by decide) (by decide)
      obtain ⟨b114, g114⟩ : ∃ z, z = h0.size := ⟨_, rfl⟩
      rw [← g114] at A114 D114 st114
      have g_b114 : n0 ≤ b114 := Nat.le_trans Z0 (Nat.le_of_eq g114.symm)
      have sz_b114 : h0.size ≤ b114 := Nat.le_trans K0.1 (Nat.le_of_eq g114.symm)
      have z115 := Nat.le_trans Z0 E114.1
      have k116 := K0.ext E114
      have f117 : Fld Z h114 b114 "com/example/winnowfold/winnowfold/math/AbstractMatrix" "rows" "I" (.int (0 : Int32)) := D114 (Or.inr (hw _ (List.mem_of_getElem? (i := 15) rfl))) (ty := .int) (by decide)
      have f118 : Fld Z h114 b114 "com/example/winnowfold/winnowfold/math/AbstractMatrix" "columns" "I" (.int (0 : Int32)) := D114 (Or.inr (hw _ (List.mem_of_getElem? (i := 17) rfl))) (ty := .int) (by decide)
      have f119 : Fld Z h114 b114 "com/example/winnowfold/winnowfold/math/DenseMatrix" "values" "[D" .null := D114 (Or.inr (hw _ (List.mem_of_getElem? (i := 21) rfl))) (ty := (.array .double)) (by decide)
      refine own_st (T' := T114) (g' := (mkF m 19 #[.val (.int p0), .val (.int p1), .val (.int p2), .val (.int p3), .val (.int p4), .val (.int (1 : Int32)), .val (.int (2 : Int32)), .unset, .unset] [(.ref b114)])) st114 ?_
      refine own_st (T' := T114) (g' := (mkF m 24 #[.val (.int p0), .val (.int p1), .val (.int p2), .val (.int p3), .val (.int p4), .val (.int (1 : Int32)), .val (.int (2 : Int32)), .unset, .unset] [(.int (2 : Int32)), (.int (1 : Int32)), (.ref b114), (.ref b114)])) (fun t k => ?_) ?_
      · show Steps p.tables e below (T114.setTop (mkF m 19 #[.val (.int p0), .val (.int p1), .val (.int p2), .val (.int p3), .val (.int p4), .val (.int (1 : Int32)), .val (.int (2 : Int32)), .unset, .unset] [(.ref b114)])) t
        refine XS.dup X114.here hx rfl (hb hby at_19) rfl rfl ?_
        show Steps p.tables e below (T114.setTop (mkF m 20 #[.val (.int p0), .val (.int p1), .val (.int p2), .val (.int p3), .val (.int p4), .val (.int (1 : Int32)), .val (.int (2 : Int32)), .unset, .unset] [(.ref b114), (.ref b114)])) t
        refine XS.iload X114.here hx rfl (hb hby at_20) rfl ?_
        show Steps p.tables e below (T114.setTop (mkF m 22 #[.val (.int p0), .val (.int p1), .val (.int p2), .val (.int p3), .val (.int p4), .val (.int (1 : Int32)), .val (.int (2 : Int32)), .unset, .unset] [(.int (1 : Int32)), (.ref b114), (.ref b114)])) t
        refine XS.iload X114.here hx rfl (hb hby at_22) rfl ?_
        exact k
      obtain ⟨_, _, ⟨T120, L120, k120, n120⟩, -, X120, ⟨Lc120, hQ120, l120, y120, z120⟩, st120⟩ := X114.specialBack hx (y := (⟨"com/example/winnowfold/winnowfold/math/DenseMatrix", "<init>", "(II)V"⟩ : MethodName)) rfl hown (mvT hZ (hw _ (List.mem_of_getElem? (i := 3) rfl))) (mvT hZ (hw _ (List.mem_of_getElem? (i := 4) rfl))) (mvT hZ (hw _ (List.mem_of_getElem? (i := 5) rfl))) (by decide) (backOf (W := 1) (rmI12 l Z ar hw [] b114 ((.int (0 : Int32))) ((.int (0 : Int32))) (.null) h114 n0 z115 A114 f117 f118 f119 g_b114) hZ (hw _ (List.mem_of_getElem? (i := 5) rfl)) (hw _ (List.mem_of_getElem? (i := 2) rfl)) (by decide) (by decide)) (g := (mkF m 24 #[.val (.int p0), .val (.int p1), .val (.int p2), .val (.int p3), .val (.int p4), .val (.int (1 : Int32)), .val (.int (2 : Int32)), .unset, .unset] [(.int (2 : Int32)), (.int (1 : Int32)), (.ref b114), (.ref b114)])) rfl (by rw [hml]; rfl) (Steps.refl _) (a := b114) (argsL := [(.int (1 : Int32)), (.int (2 : Int32))]) (rest := [(.ref b114)]) (lenOf pd0_0 rfl) rfl (by show 2 * 0 + _ ≤ _; exact Nat.le_of_eq rfl) (hb hby at_24) (fun _ _ => ⟨rfl, e114, (by decide : 1 + 1 ≤ _), (by decide : 3 + 2 ≤ _)⟩)
      dsimp only [Pt.U, Pt.locs, Pt.cells, Pt.slots] at X120 l120 y120 z120 st120 hQ120
      subst l120 y120 z120
      obtain ⟨x0_120, kx_x0_120, rfl, N120q, K120, sz120_x0, f121, f122, f123, f124, f125⟩ := hQ120
      have n126 := Fr.app N0 N120q
      have ne_b114_x0_120 : b114 ≠ x0_120 := Nat.ne_of_lt (Nat.lt_of_lt_of_le A114.lt sz120_x0)
      have g_x0_120 : n0 ≤ x0_120 := Nat.le_trans z115 sz120_x0
      have sz_x0_120 : h0.size ≤ x0_120 := Nat.le_trans k116.1 sz120_x0
      have f127 := A114.keep K120
      have z128 := Nat.le_trans z115 K120.1
      have k129 := k116.trans K120 (allS (Or.inr sz_b114) all0)
      refine own_tr (T' := T120) (g' := (mkF m 27 #[.val (.int p0), .val (.int p1), .val (.int p2), .val (.int p3), .val (.int p4), .val (.int (1 : Int32)), .val (.int (2 : Int32)), .unset, .unset] [(.ref b114)])) st120 ?_
      refine own_st (T' := T120) (g' := (mkF m 47 #[.val (.int p0), .val (.int p1), .val (.int p2), .val (.int p3), .val (.int p4), .val (.int (1 : Int32)), .val (.int (2 : Int32)), .val (.ref b114), .val (.int (0 : Int32))] [(.int p1), (.int (0 : Int32)), (.int (0 : Int32)), (.ref b114)])) (fun t k => ?_) ?_
      · show Steps p.tables e below (T120.setTop (mkF m 27 #[.val (.int p0), .val (.int p1), .val (.int p2), .val (.int p3), .val (.int p4), .val (.int (1 : Int32)), .val (.int (2 : Int32)), .unset, .unset] [(.ref b114)])) t
        refine XS.astore X120.here hx rfl (hb hby at_27) rfl rfl (l' := #[.val (.int p0), .val (.int p1), .val (.int p2), .val (.int p3), .val (.int p4), .val (.int (1 : Int32)), .val (.int (2 : Int32)), .val (.ref b114), .unset]) rfl ?_
        show Steps p.tables e below (T120.setTop (mkF m 29 #[.val (.int p0), .val (.int p1), .val (.int p2), .val (.int p3), .val (.int p4), .val (.int (1 : Int32)), .val (.int (2 : Int32)), .val (.ref b114), .unset] [])) t
        refine XS.iconst X120.here hx rfl (hb hby at_29) ?_
        show Steps p.tables e below (T120.setTop (mkF m 30 #[.val (.int p0), .val (.int p1), .val (.int p2), .val (.int p3), .val (.int p4), .val (.int (1 : Int32)), .val (.int (2 : Int32)), .val (.ref b114), .unset] [(.int (0 : Int32))])) t
        refine XS.istore X120.here hx rfl (hb hby at_30) rfl (l' := #[.val (.int p0), .val (.int p1), .val (.int p2), .val (.int p3), .val (.int p4), .val (.int (1 : Int32)), .val (.int (2 : Int32)), .val (.ref b114), .val (.int (0 : Int32))]) rfl ?_
        show Steps p.tables e below (T120.setTop (mkF m 32 #[.val (.int p0), .val (.int p1), .val (.int p2), .val (.int p3), .val (.int p4), .val (.int (1 : Int32)), .val (.int (2 : Int32)), .val (.ref b114), .val (.int (0 : Int32))] [])) t
        refine XS.iload X120.here hx rfl (hb hby at_32) rfl ?_
        show Steps p.tables e below (T120.setTop (mkF m 34 #[.val (.int p0), .val (.int p1), .val (.int p2), .val (.int p3), .val (.int p4), .val (.int (1 : Int32)), .val (.int (2 : Int32)), .val (.ref b114), .val (.int (0 : Int32))] [(.int (1 : Int32))])) t
        refine XS.ifNo X120.here hx rfl (hb hby at_34) rfl (by decide) ?_
        show Steps p.tables e below (T120.setTop (mkF m 37 #[.val (.int p0), .val (.int p1), .val (.int p2), .val (.int p3), .val (.int p4), .val (.int (1 : Int32)), .val (.int (2 : Int32)), .val (.ref b114), .val (.int (0 : Int32))] [])) t
        refine XS.iload X120.here hx rfl (hb hby at_37) rfl ?_
        show Steps p.tables e below (T120.setTop (mkF m 39 #[.val (.int p0), .val (.int p1), .val (.int p2), .val (.int p3), .val (.int p4), .val (.int (1 : Int32)), .val (.int (2 : Int32)), .val (.ref b114), .val (.int (0 : Int32))] [(.int (2 : Int32))])) t
        refine XS.ifNo X120.here hx rfl (hb hby at_39) rfl (by decide) ?_
        show Steps p.tables e below (T120.setTop (mkF m 42 #[.val (.int p0), .val (.int p1), .val (.int p2), .val (.int p3), .val (.int p4), .val (.int (1 : Int32)), .val (.int (2 : Int32)), .val (.ref b114), .val (.int (0 : Int32))] [])) t
        refine XS.aload X120.here hx rfl (hb hby at_42) rfl rfl ?_
        show Steps p.tables e below (T120.setTop (mkF m 44 #[.val (.int p0), .val (.int p1), .val (.int p2), .val (.int p3), .val (.int p4), .val (.int (1 : Int32)), .val (.int (2 : Int32)), .val (.ref b114), .val (.int (0 : Int32))] [(.ref b114)])) t
        refine XS.iconst X120.here hx rfl (hb hby at_44) ?_
        show Steps p.tables e below (T120.setTop (mkF m 45 #[.val (.int p0), .val (.int p1), .val (.int p2), .val (.int p3), .val (.int p4), .val (.int (1 : Int32)), .val (.int (2 : Int32)), .val (.ref b114), .val (.int (0 : Int32))] [(.int (0 : Int32)), (.ref b114)])) t
        refine XS.iconst X120.here hx rfl (hb hby at_45) ?_
        show Steps p.tables e below (T120.setTop (mkF m 46 #[.val (.int p0), .val (.int p1), .val (.int p2), .val (.int p3), .val (.int p4), .val (.int (1 : Int32)), .val (.int (2 : Int32)), .val (.ref b114), .val (.int (0 : Int32))] [(.int (0 : Int32)), (.int (0 : Int32)), (.ref b114)])) t
        refine XS.iloadN X120.here hx rfl (hb hby at_46) rfl ?_
        exact k
      obtain ⟨_, _, ⟨T130, L130, k130, n130⟩, -, X130, ⟨Lc130, hQ130, l130, y130, z130⟩, st130⟩ := Jvm.LawKit.callS X120 hx (y := (⟨"com/example/winnowfold/winnowfold/math/DenseMatrixNonZeroCountPinLaw", "val", "(I)D"⟩ : MethodName)) hown (mvT hZ (hw _ (List.mem_of_getElem? (i := 27) rfl))) (mvT hZ (hw _ (List.mem_of_getElem? (i := 28) rfl))) (mvT hZ (hw _ (List.mem_of_getElem? (i := 29) rfl))) (mvT hZ (hw _ (List.mem_of_getElem? (i := 30) rfl))) (by decide) (backOf (W := 3) (rm5 l Z ar hw [] p1 T120.heap n0 z128) hZ (hw _ (List.mem_of_getElem? (i := 30) rfl)) (hw _ (List.mem_of_getElem? (i := 29) rfl)) (by decide) (by decide)) (g := (mkF m 47 #[.val (.int p0), .val (.int p1), .val (.int p2), .val (.int p3), .val (.int p4), .val (.int (1 : Int32)), .val (.int (2 : Int32)), .val (.ref b114), .val (.int (0 : Int32))] [(.int p1), (.int (0 : Int32)), (.int (0 : Int32)), (.ref b114)])) rfl (by rw [hml]; rfl) (argsL := [(.int p1)]) (rest := [(.int (0 : Int32)), (.int (0 : Int32)), (.ref b114)]) (lenOf pd0_2 rfl) rfl (by show 2 * 0 + _ ≤ _; exact Nat.le_of_eq rfl) (hb hby at_47) (fun _ _ => ⟨rfl, (rfl : T120.heap = T120.heap), (by decide : 2 + 0 ≤ _), (by decide : 5 + 0 ≤ _)⟩)
      dsimp only [Pt.U, Pt.locs, Pt.cells, Pt.slots] at X130 l130 y130 z130 st130 hQ130
      subst l130 y130 z130
      obtain ⟨rfl, N130q, e130⟩ := hQ130
      have n131 := Fr.app n126 N130q
      refine own_st (T' := T130) (g' := (mkF m 50 #[.val (.int p0), .val (.int p1), .val (.int p2), .val (.int p3), .val (.int p4), .val (.int (1 : Int32)), .val (.int (2 : Int32)), .val (.ref b114), .val (.int (0 : Int32))] [(.double (own_val p1)), (.int (0 : Int32)), (.int (0 : Int32)), (.ref b114)])) st130 ?_
      obtain ⟨cq132, kq132, qa132, qb132, qc132⟩ := isOf hZ e130 f121
      obtain ⟨_, _, ⟨T132, L132, k132, n132⟩, -, X132, ⟨Lc132, hQ132, l132, y132, z132⟩, st132⟩ := X130.virtualBack hx (y := (⟨"com/example/winnowfold/winnowfold/math/DenseMatrix", "set", "(IID)V"⟩ : MethodName)) (z := (⟨"com/example/winnowfold/winnowfold/math/DenseMatrix", "set", "(IID)V"⟩ : MethodName)) hown (mvT hZ (hw _ (List.mem_of_getElem? (i := 31) rfl))) (mvT hZ (hw _ (List.mem_of_getElem? (i := 32) rfl))) (notFace_of_selects (args := #[]) (mvT hZ (hw _ (List.mem_of_getElem? (i := 34) rfl)))) (mvT hZ (hw _ (List.mem_of_getElem? (i := 34) rfl))) (mvT hZ (hw _ (List.mem_of_getElem? (i := 33) rfl))) (by decide) (backOf (W := 0) (rm6 l Z ar hw [] b114 ((0 : Int32)) ((0 : Int32)) ((own_val p1)) ((1 : Int32)) ((2 : Int32)) x0_120 kx_x0_120 ((2 : Int32)) ([(.double (0 : UInt64)), (.double (0 : UInt64))]) ((.double (0 : UInt64))) T120.heap n0 z128 f121 f122 f123 f124 f125 (by decide) (by decide) (by decide) (by decide) (by decide) (show ((((0 : Int32) * (2 : Int32)) + (0 : Int32))).toNatClampNeg < 2 by decide) ne_b114_x0_120 g_x0_120) hZ (hw _ (List.mem_of_getElem? (i := 35) rfl)) (hw _ (List.mem_of_getElem? (i := 2) rfl)) (by decide) (by decide)) qa132 qc132 (g := (mkF m 50 #[.val (.int p0), .val (.int p1), .val (.int p2), .val (.int p3), .val (.int p4), .val (.int (1 : Int32)), .val (.int (2 : Int32)), .val (.ref b114), .val (.int (0 : Int32))] [(.double (own_val p1)), (.int (0 : Int32)), (.int (0 : Int32)), (.ref b114)])) rfl (by rw [hml]; rfl) (Steps.refl _) (argsL := [(.int (0 : Int32)), (.int (0 : Int32)), (.double (own_val p1))]) (rest := []) (lenOf pd0_3 rfl) rfl (by show 2 * 0 + _ ≤ _; exact Nat.le_of_eq rfl) (hb hby at_50) (fun _ _ => ⟨rfl, e130, (by decide : 2 + 0 ≤ _), (by decide : 5 + 0 ≤ _)⟩)
      dsimp only [Pt.U, Pt.locs, Pt.cells, Pt.slots] at X132 l132 y132 z132 st132 hQ132
      subst l132 y132 z132
      obtain ⟨rfl, N132q, K132, f133⟩ := hQ132
      have n134 := Fr.app n131 N132q
      have f135 := f121.keep K132
      have f136 := f122.keep K132 (ninS ne_b114_x0_120 nin0)
      have f137 := f123.keep K132 (ninS ne_b114_x0_120 nin0)
      have f138 := f124.keep K132 (ninS ne_b114_x0_120 nin0)
      have f139 := own_ve (vs' := [(.double (own_val p1)), (.double (0 : UInt64))]) f133 (by rw [show ((((0 : Int32) * (2 : Int32)) + (0 : Int32))).toNatClampNeg = 0 by decide]; rfl)
      have z140 := Nat.le_trans z128 K132.1
      have k141 := k129.trans K132 (allS (Or.inr sz_x0_120) all0)
      refine own_tr (T' := T132) (g' := (mkF m 53 #[.val (.int p0), .val (.int p1), .val (.int p2), .val (.int p3), .val (.int p4), .val (.int (1 : Int32)), .val (.int (2 : Int32)), .val (.ref b114), .val (.int (0 : Int32))] [])) st132 ?_
      refine own_st (T' := T132) (g' := (mkF m 56 #[.val (.int p0), .val (.int p1), .val (.int p2), .val (.int p3), .val (.int p4), .val (.int (1 : Int32)), .val (.int (2 : Int32)), .val (.ref b114), .val (.int (0 : Int32))] [(.int p1), (.int (0 : Int32))])) (fun t k => ?_) ?_
      · show Steps p.tables e below (T132.setTop (mkF m 53 #[.val (.int p0), .val (.int p1), .val (.int p2), .val (.int p3), .val (.int p4), .val (.int (1 : Int32)), .val (.int (2 : Int32)), .val (.ref b114), .val (.int (0 : Int32))] [])) t
        refine XS.iload X132.here hx rfl (hb hby at_53) rfl ?_
        show Steps p.tables e below (T132.setTop (mkF m 55 #[.val (.int p0), .val (.int p1), .val (.int p2), .val (.int p3), .val (.int p4), .val (.int (1 : Int32)), .val (.int (2 : Int32)), .val (.ref b114), .val (.int (0 : Int32))] [(.int (0 : Int32))])) t
        refine XS.iloadN X132.here hx rfl (hb hby at_55) rfl ?_
        exact k
      obtain ⟨_, _, ⟨T142, L142, k142, n142⟩, -, X142, ⟨Lc142, hQ142, l142, y142, z142⟩, st142⟩ := Jvm.LawKit.callS X132 hx (y := (⟨"com/example/winnowfold/winnowfold/math/DenseMatrixNonZeroCountPinLaw", "nz", "(I)I"⟩ : MethodName)) hown (mvT hZ (hw _ (List.mem_of_getElem? (i := 56) rfl))) (mvT hZ (hw _ (List.mem_of_getElem? (i := 57) rfl))) (mvT hZ (hw _ (List.mem_of_getElem? (i := 29) rfl))) (mvT hZ (hw _ (List.mem_of_getElem? (i := 58) rfl))) (by decide) (backOf (W := 1) (rm11 l Z ar hw [] p1 T132.heap n0 z140) hZ (hw _ (List.mem_of_getElem? (i := 58) rfl)) (hw _ (List.mem_of_getElem? (i := 29) rfl)) (by decide) (by decide)) (g := (mkF m 56 #[.val (.int p0), .val (.int p1), .val (.int p2), .val (.int p3), .val (.int p4), .val (.int (1 : Int32)), .val (.int (2 : Int32)), .val (.ref b114), .val (.int (0 : Int32))] [(.int p1), (.int (0 : Int32))])) rfl (by rw [hml]; rfl) (argsL := [(.int p1)]) (rest := [(.int (0 : Int32))]) (lenOf pd0_4 rfl) rfl (by show 2 * 0 + _ ≤ _; exact Nat.le_of_eq rfl) (hb hby at_56) (fun _ _ => ⟨rfl, (rfl : T132.heap = T132.heap), (by decide : 2 + 0 ≤ _), (by decide : 5 + 0 ≤ _)⟩)
      dsimp only [Pt.U, Pt.locs, Pt.cells, Pt.slots] at X142 l142 y142 z142 st142 hQ142
      subst l142 y142 z142
      obtain ⟨rfl, N142q, e142⟩ := hQ142
      have n143 := Fr.app n134 N142q
      refine own_st (T' := T142) (g' := (mkF m 59 #[.val (.int p0), .val (.int p1), .val (.int p2), .val (.int p3), .val (.int p4), .val (.int (1 : Int32)), .val (.int (2 : Int32)), .val (.ref b114), .val (.int (0 : Int32))] [(.int (own_cnt p1)), (.int (0 : Int32))])) st142 ?_
      refine own_st (T' := T142) (g' := (mkF m 78 #[.val (.int p0), .val (.int p1), .val (.int p2), .val (.int p3), .val (.int p4), .val (.int (1 : Int32)), .val (.int (2 : Int32)), .val (.ref b114), .val (.int ((0 : Int32) + (own_cnt p1)))] [(.int p2), (.int (1 : Int32)), (.int (0 : Int32)), (.ref b114)])) (fun t k => ?_) ?_
      · show Steps p.tables e below (T142.setTop (mkF m 59 #[.val (.int p0), .val (.int p1), .val (.int p2), .val (.int p3), .val (.int p4), .val (.int (1 : Int32)), .val (.int (2 : Int32)), .val (.ref b114), .val (.int (0 : Int32))] [(.int (own_cnt p1)), (.int (0 : Int32))])) t
        refine XS.iadd X142.here hx rfl (hb hby at_59) rfl ?_
        show Steps p.tables e below (T142.setTop (mkF m 60 #[.val (.int p0), .val (.int p1), .val (.int p2), .val (.int p3), .val (.int p4), .val (.int (1 : Int32)), .val (.int (2 : Int32)), .val (.ref b114), .val (.int (0 : Int32))] [(.int ((0 : Int32) + (own_cnt p1)))])) t
        refine XS.istore X142.here hx rfl (hb hby at_60) rfl (l' := #[.val (.int p0), .val (.int p1), .val (.int p2), .val (.int p3), .val (.int p4), .val (.int (1 : Int32)), .val (.int (2 : Int32)), .val (.ref b114), .val (.int ((0 : Int32) + (own_cnt p1)))]) rfl ?_
        show Steps p.tables e below (T142.setTop (mkF m 62 #[.val (.int p0), .val (.int p1), .val (.int p2), .val (.int p3), .val (.int p4), .val (.int (1 : Int32)), .val (.int (2 : Int32)), .val (.ref b114), .val (.int ((0 : Int32) + (own_cnt p1)))] [])) t
        refine XS.iload X142.here hx rfl (hb hby at_62) rfl ?_
        show Steps p.tables e below (T142.setTop (mkF m 64 #[.val (.int p0), .val (.int p1), .val (.int p2), .val (.int p3), .val (.int p4), .val (.int (1 : Int32)), .val (.int (2 : Int32)), .val (.ref b114), .val (.int ((0 : Int32) + (own_cnt p1)))] [(.int (1 : Int32))])) t
        refine XS.ifNo X142.here hx rfl (hb hby at_64) rfl (by decide) ?_
        show Steps p.tables e below (T142.setTop (mkF m 67 #[.val (.int p0), .val (.int p1), .val (.int p2), .val (.int p3), .val (.int p4), .val (.int (1 : Int32)), .val (.int (2 : Int32)), .val (.ref b114), .val (.int ((0 : Int32) + (own_cnt p1)))] [])) t
        refine XS.iload X142.here hx rfl (hb hby at_67) rfl ?_
        show Steps p.tables e below (T142.setTop (mkF m 69 #[.val (.int p0), .val (.int p1), .val (.int p2), .val (.int p3), .val (.int p4), .val (.int (1 : Int32)), .val (.int (2 : Int32)), .val (.ref b114), .val (.int ((0 : Int32) + (own_cnt p1)))] [(.int (2 : Int32))])) t
        refine XS.iconst X142.here hx rfl (hb hby at_69) ?_
        show Steps p.tables e below (T142.setTop (mkF m 70 #[.val (.int p0), .val (.int p1), .val (.int p2), .val (.int p3), .val (.int p4), .val (.int (1 : Int32)), .val (.int (2 : Int32)), .val (.ref b114), .val (.int ((0 : Int32) + (own_cnt p1)))] [(.int (1 : Int32)), (.int (2 : Int32))])) t
        refine XS.icmpNo X142.here hx rfl (hb hby at_70) rfl (by decide) ?_
        show Steps p.tables e below (T142.setTop (mkF m 73 #[.val (.int p0), .val (.int p1), .val (.int p2), .val (.int p3), .val (.int p4), .val (.int (1 : Int32)), .val (.int (2 : Int32)), .val (.ref b114), .val (.int ((0 : Int32) + (own_cnt p1)))] [])) t
        refine XS.aload X142.here hx rfl (hb hby at_73) rfl rfl ?_
        show Steps p.tables e below (T142.setTop (mkF m 75 #[.val (.int p0), .val (.int p1), .val (.int p2), .val (.int p3), .val (.int p4), .val (.int (1 : Int32)), .val (.int (2 : Int32)), .val (.ref b114), .val (.int ((0 : Int32) + (own_cnt p1)))] [(.ref b114)])) t
        refine XS.iconst X142.here hx rfl (hb hby at_75) ?_
        show Steps p.tables e below (T142.setTop (mkF m 76 #[.val (.int p0), .val (.int p1), .val (.int p2), .val (.int p3), .val (.int p4), .val (.int (1 : Int32)), .val (.int (2 : Int32)), .val (.ref b114), .val (.int ((0 : Int32) + (own_cnt p1)))] [(.int (0 : Int32)), (.ref b114)])) t
        refine XS.iconst X142.here hx rfl (hb hby at_76) ?_
        show Steps p.tables e below (T142.setTop (mkF m 77 #[.val (.int p0), .val (.int p1), .val (.int p2), .val (.int p3), .val (.int p4), .val (.int (1 : Int32)), .val (.int (2 : Int32)), .val (.ref b114), .val (.int ((0 : Int32) + (own_cnt p1)))] [(.int (1 : Int32)), (.int (0 : Int32)), (.ref b114)])) t
        refine XS.iloadN X142.here hx rfl (hb hby at_77) rfl ?_
        exact k
      obtain ⟨_, _, ⟨T144, L144, k144, n144⟩, -, X144, ⟨Lc144, hQ144, l144, y144, z144⟩, st144⟩ := Jvm.LawKit.callS X142 hx (y := (⟨"com/example/winnowfold/winnowfold/math/DenseMatrixNonZeroCountPinLaw", "val", "(I)D"⟩ : MethodName)) hown (mvT hZ (hw _ (List.mem_of_getElem? (i := 27) rfl))) (mvT hZ (hw _ (List.mem_of_getElem? (i := 28) rfl))) (mvT hZ (hw _ (List.mem_of_getElem? (i := 29) rfl))) (mvT hZ (hw _ (List.mem_of_getElem? (i := 30) rfl))) (by decide) (backOf (W := 3) (rm5 l Z ar hw [] p2 T132.heap n0 z140) hZ (hw _ (List.mem_of_getElem? (i := 30) rfl)) (hw _ (List.mem_of_getElem? (i := 29) rfl)) (by decide) (by decide)) (g := (mkF m 78 #[.val (.int p0), .val (.int p1), .val (.int p2), .val (.int p3), .val (.int p4), .val (.int (1 : Int32)), .val (.int (2 : Int32)), .val (.ref b114), .val (.int ((0 : Int32) + (own_cnt p1)))] [(.int p2), (.int (1 : Int32)), (.int (0 : Int32)), (.ref b114)])) rfl (by rw [hml]; rfl) (argsL := [(.int p2)]) (rest := [(.int (1 : Int32)), (.int (0 : Int32)), (.ref b114)]) (lenOf pd0_2 rfl) rfl (by show 2 * 0 + _ ≤ _; exact Nat.le_of_eq rfl) (hb hby at_78) (fun _ _ => ⟨rfl, e142, (by decide : 2 + 0 ≤ _), (by decide : 5 + 0 ≤ _)⟩)
      dsimp only [Pt.U, Pt.locs, Pt.cells, Pt.slots] at X144 l144 y144 z144 st144 hQ144
      subst l144 y144 z144
      obtain ⟨rfl, N144q, e144⟩ := hQ144
      have n145 := Fr.app n143 N144q
      refine own_st (T' := T144) (g' := (mkF m 81 #[.val (.int p0), .val (.int p1), .val (.int p2), .val (.int p3), .val (.int p4), .val (.int (1 : Int32)), .val (.int (2 : Int32)), .val (.ref b114), .val (.int ((0 : Int32) + (own_cnt p1)))] [(.double (own_val p2)), (.int (1 : Int32)), (.int (0 : Int32)), (.ref b114)])) st144 ?_
      obtain ⟨cq146, kq146, qa146, qb146, qc146⟩ := isOf hZ e144 f135
      obtain ⟨_, _, ⟨T146, L146, k146, n146⟩, -, X146, ⟨Lc146, hQ146, l146, y146, z146⟩, st146⟩ := X144.virtualBack hx (y := (⟨"com/example/winnowfold/winnowfold/math/DenseMatrix", "set", "(IID)V"⟩ : MethodName)) (z := (⟨"com/example/winnowfold/winnowfold/math/DenseMatrix", "set", "(IID)V"⟩ : MethodName)) hown (mvT hZ (hw _ (List.mem_of_getElem? (i := 31) rfl))) (mvT hZ (hw _ (List.mem_of_getElem? (i := 32) rfl))) (notFace_of_selects (args := #[]) (mvT hZ (hw _ (List.mem_of_getElem? (i := 34) rfl)))) (mvT hZ (hw _ (List.mem_of_getElem? (i := 34) rfl))) (mvT hZ (hw _ (List.mem_of_getElem? (i := 33) rfl))) (by decide) (backOf (W := 0) (rm6 l Z ar hw [] b114 ((0 : Int32)) ((1 : Int32)) ((own_val p2)) ((1 : Int32)) ((2 : Int32)) x0_120 kx_x0_120 ((2 : Int32)) ([(.double (own_val p1)), (.double (0 : UInt64))]) ((.double (0 : UInt64))) T132.heap n0 z140 f135 f136 f137 f138 f139 (by decide) (by decide) (by decide) (by decide) (by decide) (show ((((0 : Int32) * (2 : Int32)) + (1 : Int32))).toNatClampNeg < 2 by decide) ne_b114_x0_120 g_x0_120) hZ (hw _ (List.mem_of_getElem? (i := 35) rfl)) (hw _ (List.mem_of_getElem? (i := 2) rfl)) (by decide) (by decide)) qa146 qc146 (g := (mkF m 81 #[.val (.int p0), .val (.int p1), .val (.int p2), .val (.int p3), .val (.int p4), .val (.int (1 : Int32)), .val (.int (2 : Int32)), .val (.ref b114), .val (.int ((0 : Int32) + (own_cnt p1)))] [(.double (own_val p2)), (.int (1 : Int32)), (.int (0 : Int32)), (.ref b114)])) rfl (by rw [hml]; rfl) (Steps.refl _) (argsL := [(.int (0 : Int32)), (.int (1 : Int32)), (.double (own_val p2))]) (rest := []) (lenOf pd0_3 rfl) rfl (by show 2 * 0 + _ ≤ _; exact Nat.le_of_eq rfl) (hb hby at_81) (fun _ _ => ⟨rfl, e144, (by decide : 2 + 0 ≤ _), (by decide : 5 + 0 ≤ _)⟩)
      dsimp only [Pt.U, Pt.locs, Pt.cells, Pt.slots] at X146 l146 y146 z146 st146 hQ146
      subst l146 y146 z146
      obtain ⟨rfl, N146q, K146, f147⟩ := hQ146
      have n148 := Fr.app n145 N146q
      have f149 := f135.keep K146
      have f150 := f136.keep K146 (ninS ne_b114_x0_120 nin0)
      have f151 := f137.keep K146 (ninS ne_b114_x0_120 nin0)
      have f152 := f138.keep K146 (ninS ne_b114_x0_120 nin0)
      have f153 := own_ve (vs' := [(.double (own_val p1)), (.double (own_val p2))]) f147 (by rw [show ((((0 : Int32) * (2 : Int32)) + (1 : Int32))).toNatClampNeg = 1 by decide]; rfl)
      have z154 := Nat.le_trans z140 K146.1
      have k155 := k141.trans K146 (allS (Or.inr sz_x0_120) all0)
      refine own_tr (T' := T146) (g' := (mkF m 84 #[.val (.int p0), .val (.int p1), .val (.int p2), .val (.int p3), .val (.int p4), .val (.int (1 : Int32)), .val (.int (2 : Int32)), .val (.ref b114), .val (.int ((0 : Int32) + (own_cnt p1)))] [])) st146 ?_
      refine own_st (T' := T146) (g' := (mkF m 87 #[.val (.int p0), .val (.int p1), .val (.int p2), .val (.int p3), .val (.int p4), .val (.int (1 : Int32)), .val (.int (2 : Int32)), .val (.ref b114), .val (.int ((0 : Int32) + (own_cnt p1)))] [(.int p2), (.int ((0 : Int32) + (own_cnt p1)))])) (fun t k => ?_) ?_
      · show Steps p.tables e below (T146.setTop (mkF m 84 #[.val (.int p0), .val (.int p1), .val (.int p2), .val (.int p3), .val (.int p4), .val (.int (1 : Int32)), .val (.int (2 : Int32)), .val (.ref b114), .val (.int ((0 : Int32) + (own_cnt p1)))] [])) t
        refine XS.iload X146.here hx rfl (hb hby at_84) rfl ?_
        show Steps p.tables e below (T146.setTop (mkF m 86 #[.val (.int p0), .val (.int p1), .val (.int p2), .val (.int p3), .val (.int p4), .val (.int (1 : Int32)), .val (.int (2 : Int32)), .val (.ref b114), .val (.int ((0 : Int32) + (own_cnt p1)))] [(.int ((0 : Int32) + (own_cnt p1)))])) t
        refine XS.iloadN X146.here hx rfl (hb hby at_86) rfl ?_
        exact k
      obtain ⟨_, _, ⟨T156, L156, k156, n156⟩, -, X156, ⟨Lc156, hQ156, l156, y156, z156⟩, st156⟩ := Jvm.LawKit.callS X146 hx (y := (⟨"com/example/winnowfold/winnowfold/math/DenseMatrixNonZeroCountPinLaw", "nz", "(I)I"⟩ : MethodName)) hown (mvT hZ (hw _ (List.mem_of_getElem? (i := 56) rfl))) (mvT hZ (hw _ (List.mem_of_getElem? (i := 57) rfl))) (mvT hZ (hw _ (List.mem_of_getElem? (i := 29) rfl))) (mvT hZ (hw _ (List.mem_of_getElem? (i := 58) rfl))) (by decide) (backOf (W := 1) (rm11 l Z ar hw [] p2 T146.heap n0 z154) hZ (hw _ (List.mem_of_getElem? (i := 58) rfl)) (hw _ (List.mem_of_getElem? (i := 29) rfl)) (by decide) (by decide)) (g := (mkF m 87 #[.val (.int p0), .val (.int p1), .val (.int p2), .val (.int p3), .val (.int p4), .val (.int (1 : Int32)), .val (.int (2 : Int32)), .val (.ref b114), .val (.int ((0 : Int32) + (own_cnt p1)))] [(.int p2), (.int ((0 : Int32) + (own_cnt p1)))])) rfl (by rw [hml]; rfl) (argsL := [(.int p2)]) (rest := [(.int ((0 : Int32) + (own_cnt p1)))]) (lenOf pd0_4 rfl) rfl (by show 2 * 0 + _ ≤ _; exact Nat.le_of_eq rfl) (hb hby at_87) (fun _ _ => ⟨rfl, (rfl : T146.heap = T146.heap), (by decide : 2 + 0 ≤ _), (by decide : 5 + 0 ≤ _)⟩)
      dsimp only [Pt.U, Pt.locs, Pt.cells, Pt.slots] at X156 l156 y156 z156 st156 hQ156
      subst l156 y156 z156
      obtain ⟨rfl, N156q, e156⟩ := hQ156
      have n157 := Fr.app n148 N156q
      refine own_st (T' := T156) (g' := (mkF m 90 #[.val (.int p0), .val (.int p1), .val (.int p2), .val (.int p3), .val (.int p4), .val (.int (1 : Int32)), .val (.int (2 : Int32)), .val (.ref b114), .val (.int ((0 : Int32) + (own_cnt p1)))] [(.int (own_cnt p2)), (.int ((0 : Int32) + (own_cnt p1)))])) st156 ?_
      refine own_st (T' := T156) (g' := (mkF m 160 #[.val (.int p0), .val (.int p1), .val (.int p2), .val (.int p3), .val (.int p4), .val (.int (1 : Int32)), .val (.int (2 : Int32)), .val (.ref b114), .val (.int (((0 : Int32) + (own_cnt p1)) + (own_cnt p2)))] [(.ref b114)])) (fun t k => ?_) ?_
      · show Steps p.tables e below (T156.setTop (mkF m 90 #[.val (.int p0), .val (.int p1), .val (.int p2), .val (.int p3), .val (.int p4), .val (.int (1 : Int32)), .val (.int (2 : Int32)), .val (.ref b114), .val (.int ((0 : Int32) + (own_cnt p1)))] [(.int (own_cnt p2)), (.int ((0 : Int32) + (own_cnt p1)))])) t
        refine XS.iadd X156.here hx rfl (hb hby at_90) rfl ?_
        show Steps p.tables e below (T156.setTop (mkF m 91 #[.val (.int p0), .val (.int p1), .val (.int p2), .val (.int p3), .val (.int p4), .val (.int (1 : Int32)), .val (.int (2 : Int32)), .val (.ref b114), .val (.int ((0 : Int32) + (own_cnt p1)))] [(.int (((0 : Int32) + (own_cnt p1)) + (own_cnt p2)))])) t
        refine XS.istore X156.here hx rfl (hb hby at_91) rfl (l' := #[.val (.int p0), .val (.int p1), .val (.int p2), .val (.int p3), .val (.int p4), .val (.int (1 : Int32)), .val (.int (2 : Int32)), .val (.ref b114), .val (.int (((0 : Int32) + (own_cnt p1)) + (own_cnt p2)))]) rfl ?_
        show Steps p.tables e below (T156.setTop (mkF m 93 #[.val (.int p0), .val (.int p1), .val (.int p2), .val (.int p3), .val (.int p4), .val (.int (1 : Int32)), .val (.int (2 : Int32)), .val (.ref b114), .val (.int (((0 : Int32) + (own_cnt p1)) + (own_cnt p2)))] [])) t
        refine XS.iload X156.here hx rfl (hb hby at_93) rfl ?_
        show Steps p.tables e below (T156.setTop (mkF m 95 #[.val (.int p0), .val (.int p1), .val (.int p2), .val (.int p3), .val (.int p4), .val (.int (1 : Int32)), .val (.int (2 : Int32)), .val (.ref b114), .val (.int (((0 : Int32) + (own_cnt p1)) + (own_cnt p2)))] [(.int (1 : Int32))])) t
        refine XS.iconst X156.here hx rfl (hb hby at_95) ?_
        show Steps p.tables e below (T156.setTop (mkF m 96 #[.val (.int p0), .val (.int p1), .val (.int p2), .val (.int p3), .val (.int p4), .val (.int (1 : Int32)), .val (.int (2 : Int32)), .val (.ref b114), .val (.int (((0 : Int32) + (own_cnt p1)) + (own_cnt p2)))] [(.int (1 : Int32)), (.int (1 : Int32))])) t
        refine XS.icmpYes X156.here hx rfl (pc0 := 96) (pc' := 124) rfl (hb hby at_96) rfl (by decide) (by decide) (by decide) ?_
        show Steps p.tables e below (T156.setTop (mkF m 124 #[.val (.int p0), .val (.int p1), .val (.int p2), .val (.int p3), .val (.int p4), .val (.int (1 : Int32)), .val (.int (2 : Int32)), .val (.ref b114), .val (.int (((0 : Int32) + (own_cnt p1)) + (own_cnt p2)))] [])) t
        refine XS.iload X156.here hx rfl (hb hby at_124) rfl ?_
        show Steps p.tables e below (T156.setTop (mkF m 126 #[.val (.int p0), .val (.int p1), .val (.int p2), .val (.int p3), .val (.int p4), .val (.int (1 : Int32)), .val (.int (2 : Int32)), .val (.ref b114), .val (.int (((0 : Int32) + (own_cnt p1)) + (own_cnt p2)))] [(.int (1 : Int32))])) t
        refine XS.iconst X156.here hx rfl (hb hby at_126) ?_
        show Steps p.tables e below (T156.setTop (mkF m 127 #[.val (.int p0), .val (.int p1), .val (.int p2), .val (.int p3), .val (.int p4), .val (.int (1 : Int32)), .val (.int (2 : Int32)), .val (.ref b114), .val (.int (((0 : Int32) + (own_cnt p1)) + (own_cnt p2)))] [(.int (1 : Int32)), (.int (1 : Int32))])) t
        refine XS.icmpYes X156.here hx rfl (pc0 := 127) (pc' := 158) rfl (hb hby at_127) rfl (by decide) (by decide) (by decide) ?_
        show Steps p.tables e below (T156.setTop (mkF m 158 #[.val (.int p0), .val (.int p1), .val (.int p2), .val (.int p3), .val (.int p4), .val (.int (1 : Int32)), .val (.int (2 : Int32)), .val (.ref b114), .val (.int (((0 : Int32) + (own_cnt p1)) + (own_cnt p2)))] [])) t
        refine XS.aload X156.here hx rfl (hb hby at_158) rfl rfl ?_
        exact k
      obtain ⟨cq158, kq158, qa158, qb158, qc158⟩ := isOf hZ e156 f149
      obtain ⟨_, _, ⟨T158, L158, k158, n158⟩, -, X158, ⟨Lc158, hQ158, l158, y158, z158⟩, st158⟩ := X156.virtualBack hx (y := (⟨"com/example/winnowfold/winnowfold/math/DenseMatrix", "nonZeroCount", "()I"⟩ : MethodName)) (z := (⟨"com/example/winnowfold/winnowfold/math/DenseMatrix", "nonZeroCount", "()I"⟩ : MethodName)) hown (mvT hZ (hw _ (List.mem_of_getElem? (i := 22) rfl))) (mvT hZ (hw _ (List.mem_of_getElem? (i := 23) rfl))) (notFace_of_selects (args := #[]) (mvT hZ (hw _ (List.mem_of_getElem? (i := 25) rfl)))) (mvT hZ (hw _ (List.mem_of_getElem? (i := 25) rfl))) (mvT hZ (hw _ (List.mem_of_getElem? (i := 24) rfl))) (by decide) (backOf (W := 0) (rmz2 l Z ar hw [] b114 x0_120 kx_x0_120 ((own_val p1)) ((own_val p2)) T146.heap n0 z154 f149 f152 f153) hZ (hw _ (List.mem_of_getElem? (i := 26) rfl)) (hw _ (List.mem_of_getElem? (i := 2) rfl)) (by decide) (by decide)) qa158 qc158 (g := (mkF m 160 #[.val (.int p0), .val (.int p1), .val (.int p2), .val (.int p3), .val (.int p4), .val (.int (1 : Int32)), .val (.int (2 : Int32)), .val (.ref b114), .val (.int (((0 : Int32) + (own_cnt p1)) + (own_cnt p2)))] [(.ref b114)])) rfl (by rw [hml]; rfl) (Steps.refl _) (argsL := []) (rest := []) (lenOf pd0_1 rfl) rfl (by show 2 * 0 + _ ≤ _; exact Nat.le_of_eq rfl) (hb hby at_160) (fun _ _ => ⟨rfl, e156, (by decide : 2 + 0 ≤ _), (by decide : 5 + 0 ≤ _)⟩)
      dsimp only [Pt.U, Pt.locs, Pt.cells, Pt.slots] at X158 l158 y158 z158 st158 hQ158
      subst l158 y158 z158
      obtain ⟨rfl, N158q, e158⟩ := hQ158
      have n159 := Fr.app n157 N158q
      refine own_tr (T' := T158) (g' := (mkF m 163 #[.val (.int p0), .val (.int p1), .val (.int p2), .val (.int p3), .val (.int p4), .val (.int (1 : Int32)), .val (.int (2 : Int32)), .val (.ref b114), .val (.int (((0 : Int32) + (own_cnt p1)) + (own_cnt p2)))] [(.int (own_z (own_z (0 : Int32) (own_val p1)) (own_val p2)))])) st158 ?_
      refine own_st (T' := T158) (g' := (mkF m 173 #[.val (.int p0), .val (.int p1), .val (.int p2), .val (.int p3), .val (.int p4), .val (.int (1 : Int32)), .val (.int (2 : Int32)), .val (.ref b114), .val (.int (((0 : Int32) + (own_cnt p1)) + (own_cnt p2)))] [(.int (1 : Int32))])) (fun t k => ?_) ?_
      · show Steps p.tables e below (T158.setTop (mkF m 163 #[.val (.int p0), .val (.int p1), .val (.int p2), .val (.int p3), .val (.int p4), .val (.int (1 : Int32)), .val (.int (2 : Int32)), .val (.ref b114), .val (.int (((0 : Int32) + (own_cnt p1)) + (own_cnt p2)))] [(.int (own_z (own_z (0 : Int32) (own_val p1)) (own_val p2)))])) t
        refine XS.iload X158.here hx rfl (hb hby at_163) rfl ?_
        show Steps p.tables e below (T158.setTop (mkF m 165 #[.val (.int p0), .val (.int p1), .val (.int p2), .val (.int p3), .val (.int p4), .val (.int (1 : Int32)), .val (.int (2 : Int32)), .val (.ref b114), .val (.int (((0 : Int32) + (own_cnt p1)) + (own_cnt p2)))] [(.int (((0 : Int32) + (own_cnt p1)) + (own_cnt p2))), (.int (own_z (own_z (0 : Int32) (own_val p1)) (own_val p2)))])) t
        refine XS.icmpNo X158.here hx rfl (hb hby at_165) rfl (teq ((by simp only [own_zc]) : (own_z (own_z (0 : Int32) (own_val p1)) (own_val p2)) = (((0 : Int32) + (own_cnt p1)) + (own_cnt p2)))).2 ?_
        show Steps p.tables e below (T158.setTop (mkF m 168 #[.val (.int p0), .val (.int p1), .val (.int p2), .val (.int p3), .val (.int p4), .val (.int (1 : Int32)), .val (.int (2 : Int32)), .val (.ref b114), .val (.int (((0 : Int32) + (own_cnt p1)) + (own_cnt p2)))] [])) t
        refine XS.iconst X158.here hx rfl (hb hby at_168) ?_
        show Steps p.tables e below (T158.setTop (mkF m 169 #[.val (.int p0), .val (.int p1), .val (.int p2), .val (.int p3), .val (.int p4), .val (.int (1 : Int32)), .val (.int (2 : Int32)), .val (.ref b114), .val (.int (((0 : Int32) + (own_cnt p1)) + (own_cnt p2)))] [(.int (1 : Int32))])) t
        refine XS.goto X158.here hx rfl (pc0 := 169) (pc' := 173) rfl (hb hby at_169) (by decide) (by decide) ?_
        exact k
      refine own_retZ X158 hx hlk Bd.returns (hb hby at_173) rfl (by decide) (by decide) ?_
      show Q0 Z p0 p1 p2 p3 p4 h0 n0 (some (.int (1 : Int32))) T158.heap _
      exact ⟨rfl, n159⟩
  · rw [hk5_3]
    refine own_st (T' := s₁) (g' := (mkF m 14 #[.val (.int p0), .val (.int p1), .val (.int p2), .val (.int p3), .val (.int p4), .val (.int (2 : Int32)), .unset, .unset, .unset] [(.int ((((p0.toUInt32 >>> ((2 : Int32) &&& 31).toUInt32).toInt32) &&& (3 : Int32)) % (3 : Int32)))])) (fun t k => ?_) ?_
    · show Steps p.tables e below (s₁.setTop (mkF m 5 #[.val (.int p0), .val (.int p1), .val (.int p2), .val (.int p3), .val (.int p4), .unset, .unset, .unset, .unset] [(.int (2 : Int32))])) t
      refine XS.istore X0.here hx rfl (hb hby at_5) rfl (l' := #[.val (.int p0), .val (.int p1), .val (.int p2), .val (.int p3), .val (.int p4), .val (.int (2 : Int32)), .unset, .unset, .unset]) rfl ?_
      show Steps p.tables e below (s₁.setTop (mkF m 7 #[.val (.int p0), .val (.int p1), .val (.int p2), .val (.int p3), .val (.int p4), .val (.int (2 : Int32)), .unset, .unset, .unset] [])) t
      refine XS.iloadN X0.here hx rfl (hb hby at_7) rfl ?_
      show Steps p.tables e below (s₁.setTop (mkF m 8 #[.val (.int p0), .val (.int p1), .val (.int p2), .val (.int p3), .val (.int p4), .val (.int (2 : Int32)), .unset, .unset, .unset] [(.int p0)])) t
      refine XS.iconst X0.here hx rfl (hb hby at_8) ?_
      show Steps p.tables e below (s₁.setTop (mkF m 9 #[.val (.int p0), .val (.int p1), .val (.int p2), .val (.int p3), .val (.int p4), .val (.int (2 : Int32)), .unset, .unset, .unset] [(.int (2 : Int32)), (.int p0)])) t
      refine XS.iushr X0.here hx rfl (hb hby at_9) rfl ?_
      show Steps p.tables e below (s₁.setTop (mkF m 10 #[.val (.int p0), .val (.int p1), .val (.int p2), .val (.int p3), .val (.int p4), .val (.int (2 : Int32)), .unset, .unset, .unset] [(.int ((p0.toUInt32 >>> ((2 : Int32) &&& 31).toUInt32).toInt32))])) t
      refine XS.iconst X0.here hx rfl (hb hby at_10) ?_
      show Steps p.tables e below (s₁.setTop (mkF m 11 #[.val (.int p0), .val (.int p1), .val (.int p2), .val (.int p3), .val (.int p4), .val (.int (2 : Int32)), .unset, .unset, .unset] [(.int (3 : Int32)), (.int ((p0.toUInt32 >>> ((2 : Int32) &&& 31).toUInt32).toInt32))])) t
      refine XS.iand X0.here hx rfl (hb hby at_11) rfl ?_
      show Steps p.tables e below (s₁.setTop (mkF m 12 #[.val (.int p0), .val (.int p1), .val (.int p2), .val (.int p3), .val (.int p4), .val (.int (2 : Int32)), .unset, .unset, .unset] [(.int (((p0.toUInt32 >>> ((2 : Int32) &&& 31).toUInt32).toInt32) &&& (3 : Int32)))])) t
      refine XS.iconst X0.here hx rfl (hb hby at_12) ?_
      show Steps p.tables e below (s₁.setTop (mkF m 13 #[.val (.int p0), .val (.int p1), .val (.int p2), .val (.int p3), .val (.int p4), .val (.int (2 : Int32)), .unset, .unset, .unset] [(.int (3 : Int32)), (.int (((p0.toUInt32 >>> ((2 : Int32) &&& 31).toUInt32).toInt32) &&& (3 : Int32)))])) t
      refine iremM X0 hx rfl (hb hby at_13) rfl (by decide) ?_
      exact k
    rcases own_m3 _ with hk14_160 | hk14_161 | hk14_162
    · rw [hk14_160]
      refine own_st (T' := s₁) (g' := (mkF m 16 #[.val (.int p0), .val (.int p1), .val (.int p2), .val (.int p3), .val (.int p4), .val (.int (2 : Int32)), .val (.int (0 : Int32)), .unset, .unset] [])) (fun t k => ?_) ?_
      · show Steps p.tables e below (s₁.setTop (mkF m 14 #[.val (.int p0), .val (.int p1), .val (.int p2), .val (.int p3), .val (.int p4), .val (.int (2 : Int32)), .unset, .unset, .unset] [(.int (0 : Int32))])) t
        refine XS.istore X0.here hx rfl (hb hby at_14) rfl (l' := #[.val (.int p0), .val (.int p1), .val (.int p2), .val (.int p3), .val (.int p4), .val (.int (2 : Int32)), .val (.int (0 : Int32)), .unset, .unset]) rfl ?_
        exact k
      obtain ⟨T163, h163, X163, e163, E163, A163, D163, -, st163⟩ := newO X0 hx hZ hown (hw _ (List.mem_of_getElem? (i := 0) rfl)) (hw _ (List.mem_of_getElem? (i := 1) rfl)) (hw _ (List.mem_of_getElem? (i := 2) rfl)) e0 (g := (mkF m 16 #[.val (.int p0), .val (.int p1), .val (.int p2), .val (.int p3), .val (.int p4), .val (.int (2 : Int32)), .val (.int (0 : Int32)), .unset, .unset] [])) rfl (hb hby at_16) (by decide) (by decide)
      obtain ⟨b163, g163⟩ : ∃ z, z = h0.size := ⟨_, rfl⟩
      rw [← g163] at A163 D163 st163
      have g_b163 : n0 ≤ b163 := Nat.le_trans Z0 (Nat.le_of_eq g163.symm)
      have sz_b163 : h0.size ≤ b163 := Nat.le_trans K0.1 (Nat.le_of_eq g163.symm)
      have z164 := Nat.le_trans Z0 E163.1
      have k165 := K0.ext E163
      have f166 : Fld Z h163 b163 "com/example/winnowfold/winnowfold/math/AbstractMatrix" "rows" "I" (.int (0 : Int32)) := D163 (Or.inr (hw _ (List.mem_of_getElem? (i := 15) rfl))) (ty := .int) (by decide)
      have f167 : Fld Z h163 b163 "com/example/winnowfold/winnowfold/math/AbstractMatrix" "columns" "I" (.int (0 : Int32)) := D163 (Or.inr (hw _ (List.mem_of_getElem? (i := 17) rfl))) (ty := .int) (by decide)
      have f168 : Fld Z h163 b163 "com/example/winnowfold/winnowfold/math/DenseMatrix" "values" "[D" .null := D163 (Or.inr (hw _ (List.mem_of_getElem? (i := 21) rfl))) (ty := (.array .double)) (by decide)
      refine own_st (T' := T163) (g' := (mkF m 19 #[.val (.int p0), .val (.int p1), .val (.int p2), .val (.int p3), .val (.int p4), .val (.int (2 : Int32)), .val (.int (0 : Int32)), .unset, .unset] [(.ref b163)])) st163 ?_
      refine own_st (T' := T163) (g' := (mkF m 24 #[.val (.int p0), .val (.int p1), .val (.int p2), .val (.int p3), .val (.int p4), .val (.int (2 : Int32)), .val (.int (0 : Int32)), .unset, .unset] [(.int (0 : Int32)), (.int (2 : Int32)), (.ref b163), (.ref b163)])) (fun t k => ?_) ?_
      · show Steps p.tables e below (T163.setTop (mkF m 19 #[.val (.int p0), .val (.int p1), .val (.int p2), .val (.int p3), .val (.int p4), .val (.int (2 : Int32)), .val (.int (0 : Int32)), .unset, .unset] [(.ref b163)])) t
        refine XS.dup X163.here hx rfl (hb hby at_19) rfl rfl ?_
        show Steps p.tables e below (T163.setTop (mkF m 20 #[.val (.int p0), .val (.int p1), .val (.int p2), .val (.int p3), .val (.int p4), .val (.int (2 : Int32)), .val (.int (0 : Int32)), .unset, .unset] [(.ref b163), (.ref b163)])) t
        refine XS.iload X163.here hx rfl (hb hby at_20) rfl ?_
        show Steps p.tables e below (T163.setTop (mkF m 22 #[.val (.int p0), .val (.int p1), .val (.int p2), .val (.int p3), .val (.int p4), .val (.int (2 : Int32)), .val (.int (0 : Int32)), .unset, .unset] [(.int (2 : Int32)), (.ref b163), (.ref b163)])) t
        refine XS.iload X163.here hx rfl (hb hby at_22) rfl ?_
        exact k
      obtain ⟨_, _, ⟨T169, L169, k169, n169⟩, -, X169, ⟨Lc169, hQ169, l169, y169, z169⟩, st169⟩ := X163.specialBack hx (y := (⟨"com/example/winnowfold/winnowfold/math/DenseMatrix", "<init>", "(II)V"⟩ : MethodName)) rfl hown (mvT hZ (hw _ (List.mem_of_getElem? (i := 3) rfl))) (mvT hZ (hw _ (List.mem_of_getElem? (i := 4) rfl))) (mvT hZ (hw _ (List.mem_of_getElem? (i := 5) rfl))) (by decide) (backOf (W := 1) (rmI20 l Z ar hw [] b163 ((.int (0 : Int32))) ((.int (0 : Int32))) (.null) h163 n0 z164 A163 f166 f167 f168 g_b163) hZ (hw _ (List.mem_of_getElem? (i := 5) rfl)) (hw _ (List.mem_of_getElem? (i := 2) rfl)) (by decide) (by decide)) (g := (mkF m 24 #[.val (.int p0), .val (.int p1), .val (.int p2), .val (.int p3), .val (.int p4), .val (.int (2 : Int32)), .val (.int (0 : Int32)), .unset, .unset] [(.int (0 : Int32)), (.int (2 : Int32)), (.ref b163), (.ref b163)])) rfl (by rw [hml]; rfl) (Steps.refl _) (a := b163) (argsL := [(.int (2 : Int32)), (.int (0 : Int32))]) (rest := [(.ref b163)]) (lenOf pd0_0 rfl) rfl (by show 2 * 0 + _ ≤ _; exact Nat.le_of_eq rfl) (hb hby at_24) (fun _ _ => ⟨rfl, e163, (by decide : 1 + 1 ≤ _), (by decide : 3 + 0 ≤ _)⟩)
      dsimp only [Pt.U, Pt.locs, Pt.cells, Pt.slots] at X169 l169 y169 z169 st169 hQ169
      subst l169 y169 z169
      obtain ⟨x0_169, kx_x0_169, rfl, N169q, K169, sz169_x0, f170, f171, f172, f173, f174⟩ := hQ169
      have n175 := Fr.app N0 N169q
      have ne_b163_x0_169 : b163 ≠ x0_169 := Nat.ne_of_lt (Nat.lt_of_lt_of_le A163.lt sz169_x0)
      have g_x0_169 : n0 ≤ x0_169 := Nat.le_trans z164 sz169_x0
      have sz_x0_169 : h0.size ≤ x0_169 := Nat.le_trans k165.1 sz169_x0
      have f176 := A163.keep K169
      have z177 := Nat.le_trans z164 K169.1
      have k178 := k165.trans K169 (allS (Or.inr sz_b163) all0)
      refine own_tr (T' := T169) (g' := (mkF m 27 #[.val (.int p0), .val (.int p1), .val (.int p2), .val (.int p3), .val (.int p4), .val (.int (2 : Int32)), .val (.int (0 : Int32)), .unset, .unset] [(.ref b163)])) st169 ?_
      refine own_st (T' := T169) (g' := (mkF m 160 #[.val (.int p0), .val (.int p1), .val (.int p2), .val (.int p3), .val (.int p4), .val (.int (2 : Int32)), .val (.int (0 : Int32)), .val (.ref b163), .val (.int (0 : Int32))] [(.ref b163)])) (fun t k => ?_) ?_
      · show Steps p.tables e below (T169.setTop (mkF m 27 #[.val (.int p0), .val (.int p1), .val (.int p2), .val (.int p3), .val (.int p4), .val (.int (2 : Int32)), .val (.int (0 : Int32)), .unset, .unset] [(.ref b163)])) t
        refine XS.astore X169.here hx rfl (hb hby at_27) rfl rfl (l' := #[.val (.int p0), .val (.int p1), .val (.int p2), .val (.int p3), .val (.int p4), .val (.int (2 : Int32)), .val (.int (0 : Int32)), .val (.ref b163), .unset]) rfl ?_
        show Steps p.tables e below (T169.setTop (mkF m 29 #[.val (.int p0), .val (.int p1), .val (.int p2), .val (.int p3), .val (.int p4), .val (.int (2 : Int32)), .val (.int (0 : Int32)), .val (.ref b163), .unset] [])) t
        refine XS.iconst X169.here hx rfl (hb hby at_29) ?_
        show Steps p.tables e below (T169.setTop (mkF m 30 #[.val (.int p0), .val (.int p1), .val (.int p2), .val (.int p3), .val (.int p4), .val (.int (2 : Int32)), .val (.int (0 : Int32)), .val (.ref b163), .unset] [(.int (0 : Int32))])) t
        refine XS.istore X169.here hx rfl (hb hby at_30) rfl (l' := #[.val (.int p0), .val (.int p1), .val (.int p2), .val (.int p3), .val (.int p4), .val (.int (2 : Int32)), .val (.int (0 : Int32)), .val (.ref b163), .val (.int (0 : Int32))]) rfl ?_
        show Steps p.tables e below (T169.setTop (mkF m 32 #[.val (.int p0), .val (.int p1), .val (.int p2), .val (.int p3), .val (.int p4), .val (.int (2 : Int32)), .val (.int (0 : Int32)), .val (.ref b163), .val (.int (0 : Int32))] [])) t
        refine XS.iload X169.here hx rfl (hb hby at_32) rfl ?_
        show Steps p.tables e below (T169.setTop (mkF m 34 #[.val (.int p0), .val (.int p1), .val (.int p2), .val (.int p3), .val (.int p4), .val (.int (2 : Int32)), .val (.int (0 : Int32)), .val (.ref b163), .val (.int (0 : Int32))] [(.int (2 : Int32))])) t
        refine XS.ifNo X169.here hx rfl (hb hby at_34) rfl (by decide) ?_
        show Steps p.tables e below (T169.setTop (mkF m 37 #[.val (.int p0), .val (.int p1), .val (.int p2), .val (.int p3), .val (.int p4), .val (.int (2 : Int32)), .val (.int (0 : Int32)), .val (.ref b163), .val (.int (0 : Int32))] [])) t
        refine XS.iload X169.here hx rfl (hb hby at_37) rfl ?_
        show Steps p.tables e below (T169.setTop (mkF m 39 #[.val (.int p0), .val (.int p1), .val (.int p2), .val (.int p3), .val (.int p4), .val (.int (2 : Int32)), .val (.int (0 : Int32)), .val (.ref b163), .val (.int (0 : Int32))] [(.int (0 : Int32))])) t
        refine XS.ifYes X169.here hx rfl (pc0 := 39) (pc' := 62) rfl (hb hby at_39) rfl (by decide) (by decide) (by decide) ?_
        show Steps p.tables e below (T169.setTop (mkF m 62 #[.val (.int p0), .val (.int p1), .val (.int p2), .val (.int p3), .val (.int p4), .val (.int (2 : Int32)), .val (.int (0 : Int32)), .val (.ref b163), .val (.int (0 : Int32))] [])) t
        refine XS.iload X169.here hx rfl (hb hby at_62) rfl ?_
        show Steps p.tables e below (T169.setTop (mkF m 64 #[.val (.int p0), .val (.int p1), .val (.int p2), .val (.int p3), .val (.int p4), .val (.int (2 : Int32)), .val (.int (0 : Int32)), .val (.ref b163), .val (.int (0 : Int32))] [(.int (2 : Int32))])) t
        refine XS.ifNo X169.here hx rfl (hb hby at_64) rfl (by decide) ?_
        show Steps p.tables e below (T169.setTop (mkF m 67 #[.val (.int p0), .val (.int p1), .val (.int p2), .val (.int p3), .val (.int p4), .val (.int (2 : Int32)), .val (.int (0 : Int32)), .val (.ref b163), .val (.int (0 : Int32))] [])) t
        refine XS.iload X169.here hx rfl (hb hby at_67) rfl ?_
        show Steps p.tables e below (T169.setTop (mkF m 69 #[.val (.int p0), .val (.int p1), .val (.int p2), .val (.int p3), .val (.int p4), .val (.int (2 : Int32)), .val (.int (0 : Int32)), .val (.ref b163), .val (.int (0 : Int32))] [(.int (0 : Int32))])) t
        refine XS.iconst X169.here hx rfl (hb hby at_69) ?_
        show Steps p.tables e below (T169.setTop (mkF m 70 #[.val (.int p0), .val (.int p1), .val (.int p2), .val (.int p3), .val (.int p4), .val (.int (2 : Int32)), .val (.int (0 : Int32)), .val (.ref b163), .val (.int (0 : Int32))] [(.int (1 : Int32)), (.int (0 : Int32))])) t
        refine XS.icmpYes X169.here hx rfl (pc0 := 70) (pc' := 93) rfl (hb hby at_70) rfl (by decide) (by decide) (by decide) ?_
        show Steps p.tables e below (T169.setTop (mkF m 93 #[.val (.int p0), .val (.int p1), .val (.int p2), .val (.int p3), .val (.int p4), .val (.int (2 : Int32)), .val (.int (0 : Int32)), .val (.ref b163), .val (.int (0 : Int32))] [])) t
        refine XS.iload X169.here hx rfl (hb hby at_93) rfl ?_
        show Steps p.tables e below (T169.setTop (mkF m 95 #[.val (.int p0), .val (.int p1), .val (.int p2), .val (.int p3), .val (.int p4), .val (.int (2 : Int32)), .val (.int (0 : Int32)), .val (.ref b163), .val (.int (0 : Int32))] [(.int (2 : Int32))])) t
        refine XS.iconst X169.here hx rfl (hb hby at_95) ?_
        show Steps p.tables e below (T169.setTop (mkF m 96 #[.val (.int p0), .val (.int p1), .val (.int p2), .val (.int p3), .val (.int p4), .val (.int (2 : Int32)), .val (.int (0 : Int32)), .val (.ref b163), .val (.int (0 : Int32))] [(.int (1 : Int32)), (.int (2 : Int32))])) t
        refine XS.icmpNo X169.here hx rfl (hb hby at_96) rfl (by decide) ?_
        show Steps p.tables e below (T169.setTop (mkF m 99 #[.val (.int p0), .val (.int p1), .val (.int p2), .val (.int p3), .val (.int p4), .val (.int (2 : Int32)), .val (.int (0 : Int32)), .val (.ref b163), .val (.int (0 : Int32))] [])) t
        refine XS.iload X169.here hx rfl (hb hby at_99) rfl ?_
        show Steps p.tables e below (T169.setTop (mkF m 101 #[.val (.int p0), .val (.int p1), .val (.int p2), .val (.int p3), .val (.int p4), .val (.int (2 : Int32)), .val (.int (0 : Int32)), .val (.ref b163), .val (.int (0 : Int32))] [(.int (0 : Int32))])) t
        refine XS.ifYes X169.here hx rfl (pc0 := 101) (pc' := 124) rfl (hb hby at_101) rfl (by decide) (by decide) (by decide) ?_
        show Steps p.tables e below (T169.setTop (mkF m 124 #[.val (.int p0), .val (.int p1), .val (.int p2), .val (.int p3), .val (.int p4), .val (.int (2 : Int32)), .val (.int (0 : Int32)), .val (.ref b163), .val (.int (0 : Int32))] [])) t
        refine XS.iload X169.here hx rfl (hb hby at_124) rfl ?_
        show Steps p.tables e below (T169.setTop (mkF m 126 #[.val (.int p0), .val (.int p1), .val (.int p2), .val (.int p3), .val (.int p4), .val (.int (2 : Int32)), .val (.int (0 : Int32)), .val (.ref b163), .val (.int (0 : Int32))] [(.int (2 : Int32))])) t
        refine XS.iconst X169.here hx rfl (hb hby at_126) ?_
        show Steps p.tables e below (T169.setTop (mkF m 127 #[.val (.int p0), .val (.int p1), .val (.int p2), .val (.int p3), .val (.int p4), .val (.int (2 : Int32)), .val (.int (0 : Int32)), .val (.ref b163), .val (.int (0 : Int32))] [(.int (1 : Int32)), (.int (2 : Int32))])) t
        refine XS.icmpNo X169.here hx rfl (hb hby at_127) rfl (by decide) ?_
        show Steps p.tables e below (T169.setTop (mkF m 130 #[.val (.int p0), .val (.int p1), .val (.int p2), .val (.int p3), .val (.int p4), .val (.int (2 : Int32)), .val (.int (0 : Int32)), .val (.ref b163), .val (.int (0 : Int32))] [])) t
        refine XS.iload X169.here hx rfl (hb hby at_130) rfl ?_
        show Steps p.tables e below (T169.setTop (mkF m 132 #[.val (.int p0), .val (.int p1), .val (.int p2), .val (.int p3), .val (.int p4), .val (.int (2 : Int32)), .val (.int (0 : Int32)), .val (.ref b163), .val (.int (0 : Int32))] [(.int (0 : Int32))])) t
        refine XS.iconst X169.here hx rfl (hb hby at_132) ?_
        show Steps p.tables e below (T169.setTop (mkF m 133 #[.val (.int p0), .val (.int p1), .val (.int p2), .val (.int p3), .val (.int p4), .val (.int (2 : Int32)), .val (.int (0 : Int32)), .val (.ref b163), .val (.int (0 : Int32))] [(.int (1 : Int32)), (.int (0 : Int32))])) t
        refine XS.icmpYes X169.here hx rfl (pc0 := 133) (pc' := 158) rfl (hb hby at_133) rfl (by decide) (by decide) (by decide) ?_
        show Steps p.tables e below (T169.setTop (mkF m 158 #[.val (.int p0), .val (.int p1), .val (.int p2), .val (.int p3), .val (.int p4), .val (.int (2 : Int32)), .val (.int (0 : Int32)), .val (.ref b163), .val (.int (0 : Int32))] [])) t
        refine XS.aload X169.here hx rfl (hb hby at_158) rfl rfl ?_
        exact k
      obtain ⟨cq179, kq179, qa179, qb179, qc179⟩ := isOf hZ (rfl : T169.heap = T169.heap) f170
      obtain ⟨_, _, ⟨T179, L179, k179, n179⟩, -, X179, ⟨Lc179, hQ179, l179, y179, z179⟩, st179⟩ := X169.virtualBack hx (y := (⟨"com/example/winnowfold/winnowfold/math/DenseMatrix", "nonZeroCount", "()I"⟩ : MethodName)) (z := (⟨"com/example/winnowfold/winnowfold/math/DenseMatrix", "nonZeroCount", "()I"⟩ : MethodName)) hown (mvT hZ (hw _ (List.mem_of_getElem? (i := 22) rfl))) (mvT hZ (hw _ (List.mem_of_getElem? (i := 23) rfl))) (notFace_of_selects (args := #[]) (mvT hZ (hw _ (List.mem_of_getElem? (i := 25) rfl)))) (mvT hZ (hw _ (List.mem_of_getElem? (i := 25) rfl))) (mvT hZ (hw _ (List.mem_of_getElem? (i := 24) rfl))) (by decide) (backOf (W := 0) (rmz0 l Z ar hw [] b163 x0_169 kx_x0_169 T169.heap n0 z177 f170 f173 f174) hZ (hw _ (List.mem_of_getElem? (i := 26) rfl)) (hw _ (List.mem_of_getElem? (i := 2) rfl)) (by decide) (by decide)) qa179 qc179 (g := (mkF m 160 #[.val (.int p0), .val (.int p1), .val (.int p2), .val (.int p3), .val (.int p4), .val (.int (2 : Int32)), .val (.int (0 : Int32)), .val (.ref b163), .val (.int (0 : Int32))] [(.ref b163)])) rfl (by rw [hml]; rfl) (Steps.refl _) (argsL := []) (rest := []) (lenOf pd0_1 rfl) rfl (by show 2 * 0 + _ ≤ _; exact Nat.le_of_eq rfl) (hb hby at_160) (fun _ _ => ⟨rfl, (rfl : T169.heap = T169.heap), (by decide : 2 + 0 ≤ _), (by decide : 3 + 0 ≤ _)⟩)
      dsimp only [Pt.U, Pt.locs, Pt.cells, Pt.slots] at X179 l179 y179 z179 st179 hQ179
      subst l179 y179 z179
      obtain ⟨rfl, N179q, e179⟩ := hQ179
      have n180 := Fr.app n175 N179q
      refine own_tr (T' := T179) (g' := (mkF m 163 #[.val (.int p0), .val (.int p1), .val (.int p2), .val (.int p3), .val (.int p4), .val (.int (2 : Int32)), .val (.int (0 : Int32)), .val (.ref b163), .val (.int (0 : Int32))] [(.int (0 : Int32))])) st179 ?_
      refine own_st (T' := T179) (g' := (mkF m 173 #[.val (.int p0), .val (.int p1), .val (.int p2), .val (.int p3), .val (.int p4), .val (.int (2 : Int32)), .val (.int (0 : Int32)), .val (.ref b163), .val (.int (0 : Int32))] [(.int (1 : Int32))])) (fun t k => ?_) ?_
      · show Steps p.tables e below (T179.setTop (mkF m 163 #[.val (.int p0), .val (.int p1), .val (.int p2), .val (.int p3), .val (.int p4), .val (.int (2 : Int32)), .val (.int (0 : Int32)), .val (.ref b163), .val (.int (0 : Int32))] [(.int (0 : Int32))])) t
        refine XS.iload X179.here hx rfl (hb hby at_163) rfl ?_
        show Steps p.tables e below (T179.setTop (mkF m 165 #[.val (.int p0), .val (.int p1), .val (.int p2), .val (.int p3), .val (.int p4), .val (.int (2 : Int32)), .val (.int (0 : Int32)), .val (.ref b163), .val (.int (0 : Int32))] [(.int (0 : Int32)), (.int (0 : Int32))])) t
        refine XS.icmpNo X179.here hx rfl (hb hby at_165) rfl (by decide) ?_
        show Steps p.tables e below (T179.setTop (mkF m 168 #[.val (.int p0), .val (.int p1), .val (.int p2), .val (.int p3), .val (.int p4), .val (.int (2 : Int32)), .val (.int (0 : Int32)), .val (.ref b163), .val (.int (0 : Int32))] [])) t
        refine XS.iconst X179.here hx rfl (hb hby at_168) ?_
        show Steps p.tables e below (T179.setTop (mkF m 169 #[.val (.int p0), .val (.int p1), .val (.int p2), .val (.int p3), .val (.int p4), .val (.int (2 : Int32)), .val (.int (0 : Int32)), .val (.ref b163), .val (.int (0 : Int32))] [(.int (1 : Int32))])) t
        refine XS.goto X179.here hx rfl (pc0 := 169) (pc' := 173) rfl (hb hby at_169) (by decide) (by decide) ?_
        exact k
      refine own_retZ X179 hx hlk Bd.returns (hb hby at_173) rfl (by decide) (by decide) ?_
      show Q0 Z p0 p1 p2 p3 p4 h0 n0 (some (.int (1 : Int32))) T179.heap _
      exact ⟨rfl, n180⟩
    · rw [hk14_161]
      refine own_st (T' := s₁) (g' := (mkF m 16 #[.val (.int p0), .val (.int p1), .val (.int p2), .val (.int p3), .val (.int p4), .val (.int (2 : Int32)), .val (.int (1 : Int32)), .unset, .unset] [])) (fun t k => ?_) ?_
      · show Steps p.tables e below (s₁.setTop (mkF m 14 #[.val (.int p0), .val (.int p1), .val (.int p2), .val (.int p3), .val (.int p4), .val (.int (2 : Int32)), .unset, .unset, .unset] [(.int (1 : Int32))])) t
        refine XS.istore X0.here hx rfl (hb hby at_14) rfl (l' := #[.val (.int p0), .val (.int p1), .val (.int p2), .val (.int p3), .val (.int p4), .val (.int (2 : Int32)), .val (.int (1 : Int32)), .unset, .unset]) rfl ?_
        exact k
      obtain ⟨T181, h181, X181, e181, E181, A181, D181, -, st181⟩ := newO X0 hx hZ hown (hw _ (List.mem_of_getElem? (i := 0) rfl)) (hw _ (List.mem_of_getElem? (i := 1) rfl)) (hw _ (List.mem_of_getElem? (i := 2) rfl)) e0 (g := (mkF m 16 #[.val (.int p0), .val (.int p1), .val (.int p2), .val (.int p3), .val (.int p4), .val (.int (2 : Int32)), .val (.int (1 : Int32)), .unset, .unset] [])) rfl (hb hby at_16) (by decide) (by decide)
      obtain ⟨b181, g181⟩ : ∃ z, z = h0.size := ⟨_, rfl⟩
      rw [← g181] at A181 D181 st181
      have g_b181 : n0 ≤ b181 := Nat.le_trans Z0 (Nat.le_of_eq g181.symm)
      have sz_b181 : h0.size ≤ b181 := Nat.le_trans K0.1 (Nat.le_of_eq g181.symm)
      have z182 := Nat.le_trans Z0 E181.1
      have k183 := K0.ext E181
      have f184 : Fld Z h181 b181 "com/example/winnowfold/winnowfold/math/AbstractMatrix" "rows" "I" (.int (0 : Int32)) := D181 (Or.inr (hw _ (List.mem_of_getElem? (i := 15) rfl))) (ty := .int) (by decide)
      have f185 : Fld Z h181 b181 "com/example/winnowfold/winnowfold/math/AbstractMatrix" "columns" "I" (.int (0 : Int32)) := D181 (Or.inr (hw _ (List.mem_of_getElem? (i := 17) rfl))) (ty := .int) (by decide)
      have f186 : Fld Z h181 b181 "com/example/winnowfold/winnowfold/math/DenseMatrix" "values" "[D" .null := D181 (Or.inr (hw _ (List.mem_of_getElem? (i := 21) rfl))) (ty := (.array .double)) (by decide)
      refine own_st (T' := T181) (g' := (mkF m 19 #[.val (.int p0), .val (.int p1), .val (.int p2), .val (.int p3), .val (.int p4), .val (.int (2 : Int32)), .val (.int (1 : Int32)), .unset, .unset] [(.ref b181)])) st181 ?_
      refine own_st (T' := T181) (g' := (mkF m 24 #[.val (.int p0), .val (.int p1), .val (.int p2), .val (.int p3), .val (.int p4), .val (.int (2 : Int32)), .val (.int (1 : Int32)), .unset, .unset] [(.int (1 : Int32)), (.int (2 : Int32)), (.ref b181), (.ref b181)])) (fun t k => ?_) ?_
      · show Steps p.tables e below (T181.setTop (mkF m 19 #[.val (.int p0), .val (.int p1), .val (.int p2), .val (.int p3), .val (.int p4), .val (.int (2 : Int32)), .val (.int (1 : Int32)), .unset, .unset] [(.ref b181)])) t
        refine XS.dup X181.here hx rfl (hb hby at_19) rfl rfl ?_
        show Steps p.tables e below (T181.setTop (mkF m 20 #[.val (.int p0), .val (.int p1), .val (.int p2), .val (.int p3), .val (.int p4), .val (.int (2 : Int32)), .val (.int (1 : Int32)), .unset, .unset] [(.ref b181), (.ref b181)])) t
        refine XS.iload X181.here hx rfl (hb hby at_20) rfl ?_
        show Steps p.tables e below (T181.setTop (mkF m 22 #[.val (.int p0), .val (.int p1), .val (.int p2), .val (.int p3), .val (.int p4), .val (.int (2 : Int32)), .val (.int (1 : Int32)), .unset, .unset] [(.int (2 : Int32)), (.ref b181), (.ref b181)])) t
        refine XS.iload X181.here hx rfl (hb hby at_22) rfl ?_
        exact k
      obtain ⟨_, _, ⟨T187, L187, k187, n187⟩, -, X187, ⟨Lc187, hQ187, l187, y187, z187⟩, st187⟩ := X181.specialBack hx (y := (⟨"com/example/winnowfold/winnowfold/math/DenseMatrix", "<init>", "(II)V"⟩ : MethodName)) rfl hown (mvT hZ (hw _ (List.mem_of_getElem? (i := 3) rfl))) (mvT hZ (hw _ (List.mem_of_getElem? (i := 4) rfl))) (mvT hZ (hw _ (List.mem_of_getElem? (i := 5) rfl))) (by decide) (backOf (W := 1) (rmI21 l Z ar hw [] b181 ((.int (0 : Int32))) ((.int (0 : Int32))) (.null) h181 n0 z182 A181 f184 f185 f186 g_b181) hZ (hw _ (List.mem_of_getElem? (i := 5) rfl)) (hw _ (List.mem_of_getElem? (i := 2) rfl)) (by decide) (by decide)) (g := (mkF m 24 #[.val (.int p0), .val (.int p1), .val (.int p2), .val (.int p3), .val (.int p4), .val (.int (2 : Int32)), .val (.int (1 : Int32)), .unset, .unset] [(.int (1 : Int32)), (.int (2 : Int32)), (.ref b181), (.ref b181)])) rfl (by rw [hml]; rfl) (Steps.refl _) (a := b181) (argsL := [(.int (2 : Int32)), (.int (1 : Int32))]) (rest := [(.ref b181)]) (lenOf pd0_0 rfl) rfl (by show 2 * 0 + _ ≤ _; exact Nat.le_of_eq rfl) (hb hby at_24) (fun _ _ => ⟨rfl, e181, (by decide : 1 + 1 ≤ _), (by decide : 3 + 2 ≤ _)⟩)
      dsimp only [Pt.U, Pt.locs, Pt.cells, Pt.slots] at X187 l187 y187 z187 st187 hQ187
      subst l187 y187 z187
      obtain ⟨x0_187, kx_x0_187, rfl, N187q, K187, sz187_x0, f188, f189, f190, f191, f192⟩ := hQ187
      have n193 := Fr.app N0 N187q
      have ne_b181_x0_187 : b181 ≠ x0_187 := Nat.ne_of_lt (Nat.lt_of_lt_of_le A181.lt sz187_x0)
      have g_x0_187 : n0 ≤ x0_187 := Nat.le_trans z182 sz187_x0
      have sz_x0_187 : h0.size ≤ x0_187 := Nat.le_trans k183.1 sz187_x0
      have f194 := A181.keep K187
      have z195 := Nat.le_trans z182 K187.1
      have k196 := k183.trans K187 (allS (Or.inr sz_b181) all0)
      refine own_tr (T' := T187) (g' := (mkF m 27 #[.val (.int p0), .val (.int p1), .val (.int p2), .val (.int p3), .val (.int p4), .val (.int (2 : Int32)), .val (.int (1 : Int32)), .unset, .unset] [(.ref b181)])) st187 ?_
      refine own_st (T' := T187) (g' := (mkF m 47 #[.val (.int p0), .val (.int p1), .val (.int p2), .val (.int p3), .val (.int p4), .val (.int (2 : Int32)), .val (.int (1 : Int32)), .val (.ref b181), .val (.int (0 : Int32))] [(.int p1), (.int (0 : Int32)), (.int (0 : Int32)), (.ref b181)])) (fun t k => ?_) ?_
      · show Steps p.tables e below (T187.setTop (mkF m 27 #[.val (.int p0), .val (.int p1), .val (.int p2), .val (.int p3), .val (.int p4), .val (.int (2 : Int32)), .val (.int (1 : Int32)), .unset, .unset] [(.ref b181)])) t
        refine XS.astore X187.here hx rfl (hb hby at_27) rfl rfl (l' := #[.val (.int p0), .val (.int p1), .val (.int p2), .val (.int p3), .val (.int p4), .val (.int (2 : Int32)), .val (.int (1 : Int32)), .val (.ref b181), .unset]) rfl ?_
        show Steps p.tables e below (T187.setTop (mkF m 29 #[.val (.int p0), .val (.int p1), .val (.int p2), .val (.int p3), .val (.int p4), .val (.int (2 : Int32)), .val (.int (1 : Int32)), .val (.ref b181), .unset] [])) t
        refine XS.iconst X187.here hx rfl (hb hby at_29) ?_
        show Steps p.tables e below (T187.setTop (mkF m 30 #[.val (.int p0), .val (.int p1), .val (.int p2), .val (.int p3), .val (.int p4), .val (.int (2 : Int32)), .val (.int (1 : Int32)), .val (.ref b181), .unset] [(.int (0 : Int32))])) t
        refine XS.istore X187.here hx rfl (hb hby at_30) rfl (l' := #[.val (.int p0), .val (.int p1), .val (.int p2), .val (.int p3), .val (.int p4), .val (.int (2 : Int32)), .val (.int (1 : Int32)), .val (.ref b181), .val (.int (0 : Int32))]) rfl ?_
        show Steps p.tables e below (T187.setTop (mkF m 32 #[.val (.int p0), .val (.int p1), .val (.int p2), .val (.int p3), .val (.int p4), .val (.int (2 : Int32)), .val (.int (1 : Int32)), .val (.ref b181), .val (.int (0 : Int32))] [])) t
        refine XS.iload X187.here hx rfl (hb hby at_32) rfl ?_
        show Steps p.tables e below (T187.setTop (mkF m 34 #[.val (.int p0), .val (.int p1), .val (.int p2), .val (.int p3), .val (.int p4), .val (.int (2 : Int32)), .val (.int (1 : Int32)), .val (.ref b181), .val (.int (0 : Int32))] [(.int (2 : Int32))])) t
        refine XS.ifNo X187.here hx rfl (hb hby at_34) rfl (by decide) ?_
        show Steps p.tables e below (T187.setTop (mkF m 37 #[.val (.int p0), .val (.int p1), .val (.int p2), .val (.int p3), .val (.int p4), .val (.int (2 : Int32)), .val (.int (1 : Int32)), .val (.ref b181), .val (.int (0 : Int32))] [])) t
        refine XS.iload X187.here hx rfl (hb hby at_37) rfl ?_
        show Steps p.tables e below (T187.setTop (mkF m 39 #[.val (.int p0), .val (.int p1), .val (.int p2), .val (.int p3), .val (.int p4), .val (.int (2 : Int32)), .val (.int (1 : Int32)), .val (.ref b181), .val (.int (0 : Int32))] [(.int (1 : Int32))])) t
        refine XS.ifNo X187.here hx rfl (hb hby at_39) rfl (by decide) ?_
        show Steps p.tables e below (T187.setTop (mkF m 42 #[.val (.int p0), .val (.int p1), .val (.int p2), .val (.int p3), .val (.int p4), .val (.int (2 : Int32)), .val (.int (1 : Int32)), .val (.ref b181), .val (.int (0 : Int32))] [])) t
        refine XS.aload X187.here hx rfl (hb hby at_42) rfl rfl ?_
        show Steps p.tables e below (T187.setTop (mkF m 44 #[.val (.int p0), .val (.int p1), .val (.int p2), .val (.int p3), .val (.int p4), .val (.int (2 : Int32)), .val (.int (1 : Int32)), .val (.ref b181), .val (.int (0 : Int32))] [(.ref b181)])) t
        refine XS.iconst X187.here hx rfl (hb hby at_44) ?_
        show Steps p.tables e below (T187.setTop (mkF m 45 #[.val (.int p0), .val (.int p1), .val (.int p2), .val (.int p3), .val (.int p4), .val (.int (2 : Int32)), .val (.int (1 : Int32)), .val (.ref b181), .val (.int (0 : Int32))] [(.int (0 : Int32)), (.ref b181)])) t
        refine XS.iconst X187.here hx rfl (hb hby at_45) ?_
        show Steps p.tables e below (T187.setTop (mkF m 46 #[.val (.int p0), .val (.int p1), .val (.int p2), .val (.int p3), .val (.int p4), .val (.int (2 : Int32)), .val (.int (1 : Int32)), .val (.ref b181), .val (.int (0 : Int32))] [(.int (0 : Int32)), (.int (0 : Int32)), (.ref b181)])) t
        refine XS.iloadN X187.here hx rfl (hb hby at_46) rfl ?_
        exact k
      obtain ⟨_, _, ⟨T197, L197, k197, n197⟩, -, X197, ⟨Lc197, hQ197, l197, y197, z197⟩, st197⟩ := Jvm.LawKit.callS X187 hx (y := (⟨"com/example/winnowfold/winnowfold/math/DenseMatrixNonZeroCountPinLaw", "val", "(I)D"⟩ : MethodName)) hown (mvT hZ (hw _ (List.mem_of_getElem? (i := 27) rfl))) (mvT hZ (hw _ (List.mem_of_getElem? (i := 28) rfl))) (mvT hZ (hw _ (List.mem_of_getElem? (i := 29) rfl))) (mvT hZ (hw _ (List.mem_of_getElem? (i := 30) rfl))) (by decide) (backOf (W := 3) (rm5 l Z ar hw [] p1 T187.heap n0 z195) hZ (hw _ (List.mem_of_getElem? (i := 30) rfl)) (hw _ (List.mem_of_getElem? (i := 29) rfl)) (by decide) (by decide)) (g := (mkF m 47 #[.val (.int p0), .val (.int p1), .val (.int p2), .val (.int p3), .val (.int p4), .val (.int (2 : Int32)), .val (.int (1 : Int32)), .val (.ref b181), .val (.int (0 : Int32))] [(.int p1), (.int (0 : Int32)), (.int (0 : Int32)), (.ref b181)])) rfl (by rw [hml]; rfl) (argsL := [(.int p1)]) (rest := [(.int (0 : Int32)), (.int (0 : Int32)), (.ref b181)]) (lenOf pd0_2 rfl) rfl (by show 2 * 0 + _ ≤ _; exact Nat.le_of_eq rfl) (hb hby at_47) (fun _ _ => ⟨rfl, (rfl : T187.heap = T187.heap), (by decide : 2 + 0 ≤ _), (by decide : 5 + 0 ≤ _)⟩)
      dsimp only [Pt.U, Pt.locs, Pt.cells, Pt.slots] at X197 l197 y197 z197 st197 hQ197
      subst l197 y197 z197
      obtain ⟨rfl, N197q, e197⟩ := hQ197
      have n198 := Fr.app n193 N197q
      refine own_st (T' := T197) (g' := (mkF m 50 #[.val (.int p0), .val (.int p1), .val (.int p2), .val (.int p3), .val (.int p4), .val (.int (2 : Int32)), .val (.int (1 : Int32)), .val (.ref b181), .val (.int (0 : Int32))] [(.double (own_val p1)), (.int (0 : Int32)), (.int (0 : Int32)), (.ref b181)])) st197 ?_
      obtain ⟨cq199, kq199, qa199, qb199, qc199⟩ := isOf hZ e197 f188
      obtain ⟨_, _, ⟨T199, L199, k199, n199⟩, -, X199, ⟨Lc199, hQ199, l199, y199, z199⟩, st199⟩ := X197.virtualBack hx (y := (⟨"com/example/winnowfold/winnowfold/math/DenseMatrix", "set", "(IID)V"⟩ : MethodName)) (z := (⟨"com/example/winnowfold/winnowfold/math/DenseMatrix", "set", "(IID)V"⟩ : MethodName)) hown (mvT hZ (hw _ (List.mem_of_getElem? (i := 31) rfl))) (mvT hZ (hw _ (List.mem_of_getElem? (i := 32) rfl))) (notFace_of_selects (args := #[]) (mvT hZ (hw _ (List.mem_of_getElem? (i := 34) rfl)))) (mvT hZ (hw _ (List.mem_of_getElem? (i := 34) rfl))) (mvT hZ (hw _ (List.mem_of_getElem? (i := 33) rfl))) (by decide) (backOf (W := 0) (rm6 l Z ar hw [] b181 ((0 : Int32)) ((0 : Int32)) ((own_val p1)) ((2 : Int32)) ((1 : Int32)) x0_187 kx_x0_187 ((2 : Int32)) ([(.double (0 : UInt64)), (.double (0 : UInt64))]) ((.double (0 : UInt64))) T187.heap n0 z195 f188 f189 f190 f191 f192 (by decide) (by decide) (by decide) (by decide) (by decide) (show ((((0 : Int32) * (1 : Int32)) + (0 : Int32))).toNatClampNeg < 2 by decide) ne_b181_x0_187 g_x0_187) hZ (hw _ (List.mem_of_getElem? (i := 35) rfl)) (hw _ (List.mem_of_getElem? (i := 2) rfl)) (by decide) (by decide)) qa199 qc199 (g := (mkF m 50 #[.val (.int p0), .val (.int p1), .val (.int p2), .val (.int p3), .val (.int p4), .val (.int (2 : Int32)), .val (.int (1 : Int32)), .val (.ref b181), .val (.int (0 : Int32))] [(.double (own_val p1)), (.int (0 : Int32)), (.int (0 : Int32)), (.ref b181)])) rfl (by rw [hml]; rfl) (Steps.refl _) (argsL := [(.int (0 : Int32)), (.int (0 : Int32)), (.double (own_val p1))]) (rest := []) (lenOf pd0_3 rfl) rfl (by show 2 * 0 + _ ≤ _; exact Nat.le_of_eq rfl) (hb hby at_50) (fun _ _ => ⟨rfl, e197, (by decide : 2 + 0 ≤ _), (by decide : 5 + 0 ≤ _)⟩)
      dsimp only [Pt.U, Pt.locs, Pt.cells, Pt.slots] at X199 l199 y199 z199 st199 hQ199
      subst l199 y199 z199
      obtain ⟨rfl, N199q, K199, f200⟩ := hQ199
      have n201 := Fr.app n198 N199q
      have f202 := f188.keep K199
      have f203 := f189.keep K199 (ninS ne_b181_x0_187 nin0)
      have f204 := f190.keep K199 (ninS ne_b181_x0_187 nin0)
      have f205 := f191.keep K199 (ninS ne_b181_x0_187 nin0)
      have f206 := own_ve (vs' := [(.double (own_val p1)), (.double (0 : UInt64))]) f200 (by rw [show ((((0 : Int32) * (1 : Int32)) + (0 : Int32))).toNatClampNeg = 0 by decide]; rfl)
      have z207 := Nat.le_trans z195 K199.1
      have k208 := k196.trans K199 (allS (Or.inr sz_x0_187) all0)
      refine own_tr (T' := T199) (g' := (mkF m 53 #[.val (.int p0), .val (.int p1), .val (.int p2), .val (.int p3), .val (.int p4), .val (.int (2 : Int32)), .val (.int (1 : Int32)), .val (.ref b181), .val (.int (0 : Int32))] [])) st199 ?_
      refine own_st (T' := T199) (g' := (mkF m 56 #[.val (.int p0), .val (.int p1), .val (.int p2), .val (.int p3), .val (.int p4), .val (.int (2 : Int32)), .val (.int (1 : Int32)), .val (.ref b181), .val (.int (0 : Int32))] [(.int p1), (.int (0 : Int32))])) (fun t k => ?_) ?_
      · show Steps p.tables e below (T199.setTop (mkF m 53 #[.val (.int p0), .val (.int p1), .val (.int p2), .val (.int p3), .val (.int p4), .val (.int (2 : Int32)), .val (.int (1 : Int32)), .val (.ref b181), .val (.int (0 : Int32))] [])) t
        refine XS.iload X199.here hx rfl (hb hby at_53) rfl ?_
        show Steps p.tables e below (T199.setTop (mkF m 55 #[.val (.int p0), .val (.int p1), .val (.int p2), .val (.int p3), .val (.int p4), .val (.int (2 : Int32)), .val (.int (1 : Int32)), .val (.ref b181), .val (.int (0 : Int32))] [(.int (0 : Int32))])) t
        refine XS.iloadN X199.here hx rfl (hb hby at_55) rfl ?_
        exact k
      obtain ⟨_, _, ⟨T209, L209, k209, n209⟩, -, X209, ⟨Lc209, hQ209, l209, y209, z209⟩, st209⟩ := Jvm.LawKit.callS X199 hx (y := (⟨"com/example/winnowfold/winnowfold/math/DenseMatrixNonZeroCountPinLaw", "nz", "(I)I"⟩ : MethodName)) hown (mvT hZ (hw _ (List.mem_of_getElem? (i := 56) rfl))) (mvT hZ (hw _ (List.mem_of_getElem? (i := 57) rfl))) (mvT hZ (hw _ (List.mem_of_getElem? (i := 29) rfl))) (mvT hZ (hw _ (List.mem_of_getElem? (i := 58) rfl))) (by decide) (backOf (W := 1) (rm11 l Z ar hw [] p1 T199.heap n0 z207) hZ (hw _ (List.mem_of_getElem? (i := 58) rfl)) (hw _ (List.mem_of_getElem? (i := 29) rfl)) (by decide) (by decide)) (g := (mkF m 56 #[.val (.int p0), .val (.int p1), .val (.int p2), .val (.int p3), .val (.int p4), .val (.int (2 : Int32)), .val (.int (1 : Int32)), .val (.ref b181), .val (.int (0 : Int32))] [(.int p1), (.int (0 : Int32))])) rfl (by rw [hml]; rfl) (argsL := [(.int p1)]) (rest := [(.int (0 : Int32))]) (lenOf pd0_4 rfl) rfl (by show 2 * 0 + _ ≤ _; exact Nat.le_of_eq rfl) (hb hby at_56) (fun _ _ => ⟨rfl, (rfl : T199.heap = T199.heap), (by decide : 2 + 0 ≤ _), (by decide : 5 + 0 ≤ _)⟩)
      dsimp only [Pt.U, Pt.locs, Pt.cells, Pt.slots] at X209 l209 y209 z209 st209 hQ209
      subst l209 y209 z209
      obtain ⟨rfl, N209q, e209⟩ := hQ209
      have n210 := Fr.app n201 N209q
      refine own_st (T' := T209) (g' := (mkF m 59 #[.val (.int p0), .val (.int p1), .val (.int p2), .val (.int p3), .val (.int p4), .val (.int (2 : Int32)), .val (.int (1 : Int32)), .val (.ref b181), .val (.int (0 : Int32))] [(.int (own_cnt p1)), (.int (0 : Int32))])) st209 ?_
      refine own_st (T' := T209) (g' := (mkF m 109 #[.val (.int p0), .val (.int p1), .val (.int p2), .val (.int p3), .val (.int p4), .val (.int (2 : Int32)), .val (.int (1 : Int32)), .val (.ref b181), .val (.int ((0 : Int32) + (own_cnt p1)))] [(.int p3), (.int (0 : Int32)), (.int (1 : Int32)), (.ref b181)])) (fun t k => ?_) ?_
      · show Steps p.tables e below (T209.setTop (mkF m 59 #[.val (.int p0), .val (.int p1), .val (.int p2), .val (.int p3), .val (.int p4), .val (.int (2 : Int32)), .val (.int (1 : Int32)), .val (.ref b181), .val (.int (0 : Int32))] [(.int (own_cnt p1)), (.int (0 : Int32))])) t
        refine XS.iadd X209.here hx rfl (hb hby at_59) rfl ?_
        show Steps p.tables e below (T209.setTop (mkF m 60 #[.val (.int p0), .val (.int p1), .val (.int p2), .val (.int p3), .val (.int p4), .val (.int (2 : Int32)), .val (.int (1 : Int32)), .val (.ref b181), .val (.int (0 : Int32))] [(.int ((0 : Int32) + (own_cnt p1)))])) t
        refine XS.istore X209.here hx rfl (hb hby at_60) rfl (l' := #[.val (.int p0), .val (.int p1), .val (.int p2), .val (.int p3), .val (.int p4), .val (.int (2 : Int32)), .val (.int (1 : Int32)), .val (.ref b181), .val (.int ((0 : Int32) + (own_cnt p1)))]) rfl ?_
        show Steps p.tables e below (T209.setTop (mkF m 62 #[.val (.int p0), .val (.int p1), .val (.int p2), .val (.int p3), .val (.int p4), .val (.int (2 : Int32)), .val (.int (1 : Int32)), .val (.ref b181), .val (.int ((0 : Int32) + (own_cnt p1)))] [])) t
        refine XS.iload X209.here hx rfl (hb hby at_62) rfl ?_
        show Steps p.tables e below (T209.setTop (mkF m 64 #[.val (.int p0), .val (.int p1), .val (.int p2), .val (.int p3), .val (.int p4), .val (.int (2 : Int32)), .val (.int (1 : Int32)), .val (.ref b181), .val (.int ((0 : Int32) + (own_cnt p1)))] [(.int (2 : Int32))])) t
        refine XS.ifNo X209.here hx rfl (hb hby at_64) rfl (by decide) ?_
        show Steps p.tables e below (T209.setTop (mkF m 67 #[.val (.int p0), .val (.int p1), .val (.int p2), .val (.int p3), .val (.int p4), .val (.int (2 : Int32)), .val (.int (1 : Int32)), .val (.ref b181), .val (.int ((0 : Int32) + (own_cnt p1)))] [])) t
        refine XS.iload X209.here hx rfl (hb hby at_67) rfl ?_
        show Steps p.tables e below (T209.setTop (mkF m 69 #[.val (.int p0), .val (.int p1), .val (.int p2), .val (.int p3), .val (.int p4), .val (.int (2 : Int32)), .val (.int (1 : Int32)), .val (.ref b181), .val (.int ((0 : Int32) + (own_cnt p1)))] [(.int (1 : Int32))])) t
        refine XS.iconst X209.here hx rfl (hb hby at_69) ?_
        show Steps p.tables e below (T209.setTop (mkF m 70 #[.val (.int p0), .val (.int p1), .val (.int p2), .val (.int p3), .val (.int p4), .val (.int (2 : Int32)), .val (.int (1 : Int32)), .val (.ref b181), .val (.int ((0 : Int32) + (own_cnt p1)))] [(.int (1 : Int32)), (.int (1 : Int32))])) t
        refine XS.icmpYes X209.here hx rfl (pc0 := 70) (pc' := 93) rfl (hb hby at_70) rfl (by decide) (by decide) (by decide) ?_
        show Steps p.tables e below (T209.setTop (mkF m 93 #[.val (.int p0), .val (.int p1), .val (.int p2), .val (.int p3), .val (.int p4), .val (.int (2 : Int32)), .val (.int (1 : Int32)), .val (.ref b181), .val (.int ((0 : Int32) + (own_cnt p1)))] [])) t
        refine XS.iload X209.here hx rfl (hb hby at_93) rfl ?_
        show Steps p.tables e below (T209.setTop (mkF m 95 #[.val (.int p0), .val (.int p1), .val (.int p2), .val (.int p3), .val (.int p4), .val (.int (2 : Int32)), .val (.int (1 : Int32)), .val (.ref b181), .val (.int ((0 : Int32) + (own_cnt p1)))] [(.int (2 : Int32))])) t
        refine XS.iconst X209.here hx rfl (hb hby at_95) ?_
        show Steps p.tables e below (T209.setTop (mkF m 96 #[.val (.int p0), .val (.int p1), .val (.int p2), .val (.int p3), .val (.int p4), .val (.int (2 : Int32)), .val (.int (1 : Int32)), .val (.ref b181), .val (.int ((0 : Int32) + (own_cnt p1)))] [(.int (1 : Int32)), (.int (2 : Int32))])) t
        refine XS.icmpNo X209.here hx rfl (hb hby at_96) rfl (by decide) ?_
        show Steps p.tables e below (T209.setTop (mkF m 99 #[.val (.int p0), .val (.int p1), .val (.int p2), .val (.int p3), .val (.int p4), .val (.int (2 : Int32)), .val (.int (1 : Int32)), .val (.ref b181), .val (.int ((0 : Int32) + (own_cnt p1)))] [])) t
        refine XS.iload X209.here hx rfl (hb hby at_99) rfl ?_
        show Steps p.tables e below (T209.setTop (mkF m 101 #[.val (.int p0), .val (.int p1), .val (.int p2), .val (.int p3), .val (.int p4), .val (.int (2 : Int32)), .val (.int (1 : Int32)), .val (.ref b181), .val (.int ((0 : Int32) + (own_cnt p1)))] [(.int (1 : Int32))])) t
        refine XS.ifNo X209.here hx rfl (hb hby at_101) rfl (by decide) ?_
        show Steps p.tables e below (T209.setTop (mkF m 104 #[.val (.int p0), .val (.int p1), .val (.int p2), .val (.int p3), .val (.int p4), .val (.int (2 : Int32)), .val (.int (1 : Int32)), .val (.ref b181), .val (.int ((0 : Int32) + (own_cnt p1)))] [])) t
        refine XS.aload X209.here hx rfl (hb hby at_104) rfl rfl ?_
        show Steps p.tables e below (T209.setTop (mkF m 106 #[.val (.int p0), .val (.int p1), .val (.int p2), .val (.int p3), .val (.int p4), .val (.int (2 : Int32)), .val (.int (1 : Int32)), .val (.ref b181), .val (.int ((0 : Int32) + (own_cnt p1)))] [(.ref b181)])) t
        refine XS.iconst X209.here hx rfl (hb hby at_106) ?_
        show Steps p.tables e below (T209.setTop (mkF m 107 #[.val (.int p0), .val (.int p1), .val (.int p2), .val (.int p3), .val (.int p4), .val (.int (2 : Int32)), .val (.int (1 : Int32)), .val (.ref b181), .val (.int ((0 : Int32) + (own_cnt p1)))] [(.int (1 : Int32)), (.ref b181)])) t
        refine XS.iconst X209.here hx rfl (hb hby at_107) ?_
        show Steps p.tables e below (T209.setTop (mkF m 108 #[.val (.int p0), .val (.int p1), .val (.int p2), .val (.int p3), .val (.int p4), .val (.int (2 : Int32)), .val (.int (1 : Int32)), .val (.ref b181), .val (.int ((0 : Int32) + (own_cnt p1)))] [(.int (0 : Int32)), (.int (1 : Int32)), (.ref b181)])) t
        refine XS.iloadN X209.here hx rfl (hb hby at_108) rfl ?_
        exact k
      obtain ⟨_, _, ⟨T211, L211, k211, n211⟩, -, X211, ⟨Lc211, hQ211, l211, y211, z211⟩, st211⟩ := Jvm.LawKit.callS X209 hx (y := (⟨"com/example/winnowfold/winnowfold/math/DenseMatrixNonZeroCountPinLaw", "val", "(I)D"⟩ : MethodName)) hown (mvT hZ (hw _ (List.mem_of_getElem? (i := 27) rfl))) (mvT hZ (hw _ (List.mem_of_getElem? (i := 28) rfl))) (mvT hZ (hw _ (List.mem_of_getElem? (i := 29) rfl))) (mvT hZ (hw _ (List.mem_of_getElem? (i := 30) rfl))) (by decide) (backOf (W := 3) (rm5 l Z ar hw [] p3 T199.heap n0 z207) hZ (hw _ (List.mem_of_getElem? (i := 30) rfl)) (hw _ (List.mem_of_getElem? (i := 29) rfl)) (by decide) (by decide)) (g := (mkF m 109 #[.val (.int p0), .val (.int p1), .val (.int p2), .val (.int p3), .val (.int p4), .val (.int (2 : Int32)), .val (.int (1 : Int32)), .val (.ref b181), .val (.int ((0 : Int32) + (own_cnt p1)))] [(.int p3), (.int (0 : Int32)), (.int (1 : Int32)), (.ref b181)])) rfl (by rw [hml]; rfl) (argsL := [(.int p3)]) (rest := [(.int (0 : Int32)), (.int (1 : Int32)), (.ref b181)]) (lenOf pd0_2 rfl) rfl (by show 2 * 0 + _ ≤ _; exact Nat.le_of_eq rfl) (hb hby at_109) (fun _ _ => ⟨rfl, e209, (by decide : 2 + 0 ≤ _), (by decide : 5 + 0 ≤ _)⟩)
      dsimp only [Pt.U, Pt.locs, Pt.cells, Pt.slots] at X211 l211 y211 z211 st211 hQ211
      subst l211 y211 z211
      obtain ⟨rfl, N211q, e211⟩ := hQ211
      have n212 := Fr.app n210 N211q
      refine own_st (T' := T211) (g' := (mkF m 112 #[.val (.int p0), .val (.int p1), .val (.int p2), .val (.int p3), .val (.int p4), .val (.int (2 : Int32)), .val (.int (1 : Int32)), .val (.ref b181), .val (.int ((0 : Int32) + (own_cnt p1)))] [(.double (own_val p3)), (.int (0 : Int32)), (.int (1 : Int32)), (.ref b181)])) st211 ?_
      obtain ⟨cq213, kq213, qa213, qb213, qc213⟩ := isOf hZ e211 f202
      obtain ⟨_, _, ⟨T213, L213, k213, n213⟩, -, X213, ⟨Lc213, hQ213, l213, y213, z213⟩, st213⟩ := X211.virtualBack hx (y := (⟨"com/example/winnowfold/winnowfold/math/DenseMatrix", "set", "(IID)V"⟩ : MethodName)) (z := (⟨"com/example/winnowfold/winnowfold/math/DenseMatrix", "set", "(IID)V"⟩ : MethodName)) hown (mvT hZ (hw _ (List.mem_of_getElem? (i := 31) rfl))) (mvT hZ (hw _ (List.mem_of_getElem? (i := 32) rfl))) (notFace_of_selects (args := #[]) (mvT hZ (hw _ (List.mem_of_getElem? (i := 34) rfl)))) (mvT hZ (hw _ (List.mem_of_getElem? (i := 34) rfl))) (mvT hZ (hw _ (List.mem_of_getElem? (i := 33) rfl))) (by decide) (backOf (W := 0) (rm6 l Z ar hw [] b181 ((1 : Int32)) ((0 : Int32)) ((own_val p3)) ((2 : Int32)) ((1 : Int32)) x0_187 kx_x0_187 ((2 : Int32)) ([(.double (own_val p1)), (.double (0 : UInt64))]) ((.double (0 : UInt64))) T199.heap n0 z207 f202 f203 f204 f205 f206 (by decide) (by decide) (by decide) (by decide) (by decide) (show ((((1 : Int32) * (1 : Int32)) + (0 : Int32))).toNatClampNeg < 2 by decide) ne_b181_x0_187 g_x0_187) hZ (hw _ (List.mem_of_getElem? (i := 35) rfl)) (hw _ (List.mem_of_getElem? (i := 2) rfl)) (by decide) (by decide)) qa213 qc213 (g := (mkF m 112 #[.val (.int p0), .val (.int p1), .val (.int p2), .val (.int p3), .val (.int p4), .val (.int (2 : Int32)), .val (.int (1 : Int32)), .val (.ref b181), .val (.int ((0 : Int32) + (own_cnt p1)))] [(.double (own_val p3)), (.int (0 : Int32)), (.int (1 : Int32)), (.ref b181)])) rfl (by rw [hml]; rfl) (Steps.refl _) (argsL := [(.int (1 : Int32)), (.int (0 : Int32)), (.double (own_val p3))]) (rest := []) (lenOf pd0_3 rfl) rfl (by show 2 * 0 + _ ≤ _; exact Nat.le_of_eq rfl) (hb hby at_112) (fun _ _ => ⟨rfl, e211, (by decide : 2 + 0 ≤ _), (by decide : 5 + 0 ≤ _)⟩)
      dsimp only [Pt.U, Pt.locs, Pt.cells, Pt.slots] at X213 l213 y213 z213 st213 hQ213
      subst l213 y213 z213
      obtain ⟨rfl, N213q, K213, f214⟩ := hQ213
      have n215 := Fr.app n212 N213q
      have f216 := f202.keep K213
      have f217 := f203.keep K213 (ninS ne_b181_x0_187 nin0)
      have f218 := f204.keep K213 (ninS ne_b181_x0_187 nin0)
      have f219 := f205.keep K213 (ninS ne_b181_x0_187 nin0)
      have f220 := own_ve (vs' := [(.double (own_val p1)), (.double (own_val p3))]) f214 (by rw [show ((((1 : Int32) * (1 : Int32)) + (0 : Int32))).toNatClampNeg = 1 by decide]; rfl)
      have z221 := Nat.le_trans z207 K213.1
      have k222 := k208.trans K213 (allS (Or.inr sz_x0_187) all0)
      refine own_tr (T' := T213) (g' := (mkF m 115 #[.val (.int p0), .val (.int p1), .val (.int p2), .val (.int p3), .val (.int p4), .val (.int (2 : Int32)), .val (.int (1 : Int32)), .val (.ref b181), .val (.int ((0 : Int32) + (own_cnt p1)))] [])) st213 ?_
      refine own_st (T' := T213) (g' := (mkF m 118 #[.val (.int p0), .val (.int p1), .val (.int p2), .val (.int p3), .val (.int p4), .val (.int (2 : Int32)), .val (.int (1 : Int32)), .val (.ref b181), .val (.int ((0 : Int32) + (own_cnt p1)))] [(.int p3), (.int ((0 : Int32) + (own_cnt p1)))])) (fun t k => ?_) ?_
      · show Steps p.tables e below (T213.setTop (mkF m 115 #[.val (.int p0), .val (.int p1), .val (.int p2), .val (.int p3), .val (.int p4), .val (.int (2 : Int32)), .val (.int (1 : Int32)), .val (.ref b181), .val (.int ((0 : Int32) + (own_cnt p1)))] [])) t
        refine XS.iload X213.here hx rfl (hb hby at_115) rfl ?_
        show Steps p.tables e below (T213.setTop (mkF m 117 #[.val (.int p0), .val (.int p1), .val (.int p2), .val (.int p3), .val (.int p4), .val (.int (2 : Int32)), .val (.int (1 : Int32)), .val (.ref b181), .val (.int ((0 : Int32) + (own_cnt p1)))] [(.int ((0 : Int32) + (own_cnt p1)))])) t
        refine XS.iloadN X213.here hx rfl (hb hby at_117) rfl ?_
        exact k
      obtain ⟨_, _, ⟨T223, L223, k223, n223⟩, -, X223, ⟨Lc223, hQ223, l223, y223, z223⟩, st223⟩ := Jvm.LawKit.callS X213 hx (y := (⟨"com/example/winnowfold/winnowfold/math/DenseMatrixNonZeroCountPinLaw", "nz", "(I)I"⟩ : MethodName)) hown (mvT hZ (hw _ (List.mem_of_getElem? (i := 56) rfl))) (mvT hZ (hw _ (List.mem_of_getElem? (i := 57) rfl))) (mvT hZ (hw _ (List.mem_of_getElem? (i := 29) rfl))) (mvT hZ (hw _ (List.mem_of_getElem? (i := 58) rfl))) (by decide) (backOf (W := 1) (rm11 l Z ar hw [] p3 T213.heap n0 z221) hZ (hw _ (List.mem_of_getElem? (i := 58) rfl)) (hw _ (List.mem_of_getElem? (i := 29) rfl)) (by decide) (by decide)) (g := (mkF m 118 #[.val (.int p0), .val (.int p1), .val (.int p2), .val (.int p3), .val (.int p4), .val (.int (2 : Int32)), .val (.int (1 : Int32)), .val (.ref b181), .val (.int ((0 : Int32) + (own_cnt p1)))] [(.int p3), (.int ((0 : Int32) + (own_cnt p1)))])) rfl (by rw [hml]; rfl) (argsL := [(.int p3)]) (rest := [(.int ((0 : Int32) + (own_cnt p1)))]) (lenOf pd0_4 rfl) rfl (by show 2 * 0 + _ ≤ _; exact Nat.le_of_eq rfl) (hb hby at_118) (fun _ _ => ⟨rfl, (rfl : T213.heap = T213.heap), (by decide : 2 + 0 ≤ _), (by decide : 5 + 0 ≤ _)⟩)
      dsimp only [Pt.U, Pt.locs, Pt.cells, Pt.slots] at X223 l223 y223 z223 st223 hQ223
      subst l223 y223 z223
      obtain ⟨rfl, N223q, e223⟩ := hQ223
      have n224 := Fr.app n215 N223q
      refine own_st (T' := T223) (g' := (mkF m 121 #[.val (.int p0), .val (.int p1), .val (.int p2), .val (.int p3), .val (.int p4), .val (.int (2 : Int32)), .val (.int (1 : Int32)), .val (.ref b181), .val (.int ((0 : Int32) + (own_cnt p1)))] [(.int (own_cnt p3)), (.int ((0 : Int32) + (own_cnt p1)))])) st223 ?_
      refine own_st (T' := T223) (g' := (mkF m 160 #[.val (.int p0), .val (.int p1), .val (.int p2), .val (.int p3), .val (.int p4), .val (.int (2 : Int32)), .val (.int (1 : Int32)), .val (.ref b181), .val (.int (((0 : Int32) + (own_cnt p1)) + (own_cnt p3)))] [(.ref b181)])) (fun t k => ?_) ?_
      · show Steps p.tables e below (T223.setTop (mkF m 121 #[.val (.int p0), .val (.int p1), .val (.int p2), .val (.int p3), .val (.int p4), .val (.int (2 : Int32)), .val (.int (1 : Int32)), .val (.ref b181), .val (.int ((0 : Int32) + (own_cnt p1)))] [(.int (own_cnt p3)), (.int ((0 : Int32) + (own_cnt p1)))])) t
        refine XS.iadd X223.here hx rfl (hb hby at_121) rfl ?_
        show Steps p.tables e below (T223.setTop (mkF m 122 #[.val (.int p0), .val (.int p1), .val (.int p2), .val (.int p3), .val (.int p4), .val (.int (2 : Int32)), .val (.int (1 : Int32)), .val (.ref b181), .val (.int ((0 : Int32) + (own_cnt p1)))] [(.int (((0 : Int32) + (own_cnt p1)) + (own_cnt p3)))])) t
        refine XS.istore X223.here hx rfl (hb hby at_122) rfl (l' := #[.val (.int p0), .val (.int p1), .val (.int p2), .val (.int p3), .val (.int p4), .val (.int (2 : Int32)), .val (.int (1 : Int32)), .val (.ref b181), .val (.int (((0 : Int32) + (own_cnt p1)) + (own_cnt p3)))]) rfl ?_
        show Steps p.tables e below (T223.setTop (mkF m 124 #[.val (.int p0), .val (.int p1), .val (.int p2), .val (.int p3), .val (.int p4), .val (.int (2 : Int32)), .val (.int (1 : Int32)), .val (.ref b181), .val (.int (((0 : Int32) + (own_cnt p1)) + (own_cnt p3)))] [])) t
        refine XS.iload X223.here hx rfl (hb hby at_124) rfl ?_
        show Steps p.tables e below (T223.setTop (mkF m 126 #[.val (.int p0), .val (.int p1), .val (.int p2), .val (.int p3), .val (.int p4), .val (.int (2 : Int32)), .val (.int (1 : Int32)), .val (.ref b181), .val (.int (((0 : Int32) + (own_cnt p1)) + (own_cnt p3)))] [(.int (2 : Int32))])) t
        refine XS.iconst X223.here hx rfl (hb hby at_126) ?_
        show Steps p.tables e below (T223.setTop (mkF m 127 #[.val (.int p0), .val (.int p1), .val (.int p2), .val (.int p3), .val (.int p4), .val (.int (2 : Int32)), .val (.int (1 : Int32)), .val (.ref b181), .val (.int (((0 : Int32) + (own_cnt p1)) + (own_cnt p3)))] [(.int (1 : Int32)), (.int (2 : Int32))])) t
        refine XS.icmpNo X223.here hx rfl (hb hby at_127) rfl (by decide) ?_
        show Steps p.tables e below (T223.setTop (mkF m 130 #[.val (.int p0), .val (.int p1), .val (.int p2), .val (.int p3), .val (.int p4), .val (.int (2 : Int32)), .val (.int (1 : Int32)), .val (.ref b181), .val (.int (((0 : Int32) + (own_cnt p1)) + (own_cnt p3)))] [])) t
        refine XS.iload X223.here hx rfl (hb hby at_130) rfl ?_
        show Steps p.tables e below (T223.setTop (mkF m 132 #[.val (.int p0), .val (.int p1), .val (.int p2), .val (.int p3), .val (.int p4), .val (.int (2 : Int32)), .val (.int (1 : Int32)), .val (.ref b181), .val (.int (((0 : Int32) + (own_cnt p1)) + (own_cnt p3)))] [(.int (1 : Int32))])) t
        refine XS.iconst X223.here hx rfl (hb hby at_132) ?_
        show Steps p.tables e below (T223.setTop (mkF m 133 #[.val (.int p0), .val (.int p1), .val (.int p2), .val (.int p3), .val (.int p4), .val (.int (2 : Int32)), .val (.int (1 : Int32)), .val (.ref b181), .val (.int (((0 : Int32) + (own_cnt p1)) + (own_cnt p3)))] [(.int (1 : Int32)), (.int (1 : Int32))])) t
        refine XS.icmpYes X223.here hx rfl (pc0 := 133) (pc' := 158) rfl (hb hby at_133) rfl (by decide) (by decide) (by decide) ?_
        show Steps p.tables e below (T223.setTop (mkF m 158 #[.val (.int p0), .val (.int p1), .val (.int p2), .val (.int p3), .val (.int p4), .val (.int (2 : Int32)), .val (.int (1 : Int32)), .val (.ref b181), .val (.int (((0 : Int32) + (own_cnt p1)) + (own_cnt p3)))] [])) t
        refine XS.aload X223.here hx rfl (hb hby at_158) rfl rfl ?_
        exact k
      obtain ⟨cq225, kq225, qa225, qb225, qc225⟩ := isOf hZ e223 f216
      obtain ⟨_, _, ⟨T225, L225, k225, n225⟩, -, X225, ⟨Lc225, hQ225, l225, y225, z225⟩, st225⟩ := X223.virtualBack hx (y := (⟨"com/example/winnowfold/winnowfold/math/DenseMatrix", "nonZeroCount", "()I"⟩ : MethodName)) (z := (⟨"com/example/winnowfold/winnowfold/math/DenseMatrix", "nonZeroCount", "()I"⟩ : MethodName)) hown (mvT hZ (hw _ (List.mem_of_getElem? (i := 22) rfl))) (mvT hZ (hw _ (List.mem_of_getElem? (i := 23) rfl))) (notFace_of_selects (args := #[]) (mvT hZ (hw _ (List.mem_of_getElem? (i := 25) rfl)))) (mvT hZ (hw _ (List.mem_of_getElem? (i := 25) rfl))) (mvT hZ (hw _ (List.mem_of_getElem? (i := 24) rfl))) (by decide) (backOf (W := 0) (rmz2 l Z ar hw [] b181 x0_187 kx_x0_187 ((own_val p1)) ((own_val p3)) T213.heap n0 z221 f216 f219 f220) hZ (hw _ (List.mem_of_getElem? (i := 26) rfl)) (hw _ (List.mem_of_getElem? (i := 2) rfl)) (by decide) (by decide)) qa225 qc225 (g := (mkF m 160 #[.val (.int p0), .val (.int p1), .val (.int p2), .val (.int p3), .val (.int p4), .val (.int (2 : Int32)), .val (.int (1 : Int32)), .val (.ref b181), .val (.int (((0 : Int32) + (own_cnt p1)) + (own_cnt p3)))] [(.ref b181)])) rfl (by rw [hml]; rfl) (Steps.refl _) (argsL := []) (rest := []) (lenOf pd0_1 rfl) rfl (by show 2 * 0 + _ ≤ _; exact Nat.le_of_eq rfl) (hb hby at_160) (fun _ _ => ⟨rfl, e223, (by decide : 2 + 0 ≤ _), (by decide : 5 + 0 ≤ _)⟩)
      dsimp only [Pt.U, Pt.locs, Pt.cells, Pt.slots] at X225 l225 y225 z225 st225 hQ225
      subst l225 y225 z225
      obtain ⟨rfl, N225q, e225⟩ := hQ225
      have n226 := Fr.app n224 N225q
      refine own_tr (T' := T225) (g' := (mkF m 163 #[.val (.int p0), .val (.int p1), .val (.int p2), .val (.int p3), .val (.int p4), .val (.int (2 : Int32)), .val (.int (1 : Int32)), .val (.ref b181), .val (.int (((0 : Int32) + (own_cnt p1)) + (own_cnt p3)))] [(.int (own_z (own_z (0 : Int32) (own_val p1)) (own_val p3)))])) st225 ?_
      refine own_st (T' := T225) (g' := (mkF m 173 #[.val (.int p0), .val (.int p1), .val (.int p2), .val (.int p3), .val (.int p4), .val (.int (2 : Int32)), .val (.int (1 : Int32)), .val (.ref b181), .val (.int (((0 : Int32) + (own_cnt p1)) + (own_cnt p3)))] [(.int (1 : Int32))])) (fun t k => ?_) ?_
      · show Steps p.tables e below (T225.setTop (mkF m 163 #[.val (.int p0), .val (.int p1), .val (.int p2), .val (.int p3), .val (.int p4), .val (.int (2 : Int32)), .val (.int (1 : Int32)), .val (.ref b181), .val (.int (((0 : Int32) + (own_cnt p1)) + (own_cnt p3)))] [(.int (own_z (own_z (0 : Int32) (own_val p1)) (own_val p3)))])) t
        refine XS.iload X225.here hx rfl (hb hby at_163) rfl ?_
        show Steps p.tables e below (T225.setTop (mkF m 165 #[.val (.int p0), .val (.int p1), .val (.int p2), .val (.int p3), .val (.int p4), .val (.int (2 : Int32)), .val (.int (1 : Int32)), .val (.ref b181), .val (.int (((0 : Int32) + (own_cnt p1)) + (own_cnt p3)))] [(.int (((0 : Int32) + (own_cnt p1)) + (own_cnt p3))), (.int (own_z (own_z (0 : Int32) (own_val p1)) (own_val p3)))])) t
        refine XS.icmpNo X225.here hx rfl (hb hby at_165) rfl (teq ((by simp only [own_zc]) : (own_z (own_z (0 : Int32) (own_val p1)) (own_val p3)) = (((0 : Int32) + (own_cnt p1)) + (own_cnt p3)))).2 ?_
        show Steps p.tables e below (T225.setTop (mkF m 168 #[.val (.int p0), .val (.int p1), .val (.int p2), .val (.int p3), .val (.int p4), .val (.int (2 : Int32)), .val (.int (1 : Int32)), .val (.ref b181), .val (.int (((0 : Int32) + (own_cnt p1)) + (own_cnt p3)))] [])) t
        refine XS.iconst X225.here hx rfl (hb hby at_168) ?_
        show Steps p.tables e below (T225.setTop (mkF m 169 #[.val (.int p0), .val (.int p1), .val (.int p2), .val (.int p3), .val (.int p4), .val (.int (2 : Int32)), .val (.int (1 : Int32)), .val (.ref b181), .val (.int (((0 : Int32) + (own_cnt p1)) + (own_cnt p3)))] [(.int (1 : Int32))])) t
        refine XS.goto X225.here hx rfl (pc0 := 169) (pc' := 173) rfl (hb hby at_169) (by decide) (by decide) ?_
        exact k
      refine own_retZ X225 hx hlk Bd.returns (hb hby at_173) rfl (by decide) (by decide) ?_
      show Q0 Z p0 p1 p2 p3 p4 h0 n0 (some (.int (1 : Int32))) T225.heap _
      exact ⟨rfl, n226⟩
    · rw [hk14_162]
      refine own_st (T' := s₁) (g' := (mkF m 16 #[.val (.int p0), .val (.int p1), .val (.int p2), .val (.int p3), .val (.int p4), .val (.int (2 : Int32)), .val (.int (2 : Int32)), .unset, .unset] [])) (fun t k => ?_) ?_
      · show Steps p.tables e below (s₁.setTop (mkF m 14 #[.val (.int p0), .val (.int p1), .val (.int p2), .val (.int p3), .val (.int p4), .val (.int (2 : Int32)), .unset, .unset, .unset] [(.int (2 : Int32))])) t
        refine XS.istore X0.here hx rfl (hb hby at_14) rfl (l' := #[.val (.int p0), .val (.int p1), .val (.int p2), .val (.int p3), .val (.int p4), .val (.int (2 : Int32)), .val (.int (2 : Int32)), .unset, .unset]) rfl ?_
        exact k
      obtain ⟨T227, h227, X227, e227, E227, A227, D227, -, st227⟩ := newO X0 hx hZ hown (hw _ (List.mem_of_getElem? (i := 0) rfl)) (hw _ (List.mem_of_getElem? (i := 1) rfl)) (hw _ (List.mem_of_getElem? (i := 2) rfl)) e0 (g := (mkF m 16 #[.val (.int p0), .val (.int p1), .val (.int p2), .val (.int p3), .val (.int p4), .val (.int (2 : Int32)), .val (.int (2 : Int32)), .unset, .unset] [])) rfl (hb hby at_16) (by decide) (by decide)
      obtain ⟨b227, g227⟩ : ∃ z, z = h0.size := ⟨_, rfl⟩
      rw [← g227] at A227 D227 st227
      have g_b227 : n0 ≤ b227 := Nat.le_trans Z0 (Nat.le_of_eq g227.symm)
      have sz_b227 : h0.size ≤ b227 := Nat.le_trans K0.1 (Nat.le_of_eq g227.symm)
      have z228 := Nat.le_trans Z0 E227.1
      have k229 := K0.ext E227
      have f230 : Fld Z h227 b227 "com/example/winnowfold/winnowfold/math/AbstractMatrix" "rows" "I" (.int (0 : Int32)) := D227 (Or.inr (hw _ (List.mem_of_getElem? (i := 15) rfl))) (ty := .int) (by decide)
      have f231 : Fld Z h227 b227 "com/example/winnowfold/winnowfold/math/AbstractMatrix" "columns" "I" (.int (0 : Int32)) := D227 (Or.inr (hw _ (List.mem_of_getElem? (i := 17) rfl))) (ty := .int) (by decide)
      have f232 : Fld Z h227 b227 "com/example/winnowfold/winnowfold/math/DenseMatrix" "values" "[D" .null := D227 (Or.inr (hw _ (List.mem_of_getElem? (i := 21) rfl))) (ty := (.array .double)) (by decide)
      refine own_st (T' := T227) (g' := (mkF m 19 #[.val (.int p0), .val (.int p1), .val (.int p2), .val (.int p3), .val (.int p4), .val (.int (2 : Int32)), .val (.int (2 : Int32)), .unset, .unset] [(.ref b227)])) st227 ?_
      refine own_st (T' := T227) (g' := (mkF m 24 #[.val (.int p0), .val (.int p1), .val (.int p2), .val (.int p3), .val (.int p4), .val (.int (2 : Int32)), .val (.int (2 : Int32)), .unset, .unset] [(.int (2 : Int32)), (.int (2 : Int32)), (.ref b227), (.ref b227)])) (fun t k => ?_) ?_
      · show Steps p.tables e below (T227.setTop (mkF m 19 #[.val (.int p0), .val (.int p1), .val (.int p2), .val (.int p3), .val (.int p4), .val (.int (2 : Int32)), .val (.int (2 : Int32)), .unset, .unset] [(.ref b227)])) t
        refine XS.dup X227.here hx rfl (hb hby at_19) rfl rfl ?_
        show Steps p.tables e below (T227.setTop (mkF m 20 #[.val (.int p0), .val (.int p1), .val (.int p2), .val (.int p3), .val (.int p4), .val (.int (2 : Int32)), .val (.int (2 : Int32)), .unset, .unset] [(.ref b227), (.ref b227)])) t
        refine XS.iload X227.here hx rfl (hb hby at_20) rfl ?_
        show Steps p.tables e below (T227.setTop (mkF m 22 #[.val (.int p0), .val (.int p1), .val (.int p2), .val (.int p3), .val (.int p4), .val (.int (2 : Int32)), .val (.int (2 : Int32)), .unset, .unset] [(.int (2 : Int32)), (.ref b227), (.ref b227)])) t
        refine XS.iload X227.here hx rfl (hb hby at_22) rfl ?_
        exact k
      obtain ⟨_, _, ⟨T233, L233, k233, n233⟩, -, X233, ⟨Lc233, hQ233, l233, y233, z233⟩, st233⟩ := X227.specialBack hx (y := (⟨"com/example/winnowfold/winnowfold/math/DenseMatrix", "<init>", "(II)V"⟩ : MethodName)) rfl hown (mvT hZ (hw _ (List.mem_of_getElem? (i := 3) rfl))) (mvT hZ (hw _ (List.mem_of_getElem? (i := 4) rfl))) (mvT hZ (hw _ (List.mem_of_getElem? (i := 5) rfl))) (by decide) (backOf (W := 1) (rmI22 l Z ar hw [] b227 ((.int (0 : Int32))) ((.int (0 : Int32))) (.null) h227 n0 z228 A227 f230 f231 f232 g_b227) hZ (hw _ (List.mem_of_getElem? (i := 5) rfl)) (hw _ (List.mem_of_getElem? (i := 2) rfl)) (by decide) (by decide)) (g := (mkF m 24 #[.val (.int p0), .val (.int p1), .val (.int p2), .val (.int p3), .val (.int p4), .val (.int (2 : Int32)), .val (.int (2 : Int32)), .unset, .unset] [(.int (2 : Int32)), (.int (2 : Int32)), (.ref b227), (.ref b227)])) rfl (by rw [hml]; rfl) (Steps.refl _) (a := b227) (argsL := [(.int (2 : Int32)), (.int (2 : Int32))]) (rest := [(.ref b227)]) (lenOf pd0_0 rfl) rfl (by show 2 * 0 + _ ≤ _; exact Nat.le_of_eq rfl) (hb hby at_24) (fun _ _ => ⟨rfl, e227, (by decide : 1 + 1 ≤ _), (by decide : 3 + 4 ≤ _)⟩)
      dsimp only [Pt.U, Pt.locs, Pt.cells, Pt.slots] at X233 l233 y233 z233 st233 hQ233
      subst l233 y233 z233
      obtain ⟨x0_233, kx_x0_233, rfl, N233q, K233, sz233_x0, f234, f235, f236, f237, f238⟩ := hQ233
      have n239 := Fr.app N0 N233q
      have ne_b227_x0_233 : b227 ≠ x0_233 := Nat.ne_of_lt (Nat.lt_of_lt_of_le A227.lt sz233_x0)
      have g_x0_233 : n0 ≤ x0_233 := Nat.le_trans z228 sz233_x0
      have sz_x0_233 : h0.size ≤ x0_233 := Nat.le_trans k229.1 sz233_x0
      have f240 := A227.keep K233
      have z241 := Nat.le_trans z228 K233.1
      have k242 := k229.trans K233 (allS (Or.inr sz_b227) all0)
      refine own_tr (T' := T233) (g' := (mkF m 27 #[.val (.int p0), .val (.int p1), .val (.int p2), .val (.int p3), .val (.int p4), .val (.int (2 : Int32)), .val (.int (2 : Int32)), .unset, .unset] [(.ref b227)])) st233 ?_
      refine own_st (T' := T233) (g' := (mkF m 47 #[.val (.int p0), .val (.int p1), .val (.int p2), .val (.int p3), .val (.int p4), .val (.int (2 : Int32)), .val (.int (2 : Int32)), .val (.ref b227), .val (.int (0 : Int32))] [(.int p1), (.int (0 : Int32)), (.int (0 : Int32)), (.ref b227)])) (fun t k => ?_) ?_
      · show Steps p.tables e below (T233.setTop (mkF m 27 #[.val (.int p0), .val (.int p1), .val (.int p2), .val (.int p3), .val (.int p4), .val (.int (2 : Int32)), .val (.int (2 : Int32)), .unset, .unset] [(.ref b227)])) t
        refine XS.astore X233.here hx rfl (hb hby at_27) rfl rfl (l' := #[.val (.int p0), .val (.int p1), .val (.int p2), .val (.int p3), .val (.int p4), .val (.int (2 : Int32)), .val (.int (2 : Int32)), .val (.ref b227), .unset]) rfl ?_
        show Steps p.tables e below (T233.setTop (mkF m 29 #[.val (.int p0), .val (.int p1), .val (.int p2), .val (.int p3), .val (.int p4), .val (.int (2 : Int32)), .val (.int (2 : Int32)), .val (.ref b227), .unset] [])) t
        refine XS.iconst X233.here hx rfl (hb hby at_29) ?_
        show Steps p.tables e below (T233.setTop (mkF m 30 #[.val (.int p0), .val (.int p1), .val (.int p2), .val (.int p3), .val (.int p4), .val (.int (2 : Int32)), .val (.int (2 : Int32)), .val (.ref b227), .unset] [(.int (0 : Int32))])) t
        refine XS.istore X233.here hx rfl (hb hby at_30) rfl (l' := #[.val (.int p0), .val (.int p1), .val (.int p2), .val (.int p3), .val (.int p4), .val (.int (2 : Int32)), .val (.int (2 : Int32)), .val (.ref b227), .val (.int (0 : Int32))]) rfl ?_
        show Steps p.tables e below (T233.setTop (mkF m 32 #[.val (.int p0), .val (.int p1), .val (.int p2), .val (.int p3), .val (.int p4), .val (.int (2 : Int32)), .val (.int (2 : Int32)), .val (.ref b227), .val (.int (0 : Int32))] [])) t
        refine XS.iload X233.here hx rfl (hb hby at_32) rfl ?_
        show Steps p.tables e below (T233.setTop (mkF m 34 #[.val (.int p0), .val (.int p1), .val (.int p2), .val (.int p3), .val (.int p4), .val (.int (2 : Int32)), .val (.int (2 : Int32)), .val (.ref b227), .val (.int (0 : Int32))] [(.int (2 : Int32))])) t
        refine XS.ifNo X233.here hx rfl (hb hby at_34) rfl (by decide) ?_
        show Steps p.tables e below (T233.setTop (mkF m 37 #[.val (.int p0), .val (.int p1), .val (.int p2), .val (.int p3), .val (.int p4), .val (.int (2 : Int32)), .val (.int (2 : Int32)), .val (.ref b227), .val (.int (0 : Int32))] [])) t
        refine XS.iload X233.here hx rfl (hb hby at_37) rfl ?_
        show Steps p.tables e below (T233.setTop (mkF m 39 #[.val (.int p0), .val (.int p1), .val (.int p2), .val (.int p3), .val (.int p4), .val (.int (2 : Int32)), .val (.int (2 : Int32)), .val (.ref b227), .val (.int (0 : Int32))] [(.int (2 : Int32))])) t
        refine XS.ifNo X233.here hx rfl (hb hby at_39) rfl (by decide) ?_
        show Steps p.tables e below (T233.setTop (mkF m 42 #[.val (.int p0), .val (.int p1), .val (.int p2), .val (.int p3), .val (.int p4), .val (.int (2 : Int32)), .val (.int (2 : Int32)), .val (.ref b227), .val (.int (0 : Int32))] [])) t
        refine XS.aload X233.here hx rfl (hb hby at_42) rfl rfl ?_
        show Steps p.tables e below (T233.setTop (mkF m 44 #[.val (.int p0), .val (.int p1), .val (.int p2), .val (.int p3), .val (.int p4), .val (.int (2 : Int32)), .val (.int (2 : Int32)), .val (.ref b227), .val (.int (0 : Int32))] [(.ref b227)])) t
        refine XS.iconst X233.here hx rfl (hb hby at_44) ?_
        show Steps p.tables e below (T233.setTop (mkF m 45 #[.val (.int p0), .val (.int p1), .val (.int p2), .val (.int p3), .val (.int p4), .val (.int (2 : Int32)), .val (.int (2 : Int32)), .val (.ref b227), .val (.int (0 : Int32))] [(.int (0 : Int32)), (.ref b227)])) t
        refine XS.iconst X233.here hx rfl (hb hby at_45) ?_
        show Steps p.tables e below (T233.setTop (mkF m 46 #[.val (.int p0), .val (.int p1), .val (.int p2), .val (.int p3), .val (.int p4), .val (.int (2 : Int32)), .val (.int (2 : Int32)), .val (.ref b227), .val (.int (0 : Int32))] [(.int (0 : Int32)), (.int (0 : Int32)), (.ref b227)])) t
        refine XS.iloadN X233.here hx rfl (hb hby at_46) rfl ?_
        exact k
      obtain ⟨_, _, ⟨T243, L243, k243, n243⟩, -, X243, ⟨Lc243, hQ243, l243, y243, z243⟩, st243⟩ := Jvm.LawKit.callS X233 hx (y := (⟨"com/example/winnowfold/winnowfold/math/DenseMatrixNonZeroCountPinLaw", "val", "(I)D"⟩ : MethodName)) hown (mvT hZ (hw _ (List.mem_of_getElem? (i := 27) rfl))) (mvT hZ (hw _ (List.mem_of_getElem? (i := 28) rfl))) (mvT hZ (hw _ (List.mem_of_getElem? (i := 29) rfl))) (mvT hZ (hw _ (List.mem_of_getElem? (i := 30) rfl))) (by decide) (backOf (W := 3) (rm5 l Z ar hw [] p1 T233.heap n0 z241) hZ (hw _ (List.mem_of_getElem? (i := 30) rfl)) (hw _ (List.mem_of_getElem? (i := 29) rfl)) (by decide) (by decide)) (g := (mkF m 47 #[.val (.int p0), .val (.int p1), .val (.int p2), .val (.int p3), .val (.int p4), .val (.int (2 : Int32)), .val (.int (2 : Int32)), .val (.ref b227), .val (.int (0 : Int32))] [(.int p1), (.int (0 : Int32)), (.int (0 : Int32)), (.ref b227)])) rfl (by rw [hml]; rfl) (argsL := [(.int p1)]) (rest := [(.int (0 : Int32)), (.int (0 : Int32)), (.ref b227)]) (lenOf pd0_2 rfl) rfl (by show 2 * 0 + _ ≤ _; exact Nat.le_of_eq rfl) (hb hby at_47) (fun _ _ => ⟨rfl, (rfl : T233.heap = T233.heap), (by decide : 2 + 0 ≤ _), (by decide : 7 + 0 ≤ _)⟩)
      dsimp only [Pt.U, Pt.locs, Pt.cells, Pt.slots] at X243 l243 y243 z243 st243 hQ243
      subst l243 y243 z243
      obtain ⟨rfl, N243q, e243⟩ := hQ243
      have n244 := Fr.app n239 N243q
      refine own_st (T' := T243) (g' := (mkF m 50 #[.val (.int p0), .val (.int p1), .val (.int p2), .val (.int p3), .val (.int p4), .val (.int (2 : Int32)), .val (.int (2 : Int32)), .val (.ref b227), .val (.int (0 : Int32))] [(.double (own_val p1)), (.int (0 : Int32)), (.int (0 : Int32)), (.ref b227)])) st243 ?_
      obtain ⟨cq245, kq245, qa245, qb245, qc245⟩ := isOf hZ e243 f234
      obtain ⟨_, _, ⟨T245, L245, k245, n245⟩, -, X245, ⟨Lc245, hQ245, l245, y245, z245⟩, st245⟩ := X243.virtualBack hx (y := (⟨"com/example/winnowfold/winnowfold/math/DenseMatrix", "set", "(IID)V"⟩ : MethodName)) (z := (⟨"com/example/winnowfold/winnowfold/math/DenseMatrix", "set", "(IID)V"⟩ : MethodName)) hown (mvT hZ (hw _ (List.mem_of_getElem? (i := 31) rfl))) (mvT hZ (hw _ (List.mem_of_getElem? (i := 32) rfl))) (notFace_of_selects (args := #[]) (mvT hZ (hw _ (List.mem_of_getElem? (i := 34) rfl)))) (mvT hZ (hw _ (List.mem_of_getElem? (i := 34) rfl))) (mvT hZ (hw _ (List.mem_of_getElem? (i := 33) rfl))) (by decide) (backOf (W := 0) (rm6 l Z ar hw [] b227 ((0 : Int32)) ((0 : Int32)) ((own_val p1)) ((2 : Int32)) ((2 : Int32)) x0_233 kx_x0_233 ((4 : Int32)) ([(.double (0 : UInt64)), (.double (0 : UInt64)), (.double (0 : UInt64)), (.double (0 : UInt64))]) ((.double (0 : UInt64))) T233.heap n0 z241 f234 f235 f236 f237 f238 (by decide) (by decide) (by decide) (by decide) (by decide) (show ((((0 : Int32) * (2 : Int32)) + (0 : Int32))).toNatClampNeg < 4 by decide) ne_b227_x0_233 g_x0_233) hZ (hw _ (List.mem_of_getElem? (i := 35) rfl)) (hw _ (List.mem_of_getElem? (i := 2) rfl)) (by decide) (by decide)) qa245 qc245 (g := (mkF m 50 #[.val (.int p0), .val (.int p1), .val (.int p2), .val (.int p3), .val (.int p4), .val (.int (2 : Int32)), .val (.int (2 : Int32)), .val (.ref b227), .val (.int (0 : Int32))] [(.double (own_val p1)), (.int (0 : Int32)), (.int (0 : Int32)), (.ref b227)])) rfl (by rw [hml]; rfl) (Steps.refl _) (argsL := [(.int (0 : Int32)), (.int (0 : Int32)), (.double (own_val p1))]) (rest := []) (lenOf pd0_3 rfl) rfl (by show 2 * 0 + _ ≤ _; exact Nat.le_of_eq rfl) (hb hby at_50) (fun _ _ => ⟨rfl, e243, (by decide : 2 + 0 ≤ _), (by decide : 7 + 0 ≤ _)⟩)
      dsimp only [Pt.U, Pt.locs, Pt.cells, Pt.slots] at X245 l245 y245 z245 st245 hQ245
      subst l245 y245 z245
      obtain ⟨rfl, N245q, K245, f246⟩ := hQ245
      have n247 := Fr.app n244 N245q
      have f248 := f234.keep K245
      have f249 := f235.keep K245 (ninS ne_b227_x0_233 nin0)
      have f250 := f236.keep K245 (ninS ne_b227_x0_233 nin0)
      have f251 := f237.keep K245 (ninS ne_b227_x0_233 nin0)
      have f252 := own_ve (vs' := [(.double (own_val p1)), (.double (0 : UInt64)), (.double (0 : UInt64)), (.double (0 : UInt64))]) f246 (by rw [show ((((0 : Int32) * (2 : Int32)) + (0 : Int32))).toNatClampNeg = 0 by decide]; rfl)
      have z253 := Nat.le_trans z241 K245.1
      have k254 := k242.trans K245 (allS (Or.inr sz_x0_233) all0)
      refine own_tr (T' := T245) (g' := (mkF m 53 #[.val (.int p0), .val (.int p1), .val (.int p2), .val (.int p3), .val (.int p4), .val (.int (2 : Int32)), .val (.int (2 : Int32)), .val (.ref b227), .val (.int (0 : Int32))] [])) st245 ?_
      refine own_st (T' := T245) (g' := (mkF m 56 #[.val (.int p0), .val (.int p1), .val (.int p2), .val (.int p3), .val (.int p4), .val (.int (2 : Int32)), .val (.int (2 : Int32)), .val (.ref b227), .val (.int (0 : Int32))] [(.int p1), (.int (0 : Int32))])) (fun t k => ?_) ?_
      · show Steps p.tables e below (T245.setTop (mkF m 53 #[.val (.int p0), .val (.int p1), .val (.int p2), .val (.int p3), .val (.int p4), .val (.int (2 : Int32)), .val (.int (2 : Int32)), .val (.ref b227), .val (.int (0 : Int32))] [])) t
        refine XS.iload X245.here hx rfl (hb hby at_53) rfl ?_
        show Steps p.tables e below (T245.setTop (mkF m 55 #[.val (.int p0), .val (.int p1), .val (.int p2), .val (.int p3), .val (.int p4), .val (.int (2 : Int32)), .val (.int (2 : Int32)), .val (.ref b227), .val (.int (0 : Int32))] [(.int (0 : Int32))])) t
        refine XS.iloadN X245.here hx rfl (hb hby at_55) rfl ?_
        exact k
      obtain ⟨_, _, ⟨T255, L255, k255, n255⟩, -, X255, ⟨Lc255, hQ255, l255, y255, z255⟩, st255⟩ := Jvm.LawKit.callS X245 hx (y := (⟨"com/example/winnowfold/winnowfold/math/DenseMatrixNonZeroCountPinLaw", "nz", "(I)I"⟩ : MethodName)) hown (mvT hZ (hw _ (List.mem_of_getElem? (i := 56) rfl))) (mvT hZ (hw _ (List.mem_of_getElem? (i := 57) rfl))) (mvT hZ (hw _ (List.mem_of_getElem? (i := 29) rfl))) (mvT hZ (hw _ (List.mem_of_getElem? (i := 58) rfl))) (by decide) (backOf (W := 1) (rm11 l Z ar hw [] p1 T245.heap n0 z253) hZ (hw _ (List.mem_of_getElem? (i := 58) rfl)) (hw _ (List.mem_of_getElem? (i := 29) rfl)) (by decide) (by decide)) (g := (mkF m 56 #[.val (.int p0), .val (.int p1), .val (.int p2), .val (.int p3), .val (.int p4), .val (.int (2 : Int32)), .val (.int (2 : Int32)), .val (.ref b227), .val (.int (0 : Int32))] [(.int p1), (.int (0 : Int32))])) rfl (by rw [hml]; rfl) (argsL := [(.int p1)]) (rest := [(.int (0 : Int32))]) (lenOf pd0_4 rfl) rfl (by show 2 * 0 + _ ≤ _; exact Nat.le_of_eq rfl) (hb hby at_56) (fun _ _ => ⟨rfl, (rfl : T245.heap = T245.heap), (by decide : 2 + 0 ≤ _), (by decide : 7 + 0 ≤ _)⟩)
      dsimp only [Pt.U, Pt.locs, Pt.cells, Pt.slots] at X255 l255 y255 z255 st255 hQ255
      subst l255 y255 z255
      obtain ⟨rfl, N255q, e255⟩ := hQ255
      have n256 := Fr.app n247 N255q
      refine own_st (T' := T255) (g' := (mkF m 59 #[.val (.int p0), .val (.int p1), .val (.int p2), .val (.int p3), .val (.int p4), .val (.int (2 : Int32)), .val (.int (2 : Int32)), .val (.ref b227), .val (.int (0 : Int32))] [(.int (own_cnt p1)), (.int (0 : Int32))])) st255 ?_
      refine own_st (T' := T255) (g' := (mkF m 78 #[.val (.int p0), .val (.int p1), .val (.int p2), .val (.int p3), .val (.int p4), .val (.int (2 : Int32)), .val (.int (2 : Int32)), .val (.ref b227), .val (.int ((0 : Int32) + (own_cnt p1)))] [(.int p2), (.int (1 : Int32)), (.int (0 : Int32)), (.ref b227)])) (fun t k => ?_) ?_
      · show Steps p.tables e below (T255.setTop (mkF m 59 #[.val (.int p0), .val (.int p1), .val (.int p2), .val (.int p3), .val (.int p4), .val (.int (2 : Int32)), .val (.int (2 : Int32)), .val (.ref b227), .val (.int (0 : Int32))] [(.int (own_cnt p1)), (.int (0 : Int32))])) t
        refine XS.iadd X255.here hx rfl (hb hby at_59) rfl ?_
        show Steps p.tables e below (T255.setTop (mkF m 60 #[.val (.int p0), .val (.int p1), .val (.int p2), .val (.int p3), .val (.int p4), .val (.int (2 : Int32)), .val (.int (2 : Int32)), .val (.ref b227), .val (.int (0 : Int32))] [(.int ((0 : Int32) + (own_cnt p1)))])) t
        refine XS.istore X255.here hx rfl (hb hby at_60) rfl (l' := #[.val (.int p0), .val (.int p1), .val (.int p2), .val (.int p3), .val (.int p4), .val (.int (2 : Int32)), .val (.int (2 : Int32)), .val (.ref b227), .val (.int ((0 : Int32) + (own_cnt p1)))]) rfl ?_
        show Steps p.tables e below (T255.setTop (mkF m 62 #[.val (.int p0), .val (.int p1), .val (.int p2), .val (.int p3), .val (.int p4), .val (.int (2 : Int32)), .val (.int (2 : Int32)), .val (.ref b227), .val (.int ((0 : Int32) + (own_cnt p1)))] [])) t
        refine XS.iload X255.here hx rfl (hb hby at_62) rfl ?_
        show Steps p.tables e below (T255.setTop (mkF m 64 #[.val (.int p0), .val (.int p1), .val (.int p2), .val (.int p3), .val (.int p4), .val (.int (2 : Int32)), .val (.int (2 : Int32)), .val (.ref b227), .val (.int ((0 : Int32) + (own_cnt p1)))] [(.int (2 : Int32))])) t
        refine XS.ifNo X255.here hx rfl (hb hby at_64) rfl (by decide) ?_
        show Steps p.tables e below (T255.setTop (mkF m 67 #[.val (.int p0), .val (.int p1), .val (.int p2), .val (.int p3), .val (.int p4), .val (.int (2 : Int32)), .val (.int (2 : Int32)), .val (.ref b227), .val (.int ((0 : Int32) + (own_cnt p1)))] [])) t
        refine XS.iload X255.here hx rfl (hb hby at_67) rfl ?_
        show Steps p.tables e below (T255.setTop (mkF m 69 #[.val (.int p0), .val (.int p1), .val (.int p2), .val (.int p3), .val (.int p4), .val (.int (2 : Int32)), .val (.int (2 : Int32)), .val (.ref b227), .val (.int ((0 : Int32) + (own_cnt p1)))] [(.int (2 : Int32))])) t
        refine XS.iconst X255.here hx rfl (hb hby at_69) ?_
        show Steps p.tables e below (T255.setTop (mkF m 70 #[.val (.int p0), .val (.int p1), .val (.int p2), .val (.int p3), .val (.int p4), .val (.int (2 : Int32)), .val (.int (2 : Int32)), .val (.ref b227), .val (.int ((0 : Int32) + (own_cnt p1)))] [(.int (1 : Int32)), (.int (2 : Int32))])) t
        refine XS.icmpNo X255.here hx rfl (hb hby at_70) rfl (by decide) ?_
        show Steps p.tables e below (T255.setTop (mkF m 73 #[.val (.int p0), .val (.int p1), .val (.int p2), .val (.int p3), .val (.int p4), .val (.int (2 : Int32)), .val (.int (2 : Int32)), .val (.ref b227), .val (.int ((0 : Int32) + (own_cnt p1)))] [])) t
        refine XS.aload X255.here hx rfl (hb hby at_73) rfl rfl ?_
        show Steps p.tables e below (T255.setTop (mkF m 75 #[.val (.int p0), .val (.int p1), .val (.int p2), .val (.int p3), .val (.int p4), .val (.int (2 : Int32)), .val (.int (2 : Int32)), .val (.ref b227), .val (.int ((0 : Int32) + (own_cnt p1)))] [(.ref b227)])) t
        refine XS.iconst X255.here hx rfl (hb hby at_75) ?_
        show Steps p.tables e below (T255.setTop (mkF m 76 #[.val (.int p0), .val (.int p1), .val (.int p2), .val (.int p3), .val (.int p4), .val (.int (2 : Int32)), .val (.int (2 : Int32)), .val (.ref b227), .val (.int ((0 : Int32) + (own_cnt p1)))] [(.int (0 : Int32)), (.ref b227)])) t
        refine XS.iconst X255.here hx rfl (hb hby at_76) ?_
        show Steps p.tables e below (T255.setTop (mkF m 77 #[.val (.int p0), .val (.int p1), .val (.int p2), .val (.int p3), .val (.int p4), .val (.int (2 : Int32)), .val (.int (2 : Int32)), .val (.ref b227), .val (.int ((0 : Int32) + (own_cnt p1)))] [(.int (1 : Int32)), (.int (0 : Int32)), (.ref b227)])) t
        refine XS.iloadN X255.here hx rfl (hb hby at_77) rfl ?_
        exact k
      obtain ⟨_, _, ⟨T257, L257, k257, n257⟩, -, X257, ⟨Lc257, hQ257, l257, y257, z257⟩, st257⟩ := Jvm.LawKit.callS X255 hx (y := (⟨"com/example/winnowfold/winnowfold/math/DenseMatrixNonZeroCountPinLaw", "val", "(I)D"⟩ : MethodName)) hown (mvT hZ (hw _ (List.mem_of_getElem? (i := 27) rfl))) (mvT hZ (hw _ (List.mem_of_getElem? (i := 28) rfl))) (mvT hZ (hw _ (List.mem_of_getElem? (i := 29) rfl))) (mvT hZ (hw _ (List.mem_of_getElem? (i := 30) rfl))) (by decide) (backOf (W := 3) (rm5 l Z ar hw [] p2 T245.heap n0 z253) hZ (hw _ (List.mem_of_getElem? (i := 30) rfl)) (hw _ (List.mem_of_getElem? (i := 29) rfl)) (by decide) (by decide)) (g := (mkF m 78 #[.val (.int p0), .val (.int p1), .val (.int p2), .val (.int p3), .val (.int p4), .val (.int (2 : Int32)), .val (.int (2 : Int32)), .val (.ref b227), .val (.int ((0 : Int32) + (own_cnt p1)))] [(.int p2), (.int (1 : Int32)), (.int (0 : Int32)), (.ref b227)])) rfl (by rw [hml]; rfl) (argsL := [(.int p2)]) (rest := [(.int (1 : Int32)), (.int (0 : Int32)), (.ref b227)]) (lenOf pd0_2 rfl) rfl (by show 2 * 0 + _ ≤ _; exact Nat.le_of_eq rfl) (hb hby at_78) (fun _ _ => ⟨rfl, e255, (by decide : 2 + 0 ≤ _), (by decide : 7 + 0 ≤ _)⟩)
      dsimp only [Pt.U, Pt.locs, Pt.cells, Pt.slots] at X257 l257 y257 z257 st257 hQ257
      subst l257 y257 z257
      obtain ⟨rfl, N257q, e257⟩ := hQ257
      have n258 := Fr.app n256 N257q
      refine own_st (T' := T257) (g' := (mkF m 81 #[.val (.int p0), .val (.int p1), .val (.int p2), .val (.int p3), .val (.int p4), .val (.int (2 : Int32)), .val (.int (2 : Int32)), .val (.ref b227), .val (.int ((0 : Int32) + (own_cnt p1)))] [(.double (own_val p2)), (.int (1 : Int32)), (.int (0 : Int32)), (.ref b227)])) st257 ?_
      obtain ⟨cq259, kq259, qa259, qb259, qc259⟩ := isOf hZ e257 f248
      obtain ⟨_, _, ⟨T259, L259, k259, n259⟩, -, X259, ⟨Lc259, hQ259, l259, y259, z259⟩, st259⟩ := X257.virtualBack hx (y := (⟨"com/example/winnowfold/winnowfold/math/DenseMatrix", "set", "(IID)V"⟩ : MethodName)) (z := (⟨"com/example/winnowfold/winnowfold/math/DenseMatrix", "set", "(IID)V"⟩ : MethodName)) hown (mvT hZ (hw _ (List.mem_of_getElem? (i := 31) rfl))) (mvT hZ (hw _ (List.mem_of_getElem? (i := 32) rfl))) (notFace_of_selects (args := #[]) (mvT hZ (hw _ (List.mem_of_getElem? (i := 34) rfl)))) (mvT hZ (hw _ (List.mem_of_getElem? (i := 34) rfl))) (mvT hZ (hw _ (List.mem_of_getElem? (i := 33) rfl))) (by decide) (backOf (W := 0) (rm6 l Z ar hw [] b227 ((0 : Int32)) ((1 : Int32)) ((own_val p2)) ((2 : Int32)) ((2 : Int32)) x0_233 kx_x0_233 ((4 : Int32)) ([(.double (own_val p1)), (.double (0 : UInt64)), (.double (0 : UInt64)), (.double (0 : UInt64))]) ((.double (0 : UInt64))) T245.heap n0 z253 f248 f249 f250 f251 f252 (by decide) (by decide) (by decide) (by decide) (by decide) (show ((((0 : Int32) * (2 : Int32)) + (1 : Int32))).toNatClampNeg < 4 by decide) ne_b227_x0_233 g_x0_233) hZ (hw _ (List.mem_of_getElem? (i := 35) rfl)) (hw _ (List.mem_of_getElem? (i := 2) rfl)) (by decide) (by decide)) qa259 qc259 (g := (mkF m 81 #[.val (.int p0), .val (.int p1), .val (.int p2), .val (.int p3), .val (.int p4), .val (.int (2 : Int32)), .val (.int (2 : Int32)), .val (.ref b227), .val (.int ((0 : Int32) + (own_cnt p1)))] [(.double (own_val p2)), (.int (1 : Int32)), (.int (0 : Int32)), (.ref b227)])) rfl (by rw [hml]; rfl) (Steps.refl _) (argsL := [(.int (0 : Int32)), (.int (1 : Int32)), (.double (own_val p2))]) (rest := []) (lenOf pd0_3 rfl) rfl (by show 2 * 0 + _ ≤ _; exact Nat.le_of_eq rfl) (hb hby at_81) (fun _ _ => ⟨rfl, e257, (by decide : 2 + 0 ≤ _), (by decide : 7 + 0 ≤ _)⟩)
      dsimp only [Pt.U, Pt.locs, Pt.cells, Pt.slots] at X259 l259 y259 z259 st259 hQ259
      subst l259 y259 z259
      obtain ⟨rfl, N259q, K259, f260⟩ := hQ259
      have n261 := Fr.app n258 N259q
      have f262 := f248.keep K259
      have f263 := f249.keep K259 (ninS ne_b227_x0_233 nin0)
      have f264 := f250.keep K259 (ninS ne_b227_x0_233 nin0)
      have f265 := f251.keep K259 (ninS ne_b227_x0_233 nin0)
      have f266 := own_ve (vs' := [(.double (own_val p1)), (.double (own_val p2)), (.double (0 : UInt64)), (.double (0 : UInt64))]) f260 (by rw [show ((((0 : Int32) * (2 : Int32)) + (1 : Int32))).toNatClampNeg = 1 by decide]; rfl)
      have z267 := Nat.le_trans z253 K259.1
      have k268 := k254.trans K259 (allS (Or.inr sz_x0_233) all0)
      refine own_tr (T' := T259) (g' := (mkF m 84 #[.val (.int p0), .val (.int p1), .val (.int p2), .val (.int p3), .val (.int p4), .val (.int (2 : Int32)), .val (.int (2 : Int32)), .val (.ref b227), .val (.int ((0 : Int32) + (own_cnt p1)))] [])) st259 ?_
      refine own_st (T' := T259) (g' := (mkF m 87 #[.val (.int p0), .val (.int p1), .val (.int p2), .val (.int p3), .val (.int p4), .val (.int (2 : Int32)), .val (.int (2 : Int32)), .val (.ref b227), .val (.int ((0 : Int32) + (own_cnt p1)))] [(.int p2), (.int ((0 : Int32) + (own_cnt p1)))])) (fun t k => ?_) ?_
      · show Steps p.tables e below (T259.setTop (mkF m 84 #[.val (.int p0), .val (.int p1), .val (.int p2), .val (.int p3), .val (.int p4), .val (.int (2 : Int32)), .val (.int (2 : Int32)), .val (.ref b227), .val (.int ((0 : Int32) + (own_cnt p1)))] [])) t
        refine XS.iload X259.here hx rfl (hb hby at_84) rfl ?_
        show Steps p.tables e below (T259.setTop (mkF m 86 #[.val (.int p0), .val (.int p1), .val (.int p2), .val (.int p3), .val (.int p4), .val (.int (2 : Int32)), .val (.int (2 : Int32)), .val (.ref b227), .val (.int ((0 : Int32) + (own_cnt p1)))] [(.int ((0 : Int32) + (own_cnt p1)))])) t
        refine XS.iloadN X259.here hx rfl (hb hby at_86) rfl ?_
        exact k
      obtain ⟨_, _, ⟨T269, L269, k269, n269⟩, -, X269, ⟨Lc269, hQ269, l269, y269, z269⟩, st269⟩ := Jvm.LawKit.callS X259 hx (y := (⟨"com/example/winnowfold/winnowfold/math/DenseMatrixNonZeroCountPinLaw", "nz", "(I)I"⟩ : MethodName)) hown (mvT hZ (hw _ (List.mem_of_getElem? (i := 56) rfl))) (mvT hZ (hw _ (List.mem_of_getElem? (i := 57) rfl))) (mvT hZ (hw _ (List.mem_of_getElem? (i := 29) rfl))) (mvT hZ (hw _ (List.mem_of_getElem? (i := 58) rfl))) (by decide) (backOf (W := 1) (rm11 l Z ar hw [] p2 T259.heap n0 z267) hZ (hw _ (List.mem_of_getElem? (i := 58) rfl)) (hw _ (List.mem_of_getElem? (i := 29) rfl)) (by decide) (by decide)) (g := (mkF m 87 #[.val (.int p0), .val (.int p1), .val (.int p2), .val (.int p3), .val (.int p4), .val (.int (2 : Int32)), .val (.int (2 : Int32)), .val (.ref b227), .val (.int ((0 : Int32) + (own_cnt p1)))] [(.int p2), (.int ((0 : Int32) + (own_cnt p1)))])) rfl (by rw [hml]; rfl) (argsL := [(.int p2)]) (rest := [(.int ((0 : Int32) + (own_cnt p1)))]) (lenOf pd0_4 rfl) rfl (by show 2 * 0 + _ ≤ _; exact Nat.le_of_eq rfl) (hb hby at_87) (fun _ _ => ⟨rfl, (rfl : T259.heap = T259.heap), (by decide : 2 + 0 ≤ _), (by decide : 7 + 0 ≤ _)⟩)
      dsimp only [Pt.U, Pt.locs, Pt.cells, Pt.slots] at X269 l269 y269 z269 st269 hQ269
      subst l269 y269 z269
      obtain ⟨rfl, N269q, e269⟩ := hQ269
      have n270 := Fr.app n261 N269q
      refine own_st (T' := T269) (g' := (mkF m 90 #[.val (.int p0), .val (.int p1), .val (.int p2), .val (.int p3), .val (.int p4), .val (.int (2 : Int32)), .val (.int (2 : Int32)), .val (.ref b227), .val (.int ((0 : Int32) + (own_cnt p1)))] [(.int (own_cnt p2)), (.int ((0 : Int32) + (own_cnt p1)))])) st269 ?_
      refine own_st (T' := T269) (g' := (mkF m 109 #[.val (.int p0), .val (.int p1), .val (.int p2), .val (.int p3), .val (.int p4), .val (.int (2 : Int32)), .val (.int (2 : Int32)), .val (.ref b227), .val (.int (((0 : Int32) + (own_cnt p1)) + (own_cnt p2)))] [(.int p3), (.int (0 : Int32)), (.int (1 : Int32)), (.ref b227)])) (fun t k => ?_) ?_
      · show Steps p.tables e below (T269.setTop (mkF m 90 #[.val (.int p0), .val (.int p1), .val (.int p2), .val (.int p3), .val (.int p4), .val (.int (2 : Int32)), .val (.int (2 : Int32)), .val (.ref b227), .val (.int ((0 : Int32) + (own_cnt p1)))] [(.int (own_cnt p2)), (.int ((0 : Int32) + (own_cnt p1)))])) t
        refine XS.iadd X269.here hx rfl (hb hby at_90) rfl ?_
        show Steps p.tables e below (T269.setTop (mkF m 91 #[.val (.int p0), .val (.int p1), .val (.int p2), .val (.int p3), .val (.int p4), .val (.int (2 : Int32)), .val (.int (2 : Int32)), .val (.ref b227), .val (.int ((0 : Int32) + (own_cnt p1)))] [(.int (((0 : Int32) + (own_cnt p1)) + (own_cnt p2)))])) t
        refine XS.istore X269.here hx rfl (hb hby at_91) rfl (l' := #[.val (.int p0), .val (.int p1), .val (.int p2), .val (.int p3), .val (.int p4), .val (.int (2 : Int32)), .val (.int (2 : Int32)), .val (.ref b227), .val (.int (((0 : Int32) + (own_cnt p1)) + (own_cnt p2)))]) rfl ?_
        show Steps p.tables e below (T269.setTop (mkF m 93 #[.val (.int p0), .val (.int p1), .val (.int p2), .val (.int p3), .val (.int p4), .val (.int (2 : Int32)), .val (.int (2 : Int32)), .val (.ref b227), .val (.int (((0 : Int32) + (own_cnt p1)) + (own_cnt p2)))] [])) t
        refine XS.iload X269.here hx rfl (hb hby at_93) rfl ?_
        show Steps p.tables e below (T269.setTop (mkF m 95 #[.val (.int p0), .val (.int p1), .val (.int p2), .val (.int p3), .val (.int p4), .val (.int (2 : Int32)), .val (.int (2 : Int32)), .val (.ref b227), .val (.int (((0 : Int32) + (own_cnt p1)) + (own_cnt p2)))] [(.int (2 : Int32))])) t
        refine XS.iconst X269.here hx rfl (hb hby at_95) ?_
        show Steps p.tables e below (T269.setTop (mkF m 96 #[.val (.int p0), .val (.int p1), .val (.int p2), .val (.int p3), .val (.int p4), .val (.int (2 : Int32)), .val (.int (2 : Int32)), .val (.ref b227), .val (.int (((0 : Int32) + (own_cnt p1)) + (own_cnt p2)))] [(.int (1 : Int32)), (.int (2 : Int32))])) t
        refine XS.icmpNo X269.here hx rfl (hb hby at_96) rfl (by decide) ?_
        show Steps p.tables e below (T269.setTop (mkF m 99 #[.val (.int p0), .val (.int p1), .val (.int p2), .val (.int p3), .val (.int p4), .val (.int (2 : Int32)), .val (.int (2 : Int32)), .val (.ref b227), .val (.int (((0 : Int32) + (own_cnt p1)) + (own_cnt p2)))] [])) t
        refine XS.iload X269.here hx rfl (hb hby at_99) rfl ?_
        show Steps p.tables e below (T269.setTop (mkF m 101 #[.val (.int p0), .val (.int p1), .val (.int p2), .val (.int p3), .val (.int p4), .val (.int (2 : Int32)), .val (.int (2 : Int32)), .val (.ref b227), .val (.int (((0 : Int32) + (own_cnt p1)) + (own_cnt p2)))] [(.int (2 : Int32))])) t
        refine XS.ifNo X269.here hx rfl (hb hby at_101) rfl (by decide) ?_
        show Steps p.tables e below (T269.setTop (mkF m 104 #[.val (.int p0), .val (.int p1), .val (.int p2), .val (.int p3), .val (.int p4), .val (.int (2 : Int32)), .val (.int (2 : Int32)), .val (.ref b227), .val (.int (((0 : Int32) + (own_cnt p1)) + (own_cnt p2)))] [])) t
        refine XS.aload X269.here hx rfl (hb hby at_104) rfl rfl ?_
        show Steps p.tables e below (T269.setTop (mkF m 106 #[.val (.int p0), .val (.int p1), .val (.int p2), .val (.int p3), .val (.int p4), .val (.int (2 : Int32)), .val (.int (2 : Int32)), .val (.ref b227), .val (.int (((0 : Int32) + (own_cnt p1)) + (own_cnt p2)))] [(.ref b227)])) t
        refine XS.iconst X269.here hx rfl (hb hby at_106) ?_
        show Steps p.tables e below (T269.setTop (mkF m 107 #[.val (.int p0), .val (.int p1), .val (.int p2), .val (.int p3), .val (.int p4), .val (.int (2 : Int32)), .val (.int (2 : Int32)), .val (.ref b227), .val (.int (((0 : Int32) + (own_cnt p1)) + (own_cnt p2)))] [(.int (1 : Int32)), (.ref b227)])) t
        refine XS.iconst X269.here hx rfl (hb hby at_107) ?_
        show Steps p.tables e below (T269.setTop (mkF m 108 #[.val (.int p0), .val (.int p1), .val (.int p2), .val (.int p3), .val (.int p4), .val (.int (2 : Int32)), .val (.int (2 : Int32)), .val (.ref b227), .val (.int (((0 : Int32) + (own_cnt p1)) + (own_cnt p2)))] [(.int (0 : Int32)), (.int (1 : Int32)), (.ref b227)])) t
        refine XS.iloadN X269.here hx rfl (hb hby at_108) rfl ?_
        exact k
      obtain ⟨_, _, ⟨T271, L271, k271, n271⟩, -, X271, ⟨Lc271, hQ271, l271, y271, z271⟩, st271⟩ := Jvm.LawKit.callS X269 hx (y := (⟨"com/example/winnowfold/winnowfold/math/DenseMatrixNonZeroCountPinLaw", "val", "(I)D"⟩ : MethodName)) hown (mvT hZ (hw _ (List.mem_of_getElem? (i := 27) rfl))) (mvT hZ (hw _ (List.mem_of_getElem? (i := 28) rfl))) (mvT hZ (hw _ (List.mem_of_getElem? (i := 29) rfl))) (mvT hZ (hw _ (List.mem_of_getElem? (i := 30) rfl))) (by decide) (backOf (W := 3) (rm5 l Z ar hw [] p3 T259.heap n0 z267) hZ (hw _ (List.mem_of_getElem? (i := 30) rfl)) (hw _ (List.mem_of_getElem? (i := 29) rfl)) (by decide) (by decide)) (g := (mkF m 109 #[.val (.int p0), .val (.int p1), .val (.int p2), .val (.int p3), .val (.int p4), .val (.int (2 : Int32)), .val (.int (2 : Int32)), .val (.ref b227), .val (.int (((0 : Int32) + (own_cnt p1)) + (own_cnt p2)))] [(.int p3), (.int (0 : Int32)), (.int (1 : Int32)), (.ref b227)])) rfl (by rw [hml]; rfl) (argsL := [(.int p3)]) (rest := [(.int (0 : Int32)), (.int (1 : Int32)), (.ref b227)]) (lenOf pd0_2 rfl) rfl (by show 2 * 0 + _ ≤ _; exact Nat.le_of_eq rfl) (hb hby at_109) (fun _ _ => ⟨rfl, e269, (by decide : 2 + 0 ≤ _), (by decide : 7 + 0 ≤ _)⟩)
      dsimp only [Pt.U, Pt.locs, Pt.cells, Pt.slots] at X271 l271 y271 z271 st271 hQ271
      subst l271 y271 z271
      obtain ⟨rfl, N271q, e271⟩ := hQ271
      have n272 := Fr.app n270 N271q
      refine own_st (T' := T271) (g' := (mkF m 112 #[.val (.int p0), .val (.int p1), .val (.int p2), .val (.int p3), .val (.int p4), .val (.int (2 : Int32)), .val (.int (2 : Int32)), .val (.ref b227), .val (.int (((0 : Int32) + (own_cnt p1)) + (own_cnt p2)))] [(.double (own_val p3)), (.int (0 : Int32)), (.int (1 : Int32)), (.ref b227)])) st271 ?_
      obtain ⟨cq273, kq273, qa273, qb273, qc273⟩ := isOf hZ e271 f262
      obtain ⟨_, _, ⟨T273, L273, k273, n273⟩, -, X273, ⟨Lc273, hQ273, l273, y273, z273⟩, st273⟩ := X271.virtualBack hx (y := (⟨"com/example/winnowfold/winnowfold/math/DenseMatrix", "set", "(IID)V"⟩ : MethodName)) (z := (⟨"com/example/winnowfold/winnowfold/math/DenseMatrix", "set", "(IID)V"⟩ : MethodName)) hown (mvT hZ (hw _ (List.mem_of_getElem? (i := 31) rfl))) (mvT hZ (hw _ (List.mem_of_getElem? (i := 32) rfl))) (notFace_of_selects (args := #[]) (mvT hZ (hw _ (List.mem_of_getElem? (i := 34) rfl)))) (mvT hZ (hw _ (List.mem_of_getElem? (i := 34) rfl))) (mvT hZ (hw _ (List.mem_of_getElem? (i := 33) rfl))) (by decide) (backOf (W := 0) (rm6 l Z ar hw [] b227 ((1 : Int32)) ((0 : Int32)) ((own_val p3)) ((2 : Int32)) ((2 : Int32)) x0_233 kx_x0_233 ((4 : Int32)) ([(.double (own_val p1)), (.double (own_val p2)), (.double (0 : UInt64)), (.double (0 : UInt64))]) ((.double (0 : UInt64))) T259.heap n0 z267 f262 f263 f264 f265 f266 (by decide) (by decide) (by decide) (by decide) (by decide) (show ((((1 : Int32) * (2 : Int32)) + (0 : Int32))).toNatClampNeg < 4 by decide) ne_b227_x0_233 g_x0_233) hZ (hw _ (List.mem_of_getElem? (i := 35) rfl)) (hw _ (List.mem_of_getElem? (i := 2) rfl)) (by decide) (by decide)) qa273 qc273 (g := (mkF m 112 #[.val (.int p0), .val (.int p1), .val (.int p2), .val (.int p3), .val (.int p4), .val (.int (2 : Int32)), .val (.int (2 : Int32)), .val (.ref b227), .val (.int (((0 : Int32) + (own_cnt p1)) + (own_cnt p2)))] [(.double (own_val p3)), (.int (0 : Int32)), (.int (1 : Int32)), (.ref b227)])) rfl (by rw [hml]; rfl) (Steps.refl _) (argsL := [(.int (1 : Int32)), (.int (0 : Int32)), (.double (own_val p3))]) (rest := []) (lenOf pd0_3 rfl) rfl (by show 2 * 0 + _ ≤ _; exact Nat.le_of_eq rfl) (hb hby at_112) (fun _ _ => ⟨rfl, e271, (by decide : 2 + 0 ≤ _), (by decide : 7 + 0 ≤ _)⟩)
      dsimp only [Pt.U, Pt.locs, Pt.cells, Pt.slots] at X273 l273 y273 z273 st273 hQ273
      subst l273 y273 z273
      obtain ⟨rfl, N273q, K273, f274⟩ := hQ273
      have n275 := Fr.app n272 N273q
      have f276 := f262.keep K273
      have f277 := f263.keep K273 (ninS ne_b227_x0_233 nin0)
      have f278 := f264.keep K273 (ninS ne_b227_x0_233 nin0)
      have f279 := f265.keep K273 (ninS ne_b227_x0_233 nin0)
      have f280 := own_ve (vs' := [(.double (own_val p1)), (.double (own_val p2)), (.double (own_val p3)), (.double (0 : UInt64))]) f274 (by rw [show ((((1 : Int32) * (2 : Int32)) + (0 : Int32))).toNatClampNeg = 2 by decide]; rfl)
      have z281 := Nat.le_trans z267 K273.1
      have k282 := k268.trans K273 (allS (Or.inr sz_x0_233) all0)
      refine own_tr (T' := T273) (g' := (mkF m 115 #[.val (.int p0), .val (.int p1), .val (.int p2), .val (.int p3), .val (.int p4), .val (.int (2 : Int32)), .val (.int (2 : Int32)), .val (.ref b227), .val (.int (((0 : Int32) + (own_cnt p1)) + (own_cnt p2)))] [])) st273 ?_
      refine own_st (T' := T273) (g' := (mkF m 118 #[.val (.int p0), .val (.int p1), .val (.int p2), .val (.int p3), .val (.int p4), .val (.int (2 : Int32)), .val (.int (2 : Int32)), .val (.ref b227), .val (.int (((0 : Int32) + (own_cnt p1)) + (own_cnt p2)))] [(.int p3), (.int (((0 : Int32) + (own_cnt p1)) + (own_cnt p2)))])) (fun t k => ?_) ?_
      · show Steps p.tables e below (T273.setTop (mkF m 115 #[.val (.int p0), .val (.int p1), .val (.int p2), .val (.int p3), .val (.int p4), .val (.int (2 : Int32)), .val (.int (2 : Int32)), .val (.ref b227), .val (.int (((0 : Int32) + (own_cnt p1)) + (own_cnt p2)))] [])) t
        refine XS.iload X273.here hx rfl (hb hby at_115) rfl ?_
        show Steps p.tables e below (T273.setTop (mkF m 117 #[.val (.int p0), .val (.int p1), .val (.int p2), .val (.int p3), .val (.int p4), .val (.int (2 : Int32)), .val (.int (2 : Int32)), .val (.ref b227), .val (.int (((0 : Int32) + (own_cnt p1)) + (own_cnt p2)))] [(.int (((0 : Int32) + (own_cnt p1)) + (own_cnt p2)))])) t
        refine XS.iloadN X273.here hx rfl (hb hby at_117) rfl ?_
        exact k
      obtain ⟨_, _, ⟨T283, L283, k283, n283⟩, -, X283, ⟨Lc283, hQ283, l283, y283, z283⟩, st283⟩ := Jvm.LawKit.callS X273 hx (y := (⟨"com/example/winnowfold/winnowfold/math/DenseMatrixNonZeroCountPinLaw", "nz", "(I)I"⟩ : MethodName)) hown (mvT hZ (hw _ (List.mem_of_getElem? (i := 56) rfl))) (mvT hZ (hw _ (List.mem_of_getElem? (i := 57) rfl))) (mvT hZ (hw _ (List.mem_of_getElem? (i := 29) rfl))) (mvT hZ (hw _ (List.mem_of_getElem? (i := 58) rfl))) (by decide) (backOf (W := 1) (rm11 l Z ar hw [] p3 T273.heap n0 z281) hZ (hw _ (List.mem_of_getElem? (i := 58) rfl)) (hw _ (List.mem_of_getElem? (i := 29) rfl)) (by decide) (by decide)) (g := (mkF m 118 #[.val (.int p0), .val (.int p1), .val (.int p2), .val (.int p3), .val (.int p4), .val (.int (2 : Int32)), .val (.int (2 : Int32)), .val (.ref b227), .val (.int (((0 : Int32) + (own_cnt p1)) + (own_cnt p2)))] [(.int p3), (.int (((0 : Int32) + (own_cnt p1)) + (own_cnt p2)))])) rfl (by rw [hml]; rfl) (argsL := [(.int p3)]) (rest := [(.int (((0 : Int32) + (own_cnt p1)) + (own_cnt p2)))]) (lenOf pd0_4 rfl) rfl (by show 2 * 0 + _ ≤ _; exact Nat.le_of_eq rfl) (hb hby at_118) (fun _ _ => ⟨rfl, (rfl : T273.heap = T273.heap), (by decide : 2 + 0 ≤ _), (by decide : 7 + 0 ≤ _)⟩)
      dsimp only [Pt.U, Pt.locs, Pt.cells, Pt.slots] at X283 l283 y283 z283 st283 hQ283
      subst l283 y283 z283
      obtain ⟨rfl, N283q, e283⟩ := hQ283
      have n284 := Fr.app n275 N283q
      refine own_st (T' := T283) (g' := (mkF m 121 #[.val (.int p0), .val (.int p1), .val (.int p2), .val (.int p3), .val (.int p4), .val (.int (2 : Int32)), .val (.int (2 : Int32)), .val (.ref b227), .val (.int (((0 : Int32) + (own_cnt p1)) + (own_cnt p2)))] [(.int (own_cnt p3)), (.int (((0 : Int32) + (own_cnt p1)) + (own_cnt p2)))])) st283 ?_
      refine own_st (T' := T283) (g' := (mkF m 142 #[.val (.int p0), .val (.int p1), .val (.int p2), .val (.int p3), .val (.int p4), .val (.int (2 : Int32)), .val (.int (2 : Int32)), .val (.ref b227), .val (.int ((((0 : Int32) + (own_cnt p1)) + (own_cnt p2)) + (own_cnt p3)))] [(.int p4), (.int (1 : Int32)), (.int (1 : Int32)), (.ref b227)])) (fun t k => ?_) ?_
      · show Steps p.tables e below (T283.setTop (mkF m 121 #[.val (.int p0), .val (.int p1), .val (.int p2), .val (.int p3), .val (.int p4), .val (.int (2 : Int32)), .val (.int (2 : Int32)), .val (.ref b227), .val (.int (((0 : Int32) + (own_cnt p1)) + (own_cnt p2)))] [(.int (own_cnt p3)), (.int (((0 : Int32) + (own_cnt p1)) + (own_cnt p2)))])) t
        refine XS.iadd X283.here hx rfl (hb hby at_121) rfl ?_
        show Steps p.tables e below (T283.setTop (mkF m 122 #[.val (.int p0), .val (.int p1), .val (.int p2), .val (.int p3), .val (.int p4), .val (.int (2 : Int32)), .val (.int (2 : Int32)), .val (.ref b227), .val (.int (((0 : Int32) + (own_cnt p1)) + (own_cnt p2)))] [(.int ((((0 : Int32) + (own_cnt p1)) + (own_cnt p2)) + (own_cnt p3)))])) t
        refine XS.istore X283.here hx rfl (hb hby at_122) rfl (l' := #[.val (.int p0), .val (.int p1), .val (.int p2), .val (.int p3), .val (.int p4), .val (.int (2 : Int32)), .val (.int (2 : Int32)), .val (.ref b227), .val (.int ((((0 : Int32) + (own_cnt p1)) + (own_cnt p2)) + (own_cnt p3)))]) rfl ?_
        show Steps p.tables e below (T283.setTop (mkF m 124 #[.val (.int p0), .val (.int p1), .val (.int p2), .val (.int p3), .val (.int p4), .val (.int (2 : Int32)), .val (.int (2 : Int32)), .val (.ref b227), .val (.int ((((0 : Int32) + (own_cnt p1)) + (own_cnt p2)) + (own_cnt p3)))] [])) t
        refine XS.iload X283.here hx rfl (hb hby at_124) rfl ?_
        show Steps p.tables e below (T283.setTop (mkF m 126 #[.val (.int p0), .val (.int p1), .val (.int p2), .val (.int p3), .val (.int p4), .val (.int (2 : Int32)), .val (.int (2 : Int32)), .val (.ref b227), .val (.int ((((0 : Int32) + (own_cnt p1)) + (own_cnt p2)) + (own_cnt p3)))] [(.int (2 : Int32))])) t
        refine XS.iconst X283.here hx rfl (hb hby at_126) ?_
        show Steps p.tables e below (T283.setTop (mkF m 127 #[.val (.int p0), .val (.int p1), .val (.int p2), .val (.int p3), .val (.int p4), .val (.int (2 : Int32)), .val (.int (2 : Int32)), .val (.ref b227), .val (.int ((((0 : Int32) + (own_cnt p1)) + (own_cnt p2)) + (own_cnt p3)))] [(.int (1 : Int32)), (.int (2 : Int32))])) t
        refine XS.icmpNo X283.here hx rfl (hb hby at_127) rfl (by decide) ?_
        show Steps p.tables e below (T283.setTop (mkF m 130 #[.val (.int p0), .val (.int p1), .val (.int p2), .val (.int p3), .val (.int p4), .val (.int (2 : Int32)), .val (.int (2 : Int32)), .val (.ref b227), .val (.int ((((0 : Int32) + (own_cnt p1)) + (own_cnt p2)) + (own_cnt p3)))] [])) t
        refine XS.iload X283.here hx rfl (hb hby at_130) rfl ?_
        show Steps p.tables e below (T283.setTop (mkF m 132 #[.val (.int p0), .val (.int p1), .val (.int p2), .val (.int p3), .val (.int p4), .val (.int (2 : Int32)), .val (.int (2 : Int32)), .val (.ref b227), .val (.int ((((0 : Int32) + (own_cnt p1)) + (own_cnt p2)) + (own_cnt p3)))] [(.int (2 : Int32))])) t
        refine XS.iconst X283.here hx rfl (hb hby at_132) ?_
        show Steps p.tables e below (T283.setTop (mkF m 133 #[.val (.int p0), .val (.int p1), .val (.int p2), .val (.int p3), .val (.int p4), .val (.int (2 : Int32)), .val (.int (2 : Int32)), .val (.ref b227), .val (.int ((((0 : Int32) + (own_cnt p1)) + (own_cnt p2)) + (own_cnt p3)))] [(.int (1 : Int32)), (.int (2 : Int32))])) t
        refine XS.icmpNo X283.here hx rfl (hb hby at_133) rfl (by decide) ?_
        show Steps p.tables e below (T283.setTop (mkF m 136 #[.val (.int p0), .val (.int p1), .val (.int p2), .val (.int p3), .val (.int p4), .val (.int (2 : Int32)), .val (.int (2 : Int32)), .val (.ref b227), .val (.int ((((0 : Int32) + (own_cnt p1)) + (own_cnt p2)) + (own_cnt p3)))] [])) t
        refine XS.aload X283.here hx rfl (hb hby at_136) rfl rfl ?_
        show Steps p.tables e below (T283.setTop (mkF m 138 #[.val (.int p0), .val (.int p1), .val (.int p2), .val (.int p3), .val (.int p4), .val (.int (2 : Int32)), .val (.int (2 : Int32)), .val (.ref b227), .val (.int ((((0 : Int32) + (own_cnt p1)) + (own_cnt p2)) + (own_cnt p3)))] [(.ref b227)])) t
        refine XS.iconst X283.here hx rfl (hb hby at_138) ?_
        show Steps p.tables e below (T283.setTop (mkF m 139 #[.val (.int p0), .val (.int p1), .val (.int p2), .val (.int p3), .val (.int p4), .val (.int (2 : Int32)), .val (.int (2 : Int32)), .val (.ref b227), .val (.int ((((0 : Int32) + (own_cnt p1)) + (own_cnt p2)) + (own_cnt p3)))] [(.int (1 : Int32)), (.ref b227)])) t
        refine XS.iconst X283.here hx rfl (hb hby at_139) ?_
        show Steps p.tables e below (T283.setTop (mkF m 140 #[.val (.int p0), .val (.int p1), .val (.int p2), .val (.int p3), .val (.int p4), .val (.int (2 : Int32)), .val (.int (2 : Int32)), .val (.ref b227), .val (.int ((((0 : Int32) + (own_cnt p1)) + (own_cnt p2)) + (own_cnt p3)))] [(.int (1 : Int32)), (.int (1 : Int32)), (.ref b227)])) t
        refine XS.iload X283.here hx rfl (hb hby at_140) rfl ?_
        exact k
      obtain ⟨_, _, ⟨T285, L285, k285, n285⟩, -, X285, ⟨Lc285, hQ285, l285, y285, z285⟩, st285⟩ := Jvm.LawKit.callS X283 hx (y := (⟨"com/example/winnowfold/winnowfold/math/DenseMatrixNonZeroCountPinLaw", "val", "(I)D"⟩ : MethodName)) hown (mvT hZ (hw _ (List.mem_of_getElem? (i := 27) rfl))) (mvT hZ (hw _ (List.mem_of_getElem? (i := 28) rfl))) (mvT hZ (hw _ (List.mem_of_getElem? (i := 29) rfl))) (mvT hZ (hw _ (List.mem_of_getElem? (i := 30) rfl))) (by decide) (backOf (W := 3) (rm5 l Z ar hw [] p4 T273.heap n0 z281) hZ (hw _ (List.mem_of_getElem? (i := 30) rfl)) (hw _ (List.mem_of_getElem? (i := 29) rfl)) (by decide) (by decide)) (g := (mkF m 142 #[.val (.int p0), .val (.int p1), .val (.int p2), .val (.int p3), .val (.int p4), .val (.int (2 : Int32)), .val (.int (2 : Int32)), .val (.ref b227), .val (.int ((((0 : Int32) + (own_cnt p1)) + (own_cnt p2)) + (own_cnt p3)))] [(.int p4), (.int (1 : Int32)), (.int (1 : Int32)), (.ref b227)])) rfl (by rw [hml]; rfl) (argsL := [(.int p4)]) (rest := [(.int (1 : Int32)), (.int (1 : Int32)), (.ref b227)]) (lenOf pd0_2 rfl) rfl (by show 2 * 0 + _ ≤ _; exact Nat.le_of_eq rfl) (hb hby at_142) (fun _ _ => ⟨rfl, e283, (by decide : 2 + 0 ≤ _), (by decide : 7 + 0 ≤ _)⟩)
      dsimp only [Pt.U, Pt.locs, Pt.cells, Pt.slots] at X285 l285 y285 z285 st285 hQ285
      subst l285 y285 z285
      obtain ⟨rfl, N285q, e285⟩ := hQ285
      have n286 := Fr.app n284 N285q
      refine own_st (T' := T285) (g' := (mkF m 145 #[.val (.int p0), .val (.int p1), .val (.int p2), .val (.int p3), .val (.int p4), .val (.int (2 : Int32)), .val (.int (2 : Int32)), .val (.ref b227), .val (.int ((((0 : Int32) + (own_cnt p1)) + (own_cnt p2)) + (own_cnt p3)))] [(.double (own_val p4)), (.int (1 : Int32)), (.int (1 : Int32)), (.ref b227)])) st285 ?_
      obtain ⟨cq287, kq287, qa287, qb287, qc287⟩ := isOf hZ e285 f276
      obtain ⟨_, _, ⟨T287, L287, k287, n287⟩, -, X287, ⟨Lc287, hQ287, l287, y287, z287⟩, st287⟩ := X285.virtualBack hx (y := (⟨"com/example/winnowfold/winnowfold/math/DenseMatrix", "set", "(IID)V"⟩ : MethodName)) (z := (⟨"com/example/winnowfold/winnowfold/math/DenseMatrix", "set", "(IID)V"⟩ : MethodName)) hown (mvT hZ (hw _ (List.mem_of_getElem? (i := 31) rfl))) (mvT hZ (hw _ (List.mem_of_getElem? (i := 32) rfl))) (notFace_of_selects (args := #[]) (mvT hZ (hw _ (List.mem_of_getElem? (i := 34) rfl)))) (mvT hZ (hw _ (List.mem_of_getElem? (i := 34) rfl))) (mvT hZ (hw _ (List.mem_of_getElem? (i := 33) rfl))) (by decide) (backOf (W := 0) (rm6 l Z ar hw [] b227 ((1 : Int32)) ((1 : Int32)) ((own_val p4)) ((2 : Int32)) ((2 : Int32)) x0_233 kx_x0_233 ((4 : Int32)) ([(.double (own_val p1)), (.double (own_val p2)), (.double (own_val p3)), (.double (0 : UInt64))]) ((.double (0 : UInt64))) T273.heap n0 z281 f276 f277 f278 f279 f280 (by decide) (by decide) (by decide) (by decide) (by decide) (show ((((1 : Int32) * (2 : Int32)) + (1 : Int32))).toNatClampNeg < 4 by decide) ne_b227_x0_233 g_x0_233) hZ (hw _ (List.mem_of_getElem? (i := 35) rfl)) (hw _ (List.mem_of_getElem? (i := 2) rfl)) (by decide) (by decide)) qa287 qc287 (g := (mkF m 145 #[.val (.int p0), .val (.int p1), .val (.int p2), .val (.int p3), .val (.int p4), .val (.int (2 : Int32)), .val (.int (2 : Int32)), .val (.ref b227), .val (.int ((((0 : Int32) + (own_cnt p1)) + (own_cnt p2)) + (own_cnt p3)))] [(.double (own_val p4)), (.int (1 : Int32)), (.int (1 : Int32)), (.ref b227)])) rfl (by rw [hml]; rfl) (Steps.refl _) (argsL := [(.int (1 : Int32)), (.int (1 : Int32)), (.double (own_val p4))]) (rest := []) (lenOf pd0_3 rfl) rfl (by show 2 * 0 + _ ≤ _; exact Nat.le_of_eq rfl) (hb hby at_145) (fun _ _ => ⟨rfl, e285, (by decide : 2 + 0 ≤ _), (by decide : 7 + 0 ≤ _)⟩)
      dsimp only [Pt.U, Pt.locs, Pt.cells, Pt.slots] at X287 l287 y287 z287 st287 hQ287
      subst l287 y287 z287
      obtain ⟨rfl, N287q, K287, f288⟩ := hQ287
      have n289 := Fr.app n286 N287q
      have f290 := f276.keep K287
      have f291 := f277.keep K287 (ninS ne_b227_x0_233 nin0)
      have f292 := f278.keep K287 (ninS ne_b227_x0_233 nin0)
      have f293 := f279.keep K287 (ninS ne_b227_x0_233 nin0)
      have f294 := own_ve (vs' := [(.double (own_val p1)), (.double (own_val p2)), (.double (own_val p3)), (.double (own_val p4))]) f288 (by rw [show ((((1 : Int32) * (2 : Int32)) + (1 : Int32))).toNatClampNeg = 3 by decide]; rfl)
      have z295 := Nat.le_trans z281 K287.1
      have k296 := k282.trans K287 (allS (Or.inr sz_x0_233) all0)
      refine own_tr (T' := T287) (g' := (mkF m 148 #[.val (.int p0), .val (.int p1), .val (.int p2), .val (.int p3), .val (.int p4), .val (.int (2 : Int32)), .val (.int (2 : Int32)), .val (.ref b227), .val (.int ((((0 : Int32) + (own_cnt p1)) + (own_cnt p2)) + (own_cnt p3)))] [])) st287 ?_
      refine own_st (T' := T287) (g' := (mkF m 152 #[.val (.int p0), .val (.int p1), .val (.int p2), .val (.int p3), .val (.int p4), .val (.int (2 : Int32)), .val (.int (2 : Int32)), .val (.ref b227), .val (.int ((((0 : Int32) + (own_cnt p1)) + (own_cnt p2)) + (own_cnt p3)))] [(.int p4), (.int ((((0 : Int32) + (own_cnt p1)) + (own_cnt p2)) + (own_cnt p3)))])) (fun t k => ?_) ?_
      · show Steps p.tables e below (T287.setTop (mkF m 148 #[.val (.int p0), .val (.int p1), .val (.int p2), .val (.int p3), .val (.int p4), .val (.int (2 : Int32)), .val (.int (2 : Int32)), .val (.ref b227), .val (.int ((((0 : Int32) + (own_cnt p1)) + (own_cnt p2)) + (own_cnt p3)))] [])) t
        refine XS.iload X287.here hx rfl (hb hby at_148) rfl ?_
        show Steps p.tables e below (T287.setTop (mkF m 150 #[.val (.int p0), .val (.int p1), .val (.int p2), .val (.int p3), .val (.int p4), .val (.int (2 : Int32)), .val (.int (2 : Int32)), .val (.ref b227), .val (.int ((((0 : Int32) + (own_cnt p1)) + (own_cnt p2)) + (own_cnt p3)))] [(.int ((((0 : Int32) + (own_cnt p1)) + (own_cnt p2)) + (own_cnt p3)))])) t
        refine XS.iload X287.here hx rfl (hb hby at_150) rfl ?_
        exact k
      obtain ⟨_, _, ⟨T297, L297, k297, n297⟩, -, X297, ⟨Lc297, hQ297, l297, y297, z297⟩, st297⟩ := Jvm.LawKit.callS X287 hx (y := (⟨"com/example/winnowfold/winnowfold/math/DenseMatrixNonZeroCountPinLaw", "nz", "(I)I"⟩ : MethodName)) hown (mvT hZ (hw _ (List.mem_of_getElem? (i := 56) rfl))) (mvT hZ (hw _ (List.mem_of_getElem? (i := 57) rfl))) (mvT hZ (hw _ (List.mem_of_getElem? (i := 29) rfl))) (mvT hZ (hw _ (List.mem_of_getElem? (i := 58) rfl))) (by decide) (backOf (W := 1) (rm11 l Z ar hw [] p4 T287.heap n0 z295) hZ (hw _ (List.mem_of_getElem? (i := 58) rfl)) (hw _ (List.mem_of_getElem? (i := 29) rfl)) (by decide) (by decide)) (g := (mkF m 152 #[.val (.int p0), .val (.int p1), .val (.int p2), .val (.int p3), .val (.int p4), .val (.int (2 : Int32)), .val (.int (2 : Int32)), .val (.ref b227), .val (.int ((((0 : Int32) + (own_cnt p1)) + (own_cnt p2)) + (own_cnt p3)))] [(.int p4), (.int ((((0 : Int32) + (own_cnt p1)) + (own_cnt p2)) + (own_cnt p3)))])) rfl (by rw [hml]; rfl) (argsL := [(.int p4)]) (rest := [(.int ((((0 : Int32) + (own_cnt p1)) + (own_cnt p2)) + (own_cnt p3)))]) (lenOf pd0_4 rfl) rfl (by show 2 * 0 + _ ≤ _; exact Nat.le_of_eq rfl) (hb hby at_152) (fun _ _ => ⟨rfl, (rfl : T287.heap = T287.heap), (by decide : 2 + 0 ≤ _), (by decide : 7 + 0 ≤ _)⟩)
      dsimp only [Pt.U, Pt.locs, Pt.cells, Pt.slots] at X297 l297 y297 z297 st297 hQ297
      subst l297 y297 z297
      obtain ⟨rfl, N297q, e297⟩ := hQ297
      have n298 := Fr.app n289 N297q
      refine own_st (T' := T297) (g' := (mkF m 155 #[.val (.int p0), .val (.int p1), .val (.int p2), .val (.int p3), .val (.int p4), .val (.int (2 : Int32)), .val (.int (2 : Int32)), .val (.ref b227), .val (.int ((((0 : Int32) + (own_cnt p1)) + (own_cnt p2)) + (own_cnt p3)))] [(.int (own_cnt p4)), (.int ((((0 : Int32) + (own_cnt p1)) + (own_cnt p2)) + (own_cnt p3)))])) st297 ?_
      refine own_st (T' := T297) (g' := (mkF m 160 #[.val (.int p0), .val (.int p1), .val (.int p2), .val (.int p3), .val (.int p4), .val (.int (2 : Int32)), .val (.int (2 : Int32)), .val (.ref b227), .val (.int (((((0 : Int32) + (own_cnt p1)) + (own_cnt p2)) + (own_cnt p3)) + (own_cnt p4)))] [(.ref b227)])) (fun t k => ?_) ?_
      · show Steps p.tables e below (T297.setTop (mkF m 155 #[.val (.int p0), .val (.int p1), .val (.int p2), .val (.int p3), .val (.int p4), .val (.int (2 : Int32)), .val (.int (2 : Int32)), .val (.ref b227), .val (.int ((((0 : Int32) + (own_cnt p1)) + (own_cnt p2)) + (own_cnt p3)))] [(.int (own_cnt p4)), (.int ((((0 : Int32) + (own_cnt p1)) + (own_cnt p2)) + (own_cnt p3)))])) t
        refine XS.iadd X297.here hx rfl (hb hby at_155) rfl ?_
        show Steps p.tables e below (T297.setTop (mkF m 156 #[.val (.int p0), .val (.int p1), .val (.int p2), .val (.int p3), .val (.int p4), .val (.int (2 : Int32)), .val (.int (2 : Int32)), .val (.ref b227), .val (.int ((((0 : Int32) + (own_cnt p1)) + (own_cnt p2)) + (own_cnt p3)))] [(.int (((((0 : Int32) + (own_cnt p1)) + (own_cnt p2)) + (own_cnt p3)) + (own_cnt p4)))])) t
        refine XS.istore X297.here hx rfl (hb hby at_156) rfl (l' := #[.val (.int p0), .val (.int p1), .val (.int p2), .val (.int p3), .val (.int p4), .val (.int (2 : Int32)), .val (.int (2 : Int32)), .val (.ref b227), .val (.int (((((0 : Int32) + (own_cnt p1)) + (own_cnt p2)) + (own_cnt p3)) + (own_cnt p4)))]) rfl ?_
        show Steps p.tables e below (T297.setTop (mkF m 158 #[.val (.int p0), .val (.int p1), .val (.int p2), .val (.int p3), .val (.int p4), .val (.int (2 : Int32)), .val (.int (2 : Int32)), .val (.ref b227), .val (.int (((((0 : Int32) + (own_cnt p1)) + (own_cnt p2)) + (own_cnt p3)) + (own_cnt p4)))] [])) t
        refine XS.aload X297.here hx rfl (hb hby at_158) rfl rfl ?_
        exact k
      obtain ⟨cq299, kq299, qa299, qb299, qc299⟩ := isOf hZ e297 f290
      obtain ⟨_, _, ⟨T299, L299, k299, n299⟩, -, X299, ⟨Lc299, hQ299, l299, y299, z299⟩, st299⟩ := X297.virtualBack hx (y := (⟨"com/example/winnowfold/winnowfold/math/DenseMatrix", "nonZeroCount", "()I"⟩ : MethodName)) (z := (⟨"com/example/winnowfold/winnowfold/math/DenseMatrix", "nonZeroCount", "()I"⟩ : MethodName)) hown (mvT hZ (hw _ (List.mem_of_getElem? (i := 22) rfl))) (mvT hZ (hw _ (List.mem_of_getElem? (i := 23) rfl))) (notFace_of_selects (args := #[]) (mvT hZ (hw _ (List.mem_of_getElem? (i := 25) rfl)))) (mvT hZ (hw _ (List.mem_of_getElem? (i := 25) rfl))) (mvT hZ (hw _ (List.mem_of_getElem? (i := 24) rfl))) (by decide) (backOf (W := 0) (rmz4 l Z ar hw [] b227 x0_233 kx_x0_233 ((own_val p1)) ((own_val p2)) ((own_val p3)) ((own_val p4)) T287.heap n0 z295 f290 f293 f294) hZ (hw _ (List.mem_of_getElem? (i := 26) rfl)) (hw _ (List.mem_of_getElem? (i := 2) rfl)) (by decide) (by decide)) qa299 qc299 (g := (mkF m 160 #[.val (.int p0), .val (.int p1), .val (.int p2), .val (.int p3), .val (.int p4), .val (.int (2 : Int32)), .val (.int (2 : Int32)), .val (.ref b227), .val (.int (((((0 : Int32) + (own_cnt p1)) + (own_cnt p2)) + (own_cnt p3)) + (own_cnt p4)))] [(.ref b227)])) rfl (by rw [hml]; rfl) (Steps.refl _) (argsL := []) (rest := []) (lenOf pd0_1 rfl) rfl (by show 2 * 0 + _ ≤ _; exact Nat.le_of_eq rfl) (hb hby at_160) (fun _ _ => ⟨rfl, e297, (by decide : 2 + 0 ≤ _), (by decide : 7 + 0 ≤ _)⟩)
      dsimp only [Pt.U, Pt.locs, Pt.cells, Pt.slots] at X299 l299 y299 z299 st299 hQ299
      subst l299 y299 z299
      obtain ⟨rfl, N299q, e299⟩ := hQ299
      have n300 := Fr.app n298 N299q
      refine own_tr (T' := T299) (g' := (mkF m 163 #[.val (.int p0), .val (.int p1), .val (.int p2), .val (.int p3), .val (.int p4), .val (.int (2 : Int32)), .val (.int (2 : Int32)), .val (.ref b227), .val (.int (((((0 : Int32) + (own_cnt p1)) + (own_cnt p2)) + (own_cnt p3)) + (own_cnt p4)))] [(.int (own_z (own_z (own_z (own_z (0 : Int32) (own_val p1)) (own_val p2)) (own_val p3)) (own_val p4)))])) st299 ?_
      refine own_st (T' := T299) (g' := (mkF m 173 #[.val (.int p0), .val (.int p1), .val (.int p2), .val (.int p3), .val (.int p4), .val (.int (2 : Int32)), .val (.int (2 : Int32)), .val (.ref b227), .val (.int (((((0 : Int32) + (own_cnt p1)) + (own_cnt p2)) + (own_cnt p3)) + (own_cnt p4)))] [(.int (1 : Int32))])) (fun t k => ?_) ?_
      · show Steps p.tables e below (T299.setTop (mkF m 163 #[.val (.int p0), .val (.int p1), .val (.int p2), .val (.int p3), .val (.int p4), .val (.int (2 : Int32)), .val (.int (2 : Int32)), .val (.ref b227), .val (.int (((((0 : Int32) + (own_cnt p1)) + (own_cnt p2)) + (own_cnt p3)) + (own_cnt p4)))] [(.int (own_z (own_z (own_z (own_z (0 : Int32) (own_val p1)) (own_val p2)) (own_val p3)) (own_val p4)))])) t
        refine XS.iload X299.here hx rfl (hb hby at_163) rfl ?_
        show Steps p.tables e below (T299.setTop (mkF m 165 #[.val (.int p0), .val (.int p1), .val (.int p2), .val (.int p3), .val (.int p4), .val (.int (2 : Int32)), .val (.int (2 : Int32)), .val (.ref b227), .val (.int (((((0 : Int32) + (own_cnt p1)) + (own_cnt p2)) + (own_cnt p3)) + (own_cnt p4)))] [(.int (((((0 : Int32) + (own_cnt p1)) + (own_cnt p2)) + (own_cnt p3)) + (own_cnt p4))), (.int (own_z (own_z (own_z (own_z (0 : Int32) (own_val p1)) (own_val p2)) (own_val p3)) (own_val p4)))])) t
        refine XS.icmpNo X299.here hx rfl (hb hby at_165) rfl (teq ((by simp only [own_zc]) : (own_z (own_z (own_z (own_z (0 : Int32) (own_val p1)) (own_val p2)) (own_val p3)) (own_val p4)) = (((((0 : Int32) + (own_cnt p1)) + (own_cnt p2)) + (own_cnt p3)) + (own_cnt p4)))).2 ?_
        show Steps p.tables e below (T299.setTop (mkF m 168 #[.val (.int p0), .val (.int p1), .val (.int p2), .val (.int p3), .val (.int p4), .val (.int (2 : Int32)), .val (.int (2 : Int32)), .val (.ref b227), .val (.int (((((0 : Int32) + (own_cnt p1)) + (own_cnt p2)) + (own_cnt p3)) + (own_cnt p4)))] [])) t
        refine XS.iconst X299.here hx rfl (hb hby at_168) ?_
        show Steps p.tables e below (T299.setTop (mkF m 169 #[.val (.int p0), .val (.int p1), .val (.int p2), .val (.int p3), .val (.int p4), .val (.int (2 : Int32)), .val (.int (2 : Int32)), .val (.ref b227), .val (.int (((((0 : Int32) + (own_cnt p1)) + (own_cnt p2)) + (own_cnt p3)) + (own_cnt p4)))] [(.int (1 : Int32))])) t
        refine XS.goto X299.here hx rfl (pc0 := 169) (pc' := 173) rfl (hb hby at_169) (by decide) (by decide) ?_
        exact k
      refine own_retZ X299 hx hlk Bd.returns (hb hby at_173) rfl (by decide) (by decide) ?_
      show Q0 Z p0 p1 p2 p3 p4 h0 n0 (some (.int (1 : Int32))) T299.heap _
      exact ⟨rfl, n300⟩
set_option maxRecDepth 65536 in
set_option maxHeartbeats 40000000 in
theorem comes_1 {Post : Tables → Env → Array Value → State → Outcome → State → Prop} (hpost : ∀ tb e args s v u, (limb_1_1.after args s (.returned v) u = true ∧ limb_1_2.after args s (.returned v) u = true ∧ True) → FrameEnd s (.returned v) u (Jvm.fieldLocs frame_1_writes args s ++ Jvm.arrayLocs frame_1_arrays args s ++ Jvm.staticLocs frame_1_statics s) 16 128 → Post tb e args s (.returned v) u) :
    ArmFor flags0 classFile x code maxLocals ret World_1 tables_1 room_1 Calls_1 rest_1 Pre_1 Post := by
  intro l hfl _ _ p e ha hc hk s m args below hf hA hF happ hP
  obtain ⟨hcalls, hrest, hpre⟩ := hP
  obtain ⟨-, -, -, hnamed, -, -, -, hat⟩ := (Spec.applies_iff hf).mp happ
  obtain ⟨hg, hn⟩ := and_e (Cond.before_iff.mp (show (Jvm.Cond.and given_1 narrow_1).before args s = true from hpre))
  obtain ⟨g0, gg0⟩ := and_e hg
  obtain ⟨g1, gg1⟩ := and_e gg0
  obtain ⟨g2, gg2⟩ := and_e gg1
  obtain ⟨g3, gg3⟩ := and_e gg2
  obtain ⟨g4, gg4⟩ := and_e gg3
  obtain ⟨w0, w1, w2, w3, w4, rfl⟩ : ∃ w0 w1 w2 w3 w4 : Value, args = #[w0, w1, w2, w3, w4] := by
    have hs : args.size = 5 := by simpa [Cond.value, given_1] using g0
    obtain ⟨L⟩ := args
    match L, hs with
    | [w0, w1, w2, w3, w4], _ => exact ⟨w0, w1, w2, w3, w4, rfl⟩
  have hw := fun d (hd : d ∈ tables_1) => atoms_spec (ws := Jvm.Cond.code x code maxLocals ret :: tables_1) hat d (List.mem_cons_of_mem _ hd)
  have hfit : Fit s := fun {y c} hc i hi => by
    obtain ⟨ha, rfl⟩ := Array.getElem?_eq_some_iff.mp hc
    have q := List.all_eq_true.mp ((Array.all_eq_true_iff_forall_mem.mp hF) _ (Array.getElem_mem ha)) i (List.mem_range.mpr hi)
    simpa [Array.getElem?_eq_getElem hi] using q
  obtain ⟨p0, ei0⟩ := is_v g1
  obtain rfl : w0 = (.int p0) := Option.some.inj ei0
  obtain ⟨p1, ei1⟩ := is_v g2
  obtain rfl : w1 = (.int p1) := Option.some.inj ei1
  obtain ⟨p2, ei2⟩ := is_v g3
  obtain rfl : w2 = (.int p2) := Option.some.inj ei2
  obtain ⟨p3, ei3⟩ := is_v g4
  obtain rfl : w3 = (.int p3) := Option.some.inj ei3
  obtain ⟨p4, ei4⟩ := is_v gg4
  obtain rfl : w4 = (.int p4) := Option.some.inj ei4
  obtain ⟨n, o, h1, h2, h3, _, L, rfl, ⟨rfl, N⟩, hq⟩ := rm0 l s _ hw tables_1 p0 p1 p2 p3 p4 s.heap s.heap.size (Nat.le_refl _) p e ha hc hk s m _ below hf ((Spec.applies_iff_loose hf).mp happ).1 ⟨rfl, State.Warmed39.refl s, rfl⟩ trivial
  refine ⟨n, _, h1, h2, h3, hpost _ _ _ _ _ _ ⟨Cond.after_iff.mpr rfl, Cond.after_iff.mpr (eq_i res_at (Term.int_eval (1)) rfl), trivial⟩ ⟨hq.1, hq.2.1, (hq.2.2.sift fun y hy => Or.inr (N y hy)).mono (by decide) (by decide)⟩⟩
theorem main_1_1 : Claimed_1_1 := comes_1 fun _ _ _ _ _ _ h hF => ⟨h.1, hF⟩
theorem main_1_2 : Claimed_1_2 := comes_1 fun _ _ _ _ _ _ h hF => ⟨h.2.1, hF⟩
end Jvm.Pilot.@@N@@
namespace Jvm.Pilot.@@N@@
open Jvm Jvm.ClassFile Sem Op Lib Jvm.Free Jvm.Stand Jvm.Pilot.@@N@@.Jvm.D
/-! MADE BY PROGRAM (witnessworld.py) out of the Statement's table words and the real class files: 15 classes; the members and pool entries that the words name. The judged class is class 1, her method 1. -/
namespace start1
open Jvm.ClassFile
def u (s : String) : CpInfo := .utf8 (stringToUtf16 s)
/-- a pool by its gaps: so many unusable entries, then the entry; so many at the end -/
def gap : Nat → List CpInfo → List CpInfo
  | 0, r => r
  | n + 1, r => .unusable :: gap n r
def poolList (es : List (Nat × CpInfo)) (last : Nat) : List CpInfo := es.foldr (fun e r => gap e.1 (e.2 :: r)) (gap last [])
def pool (es : List (Nat × CpInfo)) (last : Nat) : Array CpInfo := ⟨poolList es last⟩
def fileOf (pool : Array CpInfo) (this : Nat) (attrs : Array Attribute := #[]) (ms : Array MethodInfo := #[]) (fl : Nat := 33) (sup : Nat := 0) (ifs : Array Nat := #[]) (fds : Array FieldInfo := #[]) : ClassFile where
  minorVersion := 0
  majorVersion := 65
  constantPool := pool
  accessFlags := fl
  thisClass := this
  superClass := sup
  interfaces := ifs
  fields := fds
  methods := ms
  attributes := attrs
def plain (name : String) (sup : Option ClassId) : Class where
  name := name
  kind := .ordinary
  loader := none
  accessFlags := 33
  super := sup
  interfaces := #[]
  cf := none
  fields := #[]
  methods := #[]
  instanceTypes := #[]
  staticTypes := #[]
  resolved := #[]
  callSites := []
  init := .initialized
  statics := none
  mirror := none

def pool0 : Array CpInfo := pool [(5, u "<init>"), (0, u "()V"), (1, .class_ 10), (1, u "java/lang/Object")] 113

def k0c0 : Code := { maxStack := 0, maxLocals := 1, code := object_method_1_code, exceptionTable := #[], attributes := #[] }
def k0m0 : Method := { name := "<init>", desc := "()V", sig := { parameters := [], returnType := none }, accessFlags := 1, code := some k0c0 }
/-- java/lang/Object -/
def k0 : Class := { plain "java/lang/Object" none with
  accessFlags := 33
  interfaces := #[]
  cf := some (fileOf pool0 8 #[] #[{ accessFlags := 1, nameIndex := 5, descriptorIndex := 6, attributes := #[] }] 33 0 #[] #[])
  fields := #[]
  methods := #[k0m0]
  instanceTypes := #[]
  staticTypes := #[]
  resolved := Array.replicate 124 none
  statics := none }

def pool1 : Array CpInfo := pool [(2, .class_ 4), (1, u "java/lang/Object"), (0, u "<init>"), (0, u "()V"), (0, .class_ 8), (0, u "com/example/winnowfold/winnowfold/math/DenseMatrix"), (0, .methodref 7 10), (0, .nameAndType 5 11), (0, u "(II)V"), (0, .methodref 13 14), (0, .class_ 15), (0, .nameAndType 16 17), (0, u "com/example/winnowfold/winnowfold/math/DenseMatrixNonZeroCountPinLaw"), (0, u "val"), (0, u "(I)D"), (0, .methodref 7 19), (0, .nameAndType 20 21), (0, u "set"), (0, u "(IID)V"), (0, .methodref 13 23), (0, .nameAndType 24 25), (0, u "nz"), (0, u "(I)I"), (0, .methodref 7 27), (0, .nameAndType 28 29), (0, u "nonZeroCount"), (0, u "()I"), (0, .double 9223372036854775808), (3, u "law"), (0, u "(IIIII)Z")] 3

def k1m0 : Method := { name := "<init>", desc := "()V", sig := { parameters := [], returnType := none }, accessFlags := 1, code := none }
def k1c1 : Code := { maxStack := 5, maxLocals := 9, code := code, exceptionTable := #[], attributes := #[] }
def k1m1 : Method := { name := "law", desc := "(IIIII)Z", sig := { parameters := [.int, .int, .int, .int, .int], returnType := some .boolean }, accessFlags := 9, code := some k1c1 }
def k1c2 : Code := { maxStack := 2, maxLocals := 2, code := method_3_code, exceptionTable := #[], attributes := #[] }
def k1m2 : Method := { name := "val", desc := "(I)D", sig := { parameters := [.int], returnType := some .double }, accessFlags := 10, code := some k1c2 }
def k1c3 : Code := { maxStack := 2, maxLocals := 1, code := method_4_code, exceptionTable := #[], attributes := #[] }
def k1m3 : Method := { name := "nz", desc := "(I)I", sig := { parameters := [.int], returnType := some .int }, accessFlags := 10, code := some k1c3 }
/-- com/example/winnowfold/winnowfold/math/DenseMatrixNonZeroCountPinLaw -/
def k1 : Class := { plain "com/example/winnowfold/winnowfold/math/DenseMatrixNonZeroCountPinLaw" (some 0) with
  accessFlags := 49
  interfaces := #[]
  cf := some (fileOf pool1 13 #[] #[{ accessFlags := 1, nameIndex := 5, descriptorIndex := 6, attributes := #[] }, { accessFlags := 9, nameIndex := 34, descriptorIndex := 35, attributes := #[] }, { accessFlags := 10, nameIndex := 16, descriptorIndex := 17, attributes := #[] }, { accessFlags := 10, nameIndex := 24, descriptorIndex := 25, attributes := #[] }] 49 2 #[] #[])
  fields := #[]
  methods := #[k1m0, k1m1, k1m2, k1m3]
  instanceTypes := #[]
  staticTypes := #[]
  resolved := Array.replicate 39 none
  statics := none }

def pool2 : Array CpInfo := pool [(1, .class_ 2), (0, u "com/example/winnowfold/winnowfold/math/Matrix"), (0, .class_ 4), (0, u "java/lang/Object")] 29

/-- com/example/winnowfold/winnowfold/math/Matrix -/
def k2 : Class := { plain "com/example/winnowfold/winnowfold/math/Matrix" (some 0) with
  accessFlags := 1537
  interfaces := #[]
  cf := some (fileOf pool2 1 #[] #[] 1537 3 #[] #[])
  fields := #[]
  methods := #[]
  instanceTypes := #[]
  staticTypes := #[]
  resolved := Array.replicate 34 none
  statics := none }

def pool3 : Array CpInfo := pool [(1, .methodref 2 3), (0, .class_ 4), (0, .nameAndType 5 6), (0, u "java/lang/Object"), (0, u "<init>"), (0, u "()V"), (9, .fieldref 17 18), (0, .class_ 19), (0, .nameAndType 20 21), (0, u "com/example/winnowfold/winnowfold/math/AbstractMatrix"), (0, u "rows"), (0, u "I"), (0, .fieldref 17 23), (0, .nameAndType 24 21), (0, u "columns"), (16, u "()I"), (2, .methodref 45 46), (0, .class_ 47), (0, .nameAndType 48 49), (0, u "java/util/Objects"), (0, u "checkIndex"), (0, u "(II)I"), (22, .class_ 74), (1, u "com/example/winnowfold/winnowfold/math/Matrix"), (0, u "columnSize"), (88, u "(II)V"), (40, u "checkCell")] 40

def k3c0 : Code := { maxStack := 4, maxLocals := 3, code := prog_47_method_1_code, exceptionTable := #[], attributes := #[] }
def k3m0 : Method := { name := "<init>", desc := "(II)V", sig := { parameters := [.int, .int], returnType := none }, accessFlags := 0, code := some k3c0 }
def k3c1 : Code := { maxStack := 1, maxLocals := 1, code := prog_47_method_3_code, exceptionTable := #[], attributes := #[] }
def k3m1 : Method := { name := "columnSize", desc := "()I", sig := { parameters := [], returnType := some .int }, accessFlags := 17, code := some k3c1 }
def k3c2 : Code := { maxStack := 2, maxLocals := 3, code := prog_47_method_16_code, exceptionTable := #[], attributes := #[] }
def k3m2 : Method := { name := "checkCell", desc := "(II)V", sig := { parameters := [.int, .int], returnType := none }, accessFlags := 16, code := some k3c2 }
/-- com/example/winnowfold/winnowfold/math/AbstractMatrix -/
def k3 : Class := { plain "com/example/winnowfold/winnowfold/math/AbstractMatrix" (some 0) with
  accessFlags := 1056
  interfaces := #[2]
  cf := some (fileOf pool3 17 #[] #[{ accessFlags := 0, nameIndex := 5, descriptorIndex := 164, attributes := #[] }, { accessFlags := 17, nameIndex := 75, descriptorIndex := 41, attributes := #[] }, { accessFlags := 16, nameIndex := 205, descriptorIndex := 164, attributes := #[] }] 1056 2 #[72] #[{ accessFlags := 18, nameIndex := 20, descriptorIndex := 21, attributes := #[] }, { accessFlags := 18, nameIndex := 24, descriptorIndex := 21, attributes := #[] }])
  fields := #[{ name := "rows", type := .int, accessFlags := 18, slot := 0, constantValue := 0 }, { name := "columns", type := .int, accessFlags := 18, slot := 1, constantValue := 0 }]
  methods := #[k3m0, k3m1, k3m2]
  instanceTypes := #[.int, .int]
  staticTypes := #[]
  resolved := Array.replicate 246 none
  statics := none }

def pool4 : Array CpInfo := pool [(1, .methodref 2 3), (0, .class_ 4), (0, .nameAndType 5 6), (0, u "com/example/winnowfold/winnowfold/math/AbstractMatrix"), (0, u "<init>"), (0, u "(II)V"), (2, .long 2147483639), (10, .fieldref 21 22), (0, .class_ 23), (0, .nameAndType 24 25), (0, u "com/example/winnowfold/winnowfold/math/DenseMatrix"), (0, u "values"), (0, u "[D"), (1, .methodref 21 28), (0, .nameAndType 29 30), (0, u "columnSize"), (0, u "()I"), (57, .methodref 21 89), (0, .nameAndType 90 6), (0, u "checkCell"), (40, u "set"), (0, u "(IID)V"), (1, u "nonZeroCount")] 22

def k4c0 : Code := { maxStack := 4, maxLocals := 5, code := prog_51_method_1_code, exceptionTable := #[], attributes := #[] }
def k4m0 : Method := { name := "<init>", desc := "(II)V", sig := { parameters := [.int, .int], returnType := none }, accessFlags := 1, code := some k4c0 }
def k4c1 : Code := { maxStack := 4, maxLocals := 5, code := prog_51_method_5_code, exceptionTable := #[], attributes := #[] }
def k4m1 : Method := { name := "set", desc := "(IID)V", sig := { parameters := [.int, .int, .double], returnType := none }, accessFlags := 1, code := some k4c1 }
def k4c2 : Code := { maxStack := 4, maxLocals := 7, code := prog_51_method_7_code, exceptionTable := #[], attributes := #[] }
def k4m2 : Method := { name := "nonZeroCount", desc := "()I", sig := { parameters := [], returnType := some .int }, accessFlags := 1, code := some k4c2 }
/-- com/example/winnowfold/winnowfold/math/DenseMatrix -/
def k4 : Class := { plain "com/example/winnowfold/winnowfold/math/DenseMatrix" (some 3) with
  accessFlags := 49
  interfaces := #[]
  cf := some (fileOf pool4 21 #[] #[{ accessFlags := 1, nameIndex := 5, descriptorIndex := 6, attributes := #[] }, { accessFlags := 1, nameIndex := 131, descriptorIndex := 132, attributes := #[] }, { accessFlags := 1, nameIndex := 134, descriptorIndex := 30, attributes := #[] }] 49 2 #[] #[{ accessFlags := 18, nameIndex := 24, descriptorIndex := 25, attributes := #[] }])
  fields := #[{ name := "values", type := (.array .double), accessFlags := 18, slot := 2, constantValue := 0 }]
  methods := #[k4m0, k4m1, k4m2]
  instanceTypes := #[.int, .int, (.array .double)]
  staticTypes := #[]
  resolved := Array.replicate 157 none
  statics := none }

def pool5 : Array CpInfo := pool [(2, .class_ 4), (1, u "java/lang/Object"), (0, u "<init>"), (0, u "()V"), (35, .class_ 44), (1, u "java/util/Objects"), (60, .methodref 106 107), (0, .class_ 108), (0, .nameAndType 109 110), (0, u "jdk/internal/util/Preconditions"), (0, u "checkIndex"), (0, u "(IILjava/util/function/BiFunction;)I"), (60, u "(II)I")] 12

def k5m0 : Method := { name := "<init>", desc := "()V", sig := { parameters := [], returnType := none }, accessFlags := 2, code := none }
def k5c1 : Code := { maxStack := 3, maxLocals := 2, code := jdk_31_method_17_code, exceptionTable := #[], attributes := #[] }
def k5m1 : Method := { name := "checkIndex", desc := "(II)I", sig := { parameters := [.int, .int], returnType := some .int }, accessFlags := 9, code := some k5c1 }
/-- java/util/Objects -/
def k5 : Class := { plain "java/util/Objects" (some 0) with
  accessFlags := 49
  interfaces := #[]
  cf := some (fileOf pool5 42 #[] #[{ accessFlags := 2, nameIndex := 5, descriptorIndex := 6, attributes := #[] }, { accessFlags := 9, nameIndex := 109, descriptorIndex := 171, attributes := #[] }] 49 2 #[] #[])
  fields := #[]
  methods := #[k5m0, k5m1]
  instanceTypes := #[]
  staticTypes := #[]
  resolved := Array.replicate 184 none
  statics := none }

def pool6 : Array CpInfo := pool [(2, .class_ 4), (1, u "java/lang/Object"), (0, u "<init>"), (0, u "()V"), (17, .class_ 26), (1, u "jdk/internal/util/Preconditions"), (6, u "checkIndex"), (21, .class_ 56), (0, u "jdk/internal/util/Preconditions$4"), (57, .class_ 115), (0, u "jdk/internal/util/Preconditions$1"), (7, u "SIOOBE_FORMATTER"), (0, u "Ljava/util/function/BiFunction;"), (0, .class_ 126), (0, u "jdk/internal/util/Preconditions$2"), (3, u "AIOOBE_FORMATTER"), (0, .class_ 132), (0, u "jdk/internal/util/Preconditions$3"), (3, u "IOOBE_FORMATTER"), (41, u "(IILjava/util/function/BiFunction;)I")] 15

def k6m0 : Method := { name := "<init>", desc := "()V", sig := { parameters := [], returnType := none }, accessFlags := 1, code := none }
def k6c1 : Code := { maxStack := 3, maxLocals := 3, code := jdk_41_method_11_code, exceptionTable := #[], attributes := #[] }
def k6m1 : Method := { name := "checkIndex", desc := "(IILjava/util/function/BiFunction;)I", sig := { parameters := [.int, .int, (.object "java/util/function/BiFunction")], returnType := some .int }, accessFlags := 9, code := some k6c1 }
/-- jdk/internal/util/Preconditions -/
def k6 : Class := { plain "jdk/internal/util/Preconditions" (some 0) with
  accessFlags := 33
  interfaces := #[]
  cf := some (fileOf pool6 24 #[.nestMembers #[55, 131, 125, 114]] #[{ accessFlags := 1, nameIndex := 5, descriptorIndex := 6, attributes := #[] }, { accessFlags := 9, nameIndex := 33, descriptorIndex := 178, attributes := #[] }] 33 2 #[] #[{ accessFlags := 25, nameIndex := 123, descriptorIndex := 124, attributes := #[] }, { accessFlags := 25, nameIndex := 130, descriptorIndex := 124, attributes := #[] }, { accessFlags := 25, nameIndex := 136, descriptorIndex := 124, attributes := #[] }])
  fields := #[{ name := "SIOOBE_FORMATTER", type := (.object "java/util/function/BiFunction"), accessFlags := 25, slot := 0, constantValue := 0 }, { name := "AIOOBE_FORMATTER", type := (.object "java/util/function/BiFunction"), accessFlags := 25, slot := 1, constantValue := 0 }, { name := "IOOBE_FORMATTER", type := (.object "java/util/function/BiFunction"), accessFlags := 25, slot := 2, constantValue := 0 }]
  methods := #[k6m0, k6m1]
  instanceTypes := #[]
  staticTypes := #[(.object "java/util/function/BiFunction"), (.object "java/util/function/BiFunction"), (.object "java/util/function/BiFunction")]
  resolved := Array.replicate 194 none
  statics := none }

def pool7 : Array CpInfo := pool [(1, u "java/lang/Cloneable"), (0, .class_ 1), (0, u "java/lang/Object"), (0, .class_ 3)] 3

/-- java/lang/Cloneable -/
def k7 : Class := { plain "java/lang/Cloneable" (some 0) with
  accessFlags := 1537
  interfaces := #[]
  cf := some (fileOf pool7 2 #[] #[] 1537 4 #[] #[])
  fields := #[]
  methods := #[]
  instanceTypes := #[]
  staticTypes := #[]
  resolved := Array.replicate 8 none
  statics := none }

def pool8 : Array CpInfo := pool [(1, u "java/io/Serializable"), (0, .class_ 1), (0, u "java/lang/Object"), (0, .class_ 3)] 3

/-- java/io/Serializable -/
def k8 : Class := { plain "java/io/Serializable" (some 0) with
  accessFlags := 1537
  interfaces := #[]
  cf := some (fileOf pool8 2 #[] #[] 1537 4 #[] #[])
  fields := #[]
  methods := #[]
  instanceTypes := #[]
  staticTypes := #[]
  resolved := Array.replicate 8 none
  statics := none }

/-- the primitive byte -/
def k9 : Class := { plain "byte" none with kind := .primitive 'B', accessFlags := 0x411 }
/-- [B -/
def k10 : Class := { plain "[B" (some 0) with kind := .array 9 .byte, interfaces := #[7, 8], accessFlags := 1041 }

/-- the primitive double -/
def k11 : Class := { plain "double" none with kind := .primitive 'D', accessFlags := 0x411 }
/-- [D -/
def k12 : Class := { plain "[D" (some 0) with kind := .array 11 .double, interfaces := #[7, 8], accessFlags := 1041 }

/-- the primitive int -/
def k13 : Class := { plain "int" none with kind := .primitive 'I', accessFlags := 0x411 }
/-- [I -/
def k14 : Class := { plain "[I" (some 0) with kind := .array 13 .int, interfaces := #[7, 8], accessFlags := 1041 }

def heap : Heap := #[]
def classes : Array Class := #[k0, k1, k2, k3, k4, k5, k6, k7, k8, k9, k10, k11, k12, k13, k14]
def interned : List (Array UInt16 × Addr) := []
def slotsUsed : Nat := 0
def theMethod : MethodId := ⟨1, 1⟩
def args0 : Array Value := #[.int 1, .int 1, .int 1, .int 1, .int 1]
def aboutOver (below : List Frame) : State where
  vm := { classes := classes, interned := interned.toArray }
  heap := heap
  slotsUsed := slotsUsed
  threads := #[{ frames := .invoking theMethod args0 :: below }]
def below0 : List Frame := [.native { method := ⟨0, 0⟩, args := #[] }]
def about1 : State := aboutOver below0
def p0 : Program := .bare "" "" ""
def e0 : Env := launch0.env 0 0 0
theorem w_frames : about1.frames = Frame.invoking theMethod args0 :: below0 := rfl
set_option maxRecDepth 65536 in
theorem w_args : argsFit about1.vm theMethod args0 = true := by decide +kernel
set_option maxRecDepth 65536 in
theorem w_heap : heapFits about1 = true := by decide +kernel
set_option maxRecDepth 65536 in
theorem w_runnable : about1.curStatus? = some .runnable := by decide +kernel
set_option maxRecDepth 65536 in
theorem w_alone : about1.alone = true := by decide +kernel
set_option maxRecDepth 65536 in
theorem w_named : about1.methodNamed? x = some theMethod := by decide +kernel
set_option maxRecDepth 65536 in
theorem w_hears : about1.hears theMethod below0 = true := by decide +kernel
set_option maxRecDepth 65536 in
theorem w_ripe : about1.ripe theMethod args0 below0 = true := by decide +kernel
theorem w_running : about1.status = .running := rfl
set_option maxRecDepth 65536 in
theorem w_room : about1.hasRoom e0.platform room_1 = true :=
  launch0.hasRoom_least _ room_1 (by decide +kernel) (by decide +kernel) (by decide +kernel) (by decide +kernel) (by decide +kernel) (by decide +kernel)
theorem allAtoms_all (ts : List Jvm.Cond) (a : Array Jvm.Value) (st : Jvm.State) : (allAtoms ts).before a st = ts.all (fun c => c.before a st) := by
  induction ts with
  | nil => rfl
  | cons c t ih =>
    show (Jvm.Cond.and c (allAtoms t)).before a st = _
    rw [Jvm.Cond.before_and, ih, List.all_cons]
def words1 : List Jvm.Cond := Jvm.Cond.code x code maxLocals ret :: tables_1
/-- a 'code' word, met by the world's own term for the bytes: nothing is compared byte by byte -/
theorem code_word {y : MethodName} {bytes : ByteArray} {mx : Nat} {rt : Option FieldType} {a : Array Value} {s : State} {m : MethodId} {meth : Method} {c : Code} (h1 : s.methodNamed? y = some m) (h2 : s.vm.method? m = some meth) (h3 : meth.code = some c) (h4 : c.code = bytes)
    (h5 : (c.maxLocals == mx && c.exceptionTable.isEmpty && decide (c.maxStack ≤ mostOperands) && decide (meth.sig.returnType = rt) && !meth.locks && decide (parseMethodDescriptor y.desc = some meth.sig)) = true) : (Jvm.Cond.code y bytes mx rt).before a s = true := by
  simp only [Bool.and_eq_true, beq_iff_eq, Bool.not_eq_true', decide_eq_true_eq] at h5
  obtain ⟨⟨⟨⟨⟨g1, g2⟩, g3⟩, g4⟩, g5⟩, g6⟩ := h5
  simp [Cond.before, Cond.holds, Cond.value, h1, h2, h3, h4, g1, g2, g3, g4, g5, g6]
def isCode : Jvm.Cond → Bool
  | .code _ _ _ _ => true
  | _ => false
theorem all_split {L : List Jvm.Cond} {P : Jvm.Cond → Bool} (h1 : L.all (fun c => isCode c || P c) = true) (h2 : ∀ c ∈ L.filter isCode, P c = true) : L.all P = true := by
  refine List.all_eq_true.mpr fun c hc => ?_
  have h := List.all_eq_true.mp h1 c hc
  rcases Bool.eq_false_or_eq_true (isCode c) with hi | hi
  · exact h2 c (List.mem_filter.mpr ⟨hc, hi⟩)
  · simpa [hi] using h
set_option maxRecDepth 65536 in
theorem w_c0 : (Jvm.Cond.code x code maxLocals ret).before args0 about1 = true := code_word (m := ⟨1, 1⟩) (meth := k1m1) (c := k1c1) (by decide +kernel) rfl rfl rfl (by decide +kernel)
set_option maxRecDepth 65536 in
theorem w_c1 : (Jvm.Cond.code ({ cls := "com/example/winnowfold/winnowfold/math/DenseMatrix", name := "<init>", desc := "(II)V" } : Jvm.MethodName) prog_51_method_1_code (5 : Nat) (Option.none : Option Jvm.ClassFile.FieldType)).before args0 about1 = true := code_word (m := ⟨4, 0⟩) (meth := k4m0) (c := k4c0) (by decide +kernel) rfl rfl rfl (by decide +kernel)
set_option maxRecDepth 65536 in
theorem w_c2 : (Jvm.Cond.code ({ cls := "com/example/winnowfold/winnowfold/math/AbstractMatrix", name := "<init>", desc := "(II)V" } : Jvm.MethodName) prog_47_method_1_code (3 : Nat) (Option.none : Option Jvm.ClassFile.FieldType)).before args0 about1 = true := code_word (m := ⟨3, 0⟩) (meth := k3m0) (c := k3c0) (by decide +kernel) rfl rfl rfl (by decide +kernel)
set_option maxRecDepth 65536 in
theorem w_c3 : (Jvm.Cond.code ({ cls := "java/lang/Object", name := "<init>", desc := "()V" } : Jvm.MethodName) object_method_1_code (1 : Nat) (Option.none : Option Jvm.ClassFile.FieldType)).before args0 about1 = true := code_word (m := ⟨0, 0⟩) (meth := k0m0) (c := k0c0) (by decide +kernel) rfl rfl rfl (by decide +kernel)
set_option maxRecDepth 65536 in
theorem w_c4 : (Jvm.Cond.code ({ cls := "com/example/winnowfold/winnowfold/math/DenseMatrix", name := "nonZeroCount", desc := "()I" } : Jvm.MethodName) prog_51_method_7_code (7 : Nat) (Option.some Jvm.ClassFile.FieldType.int)).before args0 about1 = true := code_word (m := ⟨4, 2⟩) (meth := k4m2) (c := k4c2) (by decide +kernel) rfl rfl rfl (by decide +kernel)
set_option maxRecDepth 65536 in
theorem w_c5 : (Jvm.Cond.code ({ cls := "com/example/winnowfold/winnowfold/math/DenseMatrixNonZeroCountPinLaw", name := "val", desc := "(I)D" } : Jvm.MethodName) method_3_code (2 : Nat) (Option.some Jvm.ClassFile.FieldType.double)).before args0 about1 = true := code_word (m := ⟨1, 2⟩) (meth := k1m2) (c := k1c2) (by decide +kernel) rfl rfl rfl (by decide +kernel)
set_option maxRecDepth 65536 in
theorem w_c6 : (Jvm.Cond.code ({ cls := "com/example/winnowfold/winnowfold/math/DenseMatrix", name := "set", desc := "(IID)V" } : Jvm.MethodName) prog_51_method_5_code (5 : Nat) (Option.none : Option Jvm.ClassFile.FieldType)).before args0 about1 = true := code_word (m := ⟨4, 1⟩) (meth := k4m1) (c := k4c1) (by decide +kernel) rfl rfl rfl (by decide +kernel)
set_option maxRecDepth 65536 in
theorem w_c7 : (Jvm.Cond.code ({ cls := "com/example/winnowfold/winnowfold/math/AbstractMatrix", name := "checkCell", desc := "(II)V" } : Jvm.MethodName) prog_47_method_16_code (3 : Nat) (Option.none : Option Jvm.ClassFile.FieldType)).before args0 about1 = true := code_word (m := ⟨3, 2⟩) (meth := k3m2) (c := k3c2) (by decide +kernel) rfl rfl rfl (by decide +kernel)
set_option maxRecDepth 65536 in
theorem w_c8 : (Jvm.Cond.code ({ cls := "java/util/Objects", name := "checkIndex", desc := "(II)I" } : Jvm.MethodName) jdk_31_method_17_code (2 : Nat) (Option.some Jvm.ClassFile.FieldType.int)).before args0 about1 = true := code_word (m := ⟨5, 1⟩) (meth := k5m1) (c := k5c1) (by decide +kernel) rfl rfl rfl (by decide +kernel)
set_option maxRecDepth 65536 in
theorem w_c9 : (Jvm.Cond.code ({ cls := "jdk/internal/util/Preconditions", name := "checkIndex", desc := "(IILjava/util/function/BiFunction;)I" } : Jvm.MethodName) jdk_41_method_11_code (3 : Nat) (Option.some Jvm.ClassFile.FieldType.int)).before args0 about1 = true := code_word (m := ⟨6, 1⟩) (meth := k6m1) (c := k6c1) (by decide +kernel) rfl rfl rfl (by decide +kernel)
set_option maxRecDepth 65536 in
theorem w_c10 : (Jvm.Cond.code ({ cls := "com/example/winnowfold/winnowfold/math/AbstractMatrix", name := "columnSize", desc := "()I" } : Jvm.MethodName) prog_47_method_3_code (1 : Nat) (Option.some Jvm.ClassFile.FieldType.int)).before args0 about1 = true := code_word (m := ⟨3, 1⟩) (meth := k3m1) (c := k3c1) (by decide +kernel) rfl rfl rfl (by decide +kernel)
set_option maxRecDepth 65536 in
theorem w_c11 : (Jvm.Cond.code ({ cls := "com/example/winnowfold/winnowfold/math/DenseMatrixNonZeroCountPinLaw", name := "nz", desc := "(I)I" } : Jvm.MethodName) method_4_code (1 : Nat) (Option.some Jvm.ClassFile.FieldType.int)).before args0 about1 = true := code_word (m := ⟨1, 3⟩) (meth := k1m3) (c := k1c3) (by decide +kernel) rfl rfl rfl (by decide +kernel)
def codes1 : List Jvm.Cond := [Jvm.Cond.code x code maxLocals ret, Jvm.Cond.code ({ cls := "com/example/winnowfold/winnowfold/math/DenseMatrix", name := "<init>", desc := "(II)V" } : Jvm.MethodName) prog_51_method_1_code (5 : Nat) (Option.none : Option Jvm.ClassFile.FieldType), Jvm.Cond.code ({ cls := "com/example/winnowfold/winnowfold/math/AbstractMatrix", name := "<init>", desc := "(II)V" } : Jvm.MethodName) prog_47_method_1_code (3 : Nat) (Option.none : Option Jvm.ClassFile.FieldType), Jvm.Cond.code ({ cls := "java/lang/Object", name := "<init>", desc := "()V" } : Jvm.MethodName) object_method_1_code (1 : Nat) (Option.none : Option Jvm.ClassFile.FieldType), Jvm.Cond.code ({ cls := "com/example/winnowfold/winnowfold/math/DenseMatrix", name := "nonZeroCount", desc := "()I" } : Jvm.MethodName) prog_51_method_7_code (7 : Nat) (Option.some Jvm.ClassFile.FieldType.int), Jvm.Cond.code ({ cls := "com/example/winnowfold/winnowfold/math/DenseMatrixNonZeroCountPinLaw", name := "val", desc := "(I)D" } : Jvm.MethodName) method_3_code (2 : Nat) (Option.some Jvm.ClassFile.FieldType.double), Jvm.Cond.code ({ cls := "com/example/winnowfold/winnowfold/math/DenseMatrix", name := "set", desc := "(IID)V" } : Jvm.MethodName) prog_51_method_5_code (5 : Nat) (Option.none : Option Jvm.ClassFile.FieldType), Jvm.Cond.code ({ cls := "com/example/winnowfold/winnowfold/math/AbstractMatrix", name := "checkCell", desc := "(II)V" } : Jvm.MethodName) prog_47_method_16_code (3 : Nat) (Option.none : Option Jvm.ClassFile.FieldType), Jvm.Cond.code ({ cls := "java/util/Objects", name := "checkIndex", desc := "(II)I" } : Jvm.MethodName) jdk_31_method_17_code (2 : Nat) (Option.some Jvm.ClassFile.FieldType.int), Jvm.Cond.code ({ cls := "jdk/internal/util/Preconditions", name := "checkIndex", desc := "(IILjava/util/function/BiFunction;)I" } : Jvm.MethodName) jdk_41_method_11_code (3 : Nat) (Option.some Jvm.ClassFile.FieldType.int), Jvm.Cond.code ({ cls := "com/example/winnowfold/winnowfold/math/AbstractMatrix", name := "columnSize", desc := "()I" } : Jvm.MethodName) prog_47_method_3_code (1 : Nat) (Option.some Jvm.ClassFile.FieldType.int), Jvm.Cond.code ({ cls := "com/example/winnowfold/winnowfold/math/DenseMatrixNonZeroCountPinLaw", name := "nz", desc := "(I)I" } : Jvm.MethodName) method_4_code (1 : Nat) (Option.some Jvm.ClassFile.FieldType.int)]
set_option maxRecDepth 65536 in
theorem codes_eq : words1.filter isCode = codes1 := rfl
theorem w_codes : ∀ c ∈ words1.filter isCode, c.before args0 about1 = true := by
  rw [codes_eq]
  intro c hc
  simp only [codes1, List.mem_cons, List.not_mem_nil, or_false] at hc
  rcases hc with rfl | rfl | rfl | rfl | rfl | rfl | rfl | rfl | rfl | rfl | rfl | rfl
  · exact w_c0
  · exact w_c1
  · exact w_c2
  · exact w_c3
  · exact w_c4
  · exact w_c5
  · exact w_c6
  · exact w_c7
  · exact w_c8
  · exact w_c9
  · exact w_c10
  · exact w_c11
set_option maxRecDepth 65536 in
theorem w_t1 : (words1.take 24).all (fun c => isCode c || c.before args0 about1) = true := by decide +kernel
set_option maxRecDepth 65536 in
theorem w_t2 : ((words1.drop 24).take 24).all (fun c => isCode c || c.before args0 about1) = true := by decide +kernel
set_option maxRecDepth 65536 in
theorem w_t3 : ((words1.drop 24).drop 24).all (fun c => isCode c || c.before args0 about1) = true := by decide +kernel
theorem w_tables : (allAtoms (Jvm.Cond.code x code maxLocals ret :: tables_1)).before args0 about1 = true := by
  rw [allAtoms_all]
  show words1.all (fun c => c.before args0 about1) = true
  refine all_split ?_ w_codes
  rw [← List.take_append_drop 24 words1, List.all_append, w_t1, ← List.take_append_drop 24 (words1.drop 24), List.all_append, w_t2, w_t3]
  rfl
set_option maxRecDepth 65536 in
theorem w_case : (Jvm.Cond.and given_1 narrow_1).before args0 about1 = true := by decide +kernel
theorem w_applies : (headSpec (Jvm.Cond.code x code maxLocals ret :: tables_1) room_1).applies x e0.platform about1 = true :=
  (Spec.applies_iff w_frames).mpr ⟨w_running, w_runnable, w_alone, w_named, w_hears, w_ripe, w_room, w_tables⟩
theorem atStart : AtStart classFile x code maxLocals ret World_1 tables_1 room_1 Calls_1 rest_1 Pre_1 launch0 p0 e0 about1 theMethod args0 below0 :=
  ⟨lists_1, trivial, launch0.admits_env _ _ _, launch0.least_env, fairChoices_fair.cas, fairChoices_fair.clock, w_frames, w_args, w_heap, w_applies, trivial, trivial, w_case⟩
end start1
theorem witness_1 : WitnessClaimed_1 := ⟨start1.p0, start1.e0, start1.about1, start1.theMethod, start1.args0, start1.below0, start1.atStart⟩
end Jvm.Pilot.@@N@@
