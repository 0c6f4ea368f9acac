import JvmDerived
import JvmDerived.Pilot.@@N@@Statement
import JvmDerived.Pilot.@@N@@Code
set_option linter.unusedVariables false
set_option linter.unusedSimpArgs false
namespace Jvm.Pilot.@@N@@
open Jvm Jvm.ClassFile Sem Op Lib Jvm.Free Jvm.Stand Jvm.LawKit Jvm.RoadKit Bundle Jvm.Pilot.@@N@@.Jvm.D
section OwnWalk
variable {p : Program} {l : Launch} {e : Env} {R : Room} {s : State} {m : MethodId} {args : Array Value} {below : List Frame} {meth : Method} {c : Code} {T T' : State} {locs : List Loc} {cells slots kc ks : Nat} {g g' : JFrame} {Q : Option Value → Heap → List Loc → Prop}
/-- from here the run comes to its end, and the end is as Q says -/
def own_G (p : Program) (e : Env) (below : List Frame) (s : State) (Q : Option Value → Heap → List Loc → Prop) (kc ks : Nat) (T : State) (g : JFrame) : Prop :=
  ∃ s₂ o, Steps p.tables e below (T.setTop g) s₂ ∧ s₂.status = .running ∧ Ended s₂ below o ∧ ∃ v L, o = .returned v ∧ Q v s₂.heap L ∧ FrameEnd s o s₂ L kc ks
theorem own_fe {Z : State} {h : Heap} {a : Addr} {C n d : String} {v v' : Value} (q : Fld Z h a C n d v) (e : v = v') : Fld Z h a C n d v' := e ▸ q
theorem own_ve {Z : State} {h : Heap} {a : Addr} {k : ClassId} {ty : FieldType} {n : Int32} {vs vs' : List Value} {d : Value} (q : Arv Z h a k ty n vs d) (e : vs = vs') : Arv Z h a k ty n vs' d := e ▸ q
theorem own_gs {vs : List Value} {j : Nat} {v d : Value} (h : j < vs.length) : (vs.set j v).getD j d = v := by simp [List.getD_eq_getElem?_getD, h]
theorem own_ge {vs : List Value} {i j : Nat} {v d : Value} (e : i = j) (h : j < vs.length) : (vs.set i v).getD j d = v := by subst e; exact own_gs h
theorem own_gn {vs : List Value} {i j : Nat} {v w d : Value} (h : i ≠ j) (q : vs.getD j d = w) : (vs.set i v).getD j d = w := by rw [List.getD_eq_getElem?_getD, List.getElem?_set_ne h, ← List.getD_eq_getElem?_getD]; exact q
theorem own_ls {vs : List Value} {i j : Nat} {v : Value} (h : j < vs.length) : j < (vs.set i v).length := by rw [List.length_set]; exact h
theorem own_enter (q : g = g') (k : own_G p e below s Q kc ks T g') : own_G p e below s Q kc ks T g := q ▸ k
theorem own_st (st : ∀ t, Steps p.tables e below (T'.setTop g') t → Steps p.tables e below (T.setTop g) t) (k : own_G p e below s Q kc ks T' g') : own_G p e below s Q kc ks T g := by
  obtain ⟨s₂, o, h1, h2⟩ := k
  exact ⟨s₂, o, st _ h1, h2⟩
theorem own_tr (st : Steps p.tables e below (T.setTop g) (T'.setTop g')) (k : own_G p e below s Q kc ks T' g') : own_G p e below s Q kc ks T g := own_st (fun _ h => st.trans h) k
theorem own_ret (X : Stand p l e R s m args below meth c T locs cells slots) (hx : p.tables.exec = Jvm.exec) (hlk : meth.locks = false) {pc : Nat} {Ls : Array Slot} {w : Value} {t : FieldType} {i : Instr} {rest : List Value} (hret : meth.sig.returnType = some t) (hn : narrow t w = w)
    (hi : (i = .ireturn ∧ (t = .int ∨ t = .boolean ∨ t = .byte ∨ t = .char ∨ t = .short) ∧ ∃ z, w = .int z) ∨ (i = .lreturn ∧ t = .long ∧ ∃ z, w = .long z) ∨ (i = .dreturn ∧ t = .double ∧ ∃ z, w = .double z) ∨ (i = .freturn ∧ t = .float ∧ ∃ z, w = .float z) ∨ (i = .areturn ∧ t.isReference = true ∧ w.isRef = true))
    (hd : decode c.code pc = .ok (i, 1)) (hc : cells ≤ kc) (hs : slots ≤ ks) (hQ : Q (some w) T.heap locs) : own_G p e below s Q kc ks T (mkF m pc Ls (w :: rest)) := by
  obtain ⟨fs, hr, hrun, hended, hW, hsame⟩ := X.leave (v := some w) (fun h => by rw [hret] at h; cases h) hlk
  exact ⟨_, _, retOut X hx hret hn hi hd hr, hrun, hended, _, _, rfl, hQ, ⟨_, rfl⟩, hW, hsame.mono hc hs⟩
theorem own_retI (X : Stand p l e R s m args below meth c T locs cells slots) (hx : p.tables.exec = Jvm.exec) (hlk : meth.locks = false) {pc : Nat} {Ls : Array Slot} {z : Int32} {rest : List Value} (hret : meth.sig.returnType = some .int)
    (hd : decode c.code pc = .ok (.ireturn, 1)) (hc : cells ≤ kc) (hs : slots ≤ ks) (hQ : Q (some (.int z)) T.heap locs) : own_G p e below s Q kc ks T (mkF m pc Ls (.int z :: rest)) :=
  own_ret X hx hlk hret rfl (Or.inl ⟨rfl, Or.inl rfl, z, rfl⟩) hd hc hs hQ
theorem own_retZ (X : Stand p l e R s m args below meth c T locs cells slots) (hx : p.tables.exec = Jvm.exec) (hlk : meth.locks = false) {pc : Nat} {Ls : Array Slot} {z : Int32} {rest : List Value} (hret : meth.sig.returnType = some .boolean)
    (hd : decode c.code pc = .ok (.ireturn, 1)) (hn : narrow .boolean (.int z) = .int z) (hc : cells ≤ kc) (hs : slots ≤ ks) (hQ : Q (some (.int z)) T.heap locs) : own_G p e below s Q kc ks T (mkF m pc Ls (.int z :: rest)) :=
  own_ret X hx hlk hret hn (Or.inl ⟨rfl, Or.inr (Or.inl rfl), z, rfl⟩) hd hc hs hQ
theorem own_retJ (X : Stand p l e R s m args below meth c T locs cells slots) (hx : p.tables.exec = Jvm.exec) (hlk : meth.locks = false) {pc : Nat} {Ls : Array Slot} {z : Int64} {rest : List Value} (hret : meth.sig.returnType = some .long)
    (hd : decode c.code pc = .ok (.lreturn, 1)) (hc : cells ≤ kc) (hs : slots ≤ ks) (hQ : Q (some (.long z)) T.heap locs) : own_G p e below s Q kc ks T (mkF m pc Ls (.long z :: rest)) :=
  own_ret X hx hlk hret rfl (Or.inr (Or.inl ⟨rfl, rfl, z, rfl⟩)) hd hc hs hQ
theorem own_retD (X : Stand p l e R s m args below meth c T locs cells slots) (hx : p.tables.exec = Jvm.exec) (hlk : meth.locks = false) {pc : Nat} {Ls : Array Slot} {z : UInt64} {rest : List Value} (hret : meth.sig.returnType = some .double)
    (hd : decode c.code pc = .ok (.dreturn, 1)) (hc : cells ≤ kc) (hs : slots ≤ ks) (hQ : Q (some (.double z)) T.heap locs) : own_G p e below s Q kc ks T (mkF m pc Ls (.double z :: rest)) :=
  own_ret X hx hlk hret rfl (Or.inr (Or.inr (Or.inl ⟨rfl, rfl, z, rfl⟩))) hd hc hs hQ
theorem own_retA (X : Stand p l e R s m args below meth c T locs cells slots) (hx : p.tables.exec = Jvm.exec) (hlk : meth.locks = false) {pc : Nat} {Ls : Array Slot} {w : Value} {t : FieldType} {rest : List Value} (hret : meth.sig.returnType = some t) (ht : t.isReference = true) (hw : w.isRef = true)
    (hd : decode c.code pc = .ok (.areturn, 1)) (hc : cells ≤ kc) (hs : slots ≤ ks) (hQ : Q (some w) T.heap locs) : own_G p e below s Q kc ks T (mkF m pc Ls (w :: rest)) :=
  own_ret X hx hlk hret (by cases t <;> first | (cases ht; done) | (cases w <;> first | (cases hw; done) | rfl)) (Or.inr (Or.inr (Or.inr (Or.inr ⟨rfl, ht, hw⟩)))) hd hc hs hQ
theorem own_retV (X : Stand p l e R s m args below meth c T locs cells slots) (hx : p.tables.exec = Jvm.exec) (hlk : meth.locks = false) {pc : Nat} {Ls : Array Slot} (hret : meth.sig.returnType = none)
    (hd : decode c.code pc = .ok (.return_, 1)) (hc : cells ≤ kc) (hs : slots ≤ ks) (hQ : Q none T.heap locs) : own_G p e below s Q kc ks T (mkF m pc Ls []) := by
  obtain ⟨fs, hr, hrun, hended, hW, hsame⟩ := X.leave (v := none) (fun _ => rfl) hlk
  exact ⟨_, _, X.returnOut hx hret hd hr, hrun, hended, _, _, rfl, hQ, ⟨_, rfl⟩, hW, hsame.mono hc hs⟩
end OwnWalk
section OwnFloat
/-! ## Doubles as fractions: x is n / 2^k, exactly -/
def own_Dy (x : UInt64) (n : Int) (k : Nat) : Prop :=
  (∃ s c q, FP.Core.val64 x = .fin s c q) ∧ k ≤ 1074 ∧ FP.Core.zval FP.Core.b64 (FP.Core.val64 x) = n * ((2 ^ (1074 - k) : Nat) : Int)
theorem own_qmax : FP.Core.b64.qmax = 971 := by decide
theorem own_p : FP.Core.b64.p = 53 := by decide
theorem own_signed_abs (n : Int) : FP.Core.signed (decide (n < 0)) n.natAbs = n := by
  unfold FP.Core.signed; by_cases h : n < 0 <;> simp [h] <;> omega
/-- every n / 2^k with |n| < 2^53 is a double's value -/
theorem own_fitV {n : Int} {k : Nat} (hk : k ≤ 1074) (hn : n.natAbs < 9007199254740992) :
    ∃ V, FP.Core.fits FP.Core.b64 V ∧ (∃ s c q, V = .fin s c q) ∧ FP.Core.zval FP.Core.b64 V = n * ((2 ^ (1074 - k) : Nat) : Int) := by
  obtain ⟨c', q', h1, h2⟩ := FP.Core.round_exact FP.Core.good_b64 (decide (n < 0)) (c := n.natAbs) (q := -(k : Int)) (by rw [own_p]; exact hn) (by rw [FP.Core.qmin_b64]; omega) (by rw [own_qmax]; omega)
  refine ⟨_, FP.Core.round_fits FP.Core.good_b64 (.fin (decide (n < 0)) n.natAbs (-(k : Int))), ⟨_, _, _, h1⟩, ?_⟩
  rw [h1]
  show FP.Core.signed (decide (n < 0)) (FP.Core.inUnits c' q' FP.Core.b64.qmin) = _
  rw [h2]
  unfold FP.Core.inUnits
  rw [FP.Core.qmin_b64, show (-(k : Int) - -1074).toNat = 1074 - k by omega, FP.Core.signed_mul, own_signed_abs]
/-- what is worth n / 2^k rounds to that -/
theorem own_round {s : Bool} {c : Nat} {q e0 n : Int} {k : Nat} (hk : k ≤ 1074) (hn : n.natAbs < 9007199254740992) (h0 : e0 ≤ -1074) (h1 : e0 ≤ q)
    (h : FP.Core.signed s (FP.Core.inUnits c q e0) = n * ((2 ^ (1074 - k) : Nat) : Int) * ((2 ^ (-1074 - e0).toNat : Nat) : Int)) :
    (∃ s' c' q', FP.Core.round FP.Core.b64 (.fin s c q) = .fin s' c' q') ∧ FP.Core.zval FP.Core.b64 (FP.Core.round FP.Core.b64 (.fin s c q)) = n * ((2 ^ (1074 - k) : Nat) : Int) := by
  obtain ⟨V, v1, ⟨vs, vc, vq, v2⟩, v3⟩ := own_fitV hk hn
  have hne : V ≠ .nan := by rw [v2]; exact FP.Core.Datum.noConfusion
  have hq := FP.Core.qmin_b64
  have le := FP.Core.zval_round_le FP.Core.good_b64 (s := s) (c := c) (q := q) (e0 := e0) v1 hne (by rw [hq]; exact h0) h1 (by rw [hq, v3, h]; exact Int.le_refl _)
  have ge := FP.Core.zval_round_ge FP.Core.good_b64 (s := s) (c := c) (q := q) (e0 := e0) v1 hne (by rw [hq]; exact h0) h1 (by rw [hq, v3, h]; exact Int.le_refl _)
  have e : FP.Core.zval FP.Core.b64 (FP.Core.round FP.Core.b64 (.fin s c q)) = FP.Core.zval FP.Core.b64 V := Int.le_antisymm le ge
  refine ⟨?_, e.trans v3⟩
  rcases FP.Core.roundRatio_cases FP.Core.b64 s c 1 q with ⟨c', q', h'⟩ | h'
  · exact ⟨_, _, _, h'⟩
  · exfalso
    have e' : FP.Core.zval FP.Core.b64 (FP.Core.roundRatio FP.Core.b64 s c 1 q) = FP.Core.zval FP.Core.b64 V := e
    rw [h', v2] at e'
    rw [v2] at v1
    have hlt := FP.Core.zmag_lt_top FP.Core.good_b64 v1
    have e2 : FP.Core.signed s (FP.Core.b64.tails * 2 ^ (FP.Core.b64.exps - 2)) = FP.Core.signed vs (FP.Core.inUnits vc vq FP.Core.b64.qmin) := e'
    clear e'
    generalize FP.Core.inUnits vc vq FP.Core.b64.qmin = a at e2 hlt
    generalize FP.Core.b64.tails * 2 ^ (FP.Core.b64.exps - 2) = b at e2 hlt
    cases s <;> cases vs <;> simp only [FP.Core.signed, if_true, Bool.false_eq_true, if_false] at e2 <;> omega
theorem own_Dy.fin {x : UInt64} {n : Int} {k : Nat} (h : own_Dy x n k) : Fl.Fin64 x := by
  obtain ⟨⟨s, c, q, h1⟩, -⟩ := h
  exact Fl.fin64_core.mpr ⟨s, c, q, h1⟩
theorem own_Dy.nn {x : UInt64} {n : Int} {k : Nat} (h : own_Dy x n k) : Fl.NoNaN64 x := h.fin.noNaN
theorem own_Dy.ne {x : UInt64} {n : Int} {k : Nat} (h : own_Dy x n k) : FP.Core.val64 x ≠ .nan := by
  obtain ⟨⟨s, c, q, h1⟩, -⟩ := h; rw [h1]; exact FP.Core.Datum.noConfusion
theorem own_pow {j k : Nat} (h : j + k ≤ 1074) : ((2 ^ (1074 - j) : Nat) : Int) = ((2 ^ k : Nat) : Int) * ((2 ^ (1074 - (j + k)) : Nat) : Int) := by
  rw [← Int.natCast_mul, ← Nat.pow_add]; congr 2; omega
/-- the same number, with a greater denominator -/
theorem own_Dy.up {x : UInt64} {n : Int} {k : Nat} (h : own_Dy x n k) (j : Nat) (hj : k + j ≤ 1074) : own_Dy x (n * ((2 ^ j : Nat) : Int)) (k + j) := by
  obtain ⟨h1, -, h3⟩ := h
  refine ⟨h1, hj, ?_⟩
  rw [h3, own_pow hj, Int.mul_assoc]
theorem own_Dy.dn {x : UInt64} {n : Int} {k j : Nat} (h : own_Dy x (n * ((2 ^ j : Nat) : Int)) (k + j)) : own_Dy x n k := by
  obtain ⟨h1, h2, h3⟩ := h
  refine ⟨h1, by omega, ?_⟩
  rw [h3, own_pow h2, Int.mul_assoc]
theorem own_dy_l2d {a : Int64} (h1 : -9007199254740992 < a.toInt) (h2 : a.toInt < 9007199254740992) : own_Dy (FP.l2d a) a.toInt 0 := by
  have hr := own_round (s := decide (a.toInt < 0)) (c := a.toInt.natAbs) (q := 0) (e0 := -1074) (n := a.toInt) (k := 0) (by omega) (by omega) (by omega) (by omega) (by
    unfold FP.Core.inUnits
    rw [FP.Core.signed_mul, own_signed_abs, show (0 - -1074 : Int).toNat = 1074 from rfl, show (-1074 - -1074 : Int).toNat = 0 from rfl, Nat.pow_zero, Int.natCast_one, Int.mul_one])
  have hv : FP.Core.val64 (FP.l2d a) = FP.Core.round FP.Core.b64 (.fin (decide (a.toInt < 0)) a.toInt.natAbs 0) := FP.Core.val64_l2d a
  unfold own_Dy
  rw [hv]
  exact ⟨hr.1, by omega, hr.2⟩
theorem own_dy_i2d (a : Int32) : own_Dy (FP.i2d a) a.toInt 0 := by
  have h := Int32.toInt_lt a
  have h' := Int32.le_toInt a
  have e : a.toInt64.toInt = a.toInt := Int32.toInt_toInt64 a
  have := own_dy_l2d (a := a.toInt64) (by omega) (by omega)
  rw [e] at this
  exact (FP.Core.i2d_l2d a ▸ this : own_Dy (FP.Core.i2d a) a.toInt 0)
theorem own_Dy.add {x y : UInt64} {n m : Int} {k : Nat} (hx : own_Dy x n k) (hy : own_Dy y m k) (h : (n + m).natAbs < 9007199254740992) : own_Dy (FP.dadd x y) (n + m) k := by
  obtain ⟨⟨s, c, q, hx1⟩, hk, hx3⟩ := hx
  obtain ⟨⟨t, d, r, hy1⟩, -, hy3⟩ := hy
  obtain ⟨sg, w, e, h1, h2, h3⟩ := FP.Core.sum_units (f := FP.Core.b64) (hx1 ▸ FP.Core.val64_fits x) (hy1 ▸ FP.Core.val64_fits y)
  have hq := FP.Core.qmin_b64
  rw [← hx1, ← hy1, hx3, hy3, ← Int.add_mul] at h3
  have hr := own_round (s := sg) (c := w) (q := e) (e0 := -1074) (n := n + m) (k := k) hk h (by omega) (by rw [hq] at h2; exact h2) (by
    rw [hq] at h3; rw [h3, show (-1074 - -1074 : Int).toNat = 0 from rfl, Nat.pow_zero, Int.natCast_one, Int.mul_one])
  have hv : FP.Core.val64 (FP.dadd x y) = FP.Core.round FP.Core.b64 (.fin sg w e) := by
    have := FP.Core.val64_dadd x y
    rw [hx1, hy1, h1] at this
    exact this
  unfold own_Dy
  rw [hv]
  exact ⟨hr.1, hk, hr.2⟩
theorem own_Dy.sub {x y : UInt64} {n m : Int} {k : Nat} (hx : own_Dy x n k) (hy : own_Dy y m k) (h : (n - m).natAbs < 9007199254740992) : own_Dy (FP.dsub x y) (n - m) k := by
  obtain ⟨⟨s, c, q, hx1⟩, hk, hx3⟩ := hx
  obtain ⟨⟨t, d, r, hy1⟩, -, hy3⟩ := hy
  have hyn : FP.Core.fits FP.Core.b64 (FP.Core.negate (.fin t d r)) := FP.Core.negate_fits (hy1 ▸ FP.Core.val64_fits y)
  obtain ⟨sg, w, e, h1, h2, h3⟩ := FP.Core.sum_units (f := FP.Core.b64) (s := s) (c := c) (q := q) (t := !t) (d := d) (r := r) (hx1 ▸ FP.Core.val64_fits x) hyn
  have hq := FP.Core.qmin_b64
  have hneg : FP.Core.zval FP.Core.b64 (.fin (!t) d r) = -(m * ((2 ^ (1074 - k) : Nat) : Int)) := by
    rw [← hy3, hy1]; exact FP.Core.zval_negate FP.Core.b64 (.fin t d r)
  rw [← hx1, hx3, hneg, ← Int.sub_eq_add_neg, ← Int.sub_mul] at h3
  have hr := own_round (s := sg) (c := w) (q := e) (e0 := -1074) (n := n - m) (k := k) hk h (by omega) (by rw [hq] at h2; exact h2) (by
    rw [hq] at h3; rw [h3, show (-1074 - -1074 : Int).toNat = 0 from rfl, Nat.pow_zero, Int.natCast_one, Int.mul_one])
  have hv : FP.Core.val64 (FP.dsub x y) = FP.Core.round FP.Core.b64 (.fin sg w e) := by
    have := FP.Core.val64_dsub x y
    rw [hx1, hy1] at this
    exact this.trans (congrArg _ h1)
  unfold own_Dy
  rw [hv]
  exact ⟨hr.1, hk, hr.2⟩
theorem own_Dy.mul {x y : UInt64} {n m : Int} {k j : Nat} (hx : own_Dy x n k) (hy : own_Dy y m j) (hkj : k + j ≤ 1074) (h : (n * m).natAbs < 9007199254740992) : own_Dy (FP.dmul x y) (n * m) (k + j) := by
  obtain ⟨⟨s, c, q, hx1⟩, hk, hx3⟩ := hx
  obtain ⟨⟨t, d, r, hy1⟩, hj, hy3⟩ := hy
  obtain ⟨h1, h2, h3⟩ := FP.Core.product_units (f := FP.Core.b64) (hx1 ▸ FP.Core.val64_fits x) (hy1 ▸ FP.Core.val64_fits y)
  have hq := FP.Core.qmin_b64
  have hs : FP.Core.signed (s != t) (FP.Core.zmag FP.Core.b64 (.fin s c q) * FP.Core.zmag FP.Core.b64 (.fin t d r)) = FP.Core.zval FP.Core.b64 (.fin s c q) * FP.Core.zval FP.Core.b64 (.fin t d r) := by
    show _ = FP.Core.signed s (FP.Core.zmag FP.Core.b64 (.fin s c q)) * FP.Core.signed t (FP.Core.zmag FP.Core.b64 (.fin t d r))
    generalize FP.Core.zmag FP.Core.b64 (.fin s c q) = a
    generalize FP.Core.zmag FP.Core.b64 (.fin t d r) = b
    cases s <;> cases t <;> simp [FP.Core.signed, Int.natCast_mul, Int.neg_mul, Int.mul_neg]
  have hr := own_round (s := s != t) (c := c * d) (q := q + r) (e0 := -2148) (n := n * m) (k := k + j) hkj h (by omega) (by rw [hq] at h2; omega) (by
    rw [hq] at h3
    have h3' : FP.Core.inUnits (c * d) (q + r) (-2148) = FP.Core.zmag FP.Core.b64 (FP.Core.Datum.fin s c q) * FP.Core.zmag FP.Core.b64 (FP.Core.Datum.fin t d r) := h3
    rw [h3', hs, ← hx1, ← hy1, hx3, hy3, show (-1074 - -2148 : Int).toNat = 1074 from rfl]
    have e1 : ((2 ^ (1074 - k) : Nat) : Int) * ((2 ^ (1074 - j) : Nat) : Int) = ((2 ^ (1074 - (k + j)) : Nat) : Int) * ((2 ^ 1074 : Nat) : Int) := by
      rw [← Int.natCast_mul, ← Int.natCast_mul, ← Nat.pow_add, ← Nat.pow_add]; congr 2; omega
    generalize ((2 ^ (1074 - k) : Nat) : Int) = A at e1 ⊢
    generalize ((2 ^ (1074 - j) : Nat) : Int) = B at e1 ⊢
    generalize ((2 ^ (1074 - (k + j)) : Nat) : Int) = C at e1 ⊢
    generalize ((2 ^ 1074 : Nat) : Int) = D at e1 ⊢
    calc n * A * (m * B) = n * m * (A * B) := by ac_rfl
      _ = n * m * C * D := by rw [e1]; ac_rfl)
  have hv : FP.Core.val64 (FP.dmul x y) = FP.Core.round FP.Core.b64 (.fin (s != t) (c * d) (q + r)) := by
    have := FP.Core.val64_dmul x y
    rw [hx1, hy1] at this
    exact this.trans (congrArg _ h1)
  unfold own_Dy
  rw [hv]
  exact ⟨hr.1, hkj, hr.2⟩
theorem own_Dy.cmp {x y : UInt64} {n m : Int} {k : Nat} (hx : own_Dy x n k) (hy : own_Dy y m k) : FP.dcmp x y = some (compare n m) := by
  have h := FP.Core.dcmp_zval hx.ne hy.ne
  rw [hx.2.2, hy.2.2, FP.Core.compare_mul_pos _ _ _ (by have := Nat.two_pow_pos (1074 - k); omega)] at h
  exact h
theorem own_Dy.eq {x y : UInt64} {n m : Int} {k : Nat} (hx : own_Dy x n k) (hy : own_Dy y m k) (h : n = m) (o : CmpOp) : cmpValue (FP.dcmp x y) o = 0 := by
  rw [hx.cmp hy, (FP.Core.compare_eq_iff n m).mpr h]; rfl
theorem own_Dy.lt {x y : UInt64} {n m : Int} {k : Nat} (hx : own_Dy x n k) (hy : own_Dy y m k) (h : n < m) (o : CmpOp) : cmpValue (FP.dcmp x y) o = -1 := by
  rw [hx.cmp hy, (FP.Core.compare_lt_iff n m).mpr h]; rfl
theorem own_Dy.gt {x y : UInt64} {n m : Int} {k : Nat} (hx : own_Dy x n k) (hy : own_Dy y m k) (h : m < n) (o : CmpOp) : cmpValue (FP.dcmp x y) o = 1 := by
  rw [hx.cmp hy, (FP.Core.compare_gt_iff n m).mpr h]; rfl
end OwnFloat
section OwnInt
theorem own_ladd {a b : Int64} (h : (a.toInt + b.toInt).natAbs < 9223372036854775808) : (a + b).toInt = a.toInt + b.toInt := by
  have q := c_ladd a b; have r := rng64 (a + b); omega
theorem own_lsub {a b : Int64} (h : (a.toInt - b.toInt).natAbs < 9223372036854775808) : (a - b).toInt = a.toInt - b.toInt := by
  have q := c_lsub a b; have r := rng64 (a - b); omega
theorem own_lmul {a b : Int64} (h : (a.toInt * b.toInt).natAbs < 9223372036854775808) : (a * b).toInt = a.toInt * b.toInt := by
  have q := c_lmul a b; have r := rng64 (a * b); generalize a.toInt * b.toInt = z at *; omega
theorem own_iadd {a b : Int32} (h : (a.toInt + b.toInt).natAbs < 2147483648) : (a + b).toInt = a.toInt + b.toInt := by
  have q := c_iadd a b; have r := rng32 (a + b); omega
theorem own_isub {a b : Int32} (h : (a.toInt - b.toInt).natAbs < 2147483648) : (a - b).toInt = a.toInt - b.toInt := by
  have q := c_isub a b; have r := rng32 (a - b); omega
theorem own_imul {a b : Int32} (h : (a.toInt * b.toInt).natAbs < 2147483648) : (a * b).toInt = a.toInt * b.toInt := by
  have q := c_imul a b; have r := rng32 (a * b); generalize a.toInt * b.toInt = z at *; omega
theorem own_absmul {n m : Int} {A B : Nat} (hn : n.natAbs ≤ A) (hm : m.natAbs ≤ B) : (n * m).natAbs ≤ A * B := by
  rw [Int.natAbs_mul]; exact Nat.mul_le_mul hn hm
end OwnInt
section OwnShift
theorem own_bv {q : Int32} {n : Nat} (h : q.toInt = (n : Int)) : q.toBitVec.toNat = n := by
  have h1 : q.toBitVec.toInt = (n : Int) := h
  have h2 := BitVec.toInt_eq_toNat_cond q.toBitVec
  have h3 := q.toBitVec.isLt
  split at h2 <;> omega
theorem own_lshl {x : Int64} {q : Int32} {n : Nat} (hq : q.toInt = (n : Int)) (hn : n < 64) (hb : (x.toInt * ((2 ^ n : Nat) : Int)).natAbs < 9223372036854775808) : (x <<< (q &&& 0x3f).toInt64).toInt = x.toInt * ((2 ^ n : Nat) : Int) := by
  have h1 := c_lshl x q n (by rw [own_bv hq]; omega)
  have h2 := rng64 (x <<< (q &&& 0x3f).toInt64)
  generalize x.toInt * ((2 ^ n : Nat) : Int) = z at *
  omega
theorem own_ishl {x : Int32} {q : Int32} {n : Nat} (hq : q.toInt = (n : Int)) (hn : n < 32) (hb : (x.toInt * ((2 ^ n : Nat) : Int)).natAbs < 2147483648) : (x <<< (q &&& 31)).toInt = x.toInt * ((2 ^ n : Nat) : Int) := by
  have h1 := c_ishl x q n (by rw [own_bv hq]; omega)
  have h2 := rng32 (x <<< (q &&& 31))
  generalize x.toInt * ((2 ^ n : Nat) : Int) = z at *
  omega
theorem own_ishl1 {q : Int32} {n : Nat} (hq : q.toInt = (n : Int)) (hn : n < 31) : ((1 : Int32) <<< (q &&& 31)).toInt = ((2 ^ n : Nat) : Int) := by
  have e : (1 : Int32).toInt = 1 := by decide
  have hp : 2 ^ n ≤ 2 ^ 30 := Nat.pow_le_pow_right (by omega) (by omega)
  rw [own_ishl hq (by omega) (by rw [e, Int.one_mul, Int.natAbs_natCast]; omega), e, Int.one_mul]
theorem own_lshl1 {q : Int32} {n : Nat} (hq : q.toInt = (n : Int)) (hn : n < 63) : ((1 : Int64) <<< (q &&& 0x3f).toInt64).toInt = ((2 ^ n : Nat) : Int) := by
  have e : (1 : Int64).toInt = 1 := by decide
  have hp : 2 ^ n ≤ 2 ^ 62 := Nat.pow_le_pow_right (by omega) (by omega)
  rw [own_lshl hq (by omega) (by rw [e, Int.one_mul, Int.natAbs_natCast]; omega), e, Int.one_mul]
/-- a mask of ones: what is left is some natural below the power -/
theorem own_andN (x : Int32) (mk : Int32) (M : Nat) (hM : mk.toInt = (M : Int)) : ∃ n : Nat, (x &&& mk).toInt = (n : Int) ∧ n ≤ M := by
  have h := c_and x mk (by omega)
  exact ⟨(x &&& mk).toInt.toNat, by omega, by omega⟩
theorem own_andL (x : Int64) (mk : Int64) (k : Nat) (hk : k ≤ 63) (hm : mk.toBitVec.toNat = 2 ^ k - 1) : ∃ n : Nat, (x &&& mk).toInt = (n : Int) ∧ n < 2 ^ k := by
  have h := c_maskL x mk k hk hm
  have hp := Nat.two_pow_pos k
  have h1 := Int.emod_nonneg x.toInt (show ((2 ^ k : Nat) : Int) ≠ 0 by omega)
  have h2 := Int.emod_lt_of_pos x.toInt (show (0 : Int) < ((2 ^ k : Nat) : Int) by omega)
  exact ⟨(x &&& mk).toInt.toNat, by omega, by omega⟩
theorem own_irem {x y : Int32} (hx : 0 ≤ x.toInt) (hy : 0 < y.toInt) : (x % y).toInt = x.toInt % y.toInt := by
  rw [Int32.toInt_mod, Int.tmod_eq_emod_of_nonneg hx]
theorem own_lrem {x y : Int64} (hx : 0 ≤ x.toInt) (hy : 0 < y.toInt) : (x - x / y * y).toInt = x.toInt % y.toInt := by
  rw [lrem_mod, Int64.toInt_mod, Int.tmod_eq_emod_of_nonneg hx]
end OwnShift
section OwnPlain
open Jvm.Free.Fl
def own_u (x r1 r2 a b : Int32) : UInt64 := if x = r1 then (if x = r2 then FP.dadd (FP.dadd (0 : UInt64) (FP.i2d a)) (FP.i2d b) else FP.dadd (0 : UInt64) (FP.i2d a)) else (if x = r2 then FP.dadd (0 : UInt64) (FP.i2d b) else (0 : UInt64))
def own_v (r2 r1 a : Int32) : UInt64 := if r2 = r1 then FP.dadd (0 : UInt64) (FP.i2d a) else (0 : UInt64)
def own_c (x r1 r2 : Int32) : Int32 := if x = r1 then (if x = r2 then ((0 : Int32) + (1 : Int32)) + (1 : Int32) else (0 : Int32) + (1 : Int32)) else (if x = r2 then (0 : Int32) + (1 : Int32) else (0 : Int32))
def own_v2 (r2 r1 : Int32) : Int32 := if r2 = r1 then (0 : Int32) + (1 : Int32) else (0 : Int32)
theorem own_ctt {x r1 r2 : Int32} (h1 : x = r1) (h2 : x = r2) : own_c x r1 r2 = (2 : Int32) := by unfold own_c; rw [if_pos h1, if_pos h2]; decide
theorem own_ctf {x r1 r2 : Int32} (h1 : x = r1) (h2 : ¬ x = r2) : own_c x r1 r2 = (1 : Int32) := by unfold own_c; rw [if_pos h1, if_neg h2]; decide
theorem own_cft {x r1 r2 : Int32} (h1 : ¬ x = r1) (h2 : x = r2) : own_c x r1 r2 = (1 : Int32) := by unfold own_c; rw [if_neg h1, if_pos h2]; decide
theorem own_cff {x r1 r2 : Int32} (h1 : ¬ x = r1) (h2 : ¬ x = r2) : own_c x r1 r2 = (0 : Int32) := by unfold own_c; rw [if_neg h1, if_neg h2]
theorem own_z0 : own_Dy (0 : UInt64) 0 0 := ⟨⟨false, 0, -1074, by decide +kernel⟩, by omega, by decide +kernel⟩
theorem own_d1 (a : Int32) : own_Dy (FP.dadd (0 : UInt64) (FP.i2d a)) a.toInt 0 := by
  have r := rng32 a
  have := own_z0.add (own_dy_i2d a) (by omega)
  rw [Int.zero_add] at this; exact this
theorem own_d2 (a b : Int32) : own_Dy (FP.dadd (FP.dadd (0 : UInt64) (FP.i2d a)) (FP.i2d b)) (a.toInt + b.toInt) 0 := by
  have r := rng32 a; have r' := rng32 b
  exact (own_d1 a).add (own_dy_i2d b) (by omega)
theorem own_l1 (a : Int32) : ((0 : Int64) + a.toInt64).toInt = a.toInt := by rw [Int64.zero_add]; exact c_i2l a
theorem own_l2 (a b : Int32) : (((0 : Int64) + a.toInt64) + b.toInt64).toInt = a.toInt + b.toInt := by
  have r := rng32 a; have r' := rng32 b; have e := own_l1 a; have e' := c_i2l b
  rw [own_ladd (by rw [e, e']; omega), e, e']
theorem own_e1 (a : Int32) : cmpValue (FP.dcmp (FP.dadd (0 : UInt64) (FP.i2d a)) (FP.l2d ((0 : Int64) + a.toInt64))) .l = 0 := by
  have r := rng32 a; have e := own_l1 a
  have q := own_dy_l2d (a := (0 : Int64) + a.toInt64) (by omega) (by omega)
  rw [e] at q
  exact (own_d1 a).eq q rfl .l
theorem own_ktt {x r1 r2 : Int32} (h1 : x = r1) (h2 : x = r2) (a b : Int32) : cmpValue (FP.dcmp (own_u x r1 r2 a b) (FP.l2d (((0 : Int64) + a.toInt64) + b.toInt64))) .l = 0 := by
  unfold own_u; rw [if_pos h1, if_pos h2]
  have r := rng32 a; have r' := rng32 b; have e := own_l2 a b
  have q := own_dy_l2d (a := ((0 : Int64) + a.toInt64) + b.toInt64) (by omega) (by omega)
  rw [e] at q
  exact (own_d2 a b).eq q rfl .l
theorem own_ktf {x r1 r2 : Int32} (h1 : x = r1) (h2 : ¬ x = r2) (a b : Int32) : cmpValue (FP.dcmp (own_u x r1 r2 a b) (FP.l2d ((0 : Int64) + a.toInt64))) .l = 0 := by
  unfold own_u; rw [if_pos h1, if_neg h2]; exact own_e1 a
theorem own_kft {x r1 r2 : Int32} (h1 : ¬ x = r1) (h2 : x = r2) (a b : Int32) : cmpValue (FP.dcmp (own_u x r1 r2 a b) (FP.l2d ((0 : Int64) + b.toInt64))) .l = 0 := by
  unfold own_u; rw [if_neg h1, if_pos h2]; exact own_e1 b
theorem own_kff {x r1 r2 : Int32} (h1 : ¬ x = r1) (h2 : ¬ x = r2) (a b : Int32) : cmpValue (FP.dcmp (own_u x r1 r2 a b) (FP.l2d (0 : Int64))) .l = 0 := by
  unfold own_u; rw [if_neg h1, if_neg h2]; decide +kernel
theorem own_nn2 (r2 r1 a b : Int32) : NoNaN64 (FP.dadd (own_v r2 r1 a) (FP.i2d b)) := by
  unfold own_v
  split
  · exact (own_d2 a b).nn
  · exact (own_d1 b).nn
theorem own_g4 (j : Nat) (d : Value) : [d, d, d, d].getD j d = d := by
  match j with
  | 0 => rfl
  | 1 => rfl
  | 2 => rfl
  | 3 => rfl
  | _ + 4 => rfl
def own_S (nn r1 r2 oo : Int32) : Prop := 1 ≤ nn.toInt ∧ nn.toInt ≤ 4 ∧ (0 ≤ r1.toInt ∧ r1.toInt < nn.toInt) ∧ (0 ≤ r2.toInt ∧ r2.toInt < nn.toInt) ∧ (0 ≤ oo.toInt ∧ oo.toInt < nn.toInt)
theorem own_n4 (p : Int32) : 1 ≤ ((p &&& (3 : Int32)) + (1 : Int32)).toInt ∧ ((p &&& (3 : Int32)) + (1 : Int32)).toInt ≤ 4 := by
  obtain ⟨n, h, hn⟩ := own_andN p 3 3 (by decide)
  have e : (1 : Int32).toInt = 1 := by decide
  rw [own_iadd (by omega), e, h]; omega
theorem own_nz (p : Int32) : (p &&& (3 : Int32)) + (1 : Int32) ≠ 0 := fun q => by
  have h := own_n4 p
  rw [q] at h
  have e : (0 : Int32).toInt = 0 := by decide
  omega
theorem own_md {x n : Int32} (hx : 0 ≤ x.toInt) (hn : 1 ≤ n.toInt) : 0 ≤ (x % n).toInt ∧ (x % n).toInt < n.toInt := by
  rw [own_irem hx (by omega)]
  exact ⟨Int.emod_nonneg _ (by omega), Int.emod_lt_of_pos _ (by omega)⟩
theorem own_nn (x m : Int32) (M : Nat) (h : m.toInt = (M : Int)) : 0 ≤ (x &&& m).toInt := by
  obtain ⟨n, q, -⟩ := own_andN x m M h
  omega
theorem own_hs (p x y z : Int32) : own_S ((p &&& (3 : Int32)) + (1 : Int32)) ((x &&& (2147483647 : Int32)) % ((p &&& (3 : Int32)) + (1 : Int32))) ((y &&& (8388607 : Int32)) % ((p &&& (3 : Int32)) + (1 : Int32))) ((z &&& (255 : Int32)) % ((p &&& (3 : Int32)) + (1 : Int32))) := by
  have h := own_n4 p
  exact ⟨h.1, h.2, own_md (own_nn _ _ 2147483647 (by decide)) h.1, own_md (own_nn _ _ 8388607 (by decide)) h.1, own_md (own_nn _ _ 255 (by decide)) h.1⟩
section
variable {nn r1 r2 oo : Int32}
theorem own_S.ng (hs : own_S nn r1 r2 oo) : ¬ nn < 0 := by
  rw [Int32.lt_iff_toInt_lt]; have e : (0 : Int32).toInt = 0 := by decide
  have := hs.1; omega
theorem own_S.cp (hs : own_S nn r1 r2 oo) : nn.toNatClampNeg ≤ 4 := by show nn.toInt.toNat ≤ 4; have := hs.2.1; omega
theorem own_inn {r n : Int32} (h : 0 ≤ r.toInt ∧ r.toInt < n.toInt) : ¬ r < 0 ∧ r < n := by
  rw [Int32.lt_iff_toInt_lt, Int32.lt_iff_toInt_lt]; have e : (0 : Int32).toInt = 0 := by decide
  omega
theorem own_S.in1 (hs : own_S nn r1 r2 oo) : ¬ r1 < 0 ∧ r1 < nn := own_inn hs.2.2.1
theorem own_S.in2 (hs : own_S nn r1 r2 oo) : ¬ r2 < 0 ∧ r2 < nn := own_inn hs.2.2.2.1
theorem own_S.in3 (hs : own_S nn r1 r2 oo) : ¬ oo < 0 ∧ oo < nn := own_inn hs.2.2.2.2
theorem own_S.lt1 (hs : own_S nn r1 r2 oo) {a b c d : Value} : r1.toNatClampNeg < [a, b, c, d].length := by show r1.toInt.toNat < 4; have := hs.2.1; have := hs.2.2.1; omega
theorem own_S.lt2 (hs : own_S nn r1 r2 oo) {a b c d : Value} : r2.toNatClampNeg < [a, b, c, d].length := by show r2.toInt.toNat < 4; have := hs.2.1; have := hs.2.2.2.1; omega
theorem own_ne {x y : Int32} (hx : 0 ≤ x.toInt) (hy : 0 ≤ y.toInt) (h : ¬ x = y) : y.toNatClampNeg ≠ x.toNatClampNeg := fun q => by
  have q' : y.toInt.toNat = x.toInt.toNat := q
  exact h (Int32.toInt_inj.mp (by omega))
theorem own_S.h2 (hs : own_S nn r1 r2 oo) (a : Int32) : ([.double (0 : UInt64), .double (0 : UInt64), .double (0 : UInt64), .double (0 : UInt64)].set r1.toNatClampNeg (.double (FP.dadd (0 : UInt64) (FP.i2d a)))).getD r2.toNatClampNeg (.double (0 : UInt64)) = Value.double (own_v r2 r1 a) := by
  unfold own_v
  by_cases h : r2 = r1
  · rw [if_pos h, h]; exact own_gs hs.lt1
  · rw [if_neg h]; exact own_gn (own_ne hs.2.2.2.1.1 hs.2.2.1.1 h) (own_g4 _ _)
theorem own_S.h2i (hs : own_S nn r1 r2 oo) : ([.int (0 : Int32), .int (0 : Int32), .int (0 : Int32), .int (0 : Int32)].set r1.toNatClampNeg (.int ((0 : Int32) + (1 : Int32)))).getD r2.toNatClampNeg (.int (0 : Int32)) = Value.int (own_v2 r2 r1) := by
  unfold own_v2
  by_cases h : r2 = r1
  · rw [if_pos h, h]; exact own_gs hs.lt1
  · rw [if_neg h]; exact own_gn (own_ne hs.2.2.2.1.1 hs.2.2.1.1 h) (own_g4 _ _)
theorem own_hx (hs : own_S nn r1 r2 oo) {x : Int32} (hx : 0 ≤ x.toInt ∧ x.toInt < nn.toInt) (a b : Int32) : (([.double (0 : UInt64), .double (0 : UInt64), .double (0 : UInt64), .double (0 : UInt64)].set r1.toNatClampNeg (.double (FP.dadd (0 : UInt64) (FP.i2d a)))).set r2.toNatClampNeg (.double (FP.dadd (own_v r2 r1 a) (FP.i2d b)))).getD x.toNatClampNeg (.double (0 : UInt64)) = Value.double (own_u x r1 r2 a b) := by
  unfold own_u own_v
  by_cases h2 : x = r2
  · subst h2
    rw [own_gs (own_ls hs.lt2), if_pos rfl]
    by_cases h1 : x = r1
    · rw [if_pos h1, if_pos h1]
    · rw [if_neg h1, if_neg h1, if_pos rfl]
  · rw [own_gn (own_ne hx.1 hs.2.2.2.1.1 h2) rfl]
    by_cases h1 : x = r1
    · rw [if_pos h1, if_neg h2]; subst h1; exact own_gs hs.lt1
    · rw [if_neg h1, if_neg h2]; exact own_gn (own_ne hx.1 hs.2.2.1.1 h1) (own_g4 _ _)
theorem own_hxi (hs : own_S nn r1 r2 oo) {x : Int32} (hx : 0 ≤ x.toInt ∧ x.toInt < nn.toInt) : (([.int (0 : Int32), .int (0 : Int32), .int (0 : Int32), .int (0 : Int32)].set r1.toNatClampNeg (.int ((0 : Int32) + (1 : Int32)))).set r2.toNatClampNeg (.int (own_v2 r2 r1 + (1 : Int32)))).getD x.toNatClampNeg (.int (0 : Int32)) = Value.int (own_c x r1 r2) := by
  unfold own_c own_v2
  by_cases h2 : x = r2
  · subst h2
    rw [own_gs (own_ls hs.lt2), if_pos rfl]
    by_cases h1 : x = r1
    · rw [if_pos h1, if_pos h1]
    · rw [if_neg h1, if_neg h1, if_pos rfl]
  · rw [own_gn (own_ne hx.1 hs.2.2.2.1.1 h2) rfl]
    by_cases h1 : x = r1
    · rw [if_pos h1, if_neg h2]; subst h1; exact own_gs hs.lt1
    · rw [if_neg h1, if_neg h2]; exact own_gn (own_ne hx.1 hs.2.2.1.1 h1) (own_g4 _ _)
theorem own_S.h3 (hs : own_S nn r1 r2 oo) (a b : Int32) : (([.double (0 : UInt64), .double (0 : UInt64), .double (0 : UInt64), .double (0 : UInt64)].set r1.toNatClampNeg (.double (FP.dadd (0 : UInt64) (FP.i2d a)))).set r2.toNatClampNeg (.double (FP.dadd (own_v r2 r1 a) (FP.i2d b)))).getD r1.toNatClampNeg (.double (0 : UInt64)) = Value.double (own_u r1 r1 r2 a b) := own_hx hs hs.2.2.1 a b
theorem own_S.h4 (hs : own_S nn r1 r2 oo) (a b : Int32) : (([.double (0 : UInt64), .double (0 : UInt64), .double (0 : UInt64), .double (0 : UInt64)].set r1.toNatClampNeg (.double (FP.dadd (0 : UInt64) (FP.i2d a)))).set r2.toNatClampNeg (.double (FP.dadd (own_v r2 r1 a) (FP.i2d b)))).getD oo.toNatClampNeg (.double (0 : UInt64)) = Value.double (own_u oo r1 r2 a b) := own_hx hs hs.2.2.2.2 a b
theorem own_S.h3i (hs : own_S nn r1 r2 oo) : (([.int (0 : Int32), .int (0 : Int32), .int (0 : Int32), .int (0 : Int32)].set r1.toNatClampNeg (.int ((0 : Int32) + (1 : Int32)))).set r2.toNatClampNeg (.int (own_v2 r2 r1 + (1 : Int32)))).getD r1.toNatClampNeg (.int (0 : Int32)) = Value.int (own_c r1 r1 r2) := own_hxi hs hs.2.2.1
theorem own_S.h4i (hs : own_S nn r1 r2 oo) : (([.int (0 : Int32), .int (0 : Int32), .int (0 : Int32), .int (0 : Int32)].set r1.toNatClampNeg (.int ((0 : Int32) + (1 : Int32)))).set r2.toNatClampNeg (.int (own_v2 r2 r1 + (1 : Int32)))).getD oo.toNatClampNeg (.int (0 : Int32)) = Value.int (own_c oo r1 r2) := own_hxi hs hs.2.2.2.2
end
end OwnPlain
theorem d1_0 : decode prog_47_method_1_code 0 = .ok (.aload_n 0, 1) := by decide +kernel
theorem d1_1 : decode prog_47_method_1_code 1 = .ok (.invokespecial 1, 3) := by decide +kernel
theorem d1_4 : decode prog_47_method_1_code 4 = .ok (.aload_n 0, 1) := by decide +kernel
theorem d1_5 : decode prog_47_method_1_code 5 = .ok (.dload_n 2, 1) := by decide +kernel
theorem d1_6 : decode prog_47_method_1_code 6 = .ok (.putfield 7, 3) := by decide +kernel
theorem d1_9 : decode prog_47_method_1_code 9 = .ok (.aload_n 0, 1) := by decide +kernel
theorem d1_10 : decode prog_47_method_1_code 10 = .ok (.iload_n 1, 1) := by decide +kernel
theorem d1_11 : decode prog_47_method_1_code 11 = .ok (.newarray .double, 2) := by decide +kernel
theorem d1_13 : decode prog_47_method_1_code 13 = .ok (.putfield 13, 3) := by decide +kernel
theorem d1_16 : decode prog_47_method_1_code 16 = .ok (.aload_n 0, 1) := by decide +kernel
theorem d1_17 : decode prog_47_method_1_code 17 = .ok (.iload_n 1, 1) := by decide +kernel
theorem d1_18 : decode prog_47_method_1_code 18 = .ok (.newarray .int, 2) := by decide +kernel
theorem d1_20 : decode prog_47_method_1_code 20 = .ok (.putfield 17, 3) := by decide +kernel
theorem d1_23 : decode prog_47_method_1_code 23 = .ok (.aload_n 0, 1) := by decide +kernel
theorem d1_24 : decode prog_47_method_1_code 24 = .ok (.iload_n 1, 1) := by decide +kernel
theorem d1_25 : decode prog_47_method_1_code 25 = .ok (.newarray .double, 2) := by decide +kernel
theorem d1_27 : decode prog_47_method_1_code 27 = .ok (.putfield 21, 3) := by decide +kernel
theorem d1_30 : decode prog_47_method_1_code 30 = .ok (.return_, 1) := by decide +kernel
theorem pn1 : plainName "com/example/merkmal/merkmal/rank/QueryMatch" = true := by first | (simp [plainName, overriddenIn]; done) | decide +kernel
theorem ef1 (m : MethodId) (a0 : Addr) (p1 : Int32) (d2 : UInt64) : entryFrame m #[(.ref a0), (.int p1), (.double d2)] 4 = mkF m 0 #[.val (.ref a0), .val (.int p1), .val (.double d2), .second] [] := by first | (simp [entryFrame, mkF, argsToLocals, Value.category]; done) | rfl
def Q1 (Z : State) (a0 : Addr) (p1 : Int32) (d2 : UInt64) (u_queryLength_a0 : Value) (u_termSums_a0 : Value) (u_termsHeld_a0 : Value) (u_queryCountsHeld_a0 : Value) (h0 : Heap) (n0 : Nat) (v : Option Value) (h : Heap) (L : List Loc) : Prop := ∃ (x0 : Addr) (x1 : Addr) (x2 : Addr) (kx_x0 : ClassId) (kx_x1 : ClassId) (kx_x2 : ClassId), v = none ∧ Fr n0 L ∧ Keep h0 h [a0] ∧ h0.size ≤ x0 ∧ h0.size ≤ x1 ∧ h0.size ≤ x2 ∧ x0 ≠ x1 ∧ x0 ≠ x2 ∧ x1 ≠ x2 ∧ Exa Z h a0 "com/example/merkmal/merkmal/rank/QueryMatch" ∧ Fld Z h a0 "com/example/merkmal/merkmal/rank/QueryMatch" "queryLength" "D" (.double d2) ∧ Fld Z h a0 "com/example/merkmal/merkmal/rank/QueryMatch" "termSums" "[D" (.ref x0) ∧ Fld Z h a0 "com/example/merkmal/merkmal/rank/QueryMatch" "termsHeld" "[I" (.ref x1) ∧ Fld Z h a0 "com/example/merkmal/merkmal/rank/QueryMatch" "queryCountsHeld" "[D" (.ref x2) ∧ Arv Z h x0 kx_x0 .double p1 [(.double (0 : UInt64)), (.double (0 : UInt64)), (.double (0 : UInt64)), (.double (0 : UInt64))] (.double (0 : UInt64)) ∧ Arv Z h x1 kx_x1 .int p1 [(.int (0 : Int32)), (.int (0 : Int32)), (.int (0 : Int32)), (.int (0 : Int32))] (.int (0 : Int32)) ∧ Arv Z h x2 kx_x2 .double p1 [(.double (0 : UInt64)), (.double (0 : UInt64)), (.double (0 : UInt64)), (.double (0 : UInt64))] (.double (0 : UInt64))
set_option maxRecDepth 65536 in
set_option maxHeartbeats 40000000 in
theorem rm1 (l : Launch) (Z : State) (ar : Array Value) (hw : ∀ d ∈ tables_1, d.before ar Z = true) (ws : List Jvm.Cond) (a0 : Addr) (p1 : Int32) (d2 : UInt64) (u_queryLength_a0 : Value) (u_termSums_a0 : Value) (u_termsHeld_a0 : Value) (u_queryCountsHeld_a0 : Value) (h0 : Heap) (n0 : Nat) (Z0 : n0 ≤ h0.size) (E_a0 : Exa Z h0 a0 "com/example/merkmal/merkmal/rank/QueryMatch") (F_queryLength_a0 : Fld Z h0 a0 "com/example/merkmal/merkmal/rank/QueryMatch" "queryLength" "D" u_queryLength_a0) (F_termSums_a0 : Fld Z h0 a0 "com/example/merkmal/merkmal/rank/QueryMatch" "termSums" "[D" u_termSums_a0) (F_termsHeld_a0 : Fld Z h0 a0 "com/example/merkmal/merkmal/rank/QueryMatch" "termsHeld" "[I" u_termsHeld_a0) (F_queryCountsHeld_a0 : Fld Z h0 a0 "com/example/merkmal/merkmal/rank/QueryMatch" "queryCountsHeld" "[D" u_queryCountsHeld_a0) (g_a0 : n0 ≤ a0) (hng : ¬ p1 < 0) (hcp : (p1).toNatClampNeg ≤ 4) :
    MetFree l (⟨"com/example/merkmal/merkmal/rank/QueryMatch", "<init>", "(ID)V"⟩ : MethodName) (head1 (Jvm.Cond.code (⟨"com/example/merkmal/merkmal/rank/QueryMatch", "<init>", "(ID)V"⟩ : MethodName) prog_47_method_1_code 4 none :: ws) ({ frames := 1, cells := 3, slots := 12, locals := 12 } : Room)) (fun a U => a = #[(.ref a0), (.int p1), (.double d2)] ∧ Z.Warmed39 U.vm ∧ U.heap = h0) (fun _ _ _ _ _ => True) (fun _ U o U' => ∃ v L, o = .returned v ∧ Q1 Z a0 p1 d2 u_queryLength_a0 u_termSums_a0 u_termsHeld_a0 u_queryCountsHeld_a0 h0 n0 v U'.heap L ∧ FrameEnd U o U' L ({ frames := 1, cells := 3, slots := 12, locals := 12 } : Room).cells ({ frames := 1, cells := 3, slots := 12, locals := 12 } : Room).slots) := by
  refine MetFree.of_bodySF (plainFor_of_name pn1) hisR ?_
  intro p e s m args below meth c s₁ Bd hml0 hP hK
  obtain ⟨rfl, hZ, hh⟩ := hP
  have hx := Bd.exec
  have hby := Bd.bytes
  have hlk := Bd.notSynchronized
  have hml : c.maxLocals = 4 := hml0
  have hown : s.vm.findClass "com/example/merkmal/merkmal/rank/QueryMatch" = some m.cls := findClass_of_methodNamed Bd.named
  have hnm := (name_of_methodNamed Bd.named Bd.method).1
  have X0 : Stand p l e ({ frames := 1, cells := 3, slots := 12, locals := 12 } : Room) s m #[(.ref a0), (.int p1), (.double d2)] below meth c s₁ [] 0 0 := Stand.of_body Bd
  have e0 : s₁.heap = h0 := by rw [← hh, Bd.state]; rfl
  have N0 := Fr.nil n0
  have K0 := Keep.refl h0 [a0]
  refine own_enter (Q := Q1 Z a0 p1 d2 u_queryLength_a0 u_termSums_a0 u_termsHeld_a0 u_queryCountsHeld_a0 h0 n0) (ef1 m a0 p1 d2) ?_
  refine own_st (T' := s₁) (g' := (mkF m 1 #[.val (.ref a0), .val (.int p1), .val (.double d2), .second] [(.ref a0)])) (fun t k => ?_) ?_
  · show Steps p.tables e below (s₁.setTop (mkF m 0 #[.val (.ref a0), .val (.int p1), .val (.double d2), .second] [])) t
    refine XS.aloadN X0.here hx rfl (hb hby d1_0) rfl rfl ?_
    exact k
  obtain ⟨T1, X1, e1, st1⟩ := initO X0 hx hZ hown (hw _ (List.mem_of_getElem? (i := 8) rfl)) (hw _ (List.mem_of_getElem? (i := 9) rfl)) (hw _ (List.mem_of_getElem? (i := 10) rfl)) e0 (g := (mkF m 1 #[.val (.ref a0), .val (.int p1), .val (.double d2), .second] [(.ref a0)])) rfl (by rw [hml]; rfl) rfl (hb hby d1_1) (by decide) (W := 0) (by show 2 * 0 + _ ≤ _; exact Nat.le_of_eq rfl) (by decide)
  refine own_st (T' := T1) (g' := (mkF m 4 #[.val (.ref a0), .val (.int p1), .val (.double d2), .second] [])) st1 ?_
  refine own_st (T' := T1) (g' := (mkF m 6 #[.val (.ref a0), .val (.int p1), .val (.double d2), .second] [(.double d2), (.ref a0)])) (fun t k => ?_) ?_
  · show Steps p.tables e below (T1.setTop (mkF m 4 #[.val (.ref a0), .val (.int p1), .val (.double d2), .second] [])) t
    refine XS.aloadN X1.here hx rfl (hb hby d1_4) rfl rfl ?_
    show Steps p.tables e below (T1.setTop (mkF m 5 #[.val (.ref a0), .val (.int p1), .val (.double d2), .second] [(.ref a0)])) t
    refine XS.dloadN X1.here hx rfl (hb hby d1_5) rfl ?_
    exact k
  obtain ⟨T2, h2, X2, e2, W2, st2⟩ := putF X1 hx hZ hown (host := "") (Or.inl (hw _ (List.mem_of_getElem? (i := 11) rfl))) Via.refl e1 F_queryLength_a0 E_a0 (Or.inr ⟨(hw _ (List.mem_of_getElem? (i := 12) rfl)), rfl, hnm⟩) (hw _ (List.mem_of_getElem? (i := 3) rfl)) (ty := .double) (by decide) rfl rfl (g := (mkF m 6 #[.val (.ref a0), .val (.int p1), .val (.double d2), .second] [(.double d2), (.ref a0)])) rfl rfl (hb hby d1_6)
  have f3 := E_a0.wr W2
  have f4 := F_queryLength_a0.same W2
  have f5 := F_termSums_a0.other W2 (Or.inr (slot_ne (Or.inr (hw _ (List.mem_of_getElem? (i := 15) rfl))) (Or.inr (hw _ (List.mem_of_getElem? (i := 12) rfl))) (by decide) (t := (.array .double)) (t' := .double) (by decide) (by decide)))
  have f6 := F_termsHeld_a0.other W2 (Or.inr (slot_ne (Or.inr (hw _ (List.mem_of_getElem? (i := 18) rfl))) (Or.inr (hw _ (List.mem_of_getElem? (i := 12) rfl))) (by decide) (t := (.array .int)) (t' := .double) (by decide) (by decide)))
  have f7 := F_queryCountsHeld_a0.other W2 (Or.inr (slot_ne (Or.inr (hw _ (List.mem_of_getElem? (i := 20) rfl))) (Or.inr (hw _ (List.mem_of_getElem? (i := 12) rfl))) (by decide) (t := (.array .double)) (t' := .double) (by decide) (by decide)))
  have z8 := Nat.le_trans Z0 (Keep.of_wr W2).1
  have k9 := K0.wr W2 (Or.inl (List.mem_of_getElem? (i := 0) rfl))
  have n10 := Fr.snoc X2 N0 g_a0
  refine own_st (T' := T2) (g' := (mkF m 9 #[.val (.ref a0), .val (.int p1), .val (.double d2), .second] [])) st2 ?_
  refine own_st (T' := T2) (g' := (mkF m 11 #[.val (.ref a0), .val (.int p1), .val (.double d2), .second] [(.int p1), (.ref a0)])) (fun t k => ?_) ?_
  · show Steps p.tables e below (T2.setTop (mkF m 9 #[.val (.ref a0), .val (.int p1), .val (.double d2), .second] [])) t
    refine XS.aloadN X2.here hx rfl (hb hby d1_9) rfl rfl ?_
    show Steps p.tables e below (T2.setTop (mkF m 10 #[.val (.ref a0), .val (.int p1), .val (.double d2), .second] [(.ref a0)])) t
    refine XS.iloadN X2.here hx rfl (hb hby d1_10) rfl ?_
    exact k
  obtain ⟨T11, h11, k11, X11, e11, E11, A11, st11⟩ := newP X2 hx hZ (hw _ (List.mem_of_getElem? (i := 13) rfl)) e2 (g := (mkF m 11 #[.val (.ref a0), .val (.int p1), .val (.double d2), .second] [(.int p1), (.ref a0)])) rfl (hb hby d1_11) rfl hng (cap := 4) hcp (by decide) (by decide) (by decide)
  obtain ⟨b11, g11⟩ : ∃ z, z = h2.size := ⟨_, rfl⟩
  rw [← g11] at A11 st11
  have ne_a0_b11 : a0 ≠ b11 := Nat.ne_of_lt (Nat.lt_of_lt_of_le f3.lt (Nat.le_of_eq g11.symm))
  have g_b11 : n0 ≤ b11 := Nat.le_trans z8 (Nat.le_of_eq g11.symm)
  have sz_b11 : h0.size ≤ b11 := Nat.le_trans k9.1 (Nat.le_of_eq g11.symm)
  have f12 := f3.ext E11
  have f13 := f4.ext E11
  have f14 := f5.ext E11
  have f15 := f6.ext E11
  have f16 := f7.ext E11
  have z17 := Nat.le_trans z8 E11.1
  have k18 := k9.ext E11
  have v19 : Arv Z h11 b11 k11 .double p1 [(.double (0 : UInt64)), (.double (0 : UInt64)), (.double (0 : UInt64)), (.double (0 : UInt64))] (.double (0 : UInt64)) := (Arv.new A11 hng).pad (pad_rep [] (.double (0 : UInt64)) 4)
  refine own_st (T' := T11) (g' := (mkF m 13 #[.val (.ref a0), .val (.int p1), .val (.double d2), .second] [(.ref b11), (.ref a0)])) st11 ?_
  obtain ⟨T20, h20, X20, e20, W20, st20⟩ := putF X11 hx hZ hown (host := "") (Or.inl (hw _ (List.mem_of_getElem? (i := 14) rfl))) Via.refl e11 f14 f12 (Or.inr ⟨(hw _ (List.mem_of_getElem? (i := 15) rfl)), rfl, hnm⟩) (hw _ (List.mem_of_getElem? (i := 3) rfl)) (ty := (.array .double)) (by decide) rfl rfl (g := (mkF m 13 #[.val (.ref a0), .val (.int p1), .val (.double d2), .second] [(.ref b11), (.ref a0)])) rfl rfl (hb hby d1_13)
  have f21 := f12.wr W20
  have f22 := f13.other W20 (Or.inr (slot_ne (Or.inr (hw _ (List.mem_of_getElem? (i := 12) rfl))) (Or.inr (hw _ (List.mem_of_getElem? (i := 15) rfl))) (by decide) (t := .double) (t' := (.array .double)) (by decide) (by decide)))
  have f23 := f14.same W20
  have f24 := f15.other W20 (Or.inr (slot_ne (Or.inr (hw _ (List.mem_of_getElem? (i := 18) rfl))) (Or.inr (hw _ (List.mem_of_getElem? (i := 15) rfl))) (by decide) (t := (.array .int)) (t' := (.array .double)) (by decide) (by decide)))
  have f25 := f16.other W20 (Or.inr (slot_ne (Or.inr (hw _ (List.mem_of_getElem? (i := 20) rfl))) (Or.inr (hw _ (List.mem_of_getElem? (i := 15) rfl))) (by decide) (t := (.array .double)) (t' := (.array .double)) (by decide) (by decide)))
  have f26 := v19.other W20 (Ne.symm ne_a0_b11)
  have z27 := Nat.le_trans z17 (Keep.of_wr W20).1
  have k28 := k18.wr W20 (Or.inl (List.mem_of_getElem? (i := 0) rfl))
  have n29 := Fr.snoc X20 n10 g_a0
  refine own_st (T' := T20) (g' := (mkF m 16 #[.val (.ref a0), .val (.int p1), .val (.double d2), .second] [])) st20 ?_
  refine own_st (T' := T20) (g' := (mkF m 18 #[.val (.ref a0), .val (.int p1), .val (.double d2), .second] [(.int p1), (.ref a0)])) (fun t k => ?_) ?_
  · show Steps p.tables e below (T20.setTop (mkF m 16 #[.val (.ref a0), .val (.int p1), .val (.double d2), .second] [])) t
    refine XS.aloadN X20.here hx rfl (hb hby d1_16) rfl rfl ?_
    show Steps p.tables e below (T20.setTop (mkF m 17 #[.val (.ref a0), .val (.int p1), .val (.double d2), .second] [(.ref a0)])) t
    refine XS.iloadN X20.here hx rfl (hb hby d1_17) rfl ?_
    exact k
  obtain ⟨T30, h30, k30, X30, e30, E30, A30, st30⟩ := newP X20 hx hZ (hw _ (List.mem_of_getElem? (i := 16) rfl)) e20 (g := (mkF m 18 #[.val (.ref a0), .val (.int p1), .val (.double d2), .second] [(.int p1), (.ref a0)])) rfl (hb hby d1_18) rfl hng (cap := 4) hcp (by decide) (by decide) (by decide)
  obtain ⟨b30, g30⟩ : ∃ z, z = h20.size := ⟨_, rfl⟩
  rw [← g30] at A30 st30
  have ne_a0_b30 : a0 ≠ b30 := Nat.ne_of_lt (Nat.lt_of_lt_of_le f21.lt (Nat.le_of_eq g30.symm))
  have ne_b11_b30 : b11 ≠ b30 := Nat.ne_of_lt (Nat.lt_of_lt_of_le f26.lt (Nat.le_of_eq g30.symm))
  have g_b30 : n0 ≤ b30 := Nat.le_trans z27 (Nat.le_of_eq g30.symm)
  have sz_b30 : h0.size ≤ b30 := Nat.le_trans k28.1 (Nat.le_of_eq g30.symm)
  have f31 := f21.ext E30
  have f32 := f22.ext E30
  have f33 := f23.ext E30
  have f34 := f24.ext E30
  have f35 := f25.ext E30
  have f36 := f26.ext E30
  have z37 := Nat.le_trans z27 E30.1
  have k38 := k28.ext E30
  have v39 : Arv Z h30 b30 k30 .int p1 [(.int (0 : Int32)), (.int (0 : Int32)), (.int (0 : Int32)), (.int (0 : Int32))] (.int (0 : Int32)) := (Arv.new A30 hng).pad (pad_rep [] (.int (0 : Int32)) 4)
  refine own_st (T' := T30) (g' := (mkF m 20 #[.val (.ref a0), .val (.int p1), .val (.double d2), .second] [(.ref b30), (.ref a0)])) st30 ?_
  obtain ⟨T40, h40, X40, e40, W40, st40⟩ := putF X30 hx hZ hown (host := "") (Or.inl (hw _ (List.mem_of_getElem? (i := 17) rfl))) Via.refl e30 f34 f31 (Or.inr ⟨(hw _ (List.mem_of_getElem? (i := 18) rfl)), rfl, hnm⟩) (hw _ (List.mem_of_getElem? (i := 3) rfl)) (ty := (.array .int)) (by decide) rfl rfl (g := (mkF m 20 #[.val (.ref a0), .val (.int p1), .val (.double d2), .second] [(.ref b30), (.ref a0)])) rfl rfl (hb hby d1_20)
  have f41 := f31.wr W40
  have f42 := f32.other W40 (Or.inr (slot_ne (Or.inr (hw _ (List.mem_of_getElem? (i := 12) rfl))) (Or.inr (hw _ (List.mem_of_getElem? (i := 18) rfl))) (by decide) (t := .double) (t' := (.array .int)) (by decide) (by decide)))
  have f43 := f33.other W40 (Or.inr (slot_ne (Or.inr (hw _ (List.mem_of_getElem? (i := 15) rfl))) (Or.inr (hw _ (List.mem_of_getElem? (i := 18) rfl))) (by decide) (t := (.array .double)) (t' := (.array .int)) (by decide) (by decide)))
  have f44 := f34.same W40
  have f45 := f35.other W40 (Or.inr (slot_ne (Or.inr (hw _ (List.mem_of_getElem? (i := 20) rfl))) (Or.inr (hw _ (List.mem_of_getElem? (i := 18) rfl))) (by decide) (t := (.array .double)) (t' := (.array .int)) (by decide) (by decide)))
  have f46 := f36.other W40 (Ne.symm ne_a0_b11)
  have f47 := v39.other W40 (Ne.symm ne_a0_b30)
  have z48 := Nat.le_trans z37 (Keep.of_wr W40).1
  have k49 := k38.wr W40 (Or.inl (List.mem_of_getElem? (i := 0) rfl))
  have n50 := Fr.snoc X40 n29 g_a0
  refine own_st (T' := T40) (g' := (mkF m 23 #[.val (.ref a0), .val (.int p1), .val (.double d2), .second] [])) st40 ?_
  refine own_st (T' := T40) (g' := (mkF m 25 #[.val (.ref a0), .val (.int p1), .val (.double d2), .second] [(.int p1), (.ref a0)])) (fun t k => ?_) ?_
  · show Steps p.tables e below (T40.setTop (mkF m 23 #[.val (.ref a0), .val (.int p1), .val (.double d2), .second] [])) t
    refine XS.aloadN X40.here hx rfl (hb hby d1_23) rfl rfl ?_
    show Steps p.tables e below (T40.setTop (mkF m 24 #[.val (.ref a0), .val (.int p1), .val (.double d2), .second] [(.ref a0)])) t
    refine XS.iloadN X40.here hx rfl (hb hby d1_24) rfl ?_
    exact k
  obtain ⟨T51, h51, k51, X51, e51, E51, A51, st51⟩ := newP X40 hx hZ (hw _ (List.mem_of_getElem? (i := 13) rfl)) e40 (g := (mkF m 25 #[.val (.ref a0), .val (.int p1), .val (.double d2), .second] [(.int p1), (.ref a0)])) rfl (hb hby d1_25) rfl hng (cap := 4) hcp (by decide) (by decide) (by decide)
  obtain ⟨b51, g51⟩ : ∃ z, z = h40.size := ⟨_, rfl⟩
  rw [← g51] at A51 st51
  have ne_a0_b51 : a0 ≠ b51 := Nat.ne_of_lt (Nat.lt_of_lt_of_le f41.lt (Nat.le_of_eq g51.symm))
  have ne_b11_b51 : b11 ≠ b51 := Nat.ne_of_lt (Nat.lt_of_lt_of_le f46.lt (Nat.le_of_eq g51.symm))
  have ne_b30_b51 : b30 ≠ b51 := Nat.ne_of_lt (Nat.lt_of_lt_of_le f47.lt (Nat.le_of_eq g51.symm))
  have g_b51 : n0 ≤ b51 := Nat.le_trans z48 (Nat.le_of_eq g51.symm)
  have sz_b51 : h0.size ≤ b51 := Nat.le_trans k49.1 (Nat.le_of_eq g51.symm)
  have f52 := f41.ext E51
  have f53 := f42.ext E51
  have f54 := f43.ext E51
  have f55 := f44.ext E51
  have f56 := f45.ext E51
  have f57 := f46.ext E51
  have f58 := f47.ext E51
  have z59 := Nat.le_trans z48 E51.1
  have k60 := k49.ext E51
  have v61 : Arv Z h51 b51 k51 .double p1 [(.double (0 : UInt64)), (.double (0 : UInt64)), (.double (0 : UInt64)), (.double (0 : UInt64))] (.double (0 : UInt64)) := (Arv.new A51 hng).pad (pad_rep [] (.double (0 : UInt64)) 4)
  refine own_st (T' := T51) (g' := (mkF m 27 #[.val (.ref a0), .val (.int p1), .val (.double d2), .second] [(.ref b51), (.ref a0)])) st51 ?_
  obtain ⟨T62, h62, X62, e62, W62, st62⟩ := putF X51 hx hZ hown (host := "") (Or.inl (hw _ (List.mem_of_getElem? (i := 19) rfl))) Via.refl e51 f56 f52 (Or.inr ⟨(hw _ (List.mem_of_getElem? (i := 20) rfl)), rfl, hnm⟩) (hw _ (List.mem_of_getElem? (i := 3) rfl)) (ty := (.array .double)) (by decide) rfl rfl (g := (mkF m 27 #[.val (.ref a0), .val (.int p1), .val (.double d2), .second] [(.ref b51), (.ref a0)])) rfl rfl (hb hby d1_27)
  have f63 := f52.wr W62
  have f64 := f53.other W62 (Or.inr (slot_ne (Or.inr (hw _ (List.mem_of_getElem? (i := 12) rfl))) (Or.inr (hw _ (List.mem_of_getElem? (i := 20) rfl))) (by decide) (t := .double) (t' := (.array .double)) (by decide) (by decide)))
  have f65 := f54.other W62 (Or.inr (slot_ne (Or.inr (hw _ (List.mem_of_getElem? (i := 15) rfl))) (Or.inr (hw _ (List.mem_of_getElem? (i := 20) rfl))) (by decide) (t := (.array .double)) (t' := (.array .double)) (by decide) (by decide)))
  have f66 := f55.other W62 (Or.inr (slot_ne (Or.inr (hw _ (List.mem_of_getElem? (i := 18) rfl))) (Or.inr (hw _ (List.mem_of_getElem? (i := 20) rfl))) (by decide) (t := (.array .int)) (t' := (.array .double)) (by decide) (by decide)))
  have f67 := f56.same W62
  have f68 := f57.other W62 (Ne.symm ne_a0_b11)
  have f69 := f58.other W62 (Ne.symm ne_a0_b30)
  have f70 := v61.other W62 (Ne.symm ne_a0_b51)
  have z71 := Nat.le_trans z59 (Keep.of_wr W62).1
  have k72 := k60.wr W62 (Or.inl (List.mem_of_getElem? (i := 0) rfl))
  have n73 := Fr.snoc X62 n50 g_a0
  refine own_st (T' := T62) (g' := (mkF m 30 #[.val (.ref a0), .val (.int p1), .val (.double d2), .second] [])) st62 ?_
  refine own_retV X62 hx hlk Bd.returns (hb hby d1_30) (by decide) (by decide) ?_
  show Q1 Z a0 p1 d2 u_queryLength_a0 u_termSums_a0 u_termsHeld_a0 u_queryCountsHeld_a0 h0 n0 none T62.heap _
  rw [(e62 : T62.heap = h62)]
  exact ⟨b11, b30, b51, k11, k30, k51, rfl, n73, k72, sz_b11, sz_b30, sz_b51, ne_b11_b30, ne_b11_b51, ne_b30_b51, f63, f64, f65, f66, f67, f68, f69, f70⟩
theorem d3_0 : decode prog_47_method_3_code 0 = .ok (.aload_n 0, 1) := by decide +kernel
theorem d3_1 : decode prog_47_method_3_code 1 = .ok (.getfield 13, 3) := by decide +kernel
theorem d3_4 : decode prog_47_method_3_code 4 = .ok (.iload_n 1, 1) := by decide +kernel
theorem d3_5 : decode prog_47_method_3_code 5 = .ok (.dup2, 1) := by decide +kernel
theorem d3_6 : decode prog_47_method_3_code 6 = .ok (.daload, 1) := by decide +kernel
theorem d3_7 : decode prog_47_method_3_code 7 = .ok (.dload_n 2, 1) := by decide +kernel
theorem d3_8 : decode prog_47_method_3_code 8 = .ok (.dadd, 1) := by decide +kernel
theorem d3_9 : decode prog_47_method_3_code 9 = .ok (.dastore, 1) := by decide +kernel
theorem d3_10 : decode prog_47_method_3_code 10 = .ok (.aload_n 0, 1) := by decide +kernel
theorem d3_11 : decode prog_47_method_3_code 11 = .ok (.getfield 17, 3) := by decide +kernel
theorem d3_14 : decode prog_47_method_3_code 14 = .ok (.iload_n 1, 1) := by decide +kernel
theorem d3_15 : decode prog_47_method_3_code 15 = .ok (.dup2, 1) := by decide +kernel
theorem d3_16 : decode prog_47_method_3_code 16 = .ok (.iaload, 1) := by decide +kernel
theorem d3_17 : decode prog_47_method_3_code 17 = .ok (.iconst 1, 1) := by decide +kernel
theorem d3_18 : decode prog_47_method_3_code 18 = .ok (.iadd, 1) := by decide +kernel
theorem d3_19 : decode prog_47_method_3_code 19 = .ok (.iastore, 1) := by decide +kernel
theorem d3_20 : decode prog_47_method_3_code 20 = .ok (.aload_n 0, 1) := by decide +kernel
theorem d3_21 : decode prog_47_method_3_code 21 = .ok (.getfield 21, 3) := by decide +kernel
theorem d3_24 : decode prog_47_method_3_code 24 = .ok (.iload_n 1, 1) := by decide +kernel
theorem d3_25 : decode prog_47_method_3_code 25 = .ok (.dup2, 1) := by decide +kernel
theorem d3_26 : decode prog_47_method_3_code 26 = .ok (.daload, 1) := by decide +kernel
theorem d3_27 : decode prog_47_method_3_code 27 = .ok (.dload 4, 2) := by decide +kernel
theorem d3_29 : decode prog_47_method_3_code 29 = .ok (.dadd, 1) := by decide +kernel
theorem d3_30 : decode prog_47_method_3_code 30 = .ok (.dastore, 1) := by decide +kernel
theorem d3_31 : decode prog_47_method_3_code 31 = .ok (.return_, 1) := by decide +kernel
theorem pn3 : plainName "com/example/merkmal/merkmal/rank/QueryMatch" = true := by first | (simp [plainName, overriddenIn]; done) | decide +kernel
theorem ef3 (m : MethodId) (a0 : Addr) (p1 : Int32) (d2 : UInt64) (d3 : UInt64) : entryFrame m #[(.ref a0), (.int p1), (.double d2), (.double d3)] 6 = mkF m 0 #[.val (.ref a0), .val (.int p1), .val (.double d2), .second, .val (.double d3), .second] [] := by first | (simp [entryFrame, mkF, argsToLocals, Value.category]; done) | rfl
def Q3 (Z : State) (a0 : Addr) (p1 : Int32) (d2 : UInt64) (d3 : UInt64) (w_termSums_a0 : Addr) (kk_w_termSums_a0 : ClassId) (z_w_termSums_a0 : Int32) (vs_w_termSums_a0 : List Value) (dv_w_termSums_a0 : Value) (w_termsHeld_a0 : Addr) (kk_w_termsHeld_a0 : ClassId) (z_w_termsHeld_a0 : Int32) (vs_w_termsHeld_a0 : List Value) (dv_w_termsHeld_a0 : Value) (w_queryCountsHeld_a0 : Addr) (kk_w_queryCountsHeld_a0 : ClassId) (z_w_queryCountsHeld_a0 : Int32) (vs_w_queryCountsHeld_a0 : List Value) (dv_w_queryCountsHeld_a0 : Value) (y6 : UInt64) (y16 : Int32) (y26 : UInt64) (h0 : Heap) (n0 : Nat) (v : Option Value) (h : Heap) (L : List Loc) : Prop := v = none ∧ Fr n0 L ∧ Keep h0 h [w_termSums_a0, w_termsHeld_a0, w_queryCountsHeld_a0] ∧ Arv Z h w_termSums_a0 kk_w_termSums_a0 .double z_w_termSums_a0 (vs_w_termSums_a0.set (p1).toNatClampNeg (.double (FP.dadd y6 d2))) dv_w_termSums_a0 ∧ Arv Z h w_termsHeld_a0 kk_w_termsHeld_a0 .int z_w_termsHeld_a0 (vs_w_termsHeld_a0.set (p1).toNatClampNeg (.int (y16 + (1 : Int32)))) dv_w_termsHeld_a0 ∧ Arv Z h w_queryCountsHeld_a0 kk_w_queryCountsHeld_a0 .double z_w_queryCountsHeld_a0 (vs_w_queryCountsHeld_a0.set (p1).toNatClampNeg (.double (FP.dadd y26 d3))) dv_w_queryCountsHeld_a0
set_option maxRecDepth 65536 in
set_option maxHeartbeats 40000000 in
theorem rm3 (l : Launch) (Z : State) (ar : Array Value) (hw : ∀ d ∈ tables_1, d.before ar Z = true) (ws : List Jvm.Cond) (a0 : Addr) (p1 : Int32) (d2 : UInt64) (d3 : UInt64) (w_termSums_a0 : Addr) (kk_w_termSums_a0 : ClassId) (z_w_termSums_a0 : Int32) (vs_w_termSums_a0 : List Value) (dv_w_termSums_a0 : Value) (w_termsHeld_a0 : Addr) (kk_w_termsHeld_a0 : ClassId) (z_w_termsHeld_a0 : Int32) (vs_w_termsHeld_a0 : List Value) (dv_w_termsHeld_a0 : Value) (w_queryCountsHeld_a0 : Addr) (kk_w_queryCountsHeld_a0 : ClassId) (z_w_queryCountsHeld_a0 : Int32) (vs_w_queryCountsHeld_a0 : List Value) (dv_w_queryCountsHeld_a0 : Value) (y6 : UInt64) (y16 : Int32) (y26 : UInt64) (h0 : Heap) (n0 : Nat) (Z0 : n0 ≤ h0.size) (E_a0 : Exa Z h0 a0 "com/example/merkmal/merkmal/rank/QueryMatch") (F_termSums_a0 : Fld Z h0 a0 "com/example/merkmal/merkmal/rank/QueryMatch" "termSums" "[D" (.ref w_termSums_a0)) (V_w_termSums_a0 : Arv Z h0 w_termSums_a0 kk_w_termSums_a0 .double z_w_termSums_a0 vs_w_termSums_a0 dv_w_termSums_a0) (F_termsHeld_a0 : Fld Z h0 a0 "com/example/merkmal/merkmal/rank/QueryMatch" "termsHeld" "[I" (.ref w_termsHeld_a0)) (V_w_termsHeld_a0 : Arv Z h0 w_termsHeld_a0 kk_w_termsHeld_a0 .int z_w_termsHeld_a0 vs_w_termsHeld_a0 dv_w_termsHeld_a0) (F_queryCountsHeld_a0 : Fld Z h0 a0 "com/example/merkmal/merkmal/rank/QueryMatch" "queryCountsHeld" "[D" (.ref w_queryCountsHeld_a0)) (V_w_queryCountsHeld_a0 : Arv Z h0 w_queryCountsHeld_a0 kk_w_queryCountsHeld_a0 .double z_w_queryCountsHeld_a0 vs_w_queryCountsHeld_a0 dv_w_queryCountsHeld_a0) (hin6 : ¬ p1 < 0 ∧ p1 < z_w_termSums_a0) (hat6 : vs_w_termSums_a0.getD (p1).toNatClampNeg dv_w_termSums_a0 = (.double y6)) (hn8 : Jvm.Free.Fl.NoNaN64 (FP.dadd y6 d2)) (hle_vs_w_termSums_a0 : (p1).toNatClampNeg < (vs_w_termSums_a0).length) (ne_a0_w_termSums_a0 : a0 ≠ w_termSums_a0) (ne_w_termsHeld_a0_w_termSums_a0 : w_termsHeld_a0 ≠ w_termSums_a0) (ne_w_queryCountsHeld_a0_w_termSums_a0 : w_queryCountsHeld_a0 ≠ w_termSums_a0) (g_w_termSums_a0 : n0 ≤ w_termSums_a0) (hin16 : ¬ p1 < 0 ∧ p1 < z_w_termsHeld_a0) (hat16 : vs_w_termsHeld_a0.getD (p1).toNatClampNeg dv_w_termsHeld_a0 = (.int y16)) (hle_vs_w_termsHeld_a0 : (p1).toNatClampNeg < (vs_w_termsHeld_a0).length) (ne_a0_w_termsHeld_a0 : a0 ≠ w_termsHeld_a0) (ne_w_termSums_a0_w_termsHeld_a0 : w_termSums_a0 ≠ w_termsHeld_a0) (ne_w_queryCountsHeld_a0_w_termsHeld_a0 : w_queryCountsHeld_a0 ≠ w_termsHeld_a0) (g_w_termsHeld_a0 : n0 ≤ w_termsHeld_a0) (hin26 : ¬ p1 < 0 ∧ p1 < z_w_queryCountsHeld_a0) (hat26 : vs_w_queryCountsHeld_a0.getD (p1).toNatClampNeg dv_w_queryCountsHeld_a0 = (.double y26)) (hn29 : Jvm.Free.Fl.NoNaN64 (FP.dadd y26 d3)) (hle_vs_w_queryCountsHeld_a0 : (p1).toNatClampNeg < (vs_w_queryCountsHeld_a0).length) (ne_a0_w_queryCountsHeld_a0 : a0 ≠ w_queryCountsHeld_a0) (ne_w_termSums_a0_w_queryCountsHeld_a0 : w_termSums_a0 ≠ w_queryCountsHeld_a0) (ne_w_termsHeld_a0_w_queryCountsHeld_a0 : w_termsHeld_a0 ≠ w_queryCountsHeld_a0) (g_w_queryCountsHeld_a0 : n0 ≤ w_queryCountsHeld_a0) :
    MetFree l (⟨"com/example/merkmal/merkmal/rank/QueryMatch", "add", "(IDD)V"⟩ : MethodName) (head1 (Jvm.Cond.code (⟨"com/example/merkmal/merkmal/rank/QueryMatch", "add", "(IDD)V"⟩ : MethodName) prog_47_method_3_code 6 none :: ws) ({ frames := 0, cells := 0, slots := 0, locals := 0 } : Room)) (fun a U => a = #[(.ref a0), (.int p1), (.double d2), (.double d3)] ∧ Z.Warmed39 U.vm ∧ U.heap = h0) (fun _ _ _ _ _ => True) (fun _ U o U' => ∃ v L, o = .returned v ∧ Q3 Z a0 p1 d2 d3 w_termSums_a0 kk_w_termSums_a0 z_w_termSums_a0 vs_w_termSums_a0 dv_w_termSums_a0 w_termsHeld_a0 kk_w_termsHeld_a0 z_w_termsHeld_a0 vs_w_termsHeld_a0 dv_w_termsHeld_a0 w_queryCountsHeld_a0 kk_w_queryCountsHeld_a0 z_w_queryCountsHeld_a0 vs_w_queryCountsHeld_a0 dv_w_queryCountsHeld_a0 y6 y16 y26 h0 n0 v U'.heap L ∧ FrameEnd U o U' L ({ frames := 0, cells := 0, slots := 0, locals := 0 } : Room).cells ({ frames := 0, cells := 0, slots := 0, locals := 0 } : Room).slots) := by
  refine MetFree.of_bodySF (plainFor_of_name pn3) hisR ?_
  intro p e s m args below meth c s₁ Bd hml0 hP hK
  obtain ⟨rfl, hZ, hh⟩ := hP
  have hx := Bd.exec
  have hby := Bd.bytes
  have hlk := Bd.notSynchronized
  have hml : c.maxLocals = 6 := hml0
  have hown : s.vm.findClass "com/example/merkmal/merkmal/rank/QueryMatch" = some m.cls := findClass_of_methodNamed Bd.named
  have hnm := (name_of_methodNamed Bd.named Bd.method).1
  have X0 : Stand p l e ({ frames := 0, cells := 0, slots := 0, locals := 0 } : Room) s m #[(.ref a0), (.int p1), (.double d2), (.double d3)] below meth c s₁ [] 0 0 := Stand.of_body Bd
  have e0 : s₁.heap = h0 := by rw [← hh, Bd.state]; rfl
  have N0 := Fr.nil n0
  have K0 := Keep.refl h0 [w_termSums_a0, w_termsHeld_a0, w_queryCountsHeld_a0]
  refine own_enter (Q := Q3 Z a0 p1 d2 d3 w_termSums_a0 kk_w_termSums_a0 z_w_termSums_a0 vs_w_termSums_a0 dv_w_termSums_a0 w_termsHeld_a0 kk_w_termsHeld_a0 z_w_termsHeld_a0 vs_w_termsHeld_a0 dv_w_termsHeld_a0 w_queryCountsHeld_a0 kk_w_queryCountsHeld_a0 z_w_queryCountsHeld_a0 vs_w_queryCountsHeld_a0 dv_w_queryCountsHeld_a0 y6 y16 y26 h0 n0) (ef3 m a0 p1 d2 d3) ?_
  refine own_st (T' := s₁) (g' := (mkF m 1 #[.val (.ref a0), .val (.int p1), .val (.double d2), .second, .val (.double d3), .second] [(.ref a0)])) (fun t k => ?_) ?_
  · show Steps p.tables e below (s₁.setTop (mkF m 0 #[.val (.ref a0), .val (.int p1), .val (.double d2), .second, .val (.double d3), .second] [])) t
    refine XS.aloadN X0.here hx rfl (hb hby d3_0) rfl rfl ?_
    exact k
  obtain ⟨T1, X1, e1, st1⟩ := getF X0 hx hZ hown (host := "") (Or.inl (hw _ (List.mem_of_getElem? (i := 14) rfl))) Via.refl e0 F_termSums_a0 (g := (mkF m 1 #[.val (.ref a0), .val (.int p1), .val (.double d2), .second, .val (.double d3), .second] [(.ref a0)])) rfl rfl (hb hby d3_1)
  refine own_st (T' := T1) (g' := (mkF m 4 #[.val (.ref a0), .val (.int p1), .val (.double d2), .second, .val (.double d3), .second] [(.ref w_termSums_a0)])) st1 ?_
  refine own_st (T' := T1) (g' := (mkF m 6 #[.val (.ref a0), .val (.int p1), .val (.double d2), .second, .val (.double d3), .second] [(.int p1), (.ref w_termSums_a0), (.int p1), (.ref w_termSums_a0)])) (fun t k => ?_) ?_
  · show Steps p.tables e below (T1.setTop (mkF m 4 #[.val (.ref a0), .val (.int p1), .val (.double d2), .second, .val (.double d3), .second] [(.ref w_termSums_a0)])) t
    refine XS.iloadN X1.here hx rfl (hb hby d3_4) rfl ?_
    show Steps p.tables e below (T1.setTop (mkF m 5 #[.val (.ref a0), .val (.int p1), .val (.double d2), .second, .val (.double d3), .second] [(.int p1), (.ref w_termSums_a0)])) t
    jvm_step X1.here [X1.here.top, hx, (hb hby d3_5), Value.category]
    exact k
  obtain ⟨c2, r2a, r2b, r2c, r2d, r2e, r2f⟩ := id V_w_termSums_a0
  have i2 : ¬ (p1 < 0 ∨ c2.slots.size ≤ (p1).toNatClampNeg) := inb_of r2c hin6
  have y2 : c2.slots[(p1).toNatClampNeg]? = some (.double y6) := r2e.at i2 hat6
  refine own_st (T' := T1) (g' := (mkF m 9 #[.val (.ref a0), .val (.int p1), .val (.double d2), .second, .val (.double d3), .second] [(.double (FP.dadd y6 d2)), (.int p1), (.ref w_termSums_a0)])) (fun t k => ?_) ?_
  · show Steps p.tables e below (T1.setTop (mkF m 6 #[.val (.ref a0), .val (.int p1), .val (.double d2), .second, .val (.double d3), .second] [(.int p1), (.ref w_termSums_a0), (.int p1), (.ref w_termSums_a0)])) t
    refine X1.daload hx (j := p1) (v := (.double y6)) (by rw [e1]; exact r2a.1) (State.isArrayOf_alike hZ.alike r2a.2.1) r2a.2.2 i2 y2 (g := (mkF m 6 #[.val (.ref a0), .val (.int p1), .val (.double d2), .second, .val (.double d3), .second] [(.int p1), (.ref w_termSums_a0), (.int p1), (.ref w_termSums_a0)])) rfl rfl (hb hby d3_6) _ ?_
    show Steps p.tables e below (T1.setTop (mkF m 7 #[.val (.ref a0), .val (.int p1), .val (.double d2), .second, .val (.double d3), .second] [(.double y6), (.int p1), (.ref w_termSums_a0)])) t
    refine XS.dloadN X1.here hx rfl (hb hby d3_7) rfl ?_
    show Steps p.tables e below (T1.setTop (mkF m 8 #[.val (.ref a0), .val (.int p1), .val (.double d2), .second, .val (.double d3), .second] [(.double d2), (.double y6), (.int p1), (.ref w_termSums_a0)])) t
    refine XS.daddS X1.here hx rfl (hb hby d3_8) rfl hn8 rfl ?_
    exact k
  obtain ⟨c3, r3a, r3b, r3c, r3d, r3e, r3f⟩ := id V_w_termSums_a0
  have i3 : ¬ (p1 < 0 ∨ c3.slots.size ≤ (p1).toNatClampNeg) := inb_of r3c hin6
  obtain ⟨T3, h3, X3, e3, W3, st3⟩ := stD X1 hx hZ e1 r3a (j := p1) i3 (g := (mkF m 9 #[.val (.ref a0), .val (.int p1), .val (.double d2), .second, .val (.double d3), .second] [(.double (FP.dadd y6 d2)), (.int p1), (.ref w_termSums_a0)])) rfl rfl (hb hby d3_9)
  have v4 := Arv.set r3a r3b r3c r3d r3e r3f rfl W3 (p1).toNatClampNeg rfl hle_vs_w_termSums_a0
  have f5 := E_a0.wr W3
  have f6 := F_termSums_a0.other W3 (Or.inl ne_a0_w_termSums_a0)
  have f7 := F_termsHeld_a0.other W3 (Or.inl ne_a0_w_termSums_a0)
  have f8 := V_w_termsHeld_a0.other W3 ne_w_termsHeld_a0_w_termSums_a0
  have f9 := F_queryCountsHeld_a0.other W3 (Or.inl ne_a0_w_termSums_a0)
  have f10 := V_w_queryCountsHeld_a0.other W3 ne_w_queryCountsHeld_a0_w_termSums_a0
  have z11 := Nat.le_trans Z0 (Keep.of_wr W3).1
  have k12 := K0.wr W3 (Or.inl (List.mem_of_getElem? (i := 0) rfl))
  have n13 := Fr.snoc X3 N0 g_w_termSums_a0
  refine own_st (T' := T3) (g' := (mkF m 10 #[.val (.ref a0), .val (.int p1), .val (.double d2), .second, .val (.double d3), .second] [])) st3 ?_
  refine own_st (T' := T3) (g' := (mkF m 11 #[.val (.ref a0), .val (.int p1), .val (.double d2), .second, .val (.double d3), .second] [(.ref a0)])) (fun t k => ?_) ?_
  · show Steps p.tables e below (T3.setTop (mkF m 10 #[.val (.ref a0), .val (.int p1), .val (.double d2), .second, .val (.double d3), .second] [])) t
    refine XS.aloadN X3.here hx rfl (hb hby d3_10) rfl rfl ?_
    exact k
  obtain ⟨T14, X14, e14, st14⟩ := getF X3 hx hZ hown (host := "") (Or.inl (hw _ (List.mem_of_getElem? (i := 17) rfl))) Via.refl e3 f7 (g := (mkF m 11 #[.val (.ref a0), .val (.int p1), .val (.double d2), .second, .val (.double d3), .second] [(.ref a0)])) rfl rfl (hb hby d3_11)
  refine own_st (T' := T14) (g' := (mkF m 14 #[.val (.ref a0), .val (.int p1), .val (.double d2), .second, .val (.double d3), .second] [(.ref w_termsHeld_a0)])) st14 ?_
  refine own_st (T' := T14) (g' := (mkF m 16 #[.val (.ref a0), .val (.int p1), .val (.double d2), .second, .val (.double d3), .second] [(.int p1), (.ref w_termsHeld_a0), (.int p1), (.ref w_termsHeld_a0)])) (fun t k => ?_) ?_
  · show Steps p.tables e below (T14.setTop (mkF m 14 #[.val (.ref a0), .val (.int p1), .val (.double d2), .second, .val (.double d3), .second] [(.ref w_termsHeld_a0)])) t
    refine XS.iloadN X14.here hx rfl (hb hby d3_14) rfl ?_
    show Steps p.tables e below (T14.setTop (mkF m 15 #[.val (.ref a0), .val (.int p1), .val (.double d2), .second, .val (.double d3), .second] [(.int p1), (.ref w_termsHeld_a0)])) t
    jvm_step X14.here [X14.here.top, hx, (hb hby d3_15), Value.category]
    exact k
  obtain ⟨c15, r15a, r15b, r15c, r15d, r15e, r15f⟩ := id f8
  have i15 : ¬ (p1 < 0 ∨ c15.slots.size ≤ (p1).toNatClampNeg) := inb_of r15c hin16
  have y15 : c15.slots[(p1).toNatClampNeg]? = some (.int y16) := r15e.at i15 hat16
  refine own_st (T' := T14) (g' := (mkF m 19 #[.val (.ref a0), .val (.int p1), .val (.double d2), .second, .val (.double d3), .second] [(.int (y16 + (1 : Int32))), (.int p1), (.ref w_termsHeld_a0)])) (fun t k => ?_) ?_
  · show Steps p.tables e below (T14.setTop (mkF m 16 #[.val (.ref a0), .val (.int p1), .val (.double d2), .second, .val (.double d3), .second] [(.int p1), (.ref w_termsHeld_a0), (.int p1), (.ref w_termsHeld_a0)])) t
    refine X14.iaload hx (j := p1) (v := (.int y16)) (by rw [e14]; exact r15a.1) (State.isArrayOf_alike hZ.alike r15a.2.1) r15a.2.2 i15 y15 (g := (mkF m 16 #[.val (.ref a0), .val (.int p1), .val (.double d2), .second, .val (.double d3), .second] [(.int p1), (.ref w_termsHeld_a0), (.int p1), (.ref w_termsHeld_a0)])) rfl rfl (hb hby d3_16) _ ?_
    show Steps p.tables e below (T14.setTop (mkF m 17 #[.val (.ref a0), .val (.int p1), .val (.double d2), .second, .val (.double d3), .second] [(.int y16), (.int p1), (.ref w_termsHeld_a0)])) t
    refine XS.iconst X14.here hx rfl (hb hby d3_17) ?_
    show Steps p.tables e below (T14.setTop (mkF m 18 #[.val (.ref a0), .val (.int p1), .val (.double d2), .second, .val (.double d3), .second] [(.int (1 : Int32)), (.int y16), (.int p1), (.ref w_termsHeld_a0)])) t
    refine XS.iadd X14.here hx rfl (hb hby d3_18) rfl ?_
    exact k
  obtain ⟨c16, r16a, r16b, r16c, r16d, r16e, r16f⟩ := id f8
  have i16 : ¬ (p1 < 0 ∨ c16.slots.size ≤ (p1).toNatClampNeg) := inb_of r16c hin16
  obtain ⟨T16, h16, X16, e16, W16, st16⟩ := stI X14 hx hZ e14 r16a (j := p1) i16 (g := (mkF m 19 #[.val (.ref a0), .val (.int p1), .val (.double d2), .second, .val (.double d3), .second] [(.int (y16 + (1 : Int32))), (.int p1), (.ref w_termsHeld_a0)])) rfl rfl (hb hby d3_19)
  have v17 := Arv.set r16a r16b r16c r16d r16e r16f rfl W16 (p1).toNatClampNeg rfl hle_vs_w_termsHeld_a0
  have f18 := f5.wr W16
  have f19 := f6.other W16 (Or.inl ne_a0_w_termsHeld_a0)
  have f20 := v4.other W16 ne_w_termSums_a0_w_termsHeld_a0
  have f21 := f7.other W16 (Or.inl ne_a0_w_termsHeld_a0)
  have f22 := f9.other W16 (Or.inl ne_a0_w_termsHeld_a0)
  have f23 := f10.other W16 ne_w_queryCountsHeld_a0_w_termsHeld_a0
  have z24 := Nat.le_trans z11 (Keep.of_wr W16).1
  have k25 := k12.wr W16 (Or.inl (List.mem_of_getElem? (i := 1) rfl))
  have n26 := Fr.snoc X16 n13 g_w_termsHeld_a0
  refine own_st (T' := T16) (g' := (mkF m 20 #[.val (.ref a0), .val (.int p1), .val (.double d2), .second, .val (.double d3), .second] [])) st16 ?_
  refine own_st (T' := T16) (g' := (mkF m 21 #[.val (.ref a0), .val (.int p1), .val (.double d2), .second, .val (.double d3), .second] [(.ref a0)])) (fun t k => ?_) ?_
  · show Steps p.tables e below (T16.setTop (mkF m 20 #[.val (.ref a0), .val (.int p1), .val (.double d2), .second, .val (.double d3), .second] [])) t
    refine XS.aloadN X16.here hx rfl (hb hby d3_20) rfl rfl ?_
    exact k
  obtain ⟨T27, X27, e27, st27⟩ := getF X16 hx hZ hown (host := "") (Or.inl (hw _ (List.mem_of_getElem? (i := 19) rfl))) Via.refl e16 f22 (g := (mkF m 21 #[.val (.ref a0), .val (.int p1), .val (.double d2), .second, .val (.double d3), .second] [(.ref a0)])) rfl rfl (hb hby d3_21)
  refine own_st (T' := T27) (g' := (mkF m 24 #[.val (.ref a0), .val (.int p1), .val (.double d2), .second, .val (.double d3), .second] [(.ref w_queryCountsHeld_a0)])) st27 ?_
  refine own_st (T' := T27) (g' := (mkF m 26 #[.val (.ref a0), .val (.int p1), .val (.double d2), .second, .val (.double d3), .second] [(.int p1), (.ref w_queryCountsHeld_a0), (.int p1), (.ref w_queryCountsHeld_a0)])) (fun t k => ?_) ?_
  · show Steps p.tables e below (T27.setTop (mkF m 24 #[.val (.ref a0), .val (.int p1), .val (.double d2), .second, .val (.double d3), .second] [(.ref w_queryCountsHeld_a0)])) t
    refine XS.iloadN X27.here hx rfl (hb hby d3_24) rfl ?_
    show Steps p.tables e below (T27.setTop (mkF m 25 #[.val (.ref a0), .val (.int p1), .val (.double d2), .second, .val (.double d3), .second] [(.int p1), (.ref w_queryCountsHeld_a0)])) t
    jvm_step X27.here [X27.here.top, hx, (hb hby d3_25), Value.category]
    exact k
  obtain ⟨c28, r28a, r28b, r28c, r28d, r28e, r28f⟩ := id f23
  have i28 : ¬ (p1 < 0 ∨ c28.slots.size ≤ (p1).toNatClampNeg) := inb_of r28c hin26
  have y28 : c28.slots[(p1).toNatClampNeg]? = some (.double y26) := r28e.at i28 hat26
  refine own_st (T' := T27) (g' := (mkF m 30 #[.val (.ref a0), .val (.int p1), .val (.double d2), .second, .val (.double d3), .second] [(.double (FP.dadd y26 d3)), (.int p1), (.ref w_queryCountsHeld_a0)])) (fun t k => ?_) ?_
  · show Steps p.tables e below (T27.setTop (mkF m 26 #[.val (.ref a0), .val (.int p1), .val (.double d2), .second, .val (.double d3), .second] [(.int p1), (.ref w_queryCountsHeld_a0), (.int p1), (.ref w_queryCountsHeld_a0)])) t
    refine X27.daload hx (j := p1) (v := (.double y26)) (by rw [e27]; exact r28a.1) (State.isArrayOf_alike hZ.alike r28a.2.1) r28a.2.2 i28 y28 (g := (mkF m 26 #[.val (.ref a0), .val (.int p1), .val (.double d2), .second, .val (.double d3), .second] [(.int p1), (.ref w_queryCountsHeld_a0), (.int p1), (.ref w_queryCountsHeld_a0)])) rfl rfl (hb hby d3_26) _ ?_
    show Steps p.tables e below (T27.setTop (mkF m 27 #[.val (.ref a0), .val (.int p1), .val (.double d2), .second, .val (.double d3), .second] [(.double y26), (.int p1), (.ref w_queryCountsHeld_a0)])) t
    refine XS.dload X27.here hx rfl (hb hby d3_27) rfl ?_
    show Steps p.tables e below (T27.setTop (mkF m 29 #[.val (.ref a0), .val (.int p1), .val (.double d2), .second, .val (.double d3), .second] [(.double d3), (.double y26), (.int p1), (.ref w_queryCountsHeld_a0)])) t
    refine XS.daddS X27.here hx rfl (hb hby d3_29) rfl hn29 rfl ?_
    exact k
  obtain ⟨c29, r29a, r29b, r29c, r29d, r29e, r29f⟩ := id f23
  have i29 : ¬ (p1 < 0 ∨ c29.slots.size ≤ (p1).toNatClampNeg) := inb_of r29c hin26
  obtain ⟨T29, h29, X29, e29, W29, st29⟩ := stD X27 hx hZ e27 r29a (j := p1) i29 (g := (mkF m 30 #[.val (.ref a0), .val (.int p1), .val (.double d2), .second, .val (.double d3), .second] [(.double (FP.dadd y26 d3)), (.int p1), (.ref w_queryCountsHeld_a0)])) rfl rfl (hb hby d3_30)
  have v30 := Arv.set r29a r29b r29c r29d r29e r29f rfl W29 (p1).toNatClampNeg rfl hle_vs_w_queryCountsHeld_a0
  have f31 := f18.wr W29
  have f32 := f19.other W29 (Or.inl ne_a0_w_queryCountsHeld_a0)
  have f33 := f20.other W29 ne_w_termSums_a0_w_queryCountsHeld_a0
  have f34 := f21.other W29 (Or.inl ne_a0_w_queryCountsHeld_a0)
  have f35 := v17.other W29 ne_w_termsHeld_a0_w_queryCountsHeld_a0
  have f36 := f22.other W29 (Or.inl ne_a0_w_queryCountsHeld_a0)
  have z37 := Nat.le_trans z24 (Keep.of_wr W29).1
  have k38 := k25.wr W29 (Or.inl (List.mem_of_getElem? (i := 2) rfl))
  have n39 := Fr.snoc X29 n26 g_w_queryCountsHeld_a0
  refine own_st (T' := T29) (g' := (mkF m 31 #[.val (.ref a0), .val (.int p1), .val (.double d2), .second, .val (.double d3), .second] [])) st29 ?_
  refine own_retV X29 hx hlk Bd.returns (hb hby d3_31) (by decide) (by decide) ?_
  show Q3 Z a0 p1 d2 d3 w_termSums_a0 kk_w_termSums_a0 z_w_termSums_a0 vs_w_termSums_a0 dv_w_termSums_a0 w_termsHeld_a0 kk_w_termsHeld_a0 z_w_termsHeld_a0 vs_w_termsHeld_a0 dv_w_termsHeld_a0 w_queryCountsHeld_a0 kk_w_queryCountsHeld_a0 z_w_queryCountsHeld_a0 vs_w_queryCountsHeld_a0 dv_w_queryCountsHeld_a0 y6 y16 y26 h0 n0 none T29.heap _
  rw [(e29 : T29.heap = h29)]
  exact ⟨rfl, n39, k38, f33, f35, v30⟩
theorem d5_0 : decode prog_47_method_4_code 0 = .ok (.aload_n 0, 1) := by decide +kernel
theorem d5_1 : decode prog_47_method_4_code 1 = .ok (.getfield 13, 3) := by decide +kernel
theorem d5_4 : decode prog_47_method_4_code 4 = .ok (.iload_n 1, 1) := by decide +kernel
theorem d5_5 : decode prog_47_method_4_code 5 = .ok (.daload, 1) := by decide +kernel
theorem d5_6 : decode prog_47_method_4_code 6 = .ok (.dreturn, 1) := by decide +kernel
theorem pn5 : plainName "com/example/merkmal/merkmal/rank/QueryMatch" = true := by first | (simp [plainName, overriddenIn]; done) | decide +kernel
theorem ef5 (m : MethodId) (a0 : Addr) (p1 : Int32) : entryFrame m #[(.ref a0), (.int p1)] 2 = mkF m 0 #[.val (.ref a0), .val (.int p1)] [] := by first | (simp [entryFrame, mkF, argsToLocals, Value.category]; done) | rfl
def Q5 (Z : State) (a0 : Addr) (p1 : Int32) (w_termSums_a0 : Addr) (kk_w_termSums_a0 : ClassId) (z_w_termSums_a0 : Int32) (vs_w_termSums_a0 : List Value) (dv_w_termSums_a0 : Value) (y5 : UInt64) (h0 : Heap) (n0 : Nat) (v : Option Value) (h : Heap) (L : List Loc) : Prop := v = some (.double y5) ∧ Fr n0 L ∧ h = h0
set_option maxRecDepth 65536 in
set_option maxHeartbeats 40000000 in
theorem rm5 (l : Launch) (Z : State) (ar : Array Value) (hw : ∀ d ∈ tables_1, d.before ar Z = true) (ws : List Jvm.Cond) (a0 : Addr) (p1 : Int32) (w_termSums_a0 : Addr) (kk_w_termSums_a0 : ClassId) (z_w_termSums_a0 : Int32) (vs_w_termSums_a0 : List Value) (dv_w_termSums_a0 : Value) (y5 : UInt64) (h0 : Heap) (n0 : Nat) (Z0 : n0 ≤ h0.size) (E_a0 : Exa Z h0 a0 "com/example/merkmal/merkmal/rank/QueryMatch") (F_termSums_a0 : Fld Z h0 a0 "com/example/merkmal/merkmal/rank/QueryMatch" "termSums" "[D" (.ref w_termSums_a0)) (V_w_termSums_a0 : Arv Z h0 w_termSums_a0 kk_w_termSums_a0 .double z_w_termSums_a0 vs_w_termSums_a0 dv_w_termSums_a0) (hin5 : ¬ p1 < 0 ∧ p1 < z_w_termSums_a0) (hat5 : vs_w_termSums_a0.getD (p1).toNatClampNeg dv_w_termSums_a0 = (.double y5)) :
    MetFree l (⟨"com/example/merkmal/merkmal/rank/QueryMatch", "termSum", "(I)D"⟩ : MethodName) (head1 (Jvm.Cond.code (⟨"com/example/merkmal/merkmal/rank/QueryMatch", "termSum", "(I)D"⟩ : MethodName) prog_47_method_4_code 2 (some .double) :: ws) ({ frames := 0, cells := 0, slots := 0, locals := 0 } : Room)) (fun a U => a = #[(.ref a0), (.int p1)] ∧ Z.Warmed39 U.vm ∧ U.heap = h0) (fun _ _ _ _ _ => True) (fun _ U o U' => ∃ v L, o = .returned v ∧ Q5 Z a0 p1 w_termSums_a0 kk_w_termSums_a0 z_w_termSums_a0 vs_w_termSums_a0 dv_w_termSums_a0 y5 h0 n0 v U'.heap L ∧ FrameEnd U o U' L ({ frames := 0, cells := 0, slots := 0, locals := 0 } : Room).cells ({ frames := 0, cells := 0, slots := 0, locals := 0 } : Room).slots) := by
  refine MetFree.of_bodySF (plainFor_of_name pn5) hisR ?_
  intro p e s m args below meth c s₁ Bd hml0 hP hK
  obtain ⟨rfl, hZ, hh⟩ := hP
  have hx := Bd.exec
  have hby := Bd.bytes
  have hlk := Bd.notSynchronized
  have hml : c.maxLocals = 2 := hml0
  have hown : s.vm.findClass "com/example/merkmal/merkmal/rank/QueryMatch" = some m.cls := findClass_of_methodNamed Bd.named
  have hnm := (name_of_methodNamed Bd.named Bd.method).1
  have X0 : Stand p l e ({ frames := 0, cells := 0, slots := 0, locals := 0 } : Room) s m #[(.ref a0), (.int p1)] below meth c s₁ [] 0 0 := Stand.of_body Bd
  have e0 : s₁.heap = h0 := by rw [← hh, Bd.state]; rfl
  have N0 := Fr.nil n0
  have K0 := Keep.refl h0 []
  refine own_enter (Q := Q5 Z a0 p1 w_termSums_a0 kk_w_termSums_a0 z_w_termSums_a0 vs_w_termSums_a0 dv_w_termSums_a0 y5 h0 n0) (ef5 m a0 p1) ?_
  refine own_st (T' := s₁) (g' := (mkF m 1 #[.val (.ref a0), .val (.int p1)] [(.ref a0)])) (fun t k => ?_) ?_
  · show Steps p.tables e below (s₁.setTop (mkF m 0 #[.val (.ref a0), .val (.int p1)] [])) t
    refine XS.aloadN X0.here hx rfl (hb hby d5_0) rfl rfl ?_
    exact k
  obtain ⟨T1, X1, e1, st1⟩ := getF X0 hx hZ hown (host := "") (Or.inl (hw _ (List.mem_of_getElem? (i := 14) rfl))) Via.refl e0 F_termSums_a0 (g := (mkF m 1 #[.val (.ref a0), .val (.int p1)] [(.ref a0)])) rfl rfl (hb hby d5_1)
  refine own_st (T' := T1) (g' := (mkF m 4 #[.val (.ref a0), .val (.int p1)] [(.ref w_termSums_a0)])) st1 ?_
  refine own_st (T' := T1) (g' := (mkF m 5 #[.val (.ref a0), .val (.int p1)] [(.int p1), (.ref w_termSums_a0)])) (fun t k => ?_) ?_
  · show Steps p.tables e below (T1.setTop (mkF m 4 #[.val (.ref a0), .val (.int p1)] [(.ref w_termSums_a0)])) t
    refine XS.iloadN X1.here hx rfl (hb hby d5_4) rfl ?_
    exact k
  obtain ⟨c2, r2a, r2b, r2c, r2d, r2e, r2f⟩ := id V_w_termSums_a0
  have i2 : ¬ (p1 < 0 ∨ c2.slots.size ≤ (p1).toNatClampNeg) := inb_of r2c hin5
  have y2 : c2.slots[(p1).toNatClampNeg]? = some (.double y5) := r2e.at i2 hat5
  refine own_st (T' := T1) (g' := (mkF m 6 #[.val (.ref a0), .val (.int p1)] [(.double y5)])) (fun t k => ?_) ?_
  · show Steps p.tables e below (T1.setTop (mkF m 5 #[.val (.ref a0), .val (.int p1)] [(.int p1), (.ref w_termSums_a0)])) t
    refine X1.daload hx (j := p1) (v := (.double y5)) (by rw [e1]; exact r2a.1) (State.isArrayOf_alike hZ.alike r2a.2.1) r2a.2.2 i2 y2 (g := (mkF m 5 #[.val (.ref a0), .val (.int p1)] [(.int p1), (.ref w_termSums_a0)])) rfl rfl (hb hby d5_5) _ ?_
    exact k
  refine own_retD X1 hx hlk Bd.returns (hb hby d5_6) (by decide) (by decide) ?_
  show Q5 Z a0 p1 w_termSums_a0 kk_w_termSums_a0 z_w_termSums_a0 vs_w_termSums_a0 dv_w_termSums_a0 y5 h0 n0 (some (.double y5)) T1.heap _
  rw [(e1 : T1.heap = h0)]
  exact ⟨rfl, N0, rfl⟩
theorem d6_0 : decode prog_47_method_5_code 0 = .ok (.aload_n 0, 1) := by decide +kernel
theorem d6_1 : decode prog_47_method_5_code 1 = .ok (.getfield 17, 3) := by decide +kernel
theorem d6_4 : decode prog_47_method_5_code 4 = .ok (.iload_n 1, 1) := by decide +kernel
theorem d6_5 : decode prog_47_method_5_code 5 = .ok (.iaload, 1) := by decide +kernel
theorem d6_6 : decode prog_47_method_5_code 6 = .ok (.ireturn, 1) := by decide +kernel
theorem pn6 : plainName "com/example/merkmal/merkmal/rank/QueryMatch" = true := by first | (simp [plainName, overriddenIn]; done) | decide +kernel
theorem ef6 (m : MethodId) (a0 : Addr) (p1 : Int32) : entryFrame m #[(.ref a0), (.int p1)] 2 = mkF m 0 #[.val (.ref a0), .val (.int p1)] [] := by first | (simp [entryFrame, mkF, argsToLocals, Value.category]; done) | rfl
def Q6 (Z : State) (a0 : Addr) (p1 : Int32) (w_termsHeld_a0 : Addr) (kk_w_termsHeld_a0 : ClassId) (z_w_termsHeld_a0 : Int32) (vs_w_termsHeld_a0 : List Value) (dv_w_termsHeld_a0 : Value) (y5 : Int32) (h0 : Heap) (n0 : Nat) (v : Option Value) (h : Heap) (L : List Loc) : Prop := v = some (.int y5) ∧ Fr n0 L ∧ h = h0
set_option maxRecDepth 65536 in
set_option maxHeartbeats 40000000 in
theorem rm6 (l : Launch) (Z : State) (ar : Array Value) (hw : ∀ d ∈ tables_1, d.before ar Z = true) (ws : List Jvm.Cond) (a0 : Addr) (p1 : Int32) (w_termsHeld_a0 : Addr) (kk_w_termsHeld_a0 : ClassId) (z_w_termsHeld_a0 : Int32) (vs_w_termsHeld_a0 : List Value) (dv_w_termsHeld_a0 : Value) (y5 : Int32) (h0 : Heap) (n0 : Nat) (Z0 : n0 ≤ h0.size) (E_a0 : Exa Z h0 a0 "com/example/merkmal/merkmal/rank/QueryMatch") (F_termsHeld_a0 : Fld Z h0 a0 "com/example/merkmal/merkmal/rank/QueryMatch" "termsHeld" "[I" (.ref w_termsHeld_a0)) (V_w_termsHeld_a0 : Arv Z h0 w_termsHeld_a0 kk_w_termsHeld_a0 .int z_w_termsHeld_a0 vs_w_termsHeld_a0 dv_w_termsHeld_a0) (hin5 : ¬ p1 < 0 ∧ p1 < z_w_termsHeld_a0) (hat5 : vs_w_termsHeld_a0.getD (p1).toNatClampNeg dv_w_termsHeld_a0 = (.int y5)) :
    MetFree l (⟨"com/example/merkmal/merkmal/rank/QueryMatch", "termsHeld", "(I)I"⟩ : MethodName) (head1 (Jvm.Cond.code (⟨"com/example/merkmal/merkmal/rank/QueryMatch", "termsHeld", "(I)I"⟩ : MethodName) prog_47_method_5_code 2 (some .int) :: ws) ({ frames := 0, cells := 0, slots := 0, locals := 0 } : Room)) (fun a U => a = #[(.ref a0), (.int p1)] ∧ Z.Warmed39 U.vm ∧ U.heap = h0) (fun _ _ _ _ _ => True) (fun _ U o U' => ∃ v L, o = .returned v ∧ Q6 Z a0 p1 w_termsHeld_a0 kk_w_termsHeld_a0 z_w_termsHeld_a0 vs_w_termsHeld_a0 dv_w_termsHeld_a0 y5 h0 n0 v U'.heap L ∧ FrameEnd U o U' L ({ frames := 0, cells := 0, slots := 0, locals := 0 } : Room).cells ({ frames := 0, cells := 0, slots := 0, locals := 0 } : Room).slots) := by
  refine MetFree.of_bodySF (plainFor_of_name pn6) hisR ?_
  intro p e s m args below meth c s₁ Bd hml0 hP hK
  obtain ⟨rfl, hZ, hh⟩ := hP
  have hx := Bd.exec
  have hby := Bd.bytes
  have hlk := Bd.notSynchronized
  have hml : c.maxLocals = 2 := hml0
  have hown : s.vm.findClass "com/example/merkmal/merkmal/rank/QueryMatch" = some m.cls := findClass_of_methodNamed Bd.named
  have hnm := (name_of_methodNamed Bd.named Bd.method).1
  have X0 : Stand p l e ({ frames := 0, cells := 0, slots := 0, locals := 0 } : Room) s m #[(.ref a0), (.int p1)] below meth c s₁ [] 0 0 := Stand.of_body Bd
  have e0 : s₁.heap = h0 := by rw [← hh, Bd.state]; rfl
  have N0 := Fr.nil n0
  have K0 := Keep.refl h0 []
  refine own_enter (Q := Q6 Z a0 p1 w_termsHeld_a0 kk_w_termsHeld_a0 z_w_termsHeld_a0 vs_w_termsHeld_a0 dv_w_termsHeld_a0 y5 h0 n0) (ef6 m a0 p1) ?_
  refine own_st (T' := s₁) (g' := (mkF m 1 #[.val (.ref a0), .val (.int p1)] [(.ref a0)])) (fun t k => ?_) ?_
  · show Steps p.tables e below (s₁.setTop (mkF m 0 #[.val (.ref a0), .val (.int p1)] [])) t
    refine XS.aloadN X0.here hx rfl (hb hby d6_0) rfl rfl ?_
    exact k
  obtain ⟨T1, X1, e1, st1⟩ := getF X0 hx hZ hown (host := "") (Or.inl (hw _ (List.mem_of_getElem? (i := 17) rfl))) Via.refl e0 F_termsHeld_a0 (g := (mkF m 1 #[.val (.ref a0), .val (.int p1)] [(.ref a0)])) rfl rfl (hb hby d6_1)
  refine own_st (T' := T1) (g' := (mkF m 4 #[.val (.ref a0), .val (.int p1)] [(.ref w_termsHeld_a0)])) st1 ?_
  refine own_st (T' := T1) (g' := (mkF m 5 #[.val (.ref a0), .val (.int p1)] [(.int p1), (.ref w_termsHeld_a0)])) (fun t k => ?_) ?_
  · show Steps p.tables e below (T1.setTop (mkF m 4 #[.val (.ref a0), .val (.int p1)] [(.ref w_termsHeld_a0)])) t
    refine XS.iloadN X1.here hx rfl (hb hby d6_4) rfl ?_
    exact k
  obtain ⟨c2, r2a, r2b, r2c, r2d, r2e, r2f⟩ := id V_w_termsHeld_a0
  have i2 : ¬ (p1 < 0 ∨ c2.slots.size ≤ (p1).toNatClampNeg) := inb_of r2c hin5
  have y2 : c2.slots[(p1).toNatClampNeg]? = some (.int y5) := r2e.at i2 hat5
  refine own_st (T' := T1) (g' := (mkF m 6 #[.val (.ref a0), .val (.int p1)] [(.int y5)])) (fun t k => ?_) ?_
  · show Steps p.tables e below (T1.setTop (mkF m 5 #[.val (.ref a0), .val (.int p1)] [(.int p1), (.ref w_termsHeld_a0)])) t
    refine X1.iaload hx (j := p1) (v := (.int y5)) (by rw [e1]; exact r2a.1) (State.isArrayOf_alike hZ.alike r2a.2.1) r2a.2.2 i2 y2 (g := (mkF m 5 #[.val (.ref a0), .val (.int p1)] [(.int p1), (.ref w_termsHeld_a0)])) rfl rfl (hb hby d6_5) _ ?_
    exact k
  refine own_retI X1 hx hlk Bd.returns (hb hby d6_6) (by decide) (by decide) ?_
  show Q6 Z a0 p1 w_termsHeld_a0 kk_w_termsHeld_a0 z_w_termsHeld_a0 vs_w_termsHeld_a0 dv_w_termsHeld_a0 y5 h0 n0 (some (.int y5)) T1.heap _
  rw [(e1 : T1.heap = h0)]
  exact ⟨rfl, N0, rfl⟩
theorem d7_0 : decode prog_47_method_6_code 0 = .ok (.aload_n 0, 1) := by decide +kernel
theorem d7_1 : decode prog_47_method_6_code 1 = .ok (.getfield 21, 3) := by decide +kernel
theorem d7_4 : decode prog_47_method_6_code 4 = .ok (.iload_n 1, 1) := by decide +kernel
theorem d7_5 : decode prog_47_method_6_code 5 = .ok (.daload, 1) := by decide +kernel
theorem d7_6 : decode prog_47_method_6_code 6 = .ok (.dreturn, 1) := by decide +kernel
theorem pn7 : plainName "com/example/merkmal/merkmal/rank/QueryMatch" = true := by first | (simp [plainName, overriddenIn]; done) | decide +kernel
theorem ef7 (m : MethodId) (a0 : Addr) (p1 : Int32) : entryFrame m #[(.ref a0), (.int p1)] 2 = mkF m 0 #[.val (.ref a0), .val (.int p1)] [] := by first | (simp [entryFrame, mkF, argsToLocals, Value.category]; done) | rfl
def Q7 (Z : State) (a0 : Addr) (p1 : Int32) (w_queryCountsHeld_a0 : Addr) (kk_w_queryCountsHeld_a0 : ClassId) (z_w_queryCountsHeld_a0 : Int32) (vs_w_queryCountsHeld_a0 : List Value) (dv_w_queryCountsHeld_a0 : Value) (y5 : UInt64) (h0 : Heap) (n0 : Nat) (v : Option Value) (h : Heap) (L : List Loc) : Prop := v = some (.double y5) ∧ Fr n0 L ∧ h = h0
set_option maxRecDepth 65536 in
set_option maxHeartbeats 40000000 in
theorem rm7 (l : Launch) (Z : State) (ar : Array Value) (hw : ∀ d ∈ tables_1, d.before ar Z = true) (ws : List Jvm.Cond) (a0 : Addr) (p1 : Int32) (w_queryCountsHeld_a0 : Addr) (kk_w_queryCountsHeld_a0 : ClassId) (z_w_queryCountsHeld_a0 : Int32) (vs_w_queryCountsHeld_a0 : List Value) (dv_w_queryCountsHeld_a0 : Value) (y5 : UInt64) (h0 : Heap) (n0 : Nat) (Z0 : n0 ≤ h0.size) (E_a0 : Exa Z h0 a0 "com/example/merkmal/merkmal/rank/QueryMatch") (F_queryCountsHeld_a0 : Fld Z h0 a0 "com/example/merkmal/merkmal/rank/QueryMatch" "queryCountsHeld" "[D" (.ref w_queryCountsHeld_a0)) (V_w_queryCountsHeld_a0 : Arv Z h0 w_queryCountsHeld_a0 kk_w_queryCountsHeld_a0 .double z_w_queryCountsHeld_a0 vs_w_queryCountsHeld_a0 dv_w_queryCountsHeld_a0) (hin5 : ¬ p1 < 0 ∧ p1 < z_w_queryCountsHeld_a0) (hat5 : vs_w_queryCountsHeld_a0.getD (p1).toNatClampNeg dv_w_queryCountsHeld_a0 = (.double y5)) :
    MetFree l (⟨"com/example/merkmal/merkmal/rank/QueryMatch", "queryCountHeld", "(I)D"⟩ : MethodName) (head1 (Jvm.Cond.code (⟨"com/example/merkmal/merkmal/rank/QueryMatch", "queryCountHeld", "(I)D"⟩ : MethodName) prog_47_method_6_code 2 (some .double) :: ws) ({ frames := 0, cells := 0, slots := 0, locals := 0 } : Room)) (fun a U => a = #[(.ref a0), (.int p1)] ∧ Z.Warmed39 U.vm ∧ U.heap = h0) (fun _ _ _ _ _ => True) (fun _ U o U' => ∃ v L, o = .returned v ∧ Q7 Z a0 p1 w_queryCountsHeld_a0 kk_w_queryCountsHeld_a0 z_w_queryCountsHeld_a0 vs_w_queryCountsHeld_a0 dv_w_queryCountsHeld_a0 y5 h0 n0 v U'.heap L ∧ FrameEnd U o U' L ({ frames := 0, cells := 0, slots := 0, locals := 0 } : Room).cells ({ frames := 0, cells := 0, slots := 0, locals := 0 } : Room).slots) := by
  refine MetFree.of_bodySF (plainFor_of_name pn7) hisR ?_
  intro p e s m args below meth c s₁ Bd hml0 hP hK
  obtain ⟨rfl, hZ, hh⟩ := hP
  have hx := Bd.exec
  have hby := Bd.bytes
  have hlk := Bd.notSynchronized
  have hml : c.maxLocals = 2 := hml0
  have hown : s.vm.findClass "com/example/merkmal/merkmal/rank/QueryMatch" = some m.cls := findClass_of_methodNamed Bd.named
  have hnm := (name_of_methodNamed Bd.named Bd.method).1
  have X0 : Stand p l e ({ frames := 0, cells := 0, slots := 0, locals := 0 } : Room) s m #[(.ref a0), (.int p1)] below meth c s₁ [] 0 0 := Stand.of_body Bd
  have e0 : s₁.heap = h0 := by rw [← hh, Bd.state]; rfl
  have N0 := Fr.nil n0
  have K0 := Keep.refl h0 []
  refine own_enter (Q := Q7 Z a0 p1 w_queryCountsHeld_a0 kk_w_queryCountsHeld_a0 z_w_queryCountsHeld_a0 vs_w_queryCountsHeld_a0 dv_w_queryCountsHeld_a0 y5 h0 n0) (ef7 m a0 p1) ?_
  refine own_st (T' := s₁) (g' := (mkF m 1 #[.val (.ref a0), .val (.int p1)] [(.ref a0)])) (fun t k => ?_) ?_
  · show Steps p.tables e below (s₁.setTop (mkF m 0 #[.val (.ref a0), .val (.int p1)] [])) t
    refine XS.aloadN X0.here hx rfl (hb hby d7_0) rfl rfl ?_
    exact k
  obtain ⟨T1, X1, e1, st1⟩ := getF X0 hx hZ hown (host := "") (Or.inl (hw _ (List.mem_of_getElem? (i := 19) rfl))) Via.refl e0 F_queryCountsHeld_a0 (g := (mkF m 1 #[.val (.ref a0), .val (.int p1)] [(.ref a0)])) rfl rfl (hb hby d7_1)
  refine own_st (T' := T1) (g' := (mkF m 4 #[.val (.ref a0), .val (.int p1)] [(.ref w_queryCountsHeld_a0)])) st1 ?_
  refine own_st (T' := T1) (g' := (mkF m 5 #[.val (.ref a0), .val (.int p1)] [(.int p1), (.ref w_queryCountsHeld_a0)])) (fun t k => ?_) ?_
  · show Steps p.tables e below (T1.setTop (mkF m 4 #[.val (.ref a0), .val (.int p1)] [(.ref w_queryCountsHeld_a0)])) t
    refine XS.iloadN X1.here hx rfl (hb hby d7_4) rfl ?_
    exact k
  obtain ⟨c2, r2a, r2b, r2c, r2d, r2e, r2f⟩ := id V_w_queryCountsHeld_a0
  have i2 : ¬ (p1 < 0 ∨ c2.slots.size ≤ (p1).toNatClampNeg) := inb_of r2c hin5
  have y2 : c2.slots[(p1).toNatClampNeg]? = some (.double y5) := r2e.at i2 hat5
  refine own_st (T' := T1) (g' := (mkF m 6 #[.val (.ref a0), .val (.int p1)] [(.double y5)])) (fun t k => ?_) ?_
  · show Steps p.tables e below (T1.setTop (mkF m 5 #[.val (.ref a0), .val (.int p1)] [(.int p1), (.ref w_queryCountsHeld_a0)])) t
    refine X1.daload hx (j := p1) (v := (.double y5)) (by rw [e1]; exact r2a.1) (State.isArrayOf_alike hZ.alike r2a.2.1) r2a.2.2 i2 y2 (g := (mkF m 5 #[.val (.ref a0), .val (.int p1)] [(.int p1), (.ref w_queryCountsHeld_a0)])) rfl rfl (hb hby d7_5) _ ?_
    exact k
  refine own_retD X1 hx hlk Bd.returns (hb hby d7_6) (by decide) (by decide) ?_
  show Q7 Z a0 p1 w_queryCountsHeld_a0 kk_w_queryCountsHeld_a0 z_w_queryCountsHeld_a0 vs_w_queryCountsHeld_a0 dv_w_queryCountsHeld_a0 y5 h0 n0 (some (.double y5)) T1.heap _
  rw [(e1 : T1.heap = h0)]
  exact ⟨rfl, N0, rfl⟩
theorem d8_0 : decode prog_47_method_2_code 0 = .ok (.aload_n 0, 1) := by decide +kernel
theorem d8_1 : decode prog_47_method_2_code 1 = .ok (.getfield 7, 3) := by decide +kernel
theorem d8_4 : decode prog_47_method_2_code 4 = .ok (.dreturn, 1) := by decide +kernel
theorem pn8 : plainName "com/example/merkmal/merkmal/rank/QueryMatch" = true := by first | (simp [plainName, overriddenIn]; done) | decide +kernel
theorem ef8 (m : MethodId) (a0 : Addr) : entryFrame m #[(.ref a0)] 1 = mkF m 0 #[.val (.ref a0)] [] := by first | (simp [entryFrame, mkF, argsToLocals, Value.category]; done) | rfl
def Q8 (Z : State) (a0 : Addr) (w_queryLength_a0 : UInt64) (h0 : Heap) (n0 : Nat) (v : Option Value) (h : Heap) (L : List Loc) : Prop := v = some (.double w_queryLength_a0) ∧ Fr n0 L ∧ h = h0
set_option maxRecDepth 65536 in
set_option maxHeartbeats 40000000 in
theorem rm8 (l : Launch) (Z : State) (ar : Array Value) (hw : ∀ d ∈ tables_1, d.before ar Z = true) (ws : List Jvm.Cond) (a0 : Addr) (w_queryLength_a0 : UInt64) (h0 : Heap) (n0 : Nat) (Z0 : n0 ≤ h0.size) (E_a0 : Exa Z h0 a0 "com/example/merkmal/merkmal/rank/QueryMatch") (F_queryLength_a0 : Fld Z h0 a0 "com/example/merkmal/merkmal/rank/QueryMatch" "queryLength" "D" (.double w_queryLength_a0)) :
    MetFree l (⟨"com/example/merkmal/merkmal/rank/QueryMatch", "queryLength", "()D"⟩ : MethodName) (head1 (Jvm.Cond.code (⟨"com/example/merkmal/merkmal/rank/QueryMatch", "queryLength", "()D"⟩ : MethodName) prog_47_method_2_code 1 (some .double) :: ws) ({ frames := 0, cells := 0, slots := 0, locals := 0 } : Room)) (fun a U => a = #[(.ref a0)] ∧ Z.Warmed39 U.vm ∧ U.heap = h0) (fun _ _ _ _ _ => True) (fun _ U o U' => ∃ v L, o = .returned v ∧ Q8 Z a0 w_queryLength_a0 h0 n0 v U'.heap L ∧ FrameEnd U o U' L ({ frames := 0, cells := 0, slots := 0, locals := 0 } : Room).cells ({ frames := 0, cells := 0, slots := 0, locals := 0 } : Room).slots) := by
  refine MetFree.of_bodySF (plainFor_of_name pn8) hisR ?_
  intro p e s m args below meth c s₁ Bd hml0 hP hK
  obtain ⟨rfl, hZ, hh⟩ := hP
  have hx := Bd.exec
  have hby := Bd.bytes
  have hlk := Bd.notSynchronized
  have hml : c.maxLocals = 1 := hml0
  have hown : s.vm.findClass "com/example/merkmal/merkmal/rank/QueryMatch" = some m.cls := findClass_of_methodNamed Bd.named
  have hnm := (name_of_methodNamed Bd.named Bd.method).1
  have X0 : Stand p l e ({ frames := 0, cells := 0, slots := 0, locals := 0 } : Room) s m #[(.ref a0)] below meth c s₁ [] 0 0 := Stand.of_body Bd
  have e0 : s₁.heap = h0 := by rw [← hh, Bd.state]; rfl
  have N0 := Fr.nil n0
  have K0 := Keep.refl h0 []
  refine own_enter (Q := Q8 Z a0 w_queryLength_a0 h0 n0) (ef8 m a0) ?_
  refine own_st (T' := s₁) (g' := (mkF m 1 #[.val (.ref a0)] [(.ref a0)])) (fun t k => ?_) ?_
  · show Steps p.tables e below (s₁.setTop (mkF m 0 #[.val (.ref a0)] [])) t
    refine XS.aloadN X0.here hx rfl (hb hby d8_0) rfl rfl ?_
    exact k
  obtain ⟨T1, X1, e1, st1⟩ := getF X0 hx hZ hown (host := "") (Or.inl (hw _ (List.mem_of_getElem? (i := 11) rfl))) Via.refl e0 F_queryLength_a0 (g := (mkF m 1 #[.val (.ref a0)] [(.ref a0)])) rfl rfl (hb hby d8_1)
  refine own_st (T' := T1) (g' := (mkF m 4 #[.val (.ref a0)] [(.double w_queryLength_a0)])) st1 ?_
  refine own_retD X1 hx hlk Bd.returns (hb hby d8_4) (by decide) (by decide) ?_
  show Q8 Z a0 w_queryLength_a0 h0 n0 (some (.double w_queryLength_a0)) T1.heap _
  rw [(e1 : T1.heap = h0)]
  exact ⟨rfl, N0, rfl⟩
theorem d4_0 : decode method_3_code 0 = .ok (.lconst 0, 1) := by decide +kernel
theorem d4_1 : decode method_3_code 1 = .ok (.lstore 8, 2) := by decide +kernel
theorem d4_3 : decode method_3_code 3 = .ok (.lconst 0, 1) := by decide +kernel
theorem d4_4 : decode method_3_code 4 = .ok (.lstore 10, 2) := by decide +kernel
theorem d4_6 : decode method_3_code 6 = .ok (.iconst 0, 1) := by decide +kernel
theorem d4_7 : decode method_3_code 7 = .ok (.istore 12, 2) := by decide +kernel
theorem d4_9 : decode method_3_code 9 = .ok (.iload_n 1, 1) := by decide +kernel
theorem d4_10 : decode method_3_code 10 = .ok (.iload_n 2, 1) := by decide +kernel
theorem d4_11 : decode method_3_code 11 = .ok (.if_icmp .ne 22, 3) := by decide +kernel
theorem d4_14 : decode method_3_code 14 = .ok (.lload 8, 2) := by decide +kernel
theorem d4_16 : decode method_3_code 16 = .ok (.iload 4, 2) := by decide +kernel
theorem d4_18 : decode method_3_code 18 = .ok (.i2l, 1) := by decide +kernel
theorem d4_19 : decode method_3_code 19 = .ok (.ladd, 1) := by decide +kernel
theorem d4_20 : decode method_3_code 20 = .ok (.lstore 8, 2) := by decide +kernel
theorem d4_22 : decode method_3_code 22 = .ok (.lload 10, 2) := by decide +kernel
theorem d4_24 : decode method_3_code 24 = .ok (.iload 5, 2) := by decide +kernel
theorem d4_26 : decode method_3_code 26 = .ok (.i2l, 1) := by decide +kernel
theorem d4_27 : decode method_3_code 27 = .ok (.ladd, 1) := by decide +kernel
theorem d4_28 : decode method_3_code 28 = .ok (.lstore 10, 2) := by decide +kernel
theorem d4_30 : decode method_3_code 30 = .ok (.iinc 12 1, 3) := by decide +kernel
theorem d4_33 : decode method_3_code 33 = .ok (.iload_n 1, 1) := by decide +kernel
theorem d4_34 : decode method_3_code 34 = .ok (.iload_n 3, 1) := by decide +kernel
theorem d4_35 : decode method_3_code 35 = .ok (.if_icmp .ne 22, 3) := by decide +kernel
theorem d4_38 : decode method_3_code 38 = .ok (.lload 8, 2) := by decide +kernel
theorem d4_40 : decode method_3_code 40 = .ok (.iload 6, 2) := by decide +kernel
theorem d4_42 : decode method_3_code 42 = .ok (.i2l, 1) := by decide +kernel
theorem d4_43 : decode method_3_code 43 = .ok (.ladd, 1) := by decide +kernel
theorem d4_44 : decode method_3_code 44 = .ok (.lstore 8, 2) := by decide +kernel
theorem d4_46 : decode method_3_code 46 = .ok (.lload 10, 2) := by decide +kernel
theorem d4_48 : decode method_3_code 48 = .ok (.iload 7, 2) := by decide +kernel
theorem d4_50 : decode method_3_code 50 = .ok (.i2l, 1) := by decide +kernel
theorem d4_51 : decode method_3_code 51 = .ok (.ladd, 1) := by decide +kernel
theorem d4_52 : decode method_3_code 52 = .ok (.lstore 10, 2) := by decide +kernel
theorem d4_54 : decode method_3_code 54 = .ok (.iinc 12 1, 3) := by decide +kernel
theorem d4_57 : decode method_3_code 57 = .ok (.aload_n 0, 1) := by decide +kernel
theorem d4_58 : decode method_3_code 58 = .ok (.iload_n 1, 1) := by decide +kernel
theorem d4_59 : decode method_3_code 59 = .ok (.invokevirtual 28, 3) := by decide +kernel
theorem d4_62 : decode method_3_code 62 = .ok (.lload 8, 2) := by decide +kernel
theorem d4_64 : decode method_3_code 64 = .ok (.l2d, 1) := by decide +kernel
theorem d4_65 : decode method_3_code 65 = .ok (.dcmp .l, 1) := by decide +kernel
theorem d4_66 : decode method_3_code 66 = .ok (.ifCond .ne 29, 3) := by decide +kernel
theorem d4_69 : decode method_3_code 69 = .ok (.aload_n 0, 1) := by decide +kernel
theorem d4_70 : decode method_3_code 70 = .ok (.iload_n 1, 1) := by decide +kernel
theorem d4_71 : decode method_3_code 71 = .ok (.invokevirtual 32, 3) := by decide +kernel
theorem d4_74 : decode method_3_code 74 = .ok (.iload 12, 2) := by decide +kernel
theorem d4_76 : decode method_3_code 76 = .ok (.if_icmp .ne 19, 3) := by decide +kernel
theorem d4_79 : decode method_3_code 79 = .ok (.aload_n 0, 1) := by decide +kernel
theorem d4_80 : decode method_3_code 80 = .ok (.iload_n 1, 1) := by decide +kernel
theorem d4_81 : decode method_3_code 81 = .ok (.invokevirtual 36, 3) := by decide +kernel
theorem d4_84 : decode method_3_code 84 = .ok (.lload 10, 2) := by decide +kernel
theorem d4_86 : decode method_3_code 86 = .ok (.l2d, 1) := by decide +kernel
theorem d4_87 : decode method_3_code 87 = .ok (.dcmp .l, 1) := by decide +kernel
theorem d4_88 : decode method_3_code 88 = .ok (.ifCond .ne 7, 3) := by decide +kernel
theorem d4_91 : decode method_3_code 91 = .ok (.iconst 1, 1) := by decide +kernel
theorem d4_92 : decode method_3_code 92 = .ok (.goto 4, 3) := by decide +kernel
theorem d4_96 : decode method_3_code 96 = .ok (.ireturn, 1) := by decide +kernel
theorem pn4 : plainName "com/example/merkmal/merkmal/rank/QueryMatchAddPinLaw" = true := by first | (simp [plainName, overriddenIn]; done) | decide +kernel
theorem pd4_0 : parseMethodDescriptor "(I)D" = some ⟨[.int], some .double⟩ := by decide +kernel
theorem pd4_1 : parseMethodDescriptor "(I)I" = some ⟨[.int], some .int⟩ := by decide +kernel
theorem ef4 (m : MethodId) (a0 : Addr) (p1 : Int32) (p2 : Int32) (p3 : Int32) (p4 : Int32) (p5 : Int32) (p6 : Int32) (p7 : Int32) : entryFrame m #[(.ref a0), (.int p1), (.int p2), (.int p3), (.int p4), (.int p5), (.int p6), (.int p7)] 13 = mkF m 0 #[.val (.ref a0), .val (.int p1), .val (.int p2), .val (.int p3), .val (.int p4), .val (.int p5), .val (.int p6), .val (.int p7), .unset, .unset, .unset, .unset, .unset] [] := by first | (simp [entryFrame, mkF, argsToLocals, Value.category]; done) | rfl
def Q4 (Z : State) (a0 : Addr) (p1 : Int32) (p2 : Int32) (p3 : Int32) (p4 : Int32) (p5 : Int32) (p6 : Int32) (p7 : Int32) (w_termSums_a0 : Addr) (kk_w_termSums_a0 : ClassId) (z_w_termSums_a0 : Int32) (vs_w_termSums_a0 : List Value) (dv_w_termSums_a0 : Value) (w_termsHeld_a0 : Addr) (kk_w_termsHeld_a0 : ClassId) (z_w_termsHeld_a0 : Int32) (vs_w_termsHeld_a0 : List Value) (dv_w_termsHeld_a0 : Value) (w_queryCountsHeld_a0 : Addr) (kk_w_queryCountsHeld_a0 : ClassId) (z_w_queryCountsHeld_a0 : Int32) (vs_w_queryCountsHeld_a0 : List Value) (dv_w_queryCountsHeld_a0 : Value) (h0 : Heap) (n0 : Nat) (v : Option Value) (h : Heap) (L : List Loc) : Prop := v = some (.int (1 : Int32)) ∧ Fr n0 L ∧ h = h0
set_option maxRecDepth 65536 in
set_option maxHeartbeats 40000000 in
theorem rm4 (l : Launch) (Z : State) (ar : Array Value) (hw : ∀ d ∈ tables_1, d.before ar Z = true) (ws : List Jvm.Cond) (a0 : Addr) (p1 : Int32) (p2 : Int32) (p3 : Int32) (p4 : Int32) (p5 : Int32) (p6 : Int32) (p7 : Int32) (w_termSums_a0 : Addr) (kk_w_termSums_a0 : ClassId) (z_w_termSums_a0 : Int32) (vs_w_termSums_a0 : List Value) (dv_w_termSums_a0 : Value) (w_termsHeld_a0 : Addr) (kk_w_termsHeld_a0 : ClassId) (z_w_termsHeld_a0 : Int32) (vs_w_termsHeld_a0 : List Value) (dv_w_termsHeld_a0 : Value) (w_queryCountsHeld_a0 : Addr) (kk_w_queryCountsHeld_a0 : ClassId) (z_w_queryCountsHeld_a0 : Int32) (vs_w_queryCountsHeld_a0 : List Value) (dv_w_queryCountsHeld_a0 : Value) (h0 : Heap) (n0 : Nat) (Z0 : n0 ≤ h0.size) (E_a0 : Exa Z h0 a0 "com/example/merkmal/merkmal/rank/QueryMatch") (F_termSums_a0 : Fld Z h0 a0 "com/example/merkmal/merkmal/rank/QueryMatch" "termSums" "[D" (.ref w_termSums_a0)) (V_w_termSums_a0 : Arv Z h0 w_termSums_a0 kk_w_termSums_a0 .double z_w_termSums_a0 vs_w_termSums_a0 dv_w_termSums_a0) (F_termsHeld_a0 : Fld Z h0 a0 "com/example/merkmal/merkmal/rank/QueryMatch" "termsHeld" "[I" (.ref w_termsHeld_a0)) (V_w_termsHeld_a0 : Arv Z h0 w_termsHeld_a0 kk_w_termsHeld_a0 .int z_w_termsHeld_a0 vs_w_termsHeld_a0 dv_w_termsHeld_a0) (F_queryCountsHeld_a0 : Fld Z h0 a0 "com/example/merkmal/merkmal/rank/QueryMatch" "queryCountsHeld" "[D" (.ref w_queryCountsHeld_a0)) (V_w_queryCountsHeld_a0 : Arv Z h0 w_queryCountsHeld_a0 kk_w_queryCountsHeld_a0 .double z_w_queryCountsHeld_a0 vs_w_queryCountsHeld_a0 dv_w_queryCountsHeld_a0) (hu59 : vs_w_termSums_a0.getD (p1).toNatClampNeg dv_w_termSums_a0 = (.double (own_u p1 p2 p3 p4 p6))) (hi59 : ¬ p1 < 0 ∧ p1 < z_w_termSums_a0) (hu71 : vs_w_termsHeld_a0.getD (p1).toNatClampNeg dv_w_termsHeld_a0 = (.int (own_c p1 p2 p3))) (hi71 : ¬ p1 < 0 ∧ p1 < z_w_termsHeld_a0) (hu81 : vs_w_queryCountsHeld_a0.getD (p1).toNatClampNeg dv_w_queryCountsHeld_a0 = (.double (own_u p1 p2 p3 p5 p7))) (hi81 : ¬ p1 < 0 ∧ p1 < z_w_queryCountsHeld_a0) :
    MetFree l (⟨"com/example/merkmal/merkmal/rank/QueryMatchAddPinLaw", "holds", "(Lcom/example/merkmal/merkmal/rank/QueryMatch;IIIIIII)Z"⟩ : MethodName) (head1 (Jvm.Cond.code (⟨"com/example/merkmal/merkmal/rank/QueryMatchAddPinLaw", "holds", "(Lcom/example/merkmal/merkmal/rank/QueryMatch;IIIIIII)Z"⟩ : MethodName) method_3_code 13 (some .boolean) :: ws) ({ frames := 1, cells := 0, slots := 0, locals := 13 } : Room)) (fun a U => a = #[(.ref a0), (.int p1), (.int p2), (.int p3), (.int p4), (.int p5), (.int p6), (.int p7)] ∧ Z.Warmed39 U.vm ∧ U.heap = h0) (fun _ _ _ _ _ => True) (fun _ U o U' => ∃ v L, o = .returned v ∧ Q4 Z a0 p1 p2 p3 p4 p5 p6 p7 w_termSums_a0 kk_w_termSums_a0 z_w_termSums_a0 vs_w_termSums_a0 dv_w_termSums_a0 w_termsHeld_a0 kk_w_termsHeld_a0 z_w_termsHeld_a0 vs_w_termsHeld_a0 dv_w_termsHeld_a0 w_queryCountsHeld_a0 kk_w_queryCountsHeld_a0 z_w_queryCountsHeld_a0 vs_w_queryCountsHeld_a0 dv_w_queryCountsHeld_a0 h0 n0 v U'.heap L ∧ FrameEnd U o U' L ({ frames := 1, cells := 0, slots := 0, locals := 13 } : Room).cells ({ frames := 1, cells := 0, slots := 0, locals := 13 } : Room).slots) := by
  refine MetFree.of_bodySF (plainFor_of_name pn4) hisR ?_
  intro p e s m args below meth c s₁ Bd hml0 hP hK
  obtain ⟨rfl, hZ, hh⟩ := hP
  have hx := Bd.exec
  have hby := Bd.bytes
  have hlk := Bd.notSynchronized
  have hml : c.maxLocals = 13 := hml0
  have hown : s.vm.findClass "com/example/merkmal/merkmal/rank/QueryMatchAddPinLaw" = some m.cls := findClass_of_methodNamed Bd.named
  have hnm := (name_of_methodNamed Bd.named Bd.method).1
  have X0 : Stand p l e ({ frames := 1, cells := 0, slots := 0, locals := 13 } : Room) s m #[(.ref a0), (.int p1), (.int p2), (.int p3), (.int p4), (.int p5), (.int p6), (.int p7)] below meth c s₁ [] 0 0 := Stand.of_body Bd
  have e0 : s₁.heap = h0 := by rw [← hh, Bd.state]; rfl
  have N0 := Fr.nil n0
  have K0 := Keep.refl h0 []
  refine own_enter (Q := Q4 Z a0 p1 p2 p3 p4 p5 p6 p7 w_termSums_a0 kk_w_termSums_a0 z_w_termSums_a0 vs_w_termSums_a0 dv_w_termSums_a0 w_termsHeld_a0 kk_w_termsHeld_a0 z_w_termsHeld_a0 vs_w_termsHeld_a0 dv_w_termsHeld_a0 w_queryCountsHeld_a0 kk_w_queryCountsHeld_a0 z_w_queryCountsHeld_a0 vs_w_queryCountsHeld_a0 dv_w_queryCountsHeld_a0 h0 n0) (ef4 m a0 p1 p2 p3 p4 p5 p6 p7) ?_
  refine own_st (T' := s₁) (g' := (mkF m 11 #[.val (.ref a0), .val (.int p1), .val (.int p2), .val (.int p3), .val (.int p4), .val (.int p5), .val (.int p6), .val (.int p7), .val (.long (0 : Int64)), .second, .val (.long (0 : Int64)), .second, .val (.int (0 : Int32))] [(.int p2), (.int p1)])) (fun t k => ?_) ?_
  · show Steps p.tables e below (s₁.setTop (mkF m 0 #[.val (.ref a0), .val (.int p1), .val (.int p2), .val (.int p3), .val (.int p4), .val (.int p5), .val (.int p6), .val (.int p7), .unset, .unset, .unset, .unset, .unset] [])) t
    refine XS.lconst X0.here hx rfl (hb hby d4_0) ?_
    show Steps p.tables e below (s₁.setTop (mkF m 1 #[.val (.ref a0), .val (.int p1), .val (.int p2), .val (.int p3), .val (.int p4), .val (.int p5), .val (.int p6), .val (.int p7), .unset, .unset, .unset, .unset, .unset] [(.long (0 : Int64))])) t
    refine XS.lstore X0.here hx rfl (hb hby d4_1) rfl (l' := #[.val (.ref a0), .val (.int p1), .val (.int p2), .val (.int p3), .val (.int p4), .val (.int p5), .val (.int p6), .val (.int p7), .val (.long (0 : Int64)), .second, .unset, .unset, .unset]) rfl ?_
    show Steps p.tables e below (s₁.setTop (mkF m 3 #[.val (.ref a0), .val (.int p1), .val (.int p2), .val (.int p3), .val (.int p4), .val (.int p5), .val (.int p6), .val (.int p7), .val (.long (0 : Int64)), .second, .unset, .unset, .unset] [])) t
    refine XS.lconst X0.here hx rfl (hb hby d4_3) ?_
    show Steps p.tables e below (s₁.setTop (mkF m 4 #[.val (.ref a0), .val (.int p1), .val (.int p2), .val (.int p3), .val (.int p4), .val (.int p5), .val (.int p6), .val (.int p7), .val (.long (0 : Int64)), .second, .unset, .unset, .unset] [(.long (0 : Int64))])) t
    refine XS.lstore X0.here hx rfl (hb hby d4_4) rfl (l' := #[.val (.ref a0), .val (.int p1), .val (.int p2), .val (.int p3), .val (.int p4), .val (.int p5), .val (.int p6), .val (.int p7), .val (.long (0 : Int64)), .second, .val (.long (0 : Int64)), .second, .unset]) rfl ?_
    show Steps p.tables e below (s₁.setTop (mkF m 6 #[.val (.ref a0), .val (.int p1), .val (.int p2), .val (.int p3), .val (.int p4), .val (.int p5), .val (.int p6), .val (.int p7), .val (.long (0 : Int64)), .second, .val (.long (0 : Int64)), .second, .unset] [])) t
    refine XS.iconst X0.here hx rfl (hb hby d4_6) ?_
    show Steps p.tables e below (s₁.setTop (mkF m 7 #[.val (.ref a0), .val (.int p1), .val (.int p2), .val (.int p3), .val (.int p4), .val (.int p5), .val (.int p6), .val (.int p7), .val (.long (0 : Int64)), .second, .val (.long (0 : Int64)), .second, .unset] [(.int (0 : Int32))])) t
    refine XS.istore X0.here hx rfl (hb hby d4_7) rfl (l' := #[.val (.ref a0), .val (.int p1), .val (.int p2), .val (.int p3), .val (.int p4), .val (.int p5), .val (.int p6), .val (.int p7), .val (.long (0 : Int64)), .second, .val (.long (0 : Int64)), .second, .val (.int (0 : Int32))]) rfl ?_
    show Steps p.tables e below (s₁.setTop (mkF m 9 #[.val (.ref a0), .val (.int p1), .val (.int p2), .val (.int p3), .val (.int p4), .val (.int p5), .val (.int p6), .val (.int p7), .val (.long (0 : Int64)), .second, .val (.long (0 : Int64)), .second, .val (.int (0 : Int32))] [])) t
    refine XS.iloadN X0.here hx rfl (hb hby d4_9) rfl ?_
    show Steps p.tables e below (s₁.setTop (mkF m 10 #[.val (.ref a0), .val (.int p1), .val (.int p2), .val (.int p3), .val (.int p4), .val (.int p5), .val (.int p6), .val (.int p7), .val (.long (0 : Int64)), .second, .val (.long (0 : Int64)), .second, .val (.int (0 : Int32))] [(.int p1)])) t
    refine XS.iloadN X0.here hx rfl (hb hby d4_10) rfl ?_
    exact k
  by_cases hc11_1 : p1 = p2
  · refine own_st (T' := s₁) (g' := (mkF m 35 #[.val (.ref a0), .val (.int p1), .val (.int p2), .val (.int p3), .val (.int p4), .val (.int p5), .val (.int p6), .val (.int p7), .val (.long ((0 : Int64) + (p4.toInt64))), .second, .val (.long ((0 : Int64) + (p5.toInt64))), .second, .val (.int (1 : Int32))] [(.int p3), (.int p1)])) (fun t k => ?_) ?_
    · show Steps p.tables e below (s₁.setTop (mkF m 11 #[.val (.ref a0), .val (.int p1), .val (.int p2), .val (.int p3), .val (.int p4), .val (.int p5), .val (.int p6), .val (.int p7), .val (.long (0 : Int64)), .second, .val (.long (0 : Int64)), .second, .val (.int (0 : Int32))] [(.int p2), (.int p1)])) t
      refine XS.icmpNo X0.here hx rfl (hb hby d4_11) rfl (teq hc11_1).2 ?_
      show Steps p.tables e below (s₁.setTop (mkF m 14 #[.val (.ref a0), .val (.int p1), .val (.int p2), .val (.int p3), .val (.int p4), .val (.int p5), .val (.int p6), .val (.int p7), .val (.long (0 : Int64)), .second, .val (.long (0 : Int64)), .second, .val (.int (0 : Int32))] [])) t
      refine XS.lload X0.here hx rfl (hb hby d4_14) rfl ?_
      show Steps p.tables e below (s₁.setTop (mkF m 16 #[.val (.ref a0), .val (.int p1), .val (.int p2), .val (.int p3), .val (.int p4), .val (.int p5), .val (.int p6), .val (.int p7), .val (.long (0 : Int64)), .second, .val (.long (0 : Int64)), .second, .val (.int (0 : Int32))] [(.long (0 : Int64))])) t
      refine XS.iload X0.here hx rfl (hb hby d4_16) rfl ?_
      show Steps p.tables e below (s₁.setTop (mkF m 18 #[.val (.ref a0), .val (.int p1), .val (.int p2), .val (.int p3), .val (.int p4), .val (.int p5), .val (.int p6), .val (.int p7), .val (.long (0 : Int64)), .second, .val (.long (0 : Int64)), .second, .val (.int (0 : Int32))] [(.int p4), (.long (0 : Int64))])) t
      refine XS.i2l X0.here hx rfl (hb hby d4_18) rfl ?_
      show Steps p.tables e below (s₁.setTop (mkF m 19 #[.val (.ref a0), .val (.int p1), .val (.int p2), .val (.int p3), .val (.int p4), .val (.int p5), .val (.int p6), .val (.int p7), .val (.long (0 : Int64)), .second, .val (.long (0 : Int64)), .second, .val (.int (0 : Int32))] [(.long (p4.toInt64)), (.long (0 : Int64))])) t
      refine XS.ladd X0.here hx rfl (hb hby d4_19) rfl ?_
      show Steps p.tables e below (s₁.setTop (mkF m 20 #[.val (.ref a0), .val (.int p1), .val (.int p2), .val (.int p3), .val (.int p4), .val (.int p5), .val (.int p6), .val (.int p7), .val (.long (0 : Int64)), .second, .val (.long (0 : Int64)), .second, .val (.int (0 : Int32))] [(.long ((0 : Int64) + (p4.toInt64)))])) t
      refine XS.lstore X0.here hx rfl (hb hby d4_20) rfl (l' := #[.val (.ref a0), .val (.int p1), .val (.int p2), .val (.int p3), .val (.int p4), .val (.int p5), .val (.int p6), .val (.int p7), .val (.long ((0 : Int64) + (p4.toInt64))), .second, .val (.long (0 : Int64)), .second, .val (.int (0 : Int32))]) rfl ?_
      show Steps p.tables e below (s₁.setTop (mkF m 22 #[.val (.ref a0), .val (.int p1), .val (.int p2), .val (.int p3), .val (.int p4), .val (.int p5), .val (.int p6), .val (.int p7), .val (.long ((0 : Int64) + (p4.toInt64))), .second, .val (.long (0 : Int64)), .second, .val (.int (0 : Int32))] [])) t
      refine XS.lload X0.here hx rfl (hb hby d4_22) rfl ?_
      show Steps p.tables e below (s₁.setTop (mkF m 24 #[.val (.ref a0), .val (.int p1), .val (.int p2), .val (.int p3), .val (.int p4), .val (.int p5), .val (.int p6), .val (.int p7), .val (.long ((0 : Int64) + (p4.toInt64))), .second, .val (.long (0 : Int64)), .second, .val (.int (0 : Int32))] [(.long (0 : Int64))])) t
      refine XS.iload X0.here hx rfl (hb hby d4_24) rfl ?_
      show Steps p.tables e below (s₁.setTop (mkF m 26 #[.val (.ref a0), .val (.int p1), .val (.int p2), .val (.int p3), .val (.int p4), .val (.int p5), .val (.int p6), .val (.int p7), .val (.long ((0 : Int64) + (p4.toInt64))), .second, .val (.long (0 : Int64)), .second, .val (.int (0 : Int32))] [(.int p5), (.long (0 : Int64))])) t
      refine XS.i2l X0.here hx rfl (hb hby d4_26) rfl ?_
      show Steps p.tables e below (s₁.setTop (mkF m 27 #[.val (.ref a0), .val (.int p1), .val (.int p2), .val (.int p3), .val (.int p4), .val (.int p5), .val (.int p6), .val (.int p7), .val (.long ((0 : Int64) + (p4.toInt64))), .second, .val (.long (0 : Int64)), .second, .val (.int (0 : Int32))] [(.long (p5.toInt64)), (.long (0 : Int64))])) t
      refine XS.ladd X0.here hx rfl (hb hby d4_27) rfl ?_
      show Steps p.tables e below (s₁.setTop (mkF m 28 #[.val (.ref a0), .val (.int p1), .val (.int p2), .val (.int p3), .val (.int p4), .val (.int p5), .val (.int p6), .val (.int p7), .val (.long ((0 : Int64) + (p4.toInt64))), .second, .val (.long (0 : Int64)), .second, .val (.int (0 : Int32))] [(.long ((0 : Int64) + (p5.toInt64)))])) t
      refine XS.lstore X0.here hx rfl (hb hby d4_28) rfl (l' := #[.val (.ref a0), .val (.int p1), .val (.int p2), .val (.int p3), .val (.int p4), .val (.int p5), .val (.int p6), .val (.int p7), .val (.long ((0 : Int64) + (p4.toInt64))), .second, .val (.long ((0 : Int64) + (p5.toInt64))), .second, .val (.int (0 : Int32))]) rfl ?_
      show Steps p.tables e below (s₁.setTop (mkF m 30 #[.val (.ref a0), .val (.int p1), .val (.int p2), .val (.int p3), .val (.int p4), .val (.int p5), .val (.int p6), .val (.int p7), .val (.long ((0 : Int64) + (p4.toInt64))), .second, .val (.long ((0 : Int64) + (p5.toInt64))), .second, .val (.int (0 : Int32))] [])) t
      refine XS.iinc X0.here hx rfl (hb hby d4_30) rfl (l' := #[.val (.ref a0), .val (.int p1), .val (.int p2), .val (.int p3), .val (.int p4), .val (.int p5), .val (.int p6), .val (.int p7), .val (.long ((0 : Int64) + (p4.toInt64))), .second, .val (.long ((0 : Int64) + (p5.toInt64))), .second, .val (.int (1 : Int32))]) rfl ?_
      show Steps p.tables e below (s₁.setTop (mkF m 33 #[.val (.ref a0), .val (.int p1), .val (.int p2), .val (.int p3), .val (.int p4), .val (.int p5), .val (.int p6), .val (.int p7), .val (.long ((0 : Int64) + (p4.toInt64))), .second, .val (.long ((0 : Int64) + (p5.toInt64))), .second, .val (.int (1 : Int32))] [])) t
      refine XS.iloadN X0.here hx rfl (hb hby d4_33) rfl ?_
      show Steps p.tables e below (s₁.setTop (mkF m 34 #[.val (.ref a0), .val (.int p1), .val (.int p2), .val (.int p3), .val (.int p4), .val (.int p5), .val (.int p6), .val (.int p7), .val (.long ((0 : Int64) + (p4.toInt64))), .second, .val (.long ((0 : Int64) + (p5.toInt64))), .second, .val (.int (1 : Int32))] [(.int p1)])) t
      refine XS.iloadN X0.here hx rfl (hb hby d4_34) rfl ?_
      exact k
    by_cases hc35_2 : p1 = p3
    · refine own_st (T' := s₁) (g' := (mkF m 59 #[.val (.ref a0), .val (.int p1), .val (.int p2), .val (.int p3), .val (.int p4), .val (.int p5), .val (.int p6), .val (.int p7), .val (.long (((0 : Int64) + (p4.toInt64)) + (p6.toInt64))), .second, .val (.long (((0 : Int64) + (p5.toInt64)) + (p7.toInt64))), .second, .val (.int (2 : Int32))] [(.int p1), (.ref a0)])) (fun t k => ?_) ?_
      · show Steps p.tables e below (s₁.setTop (mkF m 35 #[.val (.ref a0), .val (.int p1), .val (.int p2), .val (.int p3), .val (.int p4), .val (.int p5), .val (.int p6), .val (.int p7), .val (.long ((0 : Int64) + (p4.toInt64))), .second, .val (.long ((0 : Int64) + (p5.toInt64))), .second, .val (.int (1 : Int32))] [(.int p3), (.int p1)])) t
        refine XS.icmpNo X0.here hx rfl (hb hby d4_35) rfl (teq hc35_2).2 ?_
        show Steps p.tables e below (s₁.setTop (mkF m 38 #[.val (.ref a0), .val (.int p1), .val (.int p2), .val (.int p3), .val (.int p4), .val (.int p5), .val (.int p6), .val (.int p7), .val (.long ((0 : Int64) + (p4.toInt64))), .second, .val (.long ((0 : Int64) + (p5.toInt64))), .second, .val (.int (1 : Int32))] [])) t
        refine XS.lload X0.here hx rfl (hb hby d4_38) rfl ?_
        show Steps p.tables e below (s₁.setTop (mkF m 40 #[.val (.ref a0), .val (.int p1), .val (.int p2), .val (.int p3), .val (.int p4), .val (.int p5), .val (.int p6), .val (.int p7), .val (.long ((0 : Int64) + (p4.toInt64))), .second, .val (.long ((0 : Int64) + (p5.toInt64))), .second, .val (.int (1 : Int32))] [(.long ((0 : Int64) + (p4.toInt64)))])) t
        refine XS.iload X0.here hx rfl (hb hby d4_40) rfl ?_
        show Steps p.tables e below (s₁.setTop (mkF m 42 #[.val (.ref a0), .val (.int p1), .val (.int p2), .val (.int p3), .val (.int p4), .val (.int p5), .val (.int p6), .val (.int p7), .val (.long ((0 : Int64) + (p4.toInt64))), .second, .val (.long ((0 : Int64) + (p5.toInt64))), .second, .val (.int (1 : Int32))] [(.int p6), (.long ((0 : Int64) + (p4.toInt64)))])) t
        refine XS.i2l X0.here hx rfl (hb hby d4_42) rfl ?_
        show Steps p.tables e below (s₁.setTop (mkF m 43 #[.val (.ref a0), .val (.int p1), .val (.int p2), .val (.int p3), .val (.int p4), .val (.int p5), .val (.int p6), .val (.int p7), .val (.long ((0 : Int64) + (p4.toInt64))), .second, .val (.long ((0 : Int64) + (p5.toInt64))), .second, .val (.int (1 : Int32))] [(.long (p6.toInt64)), (.long ((0 : Int64) + (p4.toInt64)))])) t
        refine XS.ladd X0.here hx rfl (hb hby d4_43) rfl ?_
        show Steps p.tables e below (s₁.setTop (mkF m 44 #[.val (.ref a0), .val (.int p1), .val (.int p2), .val (.int p3), .val (.int p4), .val (.int p5), .val (.int p6), .val (.int p7), .val (.long ((0 : Int64) + (p4.toInt64))), .second, .val (.long ((0 : Int64) + (p5.toInt64))), .second, .val (.int (1 : Int32))] [(.long (((0 : Int64) + (p4.toInt64)) + (p6.toInt64)))])) t
        refine XS.lstore X0.here hx rfl (hb hby d4_44) rfl (l' := #[.val (.ref a0), .val (.int p1), .val (.int p2), .val (.int p3), .val (.int p4), .val (.int p5), .val (.int p6), .val (.int p7), .val (.long (((0 : Int64) + (p4.toInt64)) + (p6.toInt64))), .second, .val (.long ((0 : Int64) + (p5.toInt64))), .second, .val (.int (1 : Int32))]) rfl ?_
        show Steps p.tables e below (s₁.setTop (mkF m 46 #[.val (.ref a0), .val (.int p1), .val (.int p2), .val (.int p3), .val (.int p4), .val (.int p5), .val (.int p6), .val (.int p7), .val (.long (((0 : Int64) + (p4.toInt64)) + (p6.toInt64))), .second, .val (.long ((0 : Int64) + (p5.toInt64))), .second, .val (.int (1 : Int32))] [])) t
        refine XS.lload X0.here hx rfl (hb hby d4_46) rfl ?_
        show Steps p.tables e below (s₁.setTop (mkF m 48 #[.val (.ref a0), .val (.int p1), .val (.int p2), .val (.int p3), .val (.int p4), .val (.int p5), .val (.int p6), .val (.int p7), .val (.long (((0 : Int64) + (p4.toInt64)) + (p6.toInt64))), .second, .val (.long ((0 : Int64) + (p5.toInt64))), .second, .val (.int (1 : Int32))] [(.long ((0 : Int64) + (p5.toInt64)))])) t
        refine XS.iload X0.here hx rfl (hb hby d4_48) rfl ?_
        show Steps p.tables e below (s₁.setTop (mkF m 50 #[.val (.ref a0), .val (.int p1), .val (.int p2), .val (.int p3), .val (.int p4), .val (.int p5), .val (.int p6), .val (.int p7), .val (.long (((0 : Int64) + (p4.toInt64)) + (p6.toInt64))), .second, .val (.long ((0 : Int64) + (p5.toInt64))), .second, .val (.int (1 : Int32))] [(.int p7), (.long ((0 : Int64) + (p5.toInt64)))])) t
        refine XS.i2l X0.here hx rfl (hb hby d4_50) rfl ?_
        show Steps p.tables e below (s₁.setTop (mkF m 51 #[.val (.ref a0), .val (.int p1), .val (.int p2), .val (.int p3), .val (.int p4), .val (.int p5), .val (.int p6), .val (.int p7), .val (.long (((0 : Int64) + (p4.toInt64)) + (p6.toInt64))), .second, .val (.long ((0 : Int64) + (p5.toInt64))), .second, .val (.int (1 : Int32))] [(.long (p7.toInt64)), (.long ((0 : Int64) + (p5.toInt64)))])) t
        refine XS.ladd X0.here hx rfl (hb hby d4_51) rfl ?_
        show Steps p.tables e below (s₁.setTop (mkF m 52 #[.val (.ref a0), .val (.int p1), .val (.int p2), .val (.int p3), .val (.int p4), .val (.int p5), .val (.int p6), .val (.int p7), .val (.long (((0 : Int64) + (p4.toInt64)) + (p6.toInt64))), .second, .val (.long ((0 : Int64) + (p5.toInt64))), .second, .val (.int (1 : Int32))] [(.long (((0 : Int64) + (p5.toInt64)) + (p7.toInt64)))])) t
        refine XS.lstore X0.here hx rfl (hb hby d4_52) rfl (l' := #[.val (.ref a0), .val (.int p1), .val (.int p2), .val (.int p3), .val (.int p4), .val (.int p5), .val (.int p6), .val (.int p7), .val (.long (((0 : Int64) + (p4.toInt64)) + (p6.toInt64))), .second, .val (.long (((0 : Int64) + (p5.toInt64)) + (p7.toInt64))), .second, .val (.int (1 : Int32))]) rfl ?_
        show Steps p.tables e below (s₁.setTop (mkF m 54 #[.val (.ref a0), .val (.int p1), .val (.int p2), .val (.int p3), .val (.int p4), .val (.int p5), .val (.int p6), .val (.int p7), .val (.long (((0 : Int64) + (p4.toInt64)) + (p6.toInt64))), .second, .val (.long (((0 : Int64) + (p5.toInt64)) + (p7.toInt64))), .second, .val (.int (1 : Int32))] [])) t
        refine XS.iinc X0.here hx rfl (hb hby d4_54) rfl (l' := #[.val (.ref a0), .val (.int p1), .val (.int p2), .val (.int p3), .val (.int p4), .val (.int p5), .val (.int p6), .val (.int p7), .val (.long (((0 : Int64) + (p4.toInt64)) + (p6.toInt64))), .second, .val (.long (((0 : Int64) + (p5.toInt64)) + (p7.toInt64))), .second, .val (.int (2 : Int32))]) rfl ?_
        show Steps p.tables e below (s₁.setTop (mkF m 57 #[.val (.ref a0), .val (.int p1), .val (.int p2), .val (.int p3), .val (.int p4), .val (.int p5), .val (.int p6), .val (.int p7), .val (.long (((0 : Int64) + (p4.toInt64)) + (p6.toInt64))), .second, .val (.long (((0 : Int64) + (p5.toInt64)) + (p7.toInt64))), .second, .val (.int (2 : Int32))] [])) t
        refine XS.aloadN X0.here hx rfl (hb hby d4_57) rfl rfl ?_
        show Steps p.tables e below (s₁.setTop (mkF m 58 #[.val (.ref a0), .val (.int p1), .val (.int p2), .val (.int p3), .val (.int p4), .val (.int p5), .val (.int p6), .val (.int p7), .val (.long (((0 : Int64) + (p4.toInt64)) + (p6.toInt64))), .second, .val (.long (((0 : Int64) + (p5.toInt64)) + (p7.toInt64))), .second, .val (.int (2 : Int32))] [(.ref a0)])) t
        refine XS.iloadN X0.here hx rfl (hb hby d4_58) rfl ?_
        exact k
      obtain ⟨cq3, kq3, qa3, qb3, qc3⟩ := isOf hZ e0 E_a0
      obtain ⟨_, _, ⟨T3, L3, k3, n3⟩, -, X3, ⟨Lc3, hQ3, l3, y3, z3⟩, st3⟩ := X0.virtualBack hx (y := (⟨"com/example/merkmal/merkmal/rank/QueryMatch", "termSum", "(I)D"⟩ : MethodName)) (z := (⟨"com/example/merkmal/merkmal/rank/QueryMatch", "termSum", "(I)D"⟩ : MethodName)) hown (mvT hZ (hw _ (List.mem_of_getElem? (i := 30) rfl))) (mvT hZ (hw _ (List.mem_of_getElem? (i := 31) rfl))) (notFace_of_selects (args := #[]) (mvT hZ (hw _ (List.mem_of_getElem? (i := 33) rfl)))) (mvT hZ (hw _ (List.mem_of_getElem? (i := 33) rfl))) (mvT hZ (hw _ (List.mem_of_getElem? (i := 32) rfl))) (by decide) (backOf (W := 0) (rm5 l Z ar hw [] a0 p1 w_termSums_a0 kk_w_termSums_a0 z_w_termSums_a0 vs_w_termSums_a0 dv_w_termSums_a0 ((own_u p1 p2 p3 p4 p6)) h0 n0 Z0 E_a0 F_termSums_a0 V_w_termSums_a0 hi59 hu59) hZ (hw _ (List.mem_of_getElem? (i := 34) rfl)) (hw _ (List.mem_of_getElem? (i := 4) rfl)) (by decide) (by decide)) qa3 qc3 (g := (mkF m 59 #[.val (.ref a0), .val (.int p1), .val (.int p2), .val (.int p3), .val (.int p4), .val (.int p5), .val (.int p6), .val (.int p7), .val (.long (((0 : Int64) + (p4.toInt64)) + (p6.toInt64))), .second, .val (.long (((0 : Int64) + (p5.toInt64)) + (p7.toInt64))), .second, .val (.int (2 : Int32))] [(.int p1), (.ref a0)])) rfl (by rw [hml]; rfl) (Steps.refl _) (argsL := [(.int p1)]) (rest := []) (lenOf pd4_0 rfl) rfl (by show 2 * 0 + _ ≤ _; exact Nat.le_of_eq rfl) (hb hby d4_59) (fun _ _ => ⟨rfl, e0, (by decide : 0 + 0 ≤ _), (by decide : 0 + 0 ≤ _)⟩)
      dsimp only [Pt.U, Pt.locs, Pt.cells, Pt.slots] at X3 l3 y3 z3 st3 hQ3
      subst l3 y3 z3
      obtain ⟨rfl, N3q, e3⟩ := hQ3
      have n4 := Fr.app N0 N3q
      refine own_tr (T' := T3) (g' := (mkF m 62 #[.val (.ref a0), .val (.int p1), .val (.int p2), .val (.int p3), .val (.int p4), .val (.int p5), .val (.int p6), .val (.int p7), .val (.long (((0 : Int64) + (p4.toInt64)) + (p6.toInt64))), .second, .val (.long (((0 : Int64) + (p5.toInt64)) + (p7.toInt64))), .second, .val (.int (2 : Int32))] [(.double (own_u p1 p2 p3 p4 p6))])) st3 ?_
      refine own_st (T' := T3) (g' := (mkF m 71 #[.val (.ref a0), .val (.int p1), .val (.int p2), .val (.int p3), .val (.int p4), .val (.int p5), .val (.int p6), .val (.int p7), .val (.long (((0 : Int64) + (p4.toInt64)) + (p6.toInt64))), .second, .val (.long (((0 : Int64) + (p5.toInt64)) + (p7.toInt64))), .second, .val (.int (2 : Int32))] [(.int p1), (.ref a0)])) (fun t k => ?_) ?_
      · show Steps p.tables e below (T3.setTop (mkF m 62 #[.val (.ref a0), .val (.int p1), .val (.int p2), .val (.int p3), .val (.int p4), .val (.int p5), .val (.int p6), .val (.int p7), .val (.long (((0 : Int64) + (p4.toInt64)) + (p6.toInt64))), .second, .val (.long (((0 : Int64) + (p5.toInt64)) + (p7.toInt64))), .second, .val (.int (2 : Int32))] [(.double (own_u p1 p2 p3 p4 p6))])) t
        refine XS.lload X3.here hx rfl (hb hby d4_62) rfl ?_
        show Steps p.tables e below (T3.setTop (mkF m 64 #[.val (.ref a0), .val (.int p1), .val (.int p2), .val (.int p3), .val (.int p4), .val (.int p5), .val (.int p6), .val (.int p7), .val (.long (((0 : Int64) + (p4.toInt64)) + (p6.toInt64))), .second, .val (.long (((0 : Int64) + (p5.toInt64)) + (p7.toInt64))), .second, .val (.int (2 : Int32))] [(.long (((0 : Int64) + (p4.toInt64)) + (p6.toInt64))), (.double (own_u p1 p2 p3 p4 p6))])) t
        refine XS.l2dS X3.here hx rfl (hb hby d4_64) rfl rfl ?_
        show Steps p.tables e below (T3.setTop (mkF m 65 #[.val (.ref a0), .val (.int p1), .val (.int p2), .val (.int p3), .val (.int p4), .val (.int p5), .val (.int p6), .val (.int p7), .val (.long (((0 : Int64) + (p4.toInt64)) + (p6.toInt64))), .second, .val (.long (((0 : Int64) + (p5.toInt64)) + (p7.toInt64))), .second, .val (.int (2 : Int32))] [(.double (FP.l2d (((0 : Int64) + (p4.toInt64)) + (p6.toInt64)))), (.double (own_u p1 p2 p3 p4 p6))])) t
        refine XS.dcmpS X3.here hx rfl (hb hby d4_65) rfl (own_ktt hc11_1 hc35_2 p4 p6) ?_
        show Steps p.tables e below (T3.setTop (mkF m 66 #[.val (.ref a0), .val (.int p1), .val (.int p2), .val (.int p3), .val (.int p4), .val (.int p5), .val (.int p6), .val (.int p7), .val (.long (((0 : Int64) + (p4.toInt64)) + (p6.toInt64))), .second, .val (.long (((0 : Int64) + (p5.toInt64)) + (p7.toInt64))), .second, .val (.int (2 : Int32))] [(.int (0 : Int32))])) t
        refine XS.ifNo X3.here hx rfl (hb hby d4_66) rfl (by decide) ?_
        show Steps p.tables e below (T3.setTop (mkF m 69 #[.val (.ref a0), .val (.int p1), .val (.int p2), .val (.int p3), .val (.int p4), .val (.int p5), .val (.int p6), .val (.int p7), .val (.long (((0 : Int64) + (p4.toInt64)) + (p6.toInt64))), .second, .val (.long (((0 : Int64) + (p5.toInt64)) + (p7.toInt64))), .second, .val (.int (2 : Int32))] [])) t
        refine XS.aloadN X3.here hx rfl (hb hby d4_69) rfl rfl ?_
        show Steps p.tables e below (T3.setTop (mkF m 70 #[.val (.ref a0), .val (.int p1), .val (.int p2), .val (.int p3), .val (.int p4), .val (.int p5), .val (.int p6), .val (.int p7), .val (.long (((0 : Int64) + (p4.toInt64)) + (p6.toInt64))), .second, .val (.long (((0 : Int64) + (p5.toInt64)) + (p7.toInt64))), .second, .val (.int (2 : Int32))] [(.ref a0)])) t
        refine XS.iloadN X3.here hx rfl (hb hby d4_70) rfl ?_
        exact k
      obtain ⟨cq5, kq5, qa5, qb5, qc5⟩ := isOf hZ e3 E_a0
      obtain ⟨_, _, ⟨T5, L5, k5, n5⟩, -, X5, ⟨Lc5, hQ5, l5, y5, z5⟩, st5⟩ := X3.virtualBack hx (y := (⟨"com/example/merkmal/merkmal/rank/QueryMatch", "termsHeld", "(I)I"⟩ : MethodName)) (z := (⟨"com/example/merkmal/merkmal/rank/QueryMatch", "termsHeld", "(I)I"⟩ : MethodName)) hown (mvT hZ (hw _ (List.mem_of_getElem? (i := 35) rfl))) (mvT hZ (hw _ (List.mem_of_getElem? (i := 36) rfl))) (notFace_of_selects (args := #[]) (mvT hZ (hw _ (List.mem_of_getElem? (i := 38) rfl)))) (mvT hZ (hw _ (List.mem_of_getElem? (i := 38) rfl))) (mvT hZ (hw _ (List.mem_of_getElem? (i := 37) rfl))) (by decide) (backOf (W := 0) (rm6 l Z ar hw [] a0 p1 w_termsHeld_a0 kk_w_termsHeld_a0 z_w_termsHeld_a0 vs_w_termsHeld_a0 dv_w_termsHeld_a0 ((own_c p1 p2 p3)) h0 n0 Z0 E_a0 F_termsHeld_a0 V_w_termsHeld_a0 hi71 hu71) hZ (hw _ (List.mem_of_getElem? (i := 39) rfl)) (hw _ (List.mem_of_getElem? (i := 4) rfl)) (by decide) (by decide)) qa5 qc5 (g := (mkF m 71 #[.val (.ref a0), .val (.int p1), .val (.int p2), .val (.int p3), .val (.int p4), .val (.int p5), .val (.int p6), .val (.int p7), .val (.long (((0 : Int64) + (p4.toInt64)) + (p6.toInt64))), .second, .val (.long (((0 : Int64) + (p5.toInt64)) + (p7.toInt64))), .second, .val (.int (2 : Int32))] [(.int p1), (.ref a0)])) rfl (by rw [hml]; rfl) (Steps.refl _) (argsL := [(.int p1)]) (rest := []) (lenOf pd4_1 rfl) rfl (by show 2 * 0 + _ ≤ _; exact Nat.le_of_eq rfl) (hb hby d4_71) (fun _ _ => ⟨rfl, e3, (by decide : 0 + 0 ≤ _), (by decide : 0 + 0 ≤ _)⟩)
      dsimp only [Pt.U, Pt.locs, Pt.cells, Pt.slots] at X5 l5 y5 z5 st5 hQ5
      subst l5 y5 z5
      obtain ⟨rfl, N5q, e5⟩ := hQ5
      have n6 := Fr.app n4 N5q
      refine own_tr (T' := T5) (g' := (mkF m 74 #[.val (.ref a0), .val (.int p1), .val (.int p2), .val (.int p3), .val (.int p4), .val (.int p5), .val (.int p6), .val (.int p7), .val (.long (((0 : Int64) + (p4.toInt64)) + (p6.toInt64))), .second, .val (.long (((0 : Int64) + (p5.toInt64)) + (p7.toInt64))), .second, .val (.int (2 : Int32))] [(.int (own_c p1 p2 p3))])) st5 ?_
      refine own_st (T' := T5) (g' := (mkF m 81 #[.val (.ref a0), .val (.int p1), .val (.int p2), .val (.int p3), .val (.int p4), .val (.int p5), .val (.int p6), .val (.int p7), .val (.long (((0 : Int64) + (p4.toInt64)) + (p6.toInt64))), .second, .val (.long (((0 : Int64) + (p5.toInt64)) + (p7.toInt64))), .second, .val (.int (2 : Int32))] [(.int p1), (.ref a0)])) (fun t k => ?_) ?_
      · show Steps p.tables e below (T5.setTop (mkF m 74 #[.val (.ref a0), .val (.int p1), .val (.int p2), .val (.int p3), .val (.int p4), .val (.int p5), .val (.int p6), .val (.int p7), .val (.long (((0 : Int64) + (p4.toInt64)) + (p6.toInt64))), .second, .val (.long (((0 : Int64) + (p5.toInt64)) + (p7.toInt64))), .second, .val (.int (2 : Int32))] [(.int (own_c p1 p2 p3))])) t
        refine XS.iload X5.here hx rfl (hb hby d4_74) rfl ?_
        show Steps p.tables e below (T5.setTop (mkF m 76 #[.val (.ref a0), .val (.int p1), .val (.int p2), .val (.int p3), .val (.int p4), .val (.int p5), .val (.int p6), .val (.int p7), .val (.long (((0 : Int64) + (p4.toInt64)) + (p6.toInt64))), .second, .val (.long (((0 : Int64) + (p5.toInt64)) + (p7.toInt64))), .second, .val (.int (2 : Int32))] [(.int (2 : Int32)), (.int (own_c p1 p2 p3))])) t
        refine XS.icmpNo X5.here hx rfl (hb hby d4_76) rfl (teq ((own_ctt hc11_1 hc35_2) : (own_c p1 p2 p3) = (2 : Int32))).2 ?_
        show Steps p.tables e below (T5.setTop (mkF m 79 #[.val (.ref a0), .val (.int p1), .val (.int p2), .val (.int p3), .val (.int p4), .val (.int p5), .val (.int p6), .val (.int p7), .val (.long (((0 : Int64) + (p4.toInt64)) + (p6.toInt64))), .second, .val (.long (((0 : Int64) + (p5.toInt64)) + (p7.toInt64))), .second, .val (.int (2 : Int32))] [])) t
        refine XS.aloadN X5.here hx rfl (hb hby d4_79) rfl rfl ?_
        show Steps p.tables e below (T5.setTop (mkF m 80 #[.val (.ref a0), .val (.int p1), .val (.int p2), .val (.int p3), .val (.int p4), .val (.int p5), .val (.int p6), .val (.int p7), .val (.long (((0 : Int64) + (p4.toInt64)) + (p6.toInt64))), .second, .val (.long (((0 : Int64) + (p5.toInt64)) + (p7.toInt64))), .second, .val (.int (2 : Int32))] [(.ref a0)])) t
        refine XS.iloadN X5.here hx rfl (hb hby d4_80) rfl ?_
        exact k
      obtain ⟨cq7, kq7, qa7, qb7, qc7⟩ := isOf hZ e5 E_a0
      obtain ⟨_, _, ⟨T7, L7, k7, n7⟩, -, X7, ⟨Lc7, hQ7, l7, y7, z7⟩, st7⟩ := X5.virtualBack hx (y := (⟨"com/example/merkmal/merkmal/rank/QueryMatch", "queryCountHeld", "(I)D"⟩ : MethodName)) (z := (⟨"com/example/merkmal/merkmal/rank/QueryMatch", "queryCountHeld", "(I)D"⟩ : MethodName)) hown (mvT hZ (hw _ (List.mem_of_getElem? (i := 40) rfl))) (mvT hZ (hw _ (List.mem_of_getElem? (i := 41) rfl))) (notFace_of_selects (args := #[]) (mvT hZ (hw _ (List.mem_of_getElem? (i := 43) rfl)))) (mvT hZ (hw _ (List.mem_of_getElem? (i := 43) rfl))) (mvT hZ (hw _ (List.mem_of_getElem? (i := 42) rfl))) (by decide) (backOf (W := 0) (rm7 l Z ar hw [] a0 p1 w_queryCountsHeld_a0 kk_w_queryCountsHeld_a0 z_w_queryCountsHeld_a0 vs_w_queryCountsHeld_a0 dv_w_queryCountsHeld_a0 ((own_u p1 p2 p3 p5 p7)) h0 n0 Z0 E_a0 F_queryCountsHeld_a0 V_w_queryCountsHeld_a0 hi81 hu81) hZ (hw _ (List.mem_of_getElem? (i := 44) rfl)) (hw _ (List.mem_of_getElem? (i := 4) rfl)) (by decide) (by decide)) qa7 qc7 (g := (mkF m 81 #[.val (.ref a0), .val (.int p1), .val (.int p2), .val (.int p3), .val (.int p4), .val (.int p5), .val (.int p6), .val (.int p7), .val (.long (((0 : Int64) + (p4.toInt64)) + (p6.toInt64))), .second, .val (.long (((0 : Int64) + (p5.toInt64)) + (p7.toInt64))), .second, .val (.int (2 : Int32))] [(.int p1), (.ref a0)])) rfl (by rw [hml]; rfl) (Steps.refl _) (argsL := [(.int p1)]) (rest := []) (lenOf pd4_0 rfl) rfl (by show 2 * 0 + _ ≤ _; exact Nat.le_of_eq rfl) (hb hby d4_81) (fun _ _ => ⟨rfl, e5, (by decide : 0 + 0 ≤ _), (by decide : 0 + 0 ≤ _)⟩)
      dsimp only [Pt.U, Pt.locs, Pt.cells, Pt.slots] at X7 l7 y7 z7 st7 hQ7
      subst l7 y7 z7
      obtain ⟨rfl, N7q, e7⟩ := hQ7
      have n8 := Fr.app n6 N7q
      refine own_tr (T' := T7) (g' := (mkF m 84 #[.val (.ref a0), .val (.int p1), .val (.int p2), .val (.int p3), .val (.int p4), .val (.int p5), .val (.int p6), .val (.int p7), .val (.long (((0 : Int64) + (p4.toInt64)) + (p6.toInt64))), .second, .val (.long (((0 : Int64) + (p5.toInt64)) + (p7.toInt64))), .second, .val (.int (2 : Int32))] [(.double (own_u p1 p2 p3 p5 p7))])) st7 ?_
      refine own_st (T' := T7) (g' := (mkF m 96 #[.val (.ref a0), .val (.int p1), .val (.int p2), .val (.int p3), .val (.int p4), .val (.int p5), .val (.int p6), .val (.int p7), .val (.long (((0 : Int64) + (p4.toInt64)) + (p6.toInt64))), .second, .val (.long (((0 : Int64) + (p5.toInt64)) + (p7.toInt64))), .second, .val (.int (2 : Int32))] [(.int (1 : Int32))])) (fun t k => ?_) ?_
      · show Steps p.tables e below (T7.setTop (mkF m 84 #[.val (.ref a0), .val (.int p1), .val (.int p2), .val (.int p3), .val (.int p4), .val (.int p5), .val (.int p6), .val (.int p7), .val (.long (((0 : Int64) + (p4.toInt64)) + (p6.toInt64))), .second, .val (.long (((0 : Int64) + (p5.toInt64)) + (p7.toInt64))), .second, .val (.int (2 : Int32))] [(.double (own_u p1 p2 p3 p5 p7))])) t
        refine XS.lload X7.here hx rfl (hb hby d4_84) rfl ?_
        show Steps p.tables e below (T7.setTop (mkF m 86 #[.val (.ref a0), .val (.int p1), .val (.int p2), .val (.int p3), .val (.int p4), .val (.int p5), .val (.int p6), .val (.int p7), .val (.long (((0 : Int64) + (p4.toInt64)) + (p6.toInt64))), .second, .val (.long (((0 : Int64) + (p5.toInt64)) + (p7.toInt64))), .second, .val (.int (2 : Int32))] [(.long (((0 : Int64) + (p5.toInt64)) + (p7.toInt64))), (.double (own_u p1 p2 p3 p5 p7))])) t
        refine XS.l2dS X7.here hx rfl (hb hby d4_86) rfl rfl ?_
        show Steps p.tables e below (T7.setTop (mkF m 87 #[.val (.ref a0), .val (.int p1), .val (.int p2), .val (.int p3), .val (.int p4), .val (.int p5), .val (.int p6), .val (.int p7), .val (.long (((0 : Int64) + (p4.toInt64)) + (p6.toInt64))), .second, .val (.long (((0 : Int64) + (p5.toInt64)) + (p7.toInt64))), .second, .val (.int (2 : Int32))] [(.double (FP.l2d (((0 : Int64) + (p5.toInt64)) + (p7.toInt64)))), (.double (own_u p1 p2 p3 p5 p7))])) t
        refine XS.dcmpS X7.here hx rfl (hb hby d4_87) rfl (own_ktt hc11_1 hc35_2 p5 p7) ?_
        show Steps p.tables e below (T7.setTop (mkF m 88 #[.val (.ref a0), .val (.int p1), .val (.int p2), .val (.int p3), .val (.int p4), .val (.int p5), .val (.int p6), .val (.int p7), .val (.long (((0 : Int64) + (p4.toInt64)) + (p6.toInt64))), .second, .val (.long (((0 : Int64) + (p5.toInt64)) + (p7.toInt64))), .second, .val (.int (2 : Int32))] [(.int (0 : Int32))])) t
        refine XS.ifNo X7.here hx rfl (hb hby d4_88) rfl (by decide) ?_
        show Steps p.tables e below (T7.setTop (mkF m 91 #[.val (.ref a0), .val (.int p1), .val (.int p2), .val (.int p3), .val (.int p4), .val (.int p5), .val (.int p6), .val (.int p7), .val (.long (((0 : Int64) + (p4.toInt64)) + (p6.toInt64))), .second, .val (.long (((0 : Int64) + (p5.toInt64)) + (p7.toInt64))), .second, .val (.int (2 : Int32))] [])) t
        refine XS.iconst X7.here hx rfl (hb hby d4_91) ?_
        show Steps p.tables e below (T7.setTop (mkF m 92 #[.val (.ref a0), .val (.int p1), .val (.int p2), .val (.int p3), .val (.int p4), .val (.int p5), .val (.int p6), .val (.int p7), .val (.long (((0 : Int64) + (p4.toInt64)) + (p6.toInt64))), .second, .val (.long (((0 : Int64) + (p5.toInt64)) + (p7.toInt64))), .second, .val (.int (2 : Int32))] [(.int (1 : Int32))])) t
        refine XS.goto X7.here hx rfl (pc0 := 92) (pc' := 96) rfl (hb hby d4_92) (by decide) (by decide) ?_
        exact k
      refine own_retZ X7 hx hlk Bd.returns (hb hby d4_96) rfl (by decide) (by decide) ?_
      show Q4 Z a0 p1 p2 p3 p4 p5 p6 p7 w_termSums_a0 kk_w_termSums_a0 z_w_termSums_a0 vs_w_termSums_a0 dv_w_termSums_a0 w_termsHeld_a0 kk_w_termsHeld_a0 z_w_termsHeld_a0 vs_w_termsHeld_a0 dv_w_termsHeld_a0 w_queryCountsHeld_a0 kk_w_queryCountsHeld_a0 z_w_queryCountsHeld_a0 vs_w_queryCountsHeld_a0 dv_w_queryCountsHeld_a0 h0 n0 (some (.int (1 : Int32))) T7.heap _
      rw [(e7 : T7.heap = h0)]
      exact ⟨rfl, n8, rfl⟩
    · refine own_st (T' := s₁) (g' := (mkF m 59 #[.val (.ref a0), .val (.int p1), .val (.int p2), .val (.int p3), .val (.int p4), .val (.int p5), .val (.int p6), .val (.int p7), .val (.long ((0 : Int64) + (p4.toInt64))), .second, .val (.long ((0 : Int64) + (p5.toInt64))), .second, .val (.int (1 : Int32))] [(.int p1), (.ref a0)])) (fun t k => ?_) ?_
      · show Steps p.tables e below (s₁.setTop (mkF m 35 #[.val (.ref a0), .val (.int p1), .val (.int p2), .val (.int p3), .val (.int p4), .val (.int p5), .val (.int p6), .val (.int p7), .val (.long ((0 : Int64) + (p4.toInt64))), .second, .val (.long ((0 : Int64) + (p5.toInt64))), .second, .val (.int (1 : Int32))] [(.int p3), (.int p1)])) t
        refine XS.icmpYes X0.here hx rfl (pc0 := 35) (pc' := 57) rfl (hb hby d4_35) rfl (feq hc35_2).2 (by decide) (by decide) ?_
        show Steps p.tables e below (s₁.setTop (mkF m 57 #[.val (.ref a0), .val (.int p1), .val (.int p2), .val (.int p3), .val (.int p4), .val (.int p5), .val (.int p6), .val (.int p7), .val (.long ((0 : Int64) + (p4.toInt64))), .second, .val (.long ((0 : Int64) + (p5.toInt64))), .second, .val (.int (1 : Int32))] [])) t
        refine XS.aloadN X0.here hx rfl (hb hby d4_57) rfl rfl ?_
        show Steps p.tables e below (s₁.setTop (mkF m 58 #[.val (.ref a0), .val (.int p1), .val (.int p2), .val (.int p3), .val (.int p4), .val (.int p5), .val (.int p6), .val (.int p7), .val (.long ((0 : Int64) + (p4.toInt64))), .second, .val (.long ((0 : Int64) + (p5.toInt64))), .second, .val (.int (1 : Int32))] [(.ref a0)])) t
        refine XS.iloadN X0.here hx rfl (hb hby d4_58) rfl ?_
        exact k
      obtain ⟨cq9, kq9, qa9, qb9, qc9⟩ := isOf hZ e0 E_a0
      obtain ⟨_, _, ⟨T9, L9, k9, n9⟩, -, X9, ⟨Lc9, hQ9, l9, y9, z9⟩, st9⟩ := X0.virtualBack hx (y := (⟨"com/example/merkmal/merkmal/rank/QueryMatch", "termSum", "(I)D"⟩ : MethodName)) (z := (⟨"com/example/merkmal/merkmal/rank/QueryMatch", "termSum", "(I)D"⟩ : MethodName)) hown (mvT hZ (hw _ (List.mem_of_getElem? (i := 30) rfl))) (mvT hZ (hw _ (List.mem_of_getElem? (i := 31) rfl))) (notFace_of_selects (args := #[]) (mvT hZ (hw _ (List.mem_of_getElem? (i := 33) rfl)))) (mvT hZ (hw _ (List.mem_of_getElem? (i := 33) rfl))) (mvT hZ (hw _ (List.mem_of_getElem? (i := 32) rfl))) (by decide) (backOf (W := 0) (rm5 l Z ar hw [] a0 p1 w_termSums_a0 kk_w_termSums_a0 z_w_termSums_a0 vs_w_termSums_a0 dv_w_termSums_a0 ((own_u p1 p2 p3 p4 p6)) h0 n0 Z0 E_a0 F_termSums_a0 V_w_termSums_a0 hi59 hu59) hZ (hw _ (List.mem_of_getElem? (i := 34) rfl)) (hw _ (List.mem_of_getElem? (i := 4) rfl)) (by decide) (by decide)) qa9 qc9 (g := (mkF m 59 #[.val (.ref a0), .val (.int p1), .val (.int p2), .val (.int p3), .val (.int p4), .val (.int p5), .val (.int p6), .val (.int p7), .val (.long ((0 : Int64) + (p4.toInt64))), .second, .val (.long ((0 : Int64) + (p5.toInt64))), .second, .val (.int (1 : Int32))] [(.int p1), (.ref a0)])) rfl (by rw [hml]; rfl) (Steps.refl _) (argsL := [(.int p1)]) (rest := []) (lenOf pd4_0 rfl) rfl (by show 2 * 0 + _ ≤ _; exact Nat.le_of_eq rfl) (hb hby d4_59) (fun _ _ => ⟨rfl, e0, (by decide : 0 + 0 ≤ _), (by decide : 0 + 0 ≤ _)⟩)
      dsimp only [Pt.U, Pt.locs, Pt.cells, Pt.slots] at X9 l9 y9 z9 st9 hQ9
      subst l9 y9 z9
      obtain ⟨rfl, N9q, e9⟩ := hQ9
      have n10 := Fr.app N0 N9q
      refine own_tr (T' := T9) (g' := (mkF m 62 #[.val (.ref a0), .val (.int p1), .val (.int p2), .val (.int p3), .val (.int p4), .val (.int p5), .val (.int p6), .val (.int p7), .val (.long ((0 : Int64) + (p4.toInt64))), .second, .val (.long ((0 : Int64) + (p5.toInt64))), .second, .val (.int (1 : Int32))] [(.double (own_u p1 p2 p3 p4 p6))])) st9 ?_
      refine own_st (T' := T9) (g' := (mkF m 71 #[.val (.ref a0), .val (.int p1), .val (.int p2), .val (.int p3), .val (.int p4), .val (.int p5), .val (.int p6), .val (.int p7), .val (.long ((0 : Int64) + (p4.toInt64))), .second, .val (.long ((0 : Int64) + (p5.toInt64))), .second, .val (.int (1 : Int32))] [(.int p1), (.ref a0)])) (fun t k => ?_) ?_
      · show Steps p.tables e below (T9.setTop (mkF m 62 #[.val (.ref a0), .val (.int p1), .val (.int p2), .val (.int p3), .val (.int p4), .val (.int p5), .val (.int p6), .val (.int p7), .val (.long ((0 : Int64) + (p4.toInt64))), .second, .val (.long ((0 : Int64) + (p5.toInt64))), .second, .val (.int (1 : Int32))] [(.double (own_u p1 p2 p3 p4 p6))])) t
        refine XS.lload X9.here hx rfl (hb hby d4_62) rfl ?_
        show Steps p.tables e below (T9.setTop (mkF m 64 #[.val (.ref a0), .val (.int p1), .val (.int p2), .val (.int p3), .val (.int p4), .val (.int p5), .val (.int p6), .val (.int p7), .val (.long ((0 : Int64) + (p4.toInt64))), .second, .val (.long ((0 : Int64) + (p5.toInt64))), .second, .val (.int (1 : Int32))] [(.long ((0 : Int64) + (p4.toInt64))), (.double (own_u p1 p2 p3 p4 p6))])) t
        refine XS.l2dS X9.here hx rfl (hb hby d4_64) rfl rfl ?_
        show Steps p.tables e below (T9.setTop (mkF m 65 #[.val (.ref a0), .val (.int p1), .val (.int p2), .val (.int p3), .val (.int p4), .val (.int p5), .val (.int p6), .val (.int p7), .val (.long ((0 : Int64) + (p4.toInt64))), .second, .val (.long ((0 : Int64) + (p5.toInt64))), .second, .val (.int (1 : Int32))] [(.double (FP.l2d ((0 : Int64) + (p4.toInt64)))), (.double (own_u p1 p2 p3 p4 p6))])) t
        refine XS.dcmpS X9.here hx rfl (hb hby d4_65) rfl (own_ktf hc11_1 hc35_2 p4 p6) ?_
        show Steps p.tables e below (T9.setTop (mkF m 66 #[.val (.ref a0), .val (.int p1), .val (.int p2), .val (.int p3), .val (.int p4), .val (.int p5), .val (.int p6), .val (.int p7), .val (.long ((0 : Int64) + (p4.toInt64))), .second, .val (.long ((0 : Int64) + (p5.toInt64))), .second, .val (.int (1 : Int32))] [(.int (0 : Int32))])) t
        refine XS.ifNo X9.here hx rfl (hb hby d4_66) rfl (by decide) ?_
        show Steps p.tables e below (T9.setTop (mkF m 69 #[.val (.ref a0), .val (.int p1), .val (.int p2), .val (.int p3), .val (.int p4), .val (.int p5), .val (.int p6), .val (.int p7), .val (.long ((0 : Int64) + (p4.toInt64))), .second, .val (.long ((0 : Int64) + (p5.toInt64))), .second, .val (.int (1 : Int32))] [])) t
        refine XS.aloadN X9.here hx rfl (hb hby d4_69) rfl rfl ?_
        show Steps p.tables e below (T9.setTop (mkF m 70 #[.val (.ref a0), .val (.int p1), .val (.int p2), .val (.int p3), .val (.int p4), .val (.int p5), .val (.int p6), .val (.int p7), .val (.long ((0 : Int64) + (p4.toInt64))), .second, .val (.long ((0 : Int64) + (p5.toInt64))), .second, .val (.int (1 : Int32))] [(.ref a0)])) t
        refine XS.iloadN X9.here hx rfl (hb hby d4_70) rfl ?_
        exact k
      obtain ⟨cq11, kq11, qa11, qb11, qc11⟩ := isOf hZ e9 E_a0
      obtain ⟨_, _, ⟨T11, L11, k11, n11⟩, -, X11, ⟨Lc11, hQ11, l11, y11, z11⟩, st11⟩ := X9.virtualBack hx (y := (⟨"com/example/merkmal/merkmal/rank/QueryMatch", "termsHeld", "(I)I"⟩ : MethodName)) (z := (⟨"com/example/merkmal/merkmal/rank/QueryMatch", "termsHeld", "(I)I"⟩ : MethodName)) hown (mvT hZ (hw _ (List.mem_of_getElem? (i := 35) rfl))) (mvT hZ (hw _ (List.mem_of_getElem? (i := 36) rfl))) (notFace_of_selects (args := #[]) (mvT hZ (hw _ (List.mem_of_getElem? (i := 38) rfl)))) (mvT hZ (hw _ (List.mem_of_getElem? (i := 38) rfl))) (mvT hZ (hw _ (List.mem_of_getElem? (i := 37) rfl))) (by decide) (backOf (W := 0) (rm6 l Z ar hw [] a0 p1 w_termsHeld_a0 kk_w_termsHeld_a0 z_w_termsHeld_a0 vs_w_termsHeld_a0 dv_w_termsHeld_a0 ((own_c p1 p2 p3)) h0 n0 Z0 E_a0 F_termsHeld_a0 V_w_termsHeld_a0 hi71 hu71) hZ (hw _ (List.mem_of_getElem? (i := 39) rfl)) (hw _ (List.mem_of_getElem? (i := 4) rfl)) (by decide) (by decide)) qa11 qc11 (g := (mkF m 71 #[.val (.ref a0), .val (.int p1), .val (.int p2), .val (.int p3), .val (.int p4), .val (.int p5), .val (.int p6), .val (.int p7), .val (.long ((0 : Int64) + (p4.toInt64))), .second, .val (.long ((0 : Int64) + (p5.toInt64))), .second, .val (.int (1 : Int32))] [(.int p1), (.ref a0)])) rfl (by rw [hml]; rfl) (Steps.refl _) (argsL := [(.int p1)]) (rest := []) (lenOf pd4_1 rfl) rfl (by show 2 * 0 + _ ≤ _; exact Nat.le_of_eq rfl) (hb hby d4_71) (fun _ _ => ⟨rfl, e9, (by decide : 0 + 0 ≤ _), (by decide : 0 + 0 ≤ _)⟩)
      dsimp only [Pt.U, Pt.locs, Pt.cells, Pt.slots] at X11 l11 y11 z11 st11 hQ11
      subst l11 y11 z11
      obtain ⟨rfl, N11q, e11⟩ := hQ11
      have n12 := Fr.app n10 N11q
      refine own_tr (T' := T11) (g' := (mkF m 74 #[.val (.ref a0), .val (.int p1), .val (.int p2), .val (.int p3), .val (.int p4), .val (.int p5), .val (.int p6), .val (.int p7), .val (.long ((0 : Int64) + (p4.toInt64))), .second, .val (.long ((0 : Int64) + (p5.toInt64))), .second, .val (.int (1 : Int32))] [(.int (own_c p1 p2 p3))])) st11 ?_
      refine own_st (T' := T11) (g' := (mkF m 81 #[.val (.ref a0), .val (.int p1), .val (.int p2), .val (.int p3), .val (.int p4), .val (.int p5), .val (.int p6), .val (.int p7), .val (.long ((0 : Int64) + (p4.toInt64))), .second, .val (.long ((0 : Int64) + (p5.toInt64))), .second, .val (.int (1 : Int32))] [(.int p1), (.ref a0)])) (fun t k => ?_) ?_
      · show Steps p.tables e below (T11.setTop (mkF m 74 #[.val (.ref a0), .val (.int p1), .val (.int p2), .val (.int p3), .val (.int p4), .val (.int p5), .val (.int p6), .val (.int p7), .val (.long ((0 : Int64) + (p4.toInt64))), .second, .val (.long ((0 : Int64) + (p5.toInt64))), .second, .val (.int (1 : Int32))] [(.int (own_c p1 p2 p3))])) t
        refine XS.iload X11.here hx rfl (hb hby d4_74) rfl ?_
        show Steps p.tables e below (T11.setTop (mkF m 76 #[.val (.ref a0), .val (.int p1), .val (.int p2), .val (.int p3), .val (.int p4), .val (.int p5), .val (.int p6), .val (.int p7), .val (.long ((0 : Int64) + (p4.toInt64))), .second, .val (.long ((0 : Int64) + (p5.toInt64))), .second, .val (.int (1 : Int32))] [(.int (1 : Int32)), (.int (own_c p1 p2 p3))])) t
        refine XS.icmpNo X11.here hx rfl (hb hby d4_76) rfl (teq ((own_ctf hc11_1 hc35_2) : (own_c p1 p2 p3) = (1 : Int32))).2 ?_
        show Steps p.tables e below (T11.setTop (mkF m 79 #[.val (.ref a0), .val (.int p1), .val (.int p2), .val (.int p3), .val (.int p4), .val (.int p5), .val (.int p6), .val (.int p7), .val (.long ((0 : Int64) + (p4.toInt64))), .second, .val (.long ((0 : Int64) + (p5.toInt64))), .second, .val (.int (1 : Int32))] [])) t
        refine XS.aloadN X11.here hx rfl (hb hby d4_79) rfl rfl ?_
        show Steps p.tables e below (T11.setTop (mkF m 80 #[.val (.ref a0), .val (.int p1), .val (.int p2), .val (.int p3), .val (.int p4), .val (.int p5), .val (.int p6), .val (.int p7), .val (.long ((0 : Int64) + (p4.toInt64))), .second, .val (.long ((0 : Int64) + (p5.toInt64))), .second, .val (.int (1 : Int32))] [(.ref a0)])) t
        refine XS.iloadN X11.here hx rfl (hb hby d4_80) rfl ?_
        exact k
      obtain ⟨cq13, kq13, qa13, qb13, qc13⟩ := isOf hZ e11 E_a0
      obtain ⟨_, _, ⟨T13, L13, k13, n13⟩, -, X13, ⟨Lc13, hQ13, l13, y13, z13⟩, st13⟩ := X11.virtualBack hx (y := (⟨"com/example/merkmal/merkmal/rank/QueryMatch", "queryCountHeld", "(I)D"⟩ : MethodName)) (z := (⟨"com/example/merkmal/merkmal/rank/QueryMatch", "queryCountHeld", "(I)D"⟩ : MethodName)) hown (mvT hZ (hw _ (List.mem_of_getElem? (i := 40) rfl))) (mvT hZ (hw _ (List.mem_of_getElem? (i := 41) rfl))) (notFace_of_selects (args := #[]) (mvT hZ (hw _ (List.mem_of_getElem? (i := 43) rfl)))) (mvT hZ (hw _ (List.mem_of_getElem? (i := 43) rfl))) (mvT hZ (hw _ (List.mem_of_getElem? (i := 42) rfl))) (by decide) (backOf (W := 0) (rm7 l Z ar hw [] a0 p1 w_queryCountsHeld_a0 kk_w_queryCountsHeld_a0 z_w_queryCountsHeld_a0 vs_w_queryCountsHeld_a0 dv_w_queryCountsHeld_a0 ((own_u p1 p2 p3 p5 p7)) h0 n0 Z0 E_a0 F_queryCountsHeld_a0 V_w_queryCountsHeld_a0 hi81 hu81) hZ (hw _ (List.mem_of_getElem? (i := 44) rfl)) (hw _ (List.mem_of_getElem? (i := 4) rfl)) (by decide) (by decide)) qa13 qc13 (g := (mkF m 81 #[.val (.ref a0), .val (.int p1), .val (.int p2), .val (.int p3), .val (.int p4), .val (.int p5), .val (.int p6), .val (.int p7), .val (.long ((0 : Int64) + (p4.toInt64))), .second, .val (.long ((0 : Int64) + (p5.toInt64))), .second, .val (.int (1 : Int32))] [(.int p1), (.ref a0)])) rfl (by rw [hml]; rfl) (Steps.refl _) (argsL := [(.int p1)]) (rest := []) (lenOf pd4_0 rfl) rfl (by show 2 * 0 + _ ≤ _; exact Nat.le_of_eq rfl) (hb hby d4_81) (fun _ _ => ⟨rfl, e11, (by decide : 0 + 0 ≤ _), (by decide : 0 + 0 ≤ _)⟩)
      dsimp only [Pt.U, Pt.locs, Pt.cells, Pt.slots] at X13 l13 y13 z13 st13 hQ13
      subst l13 y13 z13
      obtain ⟨rfl, N13q, e13⟩ := hQ13
      have n14 := Fr.app n12 N13q
      refine own_tr (T' := T13) (g' := (mkF m 84 #[.val (.ref a0), .val (.int p1), .val (.int p2), .val (.int p3), .val (.int p4), .val (.int p5), .val (.int p6), .val (.int p7), .val (.long ((0 : Int64) + (p4.toInt64))), .second, .val (.long ((0 : Int64) + (p5.toInt64))), .second, .val (.int (1 : Int32))] [(.double (own_u p1 p2 p3 p5 p7))])) st13 ?_
      refine own_st (T' := T13) (g' := (mkF m 96 #[.val (.ref a0), .val (.int p1), .val (.int p2), .val (.int p3), .val (.int p4), .val (.int p5), .val (.int p6), .val (.int p7), .val (.long ((0 : Int64) + (p4.toInt64))), .second, .val (.long ((0 : Int64) + (p5.toInt64))), .second, .val (.int (1 : Int32))] [(.int (1 : Int32))])) (fun t k => ?_) ?_
      · show Steps p.tables e below (T13.setTop (mkF m 84 #[.val (.ref a0), .val (.int p1), .val (.int p2), .val (.int p3), .val (.int p4), .val (.int p5), .val (.int p6), .val (.int p7), .val (.long ((0 : Int64) + (p4.toInt64))), .second, .val (.long ((0 : Int64) + (p5.toInt64))), .second, .val (.int (1 : Int32))] [(.double (own_u p1 p2 p3 p5 p7))])) t
        refine XS.lload X13.here hx rfl (hb hby d4_84) rfl ?_
        show Steps p.tables e below (T13.setTop (mkF m 86 #[.val (.ref a0), .val (.int p1), .val (.int p2), .val (.int p3), .val (.int p4), .val (.int p5), .val (.int p6), .val (.int p7), .val (.long ((0 : Int64) + (p4.toInt64))), .second, .val (.long ((0 : Int64) + (p5.toInt64))), .second, .val (.int (1 : Int32))] [(.long ((0 : Int64) + (p5.toInt64))), (.double (own_u p1 p2 p3 p5 p7))])) t
        refine XS.l2dS X13.here hx rfl (hb hby d4_86) rfl rfl ?_
        show Steps p.tables e below (T13.setTop (mkF m 87 #[.val (.ref a0), .val (.int p1), .val (.int p2), .val (.int p3), .val (.int p4), .val (.int p5), .val (.int p6), .val (.int p7), .val (.long ((0 : Int64) + (p4.toInt64))), .second, .val (.long ((0 : Int64) + (p5.toInt64))), .second, .val (.int (1 : Int32))] [(.double (FP.l2d ((0 : Int64) + (p5.toInt64)))), (.double (own_u p1 p2 p3 p5 p7))])) t
        refine XS.dcmpS X13.here hx rfl (hb hby d4_87) rfl (own_ktf hc11_1 hc35_2 p5 p7) ?_
        show Steps p.tables e below (T13.setTop (mkF m 88 #[.val (.ref a0), .val (.int p1), .val (.int p2), .val (.int p3), .val (.int p4), .val (.int p5), .val (.int p6), .val (.int p7), .val (.long ((0 : Int64) + (p4.toInt64))), .second, .val (.long ((0 : Int64) + (p5.toInt64))), .second, .val (.int (1 : Int32))] [(.int (0 : Int32))])) t
        refine XS.ifNo X13.here hx rfl (hb hby d4_88) rfl (by decide) ?_
        show Steps p.tables e below (T13.setTop (mkF m 91 #[.val (.ref a0), .val (.int p1), .val (.int p2), .val (.int p3), .val (.int p4), .val (.int p5), .val (.int p6), .val (.int p7), .val (.long ((0 : Int64) + (p4.toInt64))), .second, .val (.long ((0 : Int64) + (p5.toInt64))), .second, .val (.int (1 : Int32))] [])) t
        refine XS.iconst X13.here hx rfl (hb hby d4_91) ?_
        show Steps p.tables e below (T13.setTop (mkF m 92 #[.val (.ref a0), .val (.int p1), .val (.int p2), .val (.int p3), .val (.int p4), .val (.int p5), .val (.int p6), .val (.int p7), .val (.long ((0 : Int64) + (p4.toInt64))), .second, .val (.long ((0 : Int64) + (p5.toInt64))), .second, .val (.int (1 : Int32))] [(.int (1 : Int32))])) t
        refine XS.goto X13.here hx rfl (pc0 := 92) (pc' := 96) rfl (hb hby d4_92) (by decide) (by decide) ?_
        exact k
      refine own_retZ X13 hx hlk Bd.returns (hb hby d4_96) rfl (by decide) (by decide) ?_
      show Q4 Z a0 p1 p2 p3 p4 p5 p6 p7 w_termSums_a0 kk_w_termSums_a0 z_w_termSums_a0 vs_w_termSums_a0 dv_w_termSums_a0 w_termsHeld_a0 kk_w_termsHeld_a0 z_w_termsHeld_a0 vs_w_termsHeld_a0 dv_w_termsHeld_a0 w_queryCountsHeld_a0 kk_w_queryCountsHeld_a0 z_w_queryCountsHeld_a0 vs_w_queryCountsHeld_a0 dv_w_queryCountsHeld_a0 h0 n0 (some (.int (1 : Int32))) T13.heap _
      rw [(e13 : T13.heap = h0)]
      exact ⟨rfl, n14, rfl⟩
  · refine own_st (T' := s₁) (g' := (mkF m 35 #[.val (.ref a0), .val (.int p1), .val (.int p2), .val (.int p3), .val (.int p4), .val (.int p5), .val (.int p6), .val (.int p7), .val (.long (0 : Int64)), .second, .val (.long (0 : Int64)), .second, .val (.int (0 : Int32))] [(.int p3), (.int p1)])) (fun t k => ?_) ?_
    · show Steps p.tables e below (s₁.setTop (mkF m 11 #[.val (.ref a0), .val (.int p1), .val (.int p2), .val (.int p3), .val (.int p4), .val (.int p5), .val (.int p6), .val (.int p7), .val (.long (0 : Int64)), .second, .val (.long (0 : Int64)), .second, .val (.int (0 : Int32))] [(.int p2), (.int p1)])) t
      refine XS.icmpYes X0.here hx rfl (pc0 := 11) (pc' := 33) rfl (hb hby d4_11) rfl (feq hc11_1).2 (by decide) (by decide) ?_
      show Steps p.tables e below (s₁.setTop (mkF m 33 #[.val (.ref a0), .val (.int p1), .val (.int p2), .val (.int p3), .val (.int p4), .val (.int p5), .val (.int p6), .val (.int p7), .val (.long (0 : Int64)), .second, .val (.long (0 : Int64)), .second, .val (.int (0 : Int32))] [])) t
      refine XS.iloadN X0.here hx rfl (hb hby d4_33) rfl ?_
      show Steps p.tables e below (s₁.setTop (mkF m 34 #[.val (.ref a0), .val (.int p1), .val (.int p2), .val (.int p3), .val (.int p4), .val (.int p5), .val (.int p6), .val (.int p7), .val (.long (0 : Int64)), .second, .val (.long (0 : Int64)), .second, .val (.int (0 : Int32))] [(.int p1)])) t
      refine XS.iloadN X0.here hx rfl (hb hby d4_34) rfl ?_
      exact k
    by_cases hc35_15 : p1 = p3
    · refine own_st (T' := s₁) (g' := (mkF m 59 #[.val (.ref a0), .val (.int p1), .val (.int p2), .val (.int p3), .val (.int p4), .val (.int p5), .val (.int p6), .val (.int p7), .val (.long ((0 : Int64) + (p6.toInt64))), .second, .val (.long ((0 : Int64) + (p7.toInt64))), .second, .val (.int (1 : Int32))] [(.int p1), (.ref a0)])) (fun t k => ?_) ?_
      · show Steps p.tables e below (s₁.setTop (mkF m 35 #[.val (.ref a0), .val (.int p1), .val (.int p2), .val (.int p3), .val (.int p4), .val (.int p5), .val (.int p6), .val (.int p7), .val (.long (0 : Int64)), .second, .val (.long (0 : Int64)), .second, .val (.int (0 : Int32))] [(.int p3), (.int p1)])) t
        refine XS.icmpNo X0.here hx rfl (hb hby d4_35) rfl (teq hc35_15).2 ?_
        show Steps p.tables e below (s₁.setTop (mkF m 38 #[.val (.ref a0), .val (.int p1), .val (.int p2), .val (.int p3), .val (.int p4), .val (.int p5), .val (.int p6), .val (.int p7), .val (.long (0 : Int64)), .second, .val (.long (0 : Int64)), .second, .val (.int (0 : Int32))] [])) t
        refine XS.lload X0.here hx rfl (hb hby d4_38) rfl ?_
        show Steps p.tables e below (s₁.setTop (mkF m 40 #[.val (.ref a0), .val (.int p1), .val (.int p2), .val (.int p3), .val (.int p4), .val (.int p5), .val (.int p6), .val (.int p7), .val (.long (0 : Int64)), .second, .val (.long (0 : Int64)), .second, .val (.int (0 : Int32))] [(.long (0 : Int64))])) t
        refine XS.iload X0.here hx rfl (hb hby d4_40) rfl ?_
        show Steps p.tables e below (s₁.setTop (mkF m 42 #[.val (.ref a0), .val (.int p1), .val (.int p2), .val (.int p3), .val (.int p4), .val (.int p5), .val (.int p6), .val (.int p7), .val (.long (0 : Int64)), .second, .val (.long (0 : Int64)), .second, .val (.int (0 : Int32))] [(.int p6), (.long (0 : Int64))])) t
        refine XS.i2l X0.here hx rfl (hb hby d4_42) rfl ?_
        show Steps p.tables e below (s₁.setTop (mkF m 43 #[.val (.ref a0), .val (.int p1), .val (.int p2), .val (.int p3), .val (.int p4), .val (.int p5), .val (.int p6), .val (.int p7), .val (.long (0 : Int64)), .second, .val (.long (0 : Int64)), .second, .val (.int (0 : Int32))] [(.long (p6.toInt64)), (.long (0 : Int64))])) t
        refine XS.ladd X0.here hx rfl (hb hby d4_43) rfl ?_
        show Steps p.tables e below (s₁.setTop (mkF m 44 #[.val (.ref a0), .val (.int p1), .val (.int p2), .val (.int p3), .val (.int p4), .val (.int p5), .val (.int p6), .val (.int p7), .val (.long (0 : Int64)), .second, .val (.long (0 : Int64)), .second, .val (.int (0 : Int32))] [(.long ((0 : Int64) + (p6.toInt64)))])) t
        refine XS.lstore X0.here hx rfl (hb hby d4_44) rfl (l' := #[.val (.ref a0), .val (.int p1), .val (.int p2), .val (.int p3), .val (.int p4), .val (.int p5), .val (.int p6), .val (.int p7), .val (.long ((0 : Int64) + (p6.toInt64))), .second, .val (.long (0 : Int64)), .second, .val (.int (0 : Int32))]) rfl ?_
        show Steps p.tables e below (s₁.setTop (mkF m 46 #[.val (.ref a0), .val (.int p1), .val (.int p2), .val (.int p3), .val (.int p4), .val (.int p5), .val (.int p6), .val (.int p7), .val (.long ((0 : Int64) + (p6.toInt64))), .second, .val (.long (0 : Int64)), .second, .val (.int (0 : Int32))] [])) t
        refine XS.lload X0.here hx rfl (hb hby d4_46) rfl ?_
        show Steps p.tables e below (s₁.setTop (mkF m 48 #[.val (.ref a0), .val (.int p1), .val (.int p2), .val (.int p3), .val (.int p4), .val (.int p5), .val (.int p6), .val (.int p7), .val (.long ((0 : Int64) + (p6.toInt64))), .second, .val (.long (0 : Int64)), .second, .val (.int (0 : Int32))] [(.long (0 : Int64))])) t
        refine XS.iload X0.here hx rfl (hb hby d4_48) rfl ?_
        show Steps p.tables e below (s₁.setTop (mkF m 50 #[.val (.ref a0), .val (.int p1), .val (.int p2), .val (.int p3), .val (.int p4), .val (.int p5), .val (.int p6), .val (.int p7), .val (.long ((0 : Int64) + (p6.toInt64))), .second, .val (.long (0 : Int64)), .second, .val (.int (0 : Int32))] [(.int p7), (.long (0 : Int64))])) t
        refine XS.i2l X0.here hx rfl (hb hby d4_50) rfl ?_
        show Steps p.tables e below (s₁.setTop (mkF m 51 #[.val (.ref a0), .val (.int p1), .val (.int p2), .val (.int p3), .val (.int p4), .val (.int p5), .val (.int p6), .val (.int p7), .val (.long ((0 : Int64) + (p6.toInt64))), .second, .val (.long (0 : Int64)), .second, .val (.int (0 : Int32))] [(.long (p7.toInt64)), (.long (0 : Int64))])) t
        refine XS.ladd X0.here hx rfl (hb hby d4_51) rfl ?_
        show Steps p.tables e below (s₁.setTop (mkF m 52 #[.val (.ref a0), .val (.int p1), .val (.int p2), .val (.int p3), .val (.int p4), .val (.int p5), .val (.int p6), .val (.int p7), .val (.long ((0 : Int64) + (p6.toInt64))), .second, .val (.long (0 : Int64)), .second, .val (.int (0 : Int32))] [(.long ((0 : Int64) + (p7.toInt64)))])) t
        refine XS.lstore X0.here hx rfl (hb hby d4_52) rfl (l' := #[.val (.ref a0), .val (.int p1), .val (.int p2), .val (.int p3), .val (.int p4), .val (.int p5), .val (.int p6), .val (.int p7), .val (.long ((0 : Int64) + (p6.toInt64))), .second, .val (.long ((0 : Int64) + (p7.toInt64))), .second, .val (.int (0 : Int32))]) rfl ?_
        show Steps p.tables e below (s₁.setTop (mkF m 54 #[.val (.ref a0), .val (.int p1), .val (.int p2), .val (.int p3), .val (.int p4), .val (.int p5), .val (.int p6), .val (.int p7), .val (.long ((0 : Int64) + (p6.toInt64))), .second, .val (.long ((0 : Int64) + (p7.toInt64))), .second, .val (.int (0 : Int32))] [])) t
        refine XS.iinc X0.here hx rfl (hb hby d4_54) rfl (l' := #[.val (.ref a0), .val (.int p1), .val (.int p2), .val (.int p3), .val (.int p4), .val (.int p5), .val (.int p6), .val (.int p7), .val (.long ((0 : Int64) + (p6.toInt64))), .second, .val (.long ((0 : Int64) + (p7.toInt64))), .second, .val (.int (1 : Int32))]) rfl ?_
        show Steps p.tables e below (s₁.setTop (mkF m 57 #[.val (.ref a0), .val (.int p1), .val (.int p2), .val (.int p3), .val (.int p4), .val (.int p5), .val (.int p6), .val (.int p7), .val (.long ((0 : Int64) + (p6.toInt64))), .second, .val (.long ((0 : Int64) + (p7.toInt64))), .second, .val (.int (1 : Int32))] [])) t
        refine XS.aloadN X0.here hx rfl (hb hby d4_57) rfl rfl ?_
        show Steps p.tables e below (s₁.setTop (mkF m 58 #[.val (.ref a0), .val (.int p1), .val (.int p2), .val (.int p3), .val (.int p4), .val (.int p5), .val (.int p6), .val (.int p7), .val (.long ((0 : Int64) + (p6.toInt64))), .second, .val (.long ((0 : Int64) + (p7.toInt64))), .second, .val (.int (1 : Int32))] [(.ref a0)])) t
        refine XS.iloadN X0.here hx rfl (hb hby d4_58) rfl ?_
        exact k
      obtain ⟨cq16, kq16, qa16, qb16, qc16⟩ := isOf hZ e0 E_a0
      obtain ⟨_, _, ⟨T16, L16, k16, n16⟩, -, X16, ⟨Lc16, hQ16, l16, y16, z16⟩, st16⟩ := X0.virtualBack hx (y := (⟨"com/example/merkmal/merkmal/rank/QueryMatch", "termSum", "(I)D"⟩ : MethodName)) (z := (⟨"com/example/merkmal/merkmal/rank/QueryMatch", "termSum", "(I)D"⟩ : MethodName)) hown (mvT hZ (hw _ (List.mem_of_getElem? (i := 30) rfl))) (mvT hZ (hw _ (List.mem_of_getElem? (i := 31) rfl))) (notFace_of_selects (args := #[]) (mvT hZ (hw _ (List.mem_of_getElem? (i := 33) rfl)))) (mvT hZ (hw _ (List.mem_of_getElem? (i := 33) rfl))) (mvT hZ (hw _ (List.mem_of_getElem? (i := 32) rfl))) (by decide) (backOf (W := 0) (rm5 l Z ar hw [] a0 p1 w_termSums_a0 kk_w_termSums_a0 z_w_termSums_a0 vs_w_termSums_a0 dv_w_termSums_a0 ((own_u p1 p2 p3 p4 p6)) h0 n0 Z0 E_a0 F_termSums_a0 V_w_termSums_a0 hi59 hu59) hZ (hw _ (List.mem_of_getElem? (i := 34) rfl)) (hw _ (List.mem_of_getElem? (i := 4) rfl)) (by decide) (by decide)) qa16 qc16 (g := (mkF m 59 #[.val (.ref a0), .val (.int p1), .val (.int p2), .val (.int p3), .val (.int p4), .val (.int p5), .val (.int p6), .val (.int p7), .val (.long ((0 : Int64) + (p6.toInt64))), .second, .val (.long ((0 : Int64) + (p7.toInt64))), .second, .val (.int (1 : Int32))] [(.int p1), (.ref a0)])) rfl (by rw [hml]; rfl) (Steps.refl _) (argsL := [(.int p1)]) (rest := []) (lenOf pd4_0 rfl) rfl (by show 2 * 0 + _ ≤ _; exact Nat.le_of_eq rfl) (hb hby d4_59) (fun _ _ => ⟨rfl, e0, (by decide : 0 + 0 ≤ _), (by decide : 0 + 0 ≤ _)⟩)
      dsimp only [Pt.U, Pt.locs, Pt.cells, Pt.slots] at X16 l16 y16 z16 st16 hQ16
      subst l16 y16 z16
      obtain ⟨rfl, N16q, e16⟩ := hQ16
      have n17 := Fr.app N0 N16q
      refine own_tr (T' := T16) (g' := (mkF m 62 #[.val (.ref a0), .val (.int p1), .val (.int p2), .val (.int p3), .val (.int p4), .val (.int p5), .val (.int p6), .val (.int p7), .val (.long ((0 : Int64) + (p6.toInt64))), .second, .val (.long ((0 : Int64) + (p7.toInt64))), .second, .val (.int (1 : Int32))] [(.double (own_u p1 p2 p3 p4 p6))])) st16 ?_
      refine own_st (T' := T16) (g' := (mkF m 71 #[.val (.ref a0), .val (.int p1), .val (.int p2), .val (.int p3), .val (.int p4), .val (.int p5), .val (.int p6), .val (.int p7), .val (.long ((0 : Int64) + (p6.toInt64))), .second, .val (.long ((0 : Int64) + (p7.toInt64))), .second, .val (.int (1 : Int32))] [(.int p1), (.ref a0)])) (fun t k => ?_) ?_
      · show Steps p.tables e below (T16.setTop (mkF m 62 #[.val (.ref a0), .val (.int p1), .val (.int p2), .val (.int p3), .val (.int p4), .val (.int p5), .val (.int p6), .val (.int p7), .val (.long ((0 : Int64) + (p6.toInt64))), .second, .val (.long ((0 : Int64) + (p7.toInt64))), .second, .val (.int (1 : Int32))] [(.double (own_u p1 p2 p3 p4 p6))])) t
        refine XS.lload X16.here hx rfl (hb hby d4_62) rfl ?_
        show Steps p.tables e below (T16.setTop (mkF m 64 #[.val (.ref a0), .val (.int p1), .val (.int p2), .val (.int p3), .val (.int p4), .val (.int p5), .val (.int p6), .val (.int p7), .val (.long ((0 : Int64) + (p6.toInt64))), .second, .val (.long ((0 : Int64) + (p7.toInt64))), .second, .val (.int (1 : Int32))] [(.long ((0 : Int64) + (p6.toInt64))), (.double (own_u p1 p2 p3 p4 p6))])) t
        refine XS.l2dS X16.here hx rfl (hb hby d4_64) rfl rfl ?_
        show Steps p.tables e below (T16.setTop (mkF m 65 #[.val (.ref a0), .val (.int p1), .val (.int p2), .val (.int p3), .val (.int p4), .val (.int p5), .val (.int p6), .val (.int p7), .val (.long ((0 : Int64) + (p6.toInt64))), .second, .val (.long ((0 : Int64) + (p7.toInt64))), .second, .val (.int (1 : Int32))] [(.double (FP.l2d ((0 : Int64) + (p6.toInt64)))), (.double (own_u p1 p2 p3 p4 p6))])) t
        refine XS.dcmpS X16.here hx rfl (hb hby d4_65) rfl (own_kft hc11_1 hc35_15 p4 p6) ?_
        show Steps p.tables e below (T16.setTop (mkF m 66 #[.val (.ref a0), .val (.int p1), .val (.int p2), .val (.int p3), .val (.int p4), .val (.int p5), .val (.int p6), .val (.int p7), .val (.long ((0 : Int64) + (p6.toInt64))), .second, .val (.long ((0 : Int64) + (p7.toInt64))), .second, .val (.int (1 : Int32))] [(.int (0 : Int32))])) t
        refine XS.ifNo X16.here hx rfl (hb hby d4_66) rfl (by decide) ?_
        show Steps p.tables e below (T16.setTop (mkF m 69 #[.val (.ref a0), .val (.int p1), .val (.int p2), .val (.int p3), .val (.int p4), .val (.int p5), .val (.int p6), .val (.int p7), .val (.long ((0 : Int64) + (p6.toInt64))), .second, .val (.long ((0 : Int64) + (p7.toInt64))), .second, .val (.int (1 : Int32))] [])) t
        refine XS.aloadN X16.here hx rfl (hb hby d4_69) rfl rfl ?_
        show Steps p.tables e below (T16.setTop (mkF m 70 #[.val (.ref a0), .val (.int p1), .val (.int p2), .val (.int p3), .val (.int p4), .val (.int p5), .val (.int p6), .val (.int p7), .val (.long ((0 : Int64) + (p6.toInt64))), .second, .val (.long ((0 : Int64) + (p7.toInt64))), .second, .val (.int (1 : Int32))] [(.ref a0)])) t
        refine XS.iloadN X16.here hx rfl (hb hby d4_70) rfl ?_
        exact k
      obtain ⟨cq18, kq18, qa18, qb18, qc18⟩ := isOf hZ e16 E_a0
      obtain ⟨_, _, ⟨T18, L18, k18, n18⟩, -, X18, ⟨Lc18, hQ18, l18, y18, z18⟩, st18⟩ := X16.virtualBack hx (y := (⟨"com/example/merkmal/merkmal/rank/QueryMatch", "termsHeld", "(I)I"⟩ : MethodName)) (z := (⟨"com/example/merkmal/merkmal/rank/QueryMatch", "termsHeld", "(I)I"⟩ : MethodName)) hown (mvT hZ (hw _ (List.mem_of_getElem? (i := 35) rfl))) (mvT hZ (hw _ (List.mem_of_getElem? (i := 36) rfl))) (notFace_of_selects (args := #[]) (mvT hZ (hw _ (List.mem_of_getElem? (i := 38) rfl)))) (mvT hZ (hw _ (List.mem_of_getElem? (i := 38) rfl))) (mvT hZ (hw _ (List.mem_of_getElem? (i := 37) rfl))) (by decide) (backOf (W := 0) (rm6 l Z ar hw [] a0 p1 w_termsHeld_a0 kk_w_termsHeld_a0 z_w_termsHeld_a0 vs_w_termsHeld_a0 dv_w_termsHeld_a0 ((own_c p1 p2 p3)) h0 n0 Z0 E_a0 F_termsHeld_a0 V_w_termsHeld_a0 hi71 hu71) hZ (hw _ (List.mem_of_getElem? (i := 39) rfl)) (hw _ (List.mem_of_getElem? (i := 4) rfl)) (by decide) (by decide)) qa18 qc18 (g := (mkF m 71 #[.val (.ref a0), .val (.int p1), .val (.int p2), .val (.int p3), .val (.int p4), .val (.int p5), .val (.int p6), .val (.int p7), .val (.long ((0 : Int64) + (p6.toInt64))), .second, .val (.long ((0 : Int64) + (p7.toInt64))), .second, .val (.int (1 : Int32))] [(.int p1), (.ref a0)])) rfl (by rw [hml]; rfl) (Steps.refl _) (argsL := [(.int p1)]) (rest := []) (lenOf pd4_1 rfl) rfl (by show 2 * 0 + _ ≤ _; exact Nat.le_of_eq rfl) (hb hby d4_71) (fun _ _ => ⟨rfl, e16, (by decide : 0 + 0 ≤ _), (by decide : 0 + 0 ≤ _)⟩)
      dsimp only [Pt.U, Pt.locs, Pt.cells, Pt.slots] at X18 l18 y18 z18 st18 hQ18
      subst l18 y18 z18
      obtain ⟨rfl, N18q, e18⟩ := hQ18
      have n19 := Fr.app n17 N18q
      refine own_tr (T' := T18) (g' := (mkF m 74 #[.val (.ref a0), .val (.int p1), .val (.int p2), .val (.int p3), .val (.int p4), .val (.int p5), .val (.int p6), .val (.int p7), .val (.long ((0 : Int64) + (p6.toInt64))), .second, .val (.long ((0 : Int64) + (p7.toInt64))), .second, .val (.int (1 : Int32))] [(.int (own_c p1 p2 p3))])) st18 ?_
      refine own_st (T' := T18) (g' := (mkF m 81 #[.val (.ref a0), .val (.int p1), .val (.int p2), .val (.int p3), .val (.int p4), .val (.int p5), .val (.int p6), .val (.int p7), .val (.long ((0 : Int64) + (p6.toInt64))), .second, .val (.long ((0 : Int64) + (p7.toInt64))), .second, .val (.int (1 : Int32))] [(.int p1), (.ref a0)])) (fun t k => ?_) ?_
      · show Steps p.tables e below (T18.setTop (mkF m 74 #[.val (.ref a0), .val (.int p1), .val (.int p2), .val (.int p3), .val (.int p4), .val (.int p5), .val (.int p6), .val (.int p7), .val (.long ((0 : Int64) + (p6.toInt64))), .second, .val (.long ((0 : Int64) + (p7.toInt64))), .second, .val (.int (1 : Int32))] [(.int (own_c p1 p2 p3))])) t
        refine XS.iload X18.here hx rfl (hb hby d4_74) rfl ?_
        show Steps p.tables e below (T18.setTop (mkF m 76 #[.val (.ref a0), .val (.int p1), .val (.int p2), .val (.int p3), .val (.int p4), .val (.int p5), .val (.int p6), .val (.int p7), .val (.long ((0 : Int64) + (p6.toInt64))), .second, .val (.long ((0 : Int64) + (p7.toInt64))), .second, .val (.int (1 : Int32))] [(.int (1 : Int32)), (.int (own_c p1 p2 p3))])) t
        refine XS.icmpNo X18.here hx rfl (hb hby d4_76) rfl (teq ((own_cft hc11_1 hc35_15) : (own_c p1 p2 p3) = (1 : Int32))).2 ?_
        show Steps p.tables e below (T18.setTop (mkF m 79 #[.val (.ref a0), .val (.int p1), .val (.int p2), .val (.int p3), .val (.int p4), .val (.int p5), .val (.int p6), .val (.int p7), .val (.long ((0 : Int64) + (p6.toInt64))), .second, .val (.long ((0 : Int64) + (p7.toInt64))), .second, .val (.int (1 : Int32))] [])) t
        refine XS.aloadN X18.here hx rfl (hb hby d4_79) rfl rfl ?_
        show Steps p.tables e below (T18.setTop (mkF m 80 #[.val (.ref a0), .val (.int p1), .val (.int p2), .val (.int p3), .val (.int p4), .val (.int p5), .val (.int p6), .val (.int p7), .val (.long ((0 : Int64) + (p6.toInt64))), .second, .val (.long ((0 : Int64) + (p7.toInt64))), .second, .val (.int (1 : Int32))] [(.ref a0)])) t
        refine XS.iloadN X18.here hx rfl (hb hby d4_80) rfl ?_
        exact k
      obtain ⟨cq20, kq20, qa20, qb20, qc20⟩ := isOf hZ e18 E_a0
      obtain ⟨_, _, ⟨T20, L20, k20, n20⟩, -, X20, ⟨Lc20, hQ20, l20, y20, z20⟩, st20⟩ := X18.virtualBack hx (y := (⟨"com/example/merkmal/merkmal/rank/QueryMatch", "queryCountHeld", "(I)D"⟩ : MethodName)) (z := (⟨"com/example/merkmal/merkmal/rank/QueryMatch", "queryCountHeld", "(I)D"⟩ : MethodName)) hown (mvT hZ (hw _ (List.mem_of_getElem? (i := 40) rfl))) (mvT hZ (hw _ (List.mem_of_getElem? (i := 41) rfl))) (notFace_of_selects (args := #[]) (mvT hZ (hw _ (List.mem_of_getElem? (i := 43) rfl)))) (mvT hZ (hw _ (List.mem_of_getElem? (i := 43) rfl))) (mvT hZ (hw _ (List.mem_of_getElem? (i := 42) rfl))) (by decide) (backOf (W := 0) (rm7 l Z ar hw [] a0 p1 w_queryCountsHeld_a0 kk_w_queryCountsHeld_a0 z_w_queryCountsHeld_a0 vs_w_queryCountsHeld_a0 dv_w_queryCountsHeld_a0 ((own_u p1 p2 p3 p5 p7)) h0 n0 Z0 E_a0 F_queryCountsHeld_a0 V_w_queryCountsHeld_a0 hi81 hu81) hZ (hw _ (List.mem_of_getElem? (i := 44) rfl)) (hw _ (List.mem_of_getElem? (i := 4) rfl)) (by decide) (by decide)) qa20 qc20 (g := (mkF m 81 #[.val (.ref a0), .val (.int p1), .val (.int p2), .val (.int p3), .val (.int p4), .val (.int p5), .val (.int p6), .val (.int p7), .val (.long ((0 : Int64) + (p6.toInt64))), .second, .val (.long ((0 : Int64) + (p7.toInt64))), .second, .val (.int (1 : Int32))] [(.int p1), (.ref a0)])) rfl (by rw [hml]; rfl) (Steps.refl _) (argsL := [(.int p1)]) (rest := []) (lenOf pd4_0 rfl) rfl (by show 2 * 0 + _ ≤ _; exact Nat.le_of_eq rfl) (hb hby d4_81) (fun _ _ => ⟨rfl, e18, (by decide : 0 + 0 ≤ _), (by decide : 0 + 0 ≤ _)⟩)
      dsimp only [Pt.U, Pt.locs, Pt.cells, Pt.slots] at X20 l20 y20 z20 st20 hQ20
      subst l20 y20 z20
      obtain ⟨rfl, N20q, e20⟩ := hQ20
      have n21 := Fr.app n19 N20q
      refine own_tr (T' := T20) (g' := (mkF m 84 #[.val (.ref a0), .val (.int p1), .val (.int p2), .val (.int p3), .val (.int p4), .val (.int p5), .val (.int p6), .val (.int p7), .val (.long ((0 : Int64) + (p6.toInt64))), .second, .val (.long ((0 : Int64) + (p7.toInt64))), .second, .val (.int (1 : Int32))] [(.double (own_u p1 p2 p3 p5 p7))])) st20 ?_
      refine own_st (T' := T20) (g' := (mkF m 96 #[.val (.ref a0), .val (.int p1), .val (.int p2), .val (.int p3), .val (.int p4), .val (.int p5), .val (.int p6), .val (.int p7), .val (.long ((0 : Int64) + (p6.toInt64))), .second, .val (.long ((0 : Int64) + (p7.toInt64))), .second, .val (.int (1 : Int32))] [(.int (1 : Int32))])) (fun t k => ?_) ?_
      · show Steps p.tables e below (T20.setTop (mkF m 84 #[.val (.ref a0), .val (.int p1), .val (.int p2), .val (.int p3), .val (.int p4), .val (.int p5), .val (.int p6), .val (.int p7), .val (.long ((0 : Int64) + (p6.toInt64))), .second, .val (.long ((0 : Int64) + (p7.toInt64))), .second, .val (.int (1 : Int32))] [(.double (own_u p1 p2 p3 p5 p7))])) t
        refine XS.lload X20.here hx rfl (hb hby d4_84) rfl ?_
        show Steps p.tables e below (T20.setTop (mkF m 86 #[.val (.ref a0), .val (.int p1), .val (.int p2), .val (.int p3), .val (.int p4), .val (.int p5), .val (.int p6), .val (.int p7), .val (.long ((0 : Int64) + (p6.toInt64))), .second, .val (.long ((0 : Int64) + (p7.toInt64))), .second, .val (.int (1 : Int32))] [(.long ((0 : Int64) + (p7.toInt64))), (.double (own_u p1 p2 p3 p5 p7))])) t
        refine XS.l2dS X20.here hx rfl (hb hby d4_86) rfl rfl ?_
        show Steps p.tables e below (T20.setTop (mkF m 87 #[.val (.ref a0), .val (.int p1), .val (.int p2), .val (.int p3), .val (.int p4), .val (.int p5), .val (.int p6), .val (.int p7), .val (.long ((0 : Int64) + (p6.toInt64))), .second, .val (.long ((0 : Int64) + (p7.toInt64))), .second, .val (.int (1 : Int32))] [(.double (FP.l2d ((0 : Int64) + (p7.toInt64)))), (.double (own_u p1 p2 p3 p5 p7))])) t
        refine XS.dcmpS X20.here hx rfl (hb hby d4_87) rfl (own_kft hc11_1 hc35_15 p5 p7) ?_
        show Steps p.tables e below (T20.setTop (mkF m 88 #[.val (.ref a0), .val (.int p1), .val (.int p2), .val (.int p3), .val (.int p4), .val (.int p5), .val (.int p6), .val (.int p7), .val (.long ((0 : Int64) + (p6.toInt64))), .second, .val (.long ((0 : Int64) + (p7.toInt64))), .second, .val (.int (1 : Int32))] [(.int (0 : Int32))])) t
        refine XS.ifNo X20.here hx rfl (hb hby d4_88) rfl (by decide) ?_
        show Steps p.tables e below (T20.setTop (mkF m 91 #[.val (.ref a0), .val (.int p1), .val (.int p2), .val (.int p3), .val (.int p4), .val (.int p5), .val (.int p6), .val (.int p7), .val (.long ((0 : Int64) + (p6.toInt64))), .second, .val (.long ((0 : Int64) + (p7.toInt64))), .second, .val (.int (1 : Int32))] [])) t
        refine XS.iconst X20.here hx rfl (hb hby d4_91) ?_
        show Steps p.tables e below (T20.setTop (mkF m 92 #[.val (.ref a0), .val (.int p1), .val (.int p2), .val (.int p3), .val (.int p4), .val (.int p5), .val (.int p6), .val (.int p7), .val (.long ((0 : Int64) + (p6.toInt64))), .second, .val (.long ((0 : Int64) + (p7.toInt64))), .second, .val (.int (1 : Int32))] [(.int (1 : Int32))])) t
        refine XS.goto X20.here hx rfl (pc0 := 92) (pc' := 96) rfl (hb hby d4_92) (by decide) (by decide) ?_
        exact k
      refine own_retZ X20 hx hlk Bd.returns (hb hby d4_96) rfl (by decide) (by decide) ?_
      show Q4 Z a0 p1 p2 p3 p4 p5 p6 p7 w_termSums_a0 kk_w_termSums_a0 z_w_termSums_a0 vs_w_termSums_a0 dv_w_termSums_a0 w_termsHeld_a0 kk_w_termsHeld_a0 z_w_termsHeld_a0 vs_w_termsHeld_a0 dv_w_termsHeld_a0 w_queryCountsHeld_a0 kk_w_queryCountsHeld_a0 z_w_queryCountsHeld_a0 vs_w_queryCountsHeld_a0 dv_w_queryCountsHeld_a0 h0 n0 (some (.int (1 : Int32))) T20.heap _
      rw [(e20 : T20.heap = h0)]
      exact ⟨rfl, n21, rfl⟩
    · refine own_st (T' := s₁) (g' := (mkF m 59 #[.val (.ref a0), .val (.int p1), .val (.int p2), .val (.int p3), .val (.int p4), .val (.int p5), .val (.int p6), .val (.int p7), .val (.long (0 : Int64)), .second, .val (.long (0 : Int64)), .second, .val (.int (0 : Int32))] [(.int p1), (.ref a0)])) (fun t k => ?_) ?_
      · show Steps p.tables e below (s₁.setTop (mkF m 35 #[.val (.ref a0), .val (.int p1), .val (.int p2), .val (.int p3), .val (.int p4), .val (.int p5), .val (.int p6), .val (.int p7), .val (.long (0 : Int64)), .second, .val (.long (0 : Int64)), .second, .val (.int (0 : Int32))] [(.int p3), (.int p1)])) t
        refine XS.icmpYes X0.here hx rfl (pc0 := 35) (pc' := 57) rfl (hb hby d4_35) rfl (feq hc35_15).2 (by decide) (by decide) ?_
        show Steps p.tables e below (s₁.setTop (mkF m 57 #[.val (.ref a0), .val (.int p1), .val (.int p2), .val (.int p3), .val (.int p4), .val (.int p5), .val (.int p6), .val (.int p7), .val (.long (0 : Int64)), .second, .val (.long (0 : Int64)), .second, .val (.int (0 : Int32))] [])) t
        refine XS.aloadN X0.here hx rfl (hb hby d4_57) rfl rfl ?_
        show Steps p.tables e below (s₁.setTop (mkF m 58 #[.val (.ref a0), .val (.int p1), .val (.int p2), .val (.int p3), .val (.int p4), .val (.int p5), .val (.int p6), .val (.int p7), .val (.long (0 : Int64)), .second, .val (.long (0 : Int64)), .second, .val (.int (0 : Int32))] [(.ref a0)])) t
        refine XS.iloadN X0.here hx rfl (hb hby d4_58) rfl ?_
        exact k
      obtain ⟨cq22, kq22, qa22, qb22, qc22⟩ := isOf hZ e0 E_a0
      obtain ⟨_, _, ⟨T22, L22, k22, n22⟩, -, X22, ⟨Lc22, hQ22, l22, y22, z22⟩, st22⟩ := X0.virtualBack hx (y := (⟨"com/example/merkmal/merkmal/rank/QueryMatch", "termSum", "(I)D"⟩ : MethodName)) (z := (⟨"com/example/merkmal/merkmal/rank/QueryMatch", "termSum", "(I)D"⟩ : MethodName)) hown (mvT hZ (hw _ (List.mem_of_getElem? (i := 30) rfl))) (mvT hZ (hw _ (List.mem_of_getElem? (i := 31) rfl))) (notFace_of_selects (args := #[]) (mvT hZ (hw _ (List.mem_of_getElem? (i := 33) rfl)))) (mvT hZ (hw _ (List.mem_of_getElem? (i := 33) rfl))) (mvT hZ (hw _ (List.mem_of_getElem? (i := 32) rfl))) (by decide) (backOf (W := 0) (rm5 l Z ar hw [] a0 p1 w_termSums_a0 kk_w_termSums_a0 z_w_termSums_a0 vs_w_termSums_a0 dv_w_termSums_a0 ((own_u p1 p2 p3 p4 p6)) h0 n0 Z0 E_a0 F_termSums_a0 V_w_termSums_a0 hi59 hu59) hZ (hw _ (List.mem_of_getElem? (i := 34) rfl)) (hw _ (List.mem_of_getElem? (i := 4) rfl)) (by decide) (by decide)) qa22 qc22 (g := (mkF m 59 #[.val (.ref a0), .val (.int p1), .val (.int p2), .val (.int p3), .val (.int p4), .val (.int p5), .val (.int p6), .val (.int p7), .val (.long (0 : Int64)), .second, .val (.long (0 : Int64)), .second, .val (.int (0 : Int32))] [(.int p1), (.ref a0)])) rfl (by rw [hml]; rfl) (Steps.refl _) (argsL := [(.int p1)]) (rest := []) (lenOf pd4_0 rfl) rfl (by show 2 * 0 + _ ≤ _; exact Nat.le_of_eq rfl) (hb hby d4_59) (fun _ _ => ⟨rfl, e0, (by decide : 0 + 0 ≤ _), (by decide : 0 + 0 ≤ _)⟩)
      dsimp only [Pt.U, Pt.locs, Pt.cells, Pt.slots] at X22 l22 y22 z22 st22 hQ22
      subst l22 y22 z22
      obtain ⟨rfl, N22q, e22⟩ := hQ22
      have n23 := Fr.app N0 N22q
      refine own_tr (T' := T22) (g' := (mkF m 62 #[.val (.ref a0), .val (.int p1), .val (.int p2), .val (.int p3), .val (.int p4), .val (.int p5), .val (.int p6), .val (.int p7), .val (.long (0 : Int64)), .second, .val (.long (0 : Int64)), .second, .val (.int (0 : Int32))] [(.double (own_u p1 p2 p3 p4 p6))])) st22 ?_
      refine own_st (T' := T22) (g' := (mkF m 71 #[.val (.ref a0), .val (.int p1), .val (.int p2), .val (.int p3), .val (.int p4), .val (.int p5), .val (.int p6), .val (.int p7), .val (.long (0 : Int64)), .second, .val (.long (0 : Int64)), .second, .val (.int (0 : Int32))] [(.int p1), (.ref a0)])) (fun t k => ?_) ?_
      · show Steps p.tables e below (T22.setTop (mkF m 62 #[.val (.ref a0), .val (.int p1), .val (.int p2), .val (.int p3), .val (.int p4), .val (.int p5), .val (.int p6), .val (.int p7), .val (.long (0 : Int64)), .second, .val (.long (0 : Int64)), .second, .val (.int (0 : Int32))] [(.double (own_u p1 p2 p3 p4 p6))])) t
        refine XS.lload X22.here hx rfl (hb hby d4_62) rfl ?_
        show Steps p.tables e below (T22.setTop (mkF m 64 #[.val (.ref a0), .val (.int p1), .val (.int p2), .val (.int p3), .val (.int p4), .val (.int p5), .val (.int p6), .val (.int p7), .val (.long (0 : Int64)), .second, .val (.long (0 : Int64)), .second, .val (.int (0 : Int32))] [(.long (0 : Int64)), (.double (own_u p1 p2 p3 p4 p6))])) t
        refine XS.l2dS X22.here hx rfl (hb hby d4_64) rfl rfl ?_
        show Steps p.tables e below (T22.setTop (mkF m 65 #[.val (.ref a0), .val (.int p1), .val (.int p2), .val (.int p3), .val (.int p4), .val (.int p5), .val (.int p6), .val (.int p7), .val (.long (0 : Int64)), .second, .val (.long (0 : Int64)), .second, .val (.int (0 : Int32))] [(.double (FP.l2d (0 : Int64))), (.double (own_u p1 p2 p3 p4 p6))])) t
        refine XS.dcmpS X22.here hx rfl (hb hby d4_65) rfl (own_kff hc11_1 hc35_15 p4 p6) ?_
        show Steps p.tables e below (T22.setTop (mkF m 66 #[.val (.ref a0), .val (.int p1), .val (.int p2), .val (.int p3), .val (.int p4), .val (.int p5), .val (.int p6), .val (.int p7), .val (.long (0 : Int64)), .second, .val (.long (0 : Int64)), .second, .val (.int (0 : Int32))] [(.int (0 : Int32))])) t
        refine XS.ifNo X22.here hx rfl (hb hby d4_66) rfl (by decide) ?_
        show Steps p.tables e below (T22.setTop (mkF m 69 #[.val (.ref a0), .val (.int p1), .val (.int p2), .val (.int p3), .val (.int p4), .val (.int p5), .val (.int p6), .val (.int p7), .val (.long (0 : Int64)), .second, .val (.long (0 : Int64)), .second, .val (.int (0 : Int32))] [])) t
        refine XS.aloadN X22.here hx rfl (hb hby d4_69) rfl rfl ?_
        show Steps p.tables e below (T22.setTop (mkF m 70 #[.val (.ref a0), .val (.int p1), .val (.int p2), .val (.int p3), .val (.int p4), .val (.int p5), .val (.int p6), .val (.int p7), .val (.long (0 : Int64)), .second, .val (.long (0 : Int64)), .second, .val (.int (0 : Int32))] [(.ref a0)])) t
        refine XS.iloadN X22.here hx rfl (hb hby d4_70) rfl ?_
        exact k
      obtain ⟨cq24, kq24, qa24, qb24, qc24⟩ := isOf hZ e22 E_a0
      obtain ⟨_, _, ⟨T24, L24, k24, n24⟩, -, X24, ⟨Lc24, hQ24, l24, y24, z24⟩, st24⟩ := X22.virtualBack hx (y := (⟨"com/example/merkmal/merkmal/rank/QueryMatch", "termsHeld", "(I)I"⟩ : MethodName)) (z := (⟨"com/example/merkmal/merkmal/rank/QueryMatch", "termsHeld", "(I)I"⟩ : MethodName)) hown (mvT hZ (hw _ (List.mem_of_getElem? (i := 35) rfl))) (mvT hZ (hw _ (List.mem_of_getElem? (i := 36) rfl))) (notFace_of_selects (args := #[]) (mvT hZ (hw _ (List.mem_of_getElem? (i := 38) rfl)))) (mvT hZ (hw _ (List.mem_of_getElem? (i := 38) rfl))) (mvT hZ (hw _ (List.mem_of_getElem? (i := 37) rfl))) (by decide) (backOf (W := 0) (rm6 l Z ar hw [] a0 p1 w_termsHeld_a0 kk_w_termsHeld_a0 z_w_termsHeld_a0 vs_w_termsHeld_a0 dv_w_termsHeld_a0 ((own_c p1 p2 p3)) h0 n0 Z0 E_a0 F_termsHeld_a0 V_w_termsHeld_a0 hi71 hu71) hZ (hw _ (List.mem_of_getElem? (i := 39) rfl)) (hw _ (List.mem_of_getElem? (i := 4) rfl)) (by decide) (by decide)) qa24 qc24 (g := (mkF m 71 #[.val (.ref a0), .val (.int p1), .val (.int p2), .val (.int p3), .val (.int p4), .val (.int p5), .val (.int p6), .val (.int p7), .val (.long (0 : Int64)), .second, .val (.long (0 : Int64)), .second, .val (.int (0 : Int32))] [(.int p1), (.ref a0)])) rfl (by rw [hml]; rfl) (Steps.refl _) (argsL := [(.int p1)]) (rest := []) (lenOf pd4_1 rfl) rfl (by show 2 * 0 + _ ≤ _; exact Nat.le_of_eq rfl) (hb hby d4_71) (fun _ _ => ⟨rfl, e22, (by decide : 0 + 0 ≤ _), (by decide : 0 + 0 ≤ _)⟩)
      dsimp only [Pt.U, Pt.locs, Pt.cells, Pt.slots] at X24 l24 y24 z24 st24 hQ24
      subst l24 y24 z24
      obtain ⟨rfl, N24q, e24⟩ := hQ24
      have n25 := Fr.app n23 N24q
      refine own_tr (T' := T24) (g' := (mkF m 74 #[.val (.ref a0), .val (.int p1), .val (.int p2), .val (.int p3), .val (.int p4), .val (.int p5), .val (.int p6), .val (.int p7), .val (.long (0 : Int64)), .second, .val (.long (0 : Int64)), .second, .val (.int (0 : Int32))] [(.int (own_c p1 p2 p3))])) st24 ?_
      refine own_st (T' := T24) (g' := (mkF m 81 #[.val (.ref a0), .val (.int p1), .val (.int p2), .val (.int p3), .val (.int p4), .val (.int p5), .val (.int p6), .val (.int p7), .val (.long (0 : Int64)), .second, .val (.long (0 : Int64)), .second, .val (.int (0 : Int32))] [(.int p1), (.ref a0)])) (fun t k => ?_) ?_
      · show Steps p.tables e below (T24.setTop (mkF m 74 #[.val (.ref a0), .val (.int p1), .val (.int p2), .val (.int p3), .val (.int p4), .val (.int p5), .val (.int p6), .val (.int p7), .val (.long (0 : Int64)), .second, .val (.long (0 : Int64)), .second, .val (.int (0 : Int32))] [(.int (own_c p1 p2 p3))])) t
        refine XS.iload X24.here hx rfl (hb hby d4_74) rfl ?_
        show Steps p.tables e below (T24.setTop (mkF m 76 #[.val (.ref a0), .val (.int p1), .val (.int p2), .val (.int p3), .val (.int p4), .val (.int p5), .val (.int p6), .val (.int p7), .val (.long (0 : Int64)), .second, .val (.long (0 : Int64)), .second, .val (.int (0 : Int32))] [(.int (0 : Int32)), (.int (own_c p1 p2 p3))])) t
        refine XS.icmpNo X24.here hx rfl (hb hby d4_76) rfl (teq ((own_cff hc11_1 hc35_15) : (own_c p1 p2 p3) = (0 : Int32))).2 ?_
        show Steps p.tables e below (T24.setTop (mkF m 79 #[.val (.ref a0), .val (.int p1), .val (.int p2), .val (.int p3), .val (.int p4), .val (.int p5), .val (.int p6), .val (.int p7), .val (.long (0 : Int64)), .second, .val (.long (0 : Int64)), .second, .val (.int (0 : Int32))] [])) t
        refine XS.aloadN X24.here hx rfl (hb hby d4_79) rfl rfl ?_
        show Steps p.tables e below (T24.setTop (mkF m 80 #[.val (.ref a0), .val (.int p1), .val (.int p2), .val (.int p3), .val (.int p4), .val (.int p5), .val (.int p6), .val (.int p7), .val (.long (0 : Int64)), .second, .val (.long (0 : Int64)), .second, .val (.int (0 : Int32))] [(.ref a0)])) t
        refine XS.iloadN X24.here hx rfl (hb hby d4_80) rfl ?_
        exact k
      obtain ⟨cq26, kq26, qa26, qb26, qc26⟩ := isOf hZ e24 E_a0
      obtain ⟨_, _, ⟨T26, L26, k26, n26⟩, -, X26, ⟨Lc26, hQ26, l26, y26, z26⟩, st26⟩ := X24.virtualBack hx (y := (⟨"com/example/merkmal/merkmal/rank/QueryMatch", "queryCountHeld", "(I)D"⟩ : MethodName)) (z := (⟨"com/example/merkmal/merkmal/rank/QueryMatch", "queryCountHeld", "(I)D"⟩ : MethodName)) hown (mvT hZ (hw _ (List.mem_of_getElem? (i := 40) rfl))) (mvT hZ (hw _ (List.mem_of_getElem? (i := 41) rfl))) (notFace_of_selects (args := #[]) (mvT hZ (hw _ (List.mem_of_getElem? (i := 43) rfl)))) (mvT hZ (hw _ (List.mem_of_getElem? (i := 43) rfl))) (mvT hZ (hw _ (List.mem_of_getElem? (i := 42) rfl))) (by decide) (backOf (W := 0) (rm7 l Z ar hw [] a0 p1 w_queryCountsHeld_a0 kk_w_queryCountsHeld_a0 z_w_queryCountsHeld_a0 vs_w_queryCountsHeld_a0 dv_w_queryCountsHeld_a0 ((own_u p1 p2 p3 p5 p7)) h0 n0 Z0 E_a0 F_queryCountsHeld_a0 V_w_queryCountsHeld_a0 hi81 hu81) hZ (hw _ (List.mem_of_getElem? (i := 44) rfl)) (hw _ (List.mem_of_getElem? (i := 4) rfl)) (by decide) (by decide)) qa26 qc26 (g := (mkF m 81 #[.val (.ref a0), .val (.int p1), .val (.int p2), .val (.int p3), .val (.int p4), .val (.int p5), .val (.int p6), .val (.int p7), .val (.long (0 : Int64)), .second, .val (.long (0 : Int64)), .second, .val (.int (0 : Int32))] [(.int p1), (.ref a0)])) rfl (by rw [hml]; rfl) (Steps.refl _) (argsL := [(.int p1)]) (rest := []) (lenOf pd4_0 rfl) rfl (by show 2 * 0 + _ ≤ _; exact Nat.le_of_eq rfl) (hb hby d4_81) (fun _ _ => ⟨rfl, e24, (by decide : 0 + 0 ≤ _), (by decide : 0 + 0 ≤ _)⟩)
      dsimp only [Pt.U, Pt.locs, Pt.cells, Pt.slots] at X26 l26 y26 z26 st26 hQ26
      subst l26 y26 z26
      obtain ⟨rfl, N26q, e26⟩ := hQ26
      have n27 := Fr.app n25 N26q
      refine own_tr (T' := T26) (g' := (mkF m 84 #[.val (.ref a0), .val (.int p1), .val (.int p2), .val (.int p3), .val (.int p4), .val (.int p5), .val (.int p6), .val (.int p7), .val (.long (0 : Int64)), .second, .val (.long (0 : Int64)), .second, .val (.int (0 : Int32))] [(.double (own_u p1 p2 p3 p5 p7))])) st26 ?_
      refine own_st (T' := T26) (g' := (mkF m 96 #[.val (.ref a0), .val (.int p1), .val (.int p2), .val (.int p3), .val (.int p4), .val (.int p5), .val (.int p6), .val (.int p7), .val (.long (0 : Int64)), .second, .val (.long (0 : Int64)), .second, .val (.int (0 : Int32))] [(.int (1 : Int32))])) (fun t k => ?_) ?_
      · show Steps p.tables e below (T26.setTop (mkF m 84 #[.val (.ref a0), .val (.int p1), .val (.int p2), .val (.int p3), .val (.int p4), .val (.int p5), .val (.int p6), .val (.int p7), .val (.long (0 : Int64)), .second, .val (.long (0 : Int64)), .second, .val (.int (0 : Int32))] [(.double (own_u p1 p2 p3 p5 p7))])) t
        refine XS.lload X26.here hx rfl (hb hby d4_84) rfl ?_
        show Steps p.tables e below (T26.setTop (mkF m 86 #[.val (.ref a0), .val (.int p1), .val (.int p2), .val (.int p3), .val (.int p4), .val (.int p5), .val (.int p6), .val (.int p7), .val (.long (0 : Int64)), .second, .val (.long (0 : Int64)), .second, .val (.int (0 : Int32))] [(.long (0 : Int64)), (.double (own_u p1 p2 p3 p5 p7))])) t
        refine XS.l2dS X26.here hx rfl (hb hby d4_86) rfl rfl ?_
        show Steps p.tables e below (T26.setTop (mkF m 87 #[.val (.ref a0), .val (.int p1), .val (.int p2), .val (.int p3), .val (.int p4), .val (.int p5), .val (.int p6), .val (.int p7), .val (.long (0 : Int64)), .second, .val (.long (0 : Int64)), .second, .val (.int (0 : Int32))] [(.double (FP.l2d (0 : Int64))), (.double (own_u p1 p2 p3 p5 p7))])) t
        refine XS.dcmpS X26.here hx rfl (hb hby d4_87) rfl (own_kff hc11_1 hc35_15 p5 p7) ?_
        show Steps p.tables e below (T26.setTop (mkF m 88 #[.val (.ref a0), .val (.int p1), .val (.int p2), .val (.int p3), .val (.int p4), .val (.int p5), .val (.int p6), .val (.int p7), .val (.long (0 : Int64)), .second, .val (.long (0 : Int64)), .second, .val (.int (0 : Int32))] [(.int (0 : Int32))])) t
        refine XS.ifNo X26.here hx rfl (hb hby d4_88) rfl (by decide) ?_
        show Steps p.tables e below (T26.setTop (mkF m 91 #[.val (.ref a0), .val (.int p1), .val (.int p2), .val (.int p3), .val (.int p4), .val (.int p5), .val (.int p6), .val (.int p7), .val (.long (0 : Int64)), .second, .val (.long (0 : Int64)), .second, .val (.int (0 : Int32))] [])) t
        refine XS.iconst X26.here hx rfl (hb hby d4_91) ?_
        show Steps p.tables e below (T26.setTop (mkF m 92 #[.val (.ref a0), .val (.int p1), .val (.int p2), .val (.int p3), .val (.int p4), .val (.int p5), .val (.int p6), .val (.int p7), .val (.long (0 : Int64)), .second, .val (.long (0 : Int64)), .second, .val (.int (0 : Int32))] [(.int (1 : Int32))])) t
        refine XS.goto X26.here hx rfl (pc0 := 92) (pc' := 96) rfl (hb hby d4_92) (by decide) (by decide) ?_
        exact k
      refine own_retZ X26 hx hlk Bd.returns (hb hby d4_96) rfl (by decide) (by decide) ?_
      show Q4 Z a0 p1 p2 p3 p4 p5 p6 p7 w_termSums_a0 kk_w_termSums_a0 z_w_termSums_a0 vs_w_termSums_a0 dv_w_termSums_a0 w_termsHeld_a0 kk_w_termsHeld_a0 z_w_termsHeld_a0 vs_w_termsHeld_a0 dv_w_termsHeld_a0 w_queryCountsHeld_a0 kk_w_queryCountsHeld_a0 z_w_queryCountsHeld_a0 vs_w_queryCountsHeld_a0 dv_w_queryCountsHeld_a0 h0 n0 (some (.int (1 : Int32))) T26.heap _
      rw [(e26 : T26.heap = h0)]
      exact ⟨rfl, n27, rfl⟩
theorem pn0 : plainName "com/example/merkmal/merkmal/rank/QueryMatchAddPinLaw" = true := by first | (simp [plainName, overriddenIn]; done) | decide +kernel
theorem pd0_0 : parseMethodDescriptor "(ID)V" = some ⟨[.int, .double], none⟩ := by decide +kernel
theorem pd0_1 : parseMethodDescriptor "(IDD)V" = some ⟨[.int, .double, .double], none⟩ := by decide +kernel
theorem pd0_2 : parseMethodDescriptor "(Lcom/example/merkmal/merkmal/rank/QueryMatch;IIIIIII)Z" = some ⟨[(.object "com/example/merkmal/merkmal/rank/QueryMatch"), .int, .int, .int, .int, .int, .int, .int], some .boolean⟩ := by decide +kernel
theorem pd0_3 : parseMethodDescriptor "()D" = some ⟨[], some .double⟩ := by decide +kernel
theorem ef0 (m : MethodId) (p0 : Int32) (p1 : Int32) (p2 : Int32) (p3 : Int32) (p4 : Int32) (p5 : Int32) : entryFrame m #[(.int p0), (.int p1), (.int p2), (.int p3), (.int p4), (.int p5)] maxLocals = mkF m 0 #[.val (.int p0), .val (.int p1), .val (.int p2), .val (.int p3), .val (.int p4), .val (.int p5), .unset, .unset, .unset, .unset, .unset, .unset, .unset] [] := by first | (simp [entryFrame, mkF, argsToLocals, Value.category, maxLocals]; done) | rfl
def Q0 (Z : State) (p0 : Int32) (p1 : Int32) (p2 : Int32) (p3 : Int32) (p4 : Int32) (p5 : Int32) (h0 : Heap) (n0 : Nat) (v : Option Value) (h : Heap) (L : List Loc) : Prop := v = some (.int (1 : Int32)) ∧ Fr n0 L
set_option maxRecDepth 65536 in
set_option maxHeartbeats 40000000 in
theorem rm0 (l : Launch) (Z : State) (ar : Array Value) (hw : ∀ d ∈ tables_1, d.before ar Z = true) (ws : List Jvm.Cond) (p0 : Int32) (p1 : Int32) (p2 : Int32) (p3 : Int32) (p4 : Int32) (p5 : Int32) (h0 : Heap) (n0 : Nat) (Z0 : n0 ≤ h0.size) :
    MetFree l x (head1 (Jvm.Cond.code x code maxLocals ret :: ws) room_1) (fun a U => a = #[(.int p0), (.int p1), (.int p2), (.int p3), (.int p4), (.int p5)] ∧ Z.Warmed39 U.vm ∧ U.heap = h0) (fun _ _ _ _ _ => True) (fun _ U o U' => ∃ v L, o = .returned v ∧ Q0 Z p0 p1 p2 p3 p4 p5 h0 n0 v U'.heap L ∧ FrameEnd U o U' L room_1.cells room_1.slots) := by
  refine MetFree.of_bodySF (plainFor_of_name pn0) hisR ?_
  intro p e s m args below meth c s₁ Bd hml0 hP hK
  obtain ⟨rfl, hZ, hh⟩ := hP
  have hx := Bd.exec
  have hby := Bd.bytes
  have hlk := Bd.notSynchronized
  have hml : c.maxLocals = 13 := hml0
  have hown : s.vm.findClass "com/example/merkmal/merkmal/rank/QueryMatchAddPinLaw" = some m.cls := findClass_of_methodNamed Bd.named
  have hnm := (name_of_methodNamed Bd.named Bd.method).1
  have X0 : Stand p l e room_1 s m #[(.int p0), (.int p1), (.int p2), (.int p3), (.int p4), (.int p5)] below meth c s₁ [] 0 0 := Stand.of_body Bd
  have e0 : s₁.heap = h0 := by rw [← hh, Bd.state]; rfl
  have N0 := Fr.nil n0
  have K0 := Keep.refl h0 []
  refine own_enter (Q := Q0 Z p0 p1 p2 p3 p4 p5 h0 n0) (ef0 m p0 p1 p2 p3 p4 p5) ?_
  have hJ41 : ∀ (nn : Int32) (r1 : Int32) (r2 : Int32) (oo : Int32) (hs : own_S nn r1 r2 oo), own_G p e below s (Q0 Z p0 p1 p2 p3 p4 p5 h0 n0) (room_1).cells (room_1).slots s₁ (mkF m 41 #[.val (.int p0), .val (.int p1), .val (.int p2), .val (.int p3), .val (.int p4), .val (.int p5), .val (.int nn), .val (.int r1), .val (.int r2), .val (.int oo), .unset, .unset, .unset] []) := by
    intro nn r1 r2 oo hs
    refine own_st (T' := s₁) (g' := (mkF m 47 #[.val (.int p0), .val (.int p1), .val (.int p2), .val (.int p3), .val (.int p4), .val (.int p5), .val (.int nn), .val (.int r1), .val (.int r2), .val (.int oo), .val (.double (FP.i2d (p0 >>> ((2 : Int32) &&& 31)))), .second, .unset] [])) (fun t k => ?_) ?_
    · show Steps p.tables e below (s₁.setTop (mkF m 41 #[.val (.int p0), .val (.int p1), .val (.int p2), .val (.int p3), .val (.int p4), .val (.int p5), .val (.int nn), .val (.int r1), .val (.int r2), .val (.int oo), .unset, .unset, .unset] [])) t
      refine XS.iloadN X0.here hx rfl (hb hby at_41) rfl ?_
      show Steps p.tables e below (s₁.setTop (mkF m 42 #[.val (.int p0), .val (.int p1), .val (.int p2), .val (.int p3), .val (.int p4), .val (.int p5), .val (.int nn), .val (.int r1), .val (.int r2), .val (.int oo), .unset, .unset, .unset] [(.int p0)])) t
      refine XS.iconst X0.here hx rfl (hb hby at_42) ?_
      show Steps p.tables e below (s₁.setTop (mkF m 43 #[.val (.int p0), .val (.int p1), .val (.int p2), .val (.int p3), .val (.int p4), .val (.int p5), .val (.int nn), .val (.int r1), .val (.int r2), .val (.int oo), .unset, .unset, .unset] [(.int (2 : Int32)), (.int p0)])) t
      refine XS.ishr X0.here hx rfl (hb hby at_43) rfl ?_
      show Steps p.tables e below (s₁.setTop (mkF m 44 #[.val (.int p0), .val (.int p1), .val (.int p2), .val (.int p3), .val (.int p4), .val (.int p5), .val (.int nn), .val (.int r1), .val (.int r2), .val (.int oo), .unset, .unset, .unset] [(.int (p0 >>> ((2 : Int32) &&& 31)))])) t
      refine XS.i2dS X0.here hx rfl (hb hby at_44) rfl rfl ?_
      show Steps p.tables e below (s₁.setTop (mkF m 45 #[.val (.int p0), .val (.int p1), .val (.int p2), .val (.int p3), .val (.int p4), .val (.int p5), .val (.int nn), .val (.int r1), .val (.int r2), .val (.int oo), .unset, .unset, .unset] [(.double (FP.i2d (p0 >>> ((2 : Int32) &&& 31))))])) t
      refine XS.dstore X0.here hx rfl (hb hby at_45) rfl (l' := #[.val (.int p0), .val (.int p1), .val (.int p2), .val (.int p3), .val (.int p4), .val (.int p5), .val (.int nn), .val (.int r1), .val (.int r2), .val (.int oo), .val (.double (FP.i2d (p0 >>> ((2 : Int32) &&& 31)))), .second, .unset]) rfl ?_
      exact k
    obtain ⟨T1, h1, X1, e1, E1, A1, D1, -, st1⟩ := newO X0 hx hZ hown (hw _ (List.mem_of_getElem? (i := 2) rfl)) (hw _ (List.mem_of_getElem? (i := 3) rfl)) (hw _ (List.mem_of_getElem? (i := 4) rfl)) e0 (g := (mkF m 47 #[.val (.int p0), .val (.int p1), .val (.int p2), .val (.int p3), .val (.int p4), .val (.int p5), .val (.int nn), .val (.int r1), .val (.int r2), .val (.int oo), .val (.double (FP.i2d (p0 >>> ((2 : Int32) &&& 31)))), .second, .unset] [])) rfl (hb hby at_47) (by decide) (by decide)
    obtain ⟨b1, g1⟩ : ∃ z, z = h0.size := ⟨_, rfl⟩
    rw [← g1] at A1 D1 st1
    have g_b1 : n0 ≤ b1 := Nat.le_trans Z0 (Nat.le_of_eq g1.symm)
    have sz_b1 : h0.size ≤ b1 := Nat.le_trans K0.1 (Nat.le_of_eq g1.symm)
    have z2 := Nat.le_trans Z0 E1.1
    have k3 := K0.ext E1
    have f4 : Fld Z h1 b1 "com/example/merkmal/merkmal/rank/QueryMatch" "queryLength" "D" (.double (0 : UInt64)) := D1 (Or.inr (hw _ (List.mem_of_getElem? (i := 12) rfl))) (ty := .double) (by decide)
    have f5 : Fld Z h1 b1 "com/example/merkmal/merkmal/rank/QueryMatch" "termSums" "[D" .null := D1 (Or.inr (hw _ (List.mem_of_getElem? (i := 15) rfl))) (ty := (.array .double)) (by decide)
    have f6 : Fld Z h1 b1 "com/example/merkmal/merkmal/rank/QueryMatch" "termsHeld" "[I" .null := D1 (Or.inr (hw _ (List.mem_of_getElem? (i := 18) rfl))) (ty := (.array .int)) (by decide)
    have f7 : Fld Z h1 b1 "com/example/merkmal/merkmal/rank/QueryMatch" "queryCountsHeld" "[D" .null := D1 (Or.inr (hw _ (List.mem_of_getElem? (i := 20) rfl))) (ty := (.array .double)) (by decide)
    refine own_st (T' := T1) (g' := (mkF m 50 #[.val (.int p0), .val (.int p1), .val (.int p2), .val (.int p3), .val (.int p4), .val (.int p5), .val (.int nn), .val (.int r1), .val (.int r2), .val (.int oo), .val (.double (FP.i2d (p0 >>> ((2 : Int32) &&& 31)))), .second, .unset] [(.ref b1)])) st1 ?_
    refine own_st (T' := T1) (g' := (mkF m 55 #[.val (.int p0), .val (.int p1), .val (.int p2), .val (.int p3), .val (.int p4), .val (.int p5), .val (.int nn), .val (.int r1), .val (.int r2), .val (.int oo), .val (.double (FP.i2d (p0 >>> ((2 : Int32) &&& 31)))), .second, .unset] [(.double (FP.i2d (p0 >>> ((2 : Int32) &&& 31)))), (.int nn), (.ref b1), (.ref b1)])) (fun t k => ?_) ?_
    · show Steps p.tables e below (T1.setTop (mkF m 50 #[.val (.int p0), .val (.int p1), .val (.int p2), .val (.int p3), .val (.int p4), .val (.int p5), .val (.int nn), .val (.int r1), .val (.int r2), .val (.int oo), .val (.double (FP.i2d (p0 >>> ((2 : Int32) &&& 31)))), .second, .unset] [(.ref b1)])) t
      refine XS.dup X1.here hx rfl (hb hby at_50) rfl rfl ?_
      show Steps p.tables e below (T1.setTop (mkF m 51 #[.val (.int p0), .val (.int p1), .val (.int p2), .val (.int p3), .val (.int p4), .val (.int p5), .val (.int nn), .val (.int r1), .val (.int r2), .val (.int oo), .val (.double (FP.i2d (p0 >>> ((2 : Int32) &&& 31)))), .second, .unset] [(.ref b1), (.ref b1)])) t
      refine XS.iload X1.here hx rfl (hb hby at_51) rfl ?_
      show Steps p.tables e below (T1.setTop (mkF m 53 #[.val (.int p0), .val (.int p1), .val (.int p2), .val (.int p3), .val (.int p4), .val (.int p5), .val (.int nn), .val (.int r1), .val (.int r2), .val (.int oo), .val (.double (FP.i2d (p0 >>> ((2 : Int32) &&& 31)))), .second, .unset] [(.int nn), (.ref b1), (.ref b1)])) t
      refine XS.dload X1.here hx rfl (hb hby at_53) rfl ?_
      exact k
    obtain ⟨_, _, ⟨T8, L8, k8, n8⟩, -, X8, ⟨Lc8, hQ8, l8, y8, z8⟩, st8⟩ := X1.specialBack hx (y := (⟨"com/example/merkmal/merkmal/rank/QueryMatch", "<init>", "(ID)V"⟩ : MethodName)) rfl hown (mvT hZ (hw _ (List.mem_of_getElem? (i := 5) rfl))) (mvT hZ (hw _ (List.mem_of_getElem? (i := 6) rfl))) (mvT hZ (hw _ (List.mem_of_getElem? (i := 7) rfl))) (by decide) (backOf (W := 1) (rm1 l Z ar hw [] b1 nn ((FP.i2d (p0 >>> ((2 : Int32) &&& 31)))) ((.double (0 : UInt64))) (.null) (.null) (.null) h1 n0 z2 A1 f4 f5 f6 f7 g_b1 hs.ng hs.cp) hZ (hw _ (List.mem_of_getElem? (i := 7) rfl)) (hw _ (List.mem_of_getElem? (i := 4) rfl)) (by decide) (by decide)) (g := (mkF m 55 #[.val (.int p0), .val (.int p1), .val (.int p2), .val (.int p3), .val (.int p4), .val (.int p5), .val (.int nn), .val (.int r1), .val (.int r2), .val (.int oo), .val (.double (FP.i2d (p0 >>> ((2 : Int32) &&& 31)))), .second, .unset] [(.double (FP.i2d (p0 >>> ((2 : Int32) &&& 31)))), (.int nn), (.ref b1), (.ref b1)])) rfl (by rw [hml]; rfl) (Steps.refl _) (a := b1) (argsL := [(.int nn), (.double (FP.i2d (p0 >>> ((2 : Int32) &&& 31))))]) (rest := [(.ref b1)]) (lenOf pd0_0 rfl) rfl (by show 2 * 0 + _ ≤ _; exact Nat.le_of_eq rfl) (hb hby at_55) (fun _ _ => ⟨rfl, e1, (by decide : 1 + 3 ≤ _), (by decide : 4 + 12 ≤ _)⟩)
    dsimp only [Pt.U, Pt.locs, Pt.cells, Pt.slots] at X8 l8 y8 z8 st8 hQ8
    subst l8 y8 z8
    obtain ⟨x0_8, x1_8, x2_8, kx_x0_8, kx_x1_8, kx_x2_8, rfl, N8q, K8, sz8_x0, sz8_x1, sz8_x2, ne8_x0_x1, ne8_x0_x2, ne8_x1_x2, f9, f10, f11, f12, f13, f14, f15, f16⟩ := hQ8
    have n17 := Fr.app N0 N8q
    have ne_b1_x0_8 : b1 ≠ x0_8 := Nat.ne_of_lt (Nat.lt_of_lt_of_le A1.lt sz8_x0)
    have g_x0_8 : n0 ≤ x0_8 := Nat.le_trans z2 sz8_x0
    have sz_x0_8 : h0.size ≤ x0_8 := Nat.le_trans k3.1 sz8_x0
    have ne_b1_x1_8 : b1 ≠ x1_8 := Nat.ne_of_lt (Nat.lt_of_lt_of_le A1.lt sz8_x1)
    have g_x1_8 : n0 ≤ x1_8 := Nat.le_trans z2 sz8_x1
    have sz_x1_8 : h0.size ≤ x1_8 := Nat.le_trans k3.1 sz8_x1
    have ne_b1_x2_8 : b1 ≠ x2_8 := Nat.ne_of_lt (Nat.lt_of_lt_of_le A1.lt sz8_x2)
    have g_x2_8 : n0 ≤ x2_8 := Nat.le_trans z2 sz8_x2
    have sz_x2_8 : h0.size ≤ x2_8 := Nat.le_trans k3.1 sz8_x2
    have f18 := A1.keep K8
    have z19 := Nat.le_trans z2 K8.1
    have k20 := k3.trans K8 (allS (Or.inr sz_b1) all0)
    refine own_tr (T' := T8) (g' := (mkF m 58 #[.val (.int p0), .val (.int p1), .val (.int p2), .val (.int p3), .val (.int p4), .val (.int p5), .val (.int nn), .val (.int r1), .val (.int r2), .val (.int oo), .val (.double (FP.i2d (p0 >>> ((2 : Int32) &&& 31)))), .second, .unset] [(.ref b1)])) st8 ?_
    refine own_st (T' := T8) (g' := (mkF m 68 #[.val (.int p0), .val (.int p1), .val (.int p2), .val (.int p3), .val (.int p4), .val (.int p5), .val (.int nn), .val (.int r1), .val (.int r2), .val (.int oo), .val (.double (FP.i2d (p0 >>> ((2 : Int32) &&& 31)))), .second, .val (.ref b1)] [(.double (FP.i2d p3)), (.double (FP.i2d p2)), (.int r1), (.ref b1)])) (fun t k => ?_) ?_
    · show Steps p.tables e below (T8.setTop (mkF m 58 #[.val (.int p0), .val (.int p1), .val (.int p2), .val (.int p3), .val (.int p4), .val (.int p5), .val (.int nn), .val (.int r1), .val (.int r2), .val (.int oo), .val (.double (FP.i2d (p0 >>> ((2 : Int32) &&& 31)))), .second, .unset] [(.ref b1)])) t
      refine XS.astore X8.here hx rfl (hb hby at_58) rfl rfl (l' := #[.val (.int p0), .val (.int p1), .val (.int p2), .val (.int p3), .val (.int p4), .val (.int p5), .val (.int nn), .val (.int r1), .val (.int r2), .val (.int oo), .val (.double (FP.i2d (p0 >>> ((2 : Int32) &&& 31)))), .second, .val (.ref b1)]) rfl ?_
      show Steps p.tables e below (T8.setTop (mkF m 60 #[.val (.int p0), .val (.int p1), .val (.int p2), .val (.int p3), .val (.int p4), .val (.int p5), .val (.int nn), .val (.int r1), .val (.int r2), .val (.int oo), .val (.double (FP.i2d (p0 >>> ((2 : Int32) &&& 31)))), .second, .val (.ref b1)] [])) t
      refine XS.aload X8.here hx rfl (hb hby at_60) rfl rfl ?_
      show Steps p.tables e below (T8.setTop (mkF m 62 #[.val (.int p0), .val (.int p1), .val (.int p2), .val (.int p3), .val (.int p4), .val (.int p5), .val (.int nn), .val (.int r1), .val (.int r2), .val (.int oo), .val (.double (FP.i2d (p0 >>> ((2 : Int32) &&& 31)))), .second, .val (.ref b1)] [(.ref b1)])) t
      refine XS.iload X8.here hx rfl (hb hby at_62) rfl ?_
      show Steps p.tables e below (T8.setTop (mkF m 64 #[.val (.int p0), .val (.int p1), .val (.int p2), .val (.int p3), .val (.int p4), .val (.int p5), .val (.int nn), .val (.int r1), .val (.int r2), .val (.int oo), .val (.double (FP.i2d (p0 >>> ((2 : Int32) &&& 31)))), .second, .val (.ref b1)] [(.int r1), (.ref b1)])) t
      refine XS.iloadN X8.here hx rfl (hb hby at_64) rfl ?_
      show Steps p.tables e below (T8.setTop (mkF m 65 #[.val (.int p0), .val (.int p1), .val (.int p2), .val (.int p3), .val (.int p4), .val (.int p5), .val (.int nn), .val (.int r1), .val (.int r2), .val (.int oo), .val (.double (FP.i2d (p0 >>> ((2 : Int32) &&& 31)))), .second, .val (.ref b1)] [(.int p2), (.int r1), (.ref b1)])) t
      refine XS.i2dS X8.here hx rfl (hb hby at_65) rfl rfl ?_
      show Steps p.tables e below (T8.setTop (mkF m 66 #[.val (.int p0), .val (.int p1), .val (.int p2), .val (.int p3), .val (.int p4), .val (.int p5), .val (.int nn), .val (.int r1), .val (.int r2), .val (.int oo), .val (.double (FP.i2d (p0 >>> ((2 : Int32) &&& 31)))), .second, .val (.ref b1)] [(.double (FP.i2d p2)), (.int r1), (.ref b1)])) t
      refine XS.iloadN X8.here hx rfl (hb hby at_66) rfl ?_
      show Steps p.tables e below (T8.setTop (mkF m 67 #[.val (.int p0), .val (.int p1), .val (.int p2), .val (.int p3), .val (.int p4), .val (.int p5), .val (.int nn), .val (.int r1), .val (.int r2), .val (.int oo), .val (.double (FP.i2d (p0 >>> ((2 : Int32) &&& 31)))), .second, .val (.ref b1)] [(.int p3), (.double (FP.i2d p2)), (.int r1), (.ref b1)])) t
      refine XS.i2dS X8.here hx rfl (hb hby at_67) rfl rfl ?_
      exact k
    obtain ⟨cq21, kq21, qa21, qb21, qc21⟩ := isOf hZ (rfl : T8.heap = T8.heap) f9
    obtain ⟨_, _, ⟨T21, L21, k21, n21⟩, -, X21, ⟨Lc21, hQ21, l21, y21, z21⟩, st21⟩ := X8.virtualBack hx (y := (⟨"com/example/merkmal/merkmal/rank/QueryMatch", "add", "(IDD)V"⟩ : MethodName)) (z := (⟨"com/example/merkmal/merkmal/rank/QueryMatch", "add", "(IDD)V"⟩ : MethodName)) hown (mvT hZ (hw _ (List.mem_of_getElem? (i := 21) rfl))) (mvT hZ (hw _ (List.mem_of_getElem? (i := 22) rfl))) (notFace_of_selects (args := #[]) (mvT hZ (hw _ (List.mem_of_getElem? (i := 24) rfl)))) (mvT hZ (hw _ (List.mem_of_getElem? (i := 24) rfl))) (mvT hZ (hw _ (List.mem_of_getElem? (i := 23) rfl))) (by decide) (backOf (W := 0) (rm3 l Z ar hw [] b1 r1 ((FP.i2d p2)) ((FP.i2d p3)) x0_8 kx_x0_8 nn ([(.double (0 : UInt64)), (.double (0 : UInt64)), (.double (0 : UInt64)), (.double (0 : UInt64))]) ((.double (0 : UInt64))) x1_8 kx_x1_8 nn ([(.int (0 : Int32)), (.int (0 : Int32)), (.int (0 : Int32)), (.int (0 : Int32))]) ((.int (0 : Int32))) x2_8 kx_x2_8 nn ([(.double (0 : UInt64)), (.double (0 : UInt64)), (.double (0 : UInt64)), (.double (0 : UInt64))]) ((.double (0 : UInt64))) ((0 : UInt64)) ((0 : Int32)) ((0 : UInt64)) T8.heap n0 z19 f9 f11 f14 f12 f15 f13 f16 hs.in1 (own_g4 _ _) ((Jvm.Free.Fl.Mag64.fin (show Jvm.Free.Fl.Mag64 1058 (FP.dadd (0 : UInt64) (FP.i2d p2)) by have q := (Jvm.Free.Fl.dadd_mag (Jvm.Free.Fl.Mag64.mono (show Jvm.Free.Fl.Mag64 1 (0 : UInt64) by unfold Jvm.Free.Fl.Mag64; decide) (show 1 ≤ 1056 by decide)) (Jvm.Free.Fl.i2d_mag p2) (by decide)); exact q) (by decide)).noNaN) hs.lt1 ne_b1_x0_8 (Ne.symm ne8_x0_x1) (Ne.symm ne8_x0_x2) g_x0_8 hs.in1 (own_g4 _ _) hs.lt1 ne_b1_x1_8 ne8_x0_x1 (Ne.symm ne8_x1_x2) g_x1_8 hs.in1 (own_g4 _ _) ((Jvm.Free.Fl.Mag64.fin (show Jvm.Free.Fl.Mag64 1058 (FP.dadd (0 : UInt64) (FP.i2d p3)) by have q := (Jvm.Free.Fl.dadd_mag (Jvm.Free.Fl.Mag64.mono (show Jvm.Free.Fl.Mag64 1 (0 : UInt64) by unfold Jvm.Free.Fl.Mag64; decide) (show 1 ≤ 1056 by decide)) (Jvm.Free.Fl.i2d_mag p3) (by decide)); exact q) (by decide)).noNaN) hs.lt1 ne_b1_x2_8 ne8_x0_x2 ne8_x1_x2 g_x2_8) hZ (hw _ (List.mem_of_getElem? (i := 25) rfl)) (hw _ (List.mem_of_getElem? (i := 4) rfl)) (by decide) (by decide)) qa21 qc21 (g := (mkF m 68 #[.val (.int p0), .val (.int p1), .val (.int p2), .val (.int p3), .val (.int p4), .val (.int p5), .val (.int nn), .val (.int r1), .val (.int r2), .val (.int oo), .val (.double (FP.i2d (p0 >>> ((2 : Int32) &&& 31)))), .second, .val (.ref b1)] [(.double (FP.i2d p3)), (.double (FP.i2d p2)), (.int r1), (.ref b1)])) rfl (by rw [hml]; rfl) (Steps.refl _) (argsL := [(.int r1), (.double (FP.i2d p2)), (.double (FP.i2d p3))]) (rest := []) (lenOf pd0_1 rfl) rfl (by show 2 * 0 + _ ≤ _; exact Nat.le_of_eq rfl) (hb hby at_68) (fun _ _ => ⟨rfl, (rfl : T8.heap = T8.heap), (by decide : 4 + 0 ≤ _), (by decide : 16 + 0 ≤ _)⟩)
    dsimp only [Pt.U, Pt.locs, Pt.cells, Pt.slots] at X21 l21 y21 z21 st21 hQ21
    subst l21 y21 z21
    obtain ⟨rfl, N21q, K21, f22, f23, f24⟩ := hQ21
    have n25 := Fr.app n17 N21q
    have f26 := f9.keep K21
    have f27 := f10.keep K21 (ninS ne_b1_x0_8 (ninS ne_b1_x1_8 (ninS ne_b1_x2_8 nin0)))
    have f28 := f11.keep K21 (ninS ne_b1_x0_8 (ninS ne_b1_x1_8 (ninS ne_b1_x2_8 nin0)))
    have f29 := f12.keep K21 (ninS ne_b1_x0_8 (ninS ne_b1_x1_8 (ninS ne_b1_x2_8 nin0)))
    have f30 := f13.keep K21 (ninS ne_b1_x0_8 (ninS ne_b1_x1_8 (ninS ne_b1_x2_8 nin0)))
    have z31 := Nat.le_trans z19 K21.1
    have k32 := k20.trans K21 (allS (Or.inr sz_x0_8) (allS (Or.inr sz_x1_8) (allS (Or.inr sz_x2_8) all0)))
    refine own_tr (T' := T21) (g' := (mkF m 71 #[.val (.int p0), .val (.int p1), .val (.int p2), .val (.int p3), .val (.int p4), .val (.int p5), .val (.int nn), .val (.int r1), .val (.int r2), .val (.int oo), .val (.double (FP.i2d (p0 >>> ((2 : Int32) &&& 31)))), .second, .val (.ref b1)] [])) st21 ?_
    refine own_st (T' := T21) (g' := (mkF m 81 #[.val (.int p0), .val (.int p1), .val (.int p2), .val (.int p3), .val (.int p4), .val (.int p5), .val (.int nn), .val (.int r1), .val (.int r2), .val (.int oo), .val (.double (FP.i2d (p0 >>> ((2 : Int32) &&& 31)))), .second, .val (.ref b1)] [(.double (FP.i2d p5)), (.double (FP.i2d p4)), (.int r2), (.ref b1)])) (fun t k => ?_) ?_
    · show Steps p.tables e below (T21.setTop (mkF m 71 #[.val (.int p0), .val (.int p1), .val (.int p2), .val (.int p3), .val (.int p4), .val (.int p5), .val (.int nn), .val (.int r1), .val (.int r2), .val (.int oo), .val (.double (FP.i2d (p0 >>> ((2 : Int32) &&& 31)))), .second, .val (.ref b1)] [])) t
      refine XS.aload X21.here hx rfl (hb hby at_71) rfl rfl ?_
      show Steps p.tables e below (T21.setTop (mkF m 73 #[.val (.int p0), .val (.int p1), .val (.int p2), .val (.int p3), .val (.int p4), .val (.int p5), .val (.int nn), .val (.int r1), .val (.int r2), .val (.int oo), .val (.double (FP.i2d (p0 >>> ((2 : Int32) &&& 31)))), .second, .val (.ref b1)] [(.ref b1)])) t
      refine XS.iload X21.here hx rfl (hb hby at_73) rfl ?_
      show Steps p.tables e below (T21.setTop (mkF m 75 #[.val (.int p0), .val (.int p1), .val (.int p2), .val (.int p3), .val (.int p4), .val (.int p5), .val (.int nn), .val (.int r1), .val (.int r2), .val (.int oo), .val (.double (FP.i2d (p0 >>> ((2 : Int32) &&& 31)))), .second, .val (.ref b1)] [(.int r2), (.ref b1)])) t
      refine XS.iload X21.here hx rfl (hb hby at_75) rfl ?_
      show Steps p.tables e below (T21.setTop (mkF m 77 #[.val (.int p0), .val (.int p1), .val (.int p2), .val (.int p3), .val (.int p4), .val (.int p5), .val (.int nn), .val (.int r1), .val (.int r2), .val (.int oo), .val (.double (FP.i2d (p0 >>> ((2 : Int32) &&& 31)))), .second, .val (.ref b1)] [(.int p4), (.int r2), (.ref b1)])) t
      refine XS.i2dS X21.here hx rfl (hb hby at_77) rfl rfl ?_
      show Steps p.tables e below (T21.setTop (mkF m 78 #[.val (.int p0), .val (.int p1), .val (.int p2), .val (.int p3), .val (.int p4), .val (.int p5), .val (.int nn), .val (.int r1), .val (.int r2), .val (.int oo), .val (.double (FP.i2d (p0 >>> ((2 : Int32) &&& 31)))), .second, .val (.ref b1)] [(.double (FP.i2d p4)), (.int r2), (.ref b1)])) t
      refine XS.iload X21.here hx rfl (hb hby at_78) rfl ?_
      show Steps p.tables e below (T21.setTop (mkF m 80 #[.val (.int p0), .val (.int p1), .val (.int p2), .val (.int p3), .val (.int p4), .val (.int p5), .val (.int nn), .val (.int r1), .val (.int r2), .val (.int oo), .val (.double (FP.i2d (p0 >>> ((2 : Int32) &&& 31)))), .second, .val (.ref b1)] [(.int p5), (.double (FP.i2d p4)), (.int r2), (.ref b1)])) t
      refine XS.i2dS X21.here hx rfl (hb hby at_80) rfl rfl ?_
      exact k
    obtain ⟨cq33, kq33, qa33, qb33, qc33⟩ := isOf hZ (rfl : T21.heap = T21.heap) f26
    obtain ⟨_, _, ⟨T33, L33, k33, n33⟩, -, X33, ⟨Lc33, hQ33, l33, y33, z33⟩, st33⟩ := X21.virtualBack hx (y := (⟨"com/example/merkmal/merkmal/rank/QueryMatch", "add", "(IDD)V"⟩ : MethodName)) (z := (⟨"com/example/merkmal/merkmal/rank/QueryMatch", "add", "(IDD)V"⟩ : MethodName)) hown (mvT hZ (hw _ (List.mem_of_getElem? (i := 21) rfl))) (mvT hZ (hw _ (List.mem_of_getElem? (i := 22) rfl))) (notFace_of_selects (args := #[]) (mvT hZ (hw _ (List.mem_of_getElem? (i := 24) rfl)))) (mvT hZ (hw _ (List.mem_of_getElem? (i := 24) rfl))) (mvT hZ (hw _ (List.mem_of_getElem? (i := 23) rfl))) (by decide) (backOf (W := 0) (rm3 l Z ar hw [] b1 r2 ((FP.i2d p4)) ((FP.i2d p5)) x0_8 kx_x0_8 nn (([(.double (0 : UInt64)), (.double (0 : UInt64)), (.double (0 : UInt64)), (.double (0 : UInt64))].set (r1).toNatClampNeg (.double (FP.dadd (0 : UInt64) (FP.i2d p2))))) ((.double (0 : UInt64))) x1_8 kx_x1_8 nn (([(.int (0 : Int32)), (.int (0 : Int32)), (.int (0 : Int32)), (.int (0 : Int32))].set (r1).toNatClampNeg (.int ((0 : Int32) + (1 : Int32))))) ((.int (0 : Int32))) x2_8 kx_x2_8 nn (([(.double (0 : UInt64)), (.double (0 : UInt64)), (.double (0 : UInt64)), (.double (0 : UInt64))].set (r1).toNatClampNeg (.double (FP.dadd (0 : UInt64) (FP.i2d p3))))) ((.double (0 : UInt64))) ((own_v r2 r1 p2)) ((own_v2 r2 r1)) ((own_v r2 r1 p3)) T21.heap n0 z31 f26 f28 f22 f29 f23 f30 f24 hs.in2 (hs.h2 _) (own_nn2 _ _ _ _) (own_ls hs.lt2) ne_b1_x0_8 (Ne.symm ne8_x0_x1) (Ne.symm ne8_x0_x2) g_x0_8 hs.in2 hs.h2i (own_ls hs.lt2) ne_b1_x1_8 ne8_x0_x1 (Ne.symm ne8_x1_x2) g_x1_8 hs.in2 (hs.h2 _) (own_nn2 _ _ _ _) (own_ls hs.lt2) ne_b1_x2_8 ne8_x0_x2 ne8_x1_x2 g_x2_8) hZ (hw _ (List.mem_of_getElem? (i := 25) rfl)) (hw _ (List.mem_of_getElem? (i := 4) rfl)) (by decide) (by decide)) qa33 qc33 (g := (mkF m 81 #[.val (.int p0), .val (.int p1), .val (.int p2), .val (.int p3), .val (.int p4), .val (.int p5), .val (.int nn), .val (.int r1), .val (.int r2), .val (.int oo), .val (.double (FP.i2d (p0 >>> ((2 : Int32) &&& 31)))), .second, .val (.ref b1)] [(.double (FP.i2d p5)), (.double (FP.i2d p4)), (.int r2), (.ref b1)])) rfl (by rw [hml]; rfl) (Steps.refl _) (argsL := [(.int r2), (.double (FP.i2d p4)), (.double (FP.i2d p5))]) (rest := []) (lenOf pd0_1 rfl) rfl (by show 2 * 0 + _ ≤ _; exact Nat.le_of_eq rfl) (hb hby at_81) (fun _ _ => ⟨rfl, (rfl : T21.heap = T21.heap), (by decide : 4 + 0 ≤ _), (by decide : 16 + 0 ≤ _)⟩)
    dsimp only [Pt.U, Pt.locs, Pt.cells, Pt.slots] at X33 l33 y33 z33 st33 hQ33
    subst l33 y33 z33
    obtain ⟨rfl, N33q, K33, f34, f35, f36⟩ := hQ33
    have n37 := Fr.app n25 N33q
    have f38 := f26.keep K33
    have f39 := f27.keep K33 (ninS ne_b1_x0_8 (ninS ne_b1_x1_8 (ninS ne_b1_x2_8 nin0)))
    have f40 := f28.keep K33 (ninS ne_b1_x0_8 (ninS ne_b1_x1_8 (ninS ne_b1_x2_8 nin0)))
    have f41 := f29.keep K33 (ninS ne_b1_x0_8 (ninS ne_b1_x1_8 (ninS ne_b1_x2_8 nin0)))
    have f42 := f30.keep K33 (ninS ne_b1_x0_8 (ninS ne_b1_x1_8 (ninS ne_b1_x2_8 nin0)))
    have z43 := Nat.le_trans z31 K33.1
    have k44 := k32.trans K33 (allS (Or.inr sz_x0_8) (allS (Or.inr sz_x1_8) (allS (Or.inr sz_x2_8) all0)))
    refine own_tr (T' := T33) (g' := (mkF m 84 #[.val (.int p0), .val (.int p1), .val (.int p2), .val (.int p3), .val (.int p4), .val (.int p5), .val (.int nn), .val (.int r1), .val (.int r2), .val (.int oo), .val (.double (FP.i2d (p0 >>> ((2 : Int32) &&& 31)))), .second, .val (.ref b1)] [])) st33 ?_
    refine own_st (T' := T33) (g' := (mkF m 98 #[.val (.int p0), .val (.int p1), .val (.int p2), .val (.int p3), .val (.int p4), .val (.int p5), .val (.int nn), .val (.int r1), .val (.int r2), .val (.int oo), .val (.double (FP.i2d (p0 >>> ((2 : Int32) &&& 31)))), .second, .val (.ref b1)] [(.int p5), (.int p4), (.int p3), (.int p2), (.int r2), (.int r1), (.int r1), (.ref b1)])) (fun t k => ?_) ?_
    · show Steps p.tables e below (T33.setTop (mkF m 84 #[.val (.int p0), .val (.int p1), .val (.int p2), .val (.int p3), .val (.int p4), .val (.int p5), .val (.int nn), .val (.int r1), .val (.int r2), .val (.int oo), .val (.double (FP.i2d (p0 >>> ((2 : Int32) &&& 31)))), .second, .val (.ref b1)] [])) t
      refine XS.aload X33.here hx rfl (hb hby at_84) rfl rfl ?_
      show Steps p.tables e below (T33.setTop (mkF m 86 #[.val (.int p0), .val (.int p1), .val (.int p2), .val (.int p3), .val (.int p4), .val (.int p5), .val (.int nn), .val (.int r1), .val (.int r2), .val (.int oo), .val (.double (FP.i2d (p0 >>> ((2 : Int32) &&& 31)))), .second, .val (.ref b1)] [(.ref b1)])) t
      refine XS.iload X33.here hx rfl (hb hby at_86) rfl ?_
      show Steps p.tables e below (T33.setTop (mkF m 88 #[.val (.int p0), .val (.int p1), .val (.int p2), .val (.int p3), .val (.int p4), .val (.int p5), .val (.int nn), .val (.int r1), .val (.int r2), .val (.int oo), .val (.double (FP.i2d (p0 >>> ((2 : Int32) &&& 31)))), .second, .val (.ref b1)] [(.int r1), (.ref b1)])) t
      refine XS.iload X33.here hx rfl (hb hby at_88) rfl ?_
      show Steps p.tables e below (T33.setTop (mkF m 90 #[.val (.int p0), .val (.int p1), .val (.int p2), .val (.int p3), .val (.int p4), .val (.int p5), .val (.int nn), .val (.int r1), .val (.int r2), .val (.int oo), .val (.double (FP.i2d (p0 >>> ((2 : Int32) &&& 31)))), .second, .val (.ref b1)] [(.int r1), (.int r1), (.ref b1)])) t
      refine XS.iload X33.here hx rfl (hb hby at_90) rfl ?_
      show Steps p.tables e below (T33.setTop (mkF m 92 #[.val (.int p0), .val (.int p1), .val (.int p2), .val (.int p3), .val (.int p4), .val (.int p5), .val (.int nn), .val (.int r1), .val (.int r2), .val (.int oo), .val (.double (FP.i2d (p0 >>> ((2 : Int32) &&& 31)))), .second, .val (.ref b1)] [(.int r2), (.int r1), (.int r1), (.ref b1)])) t
      refine XS.iloadN X33.here hx rfl (hb hby at_92) rfl ?_
      show Steps p.tables e below (T33.setTop (mkF m 93 #[.val (.int p0), .val (.int p1), .val (.int p2), .val (.int p3), .val (.int p4), .val (.int p5), .val (.int nn), .val (.int r1), .val (.int r2), .val (.int oo), .val (.double (FP.i2d (p0 >>> ((2 : Int32) &&& 31)))), .second, .val (.ref b1)] [(.int p2), (.int r2), (.int r1), (.int r1), (.ref b1)])) t
      refine XS.iloadN X33.here hx rfl (hb hby at_93) rfl ?_
      show Steps p.tables e below (T33.setTop (mkF m 94 #[.val (.int p0), .val (.int p1), .val (.int p2), .val (.int p3), .val (.int p4), .val (.int p5), .val (.int nn), .val (.int r1), .val (.int r2), .val (.int oo), .val (.double (FP.i2d (p0 >>> ((2 : Int32) &&& 31)))), .second, .val (.ref b1)] [(.int p3), (.int p2), (.int r2), (.int r1), (.int r1), (.ref b1)])) t
      refine XS.iload X33.here hx rfl (hb hby at_94) rfl ?_
      show Steps p.tables e below (T33.setTop (mkF m 96 #[.val (.int p0), .val (.int p1), .val (.int p2), .val (.int p3), .val (.int p4), .val (.int p5), .val (.int nn), .val (.int r1), .val (.int r2), .val (.int oo), .val (.double (FP.i2d (p0 >>> ((2 : Int32) &&& 31)))), .second, .val (.ref b1)] [(.int p4), (.int p3), (.int p2), (.int r2), (.int r1), (.int r1), (.ref b1)])) t
      refine XS.iload X33.here hx rfl (hb hby at_96) rfl ?_
      exact k
    obtain ⟨_, _, ⟨T45, L45, k45, n45⟩, -, X45, ⟨Lc45, hQ45, l45, y45, z45⟩, st45⟩ := Jvm.LawKit.callS X33 hx (y := (⟨"com/example/merkmal/merkmal/rank/QueryMatchAddPinLaw", "holds", "(Lcom/example/merkmal/merkmal/rank/QueryMatch;IIIIIII)Z"⟩ : MethodName)) hown (mvT hZ (hw _ (List.mem_of_getElem? (i := 26) rfl))) (mvT hZ (hw _ (List.mem_of_getElem? (i := 27) rfl))) (mvT hZ (hw _ (List.mem_of_getElem? (i := 28) rfl))) (mvT hZ (hw _ (List.mem_of_getElem? (i := 29) rfl))) (by decide) (backOf (W := 0) (rm4 l Z ar hw [] b1 r1 r1 r2 p2 p3 p4 p5 x0_8 kx_x0_8 nn ((([(.double (0 : UInt64)), (.double (0 : UInt64)), (.double (0 : UInt64)), (.double (0 : UInt64))].set (r1).toNatClampNeg (.double (FP.dadd (0 : UInt64) (FP.i2d p2)))).set (r2).toNatClampNeg (.double (FP.dadd (own_v r2 r1 p2) (FP.i2d p4))))) ((.double (0 : UInt64))) x1_8 kx_x1_8 nn ((([(.int (0 : Int32)), (.int (0 : Int32)), (.int (0 : Int32)), (.int (0 : Int32))].set (r1).toNatClampNeg (.int ((0 : Int32) + (1 : Int32)))).set (r2).toNatClampNeg (.int ((own_v2 r2 r1) + (1 : Int32))))) ((.int (0 : Int32))) x2_8 kx_x2_8 nn ((([(.double (0 : UInt64)), (.double (0 : UInt64)), (.double (0 : UInt64)), (.double (0 : UInt64))].set (r1).toNatClampNeg (.double (FP.dadd (0 : UInt64) (FP.i2d p3)))).set (r2).toNatClampNeg (.double (FP.dadd (own_v r2 r1 p3) (FP.i2d p5))))) ((.double (0 : UInt64))) T33.heap n0 z43 f38 f40 f34 f41 f35 f42 f36 (hs.h3 _ _) hs.in1 hs.h3i hs.in1 (hs.h3 _ _) hs.in1) hZ (hw _ (List.mem_of_getElem? (i := 29) rfl)) (hw _ (List.mem_of_getElem? (i := 28) rfl)) (by decide) (by decide)) (g := (mkF m 98 #[.val (.int p0), .val (.int p1), .val (.int p2), .val (.int p3), .val (.int p4), .val (.int p5), .val (.int nn), .val (.int r1), .val (.int r2), .val (.int oo), .val (.double (FP.i2d (p0 >>> ((2 : Int32) &&& 31)))), .second, .val (.ref b1)] [(.int p5), (.int p4), (.int p3), (.int p2), (.int r2), (.int r1), (.int r1), (.ref b1)])) rfl (by rw [hml]; rfl) (argsL := [(.ref b1), (.int r1), (.int r1), (.int r2), (.int p2), (.int p3), (.int p4), (.int p5)]) (rest := []) (lenOf pd0_2 rfl) rfl (by show 2 * 0 + _ ≤ _; exact Nat.le_of_eq rfl) (hb hby at_98) (fun _ _ => ⟨rfl, (rfl : T33.heap = T33.heap), (by decide : 4 + 0 ≤ _), (by decide : 16 + 0 ≤ _)⟩)
    dsimp only [Pt.U, Pt.locs, Pt.cells, Pt.slots] at X45 l45 y45 z45 st45 hQ45
    subst l45 y45 z45
    obtain ⟨rfl, N45q, e45⟩ := hQ45
    have n46 := Fr.app n37 N45q
    refine own_st (T' := T45) (g' := (mkF m 101 #[.val (.int p0), .val (.int p1), .val (.int p2), .val (.int p3), .val (.int p4), .val (.int p5), .val (.int nn), .val (.int r1), .val (.int r2), .val (.int oo), .val (.double (FP.i2d (p0 >>> ((2 : Int32) &&& 31)))), .second, .val (.ref b1)] [(.int (1 : Int32))])) st45 ?_
    refine own_st (T' := T45) (g' := (mkF m 118 #[.val (.int p0), .val (.int p1), .val (.int p2), .val (.int p3), .val (.int p4), .val (.int p5), .val (.int nn), .val (.int r1), .val (.int r2), .val (.int oo), .val (.double (FP.i2d (p0 >>> ((2 : Int32) &&& 31)))), .second, .val (.ref b1)] [(.int p5), (.int p4), (.int p3), (.int p2), (.int r2), (.int r1), (.int oo), (.ref b1)])) (fun t k => ?_) ?_
    · show Steps p.tables e below (T45.setTop (mkF m 101 #[.val (.int p0), .val (.int p1), .val (.int p2), .val (.int p3), .val (.int p4), .val (.int p5), .val (.int nn), .val (.int r1), .val (.int r2), .val (.int oo), .val (.double (FP.i2d (p0 >>> ((2 : Int32) &&& 31)))), .second, .val (.ref b1)] [(.int (1 : Int32))])) t
      refine XS.ifNo X45.here hx rfl (hb hby at_101) rfl (by decide) ?_
      show Steps p.tables e below (T45.setTop (mkF m 104 #[.val (.int p0), .val (.int p1), .val (.int p2), .val (.int p3), .val (.int p4), .val (.int p5), .val (.int nn), .val (.int r1), .val (.int r2), .val (.int oo), .val (.double (FP.i2d (p0 >>> ((2 : Int32) &&& 31)))), .second, .val (.ref b1)] [])) t
      refine XS.aload X45.here hx rfl (hb hby at_104) rfl rfl ?_
      show Steps p.tables e below (T45.setTop (mkF m 106 #[.val (.int p0), .val (.int p1), .val (.int p2), .val (.int p3), .val (.int p4), .val (.int p5), .val (.int nn), .val (.int r1), .val (.int r2), .val (.int oo), .val (.double (FP.i2d (p0 >>> ((2 : Int32) &&& 31)))), .second, .val (.ref b1)] [(.ref b1)])) t
      refine XS.iload X45.here hx rfl (hb hby at_106) rfl ?_
      show Steps p.tables e below (T45.setTop (mkF m 108 #[.val (.int p0), .val (.int p1), .val (.int p2), .val (.int p3), .val (.int p4), .val (.int p5), .val (.int nn), .val (.int r1), .val (.int r2), .val (.int oo), .val (.double (FP.i2d (p0 >>> ((2 : Int32) &&& 31)))), .second, .val (.ref b1)] [(.int oo), (.ref b1)])) t
      refine XS.iload X45.here hx rfl (hb hby at_108) rfl ?_
      show Steps p.tables e below (T45.setTop (mkF m 110 #[.val (.int p0), .val (.int p1), .val (.int p2), .val (.int p3), .val (.int p4), .val (.int p5), .val (.int nn), .val (.int r1), .val (.int r2), .val (.int oo), .val (.double (FP.i2d (p0 >>> ((2 : Int32) &&& 31)))), .second, .val (.ref b1)] [(.int r1), (.int oo), (.ref b1)])) t
      refine XS.iload X45.here hx rfl (hb hby at_110) rfl ?_
      show Steps p.tables e below (T45.setTop (mkF m 112 #[.val (.int p0), .val (.int p1), .val (.int p2), .val (.int p3), .val (.int p4), .val (.int p5), .val (.int nn), .val (.int r1), .val (.int r2), .val (.int oo), .val (.double (FP.i2d (p0 >>> ((2 : Int32) &&& 31)))), .second, .val (.ref b1)] [(.int r2), (.int r1), (.int oo), (.ref b1)])) t
      refine XS.iloadN X45.here hx rfl (hb hby at_112) rfl ?_
      show Steps p.tables e below (T45.setTop (mkF m 113 #[.val (.int p0), .val (.int p1), .val (.int p2), .val (.int p3), .val (.int p4), .val (.int p5), .val (.int nn), .val (.int r1), .val (.int r2), .val (.int oo), .val (.double (FP.i2d (p0 >>> ((2 : Int32) &&& 31)))), .second, .val (.ref b1)] [(.int p2), (.int r2), (.int r1), (.int oo), (.ref b1)])) t
      refine XS.iloadN X45.here hx rfl (hb hby at_113) rfl ?_
      show Steps p.tables e below (T45.setTop (mkF m 114 #[.val (.int p0), .val (.int p1), .val (.int p2), .val (.int p3), .val (.int p4), .val (.int p5), .val (.int nn), .val (.int r1), .val (.int r2), .val (.int oo), .val (.double (FP.i2d (p0 >>> ((2 : Int32) &&& 31)))), .second, .val (.ref b1)] [(.int p3), (.int p2), (.int r2), (.int r1), (.int oo), (.ref b1)])) t
      refine XS.iload X45.here hx rfl (hb hby at_114) rfl ?_
      show Steps p.tables e below (T45.setTop (mkF m 116 #[.val (.int p0), .val (.int p1), .val (.int p2), .val (.int p3), .val (.int p4), .val (.int p5), .val (.int nn), .val (.int r1), .val (.int r2), .val (.int oo), .val (.double (FP.i2d (p0 >>> ((2 : Int32) &&& 31)))), .second, .val (.ref b1)] [(.int p4), (.int p3), (.int p2), (.int r2), (.int r1), (.int oo), (.ref b1)])) t
      refine XS.iload X45.here hx rfl (hb hby at_116) rfl ?_
      exact k
    obtain ⟨_, _, ⟨T47, L47, k47, n47⟩, -, X47, ⟨Lc47, hQ47, l47, y47, z47⟩, st47⟩ := Jvm.LawKit.callS X45 hx (y := (⟨"com/example/merkmal/merkmal/rank/QueryMatchAddPinLaw", "holds", "(Lcom/example/merkmal/merkmal/rank/QueryMatch;IIIIIII)Z"⟩ : MethodName)) hown (mvT hZ (hw _ (List.mem_of_getElem? (i := 26) rfl))) (mvT hZ (hw _ (List.mem_of_getElem? (i := 27) rfl))) (mvT hZ (hw _ (List.mem_of_getElem? (i := 28) rfl))) (mvT hZ (hw _ (List.mem_of_getElem? (i := 29) rfl))) (by decide) (backOf (W := 0) (rm4 l Z ar hw [] b1 oo r1 r2 p2 p3 p4 p5 x0_8 kx_x0_8 nn ((([(.double (0 : UInt64)), (.double (0 : UInt64)), (.double (0 : UInt64)), (.double (0 : UInt64))].set (r1).toNatClampNeg (.double (FP.dadd (0 : UInt64) (FP.i2d p2)))).set (r2).toNatClampNeg (.double (FP.dadd (own_v r2 r1 p2) (FP.i2d p4))))) ((.double (0 : UInt64))) x1_8 kx_x1_8 nn ((([(.int (0 : Int32)), (.int (0 : Int32)), (.int (0 : Int32)), (.int (0 : Int32))].set (r1).toNatClampNeg (.int ((0 : Int32) + (1 : Int32)))).set (r2).toNatClampNeg (.int ((own_v2 r2 r1) + (1 : Int32))))) ((.int (0 : Int32))) x2_8 kx_x2_8 nn ((([(.double (0 : UInt64)), (.double (0 : UInt64)), (.double (0 : UInt64)), (.double (0 : UInt64))].set (r1).toNatClampNeg (.double (FP.dadd (0 : UInt64) (FP.i2d p3)))).set (r2).toNatClampNeg (.double (FP.dadd (own_v r2 r1 p3) (FP.i2d p5))))) ((.double (0 : UInt64))) T33.heap n0 z43 f38 f40 f34 f41 f35 f42 f36 (hs.h4 _ _) hs.in3 hs.h4i hs.in3 (hs.h4 _ _) hs.in3) hZ (hw _ (List.mem_of_getElem? (i := 29) rfl)) (hw _ (List.mem_of_getElem? (i := 28) rfl)) (by decide) (by decide)) (g := (mkF m 118 #[.val (.int p0), .val (.int p1), .val (.int p2), .val (.int p3), .val (.int p4), .val (.int p5), .val (.int nn), .val (.int r1), .val (.int r2), .val (.int oo), .val (.double (FP.i2d (p0 >>> ((2 : Int32) &&& 31)))), .second, .val (.ref b1)] [(.int p5), (.int p4), (.int p3), (.int p2), (.int r2), (.int r1), (.int oo), (.ref b1)])) rfl (by rw [hml]; rfl) (argsL := [(.ref b1), (.int oo), (.int r1), (.int r2), (.int p2), (.int p3), (.int p4), (.int p5)]) (rest := []) (lenOf pd0_2 rfl) rfl (by show 2 * 0 + _ ≤ _; exact Nat.le_of_eq rfl) (hb hby at_118) (fun _ _ => ⟨rfl, e45, (by decide : 4 + 0 ≤ _), (by decide : 16 + 0 ≤ _)⟩)
    dsimp only [Pt.U, Pt.locs, Pt.cells, Pt.slots] at X47 l47 y47 z47 st47 hQ47
    subst l47 y47 z47
    obtain ⟨rfl, N47q, e47⟩ := hQ47
    have n48 := Fr.app n46 N47q
    refine own_st (T' := T47) (g' := (mkF m 121 #[.val (.int p0), .val (.int p1), .val (.int p2), .val (.int p3), .val (.int p4), .val (.int p5), .val (.int nn), .val (.int r1), .val (.int r2), .val (.int oo), .val (.double (FP.i2d (p0 >>> ((2 : Int32) &&& 31)))), .second, .val (.ref b1)] [(.int (1 : Int32))])) st47 ?_
    refine own_st (T' := T47) (g' := (mkF m 126 #[.val (.int p0), .val (.int p1), .val (.int p2), .val (.int p3), .val (.int p4), .val (.int p5), .val (.int nn), .val (.int r1), .val (.int r2), .val (.int oo), .val (.double (FP.i2d (p0 >>> ((2 : Int32) &&& 31)))), .second, .val (.ref b1)] [(.ref b1)])) (fun t k => ?_) ?_
    · show Steps p.tables e below (T47.setTop (mkF m 121 #[.val (.int p0), .val (.int p1), .val (.int p2), .val (.int p3), .val (.int p4), .val (.int p5), .val (.int nn), .val (.int r1), .val (.int r2), .val (.int oo), .val (.double (FP.i2d (p0 >>> ((2 : Int32) &&& 31)))), .second, .val (.ref b1)] [(.int (1 : Int32))])) t
      refine XS.ifNo X47.here hx rfl (hb hby at_121) rfl (by decide) ?_
      show Steps p.tables e below (T47.setTop (mkF m 124 #[.val (.int p0), .val (.int p1), .val (.int p2), .val (.int p3), .val (.int p4), .val (.int p5), .val (.int nn), .val (.int r1), .val (.int r2), .val (.int oo), .val (.double (FP.i2d (p0 >>> ((2 : Int32) &&& 31)))), .second, .val (.ref b1)] [])) t
      refine XS.aload X47.here hx rfl (hb hby at_124) rfl rfl ?_
      exact k
    obtain ⟨cq49, kq49, qa49, qb49, qc49⟩ := isOf hZ e47 f38
    obtain ⟨_, _, ⟨T49, L49, k49, n49⟩, -, X49, ⟨Lc49, hQ49, l49, y49, z49⟩, st49⟩ := X47.virtualBack hx (y := (⟨"com/example/merkmal/merkmal/rank/QueryMatch", "queryLength", "()D"⟩ : MethodName)) (z := (⟨"com/example/merkmal/merkmal/rank/QueryMatch", "queryLength", "()D"⟩ : MethodName)) hown (mvT hZ (hw _ (List.mem_of_getElem? (i := 45) rfl))) (mvT hZ (hw _ (List.mem_of_getElem? (i := 46) rfl))) (notFace_of_selects (args := #[]) (mvT hZ (hw _ (List.mem_of_getElem? (i := 48) rfl)))) (mvT hZ (hw _ (List.mem_of_getElem? (i := 48) rfl))) (mvT hZ (hw _ (List.mem_of_getElem? (i := 47) rfl))) (by decide) (backOf (W := 0) (rm8 l Z ar hw [] b1 ((FP.i2d (p0 >>> ((2 : Int32) &&& 31)))) T33.heap n0 z43 f38 f39) hZ (hw _ (List.mem_of_getElem? (i := 49) rfl)) (hw _ (List.mem_of_getElem? (i := 4) rfl)) (by decide) (by decide)) qa49 qc49 (g := (mkF m 126 #[.val (.int p0), .val (.int p1), .val (.int p2), .val (.int p3), .val (.int p4), .val (.int p5), .val (.int nn), .val (.int r1), .val (.int r2), .val (.int oo), .val (.double (FP.i2d (p0 >>> ((2 : Int32) &&& 31)))), .second, .val (.ref b1)] [(.ref b1)])) rfl (by rw [hml]; rfl) (Steps.refl _) (argsL := []) (rest := []) (lenOf pd0_3 rfl) rfl (by show 2 * 0 + _ ≤ _; exact Nat.le_of_eq rfl) (hb hby at_126) (fun _ _ => ⟨rfl, e47, (by decide : 4 + 0 ≤ _), (by decide : 16 + 0 ≤ _)⟩)
    dsimp only [Pt.U, Pt.locs, Pt.cells, Pt.slots] at X49 l49 y49 z49 st49 hQ49
    subst l49 y49 z49
    obtain ⟨rfl, N49q, e49⟩ := hQ49
    have n50 := Fr.app n48 N49q
    refine own_tr (T' := T49) (g' := (mkF m 129 #[.val (.int p0), .val (.int p1), .val (.int p2), .val (.int p3), .val (.int p4), .val (.int p5), .val (.int nn), .val (.int r1), .val (.int r2), .val (.int oo), .val (.double (FP.i2d (p0 >>> ((2 : Int32) &&& 31)))), .second, .val (.ref b1)] [(.double (FP.i2d (p0 >>> ((2 : Int32) &&& 31))))])) st49 ?_
    refine own_st (T' := T49) (g' := (mkF m 140 #[.val (.int p0), .val (.int p1), .val (.int p2), .val (.int p3), .val (.int p4), .val (.int p5), .val (.int nn), .val (.int r1), .val (.int r2), .val (.int oo), .val (.double (FP.i2d (p0 >>> ((2 : Int32) &&& 31)))), .second, .val (.ref b1)] [(.int (1 : Int32))])) (fun t k => ?_) ?_
    · show Steps p.tables e below (T49.setTop (mkF m 129 #[.val (.int p0), .val (.int p1), .val (.int p2), .val (.int p3), .val (.int p4), .val (.int p5), .val (.int nn), .val (.int r1), .val (.int r2), .val (.int oo), .val (.double (FP.i2d (p0 >>> ((2 : Int32) &&& 31)))), .second, .val (.ref b1)] [(.double (FP.i2d (p0 >>> ((2 : Int32) &&& 31))))])) t
      refine XS.dload X49.here hx rfl (hb hby at_129) rfl ?_
      show Steps p.tables e below (T49.setTop (mkF m 131 #[.val (.int p0), .val (.int p1), .val (.int p2), .val (.int p3), .val (.int p4), .val (.int p5), .val (.int nn), .val (.int r1), .val (.int r2), .val (.int oo), .val (.double (FP.i2d (p0 >>> ((2 : Int32) &&& 31)))), .second, .val (.ref b1)] [(.double (FP.i2d (p0 >>> ((2 : Int32) &&& 31)))), (.double (FP.i2d (p0 >>> ((2 : Int32) &&& 31))))])) t
      refine XS.dcmpS X49.here hx rfl (hb hby at_131) rfl (dcmpV_self (Jvm.Free.Fl.i2d_fin _).noNaN .l) ?_
      show Steps p.tables e below (T49.setTop (mkF m 132 #[.val (.int p0), .val (.int p1), .val (.int p2), .val (.int p3), .val (.int p4), .val (.int p5), .val (.int nn), .val (.int r1), .val (.int r2), .val (.int oo), .val (.double (FP.i2d (p0 >>> ((2 : Int32) &&& 31)))), .second, .val (.ref b1)] [(.int (0 : Int32))])) t
      refine XS.ifNo X49.here hx rfl (hb hby at_132) rfl (by decide) ?_
      show Steps p.tables e below (T49.setTop (mkF m 135 #[.val (.int p0), .val (.int p1), .val (.int p2), .val (.int p3), .val (.int p4), .val (.int p5), .val (.int nn), .val (.int r1), .val (.int r2), .val (.int oo), .val (.double (FP.i2d (p0 >>> ((2 : Int32) &&& 31)))), .second, .val (.ref b1)] [])) t
      refine XS.iconst X49.here hx rfl (hb hby at_135) ?_
      show Steps p.tables e below (T49.setTop (mkF m 136 #[.val (.int p0), .val (.int p1), .val (.int p2), .val (.int p3), .val (.int p4), .val (.int p5), .val (.int nn), .val (.int r1), .val (.int r2), .val (.int oo), .val (.double (FP.i2d (p0 >>> ((2 : Int32) &&& 31)))), .second, .val (.ref b1)] [(.int (1 : Int32))])) t
      refine XS.goto X49.here hx rfl (pc0 := 136) (pc' := 140) rfl (hb hby at_136) (by decide) (by decide) ?_
      exact k
    refine own_retZ X49 hx hlk Bd.returns (hb hby at_140) rfl (by decide) (by decide) ?_
    show Q0 Z p0 p1 p2 p3 p4 p5 h0 n0 (some (.int (1 : Int32))) T49.heap _
    exact ⟨rfl, n50⟩
  refine own_st (T' := s₁) (g' := (mkF m 41 #[.val (.int p0), .val (.int p1), .val (.int p2), .val (.int p3), .val (.int p4), .val (.int p5), .val (.int ((p0 &&& (3 : Int32)) + (1 : Int32))), .val (.int ((p1 &&& (2147483647 : Int32)) % ((p0 &&& (3 : Int32)) + (1 : Int32)))), .val (.int ((((p1.toUInt32 >>> ((8 : Int32) &&& 31).toUInt32).toInt32) &&& (8388607 : Int32)) % ((p0 &&& (3 : Int32)) + (1 : Int32)))), .val (.int ((((p1.toUInt32 >>> ((16 : Int32) &&& 31).toUInt32).toInt32) &&& (255 : Int32)) % ((p0 &&& (3 : Int32)) + (1 : Int32)))), .unset, .unset, .unset] [])) (fun t k => ?_) ?_
  · show Steps p.tables e below (s₁.setTop (mkF m 0 #[.val (.int p0), .val (.int p1), .val (.int p2), .val (.int p3), .val (.int p4), .val (.int p5), .unset, .unset, .unset, .unset, .unset, .unset, .unset] [])) t
    refine XS.iloadN X0.here hx rfl (hb hby at_0) rfl ?_
    show Steps p.tables e below (s₁.setTop (mkF m 1 #[.val (.int p0), .val (.int p1), .val (.int p2), .val (.int p3), .val (.int p4), .val (.int p5), .unset, .unset, .unset, .unset, .unset, .unset, .unset] [(.int p0)])) t
    refine XS.iconst X0.here hx rfl (hb hby at_1) ?_
    show Steps p.tables e below (s₁.setTop (mkF m 2 #[.val (.int p0), .val (.int p1), .val (.int p2), .val (.int p3), .val (.int p4), .val (.int p5), .unset, .unset, .unset, .unset, .unset, .unset, .unset] [(.int (3 : Int32)), (.int p0)])) t
    refine XS.iand X0.here hx rfl (hb hby at_2) rfl ?_
    show Steps p.tables e below (s₁.setTop (mkF m 3 #[.val (.int p0), .val (.int p1), .val (.int p2), .val (.int p3), .val (.int p4), .val (.int p5), .unset, .unset, .unset, .unset, .unset, .unset, .unset] [(.int (p0 &&& (3 : Int32)))])) t
    refine XS.iconst X0.here hx rfl (hb hby at_3) ?_
    show Steps p.tables e below (s₁.setTop (mkF m 4 #[.val (.int p0), .val (.int p1), .val (.int p2), .val (.int p3), .val (.int p4), .val (.int p5), .unset, .unset, .unset, .unset, .unset, .unset, .unset] [(.int (1 : Int32)), (.int (p0 &&& (3 : Int32)))])) t
    refine XS.iadd X0.here hx rfl (hb hby at_4) rfl ?_
    show Steps p.tables e below (s₁.setTop (mkF m 5 #[.val (.int p0), .val (.int p1), .val (.int p2), .val (.int p3), .val (.int p4), .val (.int p5), .unset, .unset, .unset, .unset, .unset, .unset, .unset] [(.int ((p0 &&& (3 : Int32)) + (1 : Int32)))])) t
    refine XS.istore X0.here hx rfl (hb hby at_5) rfl (l' := #[.val (.int p0), .val (.int p1), .val (.int p2), .val (.int p3), .val (.int p4), .val (.int p5), .val (.int ((p0 &&& (3 : Int32)) + (1 : Int32))), .unset, .unset, .unset, .unset, .unset, .unset]) rfl ?_
    show Steps p.tables e below (s₁.setTop (mkF m 7 #[.val (.int p0), .val (.int p1), .val (.int p2), .val (.int p3), .val (.int p4), .val (.int p5), .val (.int ((p0 &&& (3 : Int32)) + (1 : Int32))), .unset, .unset, .unset, .unset, .unset, .unset] [])) t
    refine XS.iloadN X0.here hx rfl (hb hby at_7) rfl ?_
    show Steps p.tables e below (s₁.setTop (mkF m 8 #[.val (.int p0), .val (.int p1), .val (.int p2), .val (.int p3), .val (.int p4), .val (.int p5), .val (.int ((p0 &&& (3 : Int32)) + (1 : Int32))), .unset, .unset, .unset, .unset, .unset, .unset] [(.int p1)])) t
    refine X0.ldcInt hx hown (mvT hZ (hw _ (List.mem_of_getElem? (i := 0) rfl))) (g := (mkF m 8 #[.val (.int p0), .val (.int p1), .val (.int p2), .val (.int p3), .val (.int p4), .val (.int p5), .val (.int ((p0 &&& (3 : Int32)) + (1 : Int32))), .unset, .unset, .unset, .unset, .unset, .unset] [(.int p1)])) rfl (hb hby at_8) _ ?_
    show Steps p.tables e below (s₁.setTop (mkF m 10 #[.val (.int p0), .val (.int p1), .val (.int p2), .val (.int p3), .val (.int p4), .val (.int p5), .val (.int ((p0 &&& (3 : Int32)) + (1 : Int32))), .unset, .unset, .unset, .unset, .unset, .unset] [(.int (2147483647 : Int32)), (.int p1)])) t
    refine XS.iand X0.here hx rfl (hb hby at_10) rfl ?_
    show Steps p.tables e below (s₁.setTop (mkF m 11 #[.val (.int p0), .val (.int p1), .val (.int p2), .val (.int p3), .val (.int p4), .val (.int p5), .val (.int ((p0 &&& (3 : Int32)) + (1 : Int32))), .unset, .unset, .unset, .unset, .unset, .unset] [(.int (p1 &&& (2147483647 : Int32)))])) t
    refine XS.iload X0.here hx rfl (hb hby at_11) rfl ?_
    show Steps p.tables e below (s₁.setTop (mkF m 13 #[.val (.int p0), .val (.int p1), .val (.int p2), .val (.int p3), .val (.int p4), .val (.int p5), .val (.int ((p0 &&& (3 : Int32)) + (1 : Int32))), .unset, .unset, .unset, .unset, .unset, .unset] [(.int ((p0 &&& (3 : Int32)) + (1 : Int32))), (.int (p1 &&& (2147483647 : Int32)))])) t
    refine iremM X0 hx rfl (hb hby at_13) rfl (own_nz p0) ?_
    show Steps p.tables e below (s₁.setTop (mkF m 14 #[.val (.int p0), .val (.int p1), .val (.int p2), .val (.int p3), .val (.int p4), .val (.int p5), .val (.int ((p0 &&& (3 : Int32)) + (1 : Int32))), .unset, .unset, .unset, .unset, .unset, .unset] [(.int ((p1 &&& (2147483647 : Int32)) % ((p0 &&& (3 : Int32)) + (1 : Int32))))])) t
    refine XS.istore X0.here hx rfl (hb hby at_14) rfl (l' := #[.val (.int p0), .val (.int p1), .val (.int p2), .val (.int p3), .val (.int p4), .val (.int p5), .val (.int ((p0 &&& (3 : Int32)) + (1 : Int32))), .val (.int ((p1 &&& (2147483647 : Int32)) % ((p0 &&& (3 : Int32)) + (1 : Int32)))), .unset, .unset, .unset, .unset, .unset]) rfl ?_
    show Steps p.tables e below (s₁.setTop (mkF m 16 #[.val (.int p0), .val (.int p1), .val (.int p2), .val (.int p3), .val (.int p4), .val (.int p5), .val (.int ((p0 &&& (3 : Int32)) + (1 : Int32))), .val (.int ((p1 &&& (2147483647 : Int32)) % ((p0 &&& (3 : Int32)) + (1 : Int32)))), .unset, .unset, .unset, .unset, .unset] [])) t
    refine XS.iloadN X0.here hx rfl (hb hby at_16) rfl ?_
    show Steps p.tables e below (s₁.setTop (mkF m 17 #[.val (.int p0), .val (.int p1), .val (.int p2), .val (.int p3), .val (.int p4), .val (.int p5), .val (.int ((p0 &&& (3 : Int32)) + (1 : Int32))), .val (.int ((p1 &&& (2147483647 : Int32)) % ((p0 &&& (3 : Int32)) + (1 : Int32)))), .unset, .unset, .unset, .unset, .unset] [(.int p1)])) t
    refine XS.bipush X0.here hx rfl (hb hby at_17) ?_
    show Steps p.tables e below (s₁.setTop (mkF m 19 #[.val (.int p0), .val (.int p1), .val (.int p2), .val (.int p3), .val (.int p4), .val (.int p5), .val (.int ((p0 &&& (3 : Int32)) + (1 : Int32))), .val (.int ((p1 &&& (2147483647 : Int32)) % ((p0 &&& (3 : Int32)) + (1 : Int32)))), .unset, .unset, .unset, .unset, .unset] [(.int (8 : Int32)), (.int p1)])) t
    refine XS.iushr X0.here hx rfl (hb hby at_19) rfl ?_
    show Steps p.tables e below (s₁.setTop (mkF m 20 #[.val (.int p0), .val (.int p1), .val (.int p2), .val (.int p3), .val (.int p4), .val (.int p5), .val (.int ((p0 &&& (3 : Int32)) + (1 : Int32))), .val (.int ((p1 &&& (2147483647 : Int32)) % ((p0 &&& (3 : Int32)) + (1 : Int32)))), .unset, .unset, .unset, .unset, .unset] [(.int ((p1.toUInt32 >>> ((8 : Int32) &&& 31).toUInt32).toInt32))])) t
    refine X0.ldcInt hx hown (mvT hZ (hw _ (List.mem_of_getElem? (i := 1) rfl))) (g := (mkF m 20 #[.val (.int p0), .val (.int p1), .val (.int p2), .val (.int p3), .val (.int p4), .val (.int p5), .val (.int ((p0 &&& (3 : Int32)) + (1 : Int32))), .val (.int ((p1 &&& (2147483647 : Int32)) % ((p0 &&& (3 : Int32)) + (1 : Int32)))), .unset, .unset, .unset, .unset, .unset] [(.int ((p1.toUInt32 >>> ((8 : Int32) &&& 31).toUInt32).toInt32))])) rfl (hb hby at_20) _ ?_
    show Steps p.tables e below (s₁.setTop (mkF m 22 #[.val (.int p0), .val (.int p1), .val (.int p2), .val (.int p3), .val (.int p4), .val (.int p5), .val (.int ((p0 &&& (3 : Int32)) + (1 : Int32))), .val (.int ((p1 &&& (2147483647 : Int32)) % ((p0 &&& (3 : Int32)) + (1 : Int32)))), .unset, .unset, .unset, .unset, .unset] [(.int (8388607 : Int32)), (.int ((p1.toUInt32 >>> ((8 : Int32) &&& 31).toUInt32).toInt32))])) t
    refine XS.iand X0.here hx rfl (hb hby at_22) rfl ?_
    show Steps p.tables e below (s₁.setTop (mkF m 23 #[.val (.int p0), .val (.int p1), .val (.int p2), .val (.int p3), .val (.int p4), .val (.int p5), .val (.int ((p0 &&& (3 : Int32)) + (1 : Int32))), .val (.int ((p1 &&& (2147483647 : Int32)) % ((p0 &&& (3 : Int32)) + (1 : Int32)))), .unset, .unset, .unset, .unset, .unset] [(.int (((p1.toUInt32 >>> ((8 : Int32) &&& 31).toUInt32).toInt32) &&& (8388607 : Int32)))])) t
    refine XS.iload X0.here hx rfl (hb hby at_23) rfl ?_
    show Steps p.tables e below (s₁.setTop (mkF m 25 #[.val (.int p0), .val (.int p1), .val (.int p2), .val (.int p3), .val (.int p4), .val (.int p5), .val (.int ((p0 &&& (3 : Int32)) + (1 : Int32))), .val (.int ((p1 &&& (2147483647 : Int32)) % ((p0 &&& (3 : Int32)) + (1 : Int32)))), .unset, .unset, .unset, .unset, .unset] [(.int ((p0 &&& (3 : Int32)) + (1 : Int32))), (.int (((p1.toUInt32 >>> ((8 : Int32) &&& 31).toUInt32).toInt32) &&& (8388607 : Int32)))])) t
    refine iremM X0 hx rfl (hb hby at_25) rfl (own_nz p0) ?_
    show Steps p.tables e below (s₁.setTop (mkF m 26 #[.val (.int p0), .val (.int p1), .val (.int p2), .val (.int p3), .val (.int p4), .val (.int p5), .val (.int ((p0 &&& (3 : Int32)) + (1 : Int32))), .val (.int ((p1 &&& (2147483647 : Int32)) % ((p0 &&& (3 : Int32)) + (1 : Int32)))), .unset, .unset, .unset, .unset, .unset] [(.int ((((p1.toUInt32 >>> ((8 : Int32) &&& 31).toUInt32).toInt32) &&& (8388607 : Int32)) % ((p0 &&& (3 : Int32)) + (1 : Int32))))])) t
    refine XS.istore X0.here hx rfl (hb hby at_26) rfl (l' := #[.val (.int p0), .val (.int p1), .val (.int p2), .val (.int p3), .val (.int p4), .val (.int p5), .val (.int ((p0 &&& (3 : Int32)) + (1 : Int32))), .val (.int ((p1 &&& (2147483647 : Int32)) % ((p0 &&& (3 : Int32)) + (1 : Int32)))), .val (.int ((((p1.toUInt32 >>> ((8 : Int32) &&& 31).toUInt32).toInt32) &&& (8388607 : Int32)) % ((p0 &&& (3 : Int32)) + (1 : Int32)))), .unset, .unset, .unset, .unset]) rfl ?_
    show Steps p.tables e below (s₁.setTop (mkF m 28 #[.val (.int p0), .val (.int p1), .val (.int p2), .val (.int p3), .val (.int p4), .val (.int p5), .val (.int ((p0 &&& (3 : Int32)) + (1 : Int32))), .val (.int ((p1 &&& (2147483647 : Int32)) % ((p0 &&& (3 : Int32)) + (1 : Int32)))), .val (.int ((((p1.toUInt32 >>> ((8 : Int32) &&& 31).toUInt32).toInt32) &&& (8388607 : Int32)) % ((p0 &&& (3 : Int32)) + (1 : Int32)))), .unset, .unset, .unset, .unset] [])) t
    refine XS.iloadN X0.here hx rfl (hb hby at_28) rfl ?_
    show Steps p.tables e below (s₁.setTop (mkF m 29 #[.val (.int p0), .val (.int p1), .val (.int p2), .val (.int p3), .val (.int p4), .val (.int p5), .val (.int ((p0 &&& (3 : Int32)) + (1 : Int32))), .val (.int ((p1 &&& (2147483647 : Int32)) % ((p0 &&& (3 : Int32)) + (1 : Int32)))), .val (.int ((((p1.toUInt32 >>> ((8 : Int32) &&& 31).toUInt32).toInt32) &&& (8388607 : Int32)) % ((p0 &&& (3 : Int32)) + (1 : Int32)))), .unset, .unset, .unset, .unset] [(.int p1)])) t
    refine XS.bipush X0.here hx rfl (hb hby at_29) ?_
    show Steps p.tables e below (s₁.setTop (mkF m 31 #[.val (.int p0), .val (.int p1), .val (.int p2), .val (.int p3), .val (.int p4), .val (.int p5), .val (.int ((p0 &&& (3 : Int32)) + (1 : Int32))), .val (.int ((p1 &&& (2147483647 : Int32)) % ((p0 &&& (3 : Int32)) + (1 : Int32)))), .val (.int ((((p1.toUInt32 >>> ((8 : Int32) &&& 31).toUInt32).toInt32) &&& (8388607 : Int32)) % ((p0 &&& (3 : Int32)) + (1 : Int32)))), .unset, .unset, .unset, .unset] [(.int (16 : Int32)), (.int p1)])) t
    refine XS.iushr X0.here hx rfl (hb hby at_31) rfl ?_
    show Steps p.tables e below (s₁.setTop (mkF m 32 #[.val (.int p0), .val (.int p1), .val (.int p2), .val (.int p3), .val (.int p4), .val (.int p5), .val (.int ((p0 &&& (3 : Int32)) + (1 : Int32))), .val (.int ((p1 &&& (2147483647 : Int32)) % ((p0 &&& (3 : Int32)) + (1 : Int32)))), .val (.int ((((p1.toUInt32 >>> ((8 : Int32) &&& 31).toUInt32).toInt32) &&& (8388607 : Int32)) % ((p0 &&& (3 : Int32)) + (1 : Int32)))), .unset, .unset, .unset, .unset] [(.int ((p1.toUInt32 >>> ((16 : Int32) &&& 31).toUInt32).toInt32))])) t
    refine XS.sipush X0.here hx rfl (hb hby at_32) ?_
    show Steps p.tables e below (s₁.setTop (mkF m 35 #[.val (.int p0), .val (.int p1), .val (.int p2), .val (.int p3), .val (.int p4), .val (.int p5), .val (.int ((p0 &&& (3 : Int32)) + (1 : Int32))), .val (.int ((p1 &&& (2147483647 : Int32)) % ((p0 &&& (3 : Int32)) + (1 : Int32)))), .val (.int ((((p1.toUInt32 >>> ((8 : Int32) &&& 31).toUInt32).toInt32) &&& (8388607 : Int32)) % ((p0 &&& (3 : Int32)) + (1 : Int32)))), .unset, .unset, .unset, .unset] [(.int (255 : Int32)), (.int ((p1.toUInt32 >>> ((16 : Int32) &&& 31).toUInt32).toInt32))])) t
    refine XS.iand X0.here hx rfl (hb hby at_35) rfl ?_
    show Steps p.tables e below (s₁.setTop (mkF m 36 #[.val (.int p0), .val (.int p1), .val (.int p2), .val (.int p3), .val (.int p4), .val (.int p5), .val (.int ((p0 &&& (3 : Int32)) + (1 : Int32))), .val (.int ((p1 &&& (2147483647 : Int32)) % ((p0 &&& (3 : Int32)) + (1 : Int32)))), .val (.int ((((p1.toUInt32 >>> ((8 : Int32) &&& 31).toUInt32).toInt32) &&& (8388607 : Int32)) % ((p0 &&& (3 : Int32)) + (1 : Int32)))), .unset, .unset, .unset, .unset] [(.int (((p1.toUInt32 >>> ((16 : Int32) &&& 31).toUInt32).toInt32) &&& (255 : Int32)))])) t
    refine XS.iload X0.here hx rfl (hb hby at_36) rfl ?_
    show Steps p.tables e below (s₁.setTop (mkF m 38 #[.val (.int p0), .val (.int p1), .val (.int p2), .val (.int p3), .val (.int p4), .val (.int p5), .val (.int ((p0 &&& (3 : Int32)) + (1 : Int32))), .val (.int ((p1 &&& (2147483647 : Int32)) % ((p0 &&& (3 : Int32)) + (1 : Int32)))), .val (.int ((((p1.toUInt32 >>> ((8 : Int32) &&& 31).toUInt32).toInt32) &&& (8388607 : Int32)) % ((p0 &&& (3 : Int32)) + (1 : Int32)))), .unset, .unset, .unset, .unset] [(.int ((p0 &&& (3 : Int32)) + (1 : Int32))), (.int (((p1.toUInt32 >>> ((16 : Int32) &&& 31).toUInt32).toInt32) &&& (255 : Int32)))])) t
    refine iremM X0 hx rfl (hb hby at_38) rfl (own_nz p0) ?_
    show Steps p.tables e below (s₁.setTop (mkF m 39 #[.val (.int p0), .val (.int p1), .val (.int p2), .val (.int p3), .val (.int p4), .val (.int p5), .val (.int ((p0 &&& (3 : Int32)) + (1 : Int32))), .val (.int ((p1 &&& (2147483647 : Int32)) % ((p0 &&& (3 : Int32)) + (1 : Int32)))), .val (.int ((((p1.toUInt32 >>> ((8 : Int32) &&& 31).toUInt32).toInt32) &&& (8388607 : Int32)) % ((p0 &&& (3 : Int32)) + (1 : Int32)))), .unset, .unset, .unset, .unset] [(.int ((((p1.toUInt32 >>> ((16 : Int32) &&& 31).toUInt32).toInt32) &&& (255 : Int32)) % ((p0 &&& (3 : Int32)) + (1 : Int32))))])) t
    refine XS.istore X0.here hx rfl (hb hby at_39) rfl (l' := #[.val (.int p0), .val (.int p1), .val (.int p2), .val (.int p3), .val (.int p4), .val (.int p5), .val (.int ((p0 &&& (3 : Int32)) + (1 : Int32))), .val (.int ((p1 &&& (2147483647 : Int32)) % ((p0 &&& (3 : Int32)) + (1 : Int32)))), .val (.int ((((p1.toUInt32 >>> ((8 : Int32) &&& 31).toUInt32).toInt32) &&& (8388607 : Int32)) % ((p0 &&& (3 : Int32)) + (1 : Int32)))), .val (.int ((((p1.toUInt32 >>> ((16 : Int32) &&& 31).toUInt32).toInt32) &&& (255 : Int32)) % ((p0 &&& (3 : Int32)) + (1 : Int32)))), .unset, .unset, .unset]) rfl ?_
    exact k
  exact hJ41 _ _ _ _ (own_hs p0 _ _ _)
set_option maxRecDepth 65536 in
set_option maxHeartbeats 40000000 in
theorem comes_1 {Post : Tables → Env → Array Value → State → Outcome → State → Prop} (hpost : ∀ tb e args s v u, (limb_1_1.after args s (.returned v) u = true ∧ limb_1_2.after args s (.returned v) u = true ∧ True) → FrameEnd s (.returned v) u (Jvm.fieldLocs frame_1_writes args s ++ Jvm.arrayLocs frame_1_arrays args s ++ Jvm.staticLocs frame_1_statics s) 16 128 → Post tb e args s (.returned v) u) :
    ArmFor flags0 classFile x code maxLocals ret World_1 tables_1 room_1 Calls_1 rest_1 Pre_1 Post := by
  intro l hfl _ _ p e ha hc hk s m args below hf hA hF happ hP
  obtain ⟨hcalls, hrest, hpre⟩ := hP
  obtain ⟨-, -, -, hnamed, -, -, -, hat⟩ := (Spec.applies_iff hf).mp happ
  obtain ⟨hg, hn⟩ := and_e (Cond.before_iff.mp (show (Jvm.Cond.and given_1 narrow_1).before args s = true from hpre))
  obtain ⟨g0, gg0⟩ := and_e hg
  obtain ⟨g1, gg1⟩ := and_e gg0
  obtain ⟨g2, gg2⟩ := and_e gg1
  obtain ⟨g3, gg3⟩ := and_e gg2
  obtain ⟨g4, gg4⟩ := and_e gg3
  obtain ⟨g5, gg5⟩ := and_e gg4
  obtain ⟨w0, w1, w2, w3, w4, w5, rfl⟩ : ∃ w0 w1 w2 w3 w4 w5 : Value, args = #[w0, w1, w2, w3, w4, w5] := by
    have hs : args.size = 6 := by simpa [Cond.value, given_1] using g0
    obtain ⟨L⟩ := args
    match L, hs with
    | [w0, w1, w2, w3, w4, w5], _ => exact ⟨w0, w1, w2, w3, w4, w5, rfl⟩
  have hw := fun d (hd : d ∈ tables_1) => atoms_spec (ws := Jvm.Cond.code x code maxLocals ret :: tables_1) hat d (List.mem_cons_of_mem _ hd)
  have hfit : Fit s := fun {y c} hc i hi => by
    obtain ⟨ha, rfl⟩ := Array.getElem?_eq_some_iff.mp hc
    have q := List.all_eq_true.mp ((Array.all_eq_true_iff_forall_mem.mp hF) _ (Array.getElem_mem ha)) i (List.mem_range.mpr hi)
    simpa [Array.getElem?_eq_getElem hi] using q
  obtain ⟨p0, ei0⟩ := is_v g1
  obtain rfl : w0 = (.int p0) := Option.some.inj ei0
  obtain ⟨p1, ei1⟩ := is_v g2
  obtain rfl : w1 = (.int p1) := Option.some.inj ei1
  obtain ⟨p2, ei2⟩ := is_v g3
  obtain rfl : w2 = (.int p2) := Option.some.inj ei2
  obtain ⟨p3, ei3⟩ := is_v g4
  obtain rfl : w3 = (.int p3) := Option.some.inj ei3
  obtain ⟨p4, ei4⟩ := is_v g5
  obtain rfl : w4 = (.int p4) := Option.some.inj ei4
  obtain ⟨p5, ei5⟩ := is_v gg5
  obtain rfl : w5 = (.int p5) := Option.some.inj ei5
  obtain ⟨n, o, h1, h2, h3, _, L, rfl, ⟨rfl, N⟩, hq⟩ := rm0 l s _ hw tables_1 p0 p1 p2 p3 p4 p5 s.heap s.heap.size (Nat.le_refl _) p e ha hc hk s m _ below hf ((Spec.applies_iff_loose hf).mp happ).1 ⟨rfl, State.Warmed39.refl s, rfl⟩ trivial
  refine ⟨n, _, h1, h2, h3, hpost _ _ _ _ _ _ ⟨Cond.after_iff.mpr rfl, Cond.after_iff.mpr (eq_i res_at (Term.int_eval (1)) rfl), trivial⟩ ⟨hq.1, hq.2.1, (hq.2.2.sift fun y hy => Or.inr (N y hy)).mono (by decide) (by decide)⟩⟩
theorem main_1_1 : Claimed_1_1 := comes_1 fun _ _ _ _ _ _ h hF => ⟨h.1, hF⟩
theorem main_1_2 : Claimed_1_2 := comes_1 fun _ _ _ _ _ _ h hF => ⟨h.2.1, hF⟩
end Jvm.Pilot.@@N@@
namespace Jvm.Pilot.@@N@@
open Jvm Jvm.ClassFile Sem Op Lib Jvm.Free Jvm.Stand Jvm.Pilot.@@N@@.Jvm.D
/-! MADE BY PROGRAM (witnessworld.py) out of the Statement's table words and the real class files: 11 classes; the members and pool entries that the words name. The judged class is class 1, her method 1. -/
namespace start1
open Jvm.ClassFile
def u (s : String) : CpInfo := .utf8 (stringToUtf16 s)
/-- a pool by its gaps: so many unusable entries, then the entry; so many at the end -/
def gap : Nat → List CpInfo → List CpInfo
  | 0, r => r
  | n + 1, r => .unusable :: gap n r
def poolList (es : List (Nat × CpInfo)) (last : Nat) : List CpInfo := es.foldr (fun e r => gap e.1 (e.2 :: r)) (gap last [])
def pool (es : List (Nat × CpInfo)) (last : Nat) : Array CpInfo := ⟨poolList es last⟩
def fileOf (pool : Array CpInfo) (this : Nat) (attrs : Array Attribute := #[]) (ms : Array MethodInfo := #[]) (fl : Nat := 33) (sup : Nat := 0) (ifs : Array Nat := #[]) (fds : Array FieldInfo := #[]) : ClassFile where
  minorVersion := 0
  majorVersion := 65
  constantPool := pool
  accessFlags := fl
  thisClass := this
  superClass := sup
  interfaces := ifs
  fields := fds
  methods := ms
  attributes := attrs
def plain (name : String) (sup : Option ClassId) : Class where
  name := name
  kind := .ordinary
  loader := none
  accessFlags := 33
  super := sup
  interfaces := #[]
  cf := none
  fields := #[]
  methods := #[]
  instanceTypes := #[]
  staticTypes := #[]
  resolved := #[]
  callSites := []
  init := .initialized
  statics := none
  mirror := none

def pool0 : Array CpInfo := pool [(5, u "<init>"), (0, u "()V"), (1, .class_ 10), (1, u "java/lang/Object")] 113

def k0c0 : Code := { maxStack := 0, maxLocals := 1, code := object_method_1_code, exceptionTable := #[], attributes := #[] }
def k0m0 : Method := { name := "<init>", desc := "()V", sig := { parameters := [], returnType := none }, accessFlags := 1, code := some k0c0 }
/-- java/lang/Object -/
def k0 : Class := { plain "java/lang/Object" none with
  accessFlags := 33
  interfaces := #[]
  cf := some (fileOf pool0 8 #[] #[{ accessFlags := 1, nameIndex := 5, descriptorIndex := 6, attributes := #[] }] 33 0 #[] #[])
  fields := #[]
  methods := #[k0m0]
  instanceTypes := #[]
  staticTypes := #[]
  resolved := Array.replicate 124 none
  statics := none }

def pool1 : Array CpInfo := pool [(2, .class_ 4), (1, u "java/lang/Object"), (0, u "<init>"), (0, u "()V"), (0, .integer 2147483647), (0, .integer 8388607), (0, .class_ 10), (0, u "com/example/merkmal/merkmal/rank/QueryMatch"), (0, .methodref 9 12), (0, .nameAndType 5 13), (0, u "(ID)V"), (0, .methodref 9 15), (0, .nameAndType 16 17), (0, u "add"), (0, u "(IDD)V"), (0, .methodref 19 20), (0, .class_ 21), (0, .nameAndType 22 23), (0, u "com/example/merkmal/merkmal/rank/QueryMatchAddPinLaw"), (0, u "holds"), (0, u "(Lcom/example/merkmal/merkmal/rank/QueryMatch;IIIIIII)Z"), (0, .methodref 9 25), (0, .nameAndType 26 27), (0, u "queryLength"), (0, u "()D"), (0, .methodref 9 29), (0, .nameAndType 30 31), (0, u "termSum"), (0, u "(I)D"), (0, .methodref 9 33), (0, .nameAndType 34 35), (0, u "termsHeld"), (0, u "(I)I"), (0, .methodref 9 37), (0, .nameAndType 38 31), (0, u "queryCountHeld"), (2, u "law"), (0, u "(IIIIII)Z")] 3

def k1m0 : Method := { name := "<init>", desc := "()V", sig := { parameters := [], returnType := none }, accessFlags := 1, code := none }
def k1c1 : Code := { maxStack := 8, maxLocals := 13, code := code, exceptionTable := #[], attributes := #[] }
def k1m1 : Method := { name := "law", desc := "(IIIIII)Z", sig := { parameters := [.int, .int, .int, .int, .int, .int], returnType := some .boolean }, accessFlags := 9, code := some k1c1 }
def k1c2 : Code := { maxStack := 4, maxLocals := 13, code := method_3_code, exceptionTable := #[], attributes := #[] }
def k1m2 : Method := { name := "holds", desc := "(Lcom/example/merkmal/merkmal/rank/QueryMatch;IIIIIII)Z", sig := { parameters := [(.object "com/example/merkmal/merkmal/rank/QueryMatch"), .int, .int, .int, .int, .int, .int, .int], returnType := some .boolean }, accessFlags := 10, code := some k1c2 }
/-- com/example/merkmal/merkmal/rank/QueryMatchAddPinLaw -/
def k1 : Class := { plain "com/example/merkmal/merkmal/rank/QueryMatchAddPinLaw" (some 0) with
  accessFlags := 49
  interfaces := #[]
  cf := some (fileOf pool1 19 #[] #[{ accessFlags := 1, nameIndex := 5, descriptorIndex := 6, attributes := #[] }, { accessFlags := 9, nameIndex := 41, descriptorIndex := 42, attributes := #[] }, { accessFlags := 10, nameIndex := 22, descriptorIndex := 23, attributes := #[] }] 49 2 #[] #[])
  fields := #[]
  methods := #[k1m0, k1m1, k1m2]
  instanceTypes := #[]
  staticTypes := #[]
  resolved := Array.replicate 46 none
  statics := none }

def pool2 : Array CpInfo := pool [(1, .methodref 2 3), (0, .class_ 4), (0, .nameAndType 5 6), (0, u "java/lang/Object"), (0, u "<init>"), (0, u "()V"), (0, .fieldref 8 9), (0, .class_ 10), (0, .nameAndType 11 12), (0, u "com/example/merkmal/merkmal/rank/QueryMatch"), (0, u "queryLength"), (0, u "D"), (0, .fieldref 8 14), (0, .nameAndType 15 16), (0, u "termSums"), (0, u "[D"), (0, .fieldref 8 18), (0, .nameAndType 19 20), (0, u "termsHeld"), (0, u "[I"), (0, .fieldref 8 22), (0, .nameAndType 23 16), (0, u "queryCountsHeld"), (0, u "(ID)V"), (2, u "()D"), (0, u "add"), (0, u "(IDD)V"), (0, u "termSum"), (0, u "(I)D"), (0, u "(I)I"), (0, u "queryCountHeld")] 2

def k2c0 : Code := { maxStack := 3, maxLocals := 4, code := prog_47_method_1_code, exceptionTable := #[], attributes := #[] }
def k2m0 : Method := { name := "<init>", desc := "(ID)V", sig := { parameters := [.int, .double], returnType := none }, accessFlags := 0, code := some k2c0 }
def k2c1 : Code := { maxStack := 2, maxLocals := 1, code := prog_47_method_2_code, exceptionTable := #[], attributes := #[] }
def k2m1 : Method := { name := "queryLength", desc := "()D", sig := { parameters := [], returnType := some .double }, accessFlags := 0, code := some k2c1 }
def k2c2 : Code := { maxStack := 6, maxLocals := 6, code := prog_47_method_3_code, exceptionTable := #[], attributes := #[] }
def k2m2 : Method := { name := "add", desc := "(IDD)V", sig := { parameters := [.int, .double, .double], returnType := none }, accessFlags := 0, code := some k2c2 }
def k2c3 : Code := { maxStack := 2, maxLocals := 2, code := prog_47_method_4_code, exceptionTable := #[], attributes := #[] }
def k2m3 : Method := { name := "termSum", desc := "(I)D", sig := { parameters := [.int], returnType := some .double }, accessFlags := 0, code := some k2c3 }
def k2c4 : Code := { maxStack := 2, maxLocals := 2, code := prog_47_method_5_code, exceptionTable := #[], attributes := #[] }
def k2m4 : Method := { name := "termsHeld", desc := "(I)I", sig := { parameters := [.int], returnType := some .int }, accessFlags := 0, code := some k2c4 }
def k2c5 : Code := { maxStack := 2, maxLocals := 2, code := prog_47_method_6_code, exceptionTable := #[], attributes := #[] }
def k2m5 : Method := { name := "queryCountHeld", desc := "(I)D", sig := { parameters := [.int], returnType := some .double }, accessFlags := 0, code := some k2c5 }
/-- com/example/merkmal/merkmal/rank/QueryMatch -/
def k2 : Class := { plain "com/example/merkmal/merkmal/rank/QueryMatch" (some 0) with
  accessFlags := 48
  interfaces := #[]
  cf := some (fileOf pool2 8 #[] #[{ accessFlags := 0, nameIndex := 5, descriptorIndex := 24, attributes := #[] }, { accessFlags := 0, nameIndex := 11, descriptorIndex := 27, attributes := #[] }, { accessFlags := 0, nameIndex := 28, descriptorIndex := 29, attributes := #[] }, { accessFlags := 0, nameIndex := 30, descriptorIndex := 31, attributes := #[] }, { accessFlags := 0, nameIndex := 19, descriptorIndex := 32, attributes := #[] }, { accessFlags := 0, nameIndex := 33, descriptorIndex := 31, attributes := #[] }] 48 2 #[] #[{ accessFlags := 18, nameIndex := 11, descriptorIndex := 12, attributes := #[] }, { accessFlags := 18, nameIndex := 15, descriptorIndex := 16, attributes := #[] }, { accessFlags := 18, nameIndex := 19, descriptorIndex := 20, attributes := #[] }, { accessFlags := 18, nameIndex := 23, descriptorIndex := 16, attributes := #[] }])
  fields := #[{ name := "queryLength", type := .double, accessFlags := 18, slot := 0, constantValue := 0 }, { name := "termSums", type := (.array .double), accessFlags := 18, slot := 1, constantValue := 0 }, { name := "termsHeld", type := (.array .int), accessFlags := 18, slot := 2, constantValue := 0 }, { name := "queryCountsHeld", type := (.array .double), accessFlags := 18, slot := 3, constantValue := 0 }]
  methods := #[k2m0, k2m1, k2m2, k2m3, k2m4, k2m5]
  instanceTypes := #[.double, (.array .double), (.array .int), (.array .double)]
  staticTypes := #[]
  resolved := Array.replicate 36 none
  statics := none }

def pool3 : Array CpInfo := pool [(1, u "java/lang/Cloneable"), (0, .class_ 1), (0, u "java/lang/Object"), (0, .class_ 3)] 3

/-- java/lang/Cloneable -/
def k3 : Class := { plain "java/lang/Cloneable" (some 0) with
  accessFlags := 1537
  interfaces := #[]
  cf := some (fileOf pool3 2 #[] #[] 1537 4 #[] #[])
  fields := #[]
  methods := #[]
  instanceTypes := #[]
  staticTypes := #[]
  resolved := Array.replicate 8 none
  statics := none }

def pool4 : Array CpInfo := pool [(1, u "java/io/Serializable"), (0, .class_ 1), (0, u "java/lang/Object"), (0, .class_ 3)] 3

/-- java/io/Serializable -/
def k4 : Class := { plain "java/io/Serializable" (some 0) with
  accessFlags := 1537
  interfaces := #[]
  cf := some (fileOf pool4 2 #[] #[] 1537 4 #[] #[])
  fields := #[]
  methods := #[]
  instanceTypes := #[]
  staticTypes := #[]
  resolved := Array.replicate 8 none
  statics := none }

/-- the primitive byte -/
def k5 : Class := { plain "byte" none with kind := .primitive 'B', accessFlags := 0x411 }
/-- [B -/
def k6 : Class := { plain "[B" (some 0) with kind := .array 5 .byte, interfaces := #[3, 4], accessFlags := 1041 }

/-- the primitive double -/
def k7 : Class := { plain "double" none with kind := .primitive 'D', accessFlags := 0x411 }
/-- [D -/
def k8 : Class := { plain "[D" (some 0) with kind := .array 7 .double, interfaces := #[3, 4], accessFlags := 1041 }

/-- the primitive int -/
def k9 : Class := { plain "int" none with kind := .primitive 'I', accessFlags := 0x411 }
/-- [I -/
def k10 : Class := { plain "[I" (some 0) with kind := .array 9 .int, interfaces := #[3, 4], accessFlags := 1041 }

def heap : Heap := #[]
def classes : Array Class := #[k0, k1, k2, k3, k4, k5, k6, k7, k8, k9, k10]
def interned : List (Array UInt16 × Addr) := []
def slotsUsed : Nat := 0
def theMethod : MethodId := ⟨1, 1⟩
def args0 : Array Value := #[.int 1, .int 1, .int 1, .int 1, .int 1, .int 1]
def aboutOver (below : List Frame) : State where
  vm := { classes := classes, interned := interned.toArray }
  heap := heap
  slotsUsed := slotsUsed
  threads := #[{ frames := .invoking theMethod args0 :: below }]
def below0 : List Frame := [.native { method := ⟨0, 0⟩, args := #[] }]
def about1 : State := aboutOver below0
def p0 : Program := .bare "" "" ""
def e0 : Env := launch0.env 0 0 0
theorem w_frames : about1.frames = Frame.invoking theMethod args0 :: below0 := rfl
set_option maxRecDepth 65536 in
theorem w_args : argsFit about1.vm theMethod args0 = true := by decide +kernel
set_option maxRecDepth 65536 in
theorem w_heap : heapFits about1 = true := by decide +kernel
set_option maxRecDepth 65536 in
theorem w_runnable : about1.curStatus? = some .runnable := by decide +kernel
set_option maxRecDepth 65536 in
theorem w_alone : about1.alone = true := by decide +kernel
set_option maxRecDepth 65536 in
theorem w_named : about1.methodNamed? x = some theMethod := by decide +kernel
set_option maxRecDepth 65536 in
theorem w_hears : about1.hears theMethod below0 = true := by decide +kernel
set_option maxRecDepth 65536 in
theorem w_ripe : about1.ripe theMethod args0 below0 = true := by decide +kernel
theorem w_running : about1.status = .running := rfl
set_option maxRecDepth 65536 in
theorem w_room : about1.hasRoom e0.platform room_1 = true :=
  launch0.hasRoom_least _ room_1 (by decide +kernel) (by decide +kernel) (by decide +kernel) (by decide +kernel) (by decide +kernel) (by decide +kernel)
theorem allAtoms_all (ts : List Jvm.Cond) (a : Array Jvm.Value) (st : Jvm.State) : (allAtoms ts).before a st = ts.all (fun c => c.before a st) := by
  induction ts with
  | nil => rfl
  | cons c t ih =>
    show (Jvm.Cond.and c (allAtoms t)).before a st = _
    rw [Jvm.Cond.before_and, ih, List.all_cons]
def words1 : List Jvm.Cond := Jvm.Cond.code x code maxLocals ret :: tables_1
/-- a 'code' word, met by the world's own term for the bytes: nothing is compared byte by byte -/
theorem code_word {y : MethodName} {bytes : ByteArray} {mx : Nat} {rt : Option FieldType} {a : Array Value} {s : State} {m : MethodId} {meth : Method} {c : Code} (h1 : s.methodNamed? y = some m) (h2 : s.vm.method? m = some meth) (h3 : meth.code = some c) (h4 : c.code = bytes)
    (h5 : (c.maxLocals == mx && c.exceptionTable.isEmpty && decide (c.maxStack ≤ mostOperands) && decide (meth.sig.returnType = rt) && !meth.locks && decide (parseMethodDescriptor y.desc = some meth.sig)) = true) : (Jvm.Cond.code y bytes mx rt).before a s = true := by
  simp only [Bool.and_eq_true, beq_iff_eq, Bool.not_eq_true', decide_eq_true_eq] at h5
  obtain ⟨⟨⟨⟨⟨g1, g2⟩, g3⟩, g4⟩, g5⟩, g6⟩ := h5
  simp [Cond.before, Cond.holds, Cond.value, h1, h2, h3, h4, g1, g2, g3, g4, g5, g6]
def isCode : Jvm.Cond → Bool
  | .code _ _ _ _ => true
  | _ => false
theorem all_split {L : List Jvm.Cond} {P : Jvm.Cond → Bool} (h1 : L.all (fun c => isCode c || P c) = true) (h2 : ∀ c ∈ L.filter isCode, P c = true) : L.all P = true := by
  refine List.all_eq_true.mpr fun c hc => ?_
  have h := List.all_eq_true.mp h1 c hc
  rcases Bool.eq_false_or_eq_true (isCode c) with hi | hi
  · exact h2 c (List.mem_filter.mpr ⟨hc, hi⟩)
  · simpa [hi] using h
set_option maxRecDepth 65536 in
theorem w_c0 : (Jvm.Cond.code x code maxLocals ret).before args0 about1 = true := code_word (m := ⟨1, 1⟩) (meth := k1m1) (c := k1c1) (by decide +kernel) rfl rfl rfl (by decide +kernel)
set_option maxRecDepth 65536 in
theorem w_c1 : (Jvm.Cond.code ({ cls := "com/example/merkmal/merkmal/rank/QueryMatch", name := "<init>", desc := "(ID)V" } : Jvm.MethodName) prog_47_method_1_code (4 : Nat) (Option.none : Option Jvm.ClassFile.FieldType)).before args0 about1 = true := code_word (m := ⟨2, 0⟩) (meth := k2m0) (c := k2c0) (by decide +kernel) rfl rfl rfl (by decide +kernel)
set_option maxRecDepth 65536 in
theorem w_c2 : (Jvm.Cond.code ({ cls := "java/lang/Object", name := "<init>", desc := "()V" } : Jvm.MethodName) object_method_1_code (1 : Nat) (Option.none : Option Jvm.ClassFile.FieldType)).before args0 about1 = true := code_word (m := ⟨0, 0⟩) (meth := k0m0) (c := k0c0) (by decide +kernel) rfl rfl rfl (by decide +kernel)
set_option maxRecDepth 65536 in
theorem w_c3 : (Jvm.Cond.code ({ cls := "com/example/merkmal/merkmal/rank/QueryMatch", name := "add", desc := "(IDD)V" } : Jvm.MethodName) prog_47_method_3_code (6 : Nat) (Option.none : Option Jvm.ClassFile.FieldType)).before args0 about1 = true := code_word (m := ⟨2, 2⟩) (meth := k2m2) (c := k2c2) (by decide +kernel) rfl rfl rfl (by decide +kernel)
set_option maxRecDepth 65536 in
theorem w_c4 : (Jvm.Cond.code ({ cls := "com/example/merkmal/merkmal/rank/QueryMatchAddPinLaw", name := "holds", desc := "(Lcom/example/merkmal/merkmal/rank/QueryMatch;IIIIIII)Z" } : Jvm.MethodName) method_3_code (13 : Nat) (Option.some Jvm.ClassFile.FieldType.boolean)).before args0 about1 = true := code_word (m := ⟨1, 2⟩) (meth := k1m2) (c := k1c2) (by decide +kernel) rfl rfl rfl (by decide +kernel)
set_option maxRecDepth 65536 in
theorem w_c5 : (Jvm.Cond.code ({ cls := "com/example/merkmal/merkmal/rank/QueryMatch", name := "termSum", desc := "(I)D" } : Jvm.MethodName) prog_47_method_4_code (2 : Nat) (Option.some Jvm.ClassFile.FieldType.double)).before args0 about1 = true := code_word (m := ⟨2, 3⟩) (meth := k2m3) (c := k2c3) (by decide +kernel) rfl rfl rfl (by decide +kernel)
set_option maxRecDepth 65536 in
theorem w_c6 : (Jvm.Cond.code ({ cls := "com/example/merkmal/merkmal/rank/QueryMatch", name := "termsHeld", desc := "(I)I" } : Jvm.MethodName) prog_47_method_5_code (2 : Nat) (Option.some Jvm.ClassFile.FieldType.int)).before args0 about1 = true := code_word (m := ⟨2, 4⟩) (meth := k2m4) (c := k2c4) (by decide +kernel) rfl rfl rfl (by decide +kernel)
set_option maxRecDepth 65536 in
theorem w_c7 : (Jvm.Cond.code ({ cls := "com/example/merkmal/merkmal/rank/QueryMatch", name := "queryCountHeld", desc := "(I)D" } : Jvm.MethodName) prog_47_method_6_code (2 : Nat) (Option.some Jvm.ClassFile.FieldType.double)).before args0 about1 = true := code_word (m := ⟨2, 5⟩) (meth := k2m5) (c := k2c5) (by decide +kernel) rfl rfl rfl (by decide +kernel)
set_option maxRecDepth 65536 in
theorem w_c8 : (Jvm.Cond.code ({ cls := "com/example/merkmal/merkmal/rank/QueryMatch", name := "queryLength", desc := "()D" } : Jvm.MethodName) prog_47_method_2_code (1 : Nat) (Option.some Jvm.ClassFile.FieldType.double)).before args0 about1 = true := code_word (m := ⟨2, 1⟩) (meth := k2m1) (c := k2c1) (by decide +kernel) rfl rfl rfl (by decide +kernel)
def codes1 : List Jvm.Cond := [Jvm.Cond.code x code maxLocals ret, Jvm.Cond.code ({ cls := "com/example/merkmal/merkmal/rank/QueryMatch", name := "<init>", desc := "(ID)V" } : Jvm.MethodName) prog_47_method_1_code (4 : Nat) (Option.none : Option Jvm.ClassFile.FieldType), Jvm.Cond.code ({ cls := "java/lang/Object", name := "<init>", desc := "()V" } : Jvm.MethodName) object_method_1_code (1 : Nat) (Option.none : Option Jvm.ClassFile.FieldType), Jvm.Cond.code ({ cls := "com/example/merkmal/merkmal/rank/QueryMatch", name := "add", desc := "(IDD)V" } : Jvm.MethodName) prog_47_method_3_code (6 : Nat) (Option.none : Option Jvm.ClassFile.FieldType), Jvm.Cond.code ({ cls := "com/example/merkmal/merkmal/rank/QueryMatchAddPinLaw", name := "holds", desc := "(Lcom/example/merkmal/merkmal/rank/QueryMatch;IIIIIII)Z" } : Jvm.MethodName) method_3_code (13 : Nat) (Option.some Jvm.ClassFile.FieldType.boolean), Jvm.Cond.code ({ cls := "com/example/merkmal/merkmal/rank/QueryMatch", name := "termSum", desc := "(I)D" } : Jvm.MethodName) prog_47_method_4_code (2 : Nat) (Option.some Jvm.ClassFile.FieldType.double), Jvm.Cond.code ({ cls := "com/example/merkmal/merkmal/rank/QueryMatch", name := "termsHeld", desc := "(I)I" } : Jvm.MethodName) prog_47_method_5_code (2 : Nat) (Option.some Jvm.ClassFile.FieldType.int), Jvm.Cond.code ({ cls := "com/example/merkmal/merkmal/rank/QueryMatch", name := "queryCountHeld", desc := "(I)D" } : Jvm.MethodName) prog_47_method_6_code (2 : Nat) (Option.some Jvm.ClassFile.FieldType.double), Jvm.Cond.code ({ cls := "com/example/merkmal/merkmal/rank/QueryMatch", name := "queryLength", desc := "()D" } : Jvm.MethodName) prog_47_method_2_code (1 : Nat) (Option.some Jvm.ClassFile.FieldType.double)]
set_option maxRecDepth 65536 in
theorem codes_eq : words1.filter isCode = codes1 := rfl
theorem w_codes : ∀ c ∈ words1.filter isCode, c.before args0 about1 = true := by
  rw [codes_eq]
  intro c hc
  simp only [codes1, List.mem_cons, List.not_mem_nil, or_false] at hc
  rcases hc with rfl | rfl | rfl | rfl | rfl | rfl | rfl | rfl | rfl
  · exact w_c0
  · exact w_c1
  · exact w_c2
  · exact w_c3
  · exact w_c4
  · exact w_c5
  · exact w_c6
  · exact w_c7
  · exact w_c8
set_option maxRecDepth 65536 in
theorem w_t1 : (words1.take 24).all (fun c => isCode c || c.before args0 about1) = true := by decide +kernel
set_option maxRecDepth 65536 in
theorem w_t2 : ((words1.drop 24).take 24).all (fun c => isCode c || c.before args0 about1) = true := by decide +kernel
set_option maxRecDepth 65536 in
theorem w_t3 : ((words1.drop 24).drop 24).all (fun c => isCode c || c.before args0 about1) = true := by decide +kernel
theorem w_tables : (allAtoms (Jvm.Cond.code x code maxLocals ret :: tables_1)).before args0 about1 = true := by
  rw [allAtoms_all]
  show words1.all (fun c => c.before args0 about1) = true
  refine all_split ?_ w_codes
  rw [← List.take_append_drop 24 words1, List.all_append, w_t1, ← List.take_append_drop 24 (words1.drop 24), List.all_append, w_t2, w_t3]
  rfl
set_option maxRecDepth 65536 in
theorem w_case : (Jvm.Cond.and given_1 narrow_1).before args0 about1 = true := by decide +kernel
theorem w_applies : (headSpec (Jvm.Cond.code x code maxLocals ret :: tables_1) room_1).applies x e0.platform about1 = true :=
  (Spec.applies_iff w_frames).mpr ⟨w_running, w_runnable, w_alone, w_named, w_hears, w_ripe, w_room, w_tables⟩
theorem atStart : AtStart classFile x code maxLocals ret World_1 tables_1 room_1 Calls_1 rest_1 Pre_1 launch0 p0 e0 about1 theMethod args0 below0 :=
  ⟨lists_1, trivial, launch0.admits_env _ _ _, launch0.least_env, fairChoices_fair.cas, fairChoices_fair.clock, w_frames, w_args, w_heap, w_applies, trivial, trivial, w_case⟩
end start1
theorem witness_1 : WitnessClaimed_1 := ⟨start1.p0, start1.e0, start1.about1, start1.theMethod, start1.args0, start1.below0, start1.atStart⟩
end Jvm.Pilot.@@N@@
