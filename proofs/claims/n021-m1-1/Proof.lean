import JvmDerived
import JvmDerived.Pilot.@@N@@Statement
import JvmDerived.Pilot.@@N@@Code
set_option linter.unusedVariables false
set_option linter.unusedSimpArgs false
namespace Jvm.Pilot.@@N@@
open Jvm Jvm.ClassFile Sem Op Lib Jvm.Free Jvm.Stand Jvm.LawKit Jvm.RoadKit Bundle Jvm.Pilot.@@N@@.Jvm.D
section OwnWalk
variable {p : Program} {l : Launch} {e : Env} {R : Room} {s : State} {m : MethodId} {args : Array Value} {below : List Frame} {meth : Method} {c : Code} {T T' : State} {locs : List Loc} {cells slots kc ks : Nat} {g g' : JFrame} {Q : Option Value → Heap → List Loc → Prop}
/-- from here the run comes to its end, and the end is as Q says -/
def own_G (p : Program) (e : Env) (below : List Frame) (s : State) (Q : Option Value → Heap → List Loc → Prop) (kc ks : Nat) (T : State) (g : JFrame) : Prop :=
  ∃ s₂ o, Steps p.tables e below (T.setTop g) s₂ ∧ s₂.status = .running ∧ Ended s₂ below o ∧ ∃ v L, o = .returned v ∧ Q v s₂.heap L ∧ FrameEnd s o s₂ L kc ks
theorem own_fe {Z : State} {h : Heap} {a : Addr} {C n d : String} {v v' : Value} (q : Fld Z h a C n d v) (e : v = v') : Fld Z h a C n d v' := e ▸ q
theorem own_ve {Z : State} {h : Heap} {a : Addr} {k : ClassId} {ty : FieldType} {n : Int32} {vs vs' : List Value} {d : Value} (q : Arv Z h a k ty n vs d) (e : vs = vs') : Arv Z h a k ty n vs' d := e ▸ q
theorem own_gs {vs : List Value} {j : Nat} {v d : Value} (h : j < vs.length) : (vs.set j v).getD j d = v := by simp [List.getD_eq_getElem?_getD, h]
theorem own_ge {vs : List Value} {i j : Nat} {v d : Value} (e : i = j) (h : j < vs.length) : (vs.set i v).getD j d = v := by subst e; exact own_gs h
theorem own_gn {vs : List Value} {i j : Nat} {v w d : Value} (h : i ≠ j) (q : vs.getD j d = w) : (vs.set i v).getD j d = w := by rw [List.getD_eq_getElem?_getD, List.getElem?_set_ne h, ← List.getD_eq_getElem?_getD]; exact q
theorem own_ls {vs : List Value} {i j : Nat} {v : Value} (h : j < vs.length) : j < (vs.set i v).length := by rw [List.length_set]; exact h
theorem own_enter (q : g = g') (k : own_G p e below s Q kc ks T g') : own_G p e below s Q kc ks T g := q ▸ k
theorem own_st (st : ∀ t, Steps p.tables e below (T'.setTop g') t → Steps p.tables e below (T.setTop g) t) (k : own_G p e below s Q kc ks T' g') : own_G p e below s Q kc ks T g := by
  obtain ⟨s₂, o, h1, h2⟩ := k
  exact ⟨s₂, o, st _ h1, h2⟩
theorem own_tr (st : Steps p.tables e below (T.setTop g) (T'.setTop g')) (k : own_G p e below s Q kc ks T' g') : own_G p e below s Q kc ks T g := own_st (fun _ h => st.trans h) k
theorem own_ret (X : Stand p l e R s m args below meth c T locs cells slots) (hx : p.tables.exec = Jvm.exec) (hlk : meth.locks = false) {pc : Nat} {Ls : Array Slot} {w : Value} {t : FieldType} {i : Instr} {rest : List Value} (hret : meth.sig.returnType = some t) (hn : narrow t w = w)
    (hi : (i = .ireturn ∧ (t = .int ∨ t = .boolean ∨ t = .byte ∨ t = .char ∨ t = .short) ∧ ∃ z, w = .int z) ∨ (i = .lreturn ∧ t = .long ∧ ∃ z, w = .long z) ∨ (i = .dreturn ∧ t = .double ∧ ∃ z, w = .double z) ∨ (i = .freturn ∧ t = .float ∧ ∃ z, w = .float z) ∨ (i = .areturn ∧ t.isReference = true ∧ w.isRef = true))
    (hd : decode c.code pc = .ok (i, 1)) (hc : cells ≤ kc) (hs : slots ≤ ks) (hQ : Q (some w) T.heap locs) : own_G p e below s Q kc ks T (mkF m pc Ls (w :: rest)) := by
  obtain ⟨fs, hr, hrun, hended, hW, hsame⟩ := X.leave (v := some w) (fun h => by rw [hret] at h; cases h) hlk
  exact ⟨_, _, retOut X hx hret hn hi hd hr, hrun, hended, _, _, rfl, hQ, ⟨_, rfl⟩, hW, hsame.mono hc hs⟩
theorem own_retI (X : Stand p l e R s m args below meth c T locs cells slots) (hx : p.tables.exec = Jvm.exec) (hlk : meth.locks = false) {pc : Nat} {Ls : Array Slot} {z : Int32} {rest : List Value} (hret : meth.sig.returnType = some .int)
    (hd : decode c.code pc = .ok (.ireturn, 1)) (hc : cells ≤ kc) (hs : slots ≤ ks) (hQ : Q (some (.int z)) T.heap locs) : own_G p e below s Q kc ks T (mkF m pc Ls (.int z :: rest)) :=
  own_ret X hx hlk hret rfl (Or.inl ⟨rfl, Or.inl rfl, z, rfl⟩) hd hc hs hQ
theorem own_retZ (X : Stand p l e R s m args below meth c T locs cells slots) (hx : p.tables.exec = Jvm.exec) (hlk : meth.locks = false) {pc : Nat} {Ls : Array Slot} {z : Int32} {rest : List Value} (hret : meth.sig.returnType = some .boolean)
    (hd : decode c.code pc = .ok (.ireturn, 1)) (hn : narrow .boolean (.int z) = .int z) (hc : cells ≤ kc) (hs : slots ≤ ks) (hQ : Q (some (.int z)) T.heap locs) : own_G p e below s Q kc ks T (mkF m pc Ls (.int z :: rest)) :=
  own_ret X hx hlk hret hn (Or.inl ⟨rfl, Or.inr (Or.inl rfl), z, rfl⟩) hd hc hs hQ
theorem own_retJ (X : Stand p l e R s m args below meth c T locs cells slots) (hx : p.tables.exec = Jvm.exec) (hlk : meth.locks = false) {pc : Nat} {Ls : Array Slot} {z : Int64} {rest : List Value} (hret : meth.sig.returnType = some .long)
    (hd : decode c.code pc = .ok (.lreturn, 1)) (hc : cells ≤ kc) (hs : slots ≤ ks) (hQ : Q (some (.long z)) T.heap locs) : own_G p e below s Q kc ks T (mkF m pc Ls (.long z :: rest)) :=
  own_ret X hx hlk hret rfl (Or.inr (Or.inl ⟨rfl, rfl, z, rfl⟩)) hd hc hs hQ
theorem own_retD (X : Stand p l e R s m args below meth c T locs cells slots) (hx : p.tables.exec = Jvm.exec) (hlk : meth.locks = false) {pc : Nat} {Ls : Array Slot} {z : UInt64} {rest : List Value} (hret : meth.sig.returnType = some .double)
    (hd : decode c.code pc = .ok (.dreturn, 1)) (hc : cells ≤ kc) (hs : slots ≤ ks) (hQ : Q (some (.double z)) T.heap locs) : own_G p e below s Q kc ks T (mkF m pc Ls (.double z :: rest)) :=
  own_ret X hx hlk hret rfl (Or.inr (Or.inr (Or.inl ⟨rfl, rfl, z, rfl⟩))) hd hc hs hQ
theorem own_retA (X : Stand p l e R s m args below meth c T locs cells slots) (hx : p.tables.exec = Jvm.exec) (hlk : meth.locks = false) {pc : Nat} {Ls : Array Slot} {w : Value} {t : FieldType} {rest : List Value} (hret : meth.sig.returnType = some t) (ht : t.isReference = true) (hw : w.isRef = true)
    (hd : decode c.code pc = .ok (.areturn, 1)) (hc : cells ≤ kc) (hs : slots ≤ ks) (hQ : Q (some w) T.heap locs) : own_G p e below s Q kc ks T (mkF m pc Ls (w :: rest)) :=
  own_ret X hx hlk hret (by cases t <;> first | (cases ht; done) | (cases w <;> first | (cases hw; done) | rfl)) (Or.inr (Or.inr (Or.inr (Or.inr ⟨rfl, ht, hw⟩)))) hd hc hs hQ
theorem own_retV (X : Stand p l e R s m args below meth c T locs cells slots) (hx : p.tables.exec = Jvm.exec) (hlk : meth.locks = false) {pc : Nat} {Ls : Array Slot} (hret : meth.sig.returnType = none)
    (hd : decode c.code pc = .ok (.return_, 1)) (hc : cells ≤ kc) (hs : slots ≤ ks) (hQ : Q none T.heap locs) : own_G p e below s Q kc ks T (mkF m pc Ls []) := by
  obtain ⟨fs, hr, hrun, hended, hW, hsame⟩ := X.leave (v := none) (fun _ => rfl) hlk
  exact ⟨_, _, X.returnOut hx hret hd hr, hrun, hended, _, _, rfl, hQ, ⟨_, rfl⟩, hW, hsame.mono hc hs⟩
end OwnWalk
section OwnFloat
/-! ## Doubles as fractions: x is n / 2^k, exactly -/
def own_Dy (x : UInt64) (n : Int) (k : Nat) : Prop :=
  (∃ s c q, FP.Core.val64 x = .fin s c q) ∧ k ≤ 1074 ∧ FP.Core.zval FP.Core.b64 (FP.Core.val64 x) = n * ((2 ^ (1074 - k) : Nat) : Int)
theorem own_qmax : FP.Core.b64.qmax = 971 := by decide
theorem own_p : FP.Core.b64.p = 53 := by decide
theorem own_signed_abs (n : Int) : FP.Core.signed (decide (n < 0)) n.natAbs = n := by
  unfold FP.Core.signed; by_cases h : n < 0 <;> simp [h] <;> omega
/-- every n / 2^k with |n| < 2^53 is a double's value -/
theorem own_fitV {n : Int} {k : Nat} (hk : k ≤ 1074) (hn : n.natAbs < 9007199254740992) :
    ∃ V, FP.Core.fits FP.Core.b64 V ∧ (∃ s c q, V = .fin s c q) ∧ FP.Core.zval FP.Core.b64 V = n * ((2 ^ (1074 - k) : Nat) : Int) := by
  obtain ⟨c', q', h1, h2⟩ := FP.Core.round_exact FP.Core.good_b64 (decide (n < 0)) (c := n.natAbs) (q := -(k : Int)) (by rw [own_p]; exact hn) (by rw [FP.Core.qmin_b64]; omega) (by rw [own_qmax]; omega)
  refine ⟨_, FP.Core.round_fits FP.Core.good_b64 (.fin (decide (n < 0)) n.natAbs (-(k : Int))), ⟨_, _, _, h1⟩, ?_⟩
  rw [h1]
  show FP.Core.signed (decide (n < 0)) (FP.Core.inUnits c' q' FP.Core.b64.qmin) = _
  rw [h2]
  unfold FP.Core.inUnits
  rw [FP.Core.qmin_b64, show (-(k : Int) - -1074).toNat = 1074 - k by omega, FP.Core.signed_mul, own_signed_abs]
/-- what is worth n / 2^k rounds to that -/
theorem own_round {s : Bool} {c : Nat} {q e0 n : Int} {k : Nat} (hk : k ≤ 1074) (hn : n.natAbs < 9007199254740992) (h0 : e0 ≤ -1074) (h1 : e0 ≤ q)
    (h : FP.Core.signed s (FP.Core.inUnits c q e0) = n * ((2 ^ (1074 - k) : Nat) : Int) * ((2 ^ (-1074 - e0).toNat : Nat) : Int)) :
    (∃ s' c' q', FP.Core.round FP.Core.b64 (.fin s c q) = .fin s' c' q') ∧ FP.Core.zval FP.Core.b64 (FP.Core.round FP.Core.b64 (.fin s c q)) = n * ((2 ^ (1074 - k) : Nat) : Int) := by
  obtain ⟨V, v1, ⟨vs, vc, vq, v2⟩, v3⟩ := own_fitV hk hn
  have hne : V ≠ .nan := by rw [v2]; exact FP.Core.Datum.noConfusion
  have hq := FP.Core.qmin_b64
  have le := FP.Core.zval_round_le FP.Core.good_b64 (s := s) (c := c) (q := q) (e0 := e0) v1 hne (by rw [hq]; exact h0) h1 (by rw [hq, v3, h]; exact Int.le_refl _)
  have ge := FP.Core.zval_round_ge FP.Core.good_b64 (s := s) (c := c) (q := q) (e0 := e0) v1 hne (by rw [hq]; exact h0) h1 (by rw [hq, v3, h]; exact Int.le_refl _)
  have e : FP.Core.zval FP.Core.b64 (FP.Core.round FP.Core.b64 (.fin s c q)) = FP.Core.zval FP.Core.b64 V := Int.le_antisymm le ge
  refine ⟨?_, e.trans v3⟩
  rcases FP.Core.roundRatio_cases FP.Core.b64 s c 1 q with ⟨c', q', h'⟩ | h'
  · exact ⟨_, _, _, h'⟩
  · exfalso
    have e' : FP.Core.zval FP.Core.b64 (FP.Core.roundRatio FP.Core.b64 s c 1 q) = FP.Core.zval FP.Core.b64 V := e
    rw [h', v2] at e'
    rw [v2] at v1
    have hlt := FP.Core.zmag_lt_top FP.Core.good_b64 v1
    have e2 : FP.Core.signed s (FP.Core.b64.tails * 2 ^ (FP.Core.b64.exps - 2)) = FP.Core.signed vs (FP.Core.inUnits vc vq FP.Core.b64.qmin) := e'
    clear e'
    generalize FP.Core.inUnits vc vq FP.Core.b64.qmin = a at e2 hlt
    generalize FP.Core.b64.tails * 2 ^ (FP.Core.b64.exps - 2) = b at e2 hlt
    cases s <;> cases vs <;> simp only [FP.Core.signed, if_true, Bool.false_eq_true, if_false] at e2 <;> omega
theorem own_Dy.fin {x : UInt64} {n : Int} {k : Nat} (h : own_Dy x n k) : Fl.Fin64 x := by
  obtain ⟨⟨s, c, q, h1⟩, -⟩ := h
  exact Fl.fin64_core.mpr ⟨s, c, q, h1⟩
theorem own_Dy.nn {x : UInt64} {n : Int} {k : Nat} (h : own_Dy x n k) : Fl.NoNaN64 x := h.fin.noNaN
theorem own_Dy.ne {x : UInt64} {n : Int} {k : Nat} (h : own_Dy x n k) : FP.Core.val64 x ≠ .nan := by
  obtain ⟨⟨s, c, q, h1⟩, -⟩ := h; rw [h1]; exact FP.Core.Datum.noConfusion
theorem own_pow {j k : Nat} (h : j + k ≤ 1074) : ((2 ^ (1074 - j) : Nat) : Int) = ((2 ^ k : Nat) : Int) * ((2 ^ (1074 - (j + k)) : Nat) : Int) := by
  rw [← Int.natCast_mul, ← Nat.pow_add]; congr 2; omega
/-- the same number, with a greater denominator -/
theorem own_Dy.up {x : UInt64} {n : Int} {k : Nat} (h : own_Dy x n k) (j : Nat) (hj : k + j ≤ 1074) : own_Dy x (n * ((2 ^ j : Nat) : Int)) (k + j) := by
  obtain ⟨h1, -, h3⟩ := h
  refine ⟨h1, hj, ?_⟩
  rw [h3, own_pow hj, Int.mul_assoc]
theorem own_Dy.dn {x : UInt64} {n : Int} {k j : Nat} (h : own_Dy x (n * ((2 ^ j : Nat) : Int)) (k + j)) : own_Dy x n k := by
  obtain ⟨h1, h2, h3⟩ := h
  refine ⟨h1, by omega, ?_⟩
  rw [h3, own_pow h2, Int.mul_assoc]
theorem own_dy_l2d {a : Int64} (h1 : -9007199254740992 < a.toInt) (h2 : a.toInt < 9007199254740992) : own_Dy (FP.l2d a) a.toInt 0 := by
  have hr := own_round (s := decide (a.toInt < 0)) (c := a.toInt.natAbs) (q := 0) (e0 := -1074) (n := a.toInt) (k := 0) (by omega) (by omega) (by omega) (by omega) (by
    unfold FP.Core.inUnits
    rw [FP.Core.signed_mul, own_signed_abs, show (0 - -1074 : Int).toNat = 1074 from rfl, show (-1074 - -1074 : Int).toNat = 0 from rfl, Nat.pow_zero, Int.natCast_one, Int.mul_one])
  have hv : FP.Core.val64 (FP.l2d a) = FP.Core.round FP.Core.b64 (.fin (decide (a.toInt < 0)) a.toInt.natAbs 0) := FP.Core.val64_l2d a
  unfold own_Dy
  rw [hv]
  exact ⟨hr.1, by omega, hr.2⟩
theorem own_dy_i2d (a : Int32) : own_Dy (FP.i2d a) a.toInt 0 := by
  have h := Int32.toInt_lt a
  have h' := Int32.le_toInt a
  have e : a.toInt64.toInt = a.toInt := Int32.toInt_toInt64 a
  have := own_dy_l2d (a := a.toInt64) (by omega) (by omega)
  rw [e] at this
  exact (FP.Core.i2d_l2d a ▸ this : own_Dy (FP.Core.i2d a) a.toInt 0)
theorem own_Dy.add {x y : UInt64} {n m : Int} {k : Nat} (hx : own_Dy x n k) (hy : own_Dy y m k) (h : (n + m).natAbs < 9007199254740992) : own_Dy (FP.dadd x y) (n + m) k := by
  obtain ⟨⟨s, c, q, hx1⟩, hk, hx3⟩ := hx
  obtain ⟨⟨t, d, r, hy1⟩, -, hy3⟩ := hy
  obtain ⟨sg, w, e, h1, h2, h3⟩ := FP.Core.sum_units (f := FP.Core.b64) (hx1 ▸ FP.Core.val64_fits x) (hy1 ▸ FP.Core.val64_fits y)
  have hq := FP.Core.qmin_b64
  rw [← hx1, ← hy1, hx3, hy3, ← Int.add_mul] at h3
  have hr := own_round (s := sg) (c := w) (q := e) (e0 := -1074) (n := n + m) (k := k) hk h (by omega) (by rw [hq] at h2; exact h2) (by
    rw [hq] at h3; rw [h3, show (-1074 - -1074 : Int).toNat = 0 from rfl, Nat.pow_zero, Int.natCast_one, Int.mul_one])
  have hv : FP.Core.val64 (FP.dadd x y) = FP.Core.round FP.Core.b64 (.fin sg w e) := by
    have := FP.Core.val64_dadd x y
    rw [hx1, hy1, h1] at this
    exact this
  unfold own_Dy
  rw [hv]
  exact ⟨hr.1, hk, hr.2⟩
theorem own_Dy.sub {x y : UInt64} {n m : Int} {k : Nat} (hx : own_Dy x n k) (hy : own_Dy y m k) (h : (n - m).natAbs < 9007199254740992) : own_Dy (FP.dsub x y) (n - m) k := by
  obtain ⟨⟨s, c, q, hx1⟩, hk, hx3⟩ := hx
  obtain ⟨⟨t, d, r, hy1⟩, -, hy3⟩ := hy
  have hyn : FP.Core.fits FP.Core.b64 (FP.Core.negate (.fin t d r)) := FP.Core.negate_fits (hy1 ▸ FP.Core.val64_fits y)
  obtain ⟨sg, w, e, h1, h2, h3⟩ := FP.Core.sum_units (f := FP.Core.b64) (s := s) (c := c) (q := q) (t := !t) (d := d) (r := r) (hx1 ▸ FP.Core.val64_fits x) hyn
  have hq := FP.Core.qmin_b64
  have hneg : FP.Core.zval FP.Core.b64 (.fin (!t) d r) = -(m * ((2 ^ (1074 - k) : Nat) : Int)) := by
    rw [← hy3, hy1]; exact FP.Core.zval_negate FP.Core.b64 (.fin t d r)
  rw [← hx1, hx3, hneg, ← Int.sub_eq_add_neg, ← Int.sub_mul] at h3
  have hr := own_round (s := sg) (c := w) (q := e) (e0 := -1074) (n := n - m) (k := k) hk h (by omega) (by rw [hq] at h2; exact h2) (by
    rw [hq] at h3; rw [h3, show (-1074 - -1074 : Int).toNat = 0 from rfl, Nat.pow_zero, Int.natCast_one, Int.mul_one])
  have hv : FP.Core.val64 (FP.dsub x y) = FP.Core.round FP.Core.b64 (.fin sg w e) := by
    have := FP.Core.val64_dsub x y
    rw [hx1, hy1] at this
    exact this.trans (congrArg _ h1)
  unfold own_Dy
  rw [hv]
  exact ⟨hr.1, hk, hr.2⟩
theorem own_Dy.mul {x y : UInt64} {n m : Int} {k j : Nat} (hx : own_Dy x n k) (hy : own_Dy y m j) (hkj : k + j ≤ 1074) (h : (n * m).natAbs < 9007199254740992) : own_Dy (FP.dmul x y) (n * m) (k + j) := by
  obtain ⟨⟨s, c, q, hx1⟩, hk, hx3⟩ := hx
  obtain ⟨⟨t, d, r, hy1⟩, hj, hy3⟩ := hy
  obtain ⟨h1, h2, h3⟩ := FP.Core.product_units (f := FP.Core.b64) (hx1 ▸ FP.Core.val64_fits x) (hy1 ▸ FP.Core.val64_fits y)
  have hq := FP.Core.qmin_b64
  have hs : FP.Core.signed (s != t) (FP.Core.zmag FP.Core.b64 (.fin s c q) * FP.Core.zmag FP.Core.b64 (.fin t d r)) = FP.Core.zval FP.Core.b64 (.fin s c q) * FP.Core.zval FP.Core.b64 (.fin t d r) := by
    show _ = FP.Core.signed s (FP.Core.zmag FP.Core.b64 (.fin s c q)) * FP.Core.signed t (FP.Core.zmag FP.Core.b64 (.fin t d r))
    generalize FP.Core.zmag FP.Core.b64 (.fin s c q) = a
    generalize FP.Core.zmag FP.Core.b64 (.fin t d r) = b
    cases s <;> cases t <;> simp [FP.Core.signed, Int.natCast_mul, Int.neg_mul, Int.mul_neg]
  have hr := own_round (s := s != t) (c := c * d) (q := q + r) (e0 := -2148) (n := n * m) (k := k + j) hkj h (by omega) (by rw [hq] at h2; omega) (by
    rw [hq] at h3
    have h3' : FP.Core.inUnits (c * d) (q + r) (-2148) = FP.Core.zmag FP.Core.b64 (FP.Core.Datum.fin s c q) * FP.Core.zmag FP.Core.b64 (FP.Core.Datum.fin t d r) := h3
    rw [h3', hs, ← hx1, ← hy1, hx3, hy3, show (-1074 - -2148 : Int).toNat = 1074 from rfl]
    have e1 : ((2 ^ (1074 - k) : Nat) : Int) * ((2 ^ (1074 - j) : Nat) : Int) = ((2 ^ (1074 - (k + j)) : Nat) : Int) * ((2 ^ 1074 : Nat) : Int) := by
      rw [← Int.natCast_mul, ← Int.natCast_mul, ← Nat.pow_add, ← Nat.pow_add]; congr 2; omega
    generalize ((2 ^ (1074 - k) : Nat) : Int) = A at e1 ⊢
    generalize ((2 ^ (1074 - j) : Nat) : Int) = B at e1 ⊢
    generalize ((2 ^ (1074 - (k + j)) : Nat) : Int) = C at e1 ⊢
    generalize ((2 ^ 1074 : Nat) : Int) = D at e1 ⊢
    calc n * A * (m * B) = n * m * (A * B) := by ac_rfl
      _ = n * m * C * D := by rw [e1]; ac_rfl)
  have hv : FP.Core.val64 (FP.dmul x y) = FP.Core.round FP.Core.b64 (.fin (s != t) (c * d) (q + r)) := by
    have := FP.Core.val64_dmul x y
    rw [hx1, hy1] at this
    exact this.trans (congrArg _ h1)
  unfold own_Dy
  rw [hv]
  exact ⟨hr.1, hkj, hr.2⟩
theorem own_Dy.cmp {x y : UInt64} {n m : Int} {k : Nat} (hx : own_Dy x n k) (hy : own_Dy y m k) : FP.dcmp x y = some (compare n m) := by
  have h := FP.Core.dcmp_zval hx.ne hy.ne
  rw [hx.2.2, hy.2.2, FP.Core.compare_mul_pos _ _ _ (by have := Nat.two_pow_pos (1074 - k); omega)] at h
  exact h
theorem own_Dy.eq {x y : UInt64} {n m : Int} {k : Nat} (hx : own_Dy x n k) (hy : own_Dy y m k) (h : n = m) (o : CmpOp) : cmpValue (FP.dcmp x y) o = 0 := by
  rw [hx.cmp hy, (FP.Core.compare_eq_iff n m).mpr h]; rfl
theorem own_Dy.lt {x y : UInt64} {n m : Int} {k : Nat} (hx : own_Dy x n k) (hy : own_Dy y m k) (h : n < m) (o : CmpOp) : cmpValue (FP.dcmp x y) o = -1 := by
  rw [hx.cmp hy, (FP.Core.compare_lt_iff n m).mpr h]; rfl
theorem own_Dy.gt {x y : UInt64} {n m : Int} {k : Nat} (hx : own_Dy x n k) (hy : own_Dy y m k) (h : m < n) (o : CmpOp) : cmpValue (FP.dcmp x y) o = 1 := by
  rw [hx.cmp hy, (FP.Core.compare_gt_iff n m).mpr h]; rfl
end OwnFloat
section OwnInt
theorem own_ladd {a b : Int64} (h : (a.toInt + b.toInt).natAbs < 9223372036854775808) : (a + b).toInt = a.toInt + b.toInt := by
  have q := c_ladd a b; have r := rng64 (a + b); omega
theorem own_lsub {a b : Int64} (h : (a.toInt - b.toInt).natAbs < 9223372036854775808) : (a - b).toInt = a.toInt - b.toInt := by
  have q := c_lsub a b; have r := rng64 (a - b); omega
theorem own_lmul {a b : Int64} (h : (a.toInt * b.toInt).natAbs < 9223372036854775808) : (a * b).toInt = a.toInt * b.toInt := by
  have q := c_lmul a b; have r := rng64 (a * b); generalize a.toInt * b.toInt = z at *; omega
theorem own_iadd {a b : Int32} (h : (a.toInt + b.toInt).natAbs < 2147483648) : (a + b).toInt = a.toInt + b.toInt := by
  have q := c_iadd a b; have r := rng32 (a + b); omega
theorem own_isub {a b : Int32} (h : (a.toInt - b.toInt).natAbs < 2147483648) : (a - b).toInt = a.toInt - b.toInt := by
  have q := c_isub a b; have r := rng32 (a - b); omega
theorem own_imul {a b : Int32} (h : (a.toInt * b.toInt).natAbs < 2147483648) : (a * b).toInt = a.toInt * b.toInt := by
  have q := c_imul a b; have r := rng32 (a * b); generalize a.toInt * b.toInt = z at *; omega
theorem own_absmul {n m : Int} {A B : Nat} (hn : n.natAbs ≤ A) (hm : m.natAbs ≤ B) : (n * m).natAbs ≤ A * B := by
  rw [Int.natAbs_mul]; exact Nat.mul_le_mul hn hm
end OwnInt
section OwnShift
theorem own_bv {q : Int32} {n : Nat} (h : q.toInt = (n : Int)) : q.toBitVec.toNat = n := by
  have h1 : q.toBitVec.toInt = (n : Int) := h
  have h2 := BitVec.toInt_eq_toNat_cond q.toBitVec
  have h3 := q.toBitVec.isLt
  split at h2 <;> omega
theorem own_lshl {x : Int64} {q : Int32} {n : Nat} (hq : q.toInt = (n : Int)) (hn : n < 64) (hb : (x.toInt * ((2 ^ n : Nat) : Int)).natAbs < 9223372036854775808) : (x <<< (q &&& 0x3f).toInt64).toInt = x.toInt * ((2 ^ n : Nat) : Int) := by
  have h1 := c_lshl x q n (by rw [own_bv hq]; omega)
  have h2 := rng64 (x <<< (q &&& 0x3f).toInt64)
  generalize x.toInt * ((2 ^ n : Nat) : Int) = z at *
  omega
theorem own_ishl {x : Int32} {q : Int32} {n : Nat} (hq : q.toInt = (n : Int)) (hn : n < 32) (hb : (x.toInt * ((2 ^ n : Nat) : Int)).natAbs < 2147483648) : (x <<< (q &&& 31)).toInt = x.toInt * ((2 ^ n : Nat) : Int) := by
  have h1 := c_ishl x q n (by rw [own_bv hq]; omega)
  have h2 := rng32 (x <<< (q &&& 31))
  generalize x.toInt * ((2 ^ n : Nat) : Int) = z at *
  omega
theorem own_ishl1 {q : Int32} {n : Nat} (hq : q.toInt = (n : Int)) (hn : n < 31) : ((1 : Int32) <<< (q &&& 31)).toInt = ((2 ^ n : Nat) : Int) := by
  have e : (1 : Int32).toInt = 1 := by decide
  have hp : 2 ^ n ≤ 2 ^ 30 := Nat.pow_le_pow_right (by omega) (by omega)
  rw [own_ishl hq (by omega) (by rw [e, Int.one_mul, Int.natAbs_natCast]; omega), e, Int.one_mul]
theorem own_lshl1 {q : Int32} {n : Nat} (hq : q.toInt = (n : Int)) (hn : n < 63) : ((1 : Int64) <<< (q &&& 0x3f).toInt64).toInt = ((2 ^ n : Nat) : Int) := by
  have e : (1 : Int64).toInt = 1 := by decide
  have hp : 2 ^ n ≤ 2 ^ 62 := Nat.pow_le_pow_right (by omega) (by omega)
  rw [own_lshl hq (by omega) (by rw [e, Int.one_mul, Int.natAbs_natCast]; omega), e, Int.one_mul]
/-- a mask of ones: what is left is some natural below the power -/
theorem own_andN (x : Int32) (mk : Int32) (M : Nat) (hM : mk.toInt = (M : Int)) : ∃ n : Nat, (x &&& mk).toInt = (n : Int) ∧ n ≤ M := by
  have h := c_and x mk (by omega)
  exact ⟨(x &&& mk).toInt.toNat, by omega, by omega⟩
theorem own_andL (x : Int64) (mk : Int64) (k : Nat) (hk : k ≤ 63) (hm : mk.toBitVec.toNat = 2 ^ k - 1) : ∃ n : Nat, (x &&& mk).toInt = (n : Int) ∧ n < 2 ^ k := by
  have h := c_maskL x mk k hk hm
  have hp := Nat.two_pow_pos k
  have h1 := Int.emod_nonneg x.toInt (show ((2 ^ k : Nat) : Int) ≠ 0 by omega)
  have h2 := Int.emod_lt_of_pos x.toInt (show (0 : Int) < ((2 ^ k : Nat) : Int) by omega)
  exact ⟨(x &&& mk).toInt.toNat, by omega, by omega⟩
theorem own_irem {x y : Int32} (hx : 0 ≤ x.toInt) (hy : 0 < y.toInt) : (x % y).toInt = x.toInt % y.toInt := by
  rw [Int32.toInt_mod, Int.tmod_eq_emod_of_nonneg hx]
theorem own_lrem {x y : Int64} (hx : 0 ≤ x.toInt) (hy : 0 < y.toInt) : (x - x / y * y).toInt = x.toInt % y.toInt := by
  rw [lrem_mod, Int64.toInt_mod, Int.tmod_eq_emod_of_nonneg hx]
end OwnShift
section OwnDiv
theorem own_zmag_of {x : UInt64} {n : Int} {k : Nat} {s : Bool} {c : Nat} {q : Int} (h : FP.Core.val64 x = .fin s c q) (hz : FP.Core.zval FP.Core.b64 (FP.Core.val64 x) = n * ((2 ^ (1074 - k) : Nat) : Int)) :
    c * 2 ^ (q + 1074).toNat = n.natAbs * 2 ^ (1074 - k) ∧ -1074 ≤ q ∧ q ≤ 971 := by
  have hf : FP.Core.fits FP.Core.b64 (.fin s c q) := h ▸ FP.Core.val64_fits x
  obtain ⟨-, h1, h2, -⟩ := hf
  rw [FP.Core.qmin_b64] at h1
  rw [own_qmax] at h2
  refine ⟨?_, h1, h2⟩
  have e := congrArg Int.natAbs hz
  rw [h, Int.natAbs_mul, Int.natAbs_natCast] at e
  unfold FP.Core.zval at e
  rw [FP.Core.natAbs_signed] at e
  have e2 : FP.Core.zmag FP.Core.b64 (.fin s c q) = c * 2 ^ (q + 1074).toNat := by
    show c * 2 ^ (q - FP.Core.b64.qmin).toNat = _
    rw [FP.Core.qmin_b64, show q - -1074 = q + 1074 by omega]
  rw [← e2]; exact e
theorem own_sgn_of {x : UInt64} {n : Int} {k : Nat} {s : Bool} {c : Nat} {q : Int} (h : FP.Core.val64 x = .fin s c q) (hz : FP.Core.zval FP.Core.b64 (FP.Core.val64 x) = n * ((2 ^ (1074 - k) : Nat) : Int)) (hn : n ≠ 0) : s = decide (n < 0) := by
  rw [h] at hz
  have hp : (0 : Int) < ((2 ^ (1074 - k) : Nat) : Int) := by have := Nat.two_pow_pos (1074 - k); omega
  have hz' : FP.Core.signed s (FP.Core.zmag FP.Core.b64 (.fin s c q)) = n * ((2 ^ (1074 - k) : Nat) : Int) := hz
  generalize FP.Core.zmag FP.Core.b64 (.fin s c q) = z at hz'
  generalize ((2 ^ (1074 - k) : Nat) : Int) = P at hz' hp
  cases s
  · have e : (z : Int) = n * P := hz'
    have : ¬ n < 0 := fun u => by have := Int.mul_neg_of_neg_of_pos u hp; omega
    simp [this]
  · have e : -(z : Int) = n * P := hz'
    have : n < 0 := by
      refine Int.lt_of_not_ge fun u => ?_
      have h2 : 0 < n := by omega
      have := Int.mul_pos h2 hp; omega
    simp [this]
/-- a quotient that is a fraction n / 2^i with |n| below 2^53 comes out exactly -/
theorem own_Dy.div {x y : UInt64} {n m w : Int} {k j : Nat} (i : Nat) (hx : own_Dy x n k) (hy : own_Dy y m j) (hm : m ≠ 0) (hi : i ≤ 1074) (hw : w.natAbs < 9007199254740992) (h : n * ((2 ^ (j + i) : Nat) : Int) = w * m * ((2 ^ k : Nat) : Int)) : own_Dy (FP.ddiv x y) w i := by
  obtain ⟨⟨s, c, q, hx1⟩, hk, hx3⟩ := hx
  obtain ⟨⟨t, d, r, hy1⟩, hj, hy3⟩ := hy
  obtain ⟨cx, qx1, qx2⟩ := own_zmag_of hx1 hx3
  obtain ⟨cy, qy1, qy2⟩ := own_zmag_of hy1 hy3
  have hd : d ≠ 0 := fun z => by
    subst z
    rw [Nat.zero_mul] at cy
    rcases Nat.mul_eq_zero.mp cy.symm with u | u
    · omega
    · have := Nat.two_pow_pos (1074 - j); omega
  have hv : FP.Core.val64 (FP.ddiv x y) = FP.Core.roundRatio FP.Core.b64 (s != t) c d (q - r) := by
    have e : FP.Core.val64 (FP.ddiv x y) = FP.Core.quotient FP.Core.b64 (FP.Core.val64 x) (FP.Core.val64 y) := FP.Core.val64_ddiv x y
    rw [e, hx1, hy1]
    show (if d = 0 then _ else _) = _
    rw [if_neg hd]
  obtain ⟨V, v1, ⟨vs, vc, vq, v2⟩, v3⟩ := own_fitV hi hw
  have hne : V ≠ .nan := by rw [v2]; exact FP.Core.Datum.noConfusion
  have hzV : FP.Core.zmag FP.Core.b64 V = w.natAbs * 2 ^ (1074 - i) := by
    have e := congrArg Int.natAbs v3
    unfold FP.Core.zval at e
    rw [FP.Core.natAbs_signed, Int.natAbs_mul, Int.natAbs_natCast] at e
    exact e
  obtain ⟨N, hN⟩ : ∃ N : Nat, N = 4000 := ⟨_, rfl⟩
  have key : FP.Core.inUnits c (q - r) (-(N : Int)) = w.natAbs * 2 ^ (1074 - i) * 2 ^ (N - 1074) * d := by
    have hh : n.natAbs * 2 ^ (j + i) = w.natAbs * m.natAbs * 2 ^ k := by
      have e := congrArg Int.natAbs h
      rw [Int.natAbs_mul, Int.natAbs_natCast, Int.natAbs_mul, Int.natAbs_natCast, Int.natAbs_mul] at e
      exact e
    refine Nat.eq_of_mul_eq_mul_right (Nat.two_pow_pos (r + 1074).toNat) ?_
    unfold FP.Core.inUnits
    have l1 : c * 2 ^ (q - r - -(N : Int)).toNat * 2 ^ (r + 1074).toNat = c * 2 ^ (q + 1074).toNat * 2 ^ N := by
      rw [Nat.mul_assoc, Nat.mul_assoc, ← Nat.pow_add, ← Nat.pow_add]; congr 2; omega
    have l2 : w.natAbs * 2 ^ (1074 - i) * 2 ^ (N - 1074) * d * 2 ^ (r + 1074).toNat = w.natAbs * 2 ^ (1074 - i) * 2 ^ (N - 1074) * (d * 2 ^ (r + 1074).toNat) := by rw [Nat.mul_assoc]
    rw [l1, l2, cx, cy]
    have l3 : n.natAbs * 2 ^ (1074 - k) * 2 ^ N = n.natAbs * 2 ^ (j + i) * 2 ^ (N + 1074 - k - (j + i)) := by
      rw [Nat.mul_assoc, Nat.mul_assoc, ← Nat.pow_add, ← Nat.pow_add]; congr 2; omega
    have l4 : w.natAbs * 2 ^ (1074 - i) * 2 ^ (N - 1074) * (m.natAbs * 2 ^ (1074 - j)) = w.natAbs * m.natAbs * 2 ^ k * 2 ^ (N + 1074 - k - (j + i)) := by
      have this : 2 ^ (1074 - i) * 2 ^ (N - 1074) * 2 ^ (1074 - j) = 2 ^ k * 2 ^ (N + 1074 - k - (j + i)) := by
        rw [← Nat.pow_add, ← Nat.pow_add, ← Nat.pow_add]; exact congrArg (2 ^ ·) (by omega)
      generalize 2 ^ (1074 - i) = X1 at this ⊢
      generalize 2 ^ (N - 1074) = X2 at this ⊢
      generalize 2 ^ (1074 - j) = X3 at this ⊢
      generalize 2 ^ (N + 1074 - k - (j + i)) = X5 at this ⊢
      generalize 2 ^ k = X4 at this ⊢
      calc w.natAbs * X1 * X2 * (m.natAbs * X3) = w.natAbs * m.natAbs * (X1 * X2 * X3) := by ac_rfl
        _ = w.natAbs * m.natAbs * (X4 * X5) := by rw [this]
        _ = _ := by ac_rfl
    rw [l3, l4, hh]
  have le := FP.Core.zmag_roundRatio_le FP.Core.good_b64 (s := s != t) (A := c) (B := d) (e := q - r) (e0 := -(N : Int)) (Nat.pos_of_ne_zero hd) v1 hne (by rw [FP.Core.qmin_b64]; omega) (by omega) (by rw [FP.Core.qmin_b64, key, hzV, show (-1074 - -(N : Int)).toNat = N - 1074 by omega]; exact Nat.le_refl _)
  have ge := FP.Core.zmag_roundRatio_ge FP.Core.good_b64 (s := s != t) (A := c) (B := d) (e := q - r) (e0 := -(N : Int)) (Nat.pos_of_ne_zero hd) v1 (by rw [FP.Core.qmin_b64]; omega) (by omega) (by rw [FP.Core.qmin_b64, key, hzV, show (-1074 - -(N : Int)).toNat = N - 1074 by omega]; exact Nat.le_refl _)
  have eq := Nat.le_antisymm le ge
  have hfin : ∃ s' c' q', FP.Core.roundRatio FP.Core.b64 (s != t) c d (q - r) = .fin s' c' q' := by
    rcases FP.Core.roundRatio_cases FP.Core.b64 (s != t) c d (q - r) with ⟨c', q', h'⟩ | h'
    · exact ⟨_, _, _, h'⟩
    · exfalso
      rw [h', v2] at eq
      rw [v2] at v1
      have hlt := FP.Core.zmag_lt_top FP.Core.good_b64 v1
      have eq2 : FP.Core.b64.tails * 2 ^ (FP.Core.b64.exps - 2) = FP.Core.inUnits vc vq FP.Core.b64.qmin := eq
      rw [eq2] at hlt
      exact Nat.lt_irrefl _ hlt
  refine ⟨by rw [hv]; exact hfin, hi, ?_⟩
  rw [hv]
  unfold FP.Core.zval
  rw [FP.Core.sgn_roundRatio, eq, hzV]
  by_cases hw0 : w = 0
  · subst hw0
    simp [FP.Core.signed]
  · have hn0 : n ≠ 0 := fun z => by
      subst z
      rw [Int.zero_mul] at h
      rcases Int.mul_eq_zero.mp h.symm with u | u
      · rcases Int.mul_eq_zero.mp u with u | u
        · exact hw0 u
        · exact hm u
      · have := Nat.two_pow_pos k; omega
    rw [own_sgn_of hx1 hx3 hn0, own_sgn_of hy1 hy3 hm, FP.Core.signed_mul]
    congr 1
    have hP : (0 : Int) < ((2 ^ (j + i) : Nat) : Int) := by have := Nat.two_pow_pos (j + i); omega
    have hK : (0 : Int) < ((2 ^ k : Nat) : Int) := by have := Nat.two_pow_pos k; omega
    generalize ((2 ^ (j + i) : Nat) : Int) = P at h hP
    generalize ((2 ^ k : Nat) : Int) = R at h hK
    have sg : (n < 0 ↔ ¬ (w < 0 ↔ m < 0)) := by
      have a1 : n < 0 ↔ n * P < 0 := ⟨fun u => Int.mul_neg_of_neg_of_pos u hP, fun u => Int.lt_of_not_ge fun v => by have := Int.mul_nonneg v (Int.le_of_lt hP); omega⟩
      have a2 : w * m < 0 ↔ w * m * R < 0 := ⟨fun u => Int.mul_neg_of_neg_of_pos u hK, fun u => Int.lt_of_not_ge fun v => by have := Int.mul_nonneg v (Int.le_of_lt hK); omega⟩
      rw [a1, h, ← a2]
      rcases Int.lt_or_gt_of_ne hw0 with u | u <;> rcases Int.lt_or_gt_of_ne hm with v | v
      · have := Int.mul_pos_of_neg_of_neg u v; omega
      · have := Int.mul_neg_of_neg_of_pos u v; omega
      · have := Int.mul_neg_of_pos_of_neg u v; omega
      · have := Int.mul_pos u v; omega
    unfold FP.Core.signed
    by_cases u : w < 0 <;> by_cases v : m < 0 <;> by_cases z : n < 0 <;> simp [u, v, z] at sg ⊢ <;> omega
/-- two quotients of one value compare as equal -/
theorem own_div_eq {x y x' y' : UInt64} {n m n' m' : Int} {k k' : Nat} (hx : own_Dy x n k) (hy : own_Dy y m k) (hx' : own_Dy x' n' k') (hy' : own_Dy y' m' k') (hm : 0 < m) (hm' : 0 < m') (h : n * m' = n' * m) (o : CmpOp) :
    cmpValue (FP.dcmp (FP.ddiv x y) (FP.ddiv x' y')) o = 0 ∧ Fl.NoNaN64 (FP.ddiv x y) ∧ Fl.NoNaN64 (FP.ddiv x' y') ∧ FP.Core.zval FP.Core.b64 (FP.Core.val64 (FP.ddiv x y)) = FP.Core.zval FP.Core.b64 (FP.Core.val64 (FP.ddiv x' y')) := by
  obtain ⟨⟨s, c, q, hx1⟩, hk, hx3⟩ := hx
  obtain ⟨⟨t, d, r, hy1⟩, -, hy3⟩ := hy
  obtain ⟨⟨s', c', q', hx1'⟩, hk', hx3'⟩ := hx'
  obtain ⟨⟨t', d', r', hy1'⟩, -, hy3'⟩ := hy'
  obtain ⟨cx, qx1, qx2⟩ := own_zmag_of hx1 hx3
  obtain ⟨cy, qy1, qy2⟩ := own_zmag_of hy1 hy3
  obtain ⟨cx', qx1', qx2'⟩ := own_zmag_of hx1' hx3'
  obtain ⟨cy', qy1', qy2'⟩ := own_zmag_of hy1' hy3'
  have hd : d ≠ 0 := fun z => by
    subst z; rw [Nat.zero_mul] at cy
    rcases Nat.mul_eq_zero.mp cy.symm with u | u
    · omega
    · have := Nat.two_pow_pos (1074 - k); omega
  have hd' : d' ≠ 0 := fun z => by
    subst z; rw [Nat.zero_mul] at cy'
    rcases Nat.mul_eq_zero.mp cy'.symm with u | u
    · omega
    · have := Nat.two_pow_pos (1074 - k'); omega
  have hv : FP.Core.val64 (FP.ddiv x y) = FP.Core.roundRatio FP.Core.b64 (s != t) c d (q - r) := by
    have e : FP.Core.val64 (FP.ddiv x y) = FP.Core.quotient FP.Core.b64 (FP.Core.val64 x) (FP.Core.val64 y) := FP.Core.val64_ddiv x y
    rw [e, hx1, hy1]
    show (if d = 0 then _ else _) = _
    rw [if_neg hd]
  have hv' : FP.Core.val64 (FP.ddiv x' y') = FP.Core.roundRatio FP.Core.b64 (s' != t') c' d' (q' - r') := by
    have e : FP.Core.val64 (FP.ddiv x' y') = FP.Core.quotient FP.Core.b64 (FP.Core.val64 x') (FP.Core.val64 y') := FP.Core.val64_ddiv x' y'
    rw [e, hx1', hy1']
    show (if d' = 0 then _ else _) = _
    rw [if_neg hd']
  have cong : c * d' * 2 ^ ((q - r) - (q' - r')).toNat = c' * d * 2 ^ ((q' - r') - (q - r)).toNat := by
    have hh : n.natAbs * m'.natAbs = n'.natAbs * m.natAbs := by rw [← Int.natAbs_mul, ← Int.natAbs_mul, h]
    obtain ⟨N, hN⟩ : ∃ N : Nat, N = 4000 := ⟨_, rfl⟩
    refine Nat.eq_of_mul_eq_mul_right (Nat.two_pow_pos ((q' + 1074).toNat + (r + 1074).toNat + N)) ?_
    have e1 : c * d' * 2 ^ ((q - r) - (q' - r')).toNat * 2 ^ ((q' + 1074).toNat + (r + 1074).toNat + N) = (c * 2 ^ (q + 1074).toNat) * (d' * 2 ^ (r' + 1074).toNat) * 2 ^ (N + ((q' - r') - (q - r)).toNat) := by
      have : 2 ^ ((q - r) - (q' - r')).toNat * 2 ^ ((q' + 1074).toNat + (r + 1074).toNat + N) = 2 ^ (q + 1074).toNat * 2 ^ (r' + 1074).toNat * 2 ^ (N + ((q' - r') - (q - r)).toNat) := by
        rw [← Nat.pow_add, ← Nat.pow_add, ← Nat.pow_add]; congr 1; omega
      calc _ = c * d' * (2 ^ ((q - r) - (q' - r')).toNat * 2 ^ ((q' + 1074).toNat + (r + 1074).toNat + N)) := by rw [Nat.mul_assoc]
        _ = _ := by rw [this]; ac_rfl
    have e2 : c' * d * 2 ^ ((q' - r') - (q - r)).toNat * 2 ^ ((q' + 1074).toNat + (r + 1074).toNat + N) = (c' * 2 ^ (q' + 1074).toNat) * (d * 2 ^ (r + 1074).toNat) * 2 ^ (N + ((q' - r') - (q - r)).toNat) := by
      have : 2 ^ ((q' - r') - (q - r)).toNat * 2 ^ ((q' + 1074).toNat + (r + 1074).toNat + N) = 2 ^ (q' + 1074).toNat * 2 ^ (r + 1074).toNat * 2 ^ (N + ((q' - r') - (q - r)).toNat) := by
        rw [← Nat.pow_add, ← Nat.pow_add, ← Nat.pow_add]; congr 1; omega
      calc _ = c' * d * (2 ^ ((q' - r') - (q - r)).toNat * 2 ^ ((q' + 1074).toNat + (r + 1074).toNat + N)) := by rw [Nat.mul_assoc]
        _ = _ := by rw [this]; ac_rfl
    rw [e1, e2, cx, cy, cx', cy']
    have : n.natAbs * 2 ^ (1074 - k) * (m'.natAbs * 2 ^ (1074 - k')) = n'.natAbs * 2 ^ (1074 - k') * (m.natAbs * 2 ^ (1074 - k)) := by
      calc _ = n.natAbs * m'.natAbs * (2 ^ (1074 - k) * 2 ^ (1074 - k')) := by ac_rfl
        _ = n'.natAbs * m.natAbs * (2 ^ (1074 - k) * 2 ^ (1074 - k')) := by rw [hh]
        _ = _ := by ac_rfl
    rw [this]
  have n1 : FP.Core.val64 (FP.ddiv x y) ≠ .nan := by rw [hv]; exact FP.Core.roundRatio_ne_nan _ _ _ _ _
  have n2 : FP.Core.val64 (FP.ddiv x' y') ≠ .nan := by rw [hv']; exact FP.Core.roundRatio_ne_nan _ _ _ _ _
  have sgn_eq : n < 0 ↔ n' < 0 := by
    constructor
    · intro u
      have := Int.mul_neg_of_neg_of_pos u hm'
      rw [h] at this
      exact Int.lt_of_not_ge fun v => by have := Int.mul_nonneg v (Int.le_of_lt hm); omega
    · intro u
      have := Int.mul_neg_of_neg_of_pos u hm
      rw [← h] at this
      exact Int.lt_of_not_ge fun v => by have := Int.mul_nonneg v (Int.le_of_lt hm'); omega
  have hz : FP.Core.zval FP.Core.b64 (FP.Core.val64 (FP.ddiv x y)) = FP.Core.zval FP.Core.b64 (FP.Core.val64 (FP.ddiv x' y')) := by
    rw [hv, hv']
    by_cases h0 : n = 0
    · have h0' : n' = 0 := by
        subst h0; rw [Int.zero_mul] at h
        rcases Int.mul_eq_zero.mp h.symm with u | u
        · exact u
        · omega
      have c0 : c = 0 := by
        subst h0; rw [Int.natAbs_zero, Nat.zero_mul] at cx
        rcases Nat.mul_eq_zero.mp cx with u | u
        · exact u
        · have := Nat.two_pow_pos (q + 1074).toNat; omega
      have c0' : c' = 0 := by
        subst h0'; rw [Int.natAbs_zero, Nat.zero_mul] at cx'
        rcases Nat.mul_eq_zero.mp cx' with u | u
        · exact u
        · have := Nat.two_pow_pos (q' + 1074).toNat; omega
      subst c0 c0'
      simp [FP.Core.roundRatio, FP.Core.zval, FP.Core.zmag, FP.Core.inUnits, FP.Core.signed_zero]
    · have h0' : n' ≠ 0 := fun z => by
        subst z; rw [Int.zero_mul] at h
        rcases Int.mul_eq_zero.mp h with u | u
        · exact h0 u
        · omega
      have s1 := own_sgn_of hx1 hx3 h0
      have s2 := own_sgn_of hy1 hy3 (by omega)
      have s3 := own_sgn_of hx1' hx3' h0'
      have s4 := own_sgn_of hy1' hy3' (by omega)
      have es : (s != t) = (s' != t') := by
        rw [s1, s2, s3, s4]
        rw [decide_eq_decide.mpr sgn_eq, decide_eq_false (show ¬ m < 0 by omega), decide_eq_false (show ¬ m' < 0 by omega)]
      rw [es, FP.Core.roundRatio_congr (Nat.pos_of_ne_zero hd) (Nat.pos_of_ne_zero hd') cong]
  refine ⟨?_, Fl.val64_no.mpr n1, Fl.val64_no.mpr n2, hz⟩
  have hc := FP.Core.dcmp_zval n1 n2
  rw [hz, (FP.Core.compare_eq_iff _ _).mpr rfl] at hc
  rw [show FP.dcmp (FP.ddiv x y) (FP.ddiv x' y') = some .eq from hc]
  rfl
end OwnDiv
section OwnMore
theorem own_max {d : UInt64} (h : Fl.Fin64 d) (o : CmpOp) : ¬ ((0 : Int32) < (cmpValue (FP.dcmp (d &&& 0x7fffffffffffffff) (9218868437227405311 : UInt64)) o)) := by
  have q : FP.dcmp (d &&& 0x7fffffffffffffff) (9218868437227405311 : UInt64) = some .lt ∨ FP.dcmp (d &&& 0x7fffffffffffffff) (9218868437227405311 : UInt64) = some .eq := (FP.Core.le_max (Fl.noNaN64_no.mp h.noNaN)).mpr (Fl.fin64_core.mp h)
  rcases q with q | q <;> rw [q] <;> cases o <;> decide
theorem own_dy0 : own_Dy (0 : UInt64) 0 0 := ⟨⟨false, 0, -1074, by decide +kernel⟩, by omega, by decide +kernel⟩
theorem own_pos {d : UInt64} {n : Int} {k : Nat} (h : own_Dy d n k) (hn : 0 < n) (o : CmpOp) : cmpValue (FP.dcmp d (0 : UInt64)) o = (1 : Int32) := by
  have z : own_Dy (0 : UInt64) 0 k := by
    have := own_dy0.up k (by have := h.2.1; omega)
    rw [Int.zero_mul, Nat.zero_add] at this; exact this
  exact h.gt z hn o
end OwnMore
section OwnPlain
open Jvm.Free.Fl
def own_T (dA dB dC : UInt64) : Prop := ∃ i1 i2 i3 : Int, own_Dy dA i1 0 ∧ own_Dy dB i2 0 ∧ own_Dy dC i3 0 ∧ 0 < i1 ∧ i1 < i2 ∧ i2 < i3 ∧ i3 ≤ 4000
theorem own_p1 (p : Int32) : ∃ i : Int, ((p &&& (1023 : Int32)) + (1 : Int32)).toInt = i ∧ 1 ≤ i ∧ i ≤ 1024 := by
  obtain ⟨n, h, hn⟩ := own_andN p 1023 1023 (by decide)
  have e : (1 : Int32).toInt = 1 := by decide
  exact ⟨_, rfl, by rw [own_iadd (by omega), e, h]; omega, by rw [own_iadd (by omega), e, h]; omega⟩
theorem own_hT (p1 p2 p3 : Int32) : own_T (FP.i2d ((p1 &&& (1023 : Int32)) + (1 : Int32))) (FP.dadd (FP.i2d ((p1 &&& (1023 : Int32)) + (1 : Int32))) (FP.i2d ((p2 &&& (1023 : Int32)) + (1 : Int32)))) (FP.dadd (FP.dadd (FP.i2d ((p1 &&& (1023 : Int32)) + (1 : Int32))) (FP.i2d ((p2 &&& (1023 : Int32)) + (1 : Int32)))) (FP.i2d ((p3 &&& (1023 : Int32)) + (1 : Int32)))) := by
  obtain ⟨a, ha, a1, a2⟩ := own_p1 p1
  obtain ⟨b, hb, b1, b2⟩ := own_p1 p2
  obtain ⟨c, hc, c1, c2⟩ := own_p1 p3
  have x := own_dy_i2d ((p1 &&& (1023 : Int32)) + (1 : Int32))
  have y := own_dy_i2d ((p2 &&& (1023 : Int32)) + (1 : Int32))
  have z := own_dy_i2d ((p3 &&& (1023 : Int32)) + (1 : Int32))
  rw [ha] at x; rw [hb] at y; rw [hc] at z
  have xy := x.add y (by omega)
  have xyz := xy.add z (by omega)
  exact ⟨a, a + b, a + b + c, x, xy, xyz, by omega, by omega, by omega, by omega⟩
theorem own_T.finA {dA dB dC : UInt64} (h : own_T dA dB dC) : Fin64 dA := by obtain ⟨i1, i2, i3, x, y, z, -⟩ := h; exact x.fin
theorem own_T.finB {dA dB dC : UInt64} (h : own_T dA dB dC) : Fin64 dB := by obtain ⟨i1, i2, i3, x, y, z, -⟩ := h; exact y.fin
theorem own_T.finC {dA dB dC : UInt64} (h : own_T dA dB dC) : Fin64 dC := by obtain ⟨i1, i2, i3, x, y, z, -⟩ := h; exact z.fin
theorem own_T.nnA {dA dB dC : UInt64} (h : own_T dA dB dC) : NoNaN64 dA := h.finA.noNaN
theorem own_T.nnB {dA dB dC : UInt64} (h : own_T dA dB dC) : NoNaN64 dB := h.finB.noNaN
theorem own_T.nnC {dA dB dC : UInt64} (h : own_T dA dB dC) : NoNaN64 dC := h.finC.noNaN
theorem own_T.gtA0 {dA dB dC : UInt64} (h : own_T dA dB dC) : (cmpValue (FP.dcmp dA (0 : UInt64)) .l) = (1 : Int32) := by obtain ⟨i1, i2, i3, x, y, z, a, b, c, d⟩ := h; exact own_pos x a .l
theorem own_T.gtBA {dA dB dC : UInt64} (h : own_T dA dB dC) : (cmpValue (FP.dcmp dB dA) .l) = (1 : Int32) := by obtain ⟨i1, i2, i3, x, y, z, a, b, c, d⟩ := h; exact y.gt x b .l
theorem own_T.gtCB {dA dB dC : UInt64} (h : own_T dA dB dC) : (cmpValue (FP.dcmp dC dB) .l) = (1 : Int32) := by obtain ⟨i1, i2, i3, x, y, z, a, b, c, d⟩ := h; exact z.gt y c .l
theorem own_T.dyA {dA dB dC : UInt64} (h : own_T dA dB dC) : ∃ i : Int, own_Dy dA i 0 ∧ i.natAbs ≤ 4000 := by obtain ⟨i1, i2, i3, x, y, z, a, b, c, d⟩ := h; exact ⟨i1, x, by omega⟩
theorem own_T.dyB {dA dB dC : UInt64} (h : own_T dA dB dC) : ∃ i : Int, own_Dy dB i 0 ∧ i.natAbs ≤ 4000 := by obtain ⟨i1, i2, i3, x, y, z, a, b, c, d⟩ := h; exact ⟨i2, y, by omega⟩
theorem own_T.dyC {dA dB dC : UInt64} (h : own_T dA dB dC) : ∃ i : Int, own_Dy dC i 0 ∧ i.natAbs ≤ 4000 := by obtain ⟨i1, i2, i3, x, y, z, a, b, c, d⟩ := h; exact ⟨i3, z, by omega⟩
theorem own_nd {d : UInt64} (h : ∃ i : Int, own_Dy d i 0 ∧ i.natAbs ≤ 4000) (w : Int32) : NoNaN64 (FP.dadd d (FP.i2d w)) := by
  obtain ⟨i, x, b⟩ := h
  have r := rng32 w
  exact (x.add (own_dy_i2d w) (by omega)).nn
theorem own_00 : (cmpValue (FP.dcmp (0 : UInt64) (0 : UInt64)) .l) = (0 : Int32) := by decide +kernel
theorem own_nb (x : Int32) : ¬ ((cmpValue (FP.dcmp (FP.i2d (x &&& (255 : Int32))) (0 : UInt64)) .l) < (0 : Int32)) := by
  obtain ⟨n, h, hn⟩ := own_andN x 255 255 (by decide)
  have d := own_dy_i2d (x &&& (255 : Int32))
  rw [h] at d
  by_cases q : n = 0
  · rw [d.eq own_dy0 (by omega) .l]; decide
  · rw [d.gt own_dy0 (by omega) .l]; decide
theorem own_n3 (p : Int32) : (2 : Int32) + ((p &&& (2147483647 : Int32)) % (3 : Int32)) = 2 ∨ (2 : Int32) + ((p &&& (2147483647 : Int32)) % (3 : Int32)) = 3 ∨ (2 : Int32) + ((p &&& (2147483647 : Int32)) % (3 : Int32)) = 4 := by
  obtain ⟨n, h, hn⟩ := own_andN p 2147483647 2147483647 (by decide)
  have e3 : (3 : Int32).toInt = 3 := by decide
  have e2 : (2 : Int32).toInt = 2 := by decide
  have a : ((p &&& (2147483647 : Int32)) % (3 : Int32)).toInt = (n : Int) % 3 := by rw [own_irem (by omega) (by omega), h, e3]
  have s : ((2 : Int32) + ((p &&& (2147483647 : Int32)) % (3 : Int32))).toInt = 2 + (n : Int) % 3 := by rw [own_iadd (by omega), a, e2]
  have b : 2 + (n : Int) % 3 = 2 ∨ 2 + (n : Int) % 3 = 3 ∨ 2 + (n : Int) % 3 = 4 := by omega
  rcases b with q | q | q <;> rw [q] at s
  · exact Or.inl (Int32.toInt_inj.mp s)
  · exact Or.inr (Or.inl (Int32.toInt_inj.mp s))
  · exact Or.inr (Or.inr (Int32.toInt_inj.mp s))
end OwnPlain
theorem d3_0 : decode jdk_117_method_7_code 0 = .ok (.dload_n 0, 1) := by decide +kernel
theorem d3_1 : decode jdk_117_method_7_code 1 = .ok (.invokestatic 38, 3) := by decide +kernel
theorem d3_4 : decode jdk_117_method_7_code 4 = .ok (.ldc2_w 111, 3) := by decide +kernel
theorem d3_7 : decode jdk_117_method_7_code 7 = .ok (.dcmp .l, 1) := by decide +kernel
theorem d3_8 : decode jdk_117_method_7_code 8 = .ok (.ifCond .le 7, 3) := by decide +kernel
theorem d3_15 : decode jdk_117_method_7_code 15 = .ok (.iconst 0, 1) := by decide +kernel
theorem d3_16 : decode jdk_117_method_7_code 16 = .ok (.ireturn, 1) := by decide +kernel
theorem pn3 : plainName "java/lang/Double" = true := by first | (simp [plainName, overriddenIn]; done) | decide +kernel
theorem pd3_0 : parseMethodDescriptor "(D)D" = some ⟨[.double], some .double⟩ := by decide +kernel
theorem ef3 (m : MethodId) (d0 : UInt64) : entryFrame m #[(.double d0)] 2 = mkF m 0 #[.val (.double d0), .second] [] := by first | (simp [entryFrame, mkF, argsToLocals, Value.category]; done) | rfl
def Q3 (Z : State) (d0 : UInt64) (h0 : Heap) (n0 : Nat) (v : Option Value) (h : Heap) (L : List Loc) : Prop := v = some (.int (0 : Int32)) ∧ Fr n0 L ∧ h = h0
set_option maxRecDepth 65536 in
set_option maxHeartbeats 40000000 in
theorem rm3 (l : Launch) (Z : State) (ar : Array Value) (hw : ∀ d ∈ tables_1, d.before ar Z = true) (ws : List Jvm.Cond) (d0 : UInt64) (h0 : Heap) (n0 : Nat) (Z0 : n0 ≤ h0.size) (hn1 : Jvm.Free.Fl.NoNaN64 d0) (hb8 : ¬ ((0 : Int32) < (cmpValue (FP.dcmp (d0 &&& 0x7fffffffffffffff) (9218868437227405311 : UInt64)) .l))) :
    MetFree l (⟨"java/lang/Double", "isInfinite", "(D)Z"⟩ : MethodName) (head1 (Jvm.Cond.code (⟨"java/lang/Double", "isInfinite", "(D)Z"⟩ : MethodName) jdk_117_method_7_code 2 (some .boolean) :: ws) ({ frames := 1, cells := 0, slots := 0, locals := 13 } : Room)) (fun a U => a = #[(.double d0)] ∧ Z.Warmed39 U.vm ∧ U.heap = h0) (fun _ _ _ _ _ => True) (fun _ U o U' => ∃ v L, o = .returned v ∧ Q3 Z d0 h0 n0 v U'.heap L ∧ FrameEnd U o U' L ({ frames := 1, cells := 0, slots := 0, locals := 13 } : Room).cells ({ frames := 1, cells := 0, slots := 0, locals := 13 } : Room).slots) := by
  refine MetFree.of_bodySF (plainFor_of_name pn3) hisR ?_
  intro p e s m args below meth c s₁ Bd hml0 hP hK
  obtain ⟨rfl, hZ, hh⟩ := hP
  have hx := Bd.exec
  have hby := Bd.bytes
  have hlk := Bd.notSynchronized
  have hml : c.maxLocals = 2 := hml0
  have hown : s.vm.findClass "java/lang/Double" = some m.cls := findClass_of_methodNamed Bd.named
  have hnm := (name_of_methodNamed Bd.named Bd.method).1
  have X0 : Stand p l e ({ frames := 1, cells := 0, slots := 0, locals := 13 } : Room) s m #[(.double d0)] below meth c s₁ [] 0 0 := Stand.of_body Bd
  have e0 : s₁.heap = h0 := by rw [← hh, Bd.state]; rfl
  have N0 := Fr.nil n0
  have K0 := Keep.refl h0 []
  refine own_enter (Q := Q3 Z d0 h0 n0) (ef3 m d0) ?_
  refine own_st (T' := s₁) (g' := (mkF m 1 #[.val (.double d0), .second] [(.double d0)])) (fun t k => ?_) ?_
  · show Steps p.tables e below (s₁.setTop (mkF m 0 #[.val (.double d0), .second] [])) t
    refine XS.dloadN X0.here hx rfl (hb hby d3_0) rfl ?_
    exact k
  obtain ⟨T1, X1, e1, st1⟩ := natS X0 hx hZ (y := (⟨"java/lang/Math", "abs", "(D)D"⟩ : MethodName)) hown (hw _ (List.mem_of_getElem? (i := 15) rfl)) (hw _ (List.mem_of_getElem? (i := 16) rfl)) (hw _ (List.mem_of_getElem? (i := 17) rfl)) (hw _ (List.mem_of_getElem? (i := 18) rfl)) (by decide) e0 (W := 0) (fun q => Jvm.Free.Fl.Abs.absD_pays d0 q (by decide) (by decide)) (g := (mkF m 1 #[.val (.double d0), .second] [(.double d0)])) rfl (by rw [hml]; rfl) (argsL := [(.double d0)]) (rest := []) (lenOf pd3_0 rfl) rfl (by show 2 * 0 + _ ≤ _; exact Nat.le_of_eq rfl) (hb hby d3_1) (by decide) (by decide) ⟨rfl, hn1⟩ rfl
  refine own_st (T' := T1) (g' := (mkF m 4 #[.val (.double d0), .second] [(.double (d0 &&& 0x7fffffffffffffff))])) st1 ?_
  refine own_st (T' := T1) (g' := (mkF m 16 #[.val (.double d0), .second] [(.int (0 : Int32))])) (fun t k => ?_) ?_
  · show Steps p.tables e below (T1.setTop (mkF m 4 #[.val (.double d0), .second] [(.double (d0 &&& 0x7fffffffffffffff))])) t
    refine X1.ldc2DoubleC hx hown (mvT hZ (hw _ (List.mem_of_getElem? (i := 19) rfl))) (g := (mkF m 4 #[.val (.double d0), .second] [(.double (d0 &&& 0x7fffffffffffffff))])) rfl (hb hby d3_4) _ ?_
    refine XS.dcmpS X1.here hx rfl (hb hby d3_7) rfl rfl ?_
    refine XS.ifYes X1.here hx rfl (pc0 := 8) (pc' := 15) rfl (hb hby d3_8) rfl ((if0 _ _).trans (flt (hb8 : ¬ ((0 : Int32) < (cmpValue (FP.dcmp (d0 &&& 0x7fffffffffffffff) (9218868437227405311 : UInt64)) .l)))).2.2.2) (by decide) (by decide) ?_
    refine XS.iconst X1.here hx rfl (hb hby d3_15) ?_
    exact k
  refine own_retZ X1 hx hlk Bd.returns (hb hby d3_16) rfl (by decide) (by decide) ?_
  show Q3 Z d0 h0 n0 (some (.int (0 : Int32))) T1.heap _
  rw [(e1 : T1.heap = h0)]
  exact ⟨rfl, N0, rfl⟩
theorem d1_0 : decode prog_21_method_2_code 0 = .ok (.aload_n 0, 1) := by decide +kernel
theorem d1_1 : decode prog_21_method_2_code 1 = .ok (.invokespecial 11, 3) := by decide +kernel
theorem d1_4 : decode prog_21_method_2_code 4 = .ok (.aload_n 1, 1) := by decide +kernel
theorem d1_5 : decode prog_21_method_2_code 5 = .ok (.arraylength, 1) := by decide +kernel
theorem d1_6 : decode prog_21_method_2_code 6 = .ok (.iconst 2, 1) := by decide +kernel
theorem d1_7 : decode prog_21_method_2_code 7 = .ok (.if_icmp .ge 13, 3) := by decide +kernel
theorem d1_20 : decode prog_21_method_2_code 20 = .ok (.aload_n 2, 1) := by decide +kernel
theorem d1_21 : decode prog_21_method_2_code 21 = .ok (.arraylength, 1) := by decide +kernel
theorem d1_22 : decode prog_21_method_2_code 22 = .ok (.aload_n 1, 1) := by decide +kernel
theorem d1_23 : decode prog_21_method_2_code 23 = .ok (.arraylength, 1) := by decide +kernel
theorem d1_24 : decode prog_21_method_2_code 24 = .ok (.if_icmp .eq 20, 3) := by decide +kernel
theorem d1_44 : decode prog_21_method_2_code 44 = .ok (.aload_n 1, 1) := by decide +kernel
theorem d1_45 : decode prog_21_method_2_code 45 = .ok (.iconst 0, 1) := by decide +kernel
theorem d1_46 : decode prog_21_method_2_code 46 = .ok (.daload, 1) := by decide +kernel
theorem d1_47 : decode prog_21_method_2_code 47 = .ok (.dconst 0, 1) := by decide +kernel
theorem d1_48 : decode prog_21_method_2_code 48 = .ok (.dcmp .l, 1) := by decide +kernel
theorem d1_49 : decode prog_21_method_2_code 49 = .ok (.ifCond .ne 15, 3) := by decide +kernel
theorem d1_52 : decode prog_21_method_2_code 52 = .ok (.aload_n 1, 1) := by decide +kernel
theorem d1_53 : decode prog_21_method_2_code 53 = .ok (.aload_n 1, 1) := by decide +kernel
theorem d1_54 : decode prog_21_method_2_code 54 = .ok (.arraylength, 1) := by decide +kernel
theorem d1_55 : decode prog_21_method_2_code 55 = .ok (.iconst 1, 1) := by decide +kernel
theorem d1_56 : decode prog_21_method_2_code 56 = .ok (.isub, 1) := by decide +kernel
theorem d1_57 : decode prog_21_method_2_code 57 = .ok (.daload, 1) := by decide +kernel
theorem d1_58 : decode prog_21_method_2_code 58 = .ok (.invokestatic 27, 3) := by decide +kernel
theorem d1_61 : decode prog_21_method_2_code 61 = .ok (.ifCond .eq 13, 3) := by decide +kernel
theorem d1_74 : decode prog_21_method_2_code 74 = .ok (.iconst 1, 1) := by decide +kernel
theorem d1_75 : decode prog_21_method_2_code 75 = .ok (.istore_n 3, 1) := by decide +kernel
theorem d1_76 : decode prog_21_method_2_code 76 = .ok (.iload_n 3, 1) := by decide +kernel
theorem d1_77 : decode prog_21_method_2_code 77 = .ok (.aload_n 1, 1) := by decide +kernel
theorem d1_78 : decode prog_21_method_2_code 78 = .ok (.arraylength, 1) := by decide +kernel
theorem d1_79 : decode prog_21_method_2_code 79 = .ok (.if_icmp .ge 37, 3) := by decide +kernel
theorem d1_82 : decode prog_21_method_2_code 82 = .ok (.aload_n 1, 1) := by decide +kernel
theorem d1_83 : decode prog_21_method_2_code 83 = .ok (.iload_n 3, 1) := by decide +kernel
theorem d1_84 : decode prog_21_method_2_code 84 = .ok (.daload, 1) := by decide +kernel
theorem d1_85 : decode prog_21_method_2_code 85 = .ok (.aload_n 1, 1) := by decide +kernel
theorem d1_86 : decode prog_21_method_2_code 86 = .ok (.iload_n 3, 1) := by decide +kernel
theorem d1_87 : decode prog_21_method_2_code 87 = .ok (.iconst 1, 1) := by decide +kernel
theorem d1_88 : decode prog_21_method_2_code 88 = .ok (.isub, 1) := by decide +kernel
theorem d1_89 : decode prog_21_method_2_code 89 = .ok (.daload, 1) := by decide +kernel
theorem d1_90 : decode prog_21_method_2_code 90 = .ok (.dcmp .l, 1) := by decide +kernel
theorem d1_91 : decode prog_21_method_2_code 91 = .ok (.ifCond .gt 19, 3) := by decide +kernel
theorem d1_110 : decode prog_21_method_2_code 110 = .ok (.iinc 3 1, 3) := by decide +kernel
theorem d1_113 : decode prog_21_method_2_code 113 = .ok (.goto (-37), 3) := by decide +kernel
theorem d1_116 : decode prog_21_method_2_code 116 = .ok (.aload_n 2, 1) := by decide +kernel
theorem d1_117 : decode prog_21_method_2_code 117 = .ok (.astore_n 3, 1) := by decide +kernel
theorem d1_118 : decode prog_21_method_2_code 118 = .ok (.aload_n 3, 1) := by decide +kernel
theorem d1_119 : decode prog_21_method_2_code 119 = .ok (.arraylength, 1) := by decide +kernel
theorem d1_120 : decode prog_21_method_2_code 120 = .ok (.istore 4, 2) := by decide +kernel
theorem d1_122 : decode prog_21_method_2_code 122 = .ok (.iconst 0, 1) := by decide +kernel
theorem d1_123 : decode prog_21_method_2_code 123 = .ok (.istore 5, 2) := by decide +kernel
theorem d1_125 : decode prog_21_method_2_code 125 = .ok (.iload 5, 2) := by decide +kernel
theorem d1_127 : decode prog_21_method_2_code 127 = .ok (.iload 4, 2) := by decide +kernel
theorem d1_129 : decode prog_21_method_2_code 129 = .ok (.if_icmp .ge 45, 3) := by decide +kernel
theorem d1_132 : decode prog_21_method_2_code 132 = .ok (.aload_n 3, 1) := by decide +kernel
theorem d1_133 : decode prog_21_method_2_code 133 = .ok (.iload 5, 2) := by decide +kernel
theorem d1_135 : decode prog_21_method_2_code 135 = .ok (.daload, 1) := by decide +kernel
theorem d1_136 : decode prog_21_method_2_code 136 = .ok (.dstore 6, 2) := by decide +kernel
theorem d1_138 : decode prog_21_method_2_code 138 = .ok (.dload 6, 2) := by decide +kernel
theorem d1_140 : decode prog_21_method_2_code 140 = .ok (.dconst 0, 1) := by decide +kernel
theorem d1_141 : decode prog_21_method_2_code 141 = .ok (.dcmp .l, 1) := by decide +kernel
theorem d1_142 : decode prog_21_method_2_code 142 = .ok (.ifCond .lt 11, 3) := by decide +kernel
theorem d1_145 : decode prog_21_method_2_code 145 = .ok (.dload 6, 2) := by decide +kernel
theorem d1_147 : decode prog_21_method_2_code 147 = .ok (.invokestatic 27, 3) := by decide +kernel
theorem d1_150 : decode prog_21_method_2_code 150 = .ok (.ifCond .eq 18, 3) := by decide +kernel
theorem d1_168 : decode prog_21_method_2_code 168 = .ok (.iinc 5 1, 3) := by decide +kernel
theorem d1_171 : decode prog_21_method_2_code 171 = .ok (.goto (-46), 3) := by decide +kernel
theorem d1_174 : decode prog_21_method_2_code 174 = .ok (.aload_n 0, 1) := by decide +kernel
theorem d1_175 : decode prog_21_method_2_code 175 = .ok (.aload_n 1, 1) := by decide +kernel
theorem d1_176 : decode prog_21_method_2_code 176 = .ok (.invokevirtual 39, 3) := by decide +kernel
theorem d1_179 : decode prog_21_method_2_code 179 = .ok (.checkcast 40, 3) := by decide +kernel
theorem d1_182 : decode prog_21_method_2_code 182 = .ok (.putfield 45, 3) := by decide +kernel
theorem d1_185 : decode prog_21_method_2_code 185 = .ok (.aload_n 0, 1) := by decide +kernel
theorem d1_186 : decode prog_21_method_2_code 186 = .ok (.aload_n 2, 1) := by decide +kernel
theorem d1_187 : decode prog_21_method_2_code 187 = .ok (.invokevirtual 39, 3) := by decide +kernel
theorem d1_190 : decode prog_21_method_2_code 190 = .ok (.checkcast 40, 3) := by decide +kernel
theorem d1_193 : decode prog_21_method_2_code 193 = .ok (.putfield 48, 3) := by decide +kernel
theorem d1_196 : decode prog_21_method_2_code 196 = .ok (.return_, 1) := by decide +kernel
theorem pni2 : plainName "com/example/corewright/corewright/equilibrium/Strategy" = true := by first | (simp [plainName, overriddenIn]; done) | decide +kernel
theorem pdi2_0 : parseMethodDescriptor "(D)Z" = some ⟨[.double], some .boolean⟩ := by decide +kernel
theorem efi2 (m : MethodId) (a0 : Addr) (a1 : Addr) (a2 : Addr) : entryFrame m #[(.ref a0), (.ref a1), (.ref a2)] 8 = mkF m 0 #[.val (.ref a0), .val (.ref a1), .val (.ref a2), .unset, .unset, .unset, .unset, .unset] [] := by first | (simp [entryFrame, mkF, argsToLocals, Value.category]; done) | rfl
def Qi2 (Z : State) (a0 : Addr) (a1 : Addr) (a2 : Addr) (u_values_a0 : Value) (u_bids_a0 : Value) (kk_a1 : ClassId) (ev0 : UInt64) (ev1 : UInt64) (kk_a2 : ClassId) (eb0 : UInt64) (eb1 : UInt64) (h0 : Heap) (n0 : Nat) (v : Option Value) (h : Heap) (L : List Loc) : Prop := ∃ (x0 : Addr) (x1 : Addr), v = none ∧ Fr n0 L ∧ Keep h0 h [a0] ∧ h0.size ≤ x0 ∧ h0.size ≤ x1 ∧ x0 ≠ x1 ∧ Exa Z h a0 "com/example/corewright/corewright/equilibrium/Strategy" ∧ Fld Z h a0 "com/example/corewright/corewright/equilibrium/Strategy" "values" "[D" (.ref x0) ∧ Fld Z h a0 "com/example/corewright/corewright/equilibrium/Strategy" "bids" "[D" (.ref x1) ∧ Arv Z h x0 kk_a1 .double (2 : Int32) [(.double ev0), (.double ev1)] (.double (0 : UInt64)) ∧ Exa Z h x0 "[D" ∧ Arv Z h x1 kk_a2 .double (2 : Int32) [(.double eb0), (.double eb1)] (.double (0 : UInt64)) ∧ Exa Z h x1 "[D"
set_option maxRecDepth 65536 in
set_option maxHeartbeats 40000000 in
theorem rmi2 (l : Launch) (Z : State) (ar : Array Value) (hw : ∀ d ∈ tables_1, d.before ar Z = true) (ws : List Jvm.Cond) (a0 : Addr) (a1 : Addr) (a2 : Addr) (u_values_a0 : Value) (u_bids_a0 : Value) (kk_a1 : ClassId) (ev0 : UInt64) (ev1 : UInt64) (kk_a2 : ClassId) (eb0 : UInt64) (eb1 : UInt64) (h0 : Heap) (n0 : Nat) (Z0 : n0 ≤ h0.size) (E_a0 : Exa Z h0 a0 "com/example/corewright/corewright/equilibrium/Strategy") (F_values_a0 : Fld Z h0 a0 "com/example/corewright/corewright/equilibrium/Strategy" "values" "[D" u_values_a0) (F_bids_a0 : Fld Z h0 a0 "com/example/corewright/corewright/equilibrium/Strategy" "bids" "[D" u_bids_a0) (E_a1 : Exa Z h0 a1 "[D") (V_a1 : Arv Z h0 a1 kk_a1 .double (2 : Int32) [(.double ev0), (.double ev1)] (.double (0 : UInt64))) (E_a2 : Exa Z h0 a2 "[D") (V_a2 : Arv Z h0 a2 kk_a2 .double (2 : Int32) [(.double eb0), (.double eb1)] (.double (0 : UInt64))) (hq_7 : (cmpValue (FP.dcmp ev0 (0 : UInt64)) .l) = (0 : Int32)) (h58_hn1 : Jvm.Free.Fl.NoNaN64 ev1) (h58_hb8 : ¬ ((0 : Int32) < (cmpValue (FP.dcmp (ev1 &&& 0x7fffffffffffffff) (9218868437227405311 : UInt64)) .l))) (hq_10 : (cmpValue (FP.dcmp ev1 ev0) .l) = (1 : Int32)) (hb142 : ¬ ((cmpValue (FP.dcmp eb0 (0 : UInt64)) .l) < (0 : Int32))) (h147_hn1 : Jvm.Free.Fl.NoNaN64 eb0) (h147_hb8 : ¬ ((0 : Int32) < (cmpValue (FP.dcmp (eb0 &&& 0x7fffffffffffffff) (9218868437227405311 : UInt64)) .l))) (hb142_1 : ¬ ((cmpValue (FP.dcmp eb1 (0 : UInt64)) .l) < (0 : Int32))) (h147_hn1_1 : Jvm.Free.Fl.NoNaN64 eb1) (h147_hb8_1 : ¬ ((0 : Int32) < (cmpValue (FP.dcmp (eb1 &&& 0x7fffffffffffffff) (9218868437227405311 : UInt64)) .l))) (ne_a1_a0 : a1 ≠ a0) (ne_a2_a0 : a2 ≠ a0) (g_a0 : n0 ≤ a0) :
    MetFree l (⟨"com/example/corewright/corewright/equilibrium/Strategy", "<init>", "([D[D)V"⟩ : MethodName) (head1 (Jvm.Cond.code (⟨"com/example/corewright/corewright/equilibrium/Strategy", "<init>", "([D[D)V"⟩ : MethodName) prog_21_method_2_code 8 none :: ws) ({ frames := 2, cells := 2, slots := 4, locals := 26 } : Room)) (fun a U => a = #[(.ref a0), (.ref a1), (.ref a2)] ∧ Z.Warmed39 U.vm ∧ U.heap = h0) (fun _ _ _ _ _ => True) (fun _ U o U' => ∃ v L, o = .returned v ∧ Qi2 Z a0 a1 a2 u_values_a0 u_bids_a0 kk_a1 ev0 ev1 kk_a2 eb0 eb1 h0 n0 v U'.heap L ∧ FrameEnd U o U' L ({ frames := 2, cells := 2, slots := 4, locals := 26 } : Room).cells ({ frames := 2, cells := 2, slots := 4, locals := 26 } : Room).slots) := by
  refine MetFree.of_bodySF (plainFor_of_name pni2) hisR ?_
  intro p e s m args below meth c s₁ Bd hml0 hP hK
  obtain ⟨rfl, hZ, hh⟩ := hP
  have hx := Bd.exec
  have hby := Bd.bytes
  have hlk := Bd.notSynchronized
  have hml : c.maxLocals = 8 := hml0
  have hown : s.vm.findClass "com/example/corewright/corewright/equilibrium/Strategy" = some m.cls := findClass_of_methodNamed Bd.named
  have hnm := (name_of_methodNamed Bd.named Bd.method).1
  have X0 : Stand p l e ({ frames := 2, cells := 2, slots := 4, locals := 26 } : Room) s m #[(.ref a0), (.ref a1), (.ref a2)] below meth c s₁ [] 0 0 := Stand.of_body Bd
  have e0 : s₁.heap = h0 := by rw [← hh, Bd.state]; rfl
  have N0 := Fr.nil n0
  have K0 := Keep.refl h0 [a0]
  refine own_enter (Q := Qi2 Z a0 a1 a2 u_values_a0 u_bids_a0 kk_a1 ev0 ev1 kk_a2 eb0 eb1 h0 n0) (efi2 m a0 a1 a2) ?_
  refine own_st (T' := s₁) (g' := (mkF m 1 #[.val (.ref a0), .val (.ref a1), .val (.ref a2), .unset, .unset, .unset, .unset, .unset] [(.ref a0)])) (fun t k => ?_) ?_
  · show Steps p.tables e below (s₁.setTop (mkF m 0 #[.val (.ref a0), .val (.ref a1), .val (.ref a2), .unset, .unset, .unset, .unset, .unset] [])) t
    refine XS.aloadN X0.here hx rfl (hb hby d1_0) rfl rfl ?_
    exact k
  obtain ⟨T1, X1, e1, st1⟩ := initO X0 hx hZ hown (hw _ (List.mem_of_getElem? (i := 8) rfl)) (hw _ (List.mem_of_getElem? (i := 9) rfl)) (hw _ (List.mem_of_getElem? (i := 10) rfl)) e0 (g := (mkF m 1 #[.val (.ref a0), .val (.ref a1), .val (.ref a2), .unset, .unset, .unset, .unset, .unset] [(.ref a0)])) rfl (by rw [hml]; rfl) rfl (hb hby d1_1) (by decide) (W := 0) (by show 2 * 0 + _ ≤ _; exact Nat.le_of_eq rfl) (by decide)
  refine own_st (T' := T1) (g' := (mkF m 4 #[.val (.ref a0), .val (.ref a1), .val (.ref a2), .unset, .unset, .unset, .unset, .unset] [])) st1 ?_
  refine own_st (T' := T1) (g' := (mkF m 5 #[.val (.ref a0), .val (.ref a1), .val (.ref a2), .unset, .unset, .unset, .unset, .unset] [(.ref a1)])) (fun t k => ?_) ?_
  · show Steps p.tables e below (T1.setTop (mkF m 4 #[.val (.ref a0), .val (.ref a1), .val (.ref a2), .unset, .unset, .unset, .unset, .unset] [])) t
    refine XS.aloadN X1.here hx rfl (hb hby d1_4) rfl rfl ?_
    exact k
  obtain ⟨c2, r2a, -, r2c, r2d, -, -⟩ := id V_a1
  refine own_st (T' := T1) (g' := (mkF m 21 #[.val (.ref a0), .val (.ref a1), .val (.ref a2), .unset, .unset, .unset, .unset, .unset] [(.ref a2)])) (fun t k => ?_) ?_
  · show Steps p.tables e below (T1.setTop (mkF m 5 #[.val (.ref a0), .val (.ref a1), .val (.ref a2), .unset, .unset, .unset, .unset, .unset] [(.ref a1)])) t
    refine X1.arraylength hx (by rw [e1]; exact r2a.1) (State.isArrayOf_alike hZ.alike r2a.2.1) (g := (mkF m 5 #[.val (.ref a0), .val (.ref a1), .val (.ref a2), .unset, .unset, .unset, .unset, .unset] [(.ref a1)])) rfl rfl (hb hby d1_5) _ ?_
    rw [len_of r2c r2d]
    refine XS.iconst X1.here hx rfl (hb hby d1_6) ?_
    refine XS.icmpYes X1.here hx rfl (pc0 := 7) (pc' := 20) rfl (hb hby d1_7) rfl (by decide) (by decide) (by decide) ?_
    refine XS.aloadN X1.here hx rfl (hb hby d1_20) rfl rfl ?_
    exact k
  obtain ⟨c3, r3a, -, r3c, r3d, -, -⟩ := id V_a2
  refine own_st (T' := T1) (g' := (mkF m 23 #[.val (.ref a0), .val (.ref a1), .val (.ref a2), .unset, .unset, .unset, .unset, .unset] [(.ref a1), (.int (2 : Int32))])) (fun t k => ?_) ?_
  · show Steps p.tables e below (T1.setTop (mkF m 21 #[.val (.ref a0), .val (.ref a1), .val (.ref a2), .unset, .unset, .unset, .unset, .unset] [(.ref a2)])) t
    refine X1.arraylength hx (by rw [e1]; exact r3a.1) (State.isArrayOf_alike hZ.alike r3a.2.1) (g := (mkF m 21 #[.val (.ref a0), .val (.ref a1), .val (.ref a2), .unset, .unset, .unset, .unset, .unset] [(.ref a2)])) rfl rfl (hb hby d1_21) _ ?_
    rw [len_of r3c r3d]
    refine XS.aloadN X1.here hx rfl (hb hby d1_22) rfl rfl ?_
    exact k
  obtain ⟨c4, r4a, -, r4c, r4d, -, -⟩ := id V_a1
  refine own_st (T' := T1) (g' := (mkF m 46 #[.val (.ref a0), .val (.ref a1), .val (.ref a2), .unset, .unset, .unset, .unset, .unset] [(.int (0 : Int32)), (.ref a1)])) (fun t k => ?_) ?_
  · show Steps p.tables e below (T1.setTop (mkF m 23 #[.val (.ref a0), .val (.ref a1), .val (.ref a2), .unset, .unset, .unset, .unset, .unset] [(.ref a1), (.int (2 : Int32))])) t
    refine X1.arraylength hx (by rw [e1]; exact r4a.1) (State.isArrayOf_alike hZ.alike r4a.2.1) (g := (mkF m 23 #[.val (.ref a0), .val (.ref a1), .val (.ref a2), .unset, .unset, .unset, .unset, .unset] [(.ref a1), (.int (2 : Int32))])) rfl rfl (hb hby d1_23) _ ?_
    rw [len_of r4c r4d]
    refine XS.icmpYes X1.here hx rfl (pc0 := 24) (pc' := 44) rfl (hb hby d1_24) rfl (by decide) (by decide) (by decide) ?_
    refine XS.aloadN X1.here hx rfl (hb hby d1_44) rfl rfl ?_
    refine XS.iconst X1.here hx rfl (hb hby d1_45) ?_
    exact k
  obtain ⟨c5, r5a, r5b, r5c, r5d, r5e, r5f⟩ := id V_a1
  have i5 : ¬ ((0 : Int32) < 0 ∨ c5.slots.size ≤ ((0 : Int32)).toNatClampNeg) := inb_of r5c ⟨by decide, by decide⟩
  have y5 : c5.slots[((0 : Int32)).toNatClampNeg]? = some (.double ev0) := r5e.at i5 rfl
  refine own_st (T' := T1) (g' := (mkF m 54 #[.val (.ref a0), .val (.ref a1), .val (.ref a2), .unset, .unset, .unset, .unset, .unset] [(.ref a1), (.ref a1)])) (fun t k => ?_) ?_
  · show Steps p.tables e below (T1.setTop (mkF m 46 #[.val (.ref a0), .val (.ref a1), .val (.ref a2), .unset, .unset, .unset, .unset, .unset] [(.int (0 : Int32)), (.ref a1)])) t
    refine X1.daload hx (j := (0 : Int32)) (v := (.double ev0)) (by rw [e1]; exact r5a.1) (State.isArrayOf_alike hZ.alike r5a.2.1) r5a.2.2 i5 y5 (g := (mkF m 46 #[.val (.ref a0), .val (.ref a1), .val (.ref a2), .unset, .unset, .unset, .unset, .unset] [(.int (0 : Int32)), (.ref a1)])) rfl rfl (hb hby d1_46) _ ?_
    refine XS.dconst0 X1.here hx rfl (hb hby d1_47) rfl ?_
    refine XS.dcmpS X1.here hx rfl (hb hby d1_48) rfl hq_7 ?_
    refine XS.ifNo X1.here hx rfl (hb hby d1_49) rfl (by decide) ?_
    refine XS.aloadN X1.here hx rfl (hb hby d1_52) rfl rfl ?_
    refine XS.aloadN X1.here hx rfl (hb hby d1_53) rfl rfl ?_
    exact k
  obtain ⟨c6, r6a, -, r6c, r6d, -, -⟩ := id V_a1
  refine own_st (T' := T1) (g' := (mkF m 57 #[.val (.ref a0), .val (.ref a1), .val (.ref a2), .unset, .unset, .unset, .unset, .unset] [(.int (1 : Int32)), (.ref a1)])) (fun t k => ?_) ?_
  · show Steps p.tables e below (T1.setTop (mkF m 54 #[.val (.ref a0), .val (.ref a1), .val (.ref a2), .unset, .unset, .unset, .unset, .unset] [(.ref a1), (.ref a1)])) t
    refine X1.arraylength hx (by rw [e1]; exact r6a.1) (State.isArrayOf_alike hZ.alike r6a.2.1) (g := (mkF m 54 #[.val (.ref a0), .val (.ref a1), .val (.ref a2), .unset, .unset, .unset, .unset, .unset] [(.ref a1), (.ref a1)])) rfl rfl (hb hby d1_54) _ ?_
    rw [len_of r6c r6d]
    refine XS.iconst X1.here hx rfl (hb hby d1_55) ?_
    refine XS.isub X1.here hx rfl (hb hby d1_56) rfl ?_
    exact k
  obtain ⟨c7, r7a, r7b, r7c, r7d, r7e, r7f⟩ := id V_a1
  have i7 : ¬ ((1 : Int32) < 0 ∨ c7.slots.size ≤ ((1 : Int32)).toNatClampNeg) := inb_of r7c ⟨by decide, by decide⟩
  have y7 : c7.slots[((1 : Int32)).toNatClampNeg]? = some (.double ev1) := r7e.at i7 rfl
  refine own_st (T' := T1) (g' := (mkF m 58 #[.val (.ref a0), .val (.ref a1), .val (.ref a2), .unset, .unset, .unset, .unset, .unset] [(.double ev1)])) (fun t k => ?_) ?_
  · show Steps p.tables e below (T1.setTop (mkF m 57 #[.val (.ref a0), .val (.ref a1), .val (.ref a2), .unset, .unset, .unset, .unset, .unset] [(.int (1 : Int32)), (.ref a1)])) t
    refine X1.daload hx (j := (1 : Int32)) (v := (.double ev1)) (by rw [e1]; exact r7a.1) (State.isArrayOf_alike hZ.alike r7a.2.1) r7a.2.2 i7 y7 (g := (mkF m 57 #[.val (.ref a0), .val (.ref a1), .val (.ref a2), .unset, .unset, .unset, .unset, .unset] [(.int (1 : Int32)), (.ref a1)])) rfl rfl (hb hby d1_57) _ ?_
    exact k
  obtain ⟨_, _, ⟨T8, L8, k8, n8⟩, -, X8, ⟨Lc8, hQ8, l8, y8, z8⟩, st8⟩ := Jvm.LawKit.callS X1 hx (y := (⟨"java/lang/Double", "isInfinite", "(D)Z"⟩ : MethodName)) hown (mvT hZ (hw _ (List.mem_of_getElem? (i := 11) rfl))) (mvT hZ (hw _ (List.mem_of_getElem? (i := 12) rfl))) (mvT hZ (hw _ (List.mem_of_getElem? (i := 13) rfl))) (mvT hZ (hw _ (List.mem_of_getElem? (i := 14) rfl))) (by decide) (backOf (W := 0) (rm3 l Z ar hw [] ev1 h0 n0 Z0 h58_hn1 h58_hb8) hZ (hw _ (List.mem_of_getElem? (i := 14) rfl)) (hw _ (List.mem_of_getElem? (i := 13) rfl)) (by decide) (by decide)) (g := (mkF m 58 #[.val (.ref a0), .val (.ref a1), .val (.ref a2), .unset, .unset, .unset, .unset, .unset] [(.double ev1)])) rfl (by rw [hml]; rfl) (argsL := [(.double ev1)]) (rest := []) (lenOf pdi2_0 rfl) rfl (by show 2 * 0 + _ ≤ _; exact Nat.le_of_eq rfl) (hb hby d1_58) (fun _ _ => ⟨rfl, e1, (by decide : 0 + 0 ≤ _), (by decide : 0 + 0 ≤ _)⟩)
  dsimp only [Pt.U, Pt.locs, Pt.cells, Pt.slots] at X8 l8 y8 z8 st8 hQ8
  subst l8 y8 z8
  obtain ⟨rfl, N8q, e8⟩ := hQ8
  have n9 := Fr.app N0 N8q
  refine own_st (T' := T8) (g' := (mkF m 61 #[.val (.ref a0), .val (.ref a1), .val (.ref a2), .unset, .unset, .unset, .unset, .unset] [(.int (0 : Int32))])) st8 ?_
  refine own_st (T' := T8) (g' := (mkF m 78 #[.val (.ref a0), .val (.ref a1), .val (.ref a2), .val (.int (1 : Int32)), .unset, .unset, .unset, .unset] [(.ref a1), (.int (1 : Int32))])) (fun t k => ?_) ?_
  · show Steps p.tables e below (T8.setTop (mkF m 61 #[.val (.ref a0), .val (.ref a1), .val (.ref a2), .unset, .unset, .unset, .unset, .unset] [(.int (0 : Int32))])) t
    refine XS.ifYes X8.here hx rfl (pc0 := 61) (pc' := 74) rfl (hb hby d1_61) rfl (by decide) (by decide) (by decide) ?_
    refine XS.iconst X8.here hx rfl (hb hby d1_74) ?_
    refine XS.istoreN X8.here hx rfl (hb hby d1_75) rfl (l' := #[.val (.ref a0), .val (.ref a1), .val (.ref a2), .val (.int (1 : Int32)), .unset, .unset, .unset, .unset]) rfl ?_
    refine XS.iloadN X8.here hx rfl (hb hby d1_76) rfl ?_
    refine XS.aloadN X8.here hx rfl (hb hby d1_77) rfl rfl ?_
    exact k
  obtain ⟨c10, r10a, -, r10c, r10d, -, -⟩ := id V_a1
  refine own_st (T' := T8) (g' := (mkF m 84 #[.val (.ref a0), .val (.ref a1), .val (.ref a2), .val (.int (1 : Int32)), .unset, .unset, .unset, .unset] [(.int (1 : Int32)), (.ref a1)])) (fun t k => ?_) ?_
  · show Steps p.tables e below (T8.setTop (mkF m 78 #[.val (.ref a0), .val (.ref a1), .val (.ref a2), .val (.int (1 : Int32)), .unset, .unset, .unset, .unset] [(.ref a1), (.int (1 : Int32))])) t
    refine X8.arraylength hx (by rw [e8]; exact r10a.1) (State.isArrayOf_alike hZ.alike r10a.2.1) (g := (mkF m 78 #[.val (.ref a0), .val (.ref a1), .val (.ref a2), .val (.int (1 : Int32)), .unset, .unset, .unset, .unset] [(.ref a1), (.int (1 : Int32))])) rfl rfl (hb hby d1_78) _ ?_
    rw [len_of r10c r10d]
    refine XS.icmpNo X8.here hx rfl (hb hby d1_79) rfl (by decide) ?_
    refine XS.aloadN X8.here hx rfl (hb hby d1_82) rfl rfl ?_
    refine XS.iloadN X8.here hx rfl (hb hby d1_83) rfl ?_
    exact k
  obtain ⟨c11, r11a, r11b, r11c, r11d, r11e, r11f⟩ := id V_a1
  have i11 : ¬ ((1 : Int32) < 0 ∨ c11.slots.size ≤ ((1 : Int32)).toNatClampNeg) := inb_of r11c ⟨by decide, by decide⟩
  have y11 : c11.slots[((1 : Int32)).toNatClampNeg]? = some (.double ev1) := r11e.at i11 rfl
  refine own_st (T' := T8) (g' := (mkF m 89 #[.val (.ref a0), .val (.ref a1), .val (.ref a2), .val (.int (1 : Int32)), .unset, .unset, .unset, .unset] [(.int (0 : Int32)), (.ref a1), (.double ev1)])) (fun t k => ?_) ?_
  · show Steps p.tables e below (T8.setTop (mkF m 84 #[.val (.ref a0), .val (.ref a1), .val (.ref a2), .val (.int (1 : Int32)), .unset, .unset, .unset, .unset] [(.int (1 : Int32)), (.ref a1)])) t
    refine X8.daload hx (j := (1 : Int32)) (v := (.double ev1)) (by rw [e8]; exact r11a.1) (State.isArrayOf_alike hZ.alike r11a.2.1) r11a.2.2 i11 y11 (g := (mkF m 84 #[.val (.ref a0), .val (.ref a1), .val (.ref a2), .val (.int (1 : Int32)), .unset, .unset, .unset, .unset] [(.int (1 : Int32)), (.ref a1)])) rfl rfl (hb hby d1_84) _ ?_
    refine XS.aloadN X8.here hx rfl (hb hby d1_85) rfl rfl ?_
    refine XS.iloadN X8.here hx rfl (hb hby d1_86) rfl ?_
    refine XS.iconst X8.here hx rfl (hb hby d1_87) ?_
    refine XS.isub X8.here hx rfl (hb hby d1_88) rfl ?_
    exact k
  obtain ⟨c12, r12a, r12b, r12c, r12d, r12e, r12f⟩ := id V_a1
  have i12 : ¬ ((0 : Int32) < 0 ∨ c12.slots.size ≤ ((0 : Int32)).toNatClampNeg) := inb_of r12c ⟨by decide, by decide⟩
  have y12 : c12.slots[((0 : Int32)).toNatClampNeg]? = some (.double ev0) := r12e.at i12 rfl
  refine own_st (T' := T8) (g' := (mkF m 78 #[.val (.ref a0), .val (.ref a1), .val (.ref a2), .val (.int (2 : Int32)), .unset, .unset, .unset, .unset] [(.ref a1), (.int (2 : Int32))])) (fun t k => ?_) ?_
  · show Steps p.tables e below (T8.setTop (mkF m 89 #[.val (.ref a0), .val (.ref a1), .val (.ref a2), .val (.int (1 : Int32)), .unset, .unset, .unset, .unset] [(.int (0 : Int32)), (.ref a1), (.double ev1)])) t
    refine X8.daload hx (j := (0 : Int32)) (v := (.double ev0)) (by rw [e8]; exact r12a.1) (State.isArrayOf_alike hZ.alike r12a.2.1) r12a.2.2 i12 y12 (g := (mkF m 89 #[.val (.ref a0), .val (.ref a1), .val (.ref a2), .val (.int (1 : Int32)), .unset, .unset, .unset, .unset] [(.int (0 : Int32)), (.ref a1), (.double ev1)])) rfl rfl (hb hby d1_89) _ ?_
    refine XS.dcmpS X8.here hx rfl (hb hby d1_90) rfl hq_10 ?_
    refine XS.ifYes X8.here hx rfl (pc0 := 91) (pc' := 110) rfl (hb hby d1_91) rfl (by decide) (by decide) (by decide) ?_
    refine XS.iinc X8.here hx rfl (hb hby d1_110) rfl (l' := #[.val (.ref a0), .val (.ref a1), .val (.ref a2), .val (.int (2 : Int32)), .unset, .unset, .unset, .unset]) rfl ?_
    refine XS.goto X8.here hx rfl (pc0 := 113) (pc' := 76) rfl (hb hby d1_113) (by decide) (by decide) ?_
    refine XS.iloadN X8.here hx rfl (hb hby d1_76) rfl ?_
    refine XS.aloadN X8.here hx rfl (hb hby d1_77) rfl rfl ?_
    exact k
  obtain ⟨c13, r13a, -, r13c, r13d, -, -⟩ := id V_a1
  refine own_st (T' := T8) (g' := (mkF m 119 #[.val (.ref a0), .val (.ref a1), .val (.ref a2), .val (.ref a2), .unset, .unset, .unset, .unset] [(.ref a2)])) (fun t k => ?_) ?_
  · show Steps p.tables e below (T8.setTop (mkF m 78 #[.val (.ref a0), .val (.ref a1), .val (.ref a2), .val (.int (2 : Int32)), .unset, .unset, .unset, .unset] [(.ref a1), (.int (2 : Int32))])) t
    refine X8.arraylength hx (by rw [e8]; exact r13a.1) (State.isArrayOf_alike hZ.alike r13a.2.1) (g := (mkF m 78 #[.val (.ref a0), .val (.ref a1), .val (.ref a2), .val (.int (2 : Int32)), .unset, .unset, .unset, .unset] [(.ref a1), (.int (2 : Int32))])) rfl rfl (hb hby d1_78) _ ?_
    rw [len_of r13c r13d]
    refine XS.icmpYes X8.here hx rfl (pc0 := 79) (pc' := 116) rfl (hb hby d1_79) rfl (by decide) (by decide) (by decide) ?_
    refine XS.aloadN X8.here hx rfl (hb hby d1_116) rfl rfl ?_
    refine XS.astoreN X8.here hx rfl (hb hby d1_117) rfl rfl (l' := #[.val (.ref a0), .val (.ref a1), .val (.ref a2), .val (.ref a2), .unset, .unset, .unset, .unset]) rfl ?_
    refine XS.aloadN X8.here hx rfl (hb hby d1_118) rfl rfl ?_
    exact k
  obtain ⟨c14, r14a, -, r14c, r14d, -, -⟩ := id V_a2
  refine own_st (T' := T8) (g' := (mkF m 135 #[.val (.ref a0), .val (.ref a1), .val (.ref a2), .val (.ref a2), .val (.int (2 : Int32)), .val (.int (0 : Int32)), .unset, .unset] [(.int (0 : Int32)), (.ref a2)])) (fun t k => ?_) ?_
  · show Steps p.tables e below (T8.setTop (mkF m 119 #[.val (.ref a0), .val (.ref a1), .val (.ref a2), .val (.ref a2), .unset, .unset, .unset, .unset] [(.ref a2)])) t
    refine X8.arraylength hx (by rw [e8]; exact r14a.1) (State.isArrayOf_alike hZ.alike r14a.2.1) (g := (mkF m 119 #[.val (.ref a0), .val (.ref a1), .val (.ref a2), .val (.ref a2), .unset, .unset, .unset, .unset] [(.ref a2)])) rfl rfl (hb hby d1_119) _ ?_
    rw [len_of r14c r14d]
    refine XS.istore X8.here hx rfl (hb hby d1_120) rfl (l' := #[.val (.ref a0), .val (.ref a1), .val (.ref a2), .val (.ref a2), .val (.int (2 : Int32)), .unset, .unset, .unset]) rfl ?_
    refine XS.iconst X8.here hx rfl (hb hby d1_122) ?_
    refine XS.istore X8.here hx rfl (hb hby d1_123) rfl (l' := #[.val (.ref a0), .val (.ref a1), .val (.ref a2), .val (.ref a2), .val (.int (2 : Int32)), .val (.int (0 : Int32)), .unset, .unset]) rfl ?_
    refine XS.iload X8.here hx rfl (hb hby d1_125) rfl ?_
    refine XS.iload X8.here hx rfl (hb hby d1_127) rfl ?_
    refine XS.icmpNo X8.here hx rfl (hb hby d1_129) rfl (by decide) ?_
    refine XS.aloadN X8.here hx rfl (hb hby d1_132) rfl rfl ?_
    show Steps p.tables e below (T8.setTop (mkF m 133 #[.val (.ref a0), .val (.ref a1), .val (.ref a2), .val (.ref a2), .val (.int (2 : Int32)), .val (.int (0 : Int32)), .unset, .unset] [(.ref a2)])) t
    refine XS.iload X8.here hx rfl (hb hby d1_133) rfl ?_
    exact k
  obtain ⟨c15, r15a, r15b, r15c, r15d, r15e, r15f⟩ := id V_a2
  have i15 : ¬ ((0 : Int32) < 0 ∨ c15.slots.size ≤ ((0 : Int32)).toNatClampNeg) := inb_of r15c ⟨by decide, by decide⟩
  have y15 : c15.slots[((0 : Int32)).toNatClampNeg]? = some (.double eb0) := r15e.at i15 rfl
  refine own_st (T' := T8) (g' := (mkF m 147 #[.val (.ref a0), .val (.ref a1), .val (.ref a2), .val (.ref a2), .val (.int (2 : Int32)), .val (.int (0 : Int32)), .val (.double eb0), .second] [(.double eb0)])) (fun t k => ?_) ?_
  · show Steps p.tables e below (T8.setTop (mkF m 135 #[.val (.ref a0), .val (.ref a1), .val (.ref a2), .val (.ref a2), .val (.int (2 : Int32)), .val (.int (0 : Int32)), .unset, .unset] [(.int (0 : Int32)), (.ref a2)])) t
    refine X8.daload hx (j := (0 : Int32)) (v := (.double eb0)) (by rw [e8]; exact r15a.1) (State.isArrayOf_alike hZ.alike r15a.2.1) r15a.2.2 i15 y15 (g := (mkF m 135 #[.val (.ref a0), .val (.ref a1), .val (.ref a2), .val (.ref a2), .val (.int (2 : Int32)), .val (.int (0 : Int32)), .unset, .unset] [(.int (0 : Int32)), (.ref a2)])) rfl rfl (hb hby d1_135) _ ?_
    refine XS.dstore X8.here hx rfl (hb hby d1_136) rfl (l' := #[.val (.ref a0), .val (.ref a1), .val (.ref a2), .val (.ref a2), .val (.int (2 : Int32)), .val (.int (0 : Int32)), .val (.double eb0), .second]) rfl ?_
    refine XS.dload X8.here hx rfl (hb hby d1_138) rfl ?_
    refine XS.dconst0 X8.here hx rfl (hb hby d1_140) rfl ?_
    refine XS.dcmpS X8.here hx rfl (hb hby d1_141) rfl rfl ?_
    refine XS.ifNo X8.here hx rfl (hb hby d1_142) rfl ((if0 _ _).trans (flt (hb142 : ¬ ((cmpValue (FP.dcmp eb0 (0 : UInt64)) .l) < (0 : Int32)))).1) ?_
    refine XS.dload X8.here hx rfl (hb hby d1_145) rfl ?_
    exact k
  obtain ⟨_, _, ⟨T16, L16, k16, n16⟩, -, X16, ⟨Lc16, hQ16, l16, y16, z16⟩, st16⟩ := Jvm.LawKit.callS X8 hx (y := (⟨"java/lang/Double", "isInfinite", "(D)Z"⟩ : MethodName)) hown (mvT hZ (hw _ (List.mem_of_getElem? (i := 11) rfl))) (mvT hZ (hw _ (List.mem_of_getElem? (i := 12) rfl))) (mvT hZ (hw _ (List.mem_of_getElem? (i := 13) rfl))) (mvT hZ (hw _ (List.mem_of_getElem? (i := 14) rfl))) (by decide) (backOf (W := 0) (rm3 l Z ar hw [] eb0 h0 n0 Z0 h147_hn1 h147_hb8) hZ (hw _ (List.mem_of_getElem? (i := 14) rfl)) (hw _ (List.mem_of_getElem? (i := 13) rfl)) (by decide) (by decide)) (g := (mkF m 147 #[.val (.ref a0), .val (.ref a1), .val (.ref a2), .val (.ref a2), .val (.int (2 : Int32)), .val (.int (0 : Int32)), .val (.double eb0), .second] [(.double eb0)])) rfl (by rw [hml]; rfl) (argsL := [(.double eb0)]) (rest := []) (lenOf pdi2_0 rfl) rfl (by show 2 * 0 + _ ≤ _; exact Nat.le_of_eq rfl) (hb hby d1_147) (fun _ _ => ⟨rfl, e8, (by decide : 0 + 0 ≤ _), (by decide : 0 + 0 ≤ _)⟩)
  dsimp only [Pt.U, Pt.locs, Pt.cells, Pt.slots] at X16 l16 y16 z16 st16 hQ16
  subst l16 y16 z16
  obtain ⟨rfl, N16q, e16⟩ := hQ16
  have n17 := Fr.app n9 N16q
  refine own_st (T' := T16) (g' := (mkF m 150 #[.val (.ref a0), .val (.ref a1), .val (.ref a2), .val (.ref a2), .val (.int (2 : Int32)), .val (.int (0 : Int32)), .val (.double eb0), .second] [(.int (0 : Int32))])) st16 ?_
  refine own_st (T' := T16) (g' := (mkF m 135 #[.val (.ref a0), .val (.ref a1), .val (.ref a2), .val (.ref a2), .val (.int (2 : Int32)), .val (.int (1 : Int32)), .val (.double eb0), .second] [(.int (1 : Int32)), (.ref a2)])) (fun t k => ?_) ?_
  · show Steps p.tables e below (T16.setTop (mkF m 150 #[.val (.ref a0), .val (.ref a1), .val (.ref a2), .val (.ref a2), .val (.int (2 : Int32)), .val (.int (0 : Int32)), .val (.double eb0), .second] [(.int (0 : Int32))])) t
    refine XS.ifYes X16.here hx rfl (pc0 := 150) (pc' := 168) rfl (hb hby d1_150) rfl (by decide) (by decide) (by decide) ?_
    refine XS.iinc X16.here hx rfl (hb hby d1_168) rfl (l' := #[.val (.ref a0), .val (.ref a1), .val (.ref a2), .val (.ref a2), .val (.int (2 : Int32)), .val (.int (1 : Int32)), .val (.double eb0), .second]) rfl ?_
    refine XS.goto X16.here hx rfl (pc0 := 171) (pc' := 125) rfl (hb hby d1_171) (by decide) (by decide) ?_
    refine XS.iload X16.here hx rfl (hb hby d1_125) rfl ?_
    refine XS.iload X16.here hx rfl (hb hby d1_127) rfl ?_
    refine XS.icmpNo X16.here hx rfl (hb hby d1_129) rfl (by decide) ?_
    refine XS.aloadN X16.here hx rfl (hb hby d1_132) rfl rfl ?_
    refine XS.iload X16.here hx rfl (hb hby d1_133) rfl ?_
    exact k
  obtain ⟨c18, r18a, r18b, r18c, r18d, r18e, r18f⟩ := id V_a2
  have i18 : ¬ ((1 : Int32) < 0 ∨ c18.slots.size ≤ ((1 : Int32)).toNatClampNeg) := inb_of r18c ⟨by decide, by decide⟩
  have y18 : c18.slots[((1 : Int32)).toNatClampNeg]? = some (.double eb1) := r18e.at i18 rfl
  refine own_st (T' := T16) (g' := (mkF m 147 #[.val (.ref a0), .val (.ref a1), .val (.ref a2), .val (.ref a2), .val (.int (2 : Int32)), .val (.int (1 : Int32)), .val (.double eb1), .second] [(.double eb1)])) (fun t k => ?_) ?_
  · show Steps p.tables e below (T16.setTop (mkF m 135 #[.val (.ref a0), .val (.ref a1), .val (.ref a2), .val (.ref a2), .val (.int (2 : Int32)), .val (.int (1 : Int32)), .val (.double eb0), .second] [(.int (1 : Int32)), (.ref a2)])) t
    refine X16.daload hx (j := (1 : Int32)) (v := (.double eb1)) (by rw [e16]; exact r18a.1) (State.isArrayOf_alike hZ.alike r18a.2.1) r18a.2.2 i18 y18 (g := (mkF m 135 #[.val (.ref a0), .val (.ref a1), .val (.ref a2), .val (.ref a2), .val (.int (2 : Int32)), .val (.int (1 : Int32)), .val (.double eb0), .second] [(.int (1 : Int32)), (.ref a2)])) rfl rfl (hb hby d1_135) _ ?_
    refine XS.dstore X16.here hx rfl (hb hby d1_136) rfl (l' := #[.val (.ref a0), .val (.ref a1), .val (.ref a2), .val (.ref a2), .val (.int (2 : Int32)), .val (.int (1 : Int32)), .val (.double eb1), .second]) rfl ?_
    refine XS.dload X16.here hx rfl (hb hby d1_138) rfl ?_
    refine XS.dconst0 X16.here hx rfl (hb hby d1_140) rfl ?_
    refine XS.dcmpS X16.here hx rfl (hb hby d1_141) rfl rfl ?_
    refine XS.ifNo X16.here hx rfl (hb hby d1_142) rfl ((if0 _ _).trans (flt (hb142_1 : ¬ ((cmpValue (FP.dcmp eb1 (0 : UInt64)) .l) < (0 : Int32)))).1) ?_
    refine XS.dload X16.here hx rfl (hb hby d1_145) rfl ?_
    exact k
  obtain ⟨_, _, ⟨T19, L19, k19, n19⟩, -, X19, ⟨Lc19, hQ19, l19, y19, z19⟩, st19⟩ := Jvm.LawKit.callS X16 hx (y := (⟨"java/lang/Double", "isInfinite", "(D)Z"⟩ : MethodName)) hown (mvT hZ (hw _ (List.mem_of_getElem? (i := 11) rfl))) (mvT hZ (hw _ (List.mem_of_getElem? (i := 12) rfl))) (mvT hZ (hw _ (List.mem_of_getElem? (i := 13) rfl))) (mvT hZ (hw _ (List.mem_of_getElem? (i := 14) rfl))) (by decide) (backOf (W := 0) (rm3 l Z ar hw [] eb1 h0 n0 Z0 h147_hn1_1 h147_hb8_1) hZ (hw _ (List.mem_of_getElem? (i := 14) rfl)) (hw _ (List.mem_of_getElem? (i := 13) rfl)) (by decide) (by decide)) (g := (mkF m 147 #[.val (.ref a0), .val (.ref a1), .val (.ref a2), .val (.ref a2), .val (.int (2 : Int32)), .val (.int (1 : Int32)), .val (.double eb1), .second] [(.double eb1)])) rfl (by rw [hml]; rfl) (argsL := [(.double eb1)]) (rest := []) (lenOf pdi2_0 rfl) rfl (by show 2 * 0 + _ ≤ _; exact Nat.le_of_eq rfl) (hb hby d1_147) (fun _ _ => ⟨rfl, e16, (by decide : 0 + 0 ≤ _), (by decide : 0 + 0 ≤ _)⟩)
  dsimp only [Pt.U, Pt.locs, Pt.cells, Pt.slots] at X19 l19 y19 z19 st19 hQ19
  subst l19 y19 z19
  obtain ⟨rfl, N19q, e19⟩ := hQ19
  have n20 := Fr.app n17 N19q
  refine own_st (T' := T19) (g' := (mkF m 150 #[.val (.ref a0), .val (.ref a1), .val (.ref a2), .val (.ref a2), .val (.int (2 : Int32)), .val (.int (1 : Int32)), .val (.double eb1), .second] [(.int (0 : Int32))])) st19 ?_
  refine own_st (T' := T19) (g' := (mkF m 176 #[.val (.ref a0), .val (.ref a1), .val (.ref a2), .val (.ref a2), .val (.int (2 : Int32)), .val (.int (2 : Int32)), .val (.double eb1), .second] [(.ref a1), (.ref a0)])) (fun t k => ?_) ?_
  · show Steps p.tables e below (T19.setTop (mkF m 150 #[.val (.ref a0), .val (.ref a1), .val (.ref a2), .val (.ref a2), .val (.int (2 : Int32)), .val (.int (1 : Int32)), .val (.double eb1), .second] [(.int (0 : Int32))])) t
    refine XS.ifYes X19.here hx rfl (pc0 := 150) (pc' := 168) rfl (hb hby d1_150) rfl (by decide) (by decide) (by decide) ?_
    refine XS.iinc X19.here hx rfl (hb hby d1_168) rfl (l' := #[.val (.ref a0), .val (.ref a1), .val (.ref a2), .val (.ref a2), .val (.int (2 : Int32)), .val (.int (2 : Int32)), .val (.double eb1), .second]) rfl ?_
    refine XS.goto X19.here hx rfl (pc0 := 171) (pc' := 125) rfl (hb hby d1_171) (by decide) (by decide) ?_
    refine XS.iload X19.here hx rfl (hb hby d1_125) rfl ?_
    refine XS.iload X19.here hx rfl (hb hby d1_127) rfl ?_
    refine XS.icmpYes X19.here hx rfl (pc0 := 129) (pc' := 174) rfl (hb hby d1_129) rfl (by decide) (by decide) (by decide) ?_
    refine XS.aloadN X19.here hx rfl (hb hby d1_174) rfl rfl ?_
    refine XS.aloadN X19.here hx rfl (hb hby d1_175) rfl rfl ?_
    exact k
  obtain ⟨T21, h21, X21, e21, E21, A21, B21, st21⟩ := cloneH X19 hx hZ hown (hw _ (List.mem_of_getElem? (i := 20) rfl)) (hw _ (List.mem_of_getElem? (i := 21) rfl)) (hw _ (List.mem_of_getElem? (i := 25) rfl)) (hw _ (List.mem_of_getElem? (i := 23) rfl)) (hw _ (List.mem_of_getElem? (i := 24) rfl)) (hw _ (List.mem_of_getElem? (i := 26) rfl)) e19 (Arv.arh V_a1) E_a1 (g := (mkF m 176 #[.val (.ref a0), .val (.ref a1), .val (.ref a2), .val (.ref a2), .val (.int (2 : Int32)), .val (.int (2 : Int32)), .val (.double eb1), .second] [(.ref a1), (.ref a0)])) rfl (by rw [hml]; rfl) rfl (hb hby d1_176) (by decide) (W := 1) (by show 2 * 0 + _ ≤ _; exact Nat.le_of_eq rfl) (by decide) (cap := 2) (by decide) (by decide) (by decide)
  obtain ⟨b21, g21⟩ : ∃ z, z = h0.size := ⟨_, rfl⟩
  rw [← g21] at A21 B21 st21
  have ne_a0_b21 : a0 ≠ b21 := Nat.ne_of_lt (Nat.lt_of_lt_of_le E_a0.lt (Nat.le_of_eq g21.symm))
  have ne_a1_b21 : a1 ≠ b21 := Nat.ne_of_lt (Nat.lt_of_lt_of_le E_a1.lt (Nat.le_of_eq g21.symm))
  have ne_a2_b21 : a2 ≠ b21 := Nat.ne_of_lt (Nat.lt_of_lt_of_le E_a2.lt (Nat.le_of_eq g21.symm))
  have g_b21 : n0 ≤ b21 := Nat.le_trans Z0 (Nat.le_of_eq g21.symm)
  have sz_b21 : h0.size ≤ b21 := Nat.le_trans K0.1 (Nat.le_of_eq g21.symm)
  have f22 := E_a0.ext E21
  have f23 := F_values_a0.ext E21
  have f24 := F_bids_a0.ext E21
  have f25 := E_a1.ext E21
  have f26 := V_a1.ext E21
  have f27 := E_a2.ext E21
  have f28 := V_a2.ext E21
  have z29 := Nat.le_trans Z0 E21.1
  have k30 := K0.ext E21
  have v31 : Arv Z h21 b21 kk_a1 .double (2 : Int32) [(.double ev0), (.double ev1)] (.double (0 : UInt64)) := A21
  refine own_st (T' := T21) (g' := (mkF m 179 #[.val (.ref a0), .val (.ref a1), .val (.ref a2), .val (.ref a2), .val (.int (2 : Int32)), .val (.int (2 : Int32)), .val (.double eb1), .second] [(.ref b21), (.ref a0)])) st21 ?_
  obtain ⟨T32, X32, e32, st32⟩ := castY X21 hx hZ hown (hw _ (List.mem_of_getElem? (i := 27) rfl)) e21 (Ins.self B21) (g := (mkF m 179 #[.val (.ref a0), .val (.ref a1), .val (.ref a2), .val (.ref a2), .val (.int (2 : Int32)), .val (.int (2 : Int32)), .val (.double eb1), .second] [(.ref b21), (.ref a0)])) rfl rfl (hb hby d1_179)
  refine own_st (T' := T32) (g' := (mkF m 182 #[.val (.ref a0), .val (.ref a1), .val (.ref a2), .val (.ref a2), .val (.int (2 : Int32)), .val (.int (2 : Int32)), .val (.double eb1), .second] [(.ref b21), (.ref a0)])) st32 ?_
  obtain ⟨T33, h33, X33, e33, W33, st33⟩ := putF X32 hx hZ hown (host := "") (Or.inl (hw _ (List.mem_of_getElem? (i := 29) rfl))) Via.refl e32 f23 f22 (Or.inr ⟨(hw _ (List.mem_of_getElem? (i := 30) rfl)), rfl, hnm⟩) (hw _ (List.mem_of_getElem? (i := 3) rfl)) (ty := (.array .double)) (by decide) rfl rfl (g := (mkF m 182 #[.val (.ref a0), .val (.ref a1), .val (.ref a2), .val (.ref a2), .val (.int (2 : Int32)), .val (.int (2 : Int32)), .val (.double eb1), .second] [(.ref b21), (.ref a0)])) rfl rfl (hb hby d1_182)
  have f34 := f22.wr W33
  have f35 := f23.same W33
  have f36 := f24.other W33 (Or.inr (slot_ne (Or.inr (hw _ (List.mem_of_getElem? (i := 32) rfl))) (Or.inr (hw _ (List.mem_of_getElem? (i := 30) rfl))) (by decide) (t := (.array .double)) (t' := (.array .double)) (by decide) (by decide)))
  have f37 := f25.wr W33
  have f38 := f26.other W33 ne_a1_a0
  have f39 := f27.wr W33
  have f40 := f28.other W33 ne_a2_a0
  have f41 := v31.other W33 (Ne.symm ne_a0_b21)
  have f42 := B21.wr W33
  have z43 := Nat.le_trans z29 (Keep.of_wr W33).1
  have k44 := k30.wr W33 (Or.inl (List.mem_of_getElem? (i := 0) rfl))
  have n45 := Fr.snoc X33 n20 g_a0
  refine own_st (T' := T33) (g' := (mkF m 185 #[.val (.ref a0), .val (.ref a1), .val (.ref a2), .val (.ref a2), .val (.int (2 : Int32)), .val (.int (2 : Int32)), .val (.double eb1), .second] [])) st33 ?_
  refine own_st (T' := T33) (g' := (mkF m 187 #[.val (.ref a0), .val (.ref a1), .val (.ref a2), .val (.ref a2), .val (.int (2 : Int32)), .val (.int (2 : Int32)), .val (.double eb1), .second] [(.ref a2), (.ref a0)])) (fun t k => ?_) ?_
  · show Steps p.tables e below (T33.setTop (mkF m 185 #[.val (.ref a0), .val (.ref a1), .val (.ref a2), .val (.ref a2), .val (.int (2 : Int32)), .val (.int (2 : Int32)), .val (.double eb1), .second] [])) t
    refine XS.aloadN X33.here hx rfl (hb hby d1_185) rfl rfl ?_
    refine XS.aloadN X33.here hx rfl (hb hby d1_186) rfl rfl ?_
    exact k
  obtain ⟨T46, h46, X46, e46, E46, A46, B46, st46⟩ := cloneH X33 hx hZ hown (hw _ (List.mem_of_getElem? (i := 20) rfl)) (hw _ (List.mem_of_getElem? (i := 21) rfl)) (hw _ (List.mem_of_getElem? (i := 25) rfl)) (hw _ (List.mem_of_getElem? (i := 23) rfl)) (hw _ (List.mem_of_getElem? (i := 24) rfl)) (hw _ (List.mem_of_getElem? (i := 26) rfl)) e33 (Arv.arh f40) f39 (g := (mkF m 187 #[.val (.ref a0), .val (.ref a1), .val (.ref a2), .val (.ref a2), .val (.int (2 : Int32)), .val (.int (2 : Int32)), .val (.double eb1), .second] [(.ref a2), (.ref a0)])) rfl (by rw [hml]; rfl) rfl (hb hby d1_187) (by decide) (W := 1) (by show 2 * 0 + _ ≤ _; exact Nat.le_of_eq rfl) (by decide) (cap := 2) (by decide) (by decide) (by decide)
  obtain ⟨b46, g46⟩ : ∃ z, z = h33.size := ⟨_, rfl⟩
  rw [← g46] at A46 B46 st46
  have ne_a0_b46 : a0 ≠ b46 := Nat.ne_of_lt (Nat.lt_of_lt_of_le f34.lt (Nat.le_of_eq g46.symm))
  have ne_a1_b46 : a1 ≠ b46 := Nat.ne_of_lt (Nat.lt_of_lt_of_le f37.lt (Nat.le_of_eq g46.symm))
  have ne_a2_b46 : a2 ≠ b46 := Nat.ne_of_lt (Nat.lt_of_lt_of_le f39.lt (Nat.le_of_eq g46.symm))
  have ne_b21_b46 : b21 ≠ b46 := Nat.ne_of_lt (Nat.lt_of_lt_of_le f41.lt (Nat.le_of_eq g46.symm))
  have g_b46 : n0 ≤ b46 := Nat.le_trans z43 (Nat.le_of_eq g46.symm)
  have sz_b46 : h0.size ≤ b46 := Nat.le_trans k44.1 (Nat.le_of_eq g46.symm)
  have f47 := f34.ext E46
  have f48 := f35.ext E46
  have f49 := f36.ext E46
  have f50 := f37.ext E46
  have f51 := f38.ext E46
  have f52 := f39.ext E46
  have f53 := f40.ext E46
  have f54 := f41.ext E46
  have f55 := f42.ext E46
  have z56 := Nat.le_trans z43 E46.1
  have k57 := k44.ext E46
  have v58 : Arv Z h46 b46 kk_a2 .double (2 : Int32) [(.double eb0), (.double eb1)] (.double (0 : UInt64)) := A46
  refine own_st (T' := T46) (g' := (mkF m 190 #[.val (.ref a0), .val (.ref a1), .val (.ref a2), .val (.ref a2), .val (.int (2 : Int32)), .val (.int (2 : Int32)), .val (.double eb1), .second] [(.ref b46), (.ref a0)])) st46 ?_
  obtain ⟨T59, X59, e59, st59⟩ := castY X46 hx hZ hown (hw _ (List.mem_of_getElem? (i := 27) rfl)) e46 (Ins.self B46) (g := (mkF m 190 #[.val (.ref a0), .val (.ref a1), .val (.ref a2), .val (.ref a2), .val (.int (2 : Int32)), .val (.int (2 : Int32)), .val (.double eb1), .second] [(.ref b46), (.ref a0)])) rfl rfl (hb hby d1_190)
  refine own_st (T' := T59) (g' := (mkF m 193 #[.val (.ref a0), .val (.ref a1), .val (.ref a2), .val (.ref a2), .val (.int (2 : Int32)), .val (.int (2 : Int32)), .val (.double eb1), .second] [(.ref b46), (.ref a0)])) st59 ?_
  obtain ⟨T60, h60, X60, e60, W60, st60⟩ := putF X59 hx hZ hown (host := "") (Or.inl (hw _ (List.mem_of_getElem? (i := 31) rfl))) Via.refl e59 f49 f47 (Or.inr ⟨(hw _ (List.mem_of_getElem? (i := 32) rfl)), rfl, hnm⟩) (hw _ (List.mem_of_getElem? (i := 3) rfl)) (ty := (.array .double)) (by decide) rfl rfl (g := (mkF m 193 #[.val (.ref a0), .val (.ref a1), .val (.ref a2), .val (.ref a2), .val (.int (2 : Int32)), .val (.int (2 : Int32)), .val (.double eb1), .second] [(.ref b46), (.ref a0)])) rfl rfl (hb hby d1_193)
  have f61 := f47.wr W60
  have f62 := f48.other W60 (Or.inr (slot_ne (Or.inr (hw _ (List.mem_of_getElem? (i := 30) rfl))) (Or.inr (hw _ (List.mem_of_getElem? (i := 32) rfl))) (by decide) (t := (.array .double)) (t' := (.array .double)) (by decide) (by decide)))
  have f63 := f49.same W60
  have f64 := f50.wr W60
  have f65 := f51.other W60 ne_a1_a0
  have f66 := f52.wr W60
  have f67 := f53.other W60 ne_a2_a0
  have f68 := f54.other W60 (Ne.symm ne_a0_b21)
  have f69 := f55.wr W60
  have f70 := v58.other W60 (Ne.symm ne_a0_b46)
  have f71 := B46.wr W60
  have z72 := Nat.le_trans z56 (Keep.of_wr W60).1
  have k73 := k57.wr W60 (Or.inl (List.mem_of_getElem? (i := 0) rfl))
  have n74 := Fr.snoc X60 n45 g_a0
  refine own_st (T' := T60) (g' := (mkF m 196 #[.val (.ref a0), .val (.ref a1), .val (.ref a2), .val (.ref a2), .val (.int (2 : Int32)), .val (.int (2 : Int32)), .val (.double eb1), .second] [])) st60 ?_
  refine own_retV X60 hx hlk Bd.returns (hb hby d1_196) (by decide) (by decide) ?_
  show Qi2 Z a0 a1 a2 u_values_a0 u_bids_a0 kk_a1 ev0 ev1 kk_a2 eb0 eb1 h0 n0 none T60.heap _
  rw [(e60 : T60.heap = h60)]
  exact ⟨b21, b46, rfl, n74, k73, sz_b21, sz_b46, ne_b21_b46, f61, f62, f63, f68, f69, f70, f71⟩
theorem pni3 : plainName "com/example/corewright/corewright/equilibrium/Strategy" = true := by first | (simp [plainName, overriddenIn]; done) | decide +kernel
theorem pdi3_0 : parseMethodDescriptor "(D)Z" = some ⟨[.double], some .boolean⟩ := by decide +kernel
theorem efi3 (m : MethodId) (a0 : Addr) (a1 : Addr) (a2 : Addr) : entryFrame m #[(.ref a0), (.ref a1), (.ref a2)] 8 = mkF m 0 #[.val (.ref a0), .val (.ref a1), .val (.ref a2), .unset, .unset, .unset, .unset, .unset] [] := by first | (simp [entryFrame, mkF, argsToLocals, Value.category]; done) | rfl
def Qi3 (Z : State) (a0 : Addr) (a1 : Addr) (a2 : Addr) (u_values_a0 : Value) (u_bids_a0 : Value) (kk_a1 : ClassId) (ev0 : UInt64) (ev1 : UInt64) (ev2 : UInt64) (kk_a2 : ClassId) (eb0 : UInt64) (eb1 : UInt64) (eb2 : UInt64) (h0 : Heap) (n0 : Nat) (v : Option Value) (h : Heap) (L : List Loc) : Prop := ∃ (x0 : Addr) (x1 : Addr), v = none ∧ Fr n0 L ∧ Keep h0 h [a0] ∧ h0.size ≤ x0 ∧ h0.size ≤ x1 ∧ x0 ≠ x1 ∧ Exa Z h a0 "com/example/corewright/corewright/equilibrium/Strategy" ∧ Fld Z h a0 "com/example/corewright/corewright/equilibrium/Strategy" "values" "[D" (.ref x0) ∧ Fld Z h a0 "com/example/corewright/corewright/equilibrium/Strategy" "bids" "[D" (.ref x1) ∧ Arv Z h x0 kk_a1 .double (3 : Int32) [(.double ev0), (.double ev1), (.double ev2)] (.double (0 : UInt64)) ∧ Exa Z h x0 "[D" ∧ Arv Z h x1 kk_a2 .double (3 : Int32) [(.double eb0), (.double eb1), (.double eb2)] (.double (0 : UInt64)) ∧ Exa Z h x1 "[D"
set_option maxRecDepth 65536 in
set_option maxHeartbeats 40000000 in
theorem rmi3 (l : Launch) (Z : State) (ar : Array Value) (hw : ∀ d ∈ tables_1, d.before ar Z = true) (ws : List Jvm.Cond) (a0 : Addr) (a1 : Addr) (a2 : Addr) (u_values_a0 : Value) (u_bids_a0 : Value) (kk_a1 : ClassId) (ev0 : UInt64) (ev1 : UInt64) (ev2 : UInt64) (kk_a2 : ClassId) (eb0 : UInt64) (eb1 : UInt64) (eb2 : UInt64) (h0 : Heap) (n0 : Nat) (Z0 : n0 ≤ h0.size) (E_a0 : Exa Z h0 a0 "com/example/corewright/corewright/equilibrium/Strategy") (F_values_a0 : Fld Z h0 a0 "com/example/corewright/corewright/equilibrium/Strategy" "values" "[D" u_values_a0) (F_bids_a0 : Fld Z h0 a0 "com/example/corewright/corewright/equilibrium/Strategy" "bids" "[D" u_bids_a0) (E_a1 : Exa Z h0 a1 "[D") (V_a1 : Arv Z h0 a1 kk_a1 .double (3 : Int32) [(.double ev0), (.double ev1), (.double ev2)] (.double (0 : UInt64))) (E_a2 : Exa Z h0 a2 "[D") (V_a2 : Arv Z h0 a2 kk_a2 .double (3 : Int32) [(.double eb0), (.double eb1), (.double eb2)] (.double (0 : UInt64))) (hq_7 : (cmpValue (FP.dcmp ev0 (0 : UInt64)) .l) = (0 : Int32)) (h58_hn1 : Jvm.Free.Fl.NoNaN64 ev2) (h58_hb8 : ¬ ((0 : Int32) < (cmpValue (FP.dcmp (ev2 &&& 0x7fffffffffffffff) (9218868437227405311 : UInt64)) .l))) (hq_10 : (cmpValue (FP.dcmp ev1 ev0) .l) = (1 : Int32)) (hq_11 : (cmpValue (FP.dcmp ev2 ev1) .l) = (1 : Int32)) (hb142 : ¬ ((cmpValue (FP.dcmp eb0 (0 : UInt64)) .l) < (0 : Int32))) (h147_hn1 : Jvm.Free.Fl.NoNaN64 eb0) (h147_hb8 : ¬ ((0 : Int32) < (cmpValue (FP.dcmp (eb0 &&& 0x7fffffffffffffff) (9218868437227405311 : UInt64)) .l))) (hb142_1 : ¬ ((cmpValue (FP.dcmp eb1 (0 : UInt64)) .l) < (0 : Int32))) (h147_hn1_1 : Jvm.Free.Fl.NoNaN64 eb1) (h147_hb8_1 : ¬ ((0 : Int32) < (cmpValue (FP.dcmp (eb1 &&& 0x7fffffffffffffff) (9218868437227405311 : UInt64)) .l))) (hb142_2 : ¬ ((cmpValue (FP.dcmp eb2 (0 : UInt64)) .l) < (0 : Int32))) (h147_hn1_2 : Jvm.Free.Fl.NoNaN64 eb2) (h147_hb8_2 : ¬ ((0 : Int32) < (cmpValue (FP.dcmp (eb2 &&& 0x7fffffffffffffff) (9218868437227405311 : UInt64)) .l))) (ne_a1_a0 : a1 ≠ a0) (ne_a2_a0 : a2 ≠ a0) (g_a0 : n0 ≤ a0) :
    MetFree l (⟨"com/example/corewright/corewright/equilibrium/Strategy", "<init>", "([D[D)V"⟩ : MethodName) (head1 (Jvm.Cond.code (⟨"com/example/corewright/corewright/equilibrium/Strategy", "<init>", "([D[D)V"⟩ : MethodName) prog_21_method_2_code 8 none :: ws) ({ frames := 2, cells := 2, slots := 6, locals := 26 } : Room)) (fun a U => a = #[(.ref a0), (.ref a1), (.ref a2)] ∧ Z.Warmed39 U.vm ∧ U.heap = h0) (fun _ _ _ _ _ => True) (fun _ U o U' => ∃ v L, o = .returned v ∧ Qi3 Z a0 a1 a2 u_values_a0 u_bids_a0 kk_a1 ev0 ev1 ev2 kk_a2 eb0 eb1 eb2 h0 n0 v U'.heap L ∧ FrameEnd U o U' L ({ frames := 2, cells := 2, slots := 6, locals := 26 } : Room).cells ({ frames := 2, cells := 2, slots := 6, locals := 26 } : Room).slots) := by
  refine MetFree.of_bodySF (plainFor_of_name pni3) hisR ?_
  intro p e s m args below meth c s₁ Bd hml0 hP hK
  obtain ⟨rfl, hZ, hh⟩ := hP
  have hx := Bd.exec
  have hby := Bd.bytes
  have hlk := Bd.notSynchronized
  have hml : c.maxLocals = 8 := hml0
  have hown : s.vm.findClass "com/example/corewright/corewright/equilibrium/Strategy" = some m.cls := findClass_of_methodNamed Bd.named
  have hnm := (name_of_methodNamed Bd.named Bd.method).1
  have X0 : Stand p l e ({ frames := 2, cells := 2, slots := 6, locals := 26 } : Room) s m #[(.ref a0), (.ref a1), (.ref a2)] below meth c s₁ [] 0 0 := Stand.of_body Bd
  have e0 : s₁.heap = h0 := by rw [← hh, Bd.state]; rfl
  have N0 := Fr.nil n0
  have K0 := Keep.refl h0 [a0]
  refine own_enter (Q := Qi3 Z a0 a1 a2 u_values_a0 u_bids_a0 kk_a1 ev0 ev1 ev2 kk_a2 eb0 eb1 eb2 h0 n0) (efi3 m a0 a1 a2) ?_
  refine own_st (T' := s₁) (g' := (mkF m 1 #[.val (.ref a0), .val (.ref a1), .val (.ref a2), .unset, .unset, .unset, .unset, .unset] [(.ref a0)])) (fun t k => ?_) ?_
  · show Steps p.tables e below (s₁.setTop (mkF m 0 #[.val (.ref a0), .val (.ref a1), .val (.ref a2), .unset, .unset, .unset, .unset, .unset] [])) t
    refine XS.aloadN X0.here hx rfl (hb hby d1_0) rfl rfl ?_
    exact k
  obtain ⟨T1, X1, e1, st1⟩ := initO X0 hx hZ hown (hw _ (List.mem_of_getElem? (i := 8) rfl)) (hw _ (List.mem_of_getElem? (i := 9) rfl)) (hw _ (List.mem_of_getElem? (i := 10) rfl)) e0 (g := (mkF m 1 #[.val (.ref a0), .val (.ref a1), .val (.ref a2), .unset, .unset, .unset, .unset, .unset] [(.ref a0)])) rfl (by rw [hml]; rfl) rfl (hb hby d1_1) (by decide) (W := 0) (by show 2 * 0 + _ ≤ _; exact Nat.le_of_eq rfl) (by decide)
  refine own_st (T' := T1) (g' := (mkF m 4 #[.val (.ref a0), .val (.ref a1), .val (.ref a2), .unset, .unset, .unset, .unset, .unset] [])) st1 ?_
  refine own_st (T' := T1) (g' := (mkF m 5 #[.val (.ref a0), .val (.ref a1), .val (.ref a2), .unset, .unset, .unset, .unset, .unset] [(.ref a1)])) (fun t k => ?_) ?_
  · show Steps p.tables e below (T1.setTop (mkF m 4 #[.val (.ref a0), .val (.ref a1), .val (.ref a2), .unset, .unset, .unset, .unset, .unset] [])) t
    refine XS.aloadN X1.here hx rfl (hb hby d1_4) rfl rfl ?_
    exact k
  obtain ⟨c2, r2a, -, r2c, r2d, -, -⟩ := id V_a1
  refine own_st (T' := T1) (g' := (mkF m 21 #[.val (.ref a0), .val (.ref a1), .val (.ref a2), .unset, .unset, .unset, .unset, .unset] [(.ref a2)])) (fun t k => ?_) ?_
  · show Steps p.tables e below (T1.setTop (mkF m 5 #[.val (.ref a0), .val (.ref a1), .val (.ref a2), .unset, .unset, .unset, .unset, .unset] [(.ref a1)])) t
    refine X1.arraylength hx (by rw [e1]; exact r2a.1) (State.isArrayOf_alike hZ.alike r2a.2.1) (g := (mkF m 5 #[.val (.ref a0), .val (.ref a1), .val (.ref a2), .unset, .unset, .unset, .unset, .unset] [(.ref a1)])) rfl rfl (hb hby d1_5) _ ?_
    rw [len_of r2c r2d]
    refine XS.iconst X1.here hx rfl (hb hby d1_6) ?_
    refine XS.icmpYes X1.here hx rfl (pc0 := 7) (pc' := 20) rfl (hb hby d1_7) rfl (by decide) (by decide) (by decide) ?_
    refine XS.aloadN X1.here hx rfl (hb hby d1_20) rfl rfl ?_
    exact k
  obtain ⟨c3, r3a, -, r3c, r3d, -, -⟩ := id V_a2
  refine own_st (T' := T1) (g' := (mkF m 23 #[.val (.ref a0), .val (.ref a1), .val (.ref a2), .unset, .unset, .unset, .unset, .unset] [(.ref a1), (.int (3 : Int32))])) (fun t k => ?_) ?_
  · show Steps p.tables e below (T1.setTop (mkF m 21 #[.val (.ref a0), .val (.ref a1), .val (.ref a2), .unset, .unset, .unset, .unset, .unset] [(.ref a2)])) t
    refine X1.arraylength hx (by rw [e1]; exact r3a.1) (State.isArrayOf_alike hZ.alike r3a.2.1) (g := (mkF m 21 #[.val (.ref a0), .val (.ref a1), .val (.ref a2), .unset, .unset, .unset, .unset, .unset] [(.ref a2)])) rfl rfl (hb hby d1_21) _ ?_
    rw [len_of r3c r3d]
    refine XS.aloadN X1.here hx rfl (hb hby d1_22) rfl rfl ?_
    exact k
  obtain ⟨c4, r4a, -, r4c, r4d, -, -⟩ := id V_a1
  refine own_st (T' := T1) (g' := (mkF m 46 #[.val (.ref a0), .val (.ref a1), .val (.ref a2), .unset, .unset, .unset, .unset, .unset] [(.int (0 : Int32)), (.ref a1)])) (fun t k => ?_) ?_
  · show Steps p.tables e below (T1.setTop (mkF m 23 #[.val (.ref a0), .val (.ref a1), .val (.ref a2), .unset, .unset, .unset, .unset, .unset] [(.ref a1), (.int (3 : Int32))])) t
    refine X1.arraylength hx (by rw [e1]; exact r4a.1) (State.isArrayOf_alike hZ.alike r4a.2.1) (g := (mkF m 23 #[.val (.ref a0), .val (.ref a1), .val (.ref a2), .unset, .unset, .unset, .unset, .unset] [(.ref a1), (.int (3 : Int32))])) rfl rfl (hb hby d1_23) _ ?_
    rw [len_of r4c r4d]
    refine XS.icmpYes X1.here hx rfl (pc0 := 24) (pc' := 44) rfl (hb hby d1_24) rfl (by decide) (by decide) (by decide) ?_
    refine XS.aloadN X1.here hx rfl (hb hby d1_44) rfl rfl ?_
    refine XS.iconst X1.here hx rfl (hb hby d1_45) ?_
    exact k
  obtain ⟨c5, r5a, r5b, r5c, r5d, r5e, r5f⟩ := id V_a1
  have i5 : ¬ ((0 : Int32) < 0 ∨ c5.slots.size ≤ ((0 : Int32)).toNatClampNeg) := inb_of r5c ⟨by decide, by decide⟩
  have y5 : c5.slots[((0 : Int32)).toNatClampNeg]? = some (.double ev0) := r5e.at i5 rfl
  refine own_st (T' := T1) (g' := (mkF m 54 #[.val (.ref a0), .val (.ref a1), .val (.ref a2), .unset, .unset, .unset, .unset, .unset] [(.ref a1), (.ref a1)])) (fun t k => ?_) ?_
  · show Steps p.tables e below (T1.setTop (mkF m 46 #[.val (.ref a0), .val (.ref a1), .val (.ref a2), .unset, .unset, .unset, .unset, .unset] [(.int (0 : Int32)), (.ref a1)])) t
    refine X1.daload hx (j := (0 : Int32)) (v := (.double ev0)) (by rw [e1]; exact r5a.1) (State.isArrayOf_alike hZ.alike r5a.2.1) r5a.2.2 i5 y5 (g := (mkF m 46 #[.val (.ref a0), .val (.ref a1), .val (.ref a2), .unset, .unset, .unset, .unset, .unset] [(.int (0 : Int32)), (.ref a1)])) rfl rfl (hb hby d1_46) _ ?_
    refine XS.dconst0 X1.here hx rfl (hb hby d1_47) rfl ?_
    refine XS.dcmpS X1.here hx rfl (hb hby d1_48) rfl hq_7 ?_
    refine XS.ifNo X1.here hx rfl (hb hby d1_49) rfl (by decide) ?_
    refine XS.aloadN X1.here hx rfl (hb hby d1_52) rfl rfl ?_
    refine XS.aloadN X1.here hx rfl (hb hby d1_53) rfl rfl ?_
    exact k
  obtain ⟨c6, r6a, -, r6c, r6d, -, -⟩ := id V_a1
  refine own_st (T' := T1) (g' := (mkF m 57 #[.val (.ref a0), .val (.ref a1), .val (.ref a2), .unset, .unset, .unset, .unset, .unset] [(.int (2 : Int32)), (.ref a1)])) (fun t k => ?_) ?_
  · show Steps p.tables e below (T1.setTop (mkF m 54 #[.val (.ref a0), .val (.ref a1), .val (.ref a2), .unset, .unset, .unset, .unset, .unset] [(.ref a1), (.ref a1)])) t
    refine X1.arraylength hx (by rw [e1]; exact r6a.1) (State.isArrayOf_alike hZ.alike r6a.2.1) (g := (mkF m 54 #[.val (.ref a0), .val (.ref a1), .val (.ref a2), .unset, .unset, .unset, .unset, .unset] [(.ref a1), (.ref a1)])) rfl rfl (hb hby d1_54) _ ?_
    rw [len_of r6c r6d]
    refine XS.iconst X1.here hx rfl (hb hby d1_55) ?_
    refine XS.isub X1.here hx rfl (hb hby d1_56) rfl ?_
    exact k
  obtain ⟨c7, r7a, r7b, r7c, r7d, r7e, r7f⟩ := id V_a1
  have i7 : ¬ ((2 : Int32) < 0 ∨ c7.slots.size ≤ ((2 : Int32)).toNatClampNeg) := inb_of r7c ⟨by decide, by decide⟩
  have y7 : c7.slots[((2 : Int32)).toNatClampNeg]? = some (.double ev2) := r7e.at i7 rfl
  refine own_st (T' := T1) (g' := (mkF m 58 #[.val (.ref a0), .val (.ref a1), .val (.ref a2), .unset, .unset, .unset, .unset, .unset] [(.double ev2)])) (fun t k => ?_) ?_
  · show Steps p.tables e below (T1.setTop (mkF m 57 #[.val (.ref a0), .val (.ref a1), .val (.ref a2), .unset, .unset, .unset, .unset, .unset] [(.int (2 : Int32)), (.ref a1)])) t
    refine X1.daload hx (j := (2 : Int32)) (v := (.double ev2)) (by rw [e1]; exact r7a.1) (State.isArrayOf_alike hZ.alike r7a.2.1) r7a.2.2 i7 y7 (g := (mkF m 57 #[.val (.ref a0), .val (.ref a1), .val (.ref a2), .unset, .unset, .unset, .unset, .unset] [(.int (2 : Int32)), (.ref a1)])) rfl rfl (hb hby d1_57) _ ?_
    exact k
  obtain ⟨_, _, ⟨T8, L8, k8, n8⟩, -, X8, ⟨Lc8, hQ8, l8, y8, z8⟩, st8⟩ := Jvm.LawKit.callS X1 hx (y := (⟨"java/lang/Double", "isInfinite", "(D)Z"⟩ : MethodName)) hown (mvT hZ (hw _ (List.mem_of_getElem? (i := 11) rfl))) (mvT hZ (hw _ (List.mem_of_getElem? (i := 12) rfl))) (mvT hZ (hw _ (List.mem_of_getElem? (i := 13) rfl))) (mvT hZ (hw _ (List.mem_of_getElem? (i := 14) rfl))) (by decide) (backOf (W := 0) (rm3 l Z ar hw [] ev2 h0 n0 Z0 h58_hn1 h58_hb8) hZ (hw _ (List.mem_of_getElem? (i := 14) rfl)) (hw _ (List.mem_of_getElem? (i := 13) rfl)) (by decide) (by decide)) (g := (mkF m 58 #[.val (.ref a0), .val (.ref a1), .val (.ref a2), .unset, .unset, .unset, .unset, .unset] [(.double ev2)])) rfl (by rw [hml]; rfl) (argsL := [(.double ev2)]) (rest := []) (lenOf pdi3_0 rfl) rfl (by show 2 * 0 + _ ≤ _; exact Nat.le_of_eq rfl) (hb hby d1_58) (fun _ _ => ⟨rfl, e1, (by decide : 0 + 0 ≤ _), (by decide : 0 + 0 ≤ _)⟩)
  dsimp only [Pt.U, Pt.locs, Pt.cells, Pt.slots] at X8 l8 y8 z8 st8 hQ8
  subst l8 y8 z8
  obtain ⟨rfl, N8q, e8⟩ := hQ8
  have n9 := Fr.app N0 N8q
  refine own_st (T' := T8) (g' := (mkF m 61 #[.val (.ref a0), .val (.ref a1), .val (.ref a2), .unset, .unset, .unset, .unset, .unset] [(.int (0 : Int32))])) st8 ?_
  refine own_st (T' := T8) (g' := (mkF m 78 #[.val (.ref a0), .val (.ref a1), .val (.ref a2), .val (.int (1 : Int32)), .unset, .unset, .unset, .unset] [(.ref a1), (.int (1 : Int32))])) (fun t k => ?_) ?_
  · show Steps p.tables e below (T8.setTop (mkF m 61 #[.val (.ref a0), .val (.ref a1), .val (.ref a2), .unset, .unset, .unset, .unset, .unset] [(.int (0 : Int32))])) t
    refine XS.ifYes X8.here hx rfl (pc0 := 61) (pc' := 74) rfl (hb hby d1_61) rfl (by decide) (by decide) (by decide) ?_
    refine XS.iconst X8.here hx rfl (hb hby d1_74) ?_
    refine XS.istoreN X8.here hx rfl (hb hby d1_75) rfl (l' := #[.val (.ref a0), .val (.ref a1), .val (.ref a2), .val (.int (1 : Int32)), .unset, .unset, .unset, .unset]) rfl ?_
    refine XS.iloadN X8.here hx rfl (hb hby d1_76) rfl ?_
    refine XS.aloadN X8.here hx rfl (hb hby d1_77) rfl rfl ?_
    exact k
  obtain ⟨c10, r10a, -, r10c, r10d, -, -⟩ := id V_a1
  refine own_st (T' := T8) (g' := (mkF m 84 #[.val (.ref a0), .val (.ref a1), .val (.ref a2), .val (.int (1 : Int32)), .unset, .unset, .unset, .unset] [(.int (1 : Int32)), (.ref a1)])) (fun t k => ?_) ?_
  · show Steps p.tables e below (T8.setTop (mkF m 78 #[.val (.ref a0), .val (.ref a1), .val (.ref a2), .val (.int (1 : Int32)), .unset, .unset, .unset, .unset] [(.ref a1), (.int (1 : Int32))])) t
    refine X8.arraylength hx (by rw [e8]; exact r10a.1) (State.isArrayOf_alike hZ.alike r10a.2.1) (g := (mkF m 78 #[.val (.ref a0), .val (.ref a1), .val (.ref a2), .val (.int (1 : Int32)), .unset, .unset, .unset, .unset] [(.ref a1), (.int (1 : Int32))])) rfl rfl (hb hby d1_78) _ ?_
    rw [len_of r10c r10d]
    refine XS.icmpNo X8.here hx rfl (hb hby d1_79) rfl (by decide) ?_
    refine XS.aloadN X8.here hx rfl (hb hby d1_82) rfl rfl ?_
    refine XS.iloadN X8.here hx rfl (hb hby d1_83) rfl ?_
    exact k
  obtain ⟨c11, r11a, r11b, r11c, r11d, r11e, r11f⟩ := id V_a1
  have i11 : ¬ ((1 : Int32) < 0 ∨ c11.slots.size ≤ ((1 : Int32)).toNatClampNeg) := inb_of r11c ⟨by decide, by decide⟩
  have y11 : c11.slots[((1 : Int32)).toNatClampNeg]? = some (.double ev1) := r11e.at i11 rfl
  refine own_st (T' := T8) (g' := (mkF m 89 #[.val (.ref a0), .val (.ref a1), .val (.ref a2), .val (.int (1 : Int32)), .unset, .unset, .unset, .unset] [(.int (0 : Int32)), (.ref a1), (.double ev1)])) (fun t k => ?_) ?_
  · show Steps p.tables e below (T8.setTop (mkF m 84 #[.val (.ref a0), .val (.ref a1), .val (.ref a2), .val (.int (1 : Int32)), .unset, .unset, .unset, .unset] [(.int (1 : Int32)), (.ref a1)])) t
    refine X8.daload hx (j := (1 : Int32)) (v := (.double ev1)) (by rw [e8]; exact r11a.1) (State.isArrayOf_alike hZ.alike r11a.2.1) r11a.2.2 i11 y11 (g := (mkF m 84 #[.val (.ref a0), .val (.ref a1), .val (.ref a2), .val (.int (1 : Int32)), .unset, .unset, .unset, .unset] [(.int (1 : Int32)), (.ref a1)])) rfl rfl (hb hby d1_84) _ ?_
    refine XS.aloadN X8.here hx rfl (hb hby d1_85) rfl rfl ?_
    refine XS.iloadN X8.here hx rfl (hb hby d1_86) rfl ?_
    refine XS.iconst X8.here hx rfl (hb hby d1_87) ?_
    refine XS.isub X8.here hx rfl (hb hby d1_88) rfl ?_
    exact k
  obtain ⟨c12, r12a, r12b, r12c, r12d, r12e, r12f⟩ := id V_a1
  have i12 : ¬ ((0 : Int32) < 0 ∨ c12.slots.size ≤ ((0 : Int32)).toNatClampNeg) := inb_of r12c ⟨by decide, by decide⟩
  have y12 : c12.slots[((0 : Int32)).toNatClampNeg]? = some (.double ev0) := r12e.at i12 rfl
  refine own_st (T' := T8) (g' := (mkF m 78 #[.val (.ref a0), .val (.ref a1), .val (.ref a2), .val (.int (2 : Int32)), .unset, .unset, .unset, .unset] [(.ref a1), (.int (2 : Int32))])) (fun t k => ?_) ?_
  · show Steps p.tables e below (T8.setTop (mkF m 89 #[.val (.ref a0), .val (.ref a1), .val (.ref a2), .val (.int (1 : Int32)), .unset, .unset, .unset, .unset] [(.int (0 : Int32)), (.ref a1), (.double ev1)])) t
    refine X8.daload hx (j := (0 : Int32)) (v := (.double ev0)) (by rw [e8]; exact r12a.1) (State.isArrayOf_alike hZ.alike r12a.2.1) r12a.2.2 i12 y12 (g := (mkF m 89 #[.val (.ref a0), .val (.ref a1), .val (.ref a2), .val (.int (1 : Int32)), .unset, .unset, .unset, .unset] [(.int (0 : Int32)), (.ref a1), (.double ev1)])) rfl rfl (hb hby d1_89) _ ?_
    refine XS.dcmpS X8.here hx rfl (hb hby d1_90) rfl hq_10 ?_
    refine XS.ifYes X8.here hx rfl (pc0 := 91) (pc' := 110) rfl (hb hby d1_91) rfl (by decide) (by decide) (by decide) ?_
    refine XS.iinc X8.here hx rfl (hb hby d1_110) rfl (l' := #[.val (.ref a0), .val (.ref a1), .val (.ref a2), .val (.int (2 : Int32)), .unset, .unset, .unset, .unset]) rfl ?_
    refine XS.goto X8.here hx rfl (pc0 := 113) (pc' := 76) rfl (hb hby d1_113) (by decide) (by decide) ?_
    refine XS.iloadN X8.here hx rfl (hb hby d1_76) rfl ?_
    refine XS.aloadN X8.here hx rfl (hb hby d1_77) rfl rfl ?_
    exact k
  obtain ⟨c13, r13a, -, r13c, r13d, -, -⟩ := id V_a1
  refine own_st (T' := T8) (g' := (mkF m 84 #[.val (.ref a0), .val (.ref a1), .val (.ref a2), .val (.int (2 : Int32)), .unset, .unset, .unset, .unset] [(.int (2 : Int32)), (.ref a1)])) (fun t k => ?_) ?_
  · show Steps p.tables e below (T8.setTop (mkF m 78 #[.val (.ref a0), .val (.ref a1), .val (.ref a2), .val (.int (2 : Int32)), .unset, .unset, .unset, .unset] [(.ref a1), (.int (2 : Int32))])) t
    refine X8.arraylength hx (by rw [e8]; exact r13a.1) (State.isArrayOf_alike hZ.alike r13a.2.1) (g := (mkF m 78 #[.val (.ref a0), .val (.ref a1), .val (.ref a2), .val (.int (2 : Int32)), .unset, .unset, .unset, .unset] [(.ref a1), (.int (2 : Int32))])) rfl rfl (hb hby d1_78) _ ?_
    rw [len_of r13c r13d]
    refine XS.icmpNo X8.here hx rfl (hb hby d1_79) rfl (by decide) ?_
    refine XS.aloadN X8.here hx rfl (hb hby d1_82) rfl rfl ?_
    refine XS.iloadN X8.here hx rfl (hb hby d1_83) rfl ?_
    exact k
  obtain ⟨c14, r14a, r14b, r14c, r14d, r14e, r14f⟩ := id V_a1
  have i14 : ¬ ((2 : Int32) < 0 ∨ c14.slots.size ≤ ((2 : Int32)).toNatClampNeg) := inb_of r14c ⟨by decide, by decide⟩
  have y14 : c14.slots[((2 : Int32)).toNatClampNeg]? = some (.double ev2) := r14e.at i14 rfl
  refine own_st (T' := T8) (g' := (mkF m 89 #[.val (.ref a0), .val (.ref a1), .val (.ref a2), .val (.int (2 : Int32)), .unset, .unset, .unset, .unset] [(.int (1 : Int32)), (.ref a1), (.double ev2)])) (fun t k => ?_) ?_
  · show Steps p.tables e below (T8.setTop (mkF m 84 #[.val (.ref a0), .val (.ref a1), .val (.ref a2), .val (.int (2 : Int32)), .unset, .unset, .unset, .unset] [(.int (2 : Int32)), (.ref a1)])) t
    refine X8.daload hx (j := (2 : Int32)) (v := (.double ev2)) (by rw [e8]; exact r14a.1) (State.isArrayOf_alike hZ.alike r14a.2.1) r14a.2.2 i14 y14 (g := (mkF m 84 #[.val (.ref a0), .val (.ref a1), .val (.ref a2), .val (.int (2 : Int32)), .unset, .unset, .unset, .unset] [(.int (2 : Int32)), (.ref a1)])) rfl rfl (hb hby d1_84) _ ?_
    refine XS.aloadN X8.here hx rfl (hb hby d1_85) rfl rfl ?_
    refine XS.iloadN X8.here hx rfl (hb hby d1_86) rfl ?_
    refine XS.iconst X8.here hx rfl (hb hby d1_87) ?_
    refine XS.isub X8.here hx rfl (hb hby d1_88) rfl ?_
    exact k
  obtain ⟨c15, r15a, r15b, r15c, r15d, r15e, r15f⟩ := id V_a1
  have i15 : ¬ ((1 : Int32) < 0 ∨ c15.slots.size ≤ ((1 : Int32)).toNatClampNeg) := inb_of r15c ⟨by decide, by decide⟩
  have y15 : c15.slots[((1 : Int32)).toNatClampNeg]? = some (.double ev1) := r15e.at i15 rfl
  refine own_st (T' := T8) (g' := (mkF m 78 #[.val (.ref a0), .val (.ref a1), .val (.ref a2), .val (.int (3 : Int32)), .unset, .unset, .unset, .unset] [(.ref a1), (.int (3 : Int32))])) (fun t k => ?_) ?_
  · show Steps p.tables e below (T8.setTop (mkF m 89 #[.val (.ref a0), .val (.ref a1), .val (.ref a2), .val (.int (2 : Int32)), .unset, .unset, .unset, .unset] [(.int (1 : Int32)), (.ref a1), (.double ev2)])) t
    refine X8.daload hx (j := (1 : Int32)) (v := (.double ev1)) (by rw [e8]; exact r15a.1) (State.isArrayOf_alike hZ.alike r15a.2.1) r15a.2.2 i15 y15 (g := (mkF m 89 #[.val (.ref a0), .val (.ref a1), .val (.ref a2), .val (.int (2 : Int32)), .unset, .unset, .unset, .unset] [(.int (1 : Int32)), (.ref a1), (.double ev2)])) rfl rfl (hb hby d1_89) _ ?_
    refine XS.dcmpS X8.here hx rfl (hb hby d1_90) rfl hq_11 ?_
    refine XS.ifYes X8.here hx rfl (pc0 := 91) (pc' := 110) rfl (hb hby d1_91) rfl (by decide) (by decide) (by decide) ?_
    refine XS.iinc X8.here hx rfl (hb hby d1_110) rfl (l' := #[.val (.ref a0), .val (.ref a1), .val (.ref a2), .val (.int (3 : Int32)), .unset, .unset, .unset, .unset]) rfl ?_
    refine XS.goto X8.here hx rfl (pc0 := 113) (pc' := 76) rfl (hb hby d1_113) (by decide) (by decide) ?_
    refine XS.iloadN X8.here hx rfl (hb hby d1_76) rfl ?_
    refine XS.aloadN X8.here hx rfl (hb hby d1_77) rfl rfl ?_
    exact k
  obtain ⟨c16, r16a, -, r16c, r16d, -, -⟩ := id V_a1
  refine own_st (T' := T8) (g' := (mkF m 119 #[.val (.ref a0), .val (.ref a1), .val (.ref a2), .val (.ref a2), .unset, .unset, .unset, .unset] [(.ref a2)])) (fun t k => ?_) ?_
  · show Steps p.tables e below (T8.setTop (mkF m 78 #[.val (.ref a0), .val (.ref a1), .val (.ref a2), .val (.int (3 : Int32)), .unset, .unset, .unset, .unset] [(.ref a1), (.int (3 : Int32))])) t
    refine X8.arraylength hx (by rw [e8]; exact r16a.1) (State.isArrayOf_alike hZ.alike r16a.2.1) (g := (mkF m 78 #[.val (.ref a0), .val (.ref a1), .val (.ref a2), .val (.int (3 : Int32)), .unset, .unset, .unset, .unset] [(.ref a1), (.int (3 : Int32))])) rfl rfl (hb hby d1_78) _ ?_
    rw [len_of r16c r16d]
    refine XS.icmpYes X8.here hx rfl (pc0 := 79) (pc' := 116) rfl (hb hby d1_79) rfl (by decide) (by decide) (by decide) ?_
    refine XS.aloadN X8.here hx rfl (hb hby d1_116) rfl rfl ?_
    refine XS.astoreN X8.here hx rfl (hb hby d1_117) rfl rfl (l' := #[.val (.ref a0), .val (.ref a1), .val (.ref a2), .val (.ref a2), .unset, .unset, .unset, .unset]) rfl ?_
    refine XS.aloadN X8.here hx rfl (hb hby d1_118) rfl rfl ?_
    exact k
  obtain ⟨c17, r17a, -, r17c, r17d, -, -⟩ := id V_a2
  refine own_st (T' := T8) (g' := (mkF m 135 #[.val (.ref a0), .val (.ref a1), .val (.ref a2), .val (.ref a2), .val (.int (3 : Int32)), .val (.int (0 : Int32)), .unset, .unset] [(.int (0 : Int32)), (.ref a2)])) (fun t k => ?_) ?_
  · show Steps p.tables e below (T8.setTop (mkF m 119 #[.val (.ref a0), .val (.ref a1), .val (.ref a2), .val (.ref a2), .unset, .unset, .unset, .unset] [(.ref a2)])) t
    refine X8.arraylength hx (by rw [e8]; exact r17a.1) (State.isArrayOf_alike hZ.alike r17a.2.1) (g := (mkF m 119 #[.val (.ref a0), .val (.ref a1), .val (.ref a2), .val (.ref a2), .unset, .unset, .unset, .unset] [(.ref a2)])) rfl rfl (hb hby d1_119) _ ?_
    rw [len_of r17c r17d]
    refine XS.istore X8.here hx rfl (hb hby d1_120) rfl (l' := #[.val (.ref a0), .val (.ref a1), .val (.ref a2), .val (.ref a2), .val (.int (3 : Int32)), .unset, .unset, .unset]) rfl ?_
    refine XS.iconst X8.here hx rfl (hb hby d1_122) ?_
    refine XS.istore X8.here hx rfl (hb hby d1_123) rfl (l' := #[.val (.ref a0), .val (.ref a1), .val (.ref a2), .val (.ref a2), .val (.int (3 : Int32)), .val (.int (0 : Int32)), .unset, .unset]) rfl ?_
    refine XS.iload X8.here hx rfl (hb hby d1_125) rfl ?_
    refine XS.iload X8.here hx rfl (hb hby d1_127) rfl ?_
    refine XS.icmpNo X8.here hx rfl (hb hby d1_129) rfl (by decide) ?_
    refine XS.aloadN X8.here hx rfl (hb hby d1_132) rfl rfl ?_
    show Steps p.tables e below (T8.setTop (mkF m 133 #[.val (.ref a0), .val (.ref a1), .val (.ref a2), .val (.ref a2), .val (.int (3 : Int32)), .val (.int (0 : Int32)), .unset, .unset] [(.ref a2)])) t
    refine XS.iload X8.here hx rfl (hb hby d1_133) rfl ?_
    exact k
  obtain ⟨c18, r18a, r18b, r18c, r18d, r18e, r18f⟩ := id V_a2
  have i18 : ¬ ((0 : Int32) < 0 ∨ c18.slots.size ≤ ((0 : Int32)).toNatClampNeg) := inb_of r18c ⟨by decide, by decide⟩
  have y18 : c18.slots[((0 : Int32)).toNatClampNeg]? = some (.double eb0) := r18e.at i18 rfl
  refine own_st (T' := T8) (g' := (mkF m 147 #[.val (.ref a0), .val (.ref a1), .val (.ref a2), .val (.ref a2), .val (.int (3 : Int32)), .val (.int (0 : Int32)), .val (.double eb0), .second] [(.double eb0)])) (fun t k => ?_) ?_
  · show Steps p.tables e below (T8.setTop (mkF m 135 #[.val (.ref a0), .val (.ref a1), .val (.ref a2), .val (.ref a2), .val (.int (3 : Int32)), .val (.int (0 : Int32)), .unset, .unset] [(.int (0 : Int32)), (.ref a2)])) t
    refine X8.daload hx (j := (0 : Int32)) (v := (.double eb0)) (by rw [e8]; exact r18a.1) (State.isArrayOf_alike hZ.alike r18a.2.1) r18a.2.2 i18 y18 (g := (mkF m 135 #[.val (.ref a0), .val (.ref a1), .val (.ref a2), .val (.ref a2), .val (.int (3 : Int32)), .val (.int (0 : Int32)), .unset, .unset] [(.int (0 : Int32)), (.ref a2)])) rfl rfl (hb hby d1_135) _ ?_
    refine XS.dstore X8.here hx rfl (hb hby d1_136) rfl (l' := #[.val (.ref a0), .val (.ref a1), .val (.ref a2), .val (.ref a2), .val (.int (3 : Int32)), .val (.int (0 : Int32)), .val (.double eb0), .second]) rfl ?_
    refine XS.dload X8.here hx rfl (hb hby d1_138) rfl ?_
    refine XS.dconst0 X8.here hx rfl (hb hby d1_140) rfl ?_
    refine XS.dcmpS X8.here hx rfl (hb hby d1_141) rfl rfl ?_
    refine XS.ifNo X8.here hx rfl (hb hby d1_142) rfl ((if0 _ _).trans (flt (hb142 : ¬ ((cmpValue (FP.dcmp eb0 (0 : UInt64)) .l) < (0 : Int32)))).1) ?_
    refine XS.dload X8.here hx rfl (hb hby d1_145) rfl ?_
    exact k
  obtain ⟨_, _, ⟨T19, L19, k19, n19⟩, -, X19, ⟨Lc19, hQ19, l19, y19, z19⟩, st19⟩ := Jvm.LawKit.callS X8 hx (y := (⟨"java/lang/Double", "isInfinite", "(D)Z"⟩ : MethodName)) hown (mvT hZ (hw _ (List.mem_of_getElem? (i := 11) rfl))) (mvT hZ (hw _ (List.mem_of_getElem? (i := 12) rfl))) (mvT hZ (hw _ (List.mem_of_getElem? (i := 13) rfl))) (mvT hZ (hw _ (List.mem_of_getElem? (i := 14) rfl))) (by decide) (backOf (W := 0) (rm3 l Z ar hw [] eb0 h0 n0 Z0 h147_hn1 h147_hb8) hZ (hw _ (List.mem_of_getElem? (i := 14) rfl)) (hw _ (List.mem_of_getElem? (i := 13) rfl)) (by decide) (by decide)) (g := (mkF m 147 #[.val (.ref a0), .val (.ref a1), .val (.ref a2), .val (.ref a2), .val (.int (3 : Int32)), .val (.int (0 : Int32)), .val (.double eb0), .second] [(.double eb0)])) rfl (by rw [hml]; rfl) (argsL := [(.double eb0)]) (rest := []) (lenOf pdi3_0 rfl) rfl (by show 2 * 0 + _ ≤ _; exact Nat.le_of_eq rfl) (hb hby d1_147) (fun _ _ => ⟨rfl, e8, (by decide : 0 + 0 ≤ _), (by decide : 0 + 0 ≤ _)⟩)
  dsimp only [Pt.U, Pt.locs, Pt.cells, Pt.slots] at X19 l19 y19 z19 st19 hQ19
  subst l19 y19 z19
  obtain ⟨rfl, N19q, e19⟩ := hQ19
  have n20 := Fr.app n9 N19q
  refine own_st (T' := T19) (g' := (mkF m 150 #[.val (.ref a0), .val (.ref a1), .val (.ref a2), .val (.ref a2), .val (.int (3 : Int32)), .val (.int (0 : Int32)), .val (.double eb0), .second] [(.int (0 : Int32))])) st19 ?_
  refine own_st (T' := T19) (g' := (mkF m 135 #[.val (.ref a0), .val (.ref a1), .val (.ref a2), .val (.ref a2), .val (.int (3 : Int32)), .val (.int (1 : Int32)), .val (.double eb0), .second] [(.int (1 : Int32)), (.ref a2)])) (fun t k => ?_) ?_
  · show Steps p.tables e below (T19.setTop (mkF m 150 #[.val (.ref a0), .val (.ref a1), .val (.ref a2), .val (.ref a2), .val (.int (3 : Int32)), .val (.int (0 : Int32)), .val (.double eb0), .second] [(.int (0 : Int32))])) t
    refine XS.ifYes X19.here hx rfl (pc0 := 150) (pc' := 168) rfl (hb hby d1_150) rfl (by decide) (by decide) (by decide) ?_
    refine XS.iinc X19.here hx rfl (hb hby d1_168) rfl (l' := #[.val (.ref a0), .val (.ref a1), .val (.ref a2), .val (.ref a2), .val (.int (3 : Int32)), .val (.int (1 : Int32)), .val (.double eb0), .second]) rfl ?_
    refine XS.goto X19.here hx rfl (pc0 := 171) (pc' := 125) rfl (hb hby d1_171) (by decide) (by decide) ?_
    refine XS.iload X19.here hx rfl (hb hby d1_125) rfl ?_
    refine XS.iload X19.here hx rfl (hb hby d1_127) rfl ?_
    refine XS.icmpNo X19.here hx rfl (hb hby d1_129) rfl (by decide) ?_
    refine XS.aloadN X19.here hx rfl (hb hby d1_132) rfl rfl ?_
    refine XS.iload X19.here hx rfl (hb hby d1_133) rfl ?_
    exact k
  obtain ⟨c21, r21a, r21b, r21c, r21d, r21e, r21f⟩ := id V_a2
  have i21 : ¬ ((1 : Int32) < 0 ∨ c21.slots.size ≤ ((1 : Int32)).toNatClampNeg) := inb_of r21c ⟨by decide, by decide⟩
  have y21 : c21.slots[((1 : Int32)).toNatClampNeg]? = some (.double eb1) := r21e.at i21 rfl
  refine own_st (T' := T19) (g' := (mkF m 147 #[.val (.ref a0), .val (.ref a1), .val (.ref a2), .val (.ref a2), .val (.int (3 : Int32)), .val (.int (1 : Int32)), .val (.double eb1), .second] [(.double eb1)])) (fun t k => ?_) ?_
  · show Steps p.tables e below (T19.setTop (mkF m 135 #[.val (.ref a0), .val (.ref a1), .val (.ref a2), .val (.ref a2), .val (.int (3 : Int32)), .val (.int (1 : Int32)), .val (.double eb0), .second] [(.int (1 : Int32)), (.ref a2)])) t
    refine X19.daload hx (j := (1 : Int32)) (v := (.double eb1)) (by rw [e19]; exact r21a.1) (State.isArrayOf_alike hZ.alike r21a.2.1) r21a.2.2 i21 y21 (g := (mkF m 135 #[.val (.ref a0), .val (.ref a1), .val (.ref a2), .val (.ref a2), .val (.int (3 : Int32)), .val (.int (1 : Int32)), .val (.double eb0), .second] [(.int (1 : Int32)), (.ref a2)])) rfl rfl (hb hby d1_135) _ ?_
    refine XS.dstore X19.here hx rfl (hb hby d1_136) rfl (l' := #[.val (.ref a0), .val (.ref a1), .val (.ref a2), .val (.ref a2), .val (.int (3 : Int32)), .val (.int (1 : Int32)), .val (.double eb1), .second]) rfl ?_
    refine XS.dload X19.here hx rfl (hb hby d1_138) rfl ?_
    refine XS.dconst0 X19.here hx rfl (hb hby d1_140) rfl ?_
    refine XS.dcmpS X19.here hx rfl (hb hby d1_141) rfl rfl ?_
    refine XS.ifNo X19.here hx rfl (hb hby d1_142) rfl ((if0 _ _).trans (flt (hb142_1 : ¬ ((cmpValue (FP.dcmp eb1 (0 : UInt64)) .l) < (0 : Int32)))).1) ?_
    refine XS.dload X19.here hx rfl (hb hby d1_145) rfl ?_
    exact k
  obtain ⟨_, _, ⟨T22, L22, k22, n22⟩, -, X22, ⟨Lc22, hQ22, l22, y22, z22⟩, st22⟩ := Jvm.LawKit.callS X19 hx (y := (⟨"java/lang/Double", "isInfinite", "(D)Z"⟩ : MethodName)) hown (mvT hZ (hw _ (List.mem_of_getElem? (i := 11) rfl))) (mvT hZ (hw _ (List.mem_of_getElem? (i := 12) rfl))) (mvT hZ (hw _ (List.mem_of_getElem? (i := 13) rfl))) (mvT hZ (hw _ (List.mem_of_getElem? (i := 14) rfl))) (by decide) (backOf (W := 0) (rm3 l Z ar hw [] eb1 h0 n0 Z0 h147_hn1_1 h147_hb8_1) hZ (hw _ (List.mem_of_getElem? (i := 14) rfl)) (hw _ (List.mem_of_getElem? (i := 13) rfl)) (by decide) (by decide)) (g := (mkF m 147 #[.val (.ref a0), .val (.ref a1), .val (.ref a2), .val (.ref a2), .val (.int (3 : Int32)), .val (.int (1 : Int32)), .val (.double eb1), .second] [(.double eb1)])) rfl (by rw [hml]; rfl) (argsL := [(.double eb1)]) (rest := []) (lenOf pdi3_0 rfl) rfl (by show 2 * 0 + _ ≤ _; exact Nat.le_of_eq rfl) (hb hby d1_147) (fun _ _ => ⟨rfl, e19, (by decide : 0 + 0 ≤ _), (by decide : 0 + 0 ≤ _)⟩)
  dsimp only [Pt.U, Pt.locs, Pt.cells, Pt.slots] at X22 l22 y22 z22 st22 hQ22
  subst l22 y22 z22
  obtain ⟨rfl, N22q, e22⟩ := hQ22
  have n23 := Fr.app n20 N22q
  refine own_st (T' := T22) (g' := (mkF m 150 #[.val (.ref a0), .val (.ref a1), .val (.ref a2), .val (.ref a2), .val (.int (3 : Int32)), .val (.int (1 : Int32)), .val (.double eb1), .second] [(.int (0 : Int32))])) st22 ?_
  refine own_st (T' := T22) (g' := (mkF m 135 #[.val (.ref a0), .val (.ref a1), .val (.ref a2), .val (.ref a2), .val (.int (3 : Int32)), .val (.int (2 : Int32)), .val (.double eb1), .second] [(.int (2 : Int32)), (.ref a2)])) (fun t k => ?_) ?_
  · show Steps p.tables e below (T22.setTop (mkF m 150 #[.val (.ref a0), .val (.ref a1), .val (.ref a2), .val (.ref a2), .val (.int (3 : Int32)), .val (.int (1 : Int32)), .val (.double eb1), .second] [(.int (0 : Int32))])) t
    refine XS.ifYes X22.here hx rfl (pc0 := 150) (pc' := 168) rfl (hb hby d1_150) rfl (by decide) (by decide) (by decide) ?_
    refine XS.iinc X22.here hx rfl (hb hby d1_168) rfl (l' := #[.val (.ref a0), .val (.ref a1), .val (.ref a2), .val (.ref a2), .val (.int (3 : Int32)), .val (.int (2 : Int32)), .val (.double eb1), .second]) rfl ?_
    refine XS.goto X22.here hx rfl (pc0 := 171) (pc' := 125) rfl (hb hby d1_171) (by decide) (by decide) ?_
    refine XS.iload X22.here hx rfl (hb hby d1_125) rfl ?_
    refine XS.iload X22.here hx rfl (hb hby d1_127) rfl ?_
    refine XS.icmpNo X22.here hx rfl (hb hby d1_129) rfl (by decide) ?_
    refine XS.aloadN X22.here hx rfl (hb hby d1_132) rfl rfl ?_
    refine XS.iload X22.here hx rfl (hb hby d1_133) rfl ?_
    exact k
  obtain ⟨c24, r24a, r24b, r24c, r24d, r24e, r24f⟩ := id V_a2
  have i24 : ¬ ((2 : Int32) < 0 ∨ c24.slots.size ≤ ((2 : Int32)).toNatClampNeg) := inb_of r24c ⟨by decide, by decide⟩
  have y24 : c24.slots[((2 : Int32)).toNatClampNeg]? = some (.double eb2) := r24e.at i24 rfl
  refine own_st (T' := T22) (g' := (mkF m 147 #[.val (.ref a0), .val (.ref a1), .val (.ref a2), .val (.ref a2), .val (.int (3 : Int32)), .val (.int (2 : Int32)), .val (.double eb2), .second] [(.double eb2)])) (fun t k => ?_) ?_
  · show Steps p.tables e below (T22.setTop (mkF m 135 #[.val (.ref a0), .val (.ref a1), .val (.ref a2), .val (.ref a2), .val (.int (3 : Int32)), .val (.int (2 : Int32)), .val (.double eb1), .second] [(.int (2 : Int32)), (.ref a2)])) t
    refine X22.daload hx (j := (2 : Int32)) (v := (.double eb2)) (by rw [e22]; exact r24a.1) (State.isArrayOf_alike hZ.alike r24a.2.1) r24a.2.2 i24 y24 (g := (mkF m 135 #[.val (.ref a0), .val (.ref a1), .val (.ref a2), .val (.ref a2), .val (.int (3 : Int32)), .val (.int (2 : Int32)), .val (.double eb1), .second] [(.int (2 : Int32)), (.ref a2)])) rfl rfl (hb hby d1_135) _ ?_
    refine XS.dstore X22.here hx rfl (hb hby d1_136) rfl (l' := #[.val (.ref a0), .val (.ref a1), .val (.ref a2), .val (.ref a2), .val (.int (3 : Int32)), .val (.int (2 : Int32)), .val (.double eb2), .second]) rfl ?_
    refine XS.dload X22.here hx rfl (hb hby d1_138) rfl ?_
    refine XS.dconst0 X22.here hx rfl (hb hby d1_140) rfl ?_
    refine XS.dcmpS X22.here hx rfl (hb hby d1_141) rfl rfl ?_
    refine XS.ifNo X22.here hx rfl (hb hby d1_142) rfl ((if0 _ _).trans (flt (hb142_2 : ¬ ((cmpValue (FP.dcmp eb2 (0 : UInt64)) .l) < (0 : Int32)))).1) ?_
    refine XS.dload X22.here hx rfl (hb hby d1_145) rfl ?_
    exact k
  obtain ⟨_, _, ⟨T25, L25, k25, n25⟩, -, X25, ⟨Lc25, hQ25, l25, y25, z25⟩, st25⟩ := Jvm.LawKit.callS X22 hx (y := (⟨"java/lang/Double", "isInfinite", "(D)Z"⟩ : MethodName)) hown (mvT hZ (hw _ (List.mem_of_getElem? (i := 11) rfl))) (mvT hZ (hw _ (List.mem_of_getElem? (i := 12) rfl))) (mvT hZ (hw _ (List.mem_of_getElem? (i := 13) rfl))) (mvT hZ (hw _ (List.mem_of_getElem? (i := 14) rfl))) (by decide) (backOf (W := 0) (rm3 l Z ar hw [] eb2 h0 n0 Z0 h147_hn1_2 h147_hb8_2) hZ (hw _ (List.mem_of_getElem? (i := 14) rfl)) (hw _ (List.mem_of_getElem? (i := 13) rfl)) (by decide) (by decide)) (g := (mkF m 147 #[.val (.ref a0), .val (.ref a1), .val (.ref a2), .val (.ref a2), .val (.int (3 : Int32)), .val (.int (2 : Int32)), .val (.double eb2), .second] [(.double eb2)])) rfl (by rw [hml]; rfl) (argsL := [(.double eb2)]) (rest := []) (lenOf pdi3_0 rfl) rfl (by show 2 * 0 + _ ≤ _; exact Nat.le_of_eq rfl) (hb hby d1_147) (fun _ _ => ⟨rfl, e22, (by decide : 0 + 0 ≤ _), (by decide : 0 + 0 ≤ _)⟩)
  dsimp only [Pt.U, Pt.locs, Pt.cells, Pt.slots] at X25 l25 y25 z25 st25 hQ25
  subst l25 y25 z25
  obtain ⟨rfl, N25q, e25⟩ := hQ25
  have n26 := Fr.app n23 N25q
  refine own_st (T' := T25) (g' := (mkF m 150 #[.val (.ref a0), .val (.ref a1), .val (.ref a2), .val (.ref a2), .val (.int (3 : Int32)), .val (.int (2 : Int32)), .val (.double eb2), .second] [(.int (0 : Int32))])) st25 ?_
  refine own_st (T' := T25) (g' := (mkF m 176 #[.val (.ref a0), .val (.ref a1), .val (.ref a2), .val (.ref a2), .val (.int (3 : Int32)), .val (.int (3 : Int32)), .val (.double eb2), .second] [(.ref a1), (.ref a0)])) (fun t k => ?_) ?_
  · show Steps p.tables e below (T25.setTop (mkF m 150 #[.val (.ref a0), .val (.ref a1), .val (.ref a2), .val (.ref a2), .val (.int (3 : Int32)), .val (.int (2 : Int32)), .val (.double eb2), .second] [(.int (0 : Int32))])) t
    refine XS.ifYes X25.here hx rfl (pc0 := 150) (pc' := 168) rfl (hb hby d1_150) rfl (by decide) (by decide) (by decide) ?_
    refine XS.iinc X25.here hx rfl (hb hby d1_168) rfl (l' := #[.val (.ref a0), .val (.ref a1), .val (.ref a2), .val (.ref a2), .val (.int (3 : Int32)), .val (.int (3 : Int32)), .val (.double eb2), .second]) rfl ?_
    refine XS.goto X25.here hx rfl (pc0 := 171) (pc' := 125) rfl (hb hby d1_171) (by decide) (by decide) ?_
    refine XS.iload X25.here hx rfl (hb hby d1_125) rfl ?_
    refine XS.iload X25.here hx rfl (hb hby d1_127) rfl ?_
    refine XS.icmpYes X25.here hx rfl (pc0 := 129) (pc' := 174) rfl (hb hby d1_129) rfl (by decide) (by decide) (by decide) ?_
    refine XS.aloadN X25.here hx rfl (hb hby d1_174) rfl rfl ?_
    refine XS.aloadN X25.here hx rfl (hb hby d1_175) rfl rfl ?_
    exact k
  obtain ⟨T27, h27, X27, e27, E27, A27, B27, st27⟩ := cloneH X25 hx hZ hown (hw _ (List.mem_of_getElem? (i := 20) rfl)) (hw _ (List.mem_of_getElem? (i := 21) rfl)) (hw _ (List.mem_of_getElem? (i := 25) rfl)) (hw _ (List.mem_of_getElem? (i := 23) rfl)) (hw _ (List.mem_of_getElem? (i := 24) rfl)) (hw _ (List.mem_of_getElem? (i := 26) rfl)) e25 (Arv.arh V_a1) E_a1 (g := (mkF m 176 #[.val (.ref a0), .val (.ref a1), .val (.ref a2), .val (.ref a2), .val (.int (3 : Int32)), .val (.int (3 : Int32)), .val (.double eb2), .second] [(.ref a1), (.ref a0)])) rfl (by rw [hml]; rfl) rfl (hb hby d1_176) (by decide) (W := 1) (by show 2 * 0 + _ ≤ _; exact Nat.le_of_eq rfl) (by decide) (cap := 3) (by decide) (by decide) (by decide)
  obtain ⟨b27, g27⟩ : ∃ z, z = h0.size := ⟨_, rfl⟩
  rw [← g27] at A27 B27 st27
  have ne_a0_b27 : a0 ≠ b27 := Nat.ne_of_lt (Nat.lt_of_lt_of_le E_a0.lt (Nat.le_of_eq g27.symm))
  have ne_a1_b27 : a1 ≠ b27 := Nat.ne_of_lt (Nat.lt_of_lt_of_le E_a1.lt (Nat.le_of_eq g27.symm))
  have ne_a2_b27 : a2 ≠ b27 := Nat.ne_of_lt (Nat.lt_of_lt_of_le E_a2.lt (Nat.le_of_eq g27.symm))
  have g_b27 : n0 ≤ b27 := Nat.le_trans Z0 (Nat.le_of_eq g27.symm)
  have sz_b27 : h0.size ≤ b27 := Nat.le_trans K0.1 (Nat.le_of_eq g27.symm)
  have f28 := E_a0.ext E27
  have f29 := F_values_a0.ext E27
  have f30 := F_bids_a0.ext E27
  have f31 := E_a1.ext E27
  have f32 := V_a1.ext E27
  have f33 := E_a2.ext E27
  have f34 := V_a2.ext E27
  have z35 := Nat.le_trans Z0 E27.1
  have k36 := K0.ext E27
  have v37 : Arv Z h27 b27 kk_a1 .double (3 : Int32) [(.double ev0), (.double ev1), (.double ev2)] (.double (0 : UInt64)) := A27
  refine own_st (T' := T27) (g' := (mkF m 179 #[.val (.ref a0), .val (.ref a1), .val (.ref a2), .val (.ref a2), .val (.int (3 : Int32)), .val (.int (3 : Int32)), .val (.double eb2), .second] [(.ref b27), (.ref a0)])) st27 ?_
  obtain ⟨T38, X38, e38, st38⟩ := castY X27 hx hZ hown (hw _ (List.mem_of_getElem? (i := 27) rfl)) e27 (Ins.self B27) (g := (mkF m 179 #[.val (.ref a0), .val (.ref a1), .val (.ref a2), .val (.ref a2), .val (.int (3 : Int32)), .val (.int (3 : Int32)), .val (.double eb2), .second] [(.ref b27), (.ref a0)])) rfl rfl (hb hby d1_179)
  refine own_st (T' := T38) (g' := (mkF m 182 #[.val (.ref a0), .val (.ref a1), .val (.ref a2), .val (.ref a2), .val (.int (3 : Int32)), .val (.int (3 : Int32)), .val (.double eb2), .second] [(.ref b27), (.ref a0)])) st38 ?_
  obtain ⟨T39, h39, X39, e39, W39, st39⟩ := putF X38 hx hZ hown (host := "") (Or.inl (hw _ (List.mem_of_getElem? (i := 29) rfl))) Via.refl e38 f29 f28 (Or.inr ⟨(hw _ (List.mem_of_getElem? (i := 30) rfl)), rfl, hnm⟩) (hw _ (List.mem_of_getElem? (i := 3) rfl)) (ty := (.array .double)) (by decide) rfl rfl (g := (mkF m 182 #[.val (.ref a0), .val (.ref a1), .val (.ref a2), .val (.ref a2), .val (.int (3 : Int32)), .val (.int (3 : Int32)), .val (.double eb2), .second] [(.ref b27), (.ref a0)])) rfl rfl (hb hby d1_182)
  have f40 := f28.wr W39
  have f41 := f29.same W39
  have f42 := f30.other W39 (Or.inr (slot_ne (Or.inr (hw _ (List.mem_of_getElem? (i := 32) rfl))) (Or.inr (hw _ (List.mem_of_getElem? (i := 30) rfl))) (by decide) (t := (.array .double)) (t' := (.array .double)) (by decide) (by decide)))
  have f43 := f31.wr W39
  have f44 := f32.other W39 ne_a1_a0
  have f45 := f33.wr W39
  have f46 := f34.other W39 ne_a2_a0
  have f47 := v37.other W39 (Ne.symm ne_a0_b27)
  have f48 := B27.wr W39
  have z49 := Nat.le_trans z35 (Keep.of_wr W39).1
  have k50 := k36.wr W39 (Or.inl (List.mem_of_getElem? (i := 0) rfl))
  have n51 := Fr.snoc X39 n26 g_a0
  refine own_st (T' := T39) (g' := (mkF m 185 #[.val (.ref a0), .val (.ref a1), .val (.ref a2), .val (.ref a2), .val (.int (3 : Int32)), .val (.int (3 : Int32)), .val (.double eb2), .second] [])) st39 ?_
  refine own_st (T' := T39) (g' := (mkF m 187 #[.val (.ref a0), .val (.ref a1), .val (.ref a2), .val (.ref a2), .val (.int (3 : Int32)), .val (.int (3 : Int32)), .val (.double eb2), .second] [(.ref a2), (.ref a0)])) (fun t k => ?_) ?_
  · show Steps p.tables e below (T39.setTop (mkF m 185 #[.val (.ref a0), .val (.ref a1), .val (.ref a2), .val (.ref a2), .val (.int (3 : Int32)), .val (.int (3 : Int32)), .val (.double eb2), .second] [])) t
    refine XS.aloadN X39.here hx rfl (hb hby d1_185) rfl rfl ?_
    refine XS.aloadN X39.here hx rfl (hb hby d1_186) rfl rfl ?_
    exact k
  obtain ⟨T52, h52, X52, e52, E52, A52, B52, st52⟩ := cloneH X39 hx hZ hown (hw _ (List.mem_of_getElem? (i := 20) rfl)) (hw _ (List.mem_of_getElem? (i := 21) rfl)) (hw _ (List.mem_of_getElem? (i := 25) rfl)) (hw _ (List.mem_of_getElem? (i := 23) rfl)) (hw _ (List.mem_of_getElem? (i := 24) rfl)) (hw _ (List.mem_of_getElem? (i := 26) rfl)) e39 (Arv.arh f46) f45 (g := (mkF m 187 #[.val (.ref a0), .val (.ref a1), .val (.ref a2), .val (.ref a2), .val (.int (3 : Int32)), .val (.int (3 : Int32)), .val (.double eb2), .second] [(.ref a2), (.ref a0)])) rfl (by rw [hml]; rfl) rfl (hb hby d1_187) (by decide) (W := 1) (by show 2 * 0 + _ ≤ _; exact Nat.le_of_eq rfl) (by decide) (cap := 3) (by decide) (by decide) (by decide)
  obtain ⟨b52, g52⟩ : ∃ z, z = h39.size := ⟨_, rfl⟩
  rw [← g52] at A52 B52 st52
  have ne_a0_b52 : a0 ≠ b52 := Nat.ne_of_lt (Nat.lt_of_lt_of_le f40.lt (Nat.le_of_eq g52.symm))
  have ne_a1_b52 : a1 ≠ b52 := Nat.ne_of_lt (Nat.lt_of_lt_of_le f43.lt (Nat.le_of_eq g52.symm))
  have ne_a2_b52 : a2 ≠ b52 := Nat.ne_of_lt (Nat.lt_of_lt_of_le f45.lt (Nat.le_of_eq g52.symm))
  have ne_b27_b52 : b27 ≠ b52 := Nat.ne_of_lt (Nat.lt_of_lt_of_le f47.lt (Nat.le_of_eq g52.symm))
  have g_b52 : n0 ≤ b52 := Nat.le_trans z49 (Nat.le_of_eq g52.symm)
  have sz_b52 : h0.size ≤ b52 := Nat.le_trans k50.1 (Nat.le_of_eq g52.symm)
  have f53 := f40.ext E52
  have f54 := f41.ext E52
  have f55 := f42.ext E52
  have f56 := f43.ext E52
  have f57 := f44.ext E52
  have f58 := f45.ext E52
  have f59 := f46.ext E52
  have f60 := f47.ext E52
  have f61 := f48.ext E52
  have z62 := Nat.le_trans z49 E52.1
  have k63 := k50.ext E52
  have v64 : Arv Z h52 b52 kk_a2 .double (3 : Int32) [(.double eb0), (.double eb1), (.double eb2)] (.double (0 : UInt64)) := A52
  refine own_st (T' := T52) (g' := (mkF m 190 #[.val (.ref a0), .val (.ref a1), .val (.ref a2), .val (.ref a2), .val (.int (3 : Int32)), .val (.int (3 : Int32)), .val (.double eb2), .second] [(.ref b52), (.ref a0)])) st52 ?_
  obtain ⟨T65, X65, e65, st65⟩ := castY X52 hx hZ hown (hw _ (List.mem_of_getElem? (i := 27) rfl)) e52 (Ins.self B52) (g := (mkF m 190 #[.val (.ref a0), .val (.ref a1), .val (.ref a2), .val (.ref a2), .val (.int (3 : Int32)), .val (.int (3 : Int32)), .val (.double eb2), .second] [(.ref b52), (.ref a0)])) rfl rfl (hb hby d1_190)
  refine own_st (T' := T65) (g' := (mkF m 193 #[.val (.ref a0), .val (.ref a1), .val (.ref a2), .val (.ref a2), .val (.int (3 : Int32)), .val (.int (3 : Int32)), .val (.double eb2), .second] [(.ref b52), (.ref a0)])) st65 ?_
  obtain ⟨T66, h66, X66, e66, W66, st66⟩ := putF X65 hx hZ hown (host := "") (Or.inl (hw _ (List.mem_of_getElem? (i := 31) rfl))) Via.refl e65 f55 f53 (Or.inr ⟨(hw _ (List.mem_of_getElem? (i := 32) rfl)), rfl, hnm⟩) (hw _ (List.mem_of_getElem? (i := 3) rfl)) (ty := (.array .double)) (by decide) rfl rfl (g := (mkF m 193 #[.val (.ref a0), .val (.ref a1), .val (.ref a2), .val (.ref a2), .val (.int (3 : Int32)), .val (.int (3 : Int32)), .val (.double eb2), .second] [(.ref b52), (.ref a0)])) rfl rfl (hb hby d1_193)
  have f67 := f53.wr W66
  have f68 := f54.other W66 (Or.inr (slot_ne (Or.inr (hw _ (List.mem_of_getElem? (i := 30) rfl))) (Or.inr (hw _ (List.mem_of_getElem? (i := 32) rfl))) (by decide) (t := (.array .double)) (t' := (.array .double)) (by decide) (by decide)))
  have f69 := f55.same W66
  have f70 := f56.wr W66
  have f71 := f57.other W66 ne_a1_a0
  have f72 := f58.wr W66
  have f73 := f59.other W66 ne_a2_a0
  have f74 := f60.other W66 (Ne.symm ne_a0_b27)
  have f75 := f61.wr W66
  have f76 := v64.other W66 (Ne.symm ne_a0_b52)
  have f77 := B52.wr W66
  have z78 := Nat.le_trans z62 (Keep.of_wr W66).1
  have k79 := k63.wr W66 (Or.inl (List.mem_of_getElem? (i := 0) rfl))
  have n80 := Fr.snoc X66 n51 g_a0
  refine own_st (T' := T66) (g' := (mkF m 196 #[.val (.ref a0), .val (.ref a1), .val (.ref a2), .val (.ref a2), .val (.int (3 : Int32)), .val (.int (3 : Int32)), .val (.double eb2), .second] [])) st66 ?_
  refine own_retV X66 hx hlk Bd.returns (hb hby d1_196) (by decide) (by decide) ?_
  show Qi3 Z a0 a1 a2 u_values_a0 u_bids_a0 kk_a1 ev0 ev1 ev2 kk_a2 eb0 eb1 eb2 h0 n0 none T66.heap _
  rw [(e66 : T66.heap = h66)]
  exact ⟨b27, b52, rfl, n80, k79, sz_b27, sz_b52, ne_b27_b52, f67, f68, f69, f74, f75, f76, f77⟩
theorem pni4 : plainName "com/example/corewright/corewright/equilibrium/Strategy" = true := by first | (simp [plainName, overriddenIn]; done) | decide +kernel
theorem pdi4_0 : parseMethodDescriptor "(D)Z" = some ⟨[.double], some .boolean⟩ := by decide +kernel
theorem efi4 (m : MethodId) (a0 : Addr) (a1 : Addr) (a2 : Addr) : entryFrame m #[(.ref a0), (.ref a1), (.ref a2)] 8 = mkF m 0 #[.val (.ref a0), .val (.ref a1), .val (.ref a2), .unset, .unset, .unset, .unset, .unset] [] := by first | (simp [entryFrame, mkF, argsToLocals, Value.category]; done) | rfl
def Qi4 (Z : State) (a0 : Addr) (a1 : Addr) (a2 : Addr) (u_values_a0 : Value) (u_bids_a0 : Value) (kk_a1 : ClassId) (ev0 : UInt64) (ev1 : UInt64) (ev2 : UInt64) (ev3 : UInt64) (kk_a2 : ClassId) (eb0 : UInt64) (eb1 : UInt64) (eb2 : UInt64) (eb3 : UInt64) (h0 : Heap) (n0 : Nat) (v : Option Value) (h : Heap) (L : List Loc) : Prop := ∃ (x0 : Addr) (x1 : Addr), v = none ∧ Fr n0 L ∧ Keep h0 h [a0] ∧ h0.size ≤ x0 ∧ h0.size ≤ x1 ∧ x0 ≠ x1 ∧ Exa Z h a0 "com/example/corewright/corewright/equilibrium/Strategy" ∧ Fld Z h a0 "com/example/corewright/corewright/equilibrium/Strategy" "values" "[D" (.ref x0) ∧ Fld Z h a0 "com/example/corewright/corewright/equilibrium/Strategy" "bids" "[D" (.ref x1) ∧ Arv Z h x0 kk_a1 .double (4 : Int32) [(.double ev0), (.double ev1), (.double ev2), (.double ev3)] (.double (0 : UInt64)) ∧ Exa Z h x0 "[D" ∧ Arv Z h x1 kk_a2 .double (4 : Int32) [(.double eb0), (.double eb1), (.double eb2), (.double eb3)] (.double (0 : UInt64)) ∧ Exa Z h x1 "[D"
set_option maxRecDepth 65536 in
set_option maxHeartbeats 40000000 in
theorem rmi4 (l : Launch) (Z : State) (ar : Array Value) (hw : ∀ d ∈ tables_1, d.before ar Z = true) (ws : List Jvm.Cond) (a0 : Addr) (a1 : Addr) (a2 : Addr) (u_values_a0 : Value) (u_bids_a0 : Value) (kk_a1 : ClassId) (ev0 : UInt64) (ev1 : UInt64) (ev2 : UInt64) (ev3 : UInt64) (kk_a2 : ClassId) (eb0 : UInt64) (eb1 : UInt64) (eb2 : UInt64) (eb3 : UInt64) (h0 : Heap) (n0 : Nat) (Z0 : n0 ≤ h0.size) (E_a0 : Exa Z h0 a0 "com/example/corewright/corewright/equilibrium/Strategy") (F_values_a0 : Fld Z h0 a0 "com/example/corewright/corewright/equilibrium/Strategy" "values" "[D" u_values_a0) (F_bids_a0 : Fld Z h0 a0 "com/example/corewright/corewright/equilibrium/Strategy" "bids" "[D" u_bids_a0) (E_a1 : Exa Z h0 a1 "[D") (V_a1 : Arv Z h0 a1 kk_a1 .double (4 : Int32) [(.double ev0), (.double ev1), (.double ev2), (.double ev3)] (.double (0 : UInt64))) (E_a2 : Exa Z h0 a2 "[D") (V_a2 : Arv Z h0 a2 kk_a2 .double (4 : Int32) [(.double eb0), (.double eb1), (.double eb2), (.double eb3)] (.double (0 : UInt64))) (hq_7 : (cmpValue (FP.dcmp ev0 (0 : UInt64)) .l) = (0 : Int32)) (h58_hn1 : Jvm.Free.Fl.NoNaN64 ev3) (h58_hb8 : ¬ ((0 : Int32) < (cmpValue (FP.dcmp (ev3 &&& 0x7fffffffffffffff) (9218868437227405311 : UInt64)) .l))) (hq_10 : (cmpValue (FP.dcmp ev1 ev0) .l) = (1 : Int32)) (hq_11 : (cmpValue (FP.dcmp ev2 ev1) .l) = (1 : Int32)) (hq_12 : (cmpValue (FP.dcmp ev3 ev2) .l) = (1 : Int32)) (hb142 : ¬ ((cmpValue (FP.dcmp eb0 (0 : UInt64)) .l) < (0 : Int32))) (h147_hn1 : Jvm.Free.Fl.NoNaN64 eb0) (h147_hb8 : ¬ ((0 : Int32) < (cmpValue (FP.dcmp (eb0 &&& 0x7fffffffffffffff) (9218868437227405311 : UInt64)) .l))) (hb142_1 : ¬ ((cmpValue (FP.dcmp eb1 (0 : UInt64)) .l) < (0 : Int32))) (h147_hn1_1 : Jvm.Free.Fl.NoNaN64 eb1) (h147_hb8_1 : ¬ ((0 : Int32) < (cmpValue (FP.dcmp (eb1 &&& 0x7fffffffffffffff) (9218868437227405311 : UInt64)) .l))) (hb142_2 : ¬ ((cmpValue (FP.dcmp eb2 (0 : UInt64)) .l) < (0 : Int32))) (h147_hn1_2 : Jvm.Free.Fl.NoNaN64 eb2) (h147_hb8_2 : ¬ ((0 : Int32) < (cmpValue (FP.dcmp (eb2 &&& 0x7fffffffffffffff) (9218868437227405311 : UInt64)) .l))) (hb142_3 : ¬ ((cmpValue (FP.dcmp eb3 (0 : UInt64)) .l) < (0 : Int32))) (h147_hn1_3 : Jvm.Free.Fl.NoNaN64 eb3) (h147_hb8_3 : ¬ ((0 : Int32) < (cmpValue (FP.dcmp (eb3 &&& 0x7fffffffffffffff) (9218868437227405311 : UInt64)) .l))) (ne_a1_a0 : a1 ≠ a0) (ne_a2_a0 : a2 ≠ a0) (g_a0 : n0 ≤ a0) :
    MetFree l (⟨"com/example/corewright/corewright/equilibrium/Strategy", "<init>", "([D[D)V"⟩ : MethodName) (head1 (Jvm.Cond.code (⟨"com/example/corewright/corewright/equilibrium/Strategy", "<init>", "([D[D)V"⟩ : MethodName) prog_21_method_2_code 8 none :: ws) ({ frames := 2, cells := 2, slots := 8, locals := 26 } : Room)) (fun a U => a = #[(.ref a0), (.ref a1), (.ref a2)] ∧ Z.Warmed39 U.vm ∧ U.heap = h0) (fun _ _ _ _ _ => True) (fun _ U o U' => ∃ v L, o = .returned v ∧ Qi4 Z a0 a1 a2 u_values_a0 u_bids_a0 kk_a1 ev0 ev1 ev2 ev3 kk_a2 eb0 eb1 eb2 eb3 h0 n0 v U'.heap L ∧ FrameEnd U o U' L ({ frames := 2, cells := 2, slots := 8, locals := 26 } : Room).cells ({ frames := 2, cells := 2, slots := 8, locals := 26 } : Room).slots) := by
  refine MetFree.of_bodySF (plainFor_of_name pni4) hisR ?_
  intro p e s m args below meth c s₁ Bd hml0 hP hK
  obtain ⟨rfl, hZ, hh⟩ := hP
  have hx := Bd.exec
  have hby := Bd.bytes
  have hlk := Bd.notSynchronized
  have hml : c.maxLocals = 8 := hml0
  have hown : s.vm.findClass "com/example/corewright/corewright/equilibrium/Strategy" = some m.cls := findClass_of_methodNamed Bd.named
  have hnm := (name_of_methodNamed Bd.named Bd.method).1
  have X0 : Stand p l e ({ frames := 2, cells := 2, slots := 8, locals := 26 } : Room) s m #[(.ref a0), (.ref a1), (.ref a2)] below meth c s₁ [] 0 0 := Stand.of_body Bd
  have e0 : s₁.heap = h0 := by rw [← hh, Bd.state]; rfl
  have N0 := Fr.nil n0
  have K0 := Keep.refl h0 [a0]
  refine own_enter (Q := Qi4 Z a0 a1 a2 u_values_a0 u_bids_a0 kk_a1 ev0 ev1 ev2 ev3 kk_a2 eb0 eb1 eb2 eb3 h0 n0) (efi4 m a0 a1 a2) ?_
  refine own_st (T' := s₁) (g' := (mkF m 1 #[.val (.ref a0), .val (.ref a1), .val (.ref a2), .unset, .unset, .unset, .unset, .unset] [(.ref a0)])) (fun t k => ?_) ?_
  · show Steps p.tables e below (s₁.setTop (mkF m 0 #[.val (.ref a0), .val (.ref a1), .val (.ref a2), .unset, .unset, .unset, .unset, .unset] [])) t
    refine XS.aloadN X0.here hx rfl (hb hby d1_0) rfl rfl ?_
    exact k
  obtain ⟨T1, X1, e1, st1⟩ := initO X0 hx hZ hown (hw _ (List.mem_of_getElem? (i := 8) rfl)) (hw _ (List.mem_of_getElem? (i := 9) rfl)) (hw _ (List.mem_of_getElem? (i := 10) rfl)) e0 (g := (mkF m 1 #[.val (.ref a0), .val (.ref a1), .val (.ref a2), .unset, .unset, .unset, .unset, .unset] [(.ref a0)])) rfl (by rw [hml]; rfl) rfl (hb hby d1_1) (by decide) (W := 0) (by show 2 * 0 + _ ≤ _; exact Nat.le_of_eq rfl) (by decide)
  refine own_st (T' := T1) (g' := (mkF m 4 #[.val (.ref a0), .val (.ref a1), .val (.ref a2), .unset, .unset, .unset, .unset, .unset] [])) st1 ?_
  refine own_st (T' := T1) (g' := (mkF m 5 #[.val (.ref a0), .val (.ref a1), .val (.ref a2), .unset, .unset, .unset, .unset, .unset] [(.ref a1)])) (fun t k => ?_) ?_
  · show Steps p.tables e below (T1.setTop (mkF m 4 #[.val (.ref a0), .val (.ref a1), .val (.ref a2), .unset, .unset, .unset, .unset, .unset] [])) t
    refine XS.aloadN X1.here hx rfl (hb hby d1_4) rfl rfl ?_
    exact k
  obtain ⟨c2, r2a, -, r2c, r2d, -, -⟩ := id V_a1
  refine own_st (T' := T1) (g' := (mkF m 21 #[.val (.ref a0), .val (.ref a1), .val (.ref a2), .unset, .unset, .unset, .unset, .unset] [(.ref a2)])) (fun t k => ?_) ?_
  · show Steps p.tables e below (T1.setTop (mkF m 5 #[.val (.ref a0), .val (.ref a1), .val (.ref a2), .unset, .unset, .unset, .unset, .unset] [(.ref a1)])) t
    refine X1.arraylength hx (by rw [e1]; exact r2a.1) (State.isArrayOf_alike hZ.alike r2a.2.1) (g := (mkF m 5 #[.val (.ref a0), .val (.ref a1), .val (.ref a2), .unset, .unset, .unset, .unset, .unset] [(.ref a1)])) rfl rfl (hb hby d1_5) _ ?_
    rw [len_of r2c r2d]
    refine XS.iconst X1.here hx rfl (hb hby d1_6) ?_
    refine XS.icmpYes X1.here hx rfl (pc0 := 7) (pc' := 20) rfl (hb hby d1_7) rfl (by decide) (by decide) (by decide) ?_
    refine XS.aloadN X1.here hx rfl (hb hby d1_20) rfl rfl ?_
    exact k
  obtain ⟨c3, r3a, -, r3c, r3d, -, -⟩ := id V_a2
  refine own_st (T' := T1) (g' := (mkF m 23 #[.val (.ref a0), .val (.ref a1), .val (.ref a2), .unset, .unset, .unset, .unset, .unset] [(.ref a1), (.int (4 : Int32))])) (fun t k => ?_) ?_
  · show Steps p.tables e below (T1.setTop (mkF m 21 #[.val (.ref a0), .val (.ref a1), .val (.ref a2), .unset, .unset, .unset, .unset, .unset] [(.ref a2)])) t
    refine X1.arraylength hx (by rw [e1]; exact r3a.1) (State.isArrayOf_alike hZ.alike r3a.2.1) (g := (mkF m 21 #[.val (.ref a0), .val (.ref a1), .val (.ref a2), .unset, .unset, .unset, .unset, .unset] [(.ref a2)])) rfl rfl (hb hby d1_21) _ ?_
    rw [len_of r3c r3d]
    refine XS.aloadN X1.here hx rfl (hb hby d1_22) rfl rfl ?_
    exact k
  obtain ⟨c4, r4a, -, r4c, r4d, -, -⟩ := id V_a1
  refine own_st (T' := T1) (g' := (mkF m 46 #[.val (.ref a0), .val (.ref a1), .val (.ref a2), .unset, .unset, .unset, .unset, .unset] [(.int (0 : Int32)), (.ref a1)])) (fun t k => ?_) ?_
  · show Steps p.tables e below (T1.setTop (mkF m 23 #[.val (.ref a0), .val (.ref a1), .val (.ref a2), .unset, .unset, .unset, .unset, .unset] [(.ref a1), (.int (4 : Int32))])) t
    refine X1.arraylength hx (by rw [e1]; exact r4a.1) (State.isArrayOf_alike hZ.alike r4a.2.1) (g := (mkF m 23 #[.val (.ref a0), .val (.ref a1), .val (.ref a2), .unset, .unset, .unset, .unset, .unset] [(.ref a1), (.int (4 : Int32))])) rfl rfl (hb hby d1_23) _ ?_
    rw [len_of r4c r4d]
    refine XS.icmpYes X1.here hx rfl (pc0 := 24) (pc' := 44) rfl (hb hby d1_24) rfl (by decide) (by decide) (by decide) ?_
    refine XS.aloadN X1.here hx rfl (hb hby d1_44) rfl rfl ?_
    refine XS.iconst X1.here hx rfl (hb hby d1_45) ?_
    exact k
  obtain ⟨c5, r5a, r5b, r5c, r5d, r5e, r5f⟩ := id V_a1
  have i5 : ¬ ((0 : Int32) < 0 ∨ c5.slots.size ≤ ((0 : Int32)).toNatClampNeg) := inb_of r5c ⟨by decide, by decide⟩
  have y5 : c5.slots[((0 : Int32)).toNatClampNeg]? = some (.double ev0) := r5e.at i5 rfl
  refine own_st (T' := T1) (g' := (mkF m 54 #[.val (.ref a0), .val (.ref a1), .val (.ref a2), .unset, .unset, .unset, .unset, .unset] [(.ref a1), (.ref a1)])) (fun t k => ?_) ?_
  · show Steps p.tables e below (T1.setTop (mkF m 46 #[.val (.ref a0), .val (.ref a1), .val (.ref a2), .unset, .unset, .unset, .unset, .unset] [(.int (0 : Int32)), (.ref a1)])) t
    refine X1.daload hx (j := (0 : Int32)) (v := (.double ev0)) (by rw [e1]; exact r5a.1) (State.isArrayOf_alike hZ.alike r5a.2.1) r5a.2.2 i5 y5 (g := (mkF m 46 #[.val (.ref a0), .val (.ref a1), .val (.ref a2), .unset, .unset, .unset, .unset, .unset] [(.int (0 : Int32)), (.ref a1)])) rfl rfl (hb hby d1_46) _ ?_
    refine XS.dconst0 X1.here hx rfl (hb hby d1_47) rfl ?_
    refine XS.dcmpS X1.here hx rfl (hb hby d1_48) rfl hq_7 ?_
    refine XS.ifNo X1.here hx rfl (hb hby d1_49) rfl (by decide) ?_
    refine XS.aloadN X1.here hx rfl (hb hby d1_52) rfl rfl ?_
    refine XS.aloadN X1.here hx rfl (hb hby d1_53) rfl rfl ?_
    exact k
  obtain ⟨c6, r6a, -, r6c, r6d, -, -⟩ := id V_a1
  refine own_st (T' := T1) (g' := (mkF m 57 #[.val (.ref a0), .val (.ref a1), .val (.ref a2), .unset, .unset, .unset, .unset, .unset] [(.int (3 : Int32)), (.ref a1)])) (fun t k => ?_) ?_
  · show Steps p.tables e below (T1.setTop (mkF m 54 #[.val (.ref a0), .val (.ref a1), .val (.ref a2), .unset, .unset, .unset, .unset, .unset] [(.ref a1), (.ref a1)])) t
    refine X1.arraylength hx (by rw [e1]; exact r6a.1) (State.isArrayOf_alike hZ.alike r6a.2.1) (g := (mkF m 54 #[.val (.ref a0), .val (.ref a1), .val (.ref a2), .unset, .unset, .unset, .unset, .unset] [(.ref a1), (.ref a1)])) rfl rfl (hb hby d1_54) _ ?_
    rw [len_of r6c r6d]
    refine XS.iconst X1.here hx rfl (hb hby d1_55) ?_
    refine XS.isub X1.here hx rfl (hb hby d1_56) rfl ?_
    exact k
  obtain ⟨c7, r7a, r7b, r7c, r7d, r7e, r7f⟩ := id V_a1
  have i7 : ¬ ((3 : Int32) < 0 ∨ c7.slots.size ≤ ((3 : Int32)).toNatClampNeg) := inb_of r7c ⟨by decide, by decide⟩
  have y7 : c7.slots[((3 : Int32)).toNatClampNeg]? = some (.double ev3) := r7e.at i7 rfl
  refine own_st (T' := T1) (g' := (mkF m 58 #[.val (.ref a0), .val (.ref a1), .val (.ref a2), .unset, .unset, .unset, .unset, .unset] [(.double ev3)])) (fun t k => ?_) ?_
  · show Steps p.tables e below (T1.setTop (mkF m 57 #[.val (.ref a0), .val (.ref a1), .val (.ref a2), .unset, .unset, .unset, .unset, .unset] [(.int (3 : Int32)), (.ref a1)])) t
    refine X1.daload hx (j := (3 : Int32)) (v := (.double ev3)) (by rw [e1]; exact r7a.1) (State.isArrayOf_alike hZ.alike r7a.2.1) r7a.2.2 i7 y7 (g := (mkF m 57 #[.val (.ref a0), .val (.ref a1), .val (.ref a2), .unset, .unset, .unset, .unset, .unset] [(.int (3 : Int32)), (.ref a1)])) rfl rfl (hb hby d1_57) _ ?_
    exact k
  obtain ⟨_, _, ⟨T8, L8, k8, n8⟩, -, X8, ⟨Lc8, hQ8, l8, y8, z8⟩, st8⟩ := Jvm.LawKit.callS X1 hx (y := (⟨"java/lang/Double", "isInfinite", "(D)Z"⟩ : MethodName)) hown (mvT hZ (hw _ (List.mem_of_getElem? (i := 11) rfl))) (mvT hZ (hw _ (List.mem_of_getElem? (i := 12) rfl))) (mvT hZ (hw _ (List.mem_of_getElem? (i := 13) rfl))) (mvT hZ (hw _ (List.mem_of_getElem? (i := 14) rfl))) (by decide) (backOf (W := 0) (rm3 l Z ar hw [] ev3 h0 n0 Z0 h58_hn1 h58_hb8) hZ (hw _ (List.mem_of_getElem? (i := 14) rfl)) (hw _ (List.mem_of_getElem? (i := 13) rfl)) (by decide) (by decide)) (g := (mkF m 58 #[.val (.ref a0), .val (.ref a1), .val (.ref a2), .unset, .unset, .unset, .unset, .unset] [(.double ev3)])) rfl (by rw [hml]; rfl) (argsL := [(.double ev3)]) (rest := []) (lenOf pdi4_0 rfl) rfl (by show 2 * 0 + _ ≤ _; exact Nat.le_of_eq rfl) (hb hby d1_58) (fun _ _ => ⟨rfl, e1, (by decide : 0 + 0 ≤ _), (by decide : 0 + 0 ≤ _)⟩)
  dsimp only [Pt.U, Pt.locs, Pt.cells, Pt.slots] at X8 l8 y8 z8 st8 hQ8
  subst l8 y8 z8
  obtain ⟨rfl, N8q, e8⟩ := hQ8
  have n9 := Fr.app N0 N8q
  refine own_st (T' := T8) (g' := (mkF m 61 #[.val (.ref a0), .val (.ref a1), .val (.ref a2), .unset, .unset, .unset, .unset, .unset] [(.int (0 : Int32))])) st8 ?_
  refine own_st (T' := T8) (g' := (mkF m 78 #[.val (.ref a0), .val (.ref a1), .val (.ref a2), .val (.int (1 : Int32)), .unset, .unset, .unset, .unset] [(.ref a1), (.int (1 : Int32))])) (fun t k => ?_) ?_
  · show Steps p.tables e below (T8.setTop (mkF m 61 #[.val (.ref a0), .val (.ref a1), .val (.ref a2), .unset, .unset, .unset, .unset, .unset] [(.int (0 : Int32))])) t
    refine XS.ifYes X8.here hx rfl (pc0 := 61) (pc' := 74) rfl (hb hby d1_61) rfl (by decide) (by decide) (by decide) ?_
    refine XS.iconst X8.here hx rfl (hb hby d1_74) ?_
    refine XS.istoreN X8.here hx rfl (hb hby d1_75) rfl (l' := #[.val (.ref a0), .val (.ref a1), .val (.ref a2), .val (.int (1 : Int32)), .unset, .unset, .unset, .unset]) rfl ?_
    refine XS.iloadN X8.here hx rfl (hb hby d1_76) rfl ?_
    refine XS.aloadN X8.here hx rfl (hb hby d1_77) rfl rfl ?_
    exact k
  obtain ⟨c10, r10a, -, r10c, r10d, -, -⟩ := id V_a1
  refine own_st (T' := T8) (g' := (mkF m 84 #[.val (.ref a0), .val (.ref a1), .val (.ref a2), .val (.int (1 : Int32)), .unset, .unset, .unset, .unset] [(.int (1 : Int32)), (.ref a1)])) (fun t k => ?_) ?_
  · show Steps p.tables e below (T8.setTop (mkF m 78 #[.val (.ref a0), .val (.ref a1), .val (.ref a2), .val (.int (1 : Int32)), .unset, .unset, .unset, .unset] [(.ref a1), (.int (1 : Int32))])) t
    refine X8.arraylength hx (by rw [e8]; exact r10a.1) (State.isArrayOf_alike hZ.alike r10a.2.1) (g := (mkF m 78 #[.val (.ref a0), .val (.ref a1), .val (.ref a2), .val (.int (1 : Int32)), .unset, .unset, .unset, .unset] [(.ref a1), (.int (1 : Int32))])) rfl rfl (hb hby d1_78) _ ?_
    rw [len_of r10c r10d]
    refine XS.icmpNo X8.here hx rfl (hb hby d1_79) rfl (by decide) ?_
    refine XS.aloadN X8.here hx rfl (hb hby d1_82) rfl rfl ?_
    refine XS.iloadN X8.here hx rfl (hb hby d1_83) rfl ?_
    exact k
  obtain ⟨c11, r11a, r11b, r11c, r11d, r11e, r11f⟩ := id V_a1
  have i11 : ¬ ((1 : Int32) < 0 ∨ c11.slots.size ≤ ((1 : Int32)).toNatClampNeg) := inb_of r11c ⟨by decide, by decide⟩
  have y11 : c11.slots[((1 : Int32)).toNatClampNeg]? = some (.double ev1) := r11e.at i11 rfl
  refine own_st (T' := T8) (g' := (mkF m 89 #[.val (.ref a0), .val (.ref a1), .val (.ref a2), .val (.int (1 : Int32)), .unset, .unset, .unset, .unset] [(.int (0 : Int32)), (.ref a1), (.double ev1)])) (fun t k => ?_) ?_
  · show Steps p.tables e below (T8.setTop (mkF m 84 #[.val (.ref a0), .val (.ref a1), .val (.ref a2), .val (.int (1 : Int32)), .unset, .unset, .unset, .unset] [(.int (1 : Int32)), (.ref a1)])) t
    refine X8.daload hx (j := (1 : Int32)) (v := (.double ev1)) (by rw [e8]; exact r11a.1) (State.isArrayOf_alike hZ.alike r11a.2.1) r11a.2.2 i11 y11 (g := (mkF m 84 #[.val (.ref a0), .val (.ref a1), .val (.ref a2), .val (.int (1 : Int32)), .unset, .unset, .unset, .unset] [(.int (1 : Int32)), (.ref a1)])) rfl rfl (hb hby d1_84) _ ?_
    refine XS.aloadN X8.here hx rfl (hb hby d1_85) rfl rfl ?_
    refine XS.iloadN X8.here hx rfl (hb hby d1_86) rfl ?_
    refine XS.iconst X8.here hx rfl (hb hby d1_87) ?_
    refine XS.isub X8.here hx rfl (hb hby d1_88) rfl ?_
    exact k
  obtain ⟨c12, r12a, r12b, r12c, r12d, r12e, r12f⟩ := id V_a1
  have i12 : ¬ ((0 : Int32) < 0 ∨ c12.slots.size ≤ ((0 : Int32)).toNatClampNeg) := inb_of r12c ⟨by decide, by decide⟩
  have y12 : c12.slots[((0 : Int32)).toNatClampNeg]? = some (.double ev0) := r12e.at i12 rfl
  refine own_st (T' := T8) (g' := (mkF m 78 #[.val (.ref a0), .val (.ref a1), .val (.ref a2), .val (.int (2 : Int32)), .unset, .unset, .unset, .unset] [(.ref a1), (.int (2 : Int32))])) (fun t k => ?_) ?_
  · show Steps p.tables e below (T8.setTop (mkF m 89 #[.val (.ref a0), .val (.ref a1), .val (.ref a2), .val (.int (1 : Int32)), .unset, .unset, .unset, .unset] [(.int (0 : Int32)), (.ref a1), (.double ev1)])) t
    refine X8.daload hx (j := (0 : Int32)) (v := (.double ev0)) (by rw [e8]; exact r12a.1) (State.isArrayOf_alike hZ.alike r12a.2.1) r12a.2.2 i12 y12 (g := (mkF m 89 #[.val (.ref a0), .val (.ref a1), .val (.ref a2), .val (.int (1 : Int32)), .unset, .unset, .unset, .unset] [(.int (0 : Int32)), (.ref a1), (.double ev1)])) rfl rfl (hb hby d1_89) _ ?_
    refine XS.dcmpS X8.here hx rfl (hb hby d1_90) rfl hq_10 ?_
    refine XS.ifYes X8.here hx rfl (pc0 := 91) (pc' := 110) rfl (hb hby d1_91) rfl (by decide) (by decide) (by decide) ?_
    refine XS.iinc X8.here hx rfl (hb hby d1_110) rfl (l' := #[.val (.ref a0), .val (.ref a1), .val (.ref a2), .val (.int (2 : Int32)), .unset, .unset, .unset, .unset]) rfl ?_
    refine XS.goto X8.here hx rfl (pc0 := 113) (pc' := 76) rfl (hb hby d1_113) (by decide) (by decide) ?_
    refine XS.iloadN X8.here hx rfl (hb hby d1_76) rfl ?_
    refine XS.aloadN X8.here hx rfl (hb hby d1_77) rfl rfl ?_
    exact k
  obtain ⟨c13, r13a, -, r13c, r13d, -, -⟩ := id V_a1
  refine own_st (T' := T8) (g' := (mkF m 84 #[.val (.ref a0), .val (.ref a1), .val (.ref a2), .val (.int (2 : Int32)), .unset, .unset, .unset, .unset] [(.int (2 : Int32)), (.ref a1)])) (fun t k => ?_) ?_
  · show Steps p.tables e below (T8.setTop (mkF m 78 #[.val (.ref a0), .val (.ref a1), .val (.ref a2), .val (.int (2 : Int32)), .unset, .unset, .unset, .unset] [(.ref a1), (.int (2 : Int32))])) t
    refine X8.arraylength hx (by rw [e8]; exact r13a.1) (State.isArrayOf_alike hZ.alike r13a.2.1) (g := (mkF m 78 #[.val (.ref a0), .val (.ref a1), .val (.ref a2), .val (.int (2 : Int32)), .unset, .unset, .unset, .unset] [(.ref a1), (.int (2 : Int32))])) rfl rfl (hb hby d1_78) _ ?_
    rw [len_of r13c r13d]
    refine XS.icmpNo X8.here hx rfl (hb hby d1_79) rfl (by decide) ?_
    refine XS.aloadN X8.here hx rfl (hb hby d1_82) rfl rfl ?_
    refine XS.iloadN X8.here hx rfl (hb hby d1_83) rfl ?_
    exact k
  obtain ⟨c14, r14a, r14b, r14c, r14d, r14e, r14f⟩ := id V_a1
  have i14 : ¬ ((2 : Int32) < 0 ∨ c14.slots.size ≤ ((2 : Int32)).toNatClampNeg) := inb_of r14c ⟨by decide, by decide⟩
  have y14 : c14.slots[((2 : Int32)).toNatClampNeg]? = some (.double ev2) := r14e.at i14 rfl
  refine own_st (T' := T8) (g' := (mkF m 89 #[.val (.ref a0), .val (.ref a1), .val (.ref a2), .val (.int (2 : Int32)), .unset, .unset, .unset, .unset] [(.int (1 : Int32)), (.ref a1), (.double ev2)])) (fun t k => ?_) ?_
  · show Steps p.tables e below (T8.setTop (mkF m 84 #[.val (.ref a0), .val (.ref a1), .val (.ref a2), .val (.int (2 : Int32)), .unset, .unset, .unset, .unset] [(.int (2 : Int32)), (.ref a1)])) t
    refine X8.daload hx (j := (2 : Int32)) (v := (.double ev2)) (by rw [e8]; exact r14a.1) (State.isArrayOf_alike hZ.alike r14a.2.1) r14a.2.2 i14 y14 (g := (mkF m 84 #[.val (.ref a0), .val (.ref a1), .val (.ref a2), .val (.int (2 : Int32)), .unset, .unset, .unset, .unset] [(.int (2 : Int32)), (.ref a1)])) rfl rfl (hb hby d1_84) _ ?_
    refine XS.aloadN X8.here hx rfl (hb hby d1_85) rfl rfl ?_
    refine XS.iloadN X8.here hx rfl (hb hby d1_86) rfl ?_
    refine XS.iconst X8.here hx rfl (hb hby d1_87) ?_
    refine XS.isub X8.here hx rfl (hb hby d1_88) rfl ?_
    exact k
  obtain ⟨c15, r15a, r15b, r15c, r15d, r15e, r15f⟩ := id V_a1
  have i15 : ¬ ((1 : Int32) < 0 ∨ c15.slots.size ≤ ((1 : Int32)).toNatClampNeg) := inb_of r15c ⟨by decide, by decide⟩
  have y15 : c15.slots[((1 : Int32)).toNatClampNeg]? = some (.double ev1) := r15e.at i15 rfl
  refine own_st (T' := T8) (g' := (mkF m 78 #[.val (.ref a0), .val (.ref a1), .val (.ref a2), .val (.int (3 : Int32)), .unset, .unset, .unset, .unset] [(.ref a1), (.int (3 : Int32))])) (fun t k => ?_) ?_
  · show Steps p.tables e below (T8.setTop (mkF m 89 #[.val (.ref a0), .val (.ref a1), .val (.ref a2), .val (.int (2 : Int32)), .unset, .unset, .unset, .unset] [(.int (1 : Int32)), (.ref a1), (.double ev2)])) t
    refine X8.daload hx (j := (1 : Int32)) (v := (.double ev1)) (by rw [e8]; exact r15a.1) (State.isArrayOf_alike hZ.alike r15a.2.1) r15a.2.2 i15 y15 (g := (mkF m 89 #[.val (.ref a0), .val (.ref a1), .val (.ref a2), .val (.int (2 : Int32)), .unset, .unset, .unset, .unset] [(.int (1 : Int32)), (.ref a1), (.double ev2)])) rfl rfl (hb hby d1_89) _ ?_
    refine XS.dcmpS X8.here hx rfl (hb hby d1_90) rfl hq_11 ?_
    refine XS.ifYes X8.here hx rfl (pc0 := 91) (pc' := 110) rfl (hb hby d1_91) rfl (by decide) (by decide) (by decide) ?_
    refine XS.iinc X8.here hx rfl (hb hby d1_110) rfl (l' := #[.val (.ref a0), .val (.ref a1), .val (.ref a2), .val (.int (3 : Int32)), .unset, .unset, .unset, .unset]) rfl ?_
    refine XS.goto X8.here hx rfl (pc0 := 113) (pc' := 76) rfl (hb hby d1_113) (by decide) (by decide) ?_
    refine XS.iloadN X8.here hx rfl (hb hby d1_76) rfl ?_
    refine XS.aloadN X8.here hx rfl (hb hby d1_77) rfl rfl ?_
    exact k
  obtain ⟨c16, r16a, -, r16c, r16d, -, -⟩ := id V_a1
  refine own_st (T' := T8) (g' := (mkF m 84 #[.val (.ref a0), .val (.ref a1), .val (.ref a2), .val (.int (3 : Int32)), .unset, .unset, .unset, .unset] [(.int (3 : Int32)), (.ref a1)])) (fun t k => ?_) ?_
  · show Steps p.tables e below (T8.setTop (mkF m 78 #[.val (.ref a0), .val (.ref a1), .val (.ref a2), .val (.int (3 : Int32)), .unset, .unset, .unset, .unset] [(.ref a1), (.int (3 : Int32))])) t
    refine X8.arraylength hx (by rw [e8]; exact r16a.1) (State.isArrayOf_alike hZ.alike r16a.2.1) (g := (mkF m 78 #[.val (.ref a0), .val (.ref a1), .val (.ref a2), .val (.int (3 : Int32)), .unset, .unset, .unset, .unset] [(.ref a1), (.int (3 : Int32))])) rfl rfl (hb hby d1_78) _ ?_
    rw [len_of r16c r16d]
    refine XS.icmpNo X8.here hx rfl (hb hby d1_79) rfl (by decide) ?_
    refine XS.aloadN X8.here hx rfl (hb hby d1_82) rfl rfl ?_
    refine XS.iloadN X8.here hx rfl (hb hby d1_83) rfl ?_
    exact k
  obtain ⟨c17, r17a, r17b, r17c, r17d, r17e, r17f⟩ := id V_a1
  have i17 : ¬ ((3 : Int32) < 0 ∨ c17.slots.size ≤ ((3 : Int32)).toNatClampNeg) := inb_of r17c ⟨by decide, by decide⟩
  have y17 : c17.slots[((3 : Int32)).toNatClampNeg]? = some (.double ev3) := r17e.at i17 rfl
  refine own_st (T' := T8) (g' := (mkF m 89 #[.val (.ref a0), .val (.ref a1), .val (.ref a2), .val (.int (3 : Int32)), .unset, .unset, .unset, .unset] [(.int (2 : Int32)), (.ref a1), (.double ev3)])) (fun t k => ?_) ?_
  · show Steps p.tables e below (T8.setTop (mkF m 84 #[.val (.ref a0), .val (.ref a1), .val (.ref a2), .val (.int (3 : Int32)), .unset, .unset, .unset, .unset] [(.int (3 : Int32)), (.ref a1)])) t
    refine X8.daload hx (j := (3 : Int32)) (v := (.double ev3)) (by rw [e8]; exact r17a.1) (State.isArrayOf_alike hZ.alike r17a.2.1) r17a.2.2 i17 y17 (g := (mkF m 84 #[.val (.ref a0), .val (.ref a1), .val (.ref a2), .val (.int (3 : Int32)), .unset, .unset, .unset, .unset] [(.int (3 : Int32)), (.ref a1)])) rfl rfl (hb hby d1_84) _ ?_
    refine XS.aloadN X8.here hx rfl (hb hby d1_85) rfl rfl ?_
    refine XS.iloadN X8.here hx rfl (hb hby d1_86) rfl ?_
    refine XS.iconst X8.here hx rfl (hb hby d1_87) ?_
    refine XS.isub X8.here hx rfl (hb hby d1_88) rfl ?_
    exact k
  obtain ⟨c18, r18a, r18b, r18c, r18d, r18e, r18f⟩ := id V_a1
  have i18 : ¬ ((2 : Int32) < 0 ∨ c18.slots.size ≤ ((2 : Int32)).toNatClampNeg) := inb_of r18c ⟨by decide, by decide⟩
  have y18 : c18.slots[((2 : Int32)).toNatClampNeg]? = some (.double ev2) := r18e.at i18 rfl
  refine own_st (T' := T8) (g' := (mkF m 78 #[.val (.ref a0), .val (.ref a1), .val (.ref a2), .val (.int (4 : Int32)), .unset, .unset, .unset, .unset] [(.ref a1), (.int (4 : Int32))])) (fun t k => ?_) ?_
  · show Steps p.tables e below (T8.setTop (mkF m 89 #[.val (.ref a0), .val (.ref a1), .val (.ref a2), .val (.int (3 : Int32)), .unset, .unset, .unset, .unset] [(.int (2 : Int32)), (.ref a1), (.double ev3)])) t
    refine X8.daload hx (j := (2 : Int32)) (v := (.double ev2)) (by rw [e8]; exact r18a.1) (State.isArrayOf_alike hZ.alike r18a.2.1) r18a.2.2 i18 y18 (g := (mkF m 89 #[.val (.ref a0), .val (.ref a1), .val (.ref a2), .val (.int (3 : Int32)), .unset, .unset, .unset, .unset] [(.int (2 : Int32)), (.ref a1), (.double ev3)])) rfl rfl (hb hby d1_89) _ ?_
    refine XS.dcmpS X8.here hx rfl (hb hby d1_90) rfl hq_12 ?_
    refine XS.ifYes X8.here hx rfl (pc0 := 91) (pc' := 110) rfl (hb hby d1_91) rfl (by decide) (by decide) (by decide) ?_
    refine XS.iinc X8.here hx rfl (hb hby d1_110) rfl (l' := #[.val (.ref a0), .val (.ref a1), .val (.ref a2), .val (.int (4 : Int32)), .unset, .unset, .unset, .unset]) rfl ?_
    refine XS.goto X8.here hx rfl (pc0 := 113) (pc' := 76) rfl (hb hby d1_113) (by decide) (by decide) ?_
    refine XS.iloadN X8.here hx rfl (hb hby d1_76) rfl ?_
    refine XS.aloadN X8.here hx rfl (hb hby d1_77) rfl rfl ?_
    exact k
  obtain ⟨c19, r19a, -, r19c, r19d, -, -⟩ := id V_a1
  refine own_st (T' := T8) (g' := (mkF m 119 #[.val (.ref a0), .val (.ref a1), .val (.ref a2), .val (.ref a2), .unset, .unset, .unset, .unset] [(.ref a2)])) (fun t k => ?_) ?_
  · show Steps p.tables e below (T8.setTop (mkF m 78 #[.val (.ref a0), .val (.ref a1), .val (.ref a2), .val (.int (4 : Int32)), .unset, .unset, .unset, .unset] [(.ref a1), (.int (4 : Int32))])) t
    refine X8.arraylength hx (by rw [e8]; exact r19a.1) (State.isArrayOf_alike hZ.alike r19a.2.1) (g := (mkF m 78 #[.val (.ref a0), .val (.ref a1), .val (.ref a2), .val (.int (4 : Int32)), .unset, .unset, .unset, .unset] [(.ref a1), (.int (4 : Int32))])) rfl rfl (hb hby d1_78) _ ?_
    rw [len_of r19c r19d]
    refine XS.icmpYes X8.here hx rfl (pc0 := 79) (pc' := 116) rfl (hb hby d1_79) rfl (by decide) (by decide) (by decide) ?_
    refine XS.aloadN X8.here hx rfl (hb hby d1_116) rfl rfl ?_
    refine XS.astoreN X8.here hx rfl (hb hby d1_117) rfl rfl (l' := #[.val (.ref a0), .val (.ref a1), .val (.ref a2), .val (.ref a2), .unset, .unset, .unset, .unset]) rfl ?_
    refine XS.aloadN X8.here hx rfl (hb hby d1_118) rfl rfl ?_
    exact k
  obtain ⟨c20, r20a, -, r20c, r20d, -, -⟩ := id V_a2
  refine own_st (T' := T8) (g' := (mkF m 135 #[.val (.ref a0), .val (.ref a1), .val (.ref a2), .val (.ref a2), .val (.int (4 : Int32)), .val (.int (0 : Int32)), .unset, .unset] [(.int (0 : Int32)), (.ref a2)])) (fun t k => ?_) ?_
  · show Steps p.tables e below (T8.setTop (mkF m 119 #[.val (.ref a0), .val (.ref a1), .val (.ref a2), .val (.ref a2), .unset, .unset, .unset, .unset] [(.ref a2)])) t
    refine X8.arraylength hx (by rw [e8]; exact r20a.1) (State.isArrayOf_alike hZ.alike r20a.2.1) (g := (mkF m 119 #[.val (.ref a0), .val (.ref a1), .val (.ref a2), .val (.ref a2), .unset, .unset, .unset, .unset] [(.ref a2)])) rfl rfl (hb hby d1_119) _ ?_
    rw [len_of r20c r20d]
    refine XS.istore X8.here hx rfl (hb hby d1_120) rfl (l' := #[.val (.ref a0), .val (.ref a1), .val (.ref a2), .val (.ref a2), .val (.int (4 : Int32)), .unset, .unset, .unset]) rfl ?_
    refine XS.iconst X8.here hx rfl (hb hby d1_122) ?_
    refine XS.istore X8.here hx rfl (hb hby d1_123) rfl (l' := #[.val (.ref a0), .val (.ref a1), .val (.ref a2), .val (.ref a2), .val (.int (4 : Int32)), .val (.int (0 : Int32)), .unset, .unset]) rfl ?_
    refine XS.iload X8.here hx rfl (hb hby d1_125) rfl ?_
    refine XS.iload X8.here hx rfl (hb hby d1_127) rfl ?_
    refine XS.icmpNo X8.here hx rfl (hb hby d1_129) rfl (by decide) ?_
    refine XS.aloadN X8.here hx rfl (hb hby d1_132) rfl rfl ?_
    show Steps p.tables e below (T8.setTop (mkF m 133 #[.val (.ref a0), .val (.ref a1), .val (.ref a2), .val (.ref a2), .val (.int (4 : Int32)), .val (.int (0 : Int32)), .unset, .unset] [(.ref a2)])) t
    refine XS.iload X8.here hx rfl (hb hby d1_133) rfl ?_
    exact k
  obtain ⟨c21, r21a, r21b, r21c, r21d, r21e, r21f⟩ := id V_a2
  have i21 : ¬ ((0 : Int32) < 0 ∨ c21.slots.size ≤ ((0 : Int32)).toNatClampNeg) := inb_of r21c ⟨by decide, by decide⟩
  have y21 : c21.slots[((0 : Int32)).toNatClampNeg]? = some (.double eb0) := r21e.at i21 rfl
  refine own_st (T' := T8) (g' := (mkF m 147 #[.val (.ref a0), .val (.ref a1), .val (.ref a2), .val (.ref a2), .val (.int (4 : Int32)), .val (.int (0 : Int32)), .val (.double eb0), .second] [(.double eb0)])) (fun t k => ?_) ?_
  · show Steps p.tables e below (T8.setTop (mkF m 135 #[.val (.ref a0), .val (.ref a1), .val (.ref a2), .val (.ref a2), .val (.int (4 : Int32)), .val (.int (0 : Int32)), .unset, .unset] [(.int (0 : Int32)), (.ref a2)])) t
    refine X8.daload hx (j := (0 : Int32)) (v := (.double eb0)) (by rw [e8]; exact r21a.1) (State.isArrayOf_alike hZ.alike r21a.2.1) r21a.2.2 i21 y21 (g := (mkF m 135 #[.val (.ref a0), .val (.ref a1), .val (.ref a2), .val (.ref a2), .val (.int (4 : Int32)), .val (.int (0 : Int32)), .unset, .unset] [(.int (0 : Int32)), (.ref a2)])) rfl rfl (hb hby d1_135) _ ?_
    refine XS.dstore X8.here hx rfl (hb hby d1_136) rfl (l' := #[.val (.ref a0), .val (.ref a1), .val (.ref a2), .val (.ref a2), .val (.int (4 : Int32)), .val (.int (0 : Int32)), .val (.double eb0), .second]) rfl ?_
    refine XS.dload X8.here hx rfl (hb hby d1_138) rfl ?_
    refine XS.dconst0 X8.here hx rfl (hb hby d1_140) rfl ?_
    refine XS.dcmpS X8.here hx rfl (hb hby d1_141) rfl rfl ?_
    refine XS.ifNo X8.here hx rfl (hb hby d1_142) rfl ((if0 _ _).trans (flt (hb142 : ¬ ((cmpValue (FP.dcmp eb0 (0 : UInt64)) .l) < (0 : Int32)))).1) ?_
    refine XS.dload X8.here hx rfl (hb hby d1_145) rfl ?_
    exact k
  obtain ⟨_, _, ⟨T22, L22, k22, n22⟩, -, X22, ⟨Lc22, hQ22, l22, y22, z22⟩, st22⟩ := Jvm.LawKit.callS X8 hx (y := (⟨"java/lang/Double", "isInfinite", "(D)Z"⟩ : MethodName)) hown (mvT hZ (hw _ (List.mem_of_getElem? (i := 11) rfl))) (mvT hZ (hw _ (List.mem_of_getElem? (i := 12) rfl))) (mvT hZ (hw _ (List.mem_of_getElem? (i := 13) rfl))) (mvT hZ (hw _ (List.mem_of_getElem? (i := 14) rfl))) (by decide) (backOf (W := 0) (rm3 l Z ar hw [] eb0 h0 n0 Z0 h147_hn1 h147_hb8) hZ (hw _ (List.mem_of_getElem? (i := 14) rfl)) (hw _ (List.mem_of_getElem? (i := 13) rfl)) (by decide) (by decide)) (g := (mkF m 147 #[.val (.ref a0), .val (.ref a1), .val (.ref a2), .val (.ref a2), .val (.int (4 : Int32)), .val (.int (0 : Int32)), .val (.double eb0), .second] [(.double eb0)])) rfl (by rw [hml]; rfl) (argsL := [(.double eb0)]) (rest := []) (lenOf pdi4_0 rfl) rfl (by show 2 * 0 + _ ≤ _; exact Nat.le_of_eq rfl) (hb hby d1_147) (fun _ _ => ⟨rfl, e8, (by decide : 0 + 0 ≤ _), (by decide : 0 + 0 ≤ _)⟩)
  dsimp only [Pt.U, Pt.locs, Pt.cells, Pt.slots] at X22 l22 y22 z22 st22 hQ22
  subst l22 y22 z22
  obtain ⟨rfl, N22q, e22⟩ := hQ22
  have n23 := Fr.app n9 N22q
  refine own_st (T' := T22) (g' := (mkF m 150 #[.val (.ref a0), .val (.ref a1), .val (.ref a2), .val (.ref a2), .val (.int (4 : Int32)), .val (.int (0 : Int32)), .val (.double eb0), .second] [(.int (0 : Int32))])) st22 ?_
  refine own_st (T' := T22) (g' := (mkF m 135 #[.val (.ref a0), .val (.ref a1), .val (.ref a2), .val (.ref a2), .val (.int (4 : Int32)), .val (.int (1 : Int32)), .val (.double eb0), .second] [(.int (1 : Int32)), (.ref a2)])) (fun t k => ?_) ?_
  · show Steps p.tables e below (T22.setTop (mkF m 150 #[.val (.ref a0), .val (.ref a1), .val (.ref a2), .val (.ref a2), .val (.int (4 : Int32)), .val (.int (0 : Int32)), .val (.double eb0), .second] [(.int (0 : Int32))])) t
    refine XS.ifYes X22.here hx rfl (pc0 := 150) (pc' := 168) rfl (hb hby d1_150) rfl (by decide) (by decide) (by decide) ?_
    refine XS.iinc X22.here hx rfl (hb hby d1_168) rfl (l' := #[.val (.ref a0), .val (.ref a1), .val (.ref a2), .val (.ref a2), .val (.int (4 : Int32)), .val (.int (1 : Int32)), .val (.double eb0), .second]) rfl ?_
    refine XS.goto X22.here hx rfl (pc0 := 171) (pc' := 125) rfl (hb hby d1_171) (by decide) (by decide) ?_
    refine XS.iload X22.here hx rfl (hb hby d1_125) rfl ?_
    refine XS.iload X22.here hx rfl (hb hby d1_127) rfl ?_
    refine XS.icmpNo X22.here hx rfl (hb hby d1_129) rfl (by decide) ?_
    refine XS.aloadN X22.here hx rfl (hb hby d1_132) rfl rfl ?_
    refine XS.iload X22.here hx rfl (hb hby d1_133) rfl ?_
    exact k
  obtain ⟨c24, r24a, r24b, r24c, r24d, r24e, r24f⟩ := id V_a2
  have i24 : ¬ ((1 : Int32) < 0 ∨ c24.slots.size ≤ ((1 : Int32)).toNatClampNeg) := inb_of r24c ⟨by decide, by decide⟩
  have y24 : c24.slots[((1 : Int32)).toNatClampNeg]? = some (.double eb1) := r24e.at i24 rfl
  refine own_st (T' := T22) (g' := (mkF m 147 #[.val (.ref a0), .val (.ref a1), .val (.ref a2), .val (.ref a2), .val (.int (4 : Int32)), .val (.int (1 : Int32)), .val (.double eb1), .second] [(.double eb1)])) (fun t k => ?_) ?_
  · show Steps p.tables e below (T22.setTop (mkF m 135 #[.val (.ref a0), .val (.ref a1), .val (.ref a2), .val (.ref a2), .val (.int (4 : Int32)), .val (.int (1 : Int32)), .val (.double eb0), .second] [(.int (1 : Int32)), (.ref a2)])) t
    refine X22.daload hx (j := (1 : Int32)) (v := (.double eb1)) (by rw [e22]; exact r24a.1) (State.isArrayOf_alike hZ.alike r24a.2.1) r24a.2.2 i24 y24 (g := (mkF m 135 #[.val (.ref a0), .val (.ref a1), .val (.ref a2), .val (.ref a2), .val (.int (4 : Int32)), .val (.int (1 : Int32)), .val (.double eb0), .second] [(.int (1 : Int32)), (.ref a2)])) rfl rfl (hb hby d1_135) _ ?_
    refine XS.dstore X22.here hx rfl (hb hby d1_136) rfl (l' := #[.val (.ref a0), .val (.ref a1), .val (.ref a2), .val (.ref a2), .val (.int (4 : Int32)), .val (.int (1 : Int32)), .val (.double eb1), .second]) rfl ?_
    refine XS.dload X22.here hx rfl (hb hby d1_138) rfl ?_
    refine XS.dconst0 X22.here hx rfl (hb hby d1_140) rfl ?_
    refine XS.dcmpS X22.here hx rfl (hb hby d1_141) rfl rfl ?_
    refine XS.ifNo X22.here hx rfl (hb hby d1_142) rfl ((if0 _ _).trans (flt (hb142_1 : ¬ ((cmpValue (FP.dcmp eb1 (0 : UInt64)) .l) < (0 : Int32)))).1) ?_
    refine XS.dload X22.here hx rfl (hb hby d1_145) rfl ?_
    exact k
  obtain ⟨_, _, ⟨T25, L25, k25, n25⟩, -, X25, ⟨Lc25, hQ25, l25, y25, z25⟩, st25⟩ := Jvm.LawKit.callS X22 hx (y := (⟨"java/lang/Double", "isInfinite", "(D)Z"⟩ : MethodName)) hown (mvT hZ (hw _ (List.mem_of_getElem? (i := 11) rfl))) (mvT hZ (hw _ (List.mem_of_getElem? (i := 12) rfl))) (mvT hZ (hw _ (List.mem_of_getElem? (i := 13) rfl))) (mvT hZ (hw _ (List.mem_of_getElem? (i := 14) rfl))) (by decide) (backOf (W := 0) (rm3 l Z ar hw [] eb1 h0 n0 Z0 h147_hn1_1 h147_hb8_1) hZ (hw _ (List.mem_of_getElem? (i := 14) rfl)) (hw _ (List.mem_of_getElem? (i := 13) rfl)) (by decide) (by decide)) (g := (mkF m 147 #[.val (.ref a0), .val (.ref a1), .val (.ref a2), .val (.ref a2), .val (.int (4 : Int32)), .val (.int (1 : Int32)), .val (.double eb1), .second] [(.double eb1)])) rfl (by rw [hml]; rfl) (argsL := [(.double eb1)]) (rest := []) (lenOf pdi4_0 rfl) rfl (by show 2 * 0 + _ ≤ _; exact Nat.le_of_eq rfl) (hb hby d1_147) (fun _ _ => ⟨rfl, e22, (by decide : 0 + 0 ≤ _), (by decide : 0 + 0 ≤ _)⟩)
  dsimp only [Pt.U, Pt.locs, Pt.cells, Pt.slots] at X25 l25 y25 z25 st25 hQ25
  subst l25 y25 z25
  obtain ⟨rfl, N25q, e25⟩ := hQ25
  have n26 := Fr.app n23 N25q
  refine own_st (T' := T25) (g' := (mkF m 150 #[.val (.ref a0), .val (.ref a1), .val (.ref a2), .val (.ref a2), .val (.int (4 : Int32)), .val (.int (1 : Int32)), .val (.double eb1), .second] [(.int (0 : Int32))])) st25 ?_
  refine own_st (T' := T25) (g' := (mkF m 135 #[.val (.ref a0), .val (.ref a1), .val (.ref a2), .val (.ref a2), .val (.int (4 : Int32)), .val (.int (2 : Int32)), .val (.double eb1), .second] [(.int (2 : Int32)), (.ref a2)])) (fun t k => ?_) ?_
  · show Steps p.tables e below (T25.setTop (mkF m 150 #[.val (.ref a0), .val (.ref a1), .val (.ref a2), .val (.ref a2), .val (.int (4 : Int32)), .val (.int (1 : Int32)), .val (.double eb1), .second] [(.int (0 : Int32))])) t
    refine XS.ifYes X25.here hx rfl (pc0 := 150) (pc' := 168) rfl (hb hby d1_150) rfl (by decide) (by decide) (by decide) ?_
    refine XS.iinc X25.here hx rfl (hb hby d1_168) rfl (l' := #[.val (.ref a0), .val (.ref a1), .val (.ref a2), .val (.ref a2), .val (.int (4 : Int32)), .val (.int (2 : Int32)), .val (.double eb1), .second]) rfl ?_
    refine XS.goto X25.here hx rfl (pc0 := 171) (pc' := 125) rfl (hb hby d1_171) (by decide) (by decide) ?_
    refine XS.iload X25.here hx rfl (hb hby d1_125) rfl ?_
    refine XS.iload X25.here hx rfl (hb hby d1_127) rfl ?_
    refine XS.icmpNo X25.here hx rfl (hb hby d1_129) rfl (by decide) ?_
    refine XS.aloadN X25.here hx rfl (hb hby d1_132) rfl rfl ?_
    refine XS.iload X25.here hx rfl (hb hby d1_133) rfl ?_
    exact k
  obtain ⟨c27, r27a, r27b, r27c, r27d, r27e, r27f⟩ := id V_a2
  have i27 : ¬ ((2 : Int32) < 0 ∨ c27.slots.size ≤ ((2 : Int32)).toNatClampNeg) := inb_of r27c ⟨by decide, by decide⟩
  have y27 : c27.slots[((2 : Int32)).toNatClampNeg]? = some (.double eb2) := r27e.at i27 rfl
  refine own_st (T' := T25) (g' := (mkF m 147 #[.val (.ref a0), .val (.ref a1), .val (.ref a2), .val (.ref a2), .val (.int (4 : Int32)), .val (.int (2 : Int32)), .val (.double eb2), .second] [(.double eb2)])) (fun t k => ?_) ?_
  · show Steps p.tables e below (T25.setTop (mkF m 135 #[.val (.ref a0), .val (.ref a1), .val (.ref a2), .val (.ref a2), .val (.int (4 : Int32)), .val (.int (2 : Int32)), .val (.double eb1), .second] [(.int (2 : Int32)), (.ref a2)])) t
    refine X25.daload hx (j := (2 : Int32)) (v := (.double eb2)) (by rw [e25]; exact r27a.1) (State.isArrayOf_alike hZ.alike r27a.2.1) r27a.2.2 i27 y27 (g := (mkF m 135 #[.val (.ref a0), .val (.ref a1), .val (.ref a2), .val (.ref a2), .val (.int (4 : Int32)), .val (.int (2 : Int32)), .val (.double eb1), .second] [(.int (2 : Int32)), (.ref a2)])) rfl rfl (hb hby d1_135) _ ?_
    refine XS.dstore X25.here hx rfl (hb hby d1_136) rfl (l' := #[.val (.ref a0), .val (.ref a1), .val (.ref a2), .val (.ref a2), .val (.int (4 : Int32)), .val (.int (2 : Int32)), .val (.double eb2), .second]) rfl ?_
    refine XS.dload X25.here hx rfl (hb hby d1_138) rfl ?_
    refine XS.dconst0 X25.here hx rfl (hb hby d1_140) rfl ?_
    refine XS.dcmpS X25.here hx rfl (hb hby d1_141) rfl rfl ?_
    refine XS.ifNo X25.here hx rfl (hb hby d1_142) rfl ((if0 _ _).trans (flt (hb142_2 : ¬ ((cmpValue (FP.dcmp eb2 (0 : UInt64)) .l) < (0 : Int32)))).1) ?_
    refine XS.dload X25.here hx rfl (hb hby d1_145) rfl ?_
    exact k
  obtain ⟨_, _, ⟨T28, L28, k28, n28⟩, -, X28, ⟨Lc28, hQ28, l28, y28, z28⟩, st28⟩ := Jvm.LawKit.callS X25 hx (y := (⟨"java/lang/Double", "isInfinite", "(D)Z"⟩ : MethodName)) hown (mvT hZ (hw _ (List.mem_of_getElem? (i := 11) rfl))) (mvT hZ (hw _ (List.mem_of_getElem? (i := 12) rfl))) (mvT hZ (hw _ (List.mem_of_getElem? (i := 13) rfl))) (mvT hZ (hw _ (List.mem_of_getElem? (i := 14) rfl))) (by decide) (backOf (W := 0) (rm3 l Z ar hw [] eb2 h0 n0 Z0 h147_hn1_2 h147_hb8_2) hZ (hw _ (List.mem_of_getElem? (i := 14) rfl)) (hw _ (List.mem_of_getElem? (i := 13) rfl)) (by decide) (by decide)) (g := (mkF m 147 #[.val (.ref a0), .val (.ref a1), .val (.ref a2), .val (.ref a2), .val (.int (4 : Int32)), .val (.int (2 : Int32)), .val (.double eb2), .second] [(.double eb2)])) rfl (by rw [hml]; rfl) (argsL := [(.double eb2)]) (rest := []) (lenOf pdi4_0 rfl) rfl (by show 2 * 0 + _ ≤ _; exact Nat.le_of_eq rfl) (hb hby d1_147) (fun _ _ => ⟨rfl, e25, (by decide : 0 + 0 ≤ _), (by decide : 0 + 0 ≤ _)⟩)
  dsimp only [Pt.U, Pt.locs, Pt.cells, Pt.slots] at X28 l28 y28 z28 st28 hQ28
  subst l28 y28 z28
  obtain ⟨rfl, N28q, e28⟩ := hQ28
  have n29 := Fr.app n26 N28q
  refine own_st (T' := T28) (g' := (mkF m 150 #[.val (.ref a0), .val (.ref a1), .val (.ref a2), .val (.ref a2), .val (.int (4 : Int32)), .val (.int (2 : Int32)), .val (.double eb2), .second] [(.int (0 : Int32))])) st28 ?_
  refine own_st (T' := T28) (g' := (mkF m 135 #[.val (.ref a0), .val (.ref a1), .val (.ref a2), .val (.ref a2), .val (.int (4 : Int32)), .val (.int (3 : Int32)), .val (.double eb2), .second] [(.int (3 : Int32)), (.ref a2)])) (fun t k => ?_) ?_
  · show Steps p.tables e below (T28.setTop (mkF m 150 #[.val (.ref a0), .val (.ref a1), .val (.ref a2), .val (.ref a2), .val (.int (4 : Int32)), .val (.int (2 : Int32)), .val (.double eb2), .second] [(.int (0 : Int32))])) t
    refine XS.ifYes X28.here hx rfl (pc0 := 150) (pc' := 168) rfl (hb hby d1_150) rfl (by decide) (by decide) (by decide) ?_
    refine XS.iinc X28.here hx rfl (hb hby d1_168) rfl (l' := #[.val (.ref a0), .val (.ref a1), .val (.ref a2), .val (.ref a2), .val (.int (4 : Int32)), .val (.int (3 : Int32)), .val (.double eb2), .second]) rfl ?_
    refine XS.goto X28.here hx rfl (pc0 := 171) (pc' := 125) rfl (hb hby d1_171) (by decide) (by decide) ?_
    refine XS.iload X28.here hx rfl (hb hby d1_125) rfl ?_
    refine XS.iload X28.here hx rfl (hb hby d1_127) rfl ?_
    refine XS.icmpNo X28.here hx rfl (hb hby d1_129) rfl (by decide) ?_
    refine XS.aloadN X28.here hx rfl (hb hby d1_132) rfl rfl ?_
    refine XS.iload X28.here hx rfl (hb hby d1_133) rfl ?_
    exact k
  obtain ⟨c30, r30a, r30b, r30c, r30d, r30e, r30f⟩ := id V_a2
  have i30 : ¬ ((3 : Int32) < 0 ∨ c30.slots.size ≤ ((3 : Int32)).toNatClampNeg) := inb_of r30c ⟨by decide, by decide⟩
  have y30 : c30.slots[((3 : Int32)).toNatClampNeg]? = some (.double eb3) := r30e.at i30 rfl
  refine own_st (T' := T28) (g' := (mkF m 147 #[.val (.ref a0), .val (.ref a1), .val (.ref a2), .val (.ref a2), .val (.int (4 : Int32)), .val (.int (3 : Int32)), .val (.double eb3), .second] [(.double eb3)])) (fun t k => ?_) ?_
  · show Steps p.tables e below (T28.setTop (mkF m 135 #[.val (.ref a0), .val (.ref a1), .val (.ref a2), .val (.ref a2), .val (.int (4 : Int32)), .val (.int (3 : Int32)), .val (.double eb2), .second] [(.int (3 : Int32)), (.ref a2)])) t
    refine X28.daload hx (j := (3 : Int32)) (v := (.double eb3)) (by rw [e28]; exact r30a.1) (State.isArrayOf_alike hZ.alike r30a.2.1) r30a.2.2 i30 y30 (g := (mkF m 135 #[.val (.ref a0), .val (.ref a1), .val (.ref a2), .val (.ref a2), .val (.int (4 : Int32)), .val (.int (3 : Int32)), .val (.double eb2), .second] [(.int (3 : Int32)), (.ref a2)])) rfl rfl (hb hby d1_135) _ ?_
    refine XS.dstore X28.here hx rfl (hb hby d1_136) rfl (l' := #[.val (.ref a0), .val (.ref a1), .val (.ref a2), .val (.ref a2), .val (.int (4 : Int32)), .val (.int (3 : Int32)), .val (.double eb3), .second]) rfl ?_
    refine XS.dload X28.here hx rfl (hb hby d1_138) rfl ?_
    refine XS.dconst0 X28.here hx rfl (hb hby d1_140) rfl ?_
    refine XS.dcmpS X28.here hx rfl (hb hby d1_141) rfl rfl ?_
    refine XS.ifNo X28.here hx rfl (hb hby d1_142) rfl ((if0 _ _).trans (flt (hb142_3 : ¬ ((cmpValue (FP.dcmp eb3 (0 : UInt64)) .l) < (0 : Int32)))).1) ?_
    refine XS.dload X28.here hx rfl (hb hby d1_145) rfl ?_
    exact k
  obtain ⟨_, _, ⟨T31, L31, k31, n31⟩, -, X31, ⟨Lc31, hQ31, l31, y31, z31⟩, st31⟩ := Jvm.LawKit.callS X28 hx (y := (⟨"java/lang/Double", "isInfinite", "(D)Z"⟩ : MethodName)) hown (mvT hZ (hw _ (List.mem_of_getElem? (i := 11) rfl))) (mvT hZ (hw _ (List.mem_of_getElem? (i := 12) rfl))) (mvT hZ (hw _ (List.mem_of_getElem? (i := 13) rfl))) (mvT hZ (hw _ (List.mem_of_getElem? (i := 14) rfl))) (by decide) (backOf (W := 0) (rm3 l Z ar hw [] eb3 h0 n0 Z0 h147_hn1_3 h147_hb8_3) hZ (hw _ (List.mem_of_getElem? (i := 14) rfl)) (hw _ (List.mem_of_getElem? (i := 13) rfl)) (by decide) (by decide)) (g := (mkF m 147 #[.val (.ref a0), .val (.ref a1), .val (.ref a2), .val (.ref a2), .val (.int (4 : Int32)), .val (.int (3 : Int32)), .val (.double eb3), .second] [(.double eb3)])) rfl (by rw [hml]; rfl) (argsL := [(.double eb3)]) (rest := []) (lenOf pdi4_0 rfl) rfl (by show 2 * 0 + _ ≤ _; exact Nat.le_of_eq rfl) (hb hby d1_147) (fun _ _ => ⟨rfl, e28, (by decide : 0 + 0 ≤ _), (by decide : 0 + 0 ≤ _)⟩)
  dsimp only [Pt.U, Pt.locs, Pt.cells, Pt.slots] at X31 l31 y31 z31 st31 hQ31
  subst l31 y31 z31
  obtain ⟨rfl, N31q, e31⟩ := hQ31
  have n32 := Fr.app n29 N31q
  refine own_st (T' := T31) (g' := (mkF m 150 #[.val (.ref a0), .val (.ref a1), .val (.ref a2), .val (.ref a2), .val (.int (4 : Int32)), .val (.int (3 : Int32)), .val (.double eb3), .second] [(.int (0 : Int32))])) st31 ?_
  refine own_st (T' := T31) (g' := (mkF m 176 #[.val (.ref a0), .val (.ref a1), .val (.ref a2), .val (.ref a2), .val (.int (4 : Int32)), .val (.int (4 : Int32)), .val (.double eb3), .second] [(.ref a1), (.ref a0)])) (fun t k => ?_) ?_
  · show Steps p.tables e below (T31.setTop (mkF m 150 #[.val (.ref a0), .val (.ref a1), .val (.ref a2), .val (.ref a2), .val (.int (4 : Int32)), .val (.int (3 : Int32)), .val (.double eb3), .second] [(.int (0 : Int32))])) t
    refine XS.ifYes X31.here hx rfl (pc0 := 150) (pc' := 168) rfl (hb hby d1_150) rfl (by decide) (by decide) (by decide) ?_
    refine XS.iinc X31.here hx rfl (hb hby d1_168) rfl (l' := #[.val (.ref a0), .val (.ref a1), .val (.ref a2), .val (.ref a2), .val (.int (4 : Int32)), .val (.int (4 : Int32)), .val (.double eb3), .second]) rfl ?_
    refine XS.goto X31.here hx rfl (pc0 := 171) (pc' := 125) rfl (hb hby d1_171) (by decide) (by decide) ?_
    refine XS.iload X31.here hx rfl (hb hby d1_125) rfl ?_
    refine XS.iload X31.here hx rfl (hb hby d1_127) rfl ?_
    refine XS.icmpYes X31.here hx rfl (pc0 := 129) (pc' := 174) rfl (hb hby d1_129) rfl (by decide) (by decide) (by decide) ?_
    refine XS.aloadN X31.here hx rfl (hb hby d1_174) rfl rfl ?_
    refine XS.aloadN X31.here hx rfl (hb hby d1_175) rfl rfl ?_
    exact k
  obtain ⟨T33, h33, X33, e33, E33, A33, B33, st33⟩ := cloneH X31 hx hZ hown (hw _ (List.mem_of_getElem? (i := 20) rfl)) (hw _ (List.mem_of_getElem? (i := 21) rfl)) (hw _ (List.mem_of_getElem? (i := 25) rfl)) (hw _ (List.mem_of_getElem? (i := 23) rfl)) (hw _ (List.mem_of_getElem? (i := 24) rfl)) (hw _ (List.mem_of_getElem? (i := 26) rfl)) e31 (Arv.arh V_a1) E_a1 (g := (mkF m 176 #[.val (.ref a0), .val (.ref a1), .val (.ref a2), .val (.ref a2), .val (.int (4 : Int32)), .val (.int (4 : Int32)), .val (.double eb3), .second] [(.ref a1), (.ref a0)])) rfl (by rw [hml]; rfl) rfl (hb hby d1_176) (by decide) (W := 1) (by show 2 * 0 + _ ≤ _; exact Nat.le_of_eq rfl) (by decide) (cap := 4) (by decide) (by decide) (by decide)
  obtain ⟨b33, g33⟩ : ∃ z, z = h0.size := ⟨_, rfl⟩
  rw [← g33] at A33 B33 st33
  have ne_a0_b33 : a0 ≠ b33 := Nat.ne_of_lt (Nat.lt_of_lt_of_le E_a0.lt (Nat.le_of_eq g33.symm))
  have ne_a1_b33 : a1 ≠ b33 := Nat.ne_of_lt (Nat.lt_of_lt_of_le E_a1.lt (Nat.le_of_eq g33.symm))
  have ne_a2_b33 : a2 ≠ b33 := Nat.ne_of_lt (Nat.lt_of_lt_of_le E_a2.lt (Nat.le_of_eq g33.symm))
  have g_b33 : n0 ≤ b33 := Nat.le_trans Z0 (Nat.le_of_eq g33.symm)
  have sz_b33 : h0.size ≤ b33 := Nat.le_trans K0.1 (Nat.le_of_eq g33.symm)
  have f34 := E_a0.ext E33
  have f35 := F_values_a0.ext E33
  have f36 := F_bids_a0.ext E33
  have f37 := E_a1.ext E33
  have f38 := V_a1.ext E33
  have f39 := E_a2.ext E33
  have f40 := V_a2.ext E33
  have z41 := Nat.le_trans Z0 E33.1
  have k42 := K0.ext E33
  have v43 : Arv Z h33 b33 kk_a1 .double (4 : Int32) [(.double ev0), (.double ev1), (.double ev2), (.double ev3)] (.double (0 : UInt64)) := A33
  refine own_st (T' := T33) (g' := (mkF m 179 #[.val (.ref a0), .val (.ref a1), .val (.ref a2), .val (.ref a2), .val (.int (4 : Int32)), .val (.int (4 : Int32)), .val (.double eb3), .second] [(.ref b33), (.ref a0)])) st33 ?_
  obtain ⟨T44, X44, e44, st44⟩ := castY X33 hx hZ hown (hw _ (List.mem_of_getElem? (i := 27) rfl)) e33 (Ins.self B33) (g := (mkF m 179 #[.val (.ref a0), .val (.ref a1), .val (.ref a2), .val (.ref a2), .val (.int (4 : Int32)), .val (.int (4 : Int32)), .val (.double eb3), .second] [(.ref b33), (.ref a0)])) rfl rfl (hb hby d1_179)
  refine own_st (T' := T44) (g' := (mkF m 182 #[.val (.ref a0), .val (.ref a1), .val (.ref a2), .val (.ref a2), .val (.int (4 : Int32)), .val (.int (4 : Int32)), .val (.double eb3), .second] [(.ref b33), (.ref a0)])) st44 ?_
  obtain ⟨T45, h45, X45, e45, W45, st45⟩ := putF X44 hx hZ hown (host := "") (Or.inl (hw _ (List.mem_of_getElem? (i := 29) rfl))) Via.refl e44 f35 f34 (Or.inr ⟨(hw _ (List.mem_of_getElem? (i := 30) rfl)), rfl, hnm⟩) (hw _ (List.mem_of_getElem? (i := 3) rfl)) (ty := (.array .double)) (by decide) rfl rfl (g := (mkF m 182 #[.val (.ref a0), .val (.ref a1), .val (.ref a2), .val (.ref a2), .val (.int (4 : Int32)), .val (.int (4 : Int32)), .val (.double eb3), .second] [(.ref b33), (.ref a0)])) rfl rfl (hb hby d1_182)
  have f46 := f34.wr W45
  have f47 := f35.same W45
  have f48 := f36.other W45 (Or.inr (slot_ne (Or.inr (hw _ (List.mem_of_getElem? (i := 32) rfl))) (Or.inr (hw _ (List.mem_of_getElem? (i := 30) rfl))) (by decide) (t := (.array .double)) (t' := (.array .double)) (by decide) (by decide)))
  have f49 := f37.wr W45
  have f50 := f38.other W45 ne_a1_a0
  have f51 := f39.wr W45
  have f52 := f40.other W45 ne_a2_a0
  have f53 := v43.other W45 (Ne.symm ne_a0_b33)
  have f54 := B33.wr W45
  have z55 := Nat.le_trans z41 (Keep.of_wr W45).1
  have k56 := k42.wr W45 (Or.inl (List.mem_of_getElem? (i := 0) rfl))
  have n57 := Fr.snoc X45 n32 g_a0
  refine own_st (T' := T45) (g' := (mkF m 185 #[.val (.ref a0), .val (.ref a1), .val (.ref a2), .val (.ref a2), .val (.int (4 : Int32)), .val (.int (4 : Int32)), .val (.double eb3), .second] [])) st45 ?_
  refine own_st (T' := T45) (g' := (mkF m 187 #[.val (.ref a0), .val (.ref a1), .val (.ref a2), .val (.ref a2), .val (.int (4 : Int32)), .val (.int (4 : Int32)), .val (.double eb3), .second] [(.ref a2), (.ref a0)])) (fun t k => ?_) ?_
  · show Steps p.tables e below (T45.setTop (mkF m 185 #[.val (.ref a0), .val (.ref a1), .val (.ref a2), .val (.ref a2), .val (.int (4 : Int32)), .val (.int (4 : Int32)), .val (.double eb3), .second] [])) t
    refine XS.aloadN X45.here hx rfl (hb hby d1_185) rfl rfl ?_
    refine XS.aloadN X45.here hx rfl (hb hby d1_186) rfl rfl ?_
    exact k
  obtain ⟨T58, h58, X58, e58, E58, A58, B58, st58⟩ := cloneH X45 hx hZ hown (hw _ (List.mem_of_getElem? (i := 20) rfl)) (hw _ (List.mem_of_getElem? (i := 21) rfl)) (hw _ (List.mem_of_getElem? (i := 25) rfl)) (hw _ (List.mem_of_getElem? (i := 23) rfl)) (hw _ (List.mem_of_getElem? (i := 24) rfl)) (hw _ (List.mem_of_getElem? (i := 26) rfl)) e45 (Arv.arh f52) f51 (g := (mkF m 187 #[.val (.ref a0), .val (.ref a1), .val (.ref a2), .val (.ref a2), .val (.int (4 : Int32)), .val (.int (4 : Int32)), .val (.double eb3), .second] [(.ref a2), (.ref a0)])) rfl (by rw [hml]; rfl) rfl (hb hby d1_187) (by decide) (W := 1) (by show 2 * 0 + _ ≤ _; exact Nat.le_of_eq rfl) (by decide) (cap := 4) (by decide) (by decide) (by decide)
  obtain ⟨b58, g58⟩ : ∃ z, z = h45.size := ⟨_, rfl⟩
  rw [← g58] at A58 B58 st58
  have ne_a0_b58 : a0 ≠ b58 := Nat.ne_of_lt (Nat.lt_of_lt_of_le f46.lt (Nat.le_of_eq g58.symm))
  have ne_a1_b58 : a1 ≠ b58 := Nat.ne_of_lt (Nat.lt_of_lt_of_le f49.lt (Nat.le_of_eq g58.symm))
  have ne_a2_b58 : a2 ≠ b58 := Nat.ne_of_lt (Nat.lt_of_lt_of_le f51.lt (Nat.le_of_eq g58.symm))
  have ne_b33_b58 : b33 ≠ b58 := Nat.ne_of_lt (Nat.lt_of_lt_of_le f53.lt (Nat.le_of_eq g58.symm))
  have g_b58 : n0 ≤ b58 := Nat.le_trans z55 (Nat.le_of_eq g58.symm)
  have sz_b58 : h0.size ≤ b58 := Nat.le_trans k56.1 (Nat.le_of_eq g58.symm)
  have f59 := f46.ext E58
  have f60 := f47.ext E58
  have f61 := f48.ext E58
  have f62 := f49.ext E58
  have f63 := f50.ext E58
  have f64 := f51.ext E58
  have f65 := f52.ext E58
  have f66 := f53.ext E58
  have f67 := f54.ext E58
  have z68 := Nat.le_trans z55 E58.1
  have k69 := k56.ext E58
  have v70 : Arv Z h58 b58 kk_a2 .double (4 : Int32) [(.double eb0), (.double eb1), (.double eb2), (.double eb3)] (.double (0 : UInt64)) := A58
  refine own_st (T' := T58) (g' := (mkF m 190 #[.val (.ref a0), .val (.ref a1), .val (.ref a2), .val (.ref a2), .val (.int (4 : Int32)), .val (.int (4 : Int32)), .val (.double eb3), .second] [(.ref b58), (.ref a0)])) st58 ?_
  obtain ⟨T71, X71, e71, st71⟩ := castY X58 hx hZ hown (hw _ (List.mem_of_getElem? (i := 27) rfl)) e58 (Ins.self B58) (g := (mkF m 190 #[.val (.ref a0), .val (.ref a1), .val (.ref a2), .val (.ref a2), .val (.int (4 : Int32)), .val (.int (4 : Int32)), .val (.double eb3), .second] [(.ref b58), (.ref a0)])) rfl rfl (hb hby d1_190)
  refine own_st (T' := T71) (g' := (mkF m 193 #[.val (.ref a0), .val (.ref a1), .val (.ref a2), .val (.ref a2), .val (.int (4 : Int32)), .val (.int (4 : Int32)), .val (.double eb3), .second] [(.ref b58), (.ref a0)])) st71 ?_
  obtain ⟨T72, h72, X72, e72, W72, st72⟩ := putF X71 hx hZ hown (host := "") (Or.inl (hw _ (List.mem_of_getElem? (i := 31) rfl))) Via.refl e71 f61 f59 (Or.inr ⟨(hw _ (List.mem_of_getElem? (i := 32) rfl)), rfl, hnm⟩) (hw _ (List.mem_of_getElem? (i := 3) rfl)) (ty := (.array .double)) (by decide) rfl rfl (g := (mkF m 193 #[.val (.ref a0), .val (.ref a1), .val (.ref a2), .val (.ref a2), .val (.int (4 : Int32)), .val (.int (4 : Int32)), .val (.double eb3), .second] [(.ref b58), (.ref a0)])) rfl rfl (hb hby d1_193)
  have f73 := f59.wr W72
  have f74 := f60.other W72 (Or.inr (slot_ne (Or.inr (hw _ (List.mem_of_getElem? (i := 30) rfl))) (Or.inr (hw _ (List.mem_of_getElem? (i := 32) rfl))) (by decide) (t := (.array .double)) (t' := (.array .double)) (by decide) (by decide)))
  have f75 := f61.same W72
  have f76 := f62.wr W72
  have f77 := f63.other W72 ne_a1_a0
  have f78 := f64.wr W72
  have f79 := f65.other W72 ne_a2_a0
  have f80 := f66.other W72 (Ne.symm ne_a0_b33)
  have f81 := f67.wr W72
  have f82 := v70.other W72 (Ne.symm ne_a0_b58)
  have f83 := B58.wr W72
  have z84 := Nat.le_trans z68 (Keep.of_wr W72).1
  have k85 := k69.wr W72 (Or.inl (List.mem_of_getElem? (i := 0) rfl))
  have n86 := Fr.snoc X72 n57 g_a0
  refine own_st (T' := T72) (g' := (mkF m 196 #[.val (.ref a0), .val (.ref a1), .val (.ref a2), .val (.ref a2), .val (.int (4 : Int32)), .val (.int (4 : Int32)), .val (.double eb3), .second] [])) st72 ?_
  refine own_retV X72 hx hlk Bd.returns (hb hby d1_196) (by decide) (by decide) ?_
  show Qi4 Z a0 a1 a2 u_values_a0 u_bids_a0 kk_a1 ev0 ev1 ev2 ev3 kk_a2 eb0 eb1 eb2 eb3 h0 n0 none T72.heap _
  rw [(e72 : T72.heap = h72)]
  exact ⟨b33, b58, rfl, n86, k85, sz_b33, sz_b58, ne_b33_b58, f73, f74, f75, f80, f81, f82, f83⟩
theorem d5_0 : decode prog_21_method_5_code 0 = .ok (.aload_n 0, 1) := by decide +kernel
theorem d5_1 : decode prog_21_method_5_code 1 = .ok (.getfield 45, 3) := by decide +kernel
theorem d5_4 : decode prog_21_method_5_code 4 = .ok (.aload_n 0, 1) := by decide +kernel
theorem d5_5 : decode prog_21_method_5_code 5 = .ok (.getfield 45, 3) := by decide +kernel
theorem d5_8 : decode prog_21_method_5_code 8 = .ok (.arraylength, 1) := by decide +kernel
theorem d5_9 : decode prog_21_method_5_code 9 = .ok (.iconst 1, 1) := by decide +kernel
theorem d5_10 : decode prog_21_method_5_code 10 = .ok (.isub, 1) := by decide +kernel
theorem d5_11 : decode prog_21_method_5_code 11 = .ok (.daload, 1) := by decide +kernel
theorem d5_12 : decode prog_21_method_5_code 12 = .ok (.dreturn, 1) := by decide +kernel
theorem png2 : plainName "com/example/corewright/corewright/equilibrium/Strategy" = true := by first | (simp [plainName, overriddenIn]; done) | decide +kernel
theorem efg2 (m : MethodId) (a0 : Addr) : entryFrame m #[(.ref a0)] 1 = mkF m 0 #[.val (.ref a0)] [] := by first | (simp [entryFrame, mkF, argsToLocals, Value.category]; done) | rfl
def Qg2 (Z : State) (a0 : Addr) (w_values_a0 : Addr) (kk_w_values_a0 : ClassId) (ev0 : UInt64) (ev1 : UInt64) (h0 : Heap) (n0 : Nat) (v : Option Value) (h : Heap) (L : List Loc) : Prop := v = some (.double ev1) ∧ Fr n0 L ∧ h = h0
set_option maxRecDepth 65536 in
set_option maxHeartbeats 40000000 in
theorem rmg2 (l : Launch) (Z : State) (ar : Array Value) (hw : ∀ d ∈ tables_1, d.before ar Z = true) (ws : List Jvm.Cond) (a0 : Addr) (w_values_a0 : Addr) (kk_w_values_a0 : ClassId) (ev0 : UInt64) (ev1 : UInt64) (h0 : Heap) (n0 : Nat) (Z0 : n0 ≤ h0.size) (E_a0 : Exa Z h0 a0 "com/example/corewright/corewright/equilibrium/Strategy") (F_values_a0 : Fld Z h0 a0 "com/example/corewright/corewright/equilibrium/Strategy" "values" "[D" (.ref w_values_a0)) (V_w_values_a0 : Arv Z h0 w_values_a0 kk_w_values_a0 .double (2 : Int32) [(.double ev0), (.double ev1)] (.double (0 : UInt64))) :
    MetFree l (⟨"com/example/corewright/corewright/equilibrium/Strategy", "getMaxValue", "()D"⟩ : MethodName) (head1 (Jvm.Cond.code (⟨"com/example/corewright/corewright/equilibrium/Strategy", "getMaxValue", "()D"⟩ : MethodName) prog_21_method_5_code 1 (some .double) :: ws) ({ frames := 0, cells := 0, slots := 0, locals := 0 } : Room)) (fun a U => a = #[(.ref a0)] ∧ Z.Warmed39 U.vm ∧ U.heap = h0) (fun _ _ _ _ _ => True) (fun _ U o U' => ∃ v L, o = .returned v ∧ Qg2 Z a0 w_values_a0 kk_w_values_a0 ev0 ev1 h0 n0 v U'.heap L ∧ FrameEnd U o U' L ({ frames := 0, cells := 0, slots := 0, locals := 0 } : Room).cells ({ frames := 0, cells := 0, slots := 0, locals := 0 } : Room).slots) := by
  refine MetFree.of_bodySF (plainFor_of_name png2) hisR ?_
  intro p e s m args below meth c s₁ Bd hml0 hP hK
  obtain ⟨rfl, hZ, hh⟩ := hP
  have hx := Bd.exec
  have hby := Bd.bytes
  have hlk := Bd.notSynchronized
  have hml : c.maxLocals = 1 := hml0
  have hown : s.vm.findClass "com/example/corewright/corewright/equilibrium/Strategy" = some m.cls := findClass_of_methodNamed Bd.named
  have hnm := (name_of_methodNamed Bd.named Bd.method).1
  have X0 : Stand p l e ({ frames := 0, cells := 0, slots := 0, locals := 0 } : Room) s m #[(.ref a0)] below meth c s₁ [] 0 0 := Stand.of_body Bd
  have e0 : s₁.heap = h0 := by rw [← hh, Bd.state]; rfl
  have N0 := Fr.nil n0
  have K0 := Keep.refl h0 []
  refine own_enter (Q := Qg2 Z a0 w_values_a0 kk_w_values_a0 ev0 ev1 h0 n0) (efg2 m a0) ?_
  refine own_st (T' := s₁) (g' := (mkF m 1 #[.val (.ref a0)] [(.ref a0)])) (fun t k => ?_) ?_
  · show Steps p.tables e below (s₁.setTop (mkF m 0 #[.val (.ref a0)] [])) t
    refine XS.aloadN X0.here hx rfl (hb hby d5_0) rfl rfl ?_
    exact k
  obtain ⟨T1, X1, e1, st1⟩ := getF X0 hx hZ hown (host := "") (Or.inl (hw _ (List.mem_of_getElem? (i := 29) rfl))) Via.refl e0 F_values_a0 (g := (mkF m 1 #[.val (.ref a0)] [(.ref a0)])) rfl rfl (hb hby d5_1)
  refine own_st (T' := T1) (g' := (mkF m 4 #[.val (.ref a0)] [(.ref w_values_a0)])) st1 ?_
  refine own_st (T' := T1) (g' := (mkF m 5 #[.val (.ref a0)] [(.ref a0), (.ref w_values_a0)])) (fun t k => ?_) ?_
  · show Steps p.tables e below (T1.setTop (mkF m 4 #[.val (.ref a0)] [(.ref w_values_a0)])) t
    refine XS.aloadN X1.here hx rfl (hb hby d5_4) rfl rfl ?_
    exact k
  obtain ⟨T2, X2, e2, st2⟩ := getF X1 hx hZ hown (host := "") (Or.inl (hw _ (List.mem_of_getElem? (i := 29) rfl))) Via.refl e1 F_values_a0 (g := (mkF m 5 #[.val (.ref a0)] [(.ref a0), (.ref w_values_a0)])) rfl rfl (hb hby d5_5)
  refine own_st (T' := T2) (g' := (mkF m 8 #[.val (.ref a0)] [(.ref w_values_a0), (.ref w_values_a0)])) st2 ?_
  obtain ⟨c3, r3a, -, r3c, r3d, -, -⟩ := id V_w_values_a0
  refine own_st (T' := T2) (g' := (mkF m 11 #[.val (.ref a0)] [(.int (1 : Int32)), (.ref w_values_a0)])) (fun t k => ?_) ?_
  · show Steps p.tables e below (T2.setTop (mkF m 8 #[.val (.ref a0)] [(.ref w_values_a0), (.ref w_values_a0)])) t
    refine X2.arraylength hx (by rw [e2]; exact r3a.1) (State.isArrayOf_alike hZ.alike r3a.2.1) (g := (mkF m 8 #[.val (.ref a0)] [(.ref w_values_a0), (.ref w_values_a0)])) rfl rfl (hb hby d5_8) _ ?_
    rw [len_of r3c r3d]
    refine XS.iconst X2.here hx rfl (hb hby d5_9) ?_
    refine XS.isub X2.here hx rfl (hb hby d5_10) rfl ?_
    exact k
  obtain ⟨c4, r4a, r4b, r4c, r4d, r4e, r4f⟩ := id V_w_values_a0
  have i4 : ¬ ((1 : Int32) < 0 ∨ c4.slots.size ≤ ((1 : Int32)).toNatClampNeg) := inb_of r4c ⟨by decide, by decide⟩
  have y4 : c4.slots[((1 : Int32)).toNatClampNeg]? = some (.double ev1) := r4e.at i4 rfl
  refine own_st (T' := T2) (g' := (mkF m 12 #[.val (.ref a0)] [(.double ev1)])) (fun t k => ?_) ?_
  · show Steps p.tables e below (T2.setTop (mkF m 11 #[.val (.ref a0)] [(.int (1 : Int32)), (.ref w_values_a0)])) t
    refine X2.daload hx (j := (1 : Int32)) (v := (.double ev1)) (by rw [e2]; exact r4a.1) (State.isArrayOf_alike hZ.alike r4a.2.1) r4a.2.2 i4 y4 (g := (mkF m 11 #[.val (.ref a0)] [(.int (1 : Int32)), (.ref w_values_a0)])) rfl rfl (hb hby d5_11) _ ?_
    exact k
  refine own_retD X2 hx hlk Bd.returns (hb hby d5_12) (by decide) (by decide) ?_
  show Qg2 Z a0 w_values_a0 kk_w_values_a0 ev0 ev1 h0 n0 (some (.double ev1)) T2.heap _
  rw [(e2 : T2.heap = h0)]
  exact ⟨rfl, N0, rfl⟩
theorem png3 : plainName "com/example/corewright/corewright/equilibrium/Strategy" = true := by first | (simp [plainName, overriddenIn]; done) | decide +kernel
theorem efg3 (m : MethodId) (a0 : Addr) : entryFrame m #[(.ref a0)] 1 = mkF m 0 #[.val (.ref a0)] [] := by first | (simp [entryFrame, mkF, argsToLocals, Value.category]; done) | rfl
def Qg3 (Z : State) (a0 : Addr) (w_values_a0 : Addr) (kk_w_values_a0 : ClassId) (ev0 : UInt64) (ev1 : UInt64) (ev2 : UInt64) (h0 : Heap) (n0 : Nat) (v : Option Value) (h : Heap) (L : List Loc) : Prop := v = some (.double ev2) ∧ Fr n0 L ∧ h = h0
set_option maxRecDepth 65536 in
set_option maxHeartbeats 40000000 in
theorem rmg3 (l : Launch) (Z : State) (ar : Array Value) (hw : ∀ d ∈ tables_1, d.before ar Z = true) (ws : List Jvm.Cond) (a0 : Addr) (w_values_a0 : Addr) (kk_w_values_a0 : ClassId) (ev0 : UInt64) (ev1 : UInt64) (ev2 : UInt64) (h0 : Heap) (n0 : Nat) (Z0 : n0 ≤ h0.size) (E_a0 : Exa Z h0 a0 "com/example/corewright/corewright/equilibrium/Strategy") (F_values_a0 : Fld Z h0 a0 "com/example/corewright/corewright/equilibrium/Strategy" "values" "[D" (.ref w_values_a0)) (V_w_values_a0 : Arv Z h0 w_values_a0 kk_w_values_a0 .double (3 : Int32) [(.double ev0), (.double ev1), (.double ev2)] (.double (0 : UInt64))) :
    MetFree l (⟨"com/example/corewright/corewright/equilibrium/Strategy", "getMaxValue", "()D"⟩ : MethodName) (head1 (Jvm.Cond.code (⟨"com/example/corewright/corewright/equilibrium/Strategy", "getMaxValue", "()D"⟩ : MethodName) prog_21_method_5_code 1 (some .double) :: ws) ({ frames := 0, cells := 0, slots := 0, locals := 0 } : Room)) (fun a U => a = #[(.ref a0)] ∧ Z.Warmed39 U.vm ∧ U.heap = h0) (fun _ _ _ _ _ => True) (fun _ U o U' => ∃ v L, o = .returned v ∧ Qg3 Z a0 w_values_a0 kk_w_values_a0 ev0 ev1 ev2 h0 n0 v U'.heap L ∧ FrameEnd U o U' L ({ frames := 0, cells := 0, slots := 0, locals := 0 } : Room).cells ({ frames := 0, cells := 0, slots := 0, locals := 0 } : Room).slots) := by
  refine MetFree.of_bodySF (plainFor_of_name png3) hisR ?_
  intro p e s m args below meth c s₁ Bd hml0 hP hK
  obtain ⟨rfl, hZ, hh⟩ := hP
  have hx := Bd.exec
  have hby := Bd.bytes
  have hlk := Bd.notSynchronized
  have hml : c.maxLocals = 1 := hml0
  have hown : s.vm.findClass "com/example/corewright/corewright/equilibrium/Strategy" = some m.cls := findClass_of_methodNamed Bd.named
  have hnm := (name_of_methodNamed Bd.named Bd.method).1
  have X0 : Stand p l e ({ frames := 0, cells := 0, slots := 0, locals := 0 } : Room) s m #[(.ref a0)] below meth c s₁ [] 0 0 := Stand.of_body Bd
  have e0 : s₁.heap = h0 := by rw [← hh, Bd.state]; rfl
  have N0 := Fr.nil n0
  have K0 := Keep.refl h0 []
  refine own_enter (Q := Qg3 Z a0 w_values_a0 kk_w_values_a0 ev0 ev1 ev2 h0 n0) (efg3 m a0) ?_
  refine own_st (T' := s₁) (g' := (mkF m 1 #[.val (.ref a0)] [(.ref a0)])) (fun t k => ?_) ?_
  · show Steps p.tables e below (s₁.setTop (mkF m 0 #[.val (.ref a0)] [])) t
    refine XS.aloadN X0.here hx rfl (hb hby d5_0) rfl rfl ?_
    exact k
  obtain ⟨T1, X1, e1, st1⟩ := getF X0 hx hZ hown (host := "") (Or.inl (hw _ (List.mem_of_getElem? (i := 29) rfl))) Via.refl e0 F_values_a0 (g := (mkF m 1 #[.val (.ref a0)] [(.ref a0)])) rfl rfl (hb hby d5_1)
  refine own_st (T' := T1) (g' := (mkF m 4 #[.val (.ref a0)] [(.ref w_values_a0)])) st1 ?_
  refine own_st (T' := T1) (g' := (mkF m 5 #[.val (.ref a0)] [(.ref a0), (.ref w_values_a0)])) (fun t k => ?_) ?_
  · show Steps p.tables e below (T1.setTop (mkF m 4 #[.val (.ref a0)] [(.ref w_values_a0)])) t
    refine XS.aloadN X1.here hx rfl (hb hby d5_4) rfl rfl ?_
    exact k
  obtain ⟨T2, X2, e2, st2⟩ := getF X1 hx hZ hown (host := "") (Or.inl (hw _ (List.mem_of_getElem? (i := 29) rfl))) Via.refl e1 F_values_a0 (g := (mkF m 5 #[.val (.ref a0)] [(.ref a0), (.ref w_values_a0)])) rfl rfl (hb hby d5_5)
  refine own_st (T' := T2) (g' := (mkF m 8 #[.val (.ref a0)] [(.ref w_values_a0), (.ref w_values_a0)])) st2 ?_
  obtain ⟨c3, r3a, -, r3c, r3d, -, -⟩ := id V_w_values_a0
  refine own_st (T' := T2) (g' := (mkF m 11 #[.val (.ref a0)] [(.int (2 : Int32)), (.ref w_values_a0)])) (fun t k => ?_) ?_
  · show Steps p.tables e below (T2.setTop (mkF m 8 #[.val (.ref a0)] [(.ref w_values_a0), (.ref w_values_a0)])) t
    refine X2.arraylength hx (by rw [e2]; exact r3a.1) (State.isArrayOf_alike hZ.alike r3a.2.1) (g := (mkF m 8 #[.val (.ref a0)] [(.ref w_values_a0), (.ref w_values_a0)])) rfl rfl (hb hby d5_8) _ ?_
    rw [len_of r3c r3d]
    refine XS.iconst X2.here hx rfl (hb hby d5_9) ?_
    refine XS.isub X2.here hx rfl (hb hby d5_10) rfl ?_
    exact k
  obtain ⟨c4, r4a, r4b, r4c, r4d, r4e, r4f⟩ := id V_w_values_a0
  have i4 : ¬ ((2 : Int32) < 0 ∨ c4.slots.size ≤ ((2 : Int32)).toNatClampNeg) := inb_of r4c ⟨by decide, by decide⟩
  have y4 : c4.slots[((2 : Int32)).toNatClampNeg]? = some (.double ev2) := r4e.at i4 rfl
  refine own_st (T' := T2) (g' := (mkF m 12 #[.val (.ref a0)] [(.double ev2)])) (fun t k => ?_) ?_
  · show Steps p.tables e below (T2.setTop (mkF m 11 #[.val (.ref a0)] [(.int (2 : Int32)), (.ref w_values_a0)])) t
    refine X2.daload hx (j := (2 : Int32)) (v := (.double ev2)) (by rw [e2]; exact r4a.1) (State.isArrayOf_alike hZ.alike r4a.2.1) r4a.2.2 i4 y4 (g := (mkF m 11 #[.val (.ref a0)] [(.int (2 : Int32)), (.ref w_values_a0)])) rfl rfl (hb hby d5_11) _ ?_
    exact k
  refine own_retD X2 hx hlk Bd.returns (hb hby d5_12) (by decide) (by decide) ?_
  show Qg3 Z a0 w_values_a0 kk_w_values_a0 ev0 ev1 ev2 h0 n0 (some (.double ev2)) T2.heap _
  rw [(e2 : T2.heap = h0)]
  exact ⟨rfl, N0, rfl⟩
theorem png4 : plainName "com/example/corewright/corewright/equilibrium/Strategy" = true := by first | (simp [plainName, overriddenIn]; done) | decide +kernel
theorem efg4 (m : MethodId) (a0 : Addr) : entryFrame m #[(.ref a0)] 1 = mkF m 0 #[.val (.ref a0)] [] := by first | (simp [entryFrame, mkF, argsToLocals, Value.category]; done) | rfl
def Qg4 (Z : State) (a0 : Addr) (w_values_a0 : Addr) (kk_w_values_a0 : ClassId) (ev0 : UInt64) (ev1 : UInt64) (ev2 : UInt64) (ev3 : UInt64) (h0 : Heap) (n0 : Nat) (v : Option Value) (h : Heap) (L : List Loc) : Prop := v = some (.double ev3) ∧ Fr n0 L ∧ h = h0
set_option maxRecDepth 65536 in
set_option maxHeartbeats 40000000 in
theorem rmg4 (l : Launch) (Z : State) (ar : Array Value) (hw : ∀ d ∈ tables_1, d.before ar Z = true) (ws : List Jvm.Cond) (a0 : Addr) (w_values_a0 : Addr) (kk_w_values_a0 : ClassId) (ev0 : UInt64) (ev1 : UInt64) (ev2 : UInt64) (ev3 : UInt64) (h0 : Heap) (n0 : Nat) (Z0 : n0 ≤ h0.size) (E_a0 : Exa Z h0 a0 "com/example/corewright/corewright/equilibrium/Strategy") (F_values_a0 : Fld Z h0 a0 "com/example/corewright/corewright/equilibrium/Strategy" "values" "[D" (.ref w_values_a0)) (V_w_values_a0 : Arv Z h0 w_values_a0 kk_w_values_a0 .double (4 : Int32) [(.double ev0), (.double ev1), (.double ev2), (.double ev3)] (.double (0 : UInt64))) :
    MetFree l (⟨"com/example/corewright/corewright/equilibrium/Strategy", "getMaxValue", "()D"⟩ : MethodName) (head1 (Jvm.Cond.code (⟨"com/example/corewright/corewright/equilibrium/Strategy", "getMaxValue", "()D"⟩ : MethodName) prog_21_method_5_code 1 (some .double) :: ws) ({ frames := 0, cells := 0, slots := 0, locals := 0 } : Room)) (fun a U => a = #[(.ref a0)] ∧ Z.Warmed39 U.vm ∧ U.heap = h0) (fun _ _ _ _ _ => True) (fun _ U o U' => ∃ v L, o = .returned v ∧ Qg4 Z a0 w_values_a0 kk_w_values_a0 ev0 ev1 ev2 ev3 h0 n0 v U'.heap L ∧ FrameEnd U o U' L ({ frames := 0, cells := 0, slots := 0, locals := 0 } : Room).cells ({ frames := 0, cells := 0, slots := 0, locals := 0 } : Room).slots) := by
  refine MetFree.of_bodySF (plainFor_of_name png4) hisR ?_
  intro p e s m args below meth c s₁ Bd hml0 hP hK
  obtain ⟨rfl, hZ, hh⟩ := hP
  have hx := Bd.exec
  have hby := Bd.bytes
  have hlk := Bd.notSynchronized
  have hml : c.maxLocals = 1 := hml0
  have hown : s.vm.findClass "com/example/corewright/corewright/equilibrium/Strategy" = some m.cls := findClass_of_methodNamed Bd.named
  have hnm := (name_of_methodNamed Bd.named Bd.method).1
  have X0 : Stand p l e ({ frames := 0, cells := 0, slots := 0, locals := 0 } : Room) s m #[(.ref a0)] below meth c s₁ [] 0 0 := Stand.of_body Bd
  have e0 : s₁.heap = h0 := by rw [← hh, Bd.state]; rfl
  have N0 := Fr.nil n0
  have K0 := Keep.refl h0 []
  refine own_enter (Q := Qg4 Z a0 w_values_a0 kk_w_values_a0 ev0 ev1 ev2 ev3 h0 n0) (efg4 m a0) ?_
  refine own_st (T' := s₁) (g' := (mkF m 1 #[.val (.ref a0)] [(.ref a0)])) (fun t k => ?_) ?_
  · show Steps p.tables e below (s₁.setTop (mkF m 0 #[.val (.ref a0)] [])) t
    refine XS.aloadN X0.here hx rfl (hb hby d5_0) rfl rfl ?_
    exact k
  obtain ⟨T1, X1, e1, st1⟩ := getF X0 hx hZ hown (host := "") (Or.inl (hw _ (List.mem_of_getElem? (i := 29) rfl))) Via.refl e0 F_values_a0 (g := (mkF m 1 #[.val (.ref a0)] [(.ref a0)])) rfl rfl (hb hby d5_1)
  refine own_st (T' := T1) (g' := (mkF m 4 #[.val (.ref a0)] [(.ref w_values_a0)])) st1 ?_
  refine own_st (T' := T1) (g' := (mkF m 5 #[.val (.ref a0)] [(.ref a0), (.ref w_values_a0)])) (fun t k => ?_) ?_
  · show Steps p.tables e below (T1.setTop (mkF m 4 #[.val (.ref a0)] [(.ref w_values_a0)])) t
    refine XS.aloadN X1.here hx rfl (hb hby d5_4) rfl rfl ?_
    exact k
  obtain ⟨T2, X2, e2, st2⟩ := getF X1 hx hZ hown (host := "") (Or.inl (hw _ (List.mem_of_getElem? (i := 29) rfl))) Via.refl e1 F_values_a0 (g := (mkF m 5 #[.val (.ref a0)] [(.ref a0), (.ref w_values_a0)])) rfl rfl (hb hby d5_5)
  refine own_st (T' := T2) (g' := (mkF m 8 #[.val (.ref a0)] [(.ref w_values_a0), (.ref w_values_a0)])) st2 ?_
  obtain ⟨c3, r3a, -, r3c, r3d, -, -⟩ := id V_w_values_a0
  refine own_st (T' := T2) (g' := (mkF m 11 #[.val (.ref a0)] [(.int (3 : Int32)), (.ref w_values_a0)])) (fun t k => ?_) ?_
  · show Steps p.tables e below (T2.setTop (mkF m 8 #[.val (.ref a0)] [(.ref w_values_a0), (.ref w_values_a0)])) t
    refine X2.arraylength hx (by rw [e2]; exact r3a.1) (State.isArrayOf_alike hZ.alike r3a.2.1) (g := (mkF m 8 #[.val (.ref a0)] [(.ref w_values_a0), (.ref w_values_a0)])) rfl rfl (hb hby d5_8) _ ?_
    rw [len_of r3c r3d]
    refine XS.iconst X2.here hx rfl (hb hby d5_9) ?_
    refine XS.isub X2.here hx rfl (hb hby d5_10) rfl ?_
    exact k
  obtain ⟨c4, r4a, r4b, r4c, r4d, r4e, r4f⟩ := id V_w_values_a0
  have i4 : ¬ ((3 : Int32) < 0 ∨ c4.slots.size ≤ ((3 : Int32)).toNatClampNeg) := inb_of r4c ⟨by decide, by decide⟩
  have y4 : c4.slots[((3 : Int32)).toNatClampNeg]? = some (.double ev3) := r4e.at i4 rfl
  refine own_st (T' := T2) (g' := (mkF m 12 #[.val (.ref a0)] [(.double ev3)])) (fun t k => ?_) ?_
  · show Steps p.tables e below (T2.setTop (mkF m 11 #[.val (.ref a0)] [(.int (3 : Int32)), (.ref w_values_a0)])) t
    refine X2.daload hx (j := (3 : Int32)) (v := (.double ev3)) (by rw [e2]; exact r4a.1) (State.isArrayOf_alike hZ.alike r4a.2.1) r4a.2.2 i4 y4 (g := (mkF m 11 #[.val (.ref a0)] [(.int (3 : Int32)), (.ref w_values_a0)])) rfl rfl (hb hby d5_11) _ ?_
    exact k
  refine own_retD X2 hx hlk Bd.returns (hb hby d5_12) (by decide) (by decide) ?_
  show Qg4 Z a0 w_values_a0 kk_w_values_a0 ev0 ev1 ev2 ev3 h0 n0 (some (.double ev3)) T2.heap _
  rw [(e2 : T2.heap = h0)]
  exact ⟨rfl, N0, rfl⟩
theorem pn0 : plainName "com/example/corewright/corewright/equilibrium/StrategyGetMaxValuePinLaw" = true := by first | (simp [plainName, overriddenIn]; done) | decide +kernel
theorem pd0_0 : parseMethodDescriptor "([D[D)V" = some ⟨[(.array .double), (.array .double)], none⟩ := by decide +kernel
theorem pd0_1 : parseMethodDescriptor "()D" = some ⟨[], some .double⟩ := by decide +kernel
theorem ef0 (m : MethodId) (p0 : Int32) (p1 : Int32) (p2 : Int32) (p3 : Int32) (p4 : Int32) (p5 : Int32) : entryFrame m #[(.int p0), (.int p1), (.int p2), (.int p3), (.int p4), (.int p5)] maxLocals = mkF m 0 #[.val (.int p0), .val (.int p1), .val (.int p2), .val (.int p3), .val (.int p4), .val (.int p5), .unset, .unset, .unset, .unset, .unset, .unset, .unset, .unset, .unset, .unset, .unset, .unset, .unset, .unset, .unset, .unset] [] := by first | (simp [entryFrame, mkF, argsToLocals, Value.category, maxLocals]; done) | rfl
def Q0 (Z : State) (p0 : Int32) (p1 : Int32) (p2 : Int32) (p3 : Int32) (p4 : Int32) (p5 : Int32) (h0 : Heap) (n0 : Nat) (v : Option Value) (h : Heap) (L : List Loc) : Prop := v = some (.int (1 : Int32)) ∧ Fr n0 L
set_option maxRecDepth 65536 in
set_option maxHeartbeats 40000000 in
theorem rm0 (l : Launch) (Z : State) (ar : Array Value) (hw : ∀ d ∈ tables_1, d.before ar Z = true) (ws : List Jvm.Cond) (p0 : Int32) (p1 : Int32) (p2 : Int32) (p3 : Int32) (p4 : Int32) (p5 : Int32) (h0 : Heap) (n0 : Nat) (Z0 : n0 ≤ h0.size) :
    MetFree l x (head1 (Jvm.Cond.code x code maxLocals ret :: ws) room_1) (fun a U => a = #[(.int p0), (.int p1), (.int p2), (.int p3), (.int p4), (.int p5)] ∧ Z.Warmed39 U.vm ∧ U.heap = h0) (fun _ _ _ _ _ => True) (fun _ U o U' => ∃ v L, o = .returned v ∧ Q0 Z p0 p1 p2 p3 p4 p5 h0 n0 v U'.heap L ∧ FrameEnd U o U' L room_1.cells room_1.slots) := by
  refine MetFree.of_bodySF (plainFor_of_name pn0) hisR ?_
  intro p e s m args below meth c s₁ Bd hml0 hP hK
  obtain ⟨rfl, hZ, hh⟩ := hP
  have hx := Bd.exec
  have hby := Bd.bytes
  have hlk := Bd.notSynchronized
  have hml : c.maxLocals = 22 := hml0
  have hown : s.vm.findClass "com/example/corewright/corewright/equilibrium/StrategyGetMaxValuePinLaw" = some m.cls := findClass_of_methodNamed Bd.named
  have hnm := (name_of_methodNamed Bd.named Bd.method).1
  have X0 : Stand p l e room_1 s m #[(.int p0), (.int p1), (.int p2), (.int p3), (.int p4), (.int p5)] below meth c s₁ [] 0 0 := Stand.of_body Bd
  have e0 : s₁.heap = h0 := by rw [← hh, Bd.state]; rfl
  have N0 := Fr.nil n0
  have K0 := Keep.refl h0 []
  refine own_enter (Q := Q0 Z p0 p1 p2 p3 p4 p5 h0 n0) (ef0 m p0 p1 p2 p3 p4 p5) ?_
  refine own_st (T' := s₁) (g' := (mkF m 8 #[.val (.int p0), .val (.int p1), .val (.int p2), .val (.int p3), .val (.int p4), .val (.int p5), .unset, .unset, .unset, .unset, .unset, .unset, .unset, .unset, .unset, .unset, .unset, .unset, .unset, .unset, .unset, .unset] [(.int ((2 : Int32) + ((p0 &&& (2147483647 : Int32)) % (3 : Int32))))])) (fun t k => ?_) ?_
  · show Steps p.tables e below (s₁.setTop (mkF m 0 #[.val (.int p0), .val (.int p1), .val (.int p2), .val (.int p3), .val (.int p4), .val (.int p5), .unset, .unset, .unset, .unset, .unset, .unset, .unset, .unset, .unset, .unset, .unset, .unset, .unset, .unset, .unset, .unset] [])) t
    refine XS.iconst X0.here hx rfl (hb hby at_0) ?_
    refine XS.iloadN X0.here hx rfl (hb hby at_1) rfl ?_
    refine X0.ldcInt hx hown (mvT hZ (hw _ (List.mem_of_getElem? (i := 0) rfl))) (g := (mkF m 2 #[.val (.int p0), .val (.int p1), .val (.int p2), .val (.int p3), .val (.int p4), .val (.int p5), .unset, .unset, .unset, .unset, .unset, .unset, .unset, .unset, .unset, .unset, .unset, .unset, .unset, .unset, .unset, .unset] [(.int p0), (.int (2 : Int32))])) rfl (hb hby at_2) _ ?_
    refine XS.iand X0.here hx rfl (hb hby at_4) rfl ?_
    refine XS.iconst X0.here hx rfl (hb hby at_5) ?_
    refine iremM X0 hx rfl (hb hby at_6) rfl (by decide) ?_
    refine XS.iadd X0.here hx rfl (hb hby at_7) rfl ?_
    exact k
  rcases own_n3 p0 with hk8_1 | hk8_2 | hk8_3
  · rw [hk8_1]
    refine own_st (T' := s₁) (g' := (mkF m 10 #[.val (.int p0), .val (.int p1), .val (.int p2), .val (.int p3), .val (.int p4), .val (.int p5), .val (.int (2 : Int32)), .unset, .unset, .unset, .unset, .unset, .unset, .unset, .unset, .unset, .unset, .unset, .unset, .unset, .unset, .unset] [])) (fun t k => ?_) ?_
    · show Steps p.tables e below (s₁.setTop (mkF m 8 #[.val (.int p0), .val (.int p1), .val (.int p2), .val (.int p3), .val (.int p4), .val (.int p5), .unset, .unset, .unset, .unset, .unset, .unset, .unset, .unset, .unset, .unset, .unset, .unset, .unset, .unset, .unset, .unset] [(.int (2 : Int32))])) t
      refine XS.istore X0.here hx rfl (hb hby at_8) rfl (l' := #[.val (.int p0), .val (.int p1), .val (.int p2), .val (.int p3), .val (.int p4), .val (.int p5), .val (.int (2 : Int32)), .unset, .unset, .unset, .unset, .unset, .unset, .unset, .unset, .unset, .unset, .unset, .unset, .unset, .unset, .unset]) rfl ?_
      exact k
    have hJ46 : ∀ (dA : UInt64) (dB : UInt64) (dC : UInt64) (hd : own_T dA dB dC), own_G p e below s (Q0 Z p0 p1 p2 p3 p4 p5 h0 n0) (room_1).cells (room_1).slots s₁ (mkF m 46 #[.val (.int p0), .val (.int p1), .val (.int p2), .val (.int p3), .val (.int p4), .val (.int p5), .val (.int (2 : Int32)), .val (.double dA), .second, .val (.double dB), .second, .val (.double dC), .second, .unset, .unset, .unset, .unset, .unset, .unset, .unset, .unset, .unset] []) := by
      intro dA dB dC hd
      refine own_st (T' := s₁) (g' := (mkF m 48 #[.val (.int p0), .val (.int p1), .val (.int p2), .val (.int p3), .val (.int p4), .val (.int p5), .val (.int (2 : Int32)), .val (.double dA), .second, .val (.double dB), .second, .val (.double dC), .second, .unset, .unset, .unset, .unset, .unset, .unset, .unset, .unset, .unset] [(.int (2 : Int32))])) (fun t k => ?_) ?_
      · show Steps p.tables e below (s₁.setTop (mkF m 46 #[.val (.int p0), .val (.int p1), .val (.int p2), .val (.int p3), .val (.int p4), .val (.int p5), .val (.int (2 : Int32)), .val (.double dA), .second, .val (.double dB), .second, .val (.double dC), .second, .unset, .unset, .unset, .unset, .unset, .unset, .unset, .unset, .unset] [])) t
        refine XS.iload X0.here hx rfl (hb hby at_46) rfl ?_
        exact k
      obtain ⟨T4, h4, k4, X4, e4, E4, A4, B4, st4⟩ := newPE X0 hx hZ (hw _ (List.mem_of_getElem? (i := 1) rfl)) e0 (g := (mkF m 48 #[.val (.int p0), .val (.int p1), .val (.int p2), .val (.int p3), .val (.int p4), .val (.int p5), .val (.int (2 : Int32)), .val (.double dA), .second, .val (.double dB), .second, .val (.double dC), .second, .unset, .unset, .unset, .unset, .unset, .unset, .unset, .unset, .unset] [(.int (2 : Int32))])) rfl (hb hby at_48) rfl (by decide) (cap := 2) (by decide) (by decide) (by decide) (by decide) (ad := "[D") (by decide +kernel)
      obtain ⟨b4, g4⟩ : ∃ z, z = h0.size := ⟨_, rfl⟩
      rw [← g4] at A4 B4 st4
      have g_b4 : n0 ≤ b4 := Nat.le_trans Z0 (Nat.le_of_eq g4.symm)
      have sz_b4 : h0.size ≤ b4 := Nat.le_trans K0.1 (Nat.le_of_eq g4.symm)
      have z5 := Nat.le_trans Z0 E4.1
      have k6 := K0.ext E4
      have v7 : Arv Z h4 b4 k4 .double (2 : Int32) [(.double (0 : UInt64)), (.double (0 : UInt64))] (.double (0 : UInt64)) := (Arv.new A4 (by decide)).pad (pad_rep [] (.double (0 : UInt64)) 2)
      refine own_st (T' := T4) (g' := (mkF m 50 #[.val (.int p0), .val (.int p1), .val (.int p2), .val (.int p3), .val (.int p4), .val (.int p5), .val (.int (2 : Int32)), .val (.double dA), .second, .val (.double dB), .second, .val (.double dC), .second, .unset, .unset, .unset, .unset, .unset, .unset, .unset, .unset, .unset] [(.ref b4)])) st4 ?_
      refine own_st (T' := T4) (g' := (mkF m 54 #[.val (.int p0), .val (.int p1), .val (.int p2), .val (.int p3), .val (.int p4), .val (.int p5), .val (.int (2 : Int32)), .val (.double dA), .second, .val (.double dB), .second, .val (.double dC), .second, .val (.ref b4), .unset, .unset, .unset, .unset, .unset, .unset, .unset, .unset] [(.int (2 : Int32))])) (fun t k => ?_) ?_
      · show Steps p.tables e below (T4.setTop (mkF m 50 #[.val (.int p0), .val (.int p1), .val (.int p2), .val (.int p3), .val (.int p4), .val (.int p5), .val (.int (2 : Int32)), .val (.double dA), .second, .val (.double dB), .second, .val (.double dC), .second, .unset, .unset, .unset, .unset, .unset, .unset, .unset, .unset, .unset] [(.ref b4)])) t
        refine XS.astore X4.here hx rfl (hb hby at_50) rfl rfl (l' := #[.val (.int p0), .val (.int p1), .val (.int p2), .val (.int p3), .val (.int p4), .val (.int p5), .val (.int (2 : Int32)), .val (.double dA), .second, .val (.double dB), .second, .val (.double dC), .second, .val (.ref b4), .unset, .unset, .unset, .unset, .unset, .unset, .unset, .unset]) rfl ?_
        refine XS.iload X4.here hx rfl (hb hby at_52) rfl ?_
        exact k
      obtain ⟨T8, h8, k8, X8, e8, E8, A8, B8, st8⟩ := newPE X4 hx hZ (hw _ (List.mem_of_getElem? (i := 1) rfl)) e4 (g := (mkF m 54 #[.val (.int p0), .val (.int p1), .val (.int p2), .val (.int p3), .val (.int p4), .val (.int p5), .val (.int (2 : Int32)), .val (.double dA), .second, .val (.double dB), .second, .val (.double dC), .second, .val (.ref b4), .unset, .unset, .unset, .unset, .unset, .unset, .unset, .unset] [(.int (2 : Int32))])) rfl (hb hby at_54) rfl (by decide) (cap := 2) (by decide) (by decide) (by decide) (by decide) (ad := "[D") (by decide +kernel)
      obtain ⟨b8, g8⟩ : ∃ z, z = h4.size := ⟨_, rfl⟩
      rw [← g8] at A8 B8 st8
      have ne_b4_b8 : b4 ≠ b8 := Nat.ne_of_lt (Nat.lt_of_lt_of_le B4.lt (Nat.le_of_eq g8.symm))
      have g_b8 : n0 ≤ b8 := Nat.le_trans z5 (Nat.le_of_eq g8.symm)
      have sz_b8 : h0.size ≤ b8 := Nat.le_trans k6.1 (Nat.le_of_eq g8.symm)
      have f9 := B4.ext E8
      have f10 := v7.ext E8
      have z11 := Nat.le_trans z5 E8.1
      have k12 := k6.ext E8
      have v13 : Arv Z h8 b8 k8 .double (2 : Int32) [(.double (0 : UInt64)), (.double (0 : UInt64))] (.double (0 : UInt64)) := (Arv.new A8 (by decide)).pad (pad_rep [] (.double (0 : UInt64)) 2)
      refine own_st (T' := T8) (g' := (mkF m 56 #[.val (.int p0), .val (.int p1), .val (.int p2), .val (.int p3), .val (.int p4), .val (.int p5), .val (.int (2 : Int32)), .val (.double dA), .second, .val (.double dB), .second, .val (.double dC), .second, .val (.ref b4), .unset, .unset, .unset, .unset, .unset, .unset, .unset, .unset] [(.ref b8)])) st8 ?_
      refine own_st (T' := T8) (g' := (mkF m 62 #[.val (.int p0), .val (.int p1), .val (.int p2), .val (.int p3), .val (.int p4), .val (.int p5), .val (.int (2 : Int32)), .val (.double dA), .second, .val (.double dB), .second, .val (.double dC), .second, .val (.ref b4), .val (.ref b8), .unset, .unset, .unset, .unset, .unset, .unset, .unset] [(.double (0 : UInt64)), (.int (0 : Int32)), (.ref b4)])) (fun t k => ?_) ?_
      · show Steps p.tables e below (T8.setTop (mkF m 56 #[.val (.int p0), .val (.int p1), .val (.int p2), .val (.int p3), .val (.int p4), .val (.int p5), .val (.int (2 : Int32)), .val (.double dA), .second, .val (.double dB), .second, .val (.double dC), .second, .val (.ref b4), .unset, .unset, .unset, .unset, .unset, .unset, .unset, .unset] [(.ref b8)])) t
        refine XS.astore X8.here hx rfl (hb hby at_56) rfl rfl (l' := #[.val (.int p0), .val (.int p1), .val (.int p2), .val (.int p3), .val (.int p4), .val (.int p5), .val (.int (2 : Int32)), .val (.double dA), .second, .val (.double dB), .second, .val (.double dC), .second, .val (.ref b4), .val (.ref b8), .unset, .unset, .unset, .unset, .unset, .unset, .unset]) rfl ?_
        refine XS.aload X8.here hx rfl (hb hby at_58) rfl rfl ?_
        refine XS.iconst X8.here hx rfl (hb hby at_60) ?_
        refine XS.dconst0 X8.here hx rfl (hb hby at_61) rfl ?_
        exact k
      obtain ⟨c14, r14a, r14b, r14c, r14d, r14e, r14f⟩ := id f10
      have i14 : ¬ ((0 : Int32) < 0 ∨ c14.slots.size ≤ ((0 : Int32)).toNatClampNeg) := inb_of r14c ⟨by decide, by decide⟩
      obtain ⟨T14, h14, X14, e14, W14, st14⟩ := stD X8 hx hZ e8 r14a (j := (0 : Int32)) i14 (g := (mkF m 62 #[.val (.int p0), .val (.int p1), .val (.int p2), .val (.int p3), .val (.int p4), .val (.int p5), .val (.int (2 : Int32)), .val (.double dA), .second, .val (.double dB), .second, .val (.double dC), .second, .val (.ref b4), .val (.ref b8), .unset, .unset, .unset, .unset, .unset, .unset, .unset] [(.double (0 : UInt64)), (.int (0 : Int32)), (.ref b4)])) rfl rfl (hb hby at_62)
      have v15 := Arv.set r14a r14b r14c r14d r14e r14f rfl W14 0 rfl (Nat.le_of_ble_eq_true rfl)
      have f16 := f9.wr W14
      have f17 := B8.wr W14
      have f18 := v13.other W14 (Ne.symm ne_b4_b8)
      have z19 := Nat.le_trans z11 (Keep.of_wr W14).1
      have k20 := k12.wr W14 (Or.inr sz_b4)
      have n21 := Fr.snoc X14 N0 g_b4
      refine own_st (T' := T14) (g' := (mkF m 63 #[.val (.int p0), .val (.int p1), .val (.int p2), .val (.int p3), .val (.int p4), .val (.int p5), .val (.int (2 : Int32)), .val (.double dA), .second, .val (.double dB), .second, .val (.double dC), .second, .val (.ref b4), .val (.ref b8), .unset, .unset, .unset, .unset, .unset, .unset, .unset] [])) st14 ?_
      refine own_st (T' := T14) (g' := (mkF m 68 #[.val (.int p0), .val (.int p1), .val (.int p2), .val (.int p3), .val (.int p4), .val (.int p5), .val (.int (2 : Int32)), .val (.double dA), .second, .val (.double dB), .second, .val (.double dC), .second, .val (.ref b4), .val (.ref b8), .unset, .unset, .unset, .unset, .unset, .unset, .unset] [(.double dA), (.int (1 : Int32)), (.ref b4)])) (fun t k => ?_) ?_
      · show Steps p.tables e below (T14.setTop (mkF m 63 #[.val (.int p0), .val (.int p1), .val (.int p2), .val (.int p3), .val (.int p4), .val (.int p5), .val (.int (2 : Int32)), .val (.double dA), .second, .val (.double dB), .second, .val (.double dC), .second, .val (.ref b4), .val (.ref b8), .unset, .unset, .unset, .unset, .unset, .unset, .unset] [])) t
        refine XS.aload X14.here hx rfl (hb hby at_63) rfl rfl ?_
        refine XS.iconst X14.here hx rfl (hb hby at_65) ?_
        refine XS.dload X14.here hx rfl (hb hby at_66) rfl ?_
        exact k
      obtain ⟨c22, r22a, r22b, r22c, r22d, r22e, r22f⟩ := id v15
      have i22 : ¬ ((1 : Int32) < 0 ∨ c22.slots.size ≤ ((1 : Int32)).toNatClampNeg) := inb_of r22c ⟨by decide, by decide⟩
      obtain ⟨T22, h22, X22, e22, W22, st22⟩ := stD X14 hx hZ e14 r22a (j := (1 : Int32)) i22 (g := (mkF m 68 #[.val (.int p0), .val (.int p1), .val (.int p2), .val (.int p3), .val (.int p4), .val (.int p5), .val (.int (2 : Int32)), .val (.double dA), .second, .val (.double dB), .second, .val (.double dC), .second, .val (.ref b4), .val (.ref b8), .unset, .unset, .unset, .unset, .unset, .unset, .unset] [(.double dA), (.int (1 : Int32)), (.ref b4)])) rfl rfl (hb hby at_68)
      have v23 := Arv.set r22a r22b r22c r22d r22e r22f rfl W22 1 rfl (Nat.le_of_ble_eq_true rfl)
      have f24 := f16.wr W22
      have f25 := f17.wr W22
      have f26 := f18.other W22 (Ne.symm ne_b4_b8)
      have z27 := Nat.le_trans z19 (Keep.of_wr W22).1
      have k28 := k20.wr W22 (Or.inr sz_b4)
      have n29 := Fr.snoc X22 n21 g_b4
      refine own_st (T' := T22) (g' := (mkF m 69 #[.val (.int p0), .val (.int p1), .val (.int p2), .val (.int p3), .val (.int p4), .val (.int p5), .val (.int (2 : Int32)), .val (.double dA), .second, .val (.double dB), .second, .val (.double dC), .second, .val (.ref b4), .val (.ref b8), .unset, .unset, .unset, .unset, .unset, .unset, .unset] [])) st22 ?_
      refine own_st (T' := T22) (g' := (mkF m 79 #[.val (.int p0), .val (.int p1), .val (.int p2), .val (.int p3), .val (.int p4), .val (.int p5), .val (.int (2 : Int32)), .val (.double dA), .second, .val (.double dB), .second, .val (.double dC), .second, .val (.ref b4), .val (.ref b8), .unset, .unset, .unset, .unset, .unset, .unset, .unset] [(.double (FP.i2d (p4 &&& (255 : Int32)))), (.int (0 : Int32)), (.ref b8)])) (fun t k => ?_) ?_
      · show Steps p.tables e below (T22.setTop (mkF m 69 #[.val (.int p0), .val (.int p1), .val (.int p2), .val (.int p3), .val (.int p4), .val (.int p5), .val (.int (2 : Int32)), .val (.double dA), .second, .val (.double dB), .second, .val (.double dC), .second, .val (.ref b4), .val (.ref b8), .unset, .unset, .unset, .unset, .unset, .unset, .unset] [])) t
        refine XS.aload X22.here hx rfl (hb hby at_69) rfl rfl ?_
        refine XS.iconst X22.here hx rfl (hb hby at_71) ?_
        refine XS.iload X22.here hx rfl (hb hby at_72) rfl ?_
        refine XS.sipush X22.here hx rfl (hb hby at_74) ?_
        refine XS.iand X22.here hx rfl (hb hby at_77) rfl ?_
        refine XS.i2dS X22.here hx rfl (hb hby at_78) rfl rfl ?_
        exact k
      obtain ⟨c30, r30a, r30b, r30c, r30d, r30e, r30f⟩ := id f26
      have i30 : ¬ ((0 : Int32) < 0 ∨ c30.slots.size ≤ ((0 : Int32)).toNatClampNeg) := inb_of r30c ⟨by decide, by decide⟩
      obtain ⟨T30, h30, X30, e30, W30, st30⟩ := stD X22 hx hZ e22 r30a (j := (0 : Int32)) i30 (g := (mkF m 79 #[.val (.int p0), .val (.int p1), .val (.int p2), .val (.int p3), .val (.int p4), .val (.int p5), .val (.int (2 : Int32)), .val (.double dA), .second, .val (.double dB), .second, .val (.double dC), .second, .val (.ref b4), .val (.ref b8), .unset, .unset, .unset, .unset, .unset, .unset, .unset] [(.double (FP.i2d (p4 &&& (255 : Int32)))), (.int (0 : Int32)), (.ref b8)])) rfl rfl (hb hby at_79)
      have v31 := Arv.set r30a r30b r30c r30d r30e r30f rfl W30 0 rfl (Nat.le_of_ble_eq_true rfl)
      have f32 := f24.wr W30
      have f33 := v23.other W30 ne_b4_b8
      have f34 := f25.wr W30
      have z35 := Nat.le_trans z27 (Keep.of_wr W30).1
      have k36 := k28.wr W30 (Or.inr sz_b8)
      have n37 := Fr.snoc X30 n29 g_b8
      refine own_st (T' := T30) (g' := (mkF m 80 #[.val (.int p0), .val (.int p1), .val (.int p2), .val (.int p3), .val (.int p4), .val (.int p5), .val (.int (2 : Int32)), .val (.double dA), .second, .val (.double dB), .second, .val (.double dC), .second, .val (.ref b4), .val (.ref b8), .unset, .unset, .unset, .unset, .unset, .unset, .unset] [])) st30 ?_
      refine own_st (T' := T30) (g' := (mkF m 93 #[.val (.int p0), .val (.int p1), .val (.int p2), .val (.int p3), .val (.int p4), .val (.int p5), .val (.int (2 : Int32)), .val (.double dA), .second, .val (.double dB), .second, .val (.double dC), .second, .val (.ref b4), .val (.ref b8), .unset, .unset, .unset, .unset, .unset, .unset, .unset] [(.double (FP.i2d (((p4.toUInt32 >>> ((8 : Int32) &&& 31).toUInt32).toInt32) &&& (255 : Int32)))), (.int (1 : Int32)), (.ref b8)])) (fun t k => ?_) ?_
      · show Steps p.tables e below (T30.setTop (mkF m 80 #[.val (.int p0), .val (.int p1), .val (.int p2), .val (.int p3), .val (.int p4), .val (.int p5), .val (.int (2 : Int32)), .val (.double dA), .second, .val (.double dB), .second, .val (.double dC), .second, .val (.ref b4), .val (.ref b8), .unset, .unset, .unset, .unset, .unset, .unset, .unset] [])) t
        refine XS.aload X30.here hx rfl (hb hby at_80) rfl rfl ?_
        refine XS.iconst X30.here hx rfl (hb hby at_82) ?_
        refine XS.iload X30.here hx rfl (hb hby at_83) rfl ?_
        refine XS.bipush X30.here hx rfl (hb hby at_85) ?_
        refine XS.iushr X30.here hx rfl (hb hby at_87) rfl ?_
        refine XS.sipush X30.here hx rfl (hb hby at_88) ?_
        refine XS.iand X30.here hx rfl (hb hby at_91) rfl ?_
        refine XS.i2dS X30.here hx rfl (hb hby at_92) rfl rfl ?_
        exact k
      obtain ⟨c38, r38a, r38b, r38c, r38d, r38e, r38f⟩ := id v31
      have i38 : ¬ ((1 : Int32) < 0 ∨ c38.slots.size ≤ ((1 : Int32)).toNatClampNeg) := inb_of r38c ⟨by decide, by decide⟩
      obtain ⟨T38, h38, X38, e38, W38, st38⟩ := stD X30 hx hZ e30 r38a (j := (1 : Int32)) i38 (g := (mkF m 93 #[.val (.int p0), .val (.int p1), .val (.int p2), .val (.int p3), .val (.int p4), .val (.int p5), .val (.int (2 : Int32)), .val (.double dA), .second, .val (.double dB), .second, .val (.double dC), .second, .val (.ref b4), .val (.ref b8), .unset, .unset, .unset, .unset, .unset, .unset, .unset] [(.double (FP.i2d (((p4.toUInt32 >>> ((8 : Int32) &&& 31).toUInt32).toInt32) &&& (255 : Int32)))), (.int (1 : Int32)), (.ref b8)])) rfl rfl (hb hby at_93)
      have v39 := Arv.set r38a r38b r38c r38d r38e r38f rfl W38 1 rfl (Nat.le_of_ble_eq_true rfl)
      have f40 := f32.wr W38
      have f41 := f33.other W38 ne_b4_b8
      have f42 := f34.wr W38
      have z43 := Nat.le_trans z35 (Keep.of_wr W38).1
      have k44 := k36.wr W38 (Or.inr sz_b8)
      have n45 := Fr.snoc X38 n37 g_b8
      refine own_st (T' := T38) (g' := (mkF m 94 #[.val (.int p0), .val (.int p1), .val (.int p2), .val (.int p3), .val (.int p4), .val (.int p5), .val (.int (2 : Int32)), .val (.double dA), .second, .val (.double dB), .second, .val (.double dC), .second, .val (.ref b4), .val (.ref b8), .unset, .unset, .unset, .unset, .unset, .unset, .unset] [])) st38 ?_
      refine own_st (T' := T38) (g' := (mkF m 172 #[.val (.int p0), .val (.int p1), .val (.int p2), .val (.int p3), .val (.int p4), .val (.int p5), .val (.int (2 : Int32)), .val (.double dA), .second, .val (.double dB), .second, .val (.double dC), .second, .val (.ref b4), .val (.ref b8), .val (.double dA), .second, .unset, .unset, .unset, .unset, .unset] [])) (fun t k => ?_) ?_
      · show Steps p.tables e below (T38.setTop (mkF m 94 #[.val (.int p0), .val (.int p1), .val (.int p2), .val (.int p3), .val (.int p4), .val (.int p5), .val (.int (2 : Int32)), .val (.double dA), .second, .val (.double dB), .second, .val (.double dC), .second, .val (.ref b4), .val (.ref b8), .unset, .unset, .unset, .unset, .unset, .unset, .unset] [])) t
        refine XS.iload X38.here hx rfl (hb hby at_94) rfl ?_
        refine XS.iconst X38.here hx rfl (hb hby at_96) ?_
        refine XS.icmpYes X38.here hx rfl (pc0 := 97) (pc' := 120) rfl (hb hby at_97) rfl (by decide) (by decide) (by decide) ?_
        refine XS.iload X38.here hx rfl (hb hby at_120) rfl ?_
        refine XS.iconst X38.here hx rfl (hb hby at_122) ?_
        refine XS.icmpYes X38.here hx rfl (pc0 := 123) (pc' := 146) rfl (hb hby at_123) rfl (by decide) (by decide) (by decide) ?_
        refine XS.iload X38.here hx rfl (hb hby at_146) rfl ?_
        refine XS.iconst X38.here hx rfl (hb hby at_148) ?_
        show Steps p.tables e below (T38.setTop (mkF m 149 #[.val (.int p0), .val (.int p1), .val (.int p2), .val (.int p3), .val (.int p4), .val (.int p5), .val (.int (2 : Int32)), .val (.double dA), .second, .val (.double dB), .second, .val (.double dC), .second, .val (.ref b4), .val (.ref b8), .unset, .unset, .unset, .unset, .unset, .unset, .unset] [(.int (2 : Int32)), (.int (2 : Int32))])) t
        refine XS.icmpNo X38.here hx rfl (hb hby at_149) rfl (by decide) ?_
        refine XS.dload X38.here hx rfl (hb hby at_152) rfl ?_
        refine XS.goto X38.here hx rfl (pc0 := 154) (pc' := 170) rfl (hb hby at_154) (by decide) (by decide) ?_
        refine XS.dstore X38.here hx rfl (hb hby at_170) rfl (l' := #[.val (.int p0), .val (.int p1), .val (.int p2), .val (.int p3), .val (.int p4), .val (.int p5), .val (.int (2 : Int32)), .val (.double dA), .second, .val (.double dB), .second, .val (.double dC), .second, .val (.ref b4), .val (.ref b8), .val (.double dA), .second, .unset, .unset, .unset, .unset, .unset]) rfl ?_
        exact k
      obtain ⟨T46, h46, X46, e46, E46, A46, D46, -, st46⟩ := newO X38 hx hZ hown (hw _ (List.mem_of_getElem? (i := 2) rfl)) (hw _ (List.mem_of_getElem? (i := 3) rfl)) (hw _ (List.mem_of_getElem? (i := 4) rfl)) e38 (g := (mkF m 172 #[.val (.int p0), .val (.int p1), .val (.int p2), .val (.int p3), .val (.int p4), .val (.int p5), .val (.int (2 : Int32)), .val (.double dA), .second, .val (.double dB), .second, .val (.double dC), .second, .val (.ref b4), .val (.ref b8), .val (.double dA), .second, .unset, .unset, .unset, .unset, .unset] [])) rfl (hb hby at_172) (by decide) (by decide)
      obtain ⟨b46, g46⟩ : ∃ z, z = h38.size := ⟨_, rfl⟩
      rw [← g46] at A46 D46 st46
      have ne_b4_b46 : b4 ≠ b46 := Nat.ne_of_lt (Nat.lt_of_lt_of_le f40.lt (Nat.le_of_eq g46.symm))
      have ne_b8_b46 : b8 ≠ b46 := Nat.ne_of_lt (Nat.lt_of_lt_of_le f42.lt (Nat.le_of_eq g46.symm))
      have g_b46 : n0 ≤ b46 := Nat.le_trans z43 (Nat.le_of_eq g46.symm)
      have sz_b46 : h0.size ≤ b46 := Nat.le_trans k44.1 (Nat.le_of_eq g46.symm)
      have f47 := f40.ext E46
      have f48 := f41.ext E46
      have f49 := f42.ext E46
      have f50 := v39.ext E46
      have z51 := Nat.le_trans z43 E46.1
      have k52 := k44.ext E46
      have f53 : Fld Z h46 b46 "com/example/corewright/corewright/equilibrium/Strategy" "values" "[D" .null := D46 (Or.inr (hw _ (List.mem_of_getElem? (i := 30) rfl))) (ty := (.array .double)) (by decide)
      have f54 : Fld Z h46 b46 "com/example/corewright/corewright/equilibrium/Strategy" "bids" "[D" .null := D46 (Or.inr (hw _ (List.mem_of_getElem? (i := 32) rfl))) (ty := (.array .double)) (by decide)
      refine own_st (T' := T46) (g' := (mkF m 175 #[.val (.int p0), .val (.int p1), .val (.int p2), .val (.int p3), .val (.int p4), .val (.int p5), .val (.int (2 : Int32)), .val (.double dA), .second, .val (.double dB), .second, .val (.double dC), .second, .val (.ref b4), .val (.ref b8), .val (.double dA), .second, .unset, .unset, .unset, .unset, .unset] [(.ref b46)])) st46 ?_
      refine own_st (T' := T46) (g' := (mkF m 180 #[.val (.int p0), .val (.int p1), .val (.int p2), .val (.int p3), .val (.int p4), .val (.int p5), .val (.int (2 : Int32)), .val (.double dA), .second, .val (.double dB), .second, .val (.double dC), .second, .val (.ref b4), .val (.ref b8), .val (.double dA), .second, .unset, .unset, .unset, .unset, .unset] [(.ref b8), (.ref b4), (.ref b46), (.ref b46)])) (fun t k => ?_) ?_
      · show Steps p.tables e below (T46.setTop (mkF m 175 #[.val (.int p0), .val (.int p1), .val (.int p2), .val (.int p3), .val (.int p4), .val (.int p5), .val (.int (2 : Int32)), .val (.double dA), .second, .val (.double dB), .second, .val (.double dC), .second, .val (.ref b4), .val (.ref b8), .val (.double dA), .second, .unset, .unset, .unset, .unset, .unset] [(.ref b46)])) t
        refine XS.dup X46.here hx rfl (hb hby at_175) rfl rfl ?_
        refine XS.aload X46.here hx rfl (hb hby at_176) rfl rfl ?_
        refine XS.aload X46.here hx rfl (hb hby at_178) rfl rfl ?_
        exact k
      obtain ⟨_, _, ⟨T55, L55, k55, n55⟩, -, X55, ⟨Lc55, hQ55, l55, y55, z55⟩, st55⟩ := X46.specialBack hx (y := (⟨"com/example/corewright/corewright/equilibrium/Strategy", "<init>", "([D[D)V"⟩ : MethodName)) rfl hown (mvT hZ (hw _ (List.mem_of_getElem? (i := 5) rfl))) (mvT hZ (hw _ (List.mem_of_getElem? (i := 6) rfl))) (mvT hZ (hw _ (List.mem_of_getElem? (i := 7) rfl))) (by decide) (backOf (W := 1) (rmi2 l Z ar hw [] b46 b4 b8 (.null) (.null) k4 ((0 : UInt64)) dA k8 ((FP.i2d (p4 &&& (255 : Int32)))) ((FP.i2d (((p4.toUInt32 >>> ((8 : Int32) &&& 31).toUInt32).toInt32) &&& (255 : Int32)))) h46 n0 z51 A46 f53 f54 f47 f48 f49 f50 own_00 hd.nnA (own_max hd.finA .l) hd.gtA0 (own_nb _) ((Jvm.Free.Fl.Mag64.fin (Jvm.Free.Fl.i2d_mag (p4 &&& (255 : Int32))) (by decide)).noNaN) (own_max (Jvm.Free.Fl.i2d_fin _) .l) (own_nb _) ((Jvm.Free.Fl.Mag64.fin (Jvm.Free.Fl.i2d_mag (((p4.toUInt32 >>> ((8 : Int32) &&& 31).toUInt32).toInt32) &&& (255 : Int32))) (by decide)).noNaN) (own_max (Jvm.Free.Fl.i2d_fin _) .l) ne_b4_b46 ne_b8_b46 g_b46) hZ (hw _ (List.mem_of_getElem? (i := 7) rfl)) (hw _ (List.mem_of_getElem? (i := 4) rfl)) (by decide) (by decide)) (g := (mkF m 180 #[.val (.int p0), .val (.int p1), .val (.int p2), .val (.int p3), .val (.int p4), .val (.int p5), .val (.int (2 : Int32)), .val (.double dA), .second, .val (.double dB), .second, .val (.double dC), .second, .val (.ref b4), .val (.ref b8), .val (.double dA), .second, .unset, .unset, .unset, .unset, .unset] [(.ref b8), (.ref b4), (.ref b46), (.ref b46)])) rfl (by rw [hml]; rfl) (Steps.refl _) (a := b46) (argsL := [(.ref b4), (.ref b8)]) (rest := [(.ref b46)]) (lenOf pd0_0 rfl) rfl (by show 2 * 0 + _ ≤ _; exact Nat.le_of_eq rfl) (hb hby at_180) (fun _ _ => ⟨rfl, e46, (by decide : 3 + 2 ≤ _), (by decide : 6 + 4 ≤ _)⟩)
      dsimp only [Pt.U, Pt.locs, Pt.cells, Pt.slots] at X55 l55 y55 z55 st55 hQ55
      subst l55 y55 z55
      obtain ⟨x0_55, x1_55, rfl, N55q, K55, sz55_x0, sz55_x1, ne55_x0_x1, f56, f57, f58, f59, f60, f61, f62⟩ := hQ55
      have n63 := Fr.app n45 N55q
      have ne_b4_x0_55 : b4 ≠ x0_55 := Nat.ne_of_lt (Nat.lt_of_lt_of_le f47.lt sz55_x0)
      have ne_b46_x0_55 : b46 ≠ x0_55 := Nat.ne_of_lt (Nat.lt_of_lt_of_le A46.lt sz55_x0)
      have ne_b8_x0_55 : b8 ≠ x0_55 := Nat.ne_of_lt (Nat.lt_of_lt_of_le f49.lt sz55_x0)
      have g_x0_55 : n0 ≤ x0_55 := Nat.le_trans z51 sz55_x0
      have sz_x0_55 : h0.size ≤ x0_55 := Nat.le_trans k52.1 sz55_x0
      have ne_b4_x1_55 : b4 ≠ x1_55 := Nat.ne_of_lt (Nat.lt_of_lt_of_le f47.lt sz55_x1)
      have ne_b46_x1_55 : b46 ≠ x1_55 := Nat.ne_of_lt (Nat.lt_of_lt_of_le A46.lt sz55_x1)
      have ne_b8_x1_55 : b8 ≠ x1_55 := Nat.ne_of_lt (Nat.lt_of_lt_of_le f49.lt sz55_x1)
      have g_x1_55 : n0 ≤ x1_55 := Nat.le_trans z51 sz55_x1
      have sz_x1_55 : h0.size ≤ x1_55 := Nat.le_trans k52.1 sz55_x1
      have f64 := f47.keep K55
      have f65 := f48.keep K55 (ninS ne_b4_b46 nin0)
      have f66 := f49.keep K55
      have f67 := f50.keep K55 (ninS ne_b8_b46 nin0)
      have f68 := A46.keep K55
      have z69 := Nat.le_trans z51 K55.1
      have k70 := k52.trans K55 (allS (Or.inr sz_b46) all0)
      refine own_tr (T' := T55) (g' := (mkF m 183 #[.val (.int p0), .val (.int p1), .val (.int p2), .val (.int p3), .val (.int p4), .val (.int p5), .val (.int (2 : Int32)), .val (.double dA), .second, .val (.double dB), .second, .val (.double dC), .second, .val (.ref b4), .val (.ref b8), .val (.double dA), .second, .unset, .unset, .unset, .unset, .unset] [(.ref b46)])) st55 ?_
      refine own_st (T' := T55) (g' := (mkF m 187 #[.val (.int p0), .val (.int p1), .val (.int p2), .val (.int p3), .val (.int p4), .val (.int p5), .val (.int (2 : Int32)), .val (.double dA), .second, .val (.double dB), .second, .val (.double dC), .second, .val (.ref b4), .val (.ref b8), .val (.double dA), .second, .val (.ref b46), .unset, .unset, .unset, .unset] [(.ref b46)])) (fun t k => ?_) ?_
      · show Steps p.tables e below (T55.setTop (mkF m 183 #[.val (.int p0), .val (.int p1), .val (.int p2), .val (.int p3), .val (.int p4), .val (.int p5), .val (.int (2 : Int32)), .val (.double dA), .second, .val (.double dB), .second, .val (.double dC), .second, .val (.ref b4), .val (.ref b8), .val (.double dA), .second, .unset, .unset, .unset, .unset, .unset] [(.ref b46)])) t
        refine XS.astore X55.here hx rfl (hb hby at_183) rfl rfl (l' := #[.val (.int p0), .val (.int p1), .val (.int p2), .val (.int p3), .val (.int p4), .val (.int p5), .val (.int (2 : Int32)), .val (.double dA), .second, .val (.double dB), .second, .val (.double dC), .second, .val (.ref b4), .val (.ref b8), .val (.double dA), .second, .val (.ref b46), .unset, .unset, .unset, .unset]) rfl ?_
        refine XS.aload X55.here hx rfl (hb hby at_185) rfl rfl ?_
        exact k
      obtain ⟨cq71, kq71, qa71, qb71, qc71⟩ := isOf hZ (rfl : T55.heap = T55.heap) f56
      obtain ⟨_, _, ⟨T71, L71, k71, n71⟩, -, X71, ⟨Lc71, hQ71, l71, y71, z71⟩, st71⟩ := X55.virtualBack hx (y := (⟨"com/example/corewright/corewright/equilibrium/Strategy", "getMaxValue", "()D"⟩ : MethodName)) (z := (⟨"com/example/corewright/corewright/equilibrium/Strategy", "getMaxValue", "()D"⟩ : MethodName)) hown (mvT hZ (hw _ (List.mem_of_getElem? (i := 33) rfl))) (mvT hZ (hw _ (List.mem_of_getElem? (i := 34) rfl))) (notFace_of_selects (args := #[]) (mvT hZ (hw _ (List.mem_of_getElem? (i := 36) rfl)))) (mvT hZ (hw _ (List.mem_of_getElem? (i := 36) rfl))) (mvT hZ (hw _ (List.mem_of_getElem? (i := 35) rfl))) (by decide) (backOf (W := 0) (rmg2 l Z ar hw [] b46 x0_55 k4 ((0 : UInt64)) dA T55.heap n0 z69 f56 f57 f59) hZ (hw _ (List.mem_of_getElem? (i := 37) rfl)) (hw _ (List.mem_of_getElem? (i := 4) rfl)) (by decide) (by decide)) qa71 qc71 (g := (mkF m 187 #[.val (.int p0), .val (.int p1), .val (.int p2), .val (.int p3), .val (.int p4), .val (.int p5), .val (.int (2 : Int32)), .val (.double dA), .second, .val (.double dB), .second, .val (.double dC), .second, .val (.ref b4), .val (.ref b8), .val (.double dA), .second, .val (.ref b46), .unset, .unset, .unset, .unset] [(.ref b46)])) rfl (by rw [hml]; rfl) (Steps.refl _) (argsL := []) (rest := []) (lenOf pd0_1 rfl) rfl (by show 2 * 0 + _ ≤ _; exact Nat.le_of_eq rfl) (hb hby at_187) (fun _ _ => ⟨rfl, (rfl : T55.heap = T55.heap), (by decide : 5 + 0 ≤ _), (by decide : 10 + 0 ≤ _)⟩)
      dsimp only [Pt.U, Pt.locs, Pt.cells, Pt.slots] at X71 l71 y71 z71 st71 hQ71
      subst l71 y71 z71
      obtain ⟨rfl, N71q, e71⟩ := hQ71
      have n72 := Fr.app n63 N71q
      refine own_tr (T' := T71) (g' := (mkF m 190 #[.val (.int p0), .val (.int p1), .val (.int p2), .val (.int p3), .val (.int p4), .val (.int p5), .val (.int (2 : Int32)), .val (.double dA), .second, .val (.double dB), .second, .val (.double dC), .second, .val (.ref b4), .val (.ref b8), .val (.double dA), .second, .val (.ref b46), .unset, .unset, .unset, .unset] [(.double dA)])) st71 ?_
      refine own_st (T' := T71) (g' := (mkF m 210 #[.val (.int p0), .val (.int p1), .val (.int p2), .val (.int p3), .val (.int p4), .val (.int p5), .val (.int (2 : Int32)), .val (.double dA), .second, .val (.double dB), .second, .val (.double dC), .second, .val (.ref b4), .val (.ref b8), .val (.double dA), .second, .val (.ref b46), .val (.double dA), .second, .unset, .unset] [(.double (FP.dadd dA (FP.i2d ((p5 &&& (1023 : Int32)) + (1 : Int32))))), (.int (1 : Int32)), (.ref b4)])) (fun t k => ?_) ?_
      · show Steps p.tables e below (T71.setTop (mkF m 190 #[.val (.int p0), .val (.int p1), .val (.int p2), .val (.int p3), .val (.int p4), .val (.int p5), .val (.int (2 : Int32)), .val (.double dA), .second, .val (.double dB), .second, .val (.double dC), .second, .val (.ref b4), .val (.ref b8), .val (.double dA), .second, .val (.ref b46), .unset, .unset, .unset, .unset] [(.double dA)])) t
        refine XS.dstore X71.here hx rfl (hb hby at_190) rfl (l' := #[.val (.int p0), .val (.int p1), .val (.int p2), .val (.int p3), .val (.int p4), .val (.int p5), .val (.int (2 : Int32)), .val (.double dA), .second, .val (.double dB), .second, .val (.double dC), .second, .val (.ref b4), .val (.ref b8), .val (.double dA), .second, .val (.ref b46), .val (.double dA), .second, .unset, .unset]) rfl ?_
        refine XS.aload X71.here hx rfl (hb hby at_192) rfl rfl ?_
        refine XS.iload X71.here hx rfl (hb hby at_194) rfl ?_
        refine XS.iconst X71.here hx rfl (hb hby at_196) ?_
        refine XS.isub X71.here hx rfl (hb hby at_197) rfl ?_
        refine XS.dload X71.here hx rfl (hb hby at_198) rfl ?_
        refine XS.iload X71.here hx rfl (hb hby at_200) rfl ?_
        refine XS.sipush X71.here hx rfl (hb hby at_202) ?_
        show Steps p.tables e below (T71.setTop (mkF m 205 #[.val (.int p0), .val (.int p1), .val (.int p2), .val (.int p3), .val (.int p4), .val (.int p5), .val (.int (2 : Int32)), .val (.double dA), .second, .val (.double dB), .second, .val (.double dC), .second, .val (.ref b4), .val (.ref b8), .val (.double dA), .second, .val (.ref b46), .val (.double dA), .second, .unset, .unset] [(.int (1023 : Int32)), (.int p5), (.double dA), (.int (1 : Int32)), (.ref b4)])) t
        refine XS.iand X71.here hx rfl (hb hby at_205) rfl ?_
        refine XS.iconst X71.here hx rfl (hb hby at_206) ?_
        refine XS.iadd X71.here hx rfl (hb hby at_207) rfl ?_
        refine XS.i2dS X71.here hx rfl (hb hby at_208) rfl rfl ?_
        refine XS.daddS X71.here hx rfl (hb hby at_209) rfl (own_nd hd.dyA _) rfl ?_
        exact k
      obtain ⟨c73, r73a, r73b, r73c, r73d, r73e, r73f⟩ := id f65
      have i73 : ¬ ((1 : Int32) < 0 ∨ c73.slots.size ≤ ((1 : Int32)).toNatClampNeg) := inb_of r73c ⟨by decide, by decide⟩
      obtain ⟨T73, h73, X73, e73, W73, st73⟩ := stD X71 hx hZ e71 r73a (j := (1 : Int32)) i73 (g := (mkF m 210 #[.val (.int p0), .val (.int p1), .val (.int p2), .val (.int p3), .val (.int p4), .val (.int p5), .val (.int (2 : Int32)), .val (.double dA), .second, .val (.double dB), .second, .val (.double dC), .second, .val (.ref b4), .val (.ref b8), .val (.double dA), .second, .val (.ref b46), .val (.double dA), .second, .unset, .unset] [(.double (FP.dadd dA (FP.i2d ((p5 &&& (1023 : Int32)) + (1 : Int32))))), (.int (1 : Int32)), (.ref b4)])) rfl rfl (hb hby at_210)
      have v74 := Arv.set r73a r73b r73c r73d r73e r73f rfl W73 1 rfl (Nat.le_of_ble_eq_true rfl)
      have f75 := f64.wr W73
      have f76 := f66.wr W73
      have f77 := f67.other W73 (Ne.symm ne_b4_b8)
      have f78 := f56.wr W73
      have f79 := f57.other W73 (Or.inl (Ne.symm ne_b4_b46))
      have f80 := f58.other W73 (Or.inl (Ne.symm ne_b4_b46))
      have f81 := f59.other W73 (Ne.symm ne_b4_x0_55)
      have f82 := f60.wr W73
      have f83 := f61.other W73 (Ne.symm ne_b4_x1_55)
      have f84 := f62.wr W73
      have z85 := Nat.le_trans z69 (Keep.of_wr W73).1
      have k86 := k70.wr W73 (Or.inr sz_b4)
      have n87 := Fr.snoc X73 n72 g_b4
      refine own_st (T' := T73) (g' := (mkF m 211 #[.val (.int p0), .val (.int p1), .val (.int p2), .val (.int p3), .val (.int p4), .val (.int p5), .val (.int (2 : Int32)), .val (.double dA), .second, .val (.double dB), .second, .val (.double dC), .second, .val (.ref b4), .val (.ref b8), .val (.double dA), .second, .val (.ref b46), .val (.double dA), .second, .unset, .unset] [])) st73 ?_
      refine own_st (T' := T73) (g' := (mkF m 213 #[.val (.int p0), .val (.int p1), .val (.int p2), .val (.int p3), .val (.int p4), .val (.int p5), .val (.int (2 : Int32)), .val (.double dA), .second, .val (.double dB), .second, .val (.double dC), .second, .val (.ref b4), .val (.ref b8), .val (.double dA), .second, .val (.ref b46), .val (.double dA), .second, .unset, .unset] [(.ref b46)])) (fun t k => ?_) ?_
      · show Steps p.tables e below (T73.setTop (mkF m 211 #[.val (.int p0), .val (.int p1), .val (.int p2), .val (.int p3), .val (.int p4), .val (.int p5), .val (.int (2 : Int32)), .val (.double dA), .second, .val (.double dB), .second, .val (.double dC), .second, .val (.ref b4), .val (.ref b8), .val (.double dA), .second, .val (.ref b46), .val (.double dA), .second, .unset, .unset] [])) t
        refine XS.aload X73.here hx rfl (hb hby at_211) rfl rfl ?_
        exact k
      obtain ⟨cq88, kq88, qa88, qb88, qc88⟩ := isOf hZ e73 f78
      obtain ⟨_, _, ⟨T88, L88, k88, n88⟩, -, X88, ⟨Lc88, hQ88, l88, y88, z88⟩, st88⟩ := X73.virtualBack hx (y := (⟨"com/example/corewright/corewright/equilibrium/Strategy", "getMaxValue", "()D"⟩ : MethodName)) (z := (⟨"com/example/corewright/corewright/equilibrium/Strategy", "getMaxValue", "()D"⟩ : MethodName)) hown (mvT hZ (hw _ (List.mem_of_getElem? (i := 33) rfl))) (mvT hZ (hw _ (List.mem_of_getElem? (i := 34) rfl))) (notFace_of_selects (args := #[]) (mvT hZ (hw _ (List.mem_of_getElem? (i := 36) rfl)))) (mvT hZ (hw _ (List.mem_of_getElem? (i := 36) rfl))) (mvT hZ (hw _ (List.mem_of_getElem? (i := 35) rfl))) (by decide) (backOf (W := 0) (rmg2 l Z ar hw [] b46 x0_55 k4 ((0 : UInt64)) dA h73 n0 z85 f78 f79 f81) hZ (hw _ (List.mem_of_getElem? (i := 37) rfl)) (hw _ (List.mem_of_getElem? (i := 4) rfl)) (by decide) (by decide)) qa88 qc88 (g := (mkF m 213 #[.val (.int p0), .val (.int p1), .val (.int p2), .val (.int p3), .val (.int p4), .val (.int p5), .val (.int (2 : Int32)), .val (.double dA), .second, .val (.double dB), .second, .val (.double dC), .second, .val (.ref b4), .val (.ref b8), .val (.double dA), .second, .val (.ref b46), .val (.double dA), .second, .unset, .unset] [(.ref b46)])) rfl (by rw [hml]; rfl) (Steps.refl _) (argsL := []) (rest := []) (lenOf pd0_1 rfl) rfl (by show 2 * 0 + _ ≤ _; exact Nat.le_of_eq rfl) (hb hby at_213) (fun _ _ => ⟨rfl, e73, (by decide : 5 + 0 ≤ _), (by decide : 10 + 0 ≤ _)⟩)
      dsimp only [Pt.U, Pt.locs, Pt.cells, Pt.slots] at X88 l88 y88 z88 st88 hQ88
      subst l88 y88 z88
      obtain ⟨rfl, N88q, e88⟩ := hQ88
      have n89 := Fr.app n87 N88q
      refine own_tr (T' := T88) (g' := (mkF m 216 #[.val (.int p0), .val (.int p1), .val (.int p2), .val (.int p3), .val (.int p4), .val (.int p5), .val (.int (2 : Int32)), .val (.double dA), .second, .val (.double dB), .second, .val (.double dC), .second, .val (.ref b4), .val (.ref b8), .val (.double dA), .second, .val (.ref b46), .val (.double dA), .second, .unset, .unset] [(.double dA)])) st88 ?_
      refine own_st (T' := T88) (g' := (mkF m 239 #[.val (.int p0), .val (.int p1), .val (.int p2), .val (.int p3), .val (.int p4), .val (.int p5), .val (.int (2 : Int32)), .val (.double dA), .second, .val (.double dB), .second, .val (.double dC), .second, .val (.ref b4), .val (.ref b8), .val (.double dA), .second, .val (.ref b46), .val (.double dA), .second, .val (.double dA), .second] [(.int (1 : Int32))])) (fun t k => ?_) ?_
      · show Steps p.tables e below (T88.setTop (mkF m 216 #[.val (.int p0), .val (.int p1), .val (.int p2), .val (.int p3), .val (.int p4), .val (.int p5), .val (.int (2 : Int32)), .val (.double dA), .second, .val (.double dB), .second, .val (.double dC), .second, .val (.ref b4), .val (.ref b8), .val (.double dA), .second, .val (.ref b46), .val (.double dA), .second, .unset, .unset] [(.double dA)])) t
        refine XS.dstore X88.here hx rfl (hb hby at_216) rfl (l' := #[.val (.int p0), .val (.int p1), .val (.int p2), .val (.int p3), .val (.int p4), .val (.int p5), .val (.int (2 : Int32)), .val (.double dA), .second, .val (.double dB), .second, .val (.double dC), .second, .val (.ref b4), .val (.ref b8), .val (.double dA), .second, .val (.ref b46), .val (.double dA), .second, .val (.double dA), .second]) rfl ?_
        refine XS.dload X88.here hx rfl (hb hby at_218) rfl ?_
        refine XS.dload X88.here hx rfl (hb hby at_220) rfl ?_
        refine XS.dcmpS X88.here hx rfl (hb hby at_222) rfl (dcmpV_self hd.nnA .l) ?_
        refine XS.ifNo X88.here hx rfl (hb hby at_223) rfl (by decide) ?_
        refine XS.dload X88.here hx rfl (hb hby at_226) rfl ?_
        refine XS.dload X88.here hx rfl (hb hby at_228) rfl ?_
        refine XS.dcmpS X88.here hx rfl (hb hby at_230) rfl (dcmpV_self hd.nnA .l) ?_
        show Steps p.tables e below (T88.setTop (mkF m 231 #[.val (.int p0), .val (.int p1), .val (.int p2), .val (.int p3), .val (.int p4), .val (.int p5), .val (.int (2 : Int32)), .val (.double dA), .second, .val (.double dB), .second, .val (.double dC), .second, .val (.ref b4), .val (.ref b8), .val (.double dA), .second, .val (.ref b46), .val (.double dA), .second, .val (.double dA), .second] [(.int (0 : Int32))])) t
        refine XS.ifNo X88.here hx rfl (hb hby at_231) rfl (by decide) ?_
        refine XS.iconst X88.here hx rfl (hb hby at_234) ?_
        refine XS.goto X88.here hx rfl (pc0 := 235) (pc' := 239) rfl (hb hby at_235) (by decide) (by decide) ?_
        exact k
      refine own_retZ X88 hx hlk Bd.returns (hb hby at_239) rfl (by decide) (by decide) ?_
      show Q0 Z p0 p1 p2 p3 p4 p5 h0 n0 (some (.int (1 : Int32))) T88.heap _
      rw [(e88 : T88.heap = h73)]
      exact ⟨rfl, n89⟩
    refine own_st (T' := s₁) (g' := (mkF m 46 #[.val (.int p0), .val (.int p1), .val (.int p2), .val (.int p3), .val (.int p4), .val (.int p5), .val (.int (2 : Int32)), .val (.double (FP.i2d ((p1 &&& (1023 : Int32)) + (1 : Int32)))), .second, .val (.double (FP.dadd (FP.i2d ((p1 &&& (1023 : Int32)) + (1 : Int32))) (FP.i2d ((p2 &&& (1023 : Int32)) + (1 : Int32))))), .second, .val (.double (FP.dadd (FP.dadd (FP.i2d ((p1 &&& (1023 : Int32)) + (1 : Int32))) (FP.i2d ((p2 &&& (1023 : Int32)) + (1 : Int32)))) (FP.i2d ((p3 &&& (1023 : Int32)) + (1 : Int32))))), .second, .unset, .unset, .unset, .unset, .unset, .unset, .unset, .unset, .unset] [])) (fun t k => ?_) ?_
    · show Steps p.tables e below (s₁.setTop (mkF m 10 #[.val (.int p0), .val (.int p1), .val (.int p2), .val (.int p3), .val (.int p4), .val (.int p5), .val (.int (2 : Int32)), .unset, .unset, .unset, .unset, .unset, .unset, .unset, .unset, .unset, .unset, .unset, .unset, .unset, .unset, .unset] [])) t
      refine XS.iloadN X0.here hx rfl (hb hby at_10) rfl ?_
      refine XS.sipush X0.here hx rfl (hb hby at_11) ?_
      refine XS.iand X0.here hx rfl (hb hby at_14) rfl ?_
      refine XS.iconst X0.here hx rfl (hb hby at_15) ?_
      refine XS.iadd X0.here hx rfl (hb hby at_16) rfl ?_
      refine XS.i2dS X0.here hx rfl (hb hby at_17) rfl rfl ?_
      refine XS.dstore X0.here hx rfl (hb hby at_18) rfl (l' := #[.val (.int p0), .val (.int p1), .val (.int p2), .val (.int p3), .val (.int p4), .val (.int p5), .val (.int (2 : Int32)), .val (.double (FP.i2d ((p1 &&& (1023 : Int32)) + (1 : Int32)))), .second, .unset, .unset, .unset, .unset, .unset, .unset, .unset, .unset, .unset, .unset, .unset, .unset, .unset]) rfl ?_
      refine XS.dload X0.here hx rfl (hb hby at_20) rfl ?_
      show Steps p.tables e below (s₁.setTop (mkF m 22 #[.val (.int p0), .val (.int p1), .val (.int p2), .val (.int p3), .val (.int p4), .val (.int p5), .val (.int (2 : Int32)), .val (.double (FP.i2d ((p1 &&& (1023 : Int32)) + (1 : Int32)))), .second, .unset, .unset, .unset, .unset, .unset, .unset, .unset, .unset, .unset, .unset, .unset, .unset, .unset] [(.double (FP.i2d ((p1 &&& (1023 : Int32)) + (1 : Int32))))])) t
      refine XS.iloadN X0.here hx rfl (hb hby at_22) rfl ?_
      refine XS.sipush X0.here hx rfl (hb hby at_23) ?_
      refine XS.iand X0.here hx rfl (hb hby at_26) rfl ?_
      refine XS.iconst X0.here hx rfl (hb hby at_27) ?_
      refine XS.iadd X0.here hx rfl (hb hby at_28) rfl ?_
      refine XS.i2dS X0.here hx rfl (hb hby at_29) rfl rfl ?_
      refine XS.daddS X0.here hx rfl (hb hby at_30) rfl (own_hT p1 p2 0).nnB rfl ?_
      refine XS.dstore X0.here hx rfl (hb hby at_31) rfl (l' := #[.val (.int p0), .val (.int p1), .val (.int p2), .val (.int p3), .val (.int p4), .val (.int p5), .val (.int (2 : Int32)), .val (.double (FP.i2d ((p1 &&& (1023 : Int32)) + (1 : Int32)))), .second, .val (.double (FP.dadd (FP.i2d ((p1 &&& (1023 : Int32)) + (1 : Int32))) (FP.i2d ((p2 &&& (1023 : Int32)) + (1 : Int32))))), .second, .unset, .unset, .unset, .unset, .unset, .unset, .unset, .unset, .unset, .unset, .unset]) rfl ?_
      show Steps p.tables e below (s₁.setTop (mkF m 33 #[.val (.int p0), .val (.int p1), .val (.int p2), .val (.int p3), .val (.int p4), .val (.int p5), .val (.int (2 : Int32)), .val (.double (FP.i2d ((p1 &&& (1023 : Int32)) + (1 : Int32)))), .second, .val (.double (FP.dadd (FP.i2d ((p1 &&& (1023 : Int32)) + (1 : Int32))) (FP.i2d ((p2 &&& (1023 : Int32)) + (1 : Int32))))), .second, .unset, .unset, .unset, .unset, .unset, .unset, .unset, .unset, .unset, .unset, .unset] [])) t
      refine XS.dload X0.here hx rfl (hb hby at_33) rfl ?_
      refine XS.iloadN X0.here hx rfl (hb hby at_35) rfl ?_
      refine XS.sipush X0.here hx rfl (hb hby at_36) ?_
      refine XS.iand X0.here hx rfl (hb hby at_39) rfl ?_
      refine XS.iconst X0.here hx rfl (hb hby at_40) ?_
      refine XS.iadd X0.here hx rfl (hb hby at_41) rfl ?_
      refine XS.i2dS X0.here hx rfl (hb hby at_42) rfl rfl ?_
      refine XS.daddS X0.here hx rfl (hb hby at_43) rfl (own_hT p1 p2 p3).nnC rfl ?_
      show Steps p.tables e below (s₁.setTop (mkF m 44 #[.val (.int p0), .val (.int p1), .val (.int p2), .val (.int p3), .val (.int p4), .val (.int p5), .val (.int (2 : Int32)), .val (.double (FP.i2d ((p1 &&& (1023 : Int32)) + (1 : Int32)))), .second, .val (.double (FP.dadd (FP.i2d ((p1 &&& (1023 : Int32)) + (1 : Int32))) (FP.i2d ((p2 &&& (1023 : Int32)) + (1 : Int32))))), .second, .unset, .unset, .unset, .unset, .unset, .unset, .unset, .unset, .unset, .unset, .unset] [(.double (FP.dadd (FP.dadd (FP.i2d ((p1 &&& (1023 : Int32)) + (1 : Int32))) (FP.i2d ((p2 &&& (1023 : Int32)) + (1 : Int32)))) (FP.i2d ((p3 &&& (1023 : Int32)) + (1 : Int32)))))])) t
      refine XS.dstore X0.here hx rfl (hb hby at_44) rfl (l' := #[.val (.int p0), .val (.int p1), .val (.int p2), .val (.int p3), .val (.int p4), .val (.int p5), .val (.int (2 : Int32)), .val (.double (FP.i2d ((p1 &&& (1023 : Int32)) + (1 : Int32)))), .second, .val (.double (FP.dadd (FP.i2d ((p1 &&& (1023 : Int32)) + (1 : Int32))) (FP.i2d ((p2 &&& (1023 : Int32)) + (1 : Int32))))), .second, .val (.double (FP.dadd (FP.dadd (FP.i2d ((p1 &&& (1023 : Int32)) + (1 : Int32))) (FP.i2d ((p2 &&& (1023 : Int32)) + (1 : Int32)))) (FP.i2d ((p3 &&& (1023 : Int32)) + (1 : Int32))))), .second, .unset, .unset, .unset, .unset, .unset, .unset, .unset, .unset, .unset]) rfl ?_
      exact k
    exact hJ46 _ _ _ (own_hT p1 p2 p3)
  · rw [hk8_2]
    refine own_st (T' := s₁) (g' := (mkF m 10 #[.val (.int p0), .val (.int p1), .val (.int p2), .val (.int p3), .val (.int p4), .val (.int p5), .val (.int (3 : Int32)), .unset, .unset, .unset, .unset, .unset, .unset, .unset, .unset, .unset, .unset, .unset, .unset, .unset, .unset, .unset] [])) (fun t k => ?_) ?_
    · show Steps p.tables e below (s₁.setTop (mkF m 8 #[.val (.int p0), .val (.int p1), .val (.int p2), .val (.int p3), .val (.int p4), .val (.int p5), .unset, .unset, .unset, .unset, .unset, .unset, .unset, .unset, .unset, .unset, .unset, .unset, .unset, .unset, .unset, .unset] [(.int (3 : Int32))])) t
      refine XS.istore X0.here hx rfl (hb hby at_8) rfl (l' := #[.val (.int p0), .val (.int p1), .val (.int p2), .val (.int p3), .val (.int p4), .val (.int p5), .val (.int (3 : Int32)), .unset, .unset, .unset, .unset, .unset, .unset, .unset, .unset, .unset, .unset, .unset, .unset, .unset, .unset, .unset]) rfl ?_
      exact k
    have hJ46 : ∀ (dA : UInt64) (dB : UInt64) (dC : UInt64) (hd : own_T dA dB dC), own_G p e below s (Q0 Z p0 p1 p2 p3 p4 p5 h0 n0) (room_1).cells (room_1).slots s₁ (mkF m 46 #[.val (.int p0), .val (.int p1), .val (.int p2), .val (.int p3), .val (.int p4), .val (.int p5), .val (.int (3 : Int32)), .val (.double dA), .second, .val (.double dB), .second, .val (.double dC), .second, .unset, .unset, .unset, .unset, .unset, .unset, .unset, .unset, .unset] []) := by
      intro dA dB dC hd
      refine own_st (T' := s₁) (g' := (mkF m 48 #[.val (.int p0), .val (.int p1), .val (.int p2), .val (.int p3), .val (.int p4), .val (.int p5), .val (.int (3 : Int32)), .val (.double dA), .second, .val (.double dB), .second, .val (.double dC), .second, .unset, .unset, .unset, .unset, .unset, .unset, .unset, .unset, .unset] [(.int (3 : Int32))])) (fun t k => ?_) ?_
      · show Steps p.tables e below (s₁.setTop (mkF m 46 #[.val (.int p0), .val (.int p1), .val (.int p2), .val (.int p3), .val (.int p4), .val (.int p5), .val (.int (3 : Int32)), .val (.double dA), .second, .val (.double dB), .second, .val (.double dC), .second, .unset, .unset, .unset, .unset, .unset, .unset, .unset, .unset, .unset] [])) t
        refine XS.iload X0.here hx rfl (hb hby at_46) rfl ?_
        exact k
      obtain ⟨T90, h90, k90, X90, e90, E90, A90, B90, st90⟩ := newPE X0 hx hZ (hw _ (List.mem_of_getElem? (i := 1) rfl)) e0 (g := (mkF m 48 #[.val (.int p0), .val (.int p1), .val (.int p2), .val (.int p3), .val (.int p4), .val (.int p5), .val (.int (3 : Int32)), .val (.double dA), .second, .val (.double dB), .second, .val (.double dC), .second, .unset, .unset, .unset, .unset, .unset, .unset, .unset, .unset, .unset] [(.int (3 : Int32))])) rfl (hb hby at_48) rfl (by decide) (cap := 3) (by decide) (by decide) (by decide) (by decide) (ad := "[D") (by decide +kernel)
      obtain ⟨b90, g90⟩ : ∃ z, z = h0.size := ⟨_, rfl⟩
      rw [← g90] at A90 B90 st90
      have g_b90 : n0 ≤ b90 := Nat.le_trans Z0 (Nat.le_of_eq g90.symm)
      have sz_b90 : h0.size ≤ b90 := Nat.le_trans K0.1 (Nat.le_of_eq g90.symm)
      have z91 := Nat.le_trans Z0 E90.1
      have k92 := K0.ext E90
      have v93 : Arv Z h90 b90 k90 .double (3 : Int32) [(.double (0 : UInt64)), (.double (0 : UInt64)), (.double (0 : UInt64))] (.double (0 : UInt64)) := (Arv.new A90 (by decide)).pad (pad_rep [] (.double (0 : UInt64)) 3)
      refine own_st (T' := T90) (g' := (mkF m 50 #[.val (.int p0), .val (.int p1), .val (.int p2), .val (.int p3), .val (.int p4), .val (.int p5), .val (.int (3 : Int32)), .val (.double dA), .second, .val (.double dB), .second, .val (.double dC), .second, .unset, .unset, .unset, .unset, .unset, .unset, .unset, .unset, .unset] [(.ref b90)])) st90 ?_
      refine own_st (T' := T90) (g' := (mkF m 54 #[.val (.int p0), .val (.int p1), .val (.int p2), .val (.int p3), .val (.int p4), .val (.int p5), .val (.int (3 : Int32)), .val (.double dA), .second, .val (.double dB), .second, .val (.double dC), .second, .val (.ref b90), .unset, .unset, .unset, .unset, .unset, .unset, .unset, .unset] [(.int (3 : Int32))])) (fun t k => ?_) ?_
      · show Steps p.tables e below (T90.setTop (mkF m 50 #[.val (.int p0), .val (.int p1), .val (.int p2), .val (.int p3), .val (.int p4), .val (.int p5), .val (.int (3 : Int32)), .val (.double dA), .second, .val (.double dB), .second, .val (.double dC), .second, .unset, .unset, .unset, .unset, .unset, .unset, .unset, .unset, .unset] [(.ref b90)])) t
        refine XS.astore X90.here hx rfl (hb hby at_50) rfl rfl (l' := #[.val (.int p0), .val (.int p1), .val (.int p2), .val (.int p3), .val (.int p4), .val (.int p5), .val (.int (3 : Int32)), .val (.double dA), .second, .val (.double dB), .second, .val (.double dC), .second, .val (.ref b90), .unset, .unset, .unset, .unset, .unset, .unset, .unset, .unset]) rfl ?_
        refine XS.iload X90.here hx rfl (hb hby at_52) rfl ?_
        exact k
      obtain ⟨T94, h94, k94, X94, e94, E94, A94, B94, st94⟩ := newPE X90 hx hZ (hw _ (List.mem_of_getElem? (i := 1) rfl)) e90 (g := (mkF m 54 #[.val (.int p0), .val (.int p1), .val (.int p2), .val (.int p3), .val (.int p4), .val (.int p5), .val (.int (3 : Int32)), .val (.double dA), .second, .val (.double dB), .second, .val (.double dC), .second, .val (.ref b90), .unset, .unset, .unset, .unset, .unset, .unset, .unset, .unset] [(.int (3 : Int32))])) rfl (hb hby at_54) rfl (by decide) (cap := 3) (by decide) (by decide) (by decide) (by decide) (ad := "[D") (by decide +kernel)
      obtain ⟨b94, g94⟩ : ∃ z, z = h90.size := ⟨_, rfl⟩
      rw [← g94] at A94 B94 st94
      have ne_b90_b94 : b90 ≠ b94 := Nat.ne_of_lt (Nat.lt_of_lt_of_le B90.lt (Nat.le_of_eq g94.symm))
      have g_b94 : n0 ≤ b94 := Nat.le_trans z91 (Nat.le_of_eq g94.symm)
      have sz_b94 : h0.size ≤ b94 := Nat.le_trans k92.1 (Nat.le_of_eq g94.symm)
      have f95 := B90.ext E94
      have f96 := v93.ext E94
      have z97 := Nat.le_trans z91 E94.1
      have k98 := k92.ext E94
      have v99 : Arv Z h94 b94 k94 .double (3 : Int32) [(.double (0 : UInt64)), (.double (0 : UInt64)), (.double (0 : UInt64))] (.double (0 : UInt64)) := (Arv.new A94 (by decide)).pad (pad_rep [] (.double (0 : UInt64)) 3)
      refine own_st (T' := T94) (g' := (mkF m 56 #[.val (.int p0), .val (.int p1), .val (.int p2), .val (.int p3), .val (.int p4), .val (.int p5), .val (.int (3 : Int32)), .val (.double dA), .second, .val (.double dB), .second, .val (.double dC), .second, .val (.ref b90), .unset, .unset, .unset, .unset, .unset, .unset, .unset, .unset] [(.ref b94)])) st94 ?_
      refine own_st (T' := T94) (g' := (mkF m 62 #[.val (.int p0), .val (.int p1), .val (.int p2), .val (.int p3), .val (.int p4), .val (.int p5), .val (.int (3 : Int32)), .val (.double dA), .second, .val (.double dB), .second, .val (.double dC), .second, .val (.ref b90), .val (.ref b94), .unset, .unset, .unset, .unset, .unset, .unset, .unset] [(.double (0 : UInt64)), (.int (0 : Int32)), (.ref b90)])) (fun t k => ?_) ?_
      · show Steps p.tables e below (T94.setTop (mkF m 56 #[.val (.int p0), .val (.int p1), .val (.int p2), .val (.int p3), .val (.int p4), .val (.int p5), .val (.int (3 : Int32)), .val (.double dA), .second, .val (.double dB), .second, .val (.double dC), .second, .val (.ref b90), .unset, .unset, .unset, .unset, .unset, .unset, .unset, .unset] [(.ref b94)])) t
        refine XS.astore X94.here hx rfl (hb hby at_56) rfl rfl (l' := #[.val (.int p0), .val (.int p1), .val (.int p2), .val (.int p3), .val (.int p4), .val (.int p5), .val (.int (3 : Int32)), .val (.double dA), .second, .val (.double dB), .second, .val (.double dC), .second, .val (.ref b90), .val (.ref b94), .unset, .unset, .unset, .unset, .unset, .unset, .unset]) rfl ?_
        refine XS.aload X94.here hx rfl (hb hby at_58) rfl rfl ?_
        refine XS.iconst X94.here hx rfl (hb hby at_60) ?_
        refine XS.dconst0 X94.here hx rfl (hb hby at_61) rfl ?_
        exact k
      obtain ⟨c100, r100a, r100b, r100c, r100d, r100e, r100f⟩ := id f96
      have i100 : ¬ ((0 : Int32) < 0 ∨ c100.slots.size ≤ ((0 : Int32)).toNatClampNeg) := inb_of r100c ⟨by decide, by decide⟩
      obtain ⟨T100, h100, X100, e100, W100, st100⟩ := stD X94 hx hZ e94 r100a (j := (0 : Int32)) i100 (g := (mkF m 62 #[.val (.int p0), .val (.int p1), .val (.int p2), .val (.int p3), .val (.int p4), .val (.int p5), .val (.int (3 : Int32)), .val (.double dA), .second, .val (.double dB), .second, .val (.double dC), .second, .val (.ref b90), .val (.ref b94), .unset, .unset, .unset, .unset, .unset, .unset, .unset] [(.double (0 : UInt64)), (.int (0 : Int32)), (.ref b90)])) rfl rfl (hb hby at_62)
      have v101 := Arv.set r100a r100b r100c r100d r100e r100f rfl W100 0 rfl (Nat.le_of_ble_eq_true rfl)
      have f102 := f95.wr W100
      have f103 := B94.wr W100
      have f104 := v99.other W100 (Ne.symm ne_b90_b94)
      have z105 := Nat.le_trans z97 (Keep.of_wr W100).1
      have k106 := k98.wr W100 (Or.inr sz_b90)
      have n107 := Fr.snoc X100 N0 g_b90
      refine own_st (T' := T100) (g' := (mkF m 63 #[.val (.int p0), .val (.int p1), .val (.int p2), .val (.int p3), .val (.int p4), .val (.int p5), .val (.int (3 : Int32)), .val (.double dA), .second, .val (.double dB), .second, .val (.double dC), .second, .val (.ref b90), .val (.ref b94), .unset, .unset, .unset, .unset, .unset, .unset, .unset] [])) st100 ?_
      refine own_st (T' := T100) (g' := (mkF m 68 #[.val (.int p0), .val (.int p1), .val (.int p2), .val (.int p3), .val (.int p4), .val (.int p5), .val (.int (3 : Int32)), .val (.double dA), .second, .val (.double dB), .second, .val (.double dC), .second, .val (.ref b90), .val (.ref b94), .unset, .unset, .unset, .unset, .unset, .unset, .unset] [(.double dA), (.int (1 : Int32)), (.ref b90)])) (fun t k => ?_) ?_
      · show Steps p.tables e below (T100.setTop (mkF m 63 #[.val (.int p0), .val (.int p1), .val (.int p2), .val (.int p3), .val (.int p4), .val (.int p5), .val (.int (3 : Int32)), .val (.double dA), .second, .val (.double dB), .second, .val (.double dC), .second, .val (.ref b90), .val (.ref b94), .unset, .unset, .unset, .unset, .unset, .unset, .unset] [])) t
        refine XS.aload X100.here hx rfl (hb hby at_63) rfl rfl ?_
        refine XS.iconst X100.here hx rfl (hb hby at_65) ?_
        refine XS.dload X100.here hx rfl (hb hby at_66) rfl ?_
        exact k
      obtain ⟨c108, r108a, r108b, r108c, r108d, r108e, r108f⟩ := id v101
      have i108 : ¬ ((1 : Int32) < 0 ∨ c108.slots.size ≤ ((1 : Int32)).toNatClampNeg) := inb_of r108c ⟨by decide, by decide⟩
      obtain ⟨T108, h108, X108, e108, W108, st108⟩ := stD X100 hx hZ e100 r108a (j := (1 : Int32)) i108 (g := (mkF m 68 #[.val (.int p0), .val (.int p1), .val (.int p2), .val (.int p3), .val (.int p4), .val (.int p5), .val (.int (3 : Int32)), .val (.double dA), .second, .val (.double dB), .second, .val (.double dC), .second, .val (.ref b90), .val (.ref b94), .unset, .unset, .unset, .unset, .unset, .unset, .unset] [(.double dA), (.int (1 : Int32)), (.ref b90)])) rfl rfl (hb hby at_68)
      have v109 := Arv.set r108a r108b r108c r108d r108e r108f rfl W108 1 rfl (Nat.le_of_ble_eq_true rfl)
      have f110 := f102.wr W108
      have f111 := f103.wr W108
      have f112 := f104.other W108 (Ne.symm ne_b90_b94)
      have z113 := Nat.le_trans z105 (Keep.of_wr W108).1
      have k114 := k106.wr W108 (Or.inr sz_b90)
      have n115 := Fr.snoc X108 n107 g_b90
      refine own_st (T' := T108) (g' := (mkF m 69 #[.val (.int p0), .val (.int p1), .val (.int p2), .val (.int p3), .val (.int p4), .val (.int p5), .val (.int (3 : Int32)), .val (.double dA), .second, .val (.double dB), .second, .val (.double dC), .second, .val (.ref b90), .val (.ref b94), .unset, .unset, .unset, .unset, .unset, .unset, .unset] [])) st108 ?_
      refine own_st (T' := T108) (g' := (mkF m 79 #[.val (.int p0), .val (.int p1), .val (.int p2), .val (.int p3), .val (.int p4), .val (.int p5), .val (.int (3 : Int32)), .val (.double dA), .second, .val (.double dB), .second, .val (.double dC), .second, .val (.ref b90), .val (.ref b94), .unset, .unset, .unset, .unset, .unset, .unset, .unset] [(.double (FP.i2d (p4 &&& (255 : Int32)))), (.int (0 : Int32)), (.ref b94)])) (fun t k => ?_) ?_
      · show Steps p.tables e below (T108.setTop (mkF m 69 #[.val (.int p0), .val (.int p1), .val (.int p2), .val (.int p3), .val (.int p4), .val (.int p5), .val (.int (3 : Int32)), .val (.double dA), .second, .val (.double dB), .second, .val (.double dC), .second, .val (.ref b90), .val (.ref b94), .unset, .unset, .unset, .unset, .unset, .unset, .unset] [])) t
        refine XS.aload X108.here hx rfl (hb hby at_69) rfl rfl ?_
        refine XS.iconst X108.here hx rfl (hb hby at_71) ?_
        refine XS.iload X108.here hx rfl (hb hby at_72) rfl ?_
        refine XS.sipush X108.here hx rfl (hb hby at_74) ?_
        refine XS.iand X108.here hx rfl (hb hby at_77) rfl ?_
        refine XS.i2dS X108.here hx rfl (hb hby at_78) rfl rfl ?_
        exact k
      obtain ⟨c116, r116a, r116b, r116c, r116d, r116e, r116f⟩ := id f112
      have i116 : ¬ ((0 : Int32) < 0 ∨ c116.slots.size ≤ ((0 : Int32)).toNatClampNeg) := inb_of r116c ⟨by decide, by decide⟩
      obtain ⟨T116, h116, X116, e116, W116, st116⟩ := stD X108 hx hZ e108 r116a (j := (0 : Int32)) i116 (g := (mkF m 79 #[.val (.int p0), .val (.int p1), .val (.int p2), .val (.int p3), .val (.int p4), .val (.int p5), .val (.int (3 : Int32)), .val (.double dA), .second, .val (.double dB), .second, .val (.double dC), .second, .val (.ref b90), .val (.ref b94), .unset, .unset, .unset, .unset, .unset, .unset, .unset] [(.double (FP.i2d (p4 &&& (255 : Int32)))), (.int (0 : Int32)), (.ref b94)])) rfl rfl (hb hby at_79)
      have v117 := Arv.set r116a r116b r116c r116d r116e r116f rfl W116 0 rfl (Nat.le_of_ble_eq_true rfl)
      have f118 := f110.wr W116
      have f119 := v109.other W116 ne_b90_b94
      have f120 := f111.wr W116
      have z121 := Nat.le_trans z113 (Keep.of_wr W116).1
      have k122 := k114.wr W116 (Or.inr sz_b94)
      have n123 := Fr.snoc X116 n115 g_b94
      refine own_st (T' := T116) (g' := (mkF m 80 #[.val (.int p0), .val (.int p1), .val (.int p2), .val (.int p3), .val (.int p4), .val (.int p5), .val (.int (3 : Int32)), .val (.double dA), .second, .val (.double dB), .second, .val (.double dC), .second, .val (.ref b90), .val (.ref b94), .unset, .unset, .unset, .unset, .unset, .unset, .unset] [])) st116 ?_
      refine own_st (T' := T116) (g' := (mkF m 93 #[.val (.int p0), .val (.int p1), .val (.int p2), .val (.int p3), .val (.int p4), .val (.int p5), .val (.int (3 : Int32)), .val (.double dA), .second, .val (.double dB), .second, .val (.double dC), .second, .val (.ref b90), .val (.ref b94), .unset, .unset, .unset, .unset, .unset, .unset, .unset] [(.double (FP.i2d (((p4.toUInt32 >>> ((8 : Int32) &&& 31).toUInt32).toInt32) &&& (255 : Int32)))), (.int (1 : Int32)), (.ref b94)])) (fun t k => ?_) ?_
      · show Steps p.tables e below (T116.setTop (mkF m 80 #[.val (.int p0), .val (.int p1), .val (.int p2), .val (.int p3), .val (.int p4), .val (.int p5), .val (.int (3 : Int32)), .val (.double dA), .second, .val (.double dB), .second, .val (.double dC), .second, .val (.ref b90), .val (.ref b94), .unset, .unset, .unset, .unset, .unset, .unset, .unset] [])) t
        refine XS.aload X116.here hx rfl (hb hby at_80) rfl rfl ?_
        refine XS.iconst X116.here hx rfl (hb hby at_82) ?_
        refine XS.iload X116.here hx rfl (hb hby at_83) rfl ?_
        refine XS.bipush X116.here hx rfl (hb hby at_85) ?_
        refine XS.iushr X116.here hx rfl (hb hby at_87) rfl ?_
        refine XS.sipush X116.here hx rfl (hb hby at_88) ?_
        refine XS.iand X116.here hx rfl (hb hby at_91) rfl ?_
        refine XS.i2dS X116.here hx rfl (hb hby at_92) rfl rfl ?_
        exact k
      obtain ⟨c124, r124a, r124b, r124c, r124d, r124e, r124f⟩ := id v117
      have i124 : ¬ ((1 : Int32) < 0 ∨ c124.slots.size ≤ ((1 : Int32)).toNatClampNeg) := inb_of r124c ⟨by decide, by decide⟩
      obtain ⟨T124, h124, X124, e124, W124, st124⟩ := stD X116 hx hZ e116 r124a (j := (1 : Int32)) i124 (g := (mkF m 93 #[.val (.int p0), .val (.int p1), .val (.int p2), .val (.int p3), .val (.int p4), .val (.int p5), .val (.int (3 : Int32)), .val (.double dA), .second, .val (.double dB), .second, .val (.double dC), .second, .val (.ref b90), .val (.ref b94), .unset, .unset, .unset, .unset, .unset, .unset, .unset] [(.double (FP.i2d (((p4.toUInt32 >>> ((8 : Int32) &&& 31).toUInt32).toInt32) &&& (255 : Int32)))), (.int (1 : Int32)), (.ref b94)])) rfl rfl (hb hby at_93)
      have v125 := Arv.set r124a r124b r124c r124d r124e r124f rfl W124 1 rfl (Nat.le_of_ble_eq_true rfl)
      have f126 := f118.wr W124
      have f127 := f119.other W124 ne_b90_b94
      have f128 := f120.wr W124
      have z129 := Nat.le_trans z121 (Keep.of_wr W124).1
      have k130 := k122.wr W124 (Or.inr sz_b94)
      have n131 := Fr.snoc X124 n123 g_b94
      refine own_st (T' := T124) (g' := (mkF m 94 #[.val (.int p0), .val (.int p1), .val (.int p2), .val (.int p3), .val (.int p4), .val (.int p5), .val (.int (3 : Int32)), .val (.double dA), .second, .val (.double dB), .second, .val (.double dC), .second, .val (.ref b90), .val (.ref b94), .unset, .unset, .unset, .unset, .unset, .unset, .unset] [])) st124 ?_
      refine own_st (T' := T124) (g' := (mkF m 105 #[.val (.int p0), .val (.int p1), .val (.int p2), .val (.int p3), .val (.int p4), .val (.int p5), .val (.int (3 : Int32)), .val (.double dA), .second, .val (.double dB), .second, .val (.double dC), .second, .val (.ref b90), .val (.ref b94), .unset, .unset, .unset, .unset, .unset, .unset, .unset] [(.double dB), (.int (2 : Int32)), (.ref b90)])) (fun t k => ?_) ?_
      · show Steps p.tables e below (T124.setTop (mkF m 94 #[.val (.int p0), .val (.int p1), .val (.int p2), .val (.int p3), .val (.int p4), .val (.int p5), .val (.int (3 : Int32)), .val (.double dA), .second, .val (.double dB), .second, .val (.double dC), .second, .val (.ref b90), .val (.ref b94), .unset, .unset, .unset, .unset, .unset, .unset, .unset] [])) t
        refine XS.iload X124.here hx rfl (hb hby at_94) rfl ?_
        refine XS.iconst X124.here hx rfl (hb hby at_96) ?_
        refine XS.icmpNo X124.here hx rfl (hb hby at_97) rfl (by decide) ?_
        refine XS.aload X124.here hx rfl (hb hby at_100) rfl rfl ?_
        refine XS.iconst X124.here hx rfl (hb hby at_102) ?_
        refine XS.dload X124.here hx rfl (hb hby at_103) rfl ?_
        exact k
      obtain ⟨c132, r132a, r132b, r132c, r132d, r132e, r132f⟩ := id f127
      have i132 : ¬ ((2 : Int32) < 0 ∨ c132.slots.size ≤ ((2 : Int32)).toNatClampNeg) := inb_of r132c ⟨by decide, by decide⟩
      obtain ⟨T132, h132, X132, e132, W132, st132⟩ := stD X124 hx hZ e124 r132a (j := (2 : Int32)) i132 (g := (mkF m 105 #[.val (.int p0), .val (.int p1), .val (.int p2), .val (.int p3), .val (.int p4), .val (.int p5), .val (.int (3 : Int32)), .val (.double dA), .second, .val (.double dB), .second, .val (.double dC), .second, .val (.ref b90), .val (.ref b94), .unset, .unset, .unset, .unset, .unset, .unset, .unset] [(.double dB), (.int (2 : Int32)), (.ref b90)])) rfl rfl (hb hby at_105)
      have v133 := Arv.set r132a r132b r132c r132d r132e r132f rfl W132 2 rfl (Nat.le_of_ble_eq_true rfl)
      have f134 := f126.wr W132
      have f135 := f128.wr W132
      have f136 := v125.other W132 (Ne.symm ne_b90_b94)
      have z137 := Nat.le_trans z129 (Keep.of_wr W132).1
      have k138 := k130.wr W132 (Or.inr sz_b90)
      have n139 := Fr.snoc X132 n131 g_b90
      refine own_st (T' := T132) (g' := (mkF m 106 #[.val (.int p0), .val (.int p1), .val (.int p2), .val (.int p3), .val (.int p4), .val (.int p5), .val (.int (3 : Int32)), .val (.double dA), .second, .val (.double dB), .second, .val (.double dC), .second, .val (.ref b90), .val (.ref b94), .unset, .unset, .unset, .unset, .unset, .unset, .unset] [])) st132 ?_
      refine own_st (T' := T132) (g' := (mkF m 119 #[.val (.int p0), .val (.int p1), .val (.int p2), .val (.int p3), .val (.int p4), .val (.int p5), .val (.int (3 : Int32)), .val (.double dA), .second, .val (.double dB), .second, .val (.double dC), .second, .val (.ref b90), .val (.ref b94), .unset, .unset, .unset, .unset, .unset, .unset, .unset] [(.double (FP.i2d (((p4.toUInt32 >>> ((16 : Int32) &&& 31).toUInt32).toInt32) &&& (255 : Int32)))), (.int (2 : Int32)), (.ref b94)])) (fun t k => ?_) ?_
      · show Steps p.tables e below (T132.setTop (mkF m 106 #[.val (.int p0), .val (.int p1), .val (.int p2), .val (.int p3), .val (.int p4), .val (.int p5), .val (.int (3 : Int32)), .val (.double dA), .second, .val (.double dB), .second, .val (.double dC), .second, .val (.ref b90), .val (.ref b94), .unset, .unset, .unset, .unset, .unset, .unset, .unset] [])) t
        refine XS.aload X132.here hx rfl (hb hby at_106) rfl rfl ?_
        refine XS.iconst X132.here hx rfl (hb hby at_108) ?_
        refine XS.iload X132.here hx rfl (hb hby at_109) rfl ?_
        refine XS.bipush X132.here hx rfl (hb hby at_111) ?_
        refine XS.iushr X132.here hx rfl (hb hby at_113) rfl ?_
        refine XS.sipush X132.here hx rfl (hb hby at_114) ?_
        refine XS.iand X132.here hx rfl (hb hby at_117) rfl ?_
        refine XS.i2dS X132.here hx rfl (hb hby at_118) rfl rfl ?_
        exact k
      obtain ⟨c140, r140a, r140b, r140c, r140d, r140e, r140f⟩ := id f136
      have i140 : ¬ ((2 : Int32) < 0 ∨ c140.slots.size ≤ ((2 : Int32)).toNatClampNeg) := inb_of r140c ⟨by decide, by decide⟩
      obtain ⟨T140, h140, X140, e140, W140, st140⟩ := stD X132 hx hZ e132 r140a (j := (2 : Int32)) i140 (g := (mkF m 119 #[.val (.int p0), .val (.int p1), .val (.int p2), .val (.int p3), .val (.int p4), .val (.int p5), .val (.int (3 : Int32)), .val (.double dA), .second, .val (.double dB), .second, .val (.double dC), .second, .val (.ref b90), .val (.ref b94), .unset, .unset, .unset, .unset, .unset, .unset, .unset] [(.double (FP.i2d (((p4.toUInt32 >>> ((16 : Int32) &&& 31).toUInt32).toInt32) &&& (255 : Int32)))), (.int (2 : Int32)), (.ref b94)])) rfl rfl (hb hby at_119)
      have v141 := Arv.set r140a r140b r140c r140d r140e r140f rfl W140 2 rfl (Nat.le_of_ble_eq_true rfl)
      have f142 := f134.wr W140
      have f143 := v133.other W140 ne_b90_b94
      have f144 := f135.wr W140
      have z145 := Nat.le_trans z137 (Keep.of_wr W140).1
      have k146 := k138.wr W140 (Or.inr sz_b94)
      have n147 := Fr.snoc X140 n139 g_b94
      refine own_st (T' := T140) (g' := (mkF m 120 #[.val (.int p0), .val (.int p1), .val (.int p2), .val (.int p3), .val (.int p4), .val (.int p5), .val (.int (3 : Int32)), .val (.double dA), .second, .val (.double dB), .second, .val (.double dC), .second, .val (.ref b90), .val (.ref b94), .unset, .unset, .unset, .unset, .unset, .unset, .unset] [])) st140 ?_
      refine own_st (T' := T140) (g' := (mkF m 172 #[.val (.int p0), .val (.int p1), .val (.int p2), .val (.int p3), .val (.int p4), .val (.int p5), .val (.int (3 : Int32)), .val (.double dA), .second, .val (.double dB), .second, .val (.double dC), .second, .val (.ref b90), .val (.ref b94), .val (.double dB), .second, .unset, .unset, .unset, .unset, .unset] [])) (fun t k => ?_) ?_
      · show Steps p.tables e below (T140.setTop (mkF m 120 #[.val (.int p0), .val (.int p1), .val (.int p2), .val (.int p3), .val (.int p4), .val (.int p5), .val (.int (3 : Int32)), .val (.double dA), .second, .val (.double dB), .second, .val (.double dC), .second, .val (.ref b90), .val (.ref b94), .unset, .unset, .unset, .unset, .unset, .unset, .unset] [])) t
        refine XS.iload X140.here hx rfl (hb hby at_120) rfl ?_
        refine XS.iconst X140.here hx rfl (hb hby at_122) ?_
        refine XS.icmpYes X140.here hx rfl (pc0 := 123) (pc' := 146) rfl (hb hby at_123) rfl (by decide) (by decide) (by decide) ?_
        refine XS.iload X140.here hx rfl (hb hby at_146) rfl ?_
        refine XS.iconst X140.here hx rfl (hb hby at_148) ?_
        refine XS.icmpYes X140.here hx rfl (pc0 := 149) (pc' := 157) rfl (hb hby at_149) rfl (by decide) (by decide) (by decide) ?_
        refine XS.iload X140.here hx rfl (hb hby at_157) rfl ?_
        refine XS.iconst X140.here hx rfl (hb hby at_159) ?_
        show Steps p.tables e below (T140.setTop (mkF m 160 #[.val (.int p0), .val (.int p1), .val (.int p2), .val (.int p3), .val (.int p4), .val (.int p5), .val (.int (3 : Int32)), .val (.double dA), .second, .val (.double dB), .second, .val (.double dC), .second, .val (.ref b90), .val (.ref b94), .unset, .unset, .unset, .unset, .unset, .unset, .unset] [(.int (3 : Int32)), (.int (3 : Int32))])) t
        refine XS.icmpNo X140.here hx rfl (hb hby at_160) rfl (by decide) ?_
        refine XS.dload X140.here hx rfl (hb hby at_163) rfl ?_
        refine XS.goto X140.here hx rfl (pc0 := 165) (pc' := 170) rfl (hb hby at_165) (by decide) (by decide) ?_
        refine XS.dstore X140.here hx rfl (hb hby at_170) rfl (l' := #[.val (.int p0), .val (.int p1), .val (.int p2), .val (.int p3), .val (.int p4), .val (.int p5), .val (.int (3 : Int32)), .val (.double dA), .second, .val (.double dB), .second, .val (.double dC), .second, .val (.ref b90), .val (.ref b94), .val (.double dB), .second, .unset, .unset, .unset, .unset, .unset]) rfl ?_
        exact k
      obtain ⟨T148, h148, X148, e148, E148, A148, D148, -, st148⟩ := newO X140 hx hZ hown (hw _ (List.mem_of_getElem? (i := 2) rfl)) (hw _ (List.mem_of_getElem? (i := 3) rfl)) (hw _ (List.mem_of_getElem? (i := 4) rfl)) e140 (g := (mkF m 172 #[.val (.int p0), .val (.int p1), .val (.int p2), .val (.int p3), .val (.int p4), .val (.int p5), .val (.int (3 : Int32)), .val (.double dA), .second, .val (.double dB), .second, .val (.double dC), .second, .val (.ref b90), .val (.ref b94), .val (.double dB), .second, .unset, .unset, .unset, .unset, .unset] [])) rfl (hb hby at_172) (by decide) (by decide)
      obtain ⟨b148, g148⟩ : ∃ z, z = h140.size := ⟨_, rfl⟩
      rw [← g148] at A148 D148 st148
      have ne_b90_b148 : b90 ≠ b148 := Nat.ne_of_lt (Nat.lt_of_lt_of_le f142.lt (Nat.le_of_eq g148.symm))
      have ne_b94_b148 : b94 ≠ b148 := Nat.ne_of_lt (Nat.lt_of_lt_of_le f144.lt (Nat.le_of_eq g148.symm))
      have g_b148 : n0 ≤ b148 := Nat.le_trans z145 (Nat.le_of_eq g148.symm)
      have sz_b148 : h0.size ≤ b148 := Nat.le_trans k146.1 (Nat.le_of_eq g148.symm)
      have f149 := f142.ext E148
      have f150 := f143.ext E148
      have f151 := f144.ext E148
      have f152 := v141.ext E148
      have z153 := Nat.le_trans z145 E148.1
      have k154 := k146.ext E148
      have f155 : Fld Z h148 b148 "com/example/corewright/corewright/equilibrium/Strategy" "values" "[D" .null := D148 (Or.inr (hw _ (List.mem_of_getElem? (i := 30) rfl))) (ty := (.array .double)) (by decide)
      have f156 : Fld Z h148 b148 "com/example/corewright/corewright/equilibrium/Strategy" "bids" "[D" .null := D148 (Or.inr (hw _ (List.mem_of_getElem? (i := 32) rfl))) (ty := (.array .double)) (by decide)
      refine own_st (T' := T148) (g' := (mkF m 175 #[.val (.int p0), .val (.int p1), .val (.int p2), .val (.int p3), .val (.int p4), .val (.int p5), .val (.int (3 : Int32)), .val (.double dA), .second, .val (.double dB), .second, .val (.double dC), .second, .val (.ref b90), .val (.ref b94), .val (.double dB), .second, .unset, .unset, .unset, .unset, .unset] [(.ref b148)])) st148 ?_
      refine own_st (T' := T148) (g' := (mkF m 180 #[.val (.int p0), .val (.int p1), .val (.int p2), .val (.int p3), .val (.int p4), .val (.int p5), .val (.int (3 : Int32)), .val (.double dA), .second, .val (.double dB), .second, .val (.double dC), .second, .val (.ref b90), .val (.ref b94), .val (.double dB), .second, .unset, .unset, .unset, .unset, .unset] [(.ref b94), (.ref b90), (.ref b148), (.ref b148)])) (fun t k => ?_) ?_
      · show Steps p.tables e below (T148.setTop (mkF m 175 #[.val (.int p0), .val (.int p1), .val (.int p2), .val (.int p3), .val (.int p4), .val (.int p5), .val (.int (3 : Int32)), .val (.double dA), .second, .val (.double dB), .second, .val (.double dC), .second, .val (.ref b90), .val (.ref b94), .val (.double dB), .second, .unset, .unset, .unset, .unset, .unset] [(.ref b148)])) t
        refine XS.dup X148.here hx rfl (hb hby at_175) rfl rfl ?_
        refine XS.aload X148.here hx rfl (hb hby at_176) rfl rfl ?_
        refine XS.aload X148.here hx rfl (hb hby at_178) rfl rfl ?_
        exact k
      obtain ⟨_, _, ⟨T157, L157, k157, n157⟩, -, X157, ⟨Lc157, hQ157, l157, y157, z157⟩, st157⟩ := X148.specialBack hx (y := (⟨"com/example/corewright/corewright/equilibrium/Strategy", "<init>", "([D[D)V"⟩ : MethodName)) rfl hown (mvT hZ (hw _ (List.mem_of_getElem? (i := 5) rfl))) (mvT hZ (hw _ (List.mem_of_getElem? (i := 6) rfl))) (mvT hZ (hw _ (List.mem_of_getElem? (i := 7) rfl))) (by decide) (backOf (W := 1) (rmi3 l Z ar hw [] b148 b90 b94 (.null) (.null) k90 ((0 : UInt64)) dA dB k94 ((FP.i2d (p4 &&& (255 : Int32)))) ((FP.i2d (((p4.toUInt32 >>> ((8 : Int32) &&& 31).toUInt32).toInt32) &&& (255 : Int32)))) ((FP.i2d (((p4.toUInt32 >>> ((16 : Int32) &&& 31).toUInt32).toInt32) &&& (255 : Int32)))) h148 n0 z153 A148 f155 f156 f149 f150 f151 f152 own_00 hd.nnB (own_max hd.finB .l) hd.gtA0 hd.gtBA (own_nb _) ((Jvm.Free.Fl.Mag64.fin (Jvm.Free.Fl.i2d_mag (p4 &&& (255 : Int32))) (by decide)).noNaN) (own_max (Jvm.Free.Fl.i2d_fin _) .l) (own_nb _) ((Jvm.Free.Fl.Mag64.fin (Jvm.Free.Fl.i2d_mag (((p4.toUInt32 >>> ((8 : Int32) &&& 31).toUInt32).toInt32) &&& (255 : Int32))) (by decide)).noNaN) (own_max (Jvm.Free.Fl.i2d_fin _) .l) (own_nb _) ((Jvm.Free.Fl.Mag64.fin (Jvm.Free.Fl.i2d_mag (((p4.toUInt32 >>> ((16 : Int32) &&& 31).toUInt32).toInt32) &&& (255 : Int32))) (by decide)).noNaN) (own_max (Jvm.Free.Fl.i2d_fin _) .l) ne_b90_b148 ne_b94_b148 g_b148) hZ (hw _ (List.mem_of_getElem? (i := 7) rfl)) (hw _ (List.mem_of_getElem? (i := 4) rfl)) (by decide) (by decide)) (g := (mkF m 180 #[.val (.int p0), .val (.int p1), .val (.int p2), .val (.int p3), .val (.int p4), .val (.int p5), .val (.int (3 : Int32)), .val (.double dA), .second, .val (.double dB), .second, .val (.double dC), .second, .val (.ref b90), .val (.ref b94), .val (.double dB), .second, .unset, .unset, .unset, .unset, .unset] [(.ref b94), (.ref b90), (.ref b148), (.ref b148)])) rfl (by rw [hml]; rfl) (Steps.refl _) (a := b148) (argsL := [(.ref b90), (.ref b94)]) (rest := [(.ref b148)]) (lenOf pd0_0 rfl) rfl (by show 2 * 0 + _ ≤ _; exact Nat.le_of_eq rfl) (hb hby at_180) (fun _ _ => ⟨rfl, e148, (by decide : 3 + 2 ≤ _), (by decide : 8 + 6 ≤ _)⟩)
      dsimp only [Pt.U, Pt.locs, Pt.cells, Pt.slots] at X157 l157 y157 z157 st157 hQ157
      subst l157 y157 z157
      obtain ⟨x0_157, x1_157, rfl, N157q, K157, sz157_x0, sz157_x1, ne157_x0_x1, f158, f159, f160, f161, f162, f163, f164⟩ := hQ157
      have n165 := Fr.app n147 N157q
      have ne_b148_x0_157 : b148 ≠ x0_157 := Nat.ne_of_lt (Nat.lt_of_lt_of_le A148.lt sz157_x0)
      have ne_b90_x0_157 : b90 ≠ x0_157 := Nat.ne_of_lt (Nat.lt_of_lt_of_le f149.lt sz157_x0)
      have ne_b94_x0_157 : b94 ≠ x0_157 := Nat.ne_of_lt (Nat.lt_of_lt_of_le f151.lt sz157_x0)
      have g_x0_157 : n0 ≤ x0_157 := Nat.le_trans z153 sz157_x0
      have sz_x0_157 : h0.size ≤ x0_157 := Nat.le_trans k154.1 sz157_x0
      have ne_b148_x1_157 : b148 ≠ x1_157 := Nat.ne_of_lt (Nat.lt_of_lt_of_le A148.lt sz157_x1)
      have ne_b90_x1_157 : b90 ≠ x1_157 := Nat.ne_of_lt (Nat.lt_of_lt_of_le f149.lt sz157_x1)
      have ne_b94_x1_157 : b94 ≠ x1_157 := Nat.ne_of_lt (Nat.lt_of_lt_of_le f151.lt sz157_x1)
      have g_x1_157 : n0 ≤ x1_157 := Nat.le_trans z153 sz157_x1
      have sz_x1_157 : h0.size ≤ x1_157 := Nat.le_trans k154.1 sz157_x1
      have f166 := f149.keep K157
      have f167 := f150.keep K157 (ninS ne_b90_b148 nin0)
      have f168 := f151.keep K157
      have f169 := f152.keep K157 (ninS ne_b94_b148 nin0)
      have f170 := A148.keep K157
      have z171 := Nat.le_trans z153 K157.1
      have k172 := k154.trans K157 (allS (Or.inr sz_b148) all0)
      refine own_tr (T' := T157) (g' := (mkF m 183 #[.val (.int p0), .val (.int p1), .val (.int p2), .val (.int p3), .val (.int p4), .val (.int p5), .val (.int (3 : Int32)), .val (.double dA), .second, .val (.double dB), .second, .val (.double dC), .second, .val (.ref b90), .val (.ref b94), .val (.double dB), .second, .unset, .unset, .unset, .unset, .unset] [(.ref b148)])) st157 ?_
      refine own_st (T' := T157) (g' := (mkF m 187 #[.val (.int p0), .val (.int p1), .val (.int p2), .val (.int p3), .val (.int p4), .val (.int p5), .val (.int (3 : Int32)), .val (.double dA), .second, .val (.double dB), .second, .val (.double dC), .second, .val (.ref b90), .val (.ref b94), .val (.double dB), .second, .val (.ref b148), .unset, .unset, .unset, .unset] [(.ref b148)])) (fun t k => ?_) ?_
      · show Steps p.tables e below (T157.setTop (mkF m 183 #[.val (.int p0), .val (.int p1), .val (.int p2), .val (.int p3), .val (.int p4), .val (.int p5), .val (.int (3 : Int32)), .val (.double dA), .second, .val (.double dB), .second, .val (.double dC), .second, .val (.ref b90), .val (.ref b94), .val (.double dB), .second, .unset, .unset, .unset, .unset, .unset] [(.ref b148)])) t
        refine XS.astore X157.here hx rfl (hb hby at_183) rfl rfl (l' := #[.val (.int p0), .val (.int p1), .val (.int p2), .val (.int p3), .val (.int p4), .val (.int p5), .val (.int (3 : Int32)), .val (.double dA), .second, .val (.double dB), .second, .val (.double dC), .second, .val (.ref b90), .val (.ref b94), .val (.double dB), .second, .val (.ref b148), .unset, .unset, .unset, .unset]) rfl ?_
        refine XS.aload X157.here hx rfl (hb hby at_185) rfl rfl ?_
        exact k
      obtain ⟨cq173, kq173, qa173, qb173, qc173⟩ := isOf hZ (rfl : T157.heap = T157.heap) f158
      obtain ⟨_, _, ⟨T173, L173, k173, n173⟩, -, X173, ⟨Lc173, hQ173, l173, y173, z173⟩, st173⟩ := X157.virtualBack hx (y := (⟨"com/example/corewright/corewright/equilibrium/Strategy", "getMaxValue", "()D"⟩ : MethodName)) (z := (⟨"com/example/corewright/corewright/equilibrium/Strategy", "getMaxValue", "()D"⟩ : MethodName)) hown (mvT hZ (hw _ (List.mem_of_getElem? (i := 33) rfl))) (mvT hZ (hw _ (List.mem_of_getElem? (i := 34) rfl))) (notFace_of_selects (args := #[]) (mvT hZ (hw _ (List.mem_of_getElem? (i := 36) rfl)))) (mvT hZ (hw _ (List.mem_of_getElem? (i := 36) rfl))) (mvT hZ (hw _ (List.mem_of_getElem? (i := 35) rfl))) (by decide) (backOf (W := 0) (rmg3 l Z ar hw [] b148 x0_157 k90 ((0 : UInt64)) dA dB T157.heap n0 z171 f158 f159 f161) hZ (hw _ (List.mem_of_getElem? (i := 37) rfl)) (hw _ (List.mem_of_getElem? (i := 4) rfl)) (by decide) (by decide)) qa173 qc173 (g := (mkF m 187 #[.val (.int p0), .val (.int p1), .val (.int p2), .val (.int p3), .val (.int p4), .val (.int p5), .val (.int (3 : Int32)), .val (.double dA), .second, .val (.double dB), .second, .val (.double dC), .second, .val (.ref b90), .val (.ref b94), .val (.double dB), .second, .val (.ref b148), .unset, .unset, .unset, .unset] [(.ref b148)])) rfl (by rw [hml]; rfl) (Steps.refl _) (argsL := []) (rest := []) (lenOf pd0_1 rfl) rfl (by show 2 * 0 + _ ≤ _; exact Nat.le_of_eq rfl) (hb hby at_187) (fun _ _ => ⟨rfl, (rfl : T157.heap = T157.heap), (by decide : 5 + 0 ≤ _), (by decide : 14 + 0 ≤ _)⟩)
      dsimp only [Pt.U, Pt.locs, Pt.cells, Pt.slots] at X173 l173 y173 z173 st173 hQ173
      subst l173 y173 z173
      obtain ⟨rfl, N173q, e173⟩ := hQ173
      have n174 := Fr.app n165 N173q
      refine own_tr (T' := T173) (g' := (mkF m 190 #[.val (.int p0), .val (.int p1), .val (.int p2), .val (.int p3), .val (.int p4), .val (.int p5), .val (.int (3 : Int32)), .val (.double dA), .second, .val (.double dB), .second, .val (.double dC), .second, .val (.ref b90), .val (.ref b94), .val (.double dB), .second, .val (.ref b148), .unset, .unset, .unset, .unset] [(.double dB)])) st173 ?_
      refine own_st (T' := T173) (g' := (mkF m 210 #[.val (.int p0), .val (.int p1), .val (.int p2), .val (.int p3), .val (.int p4), .val (.int p5), .val (.int (3 : Int32)), .val (.double dA), .second, .val (.double dB), .second, .val (.double dC), .second, .val (.ref b90), .val (.ref b94), .val (.double dB), .second, .val (.ref b148), .val (.double dB), .second, .unset, .unset] [(.double (FP.dadd dB (FP.i2d ((p5 &&& (1023 : Int32)) + (1 : Int32))))), (.int (2 : Int32)), (.ref b90)])) (fun t k => ?_) ?_
      · show Steps p.tables e below (T173.setTop (mkF m 190 #[.val (.int p0), .val (.int p1), .val (.int p2), .val (.int p3), .val (.int p4), .val (.int p5), .val (.int (3 : Int32)), .val (.double dA), .second, .val (.double dB), .second, .val (.double dC), .second, .val (.ref b90), .val (.ref b94), .val (.double dB), .second, .val (.ref b148), .unset, .unset, .unset, .unset] [(.double dB)])) t
        refine XS.dstore X173.here hx rfl (hb hby at_190) rfl (l' := #[.val (.int p0), .val (.int p1), .val (.int p2), .val (.int p3), .val (.int p4), .val (.int p5), .val (.int (3 : Int32)), .val (.double dA), .second, .val (.double dB), .second, .val (.double dC), .second, .val (.ref b90), .val (.ref b94), .val (.double dB), .second, .val (.ref b148), .val (.double dB), .second, .unset, .unset]) rfl ?_
        refine XS.aload X173.here hx rfl (hb hby at_192) rfl rfl ?_
        refine XS.iload X173.here hx rfl (hb hby at_194) rfl ?_
        refine XS.iconst X173.here hx rfl (hb hby at_196) ?_
        refine XS.isub X173.here hx rfl (hb hby at_197) rfl ?_
        refine XS.dload X173.here hx rfl (hb hby at_198) rfl ?_
        refine XS.iload X173.here hx rfl (hb hby at_200) rfl ?_
        refine XS.sipush X173.here hx rfl (hb hby at_202) ?_
        show Steps p.tables e below (T173.setTop (mkF m 205 #[.val (.int p0), .val (.int p1), .val (.int p2), .val (.int p3), .val (.int p4), .val (.int p5), .val (.int (3 : Int32)), .val (.double dA), .second, .val (.double dB), .second, .val (.double dC), .second, .val (.ref b90), .val (.ref b94), .val (.double dB), .second, .val (.ref b148), .val (.double dB), .second, .unset, .unset] [(.int (1023 : Int32)), (.int p5), (.double dB), (.int (2 : Int32)), (.ref b90)])) t
        refine XS.iand X173.here hx rfl (hb hby at_205) rfl ?_
        refine XS.iconst X173.here hx rfl (hb hby at_206) ?_
        refine XS.iadd X173.here hx rfl (hb hby at_207) rfl ?_
        refine XS.i2dS X173.here hx rfl (hb hby at_208) rfl rfl ?_
        refine XS.daddS X173.here hx rfl (hb hby at_209) rfl (own_nd hd.dyB _) rfl ?_
        exact k
      obtain ⟨c175, r175a, r175b, r175c, r175d, r175e, r175f⟩ := id f167
      have i175 : ¬ ((2 : Int32) < 0 ∨ c175.slots.size ≤ ((2 : Int32)).toNatClampNeg) := inb_of r175c ⟨by decide, by decide⟩
      obtain ⟨T175, h175, X175, e175, W175, st175⟩ := stD X173 hx hZ e173 r175a (j := (2 : Int32)) i175 (g := (mkF m 210 #[.val (.int p0), .val (.int p1), .val (.int p2), .val (.int p3), .val (.int p4), .val (.int p5), .val (.int (3 : Int32)), .val (.double dA), .second, .val (.double dB), .second, .val (.double dC), .second, .val (.ref b90), .val (.ref b94), .val (.double dB), .second, .val (.ref b148), .val (.double dB), .second, .unset, .unset] [(.double (FP.dadd dB (FP.i2d ((p5 &&& (1023 : Int32)) + (1 : Int32))))), (.int (2 : Int32)), (.ref b90)])) rfl rfl (hb hby at_210)
      have v176 := Arv.set r175a r175b r175c r175d r175e r175f rfl W175 2 rfl (Nat.le_of_ble_eq_true rfl)
      have f177 := f166.wr W175
      have f178 := f168.wr W175
      have f179 := f169.other W175 (Ne.symm ne_b90_b94)
      have f180 := f158.wr W175
      have f181 := f159.other W175 (Or.inl (Ne.symm ne_b90_b148))
      have f182 := f160.other W175 (Or.inl (Ne.symm ne_b90_b148))
      have f183 := f161.other W175 (Ne.symm ne_b90_x0_157)
      have f184 := f162.wr W175
      have f185 := f163.other W175 (Ne.symm ne_b90_x1_157)
      have f186 := f164.wr W175
      have z187 := Nat.le_trans z171 (Keep.of_wr W175).1
      have k188 := k172.wr W175 (Or.inr sz_b90)
      have n189 := Fr.snoc X175 n174 g_b90
      refine own_st (T' := T175) (g' := (mkF m 211 #[.val (.int p0), .val (.int p1), .val (.int p2), .val (.int p3), .val (.int p4), .val (.int p5), .val (.int (3 : Int32)), .val (.double dA), .second, .val (.double dB), .second, .val (.double dC), .second, .val (.ref b90), .val (.ref b94), .val (.double dB), .second, .val (.ref b148), .val (.double dB), .second, .unset, .unset] [])) st175 ?_
      refine own_st (T' := T175) (g' := (mkF m 213 #[.val (.int p0), .val (.int p1), .val (.int p2), .val (.int p3), .val (.int p4), .val (.int p5), .val (.int (3 : Int32)), .val (.double dA), .second, .val (.double dB), .second, .val (.double dC), .second, .val (.ref b90), .val (.ref b94), .val (.double dB), .second, .val (.ref b148), .val (.double dB), .second, .unset, .unset] [(.ref b148)])) (fun t k => ?_) ?_
      · show Steps p.tables e below (T175.setTop (mkF m 211 #[.val (.int p0), .val (.int p1), .val (.int p2), .val (.int p3), .val (.int p4), .val (.int p5), .val (.int (3 : Int32)), .val (.double dA), .second, .val (.double dB), .second, .val (.double dC), .second, .val (.ref b90), .val (.ref b94), .val (.double dB), .second, .val (.ref b148), .val (.double dB), .second, .unset, .unset] [])) t
        refine XS.aload X175.here hx rfl (hb hby at_211) rfl rfl ?_
        exact k
      obtain ⟨cq190, kq190, qa190, qb190, qc190⟩ := isOf hZ e175 f180
      obtain ⟨_, _, ⟨T190, L190, k190, n190⟩, -, X190, ⟨Lc190, hQ190, l190, y190, z190⟩, st190⟩ := X175.virtualBack hx (y := (⟨"com/example/corewright/corewright/equilibrium/Strategy", "getMaxValue", "()D"⟩ : MethodName)) (z := (⟨"com/example/corewright/corewright/equilibrium/Strategy", "getMaxValue", "()D"⟩ : MethodName)) hown (mvT hZ (hw _ (List.mem_of_getElem? (i := 33) rfl))) (mvT hZ (hw _ (List.mem_of_getElem? (i := 34) rfl))) (notFace_of_selects (args := #[]) (mvT hZ (hw _ (List.mem_of_getElem? (i := 36) rfl)))) (mvT hZ (hw _ (List.mem_of_getElem? (i := 36) rfl))) (mvT hZ (hw _ (List.mem_of_getElem? (i := 35) rfl))) (by decide) (backOf (W := 0) (rmg3 l Z ar hw [] b148 x0_157 k90 ((0 : UInt64)) dA dB h175 n0 z187 f180 f181 f183) hZ (hw _ (List.mem_of_getElem? (i := 37) rfl)) (hw _ (List.mem_of_getElem? (i := 4) rfl)) (by decide) (by decide)) qa190 qc190 (g := (mkF m 213 #[.val (.int p0), .val (.int p1), .val (.int p2), .val (.int p3), .val (.int p4), .val (.int p5), .val (.int (3 : Int32)), .val (.double dA), .second, .val (.double dB), .second, .val (.double dC), .second, .val (.ref b90), .val (.ref b94), .val (.double dB), .second, .val (.ref b148), .val (.double dB), .second, .unset, .unset] [(.ref b148)])) rfl (by rw [hml]; rfl) (Steps.refl _) (argsL := []) (rest := []) (lenOf pd0_1 rfl) rfl (by show 2 * 0 + _ ≤ _; exact Nat.le_of_eq rfl) (hb hby at_213) (fun _ _ => ⟨rfl, e175, (by decide : 5 + 0 ≤ _), (by decide : 14 + 0 ≤ _)⟩)
      dsimp only [Pt.U, Pt.locs, Pt.cells, Pt.slots] at X190 l190 y190 z190 st190 hQ190
      subst l190 y190 z190
      obtain ⟨rfl, N190q, e190⟩ := hQ190
      have n191 := Fr.app n189 N190q
      refine own_tr (T' := T190) (g' := (mkF m 216 #[.val (.int p0), .val (.int p1), .val (.int p2), .val (.int p3), .val (.int p4), .val (.int p5), .val (.int (3 : Int32)), .val (.double dA), .second, .val (.double dB), .second, .val (.double dC), .second, .val (.ref b90), .val (.ref b94), .val (.double dB), .second, .val (.ref b148), .val (.double dB), .second, .unset, .unset] [(.double dB)])) st190 ?_
      refine own_st (T' := T190) (g' := (mkF m 239 #[.val (.int p0), .val (.int p1), .val (.int p2), .val (.int p3), .val (.int p4), .val (.int p5), .val (.int (3 : Int32)), .val (.double dA), .second, .val (.double dB), .second, .val (.double dC), .second, .val (.ref b90), .val (.ref b94), .val (.double dB), .second, .val (.ref b148), .val (.double dB), .second, .val (.double dB), .second] [(.int (1 : Int32))])) (fun t k => ?_) ?_
      · show Steps p.tables e below (T190.setTop (mkF m 216 #[.val (.int p0), .val (.int p1), .val (.int p2), .val (.int p3), .val (.int p4), .val (.int p5), .val (.int (3 : Int32)), .val (.double dA), .second, .val (.double dB), .second, .val (.double dC), .second, .val (.ref b90), .val (.ref b94), .val (.double dB), .second, .val (.ref b148), .val (.double dB), .second, .unset, .unset] [(.double dB)])) t
        refine XS.dstore X190.here hx rfl (hb hby at_216) rfl (l' := #[.val (.int p0), .val (.int p1), .val (.int p2), .val (.int p3), .val (.int p4), .val (.int p5), .val (.int (3 : Int32)), .val (.double dA), .second, .val (.double dB), .second, .val (.double dC), .second, .val (.ref b90), .val (.ref b94), .val (.double dB), .second, .val (.ref b148), .val (.double dB), .second, .val (.double dB), .second]) rfl ?_
        refine XS.dload X190.here hx rfl (hb hby at_218) rfl ?_
        refine XS.dload X190.here hx rfl (hb hby at_220) rfl ?_
        refine XS.dcmpS X190.here hx rfl (hb hby at_222) rfl (dcmpV_self hd.nnB .l) ?_
        refine XS.ifNo X190.here hx rfl (hb hby at_223) rfl (by decide) ?_
        refine XS.dload X190.here hx rfl (hb hby at_226) rfl ?_
        refine XS.dload X190.here hx rfl (hb hby at_228) rfl ?_
        refine XS.dcmpS X190.here hx rfl (hb hby at_230) rfl (dcmpV_self hd.nnB .l) ?_
        show Steps p.tables e below (T190.setTop (mkF m 231 #[.val (.int p0), .val (.int p1), .val (.int p2), .val (.int p3), .val (.int p4), .val (.int p5), .val (.int (3 : Int32)), .val (.double dA), .second, .val (.double dB), .second, .val (.double dC), .second, .val (.ref b90), .val (.ref b94), .val (.double dB), .second, .val (.ref b148), .val (.double dB), .second, .val (.double dB), .second] [(.int (0 : Int32))])) t
        refine XS.ifNo X190.here hx rfl (hb hby at_231) rfl (by decide) ?_
        refine XS.iconst X190.here hx rfl (hb hby at_234) ?_
        refine XS.goto X190.here hx rfl (pc0 := 235) (pc' := 239) rfl (hb hby at_235) (by decide) (by decide) ?_
        exact k
      refine own_retZ X190 hx hlk Bd.returns (hb hby at_239) rfl (by decide) (by decide) ?_
      show Q0 Z p0 p1 p2 p3 p4 p5 h0 n0 (some (.int (1 : Int32))) T190.heap _
      rw [(e190 : T190.heap = h175)]
      exact ⟨rfl, n191⟩
    refine own_st (T' := s₁) (g' := (mkF m 46 #[.val (.int p0), .val (.int p1), .val (.int p2), .val (.int p3), .val (.int p4), .val (.int p5), .val (.int (3 : Int32)), .val (.double (FP.i2d ((p1 &&& (1023 : Int32)) + (1 : Int32)))), .second, .val (.double (FP.dadd (FP.i2d ((p1 &&& (1023 : Int32)) + (1 : Int32))) (FP.i2d ((p2 &&& (1023 : Int32)) + (1 : Int32))))), .second, .val (.double (FP.dadd (FP.dadd (FP.i2d ((p1 &&& (1023 : Int32)) + (1 : Int32))) (FP.i2d ((p2 &&& (1023 : Int32)) + (1 : Int32)))) (FP.i2d ((p3 &&& (1023 : Int32)) + (1 : Int32))))), .second, .unset, .unset, .unset, .unset, .unset, .unset, .unset, .unset, .unset] [])) (fun t k => ?_) ?_
    · show Steps p.tables e below (s₁.setTop (mkF m 10 #[.val (.int p0), .val (.int p1), .val (.int p2), .val (.int p3), .val (.int p4), .val (.int p5), .val (.int (3 : Int32)), .unset, .unset, .unset, .unset, .unset, .unset, .unset, .unset, .unset, .unset, .unset, .unset, .unset, .unset, .unset] [])) t
      refine XS.iloadN X0.here hx rfl (hb hby at_10) rfl ?_
      refine XS.sipush X0.here hx rfl (hb hby at_11) ?_
      refine XS.iand X0.here hx rfl (hb hby at_14) rfl ?_
      refine XS.iconst X0.here hx rfl (hb hby at_15) ?_
      refine XS.iadd X0.here hx rfl (hb hby at_16) rfl ?_
      refine XS.i2dS X0.here hx rfl (hb hby at_17) rfl rfl ?_
      refine XS.dstore X0.here hx rfl (hb hby at_18) rfl (l' := #[.val (.int p0), .val (.int p1), .val (.int p2), .val (.int p3), .val (.int p4), .val (.int p5), .val (.int (3 : Int32)), .val (.double (FP.i2d ((p1 &&& (1023 : Int32)) + (1 : Int32)))), .second, .unset, .unset, .unset, .unset, .unset, .unset, .unset, .unset, .unset, .unset, .unset, .unset, .unset]) rfl ?_
      refine XS.dload X0.here hx rfl (hb hby at_20) rfl ?_
      show Steps p.tables e below (s₁.setTop (mkF m 22 #[.val (.int p0), .val (.int p1), .val (.int p2), .val (.int p3), .val (.int p4), .val (.int p5), .val (.int (3 : Int32)), .val (.double (FP.i2d ((p1 &&& (1023 : Int32)) + (1 : Int32)))), .second, .unset, .unset, .unset, .unset, .unset, .unset, .unset, .unset, .unset, .unset, .unset, .unset, .unset] [(.double (FP.i2d ((p1 &&& (1023 : Int32)) + (1 : Int32))))])) t
      refine XS.iloadN X0.here hx rfl (hb hby at_22) rfl ?_
      refine XS.sipush X0.here hx rfl (hb hby at_23) ?_
      refine XS.iand X0.here hx rfl (hb hby at_26) rfl ?_
      refine XS.iconst X0.here hx rfl (hb hby at_27) ?_
      refine XS.iadd X0.here hx rfl (hb hby at_28) rfl ?_
      refine XS.i2dS X0.here hx rfl (hb hby at_29) rfl rfl ?_
      refine XS.daddS X0.here hx rfl (hb hby at_30) rfl (own_hT p1 p2 0).nnB rfl ?_
      refine XS.dstore X0.here hx rfl (hb hby at_31) rfl (l' := #[.val (.int p0), .val (.int p1), .val (.int p2), .val (.int p3), .val (.int p4), .val (.int p5), .val (.int (3 : Int32)), .val (.double (FP.i2d ((p1 &&& (1023 : Int32)) + (1 : Int32)))), .second, .val (.double (FP.dadd (FP.i2d ((p1 &&& (1023 : Int32)) + (1 : Int32))) (FP.i2d ((p2 &&& (1023 : Int32)) + (1 : Int32))))), .second, .unset, .unset, .unset, .unset, .unset, .unset, .unset, .unset, .unset, .unset, .unset]) rfl ?_
      show Steps p.tables e below (s₁.setTop (mkF m 33 #[.val (.int p0), .val (.int p1), .val (.int p2), .val (.int p3), .val (.int p4), .val (.int p5), .val (.int (3 : Int32)), .val (.double (FP.i2d ((p1 &&& (1023 : Int32)) + (1 : Int32)))), .second, .val (.double (FP.dadd (FP.i2d ((p1 &&& (1023 : Int32)) + (1 : Int32))) (FP.i2d ((p2 &&& (1023 : Int32)) + (1 : Int32))))), .second, .unset, .unset, .unset, .unset, .unset, .unset, .unset, .unset, .unset, .unset, .unset] [])) t
      refine XS.dload X0.here hx rfl (hb hby at_33) rfl ?_
      refine XS.iloadN X0.here hx rfl (hb hby at_35) rfl ?_
      refine XS.sipush X0.here hx rfl (hb hby at_36) ?_
      refine XS.iand X0.here hx rfl (hb hby at_39) rfl ?_
      refine XS.iconst X0.here hx rfl (hb hby at_40) ?_
      refine XS.iadd X0.here hx rfl (hb hby at_41) rfl ?_
      refine XS.i2dS X0.here hx rfl (hb hby at_42) rfl rfl ?_
      refine XS.daddS X0.here hx rfl (hb hby at_43) rfl (own_hT p1 p2 p3).nnC rfl ?_
      show Steps p.tables e below (s₁.setTop (mkF m 44 #[.val (.int p0), .val (.int p1), .val (.int p2), .val (.int p3), .val (.int p4), .val (.int p5), .val (.int (3 : Int32)), .val (.double (FP.i2d ((p1 &&& (1023 : Int32)) + (1 : Int32)))), .second, .val (.double (FP.dadd (FP.i2d ((p1 &&& (1023 : Int32)) + (1 : Int32))) (FP.i2d ((p2 &&& (1023 : Int32)) + (1 : Int32))))), .second, .unset, .unset, .unset, .unset, .unset, .unset, .unset, .unset, .unset, .unset, .unset] [(.double (FP.dadd (FP.dadd (FP.i2d ((p1 &&& (1023 : Int32)) + (1 : Int32))) (FP.i2d ((p2 &&& (1023 : Int32)) + (1 : Int32)))) (FP.i2d ((p3 &&& (1023 : Int32)) + (1 : Int32)))))])) t
      refine XS.dstore X0.here hx rfl (hb hby at_44) rfl (l' := #[.val (.int p0), .val (.int p1), .val (.int p2), .val (.int p3), .val (.int p4), .val (.int p5), .val (.int (3 : Int32)), .val (.double (FP.i2d ((p1 &&& (1023 : Int32)) + (1 : Int32)))), .second, .val (.double (FP.dadd (FP.i2d ((p1 &&& (1023 : Int32)) + (1 : Int32))) (FP.i2d ((p2 &&& (1023 : Int32)) + (1 : Int32))))), .second, .val (.double (FP.dadd (FP.dadd (FP.i2d ((p1 &&& (1023 : Int32)) + (1 : Int32))) (FP.i2d ((p2 &&& (1023 : Int32)) + (1 : Int32)))) (FP.i2d ((p3 &&& (1023 : Int32)) + (1 : Int32))))), .second, .unset, .unset, .unset, .unset, .unset, .unset, .unset, .unset, .unset]) rfl ?_
      exact k
    exact hJ46 _ _ _ (own_hT p1 p2 p3)
  · rw [hk8_3]
    refine own_st (T' := s₁) (g' := (mkF m 10 #[.val (.int p0), .val (.int p1), .val (.int p2), .val (.int p3), .val (.int p4), .val (.int p5), .val (.int (4 : Int32)), .unset, .unset, .unset, .unset, .unset, .unset, .unset, .unset, .unset, .unset, .unset, .unset, .unset, .unset, .unset] [])) (fun t k => ?_) ?_
    · show Steps p.tables e below (s₁.setTop (mkF m 8 #[.val (.int p0), .val (.int p1), .val (.int p2), .val (.int p3), .val (.int p4), .val (.int p5), .unset, .unset, .unset, .unset, .unset, .unset, .unset, .unset, .unset, .unset, .unset, .unset, .unset, .unset, .unset, .unset] [(.int (4 : Int32))])) t
      refine XS.istore X0.here hx rfl (hb hby at_8) rfl (l' := #[.val (.int p0), .val (.int p1), .val (.int p2), .val (.int p3), .val (.int p4), .val (.int p5), .val (.int (4 : Int32)), .unset, .unset, .unset, .unset, .unset, .unset, .unset, .unset, .unset, .unset, .unset, .unset, .unset, .unset, .unset]) rfl ?_
      exact k
    have hJ46 : ∀ (dA : UInt64) (dB : UInt64) (dC : UInt64) (hd : own_T dA dB dC), own_G p e below s (Q0 Z p0 p1 p2 p3 p4 p5 h0 n0) (room_1).cells (room_1).slots s₁ (mkF m 46 #[.val (.int p0), .val (.int p1), .val (.int p2), .val (.int p3), .val (.int p4), .val (.int p5), .val (.int (4 : Int32)), .val (.double dA), .second, .val (.double dB), .second, .val (.double dC), .second, .unset, .unset, .unset, .unset, .unset, .unset, .unset, .unset, .unset] []) := by
      intro dA dB dC hd
      refine own_st (T' := s₁) (g' := (mkF m 48 #[.val (.int p0), .val (.int p1), .val (.int p2), .val (.int p3), .val (.int p4), .val (.int p5), .val (.int (4 : Int32)), .val (.double dA), .second, .val (.double dB), .second, .val (.double dC), .second, .unset, .unset, .unset, .unset, .unset, .unset, .unset, .unset, .unset] [(.int (4 : Int32))])) (fun t k => ?_) ?_
      · show Steps p.tables e below (s₁.setTop (mkF m 46 #[.val (.int p0), .val (.int p1), .val (.int p2), .val (.int p3), .val (.int p4), .val (.int p5), .val (.int (4 : Int32)), .val (.double dA), .second, .val (.double dB), .second, .val (.double dC), .second, .unset, .unset, .unset, .unset, .unset, .unset, .unset, .unset, .unset] [])) t
        refine XS.iload X0.here hx rfl (hb hby at_46) rfl ?_
        exact k
      obtain ⟨T192, h192, k192, X192, e192, E192, A192, B192, st192⟩ := newPE X0 hx hZ (hw _ (List.mem_of_getElem? (i := 1) rfl)) e0 (g := (mkF m 48 #[.val (.int p0), .val (.int p1), .val (.int p2), .val (.int p3), .val (.int p4), .val (.int p5), .val (.int (4 : Int32)), .val (.double dA), .second, .val (.double dB), .second, .val (.double dC), .second, .unset, .unset, .unset, .unset, .unset, .unset, .unset, .unset, .unset] [(.int (4 : Int32))])) rfl (hb hby at_48) rfl (by decide) (cap := 4) (by decide) (by decide) (by decide) (by decide) (ad := "[D") (by decide +kernel)
      obtain ⟨b192, g192⟩ : ∃ z, z = h0.size := ⟨_, rfl⟩
      rw [← g192] at A192 B192 st192
      have g_b192 : n0 ≤ b192 := Nat.le_trans Z0 (Nat.le_of_eq g192.symm)
      have sz_b192 : h0.size ≤ b192 := Nat.le_trans K0.1 (Nat.le_of_eq g192.symm)
      have z193 := Nat.le_trans Z0 E192.1
      have k194 := K0.ext E192
      have v195 : Arv Z h192 b192 k192 .double (4 : Int32) [(.double (0 : UInt64)), (.double (0 : UInt64)), (.double (0 : UInt64)), (.double (0 : UInt64))] (.double (0 : UInt64)) := (Arv.new A192 (by decide)).pad (pad_rep [] (.double (0 : UInt64)) 4)
      refine own_st (T' := T192) (g' := (mkF m 50 #[.val (.int p0), .val (.int p1), .val (.int p2), .val (.int p3), .val (.int p4), .val (.int p5), .val (.int (4 : Int32)), .val (.double dA), .second, .val (.double dB), .second, .val (.double dC), .second, .unset, .unset, .unset, .unset, .unset, .unset, .unset, .unset, .unset] [(.ref b192)])) st192 ?_
      refine own_st (T' := T192) (g' := (mkF m 54 #[.val (.int p0), .val (.int p1), .val (.int p2), .val (.int p3), .val (.int p4), .val (.int p5), .val (.int (4 : Int32)), .val (.double dA), .second, .val (.double dB), .second, .val (.double dC), .second, .val (.ref b192), .unset, .unset, .unset, .unset, .unset, .unset, .unset, .unset] [(.int (4 : Int32))])) (fun t k => ?_) ?_
      · show Steps p.tables e below (T192.setTop (mkF m 50 #[.val (.int p0), .val (.int p1), .val (.int p2), .val (.int p3), .val (.int p4), .val (.int p5), .val (.int (4 : Int32)), .val (.double dA), .second, .val (.double dB), .second, .val (.double dC), .second, .unset, .unset, .unset, .unset, .unset, .unset, .unset, .unset, .unset] [(.ref b192)])) t
        refine XS.astore X192.here hx rfl (hb hby at_50) rfl rfl (l' := #[.val (.int p0), .val (.int p1), .val (.int p2), .val (.int p3), .val (.int p4), .val (.int p5), .val (.int (4 : Int32)), .val (.double dA), .second, .val (.double dB), .second, .val (.double dC), .second, .val (.ref b192), .unset, .unset, .unset, .unset, .unset, .unset, .unset, .unset]) rfl ?_
        refine XS.iload X192.here hx rfl (hb hby at_52) rfl ?_
        exact k
      obtain ⟨T196, h196, k196, X196, e196, E196, A196, B196, st196⟩ := newPE X192 hx hZ (hw _ (List.mem_of_getElem? (i := 1) rfl)) e192 (g := (mkF m 54 #[.val (.int p0), .val (.int p1), .val (.int p2), .val (.int p3), .val (.int p4), .val (.int p5), .val (.int (4 : Int32)), .val (.double dA), .second, .val (.double dB), .second, .val (.double dC), .second, .val (.ref b192), .unset, .unset, .unset, .unset, .unset, .unset, .unset, .unset] [(.int (4 : Int32))])) rfl (hb hby at_54) rfl (by decide) (cap := 4) (by decide) (by decide) (by decide) (by decide) (ad := "[D") (by decide +kernel)
      obtain ⟨b196, g196⟩ : ∃ z, z = h192.size := ⟨_, rfl⟩
      rw [← g196] at A196 B196 st196
      have ne_b192_b196 : b192 ≠ b196 := Nat.ne_of_lt (Nat.lt_of_lt_of_le B192.lt (Nat.le_of_eq g196.symm))
      have g_b196 : n0 ≤ b196 := Nat.le_trans z193 (Nat.le_of_eq g196.symm)
      have sz_b196 : h0.size ≤ b196 := Nat.le_trans k194.1 (Nat.le_of_eq g196.symm)
      have f197 := B192.ext E196
      have f198 := v195.ext E196
      have z199 := Nat.le_trans z193 E196.1
      have k200 := k194.ext E196
      have v201 : Arv Z h196 b196 k196 .double (4 : Int32) [(.double (0 : UInt64)), (.double (0 : UInt64)), (.double (0 : UInt64)), (.double (0 : UInt64))] (.double (0 : UInt64)) := (Arv.new A196 (by decide)).pad (pad_rep [] (.double (0 : UInt64)) 4)
      refine own_st (T' := T196) (g' := (mkF m 56 #[.val (.int p0), .val (.int p1), .val (.int p2), .val (.int p3), .val (.int p4), .val (.int p5), .val (.int (4 : Int32)), .val (.double dA), .second, .val (.double dB), .second, .val (.double dC), .second, .val (.ref b192), .unset, .unset, .unset, .unset, .unset, .unset, .unset, .unset] [(.ref b196)])) st196 ?_
      refine own_st (T' := T196) (g' := (mkF m 62 #[.val (.int p0), .val (.int p1), .val (.int p2), .val (.int p3), .val (.int p4), .val (.int p5), .val (.int (4 : Int32)), .val (.double dA), .second, .val (.double dB), .second, .val (.double dC), .second, .val (.ref b192), .val (.ref b196), .unset, .unset, .unset, .unset, .unset, .unset, .unset] [(.double (0 : UInt64)), (.int (0 : Int32)), (.ref b192)])) (fun t k => ?_) ?_
      · show Steps p.tables e below (T196.setTop (mkF m 56 #[.val (.int p0), .val (.int p1), .val (.int p2), .val (.int p3), .val (.int p4), .val (.int p5), .val (.int (4 : Int32)), .val (.double dA), .second, .val (.double dB), .second, .val (.double dC), .second, .val (.ref b192), .unset, .unset, .unset, .unset, .unset, .unset, .unset, .unset] [(.ref b196)])) t
        refine XS.astore X196.here hx rfl (hb hby at_56) rfl rfl (l' := #[.val (.int p0), .val (.int p1), .val (.int p2), .val (.int p3), .val (.int p4), .val (.int p5), .val (.int (4 : Int32)), .val (.double dA), .second, .val (.double dB), .second, .val (.double dC), .second, .val (.ref b192), .val (.ref b196), .unset, .unset, .unset, .unset, .unset, .unset, .unset]) rfl ?_
        refine XS.aload X196.here hx rfl (hb hby at_58) rfl rfl ?_
        refine XS.iconst X196.here hx rfl (hb hby at_60) ?_
        refine XS.dconst0 X196.here hx rfl (hb hby at_61) rfl ?_
        exact k
      obtain ⟨c202, r202a, r202b, r202c, r202d, r202e, r202f⟩ := id f198
      have i202 : ¬ ((0 : Int32) < 0 ∨ c202.slots.size ≤ ((0 : Int32)).toNatClampNeg) := inb_of r202c ⟨by decide, by decide⟩
      obtain ⟨T202, h202, X202, e202, W202, st202⟩ := stD X196 hx hZ e196 r202a (j := (0 : Int32)) i202 (g := (mkF m 62 #[.val (.int p0), .val (.int p1), .val (.int p2), .val (.int p3), .val (.int p4), .val (.int p5), .val (.int (4 : Int32)), .val (.double dA), .second, .val (.double dB), .second, .val (.double dC), .second, .val (.ref b192), .val (.ref b196), .unset, .unset, .unset, .unset, .unset, .unset, .unset] [(.double (0 : UInt64)), (.int (0 : Int32)), (.ref b192)])) rfl rfl (hb hby at_62)
      have v203 := Arv.set r202a r202b r202c r202d r202e r202f rfl W202 0 rfl (Nat.le_of_ble_eq_true rfl)
      have f204 := f197.wr W202
      have f205 := B196.wr W202
      have f206 := v201.other W202 (Ne.symm ne_b192_b196)
      have z207 := Nat.le_trans z199 (Keep.of_wr W202).1
      have k208 := k200.wr W202 (Or.inr sz_b192)
      have n209 := Fr.snoc X202 N0 g_b192
      refine own_st (T' := T202) (g' := (mkF m 63 #[.val (.int p0), .val (.int p1), .val (.int p2), .val (.int p3), .val (.int p4), .val (.int p5), .val (.int (4 : Int32)), .val (.double dA), .second, .val (.double dB), .second, .val (.double dC), .second, .val (.ref b192), .val (.ref b196), .unset, .unset, .unset, .unset, .unset, .unset, .unset] [])) st202 ?_
      refine own_st (T' := T202) (g' := (mkF m 68 #[.val (.int p0), .val (.int p1), .val (.int p2), .val (.int p3), .val (.int p4), .val (.int p5), .val (.int (4 : Int32)), .val (.double dA), .second, .val (.double dB), .second, .val (.double dC), .second, .val (.ref b192), .val (.ref b196), .unset, .unset, .unset, .unset, .unset, .unset, .unset] [(.double dA), (.int (1 : Int32)), (.ref b192)])) (fun t k => ?_) ?_
      · show Steps p.tables e below (T202.setTop (mkF m 63 #[.val (.int p0), .val (.int p1), .val (.int p2), .val (.int p3), .val (.int p4), .val (.int p5), .val (.int (4 : Int32)), .val (.double dA), .second, .val (.double dB), .second, .val (.double dC), .second, .val (.ref b192), .val (.ref b196), .unset, .unset, .unset, .unset, .unset, .unset, .unset] [])) t
        refine XS.aload X202.here hx rfl (hb hby at_63) rfl rfl ?_
        refine XS.iconst X202.here hx rfl (hb hby at_65) ?_
        refine XS.dload X202.here hx rfl (hb hby at_66) rfl ?_
        exact k
      obtain ⟨c210, r210a, r210b, r210c, r210d, r210e, r210f⟩ := id v203
      have i210 : ¬ ((1 : Int32) < 0 ∨ c210.slots.size ≤ ((1 : Int32)).toNatClampNeg) := inb_of r210c ⟨by decide, by decide⟩
      obtain ⟨T210, h210, X210, e210, W210, st210⟩ := stD X202 hx hZ e202 r210a (j := (1 : Int32)) i210 (g := (mkF m 68 #[.val (.int p0), .val (.int p1), .val (.int p2), .val (.int p3), .val (.int p4), .val (.int p5), .val (.int (4 : Int32)), .val (.double dA), .second, .val (.double dB), .second, .val (.double dC), .second, .val (.ref b192), .val (.ref b196), .unset, .unset, .unset, .unset, .unset, .unset, .unset] [(.double dA), (.int (1 : Int32)), (.ref b192)])) rfl rfl (hb hby at_68)
      have v211 := Arv.set r210a r210b r210c r210d r210e r210f rfl W210 1 rfl (Nat.le_of_ble_eq_true rfl)
      have f212 := f204.wr W210
      have f213 := f205.wr W210
      have f214 := f206.other W210 (Ne.symm ne_b192_b196)
      have z215 := Nat.le_trans z207 (Keep.of_wr W210).1
      have k216 := k208.wr W210 (Or.inr sz_b192)
      have n217 := Fr.snoc X210 n209 g_b192
      refine own_st (T' := T210) (g' := (mkF m 69 #[.val (.int p0), .val (.int p1), .val (.int p2), .val (.int p3), .val (.int p4), .val (.int p5), .val (.int (4 : Int32)), .val (.double dA), .second, .val (.double dB), .second, .val (.double dC), .second, .val (.ref b192), .val (.ref b196), .unset, .unset, .unset, .unset, .unset, .unset, .unset] [])) st210 ?_
      refine own_st (T' := T210) (g' := (mkF m 79 #[.val (.int p0), .val (.int p1), .val (.int p2), .val (.int p3), .val (.int p4), .val (.int p5), .val (.int (4 : Int32)), .val (.double dA), .second, .val (.double dB), .second, .val (.double dC), .second, .val (.ref b192), .val (.ref b196), .unset, .unset, .unset, .unset, .unset, .unset, .unset] [(.double (FP.i2d (p4 &&& (255 : Int32)))), (.int (0 : Int32)), (.ref b196)])) (fun t k => ?_) ?_
      · show Steps p.tables e below (T210.setTop (mkF m 69 #[.val (.int p0), .val (.int p1), .val (.int p2), .val (.int p3), .val (.int p4), .val (.int p5), .val (.int (4 : Int32)), .val (.double dA), .second, .val (.double dB), .second, .val (.double dC), .second, .val (.ref b192), .val (.ref b196), .unset, .unset, .unset, .unset, .unset, .unset, .unset] [])) t
        refine XS.aload X210.here hx rfl (hb hby at_69) rfl rfl ?_
        refine XS.iconst X210.here hx rfl (hb hby at_71) ?_
        refine XS.iload X210.here hx rfl (hb hby at_72) rfl ?_
        refine XS.sipush X210.here hx rfl (hb hby at_74) ?_
        refine XS.iand X210.here hx rfl (hb hby at_77) rfl ?_
        refine XS.i2dS X210.here hx rfl (hb hby at_78) rfl rfl ?_
        exact k
      obtain ⟨c218, r218a, r218b, r218c, r218d, r218e, r218f⟩ := id f214
      have i218 : ¬ ((0 : Int32) < 0 ∨ c218.slots.size ≤ ((0 : Int32)).toNatClampNeg) := inb_of r218c ⟨by decide, by decide⟩
      obtain ⟨T218, h218, X218, e218, W218, st218⟩ := stD X210 hx hZ e210 r218a (j := (0 : Int32)) i218 (g := (mkF m 79 #[.val (.int p0), .val (.int p1), .val (.int p2), .val (.int p3), .val (.int p4), .val (.int p5), .val (.int (4 : Int32)), .val (.double dA), .second, .val (.double dB), .second, .val (.double dC), .second, .val (.ref b192), .val (.ref b196), .unset, .unset, .unset, .unset, .unset, .unset, .unset] [(.double (FP.i2d (p4 &&& (255 : Int32)))), (.int (0 : Int32)), (.ref b196)])) rfl rfl (hb hby at_79)
      have v219 := Arv.set r218a r218b r218c r218d r218e r218f rfl W218 0 rfl (Nat.le_of_ble_eq_true rfl)
      have f220 := f212.wr W218
      have f221 := v211.other W218 ne_b192_b196
      have f222 := f213.wr W218
      have z223 := Nat.le_trans z215 (Keep.of_wr W218).1
      have k224 := k216.wr W218 (Or.inr sz_b196)
      have n225 := Fr.snoc X218 n217 g_b196
      refine own_st (T' := T218) (g' := (mkF m 80 #[.val (.int p0), .val (.int p1), .val (.int p2), .val (.int p3), .val (.int p4), .val (.int p5), .val (.int (4 : Int32)), .val (.double dA), .second, .val (.double dB), .second, .val (.double dC), .second, .val (.ref b192), .val (.ref b196), .unset, .unset, .unset, .unset, .unset, .unset, .unset] [])) st218 ?_
      refine own_st (T' := T218) (g' := (mkF m 93 #[.val (.int p0), .val (.int p1), .val (.int p2), .val (.int p3), .val (.int p4), .val (.int p5), .val (.int (4 : Int32)), .val (.double dA), .second, .val (.double dB), .second, .val (.double dC), .second, .val (.ref b192), .val (.ref b196), .unset, .unset, .unset, .unset, .unset, .unset, .unset] [(.double (FP.i2d (((p4.toUInt32 >>> ((8 : Int32) &&& 31).toUInt32).toInt32) &&& (255 : Int32)))), (.int (1 : Int32)), (.ref b196)])) (fun t k => ?_) ?_
      · show Steps p.tables e below (T218.setTop (mkF m 80 #[.val (.int p0), .val (.int p1), .val (.int p2), .val (.int p3), .val (.int p4), .val (.int p5), .val (.int (4 : Int32)), .val (.double dA), .second, .val (.double dB), .second, .val (.double dC), .second, .val (.ref b192), .val (.ref b196), .unset, .unset, .unset, .unset, .unset, .unset, .unset] [])) t
        refine XS.aload X218.here hx rfl (hb hby at_80) rfl rfl ?_
        refine XS.iconst X218.here hx rfl (hb hby at_82) ?_
        refine XS.iload X218.here hx rfl (hb hby at_83) rfl ?_
        refine XS.bipush X218.here hx rfl (hb hby at_85) ?_
        refine XS.iushr X218.here hx rfl (hb hby at_87) rfl ?_
        refine XS.sipush X218.here hx rfl (hb hby at_88) ?_
        refine XS.iand X218.here hx rfl (hb hby at_91) rfl ?_
        refine XS.i2dS X218.here hx rfl (hb hby at_92) rfl rfl ?_
        exact k
      obtain ⟨c226, r226a, r226b, r226c, r226d, r226e, r226f⟩ := id v219
      have i226 : ¬ ((1 : Int32) < 0 ∨ c226.slots.size ≤ ((1 : Int32)).toNatClampNeg) := inb_of r226c ⟨by decide, by decide⟩
      obtain ⟨T226, h226, X226, e226, W226, st226⟩ := stD X218 hx hZ e218 r226a (j := (1 : Int32)) i226 (g := (mkF m 93 #[.val (.int p0), .val (.int p1), .val (.int p2), .val (.int p3), .val (.int p4), .val (.int p5), .val (.int (4 : Int32)), .val (.double dA), .second, .val (.double dB), .second, .val (.double dC), .second, .val (.ref b192), .val (.ref b196), .unset, .unset, .unset, .unset, .unset, .unset, .unset] [(.double (FP.i2d (((p4.toUInt32 >>> ((8 : Int32) &&& 31).toUInt32).toInt32) &&& (255 : Int32)))), (.int (1 : Int32)), (.ref b196)])) rfl rfl (hb hby at_93)
      have v227 := Arv.set r226a r226b r226c r226d r226e r226f rfl W226 1 rfl (Nat.le_of_ble_eq_true rfl)
      have f228 := f220.wr W226
      have f229 := f221.other W226 ne_b192_b196
      have f230 := f222.wr W226
      have z231 := Nat.le_trans z223 (Keep.of_wr W226).1
      have k232 := k224.wr W226 (Or.inr sz_b196)
      have n233 := Fr.snoc X226 n225 g_b196
      refine own_st (T' := T226) (g' := (mkF m 94 #[.val (.int p0), .val (.int p1), .val (.int p2), .val (.int p3), .val (.int p4), .val (.int p5), .val (.int (4 : Int32)), .val (.double dA), .second, .val (.double dB), .second, .val (.double dC), .second, .val (.ref b192), .val (.ref b196), .unset, .unset, .unset, .unset, .unset, .unset, .unset] [])) st226 ?_
      refine own_st (T' := T226) (g' := (mkF m 105 #[.val (.int p0), .val (.int p1), .val (.int p2), .val (.int p3), .val (.int p4), .val (.int p5), .val (.int (4 : Int32)), .val (.double dA), .second, .val (.double dB), .second, .val (.double dC), .second, .val (.ref b192), .val (.ref b196), .unset, .unset, .unset, .unset, .unset, .unset, .unset] [(.double dB), (.int (2 : Int32)), (.ref b192)])) (fun t k => ?_) ?_
      · show Steps p.tables e below (T226.setTop (mkF m 94 #[.val (.int p0), .val (.int p1), .val (.int p2), .val (.int p3), .val (.int p4), .val (.int p5), .val (.int (4 : Int32)), .val (.double dA), .second, .val (.double dB), .second, .val (.double dC), .second, .val (.ref b192), .val (.ref b196), .unset, .unset, .unset, .unset, .unset, .unset, .unset] [])) t
        refine XS.iload X226.here hx rfl (hb hby at_94) rfl ?_
        refine XS.iconst X226.here hx rfl (hb hby at_96) ?_
        refine XS.icmpNo X226.here hx rfl (hb hby at_97) rfl (by decide) ?_
        refine XS.aload X226.here hx rfl (hb hby at_100) rfl rfl ?_
        refine XS.iconst X226.here hx rfl (hb hby at_102) ?_
        refine XS.dload X226.here hx rfl (hb hby at_103) rfl ?_
        exact k
      obtain ⟨c234, r234a, r234b, r234c, r234d, r234e, r234f⟩ := id f229
      have i234 : ¬ ((2 : Int32) < 0 ∨ c234.slots.size ≤ ((2 : Int32)).toNatClampNeg) := inb_of r234c ⟨by decide, by decide⟩
      obtain ⟨T234, h234, X234, e234, W234, st234⟩ := stD X226 hx hZ e226 r234a (j := (2 : Int32)) i234 (g := (mkF m 105 #[.val (.int p0), .val (.int p1), .val (.int p2), .val (.int p3), .val (.int p4), .val (.int p5), .val (.int (4 : Int32)), .val (.double dA), .second, .val (.double dB), .second, .val (.double dC), .second, .val (.ref b192), .val (.ref b196), .unset, .unset, .unset, .unset, .unset, .unset, .unset] [(.double dB), (.int (2 : Int32)), (.ref b192)])) rfl rfl (hb hby at_105)
      have v235 := Arv.set r234a r234b r234c r234d r234e r234f rfl W234 2 rfl (Nat.le_of_ble_eq_true rfl)
      have f236 := f228.wr W234
      have f237 := f230.wr W234
      have f238 := v227.other W234 (Ne.symm ne_b192_b196)
      have z239 := Nat.le_trans z231 (Keep.of_wr W234).1
      have k240 := k232.wr W234 (Or.inr sz_b192)
      have n241 := Fr.snoc X234 n233 g_b192
      refine own_st (T' := T234) (g' := (mkF m 106 #[.val (.int p0), .val (.int p1), .val (.int p2), .val (.int p3), .val (.int p4), .val (.int p5), .val (.int (4 : Int32)), .val (.double dA), .second, .val (.double dB), .second, .val (.double dC), .second, .val (.ref b192), .val (.ref b196), .unset, .unset, .unset, .unset, .unset, .unset, .unset] [])) st234 ?_
      refine own_st (T' := T234) (g' := (mkF m 119 #[.val (.int p0), .val (.int p1), .val (.int p2), .val (.int p3), .val (.int p4), .val (.int p5), .val (.int (4 : Int32)), .val (.double dA), .second, .val (.double dB), .second, .val (.double dC), .second, .val (.ref b192), .val (.ref b196), .unset, .unset, .unset, .unset, .unset, .unset, .unset] [(.double (FP.i2d (((p4.toUInt32 >>> ((16 : Int32) &&& 31).toUInt32).toInt32) &&& (255 : Int32)))), (.int (2 : Int32)), (.ref b196)])) (fun t k => ?_) ?_
      · show Steps p.tables e below (T234.setTop (mkF m 106 #[.val (.int p0), .val (.int p1), .val (.int p2), .val (.int p3), .val (.int p4), .val (.int p5), .val (.int (4 : Int32)), .val (.double dA), .second, .val (.double dB), .second, .val (.double dC), .second, .val (.ref b192), .val (.ref b196), .unset, .unset, .unset, .unset, .unset, .unset, .unset] [])) t
        refine XS.aload X234.here hx rfl (hb hby at_106) rfl rfl ?_
        refine XS.iconst X234.here hx rfl (hb hby at_108) ?_
        refine XS.iload X234.here hx rfl (hb hby at_109) rfl ?_
        refine XS.bipush X234.here hx rfl (hb hby at_111) ?_
        refine XS.iushr X234.here hx rfl (hb hby at_113) rfl ?_
        refine XS.sipush X234.here hx rfl (hb hby at_114) ?_
        refine XS.iand X234.here hx rfl (hb hby at_117) rfl ?_
        refine XS.i2dS X234.here hx rfl (hb hby at_118) rfl rfl ?_
        exact k
      obtain ⟨c242, r242a, r242b, r242c, r242d, r242e, r242f⟩ := id f238
      have i242 : ¬ ((2 : Int32) < 0 ∨ c242.slots.size ≤ ((2 : Int32)).toNatClampNeg) := inb_of r242c ⟨by decide, by decide⟩
      obtain ⟨T242, h242, X242, e242, W242, st242⟩ := stD X234 hx hZ e234 r242a (j := (2 : Int32)) i242 (g := (mkF m 119 #[.val (.int p0), .val (.int p1), .val (.int p2), .val (.int p3), .val (.int p4), .val (.int p5), .val (.int (4 : Int32)), .val (.double dA), .second, .val (.double dB), .second, .val (.double dC), .second, .val (.ref b192), .val (.ref b196), .unset, .unset, .unset, .unset, .unset, .unset, .unset] [(.double (FP.i2d (((p4.toUInt32 >>> ((16 : Int32) &&& 31).toUInt32).toInt32) &&& (255 : Int32)))), (.int (2 : Int32)), (.ref b196)])) rfl rfl (hb hby at_119)
      have v243 := Arv.set r242a r242b r242c r242d r242e r242f rfl W242 2 rfl (Nat.le_of_ble_eq_true rfl)
      have f244 := f236.wr W242
      have f245 := v235.other W242 ne_b192_b196
      have f246 := f237.wr W242
      have z247 := Nat.le_trans z239 (Keep.of_wr W242).1
      have k248 := k240.wr W242 (Or.inr sz_b196)
      have n249 := Fr.snoc X242 n241 g_b196
      refine own_st (T' := T242) (g' := (mkF m 120 #[.val (.int p0), .val (.int p1), .val (.int p2), .val (.int p3), .val (.int p4), .val (.int p5), .val (.int (4 : Int32)), .val (.double dA), .second, .val (.double dB), .second, .val (.double dC), .second, .val (.ref b192), .val (.ref b196), .unset, .unset, .unset, .unset, .unset, .unset, .unset] [])) st242 ?_
      refine own_st (T' := T242) (g' := (mkF m 131 #[.val (.int p0), .val (.int p1), .val (.int p2), .val (.int p3), .val (.int p4), .val (.int p5), .val (.int (4 : Int32)), .val (.double dA), .second, .val (.double dB), .second, .val (.double dC), .second, .val (.ref b192), .val (.ref b196), .unset, .unset, .unset, .unset, .unset, .unset, .unset] [(.double dC), (.int (3 : Int32)), (.ref b192)])) (fun t k => ?_) ?_
      · show Steps p.tables e below (T242.setTop (mkF m 120 #[.val (.int p0), .val (.int p1), .val (.int p2), .val (.int p3), .val (.int p4), .val (.int p5), .val (.int (4 : Int32)), .val (.double dA), .second, .val (.double dB), .second, .val (.double dC), .second, .val (.ref b192), .val (.ref b196), .unset, .unset, .unset, .unset, .unset, .unset, .unset] [])) t
        refine XS.iload X242.here hx rfl (hb hby at_120) rfl ?_
        refine XS.iconst X242.here hx rfl (hb hby at_122) ?_
        refine XS.icmpNo X242.here hx rfl (hb hby at_123) rfl (by decide) ?_
        refine XS.aload X242.here hx rfl (hb hby at_126) rfl rfl ?_
        refine XS.iconst X242.here hx rfl (hb hby at_128) ?_
        refine XS.dload X242.here hx rfl (hb hby at_129) rfl ?_
        exact k
      obtain ⟨c250, r250a, r250b, r250c, r250d, r250e, r250f⟩ := id f245
      have i250 : ¬ ((3 : Int32) < 0 ∨ c250.slots.size ≤ ((3 : Int32)).toNatClampNeg) := inb_of r250c ⟨by decide, by decide⟩
      obtain ⟨T250, h250, X250, e250, W250, st250⟩ := stD X242 hx hZ e242 r250a (j := (3 : Int32)) i250 (g := (mkF m 131 #[.val (.int p0), .val (.int p1), .val (.int p2), .val (.int p3), .val (.int p4), .val (.int p5), .val (.int (4 : Int32)), .val (.double dA), .second, .val (.double dB), .second, .val (.double dC), .second, .val (.ref b192), .val (.ref b196), .unset, .unset, .unset, .unset, .unset, .unset, .unset] [(.double dC), (.int (3 : Int32)), (.ref b192)])) rfl rfl (hb hby at_131)
      have v251 := Arv.set r250a r250b r250c r250d r250e r250f rfl W250 3 rfl (Nat.le_of_ble_eq_true rfl)
      have f252 := f244.wr W250
      have f253 := f246.wr W250
      have f254 := v243.other W250 (Ne.symm ne_b192_b196)
      have z255 := Nat.le_trans z247 (Keep.of_wr W250).1
      have k256 := k248.wr W250 (Or.inr sz_b192)
      have n257 := Fr.snoc X250 n249 g_b192
      refine own_st (T' := T250) (g' := (mkF m 132 #[.val (.int p0), .val (.int p1), .val (.int p2), .val (.int p3), .val (.int p4), .val (.int p5), .val (.int (4 : Int32)), .val (.double dA), .second, .val (.double dB), .second, .val (.double dC), .second, .val (.ref b192), .val (.ref b196), .unset, .unset, .unset, .unset, .unset, .unset, .unset] [])) st250 ?_
      refine own_st (T' := T250) (g' := (mkF m 145 #[.val (.int p0), .val (.int p1), .val (.int p2), .val (.int p3), .val (.int p4), .val (.int p5), .val (.int (4 : Int32)), .val (.double dA), .second, .val (.double dB), .second, .val (.double dC), .second, .val (.ref b192), .val (.ref b196), .unset, .unset, .unset, .unset, .unset, .unset, .unset] [(.double (FP.i2d (((p4.toUInt32 >>> ((24 : Int32) &&& 31).toUInt32).toInt32) &&& (255 : Int32)))), (.int (3 : Int32)), (.ref b196)])) (fun t k => ?_) ?_
      · show Steps p.tables e below (T250.setTop (mkF m 132 #[.val (.int p0), .val (.int p1), .val (.int p2), .val (.int p3), .val (.int p4), .val (.int p5), .val (.int (4 : Int32)), .val (.double dA), .second, .val (.double dB), .second, .val (.double dC), .second, .val (.ref b192), .val (.ref b196), .unset, .unset, .unset, .unset, .unset, .unset, .unset] [])) t
        refine XS.aload X250.here hx rfl (hb hby at_132) rfl rfl ?_
        refine XS.iconst X250.here hx rfl (hb hby at_134) ?_
        refine XS.iload X250.here hx rfl (hb hby at_135) rfl ?_
        refine XS.bipush X250.here hx rfl (hb hby at_137) ?_
        refine XS.iushr X250.here hx rfl (hb hby at_139) rfl ?_
        refine XS.sipush X250.here hx rfl (hb hby at_140) ?_
        refine XS.iand X250.here hx rfl (hb hby at_143) rfl ?_
        refine XS.i2dS X250.here hx rfl (hb hby at_144) rfl rfl ?_
        exact k
      obtain ⟨c258, r258a, r258b, r258c, r258d, r258e, r258f⟩ := id f254
      have i258 : ¬ ((3 : Int32) < 0 ∨ c258.slots.size ≤ ((3 : Int32)).toNatClampNeg) := inb_of r258c ⟨by decide, by decide⟩
      obtain ⟨T258, h258, X258, e258, W258, st258⟩ := stD X250 hx hZ e250 r258a (j := (3 : Int32)) i258 (g := (mkF m 145 #[.val (.int p0), .val (.int p1), .val (.int p2), .val (.int p3), .val (.int p4), .val (.int p5), .val (.int (4 : Int32)), .val (.double dA), .second, .val (.double dB), .second, .val (.double dC), .second, .val (.ref b192), .val (.ref b196), .unset, .unset, .unset, .unset, .unset, .unset, .unset] [(.double (FP.i2d (((p4.toUInt32 >>> ((24 : Int32) &&& 31).toUInt32).toInt32) &&& (255 : Int32)))), (.int (3 : Int32)), (.ref b196)])) rfl rfl (hb hby at_145)
      have v259 := Arv.set r258a r258b r258c r258d r258e r258f rfl W258 3 rfl (Nat.le_of_ble_eq_true rfl)
      have f260 := f252.wr W258
      have f261 := v251.other W258 ne_b192_b196
      have f262 := f253.wr W258
      have z263 := Nat.le_trans z255 (Keep.of_wr W258).1
      have k264 := k256.wr W258 (Or.inr sz_b196)
      have n265 := Fr.snoc X258 n257 g_b196
      refine own_st (T' := T258) (g' := (mkF m 146 #[.val (.int p0), .val (.int p1), .val (.int p2), .val (.int p3), .val (.int p4), .val (.int p5), .val (.int (4 : Int32)), .val (.double dA), .second, .val (.double dB), .second, .val (.double dC), .second, .val (.ref b192), .val (.ref b196), .unset, .unset, .unset, .unset, .unset, .unset, .unset] [])) st258 ?_
      refine own_st (T' := T258) (g' := (mkF m 172 #[.val (.int p0), .val (.int p1), .val (.int p2), .val (.int p3), .val (.int p4), .val (.int p5), .val (.int (4 : Int32)), .val (.double dA), .second, .val (.double dB), .second, .val (.double dC), .second, .val (.ref b192), .val (.ref b196), .val (.double dC), .second, .unset, .unset, .unset, .unset, .unset] [])) (fun t k => ?_) ?_
      · show Steps p.tables e below (T258.setTop (mkF m 146 #[.val (.int p0), .val (.int p1), .val (.int p2), .val (.int p3), .val (.int p4), .val (.int p5), .val (.int (4 : Int32)), .val (.double dA), .second, .val (.double dB), .second, .val (.double dC), .second, .val (.ref b192), .val (.ref b196), .unset, .unset, .unset, .unset, .unset, .unset, .unset] [])) t
        refine XS.iload X258.here hx rfl (hb hby at_146) rfl ?_
        refine XS.iconst X258.here hx rfl (hb hby at_148) ?_
        refine XS.icmpYes X258.here hx rfl (pc0 := 149) (pc' := 157) rfl (hb hby at_149) rfl (by decide) (by decide) (by decide) ?_
        refine XS.iload X258.here hx rfl (hb hby at_157) rfl ?_
        refine XS.iconst X258.here hx rfl (hb hby at_159) ?_
        refine XS.icmpYes X258.here hx rfl (pc0 := 160) (pc' := 168) rfl (hb hby at_160) rfl (by decide) (by decide) (by decide) ?_
        refine XS.dload X258.here hx rfl (hb hby at_168) rfl ?_
        refine XS.dstore X258.here hx rfl (hb hby at_170) rfl (l' := #[.val (.int p0), .val (.int p1), .val (.int p2), .val (.int p3), .val (.int p4), .val (.int p5), .val (.int (4 : Int32)), .val (.double dA), .second, .val (.double dB), .second, .val (.double dC), .second, .val (.ref b192), .val (.ref b196), .val (.double dC), .second, .unset, .unset, .unset, .unset, .unset]) rfl ?_
        exact k
      obtain ⟨T266, h266, X266, e266, E266, A266, D266, -, st266⟩ := newO X258 hx hZ hown (hw _ (List.mem_of_getElem? (i := 2) rfl)) (hw _ (List.mem_of_getElem? (i := 3) rfl)) (hw _ (List.mem_of_getElem? (i := 4) rfl)) e258 (g := (mkF m 172 #[.val (.int p0), .val (.int p1), .val (.int p2), .val (.int p3), .val (.int p4), .val (.int p5), .val (.int (4 : Int32)), .val (.double dA), .second, .val (.double dB), .second, .val (.double dC), .second, .val (.ref b192), .val (.ref b196), .val (.double dC), .second, .unset, .unset, .unset, .unset, .unset] [])) rfl (hb hby at_172) (by decide) (by decide)
      obtain ⟨b266, g266⟩ : ∃ z, z = h258.size := ⟨_, rfl⟩
      rw [← g266] at A266 D266 st266
      have ne_b192_b266 : b192 ≠ b266 := Nat.ne_of_lt (Nat.lt_of_lt_of_le f260.lt (Nat.le_of_eq g266.symm))
      have ne_b196_b266 : b196 ≠ b266 := Nat.ne_of_lt (Nat.lt_of_lt_of_le f262.lt (Nat.le_of_eq g266.symm))
      have g_b266 : n0 ≤ b266 := Nat.le_trans z263 (Nat.le_of_eq g266.symm)
      have sz_b266 : h0.size ≤ b266 := Nat.le_trans k264.1 (Nat.le_of_eq g266.symm)
      have f267 := f260.ext E266
      have f268 := f261.ext E266
      have f269 := f262.ext E266
      have f270 := v259.ext E266
      have z271 := Nat.le_trans z263 E266.1
      have k272 := k264.ext E266
      have f273 : Fld Z h266 b266 "com/example/corewright/corewright/equilibrium/Strategy" "values" "[D" .null := D266 (Or.inr (hw _ (List.mem_of_getElem? (i := 30) rfl))) (ty := (.array .double)) (by decide)
      have f274 : Fld Z h266 b266 "com/example/corewright/corewright/equilibrium/Strategy" "bids" "[D" .null := D266 (Or.inr (hw _ (List.mem_of_getElem? (i := 32) rfl))) (ty := (.array .double)) (by decide)
      refine own_st (T' := T266) (g' := (mkF m 175 #[.val (.int p0), .val (.int p1), .val (.int p2), .val (.int p3), .val (.int p4), .val (.int p5), .val (.int (4 : Int32)), .val (.double dA), .second, .val (.double dB), .second, .val (.double dC), .second, .val (.ref b192), .val (.ref b196), .val (.double dC), .second, .unset, .unset, .unset, .unset, .unset] [(.ref b266)])) st266 ?_
      refine own_st (T' := T266) (g' := (mkF m 180 #[.val (.int p0), .val (.int p1), .val (.int p2), .val (.int p3), .val (.int p4), .val (.int p5), .val (.int (4 : Int32)), .val (.double dA), .second, .val (.double dB), .second, .val (.double dC), .second, .val (.ref b192), .val (.ref b196), .val (.double dC), .second, .unset, .unset, .unset, .unset, .unset] [(.ref b196), (.ref b192), (.ref b266), (.ref b266)])) (fun t k => ?_) ?_
      · show Steps p.tables e below (T266.setTop (mkF m 175 #[.val (.int p0), .val (.int p1), .val (.int p2), .val (.int p3), .val (.int p4), .val (.int p5), .val (.int (4 : Int32)), .val (.double dA), .second, .val (.double dB), .second, .val (.double dC), .second, .val (.ref b192), .val (.ref b196), .val (.double dC), .second, .unset, .unset, .unset, .unset, .unset] [(.ref b266)])) t
        refine XS.dup X266.here hx rfl (hb hby at_175) rfl rfl ?_
        refine XS.aload X266.here hx rfl (hb hby at_176) rfl rfl ?_
        refine XS.aload X266.here hx rfl (hb hby at_178) rfl rfl ?_
        exact k
      obtain ⟨_, _, ⟨T275, L275, k275, n275⟩, -, X275, ⟨Lc275, hQ275, l275, y275, z275⟩, st275⟩ := X266.specialBack hx (y := (⟨"com/example/corewright/corewright/equilibrium/Strategy", "<init>", "([D[D)V"⟩ : MethodName)) rfl hown (mvT hZ (hw _ (List.mem_of_getElem? (i := 5) rfl))) (mvT hZ (hw _ (List.mem_of_getElem? (i := 6) rfl))) (mvT hZ (hw _ (List.mem_of_getElem? (i := 7) rfl))) (by decide) (backOf (W := 1) (rmi4 l Z ar hw [] b266 b192 b196 (.null) (.null) k192 ((0 : UInt64)) dA dB dC k196 ((FP.i2d (p4 &&& (255 : Int32)))) ((FP.i2d (((p4.toUInt32 >>> ((8 : Int32) &&& 31).toUInt32).toInt32) &&& (255 : Int32)))) ((FP.i2d (((p4.toUInt32 >>> ((16 : Int32) &&& 31).toUInt32).toInt32) &&& (255 : Int32)))) ((FP.i2d (((p4.toUInt32 >>> ((24 : Int32) &&& 31).toUInt32).toInt32) &&& (255 : Int32)))) h266 n0 z271 A266 f273 f274 f267 f268 f269 f270 own_00 hd.nnC (own_max hd.finC .l) hd.gtA0 hd.gtBA hd.gtCB (own_nb _) ((Jvm.Free.Fl.Mag64.fin (Jvm.Free.Fl.i2d_mag (p4 &&& (255 : Int32))) (by decide)).noNaN) (own_max (Jvm.Free.Fl.i2d_fin _) .l) (own_nb _) ((Jvm.Free.Fl.Mag64.fin (Jvm.Free.Fl.i2d_mag (((p4.toUInt32 >>> ((8 : Int32) &&& 31).toUInt32).toInt32) &&& (255 : Int32))) (by decide)).noNaN) (own_max (Jvm.Free.Fl.i2d_fin _) .l) (own_nb _) ((Jvm.Free.Fl.Mag64.fin (Jvm.Free.Fl.i2d_mag (((p4.toUInt32 >>> ((16 : Int32) &&& 31).toUInt32).toInt32) &&& (255 : Int32))) (by decide)).noNaN) (own_max (Jvm.Free.Fl.i2d_fin _) .l) (own_nb _) ((Jvm.Free.Fl.Mag64.fin (Jvm.Free.Fl.i2d_mag (((p4.toUInt32 >>> ((24 : Int32) &&& 31).toUInt32).toInt32) &&& (255 : Int32))) (by decide)).noNaN) (own_max (Jvm.Free.Fl.i2d_fin _) .l) ne_b192_b266 ne_b196_b266 g_b266) hZ (hw _ (List.mem_of_getElem? (i := 7) rfl)) (hw _ (List.mem_of_getElem? (i := 4) rfl)) (by decide) (by decide)) (g := (mkF m 180 #[.val (.int p0), .val (.int p1), .val (.int p2), .val (.int p3), .val (.int p4), .val (.int p5), .val (.int (4 : Int32)), .val (.double dA), .second, .val (.double dB), .second, .val (.double dC), .second, .val (.ref b192), .val (.ref b196), .val (.double dC), .second, .unset, .unset, .unset, .unset, .unset] [(.ref b196), (.ref b192), (.ref b266), (.ref b266)])) rfl (by rw [hml]; rfl) (Steps.refl _) (a := b266) (argsL := [(.ref b192), (.ref b196)]) (rest := [(.ref b266)]) (lenOf pd0_0 rfl) rfl (by show 2 * 0 + _ ≤ _; exact Nat.le_of_eq rfl) (hb hby at_180) (fun _ _ => ⟨rfl, e266, (by decide : 3 + 2 ≤ _), (by decide : 10 + 8 ≤ _)⟩)
      dsimp only [Pt.U, Pt.locs, Pt.cells, Pt.slots] at X275 l275 y275 z275 st275 hQ275
      subst l275 y275 z275
      obtain ⟨x0_275, x1_275, rfl, N275q, K275, sz275_x0, sz275_x1, ne275_x0_x1, f276, f277, f278, f279, f280, f281, f282⟩ := hQ275
      have n283 := Fr.app n265 N275q
      have ne_b192_x0_275 : b192 ≠ x0_275 := Nat.ne_of_lt (Nat.lt_of_lt_of_le f267.lt sz275_x0)
      have ne_b196_x0_275 : b196 ≠ x0_275 := Nat.ne_of_lt (Nat.lt_of_lt_of_le f269.lt sz275_x0)
      have ne_b266_x0_275 : b266 ≠ x0_275 := Nat.ne_of_lt (Nat.lt_of_lt_of_le A266.lt sz275_x0)
      have g_x0_275 : n0 ≤ x0_275 := Nat.le_trans z271 sz275_x0
      have sz_x0_275 : h0.size ≤ x0_275 := Nat.le_trans k272.1 sz275_x0
      have ne_b192_x1_275 : b192 ≠ x1_275 := Nat.ne_of_lt (Nat.lt_of_lt_of_le f267.lt sz275_x1)
      have ne_b196_x1_275 : b196 ≠ x1_275 := Nat.ne_of_lt (Nat.lt_of_lt_of_le f269.lt sz275_x1)
      have ne_b266_x1_275 : b266 ≠ x1_275 := Nat.ne_of_lt (Nat.lt_of_lt_of_le A266.lt sz275_x1)
      have g_x1_275 : n0 ≤ x1_275 := Nat.le_trans z271 sz275_x1
      have sz_x1_275 : h0.size ≤ x1_275 := Nat.le_trans k272.1 sz275_x1
      have f284 := f267.keep K275
      have f285 := f268.keep K275 (ninS ne_b192_b266 nin0)
      have f286 := f269.keep K275
      have f287 := f270.keep K275 (ninS ne_b196_b266 nin0)
      have f288 := A266.keep K275
      have z289 := Nat.le_trans z271 K275.1
      have k290 := k272.trans K275 (allS (Or.inr sz_b266) all0)
      refine own_tr (T' := T275) (g' := (mkF m 183 #[.val (.int p0), .val (.int p1), .val (.int p2), .val (.int p3), .val (.int p4), .val (.int p5), .val (.int (4 : Int32)), .val (.double dA), .second, .val (.double dB), .second, .val (.double dC), .second, .val (.ref b192), .val (.ref b196), .val (.double dC), .second, .unset, .unset, .unset, .unset, .unset] [(.ref b266)])) st275 ?_
      refine own_st (T' := T275) (g' := (mkF m 187 #[.val (.int p0), .val (.int p1), .val (.int p2), .val (.int p3), .val (.int p4), .val (.int p5), .val (.int (4 : Int32)), .val (.double dA), .second, .val (.double dB), .second, .val (.double dC), .second, .val (.ref b192), .val (.ref b196), .val (.double dC), .second, .val (.ref b266), .unset, .unset, .unset, .unset] [(.ref b266)])) (fun t k => ?_) ?_
      · show Steps p.tables e below (T275.setTop (mkF m 183 #[.val (.int p0), .val (.int p1), .val (.int p2), .val (.int p3), .val (.int p4), .val (.int p5), .val (.int (4 : Int32)), .val (.double dA), .second, .val (.double dB), .second, .val (.double dC), .second, .val (.ref b192), .val (.ref b196), .val (.double dC), .second, .unset, .unset, .unset, .unset, .unset] [(.ref b266)])) t
        refine XS.astore X275.here hx rfl (hb hby at_183) rfl rfl (l' := #[.val (.int p0), .val (.int p1), .val (.int p2), .val (.int p3), .val (.int p4), .val (.int p5), .val (.int (4 : Int32)), .val (.double dA), .second, .val (.double dB), .second, .val (.double dC), .second, .val (.ref b192), .val (.ref b196), .val (.double dC), .second, .val (.ref b266), .unset, .unset, .unset, .unset]) rfl ?_
        refine XS.aload X275.here hx rfl (hb hby at_185) rfl rfl ?_
        exact k
      obtain ⟨cq291, kq291, qa291, qb291, qc291⟩ := isOf hZ (rfl : T275.heap = T275.heap) f276
      obtain ⟨_, _, ⟨T291, L291, k291, n291⟩, -, X291, ⟨Lc291, hQ291, l291, y291, z291⟩, st291⟩ := X275.virtualBack hx (y := (⟨"com/example/corewright/corewright/equilibrium/Strategy", "getMaxValue", "()D"⟩ : MethodName)) (z := (⟨"com/example/corewright/corewright/equilibrium/Strategy", "getMaxValue", "()D"⟩ : MethodName)) hown (mvT hZ (hw _ (List.mem_of_getElem? (i := 33) rfl))) (mvT hZ (hw _ (List.mem_of_getElem? (i := 34) rfl))) (notFace_of_selects (args := #[]) (mvT hZ (hw _ (List.mem_of_getElem? (i := 36) rfl)))) (mvT hZ (hw _ (List.mem_of_getElem? (i := 36) rfl))) (mvT hZ (hw _ (List.mem_of_getElem? (i := 35) rfl))) (by decide) (backOf (W := 0) (rmg4 l Z ar hw [] b266 x0_275 k192 ((0 : UInt64)) dA dB dC T275.heap n0 z289 f276 f277 f279) hZ (hw _ (List.mem_of_getElem? (i := 37) rfl)) (hw _ (List.mem_of_getElem? (i := 4) rfl)) (by decide) (by decide)) qa291 qc291 (g := (mkF m 187 #[.val (.int p0), .val (.int p1), .val (.int p2), .val (.int p3), .val (.int p4), .val (.int p5), .val (.int (4 : Int32)), .val (.double dA), .second, .val (.double dB), .second, .val (.double dC), .second, .val (.ref b192), .val (.ref b196), .val (.double dC), .second, .val (.ref b266), .unset, .unset, .unset, .unset] [(.ref b266)])) rfl (by rw [hml]; rfl) (Steps.refl _) (argsL := []) (rest := []) (lenOf pd0_1 rfl) rfl (by show 2 * 0 + _ ≤ _; exact Nat.le_of_eq rfl) (hb hby at_187) (fun _ _ => ⟨rfl, (rfl : T275.heap = T275.heap), (by decide : 5 + 0 ≤ _), (by decide : 18 + 0 ≤ _)⟩)
      dsimp only [Pt.U, Pt.locs, Pt.cells, Pt.slots] at X291 l291 y291 z291 st291 hQ291
      subst l291 y291 z291
      obtain ⟨rfl, N291q, e291⟩ := hQ291
      have n292 := Fr.app n283 N291q
      refine own_tr (T' := T291) (g' := (mkF m 190 #[.val (.int p0), .val (.int p1), .val (.int p2), .val (.int p3), .val (.int p4), .val (.int p5), .val (.int (4 : Int32)), .val (.double dA), .second, .val (.double dB), .second, .val (.double dC), .second, .val (.ref b192), .val (.ref b196), .val (.double dC), .second, .val (.ref b266), .unset, .unset, .unset, .unset] [(.double dC)])) st291 ?_
      refine own_st (T' := T291) (g' := (mkF m 210 #[.val (.int p0), .val (.int p1), .val (.int p2), .val (.int p3), .val (.int p4), .val (.int p5), .val (.int (4 : Int32)), .val (.double dA), .second, .val (.double dB), .second, .val (.double dC), .second, .val (.ref b192), .val (.ref b196), .val (.double dC), .second, .val (.ref b266), .val (.double dC), .second, .unset, .unset] [(.double (FP.dadd dC (FP.i2d ((p5 &&& (1023 : Int32)) + (1 : Int32))))), (.int (3 : Int32)), (.ref b192)])) (fun t k => ?_) ?_
      · show Steps p.tables e below (T291.setTop (mkF m 190 #[.val (.int p0), .val (.int p1), .val (.int p2), .val (.int p3), .val (.int p4), .val (.int p5), .val (.int (4 : Int32)), .val (.double dA), .second, .val (.double dB), .second, .val (.double dC), .second, .val (.ref b192), .val (.ref b196), .val (.double dC), .second, .val (.ref b266), .unset, .unset, .unset, .unset] [(.double dC)])) t
        refine XS.dstore X291.here hx rfl (hb hby at_190) rfl (l' := #[.val (.int p0), .val (.int p1), .val (.int p2), .val (.int p3), .val (.int p4), .val (.int p5), .val (.int (4 : Int32)), .val (.double dA), .second, .val (.double dB), .second, .val (.double dC), .second, .val (.ref b192), .val (.ref b196), .val (.double dC), .second, .val (.ref b266), .val (.double dC), .second, .unset, .unset]) rfl ?_
        refine XS.aload X291.here hx rfl (hb hby at_192) rfl rfl ?_
        refine XS.iload X291.here hx rfl (hb hby at_194) rfl ?_
        refine XS.iconst X291.here hx rfl (hb hby at_196) ?_
        refine XS.isub X291.here hx rfl (hb hby at_197) rfl ?_
        refine XS.dload X291.here hx rfl (hb hby at_198) rfl ?_
        refine XS.iload X291.here hx rfl (hb hby at_200) rfl ?_
        refine XS.sipush X291.here hx rfl (hb hby at_202) ?_
        show Steps p.tables e below (T291.setTop (mkF m 205 #[.val (.int p0), .val (.int p1), .val (.int p2), .val (.int p3), .val (.int p4), .val (.int p5), .val (.int (4 : Int32)), .val (.double dA), .second, .val (.double dB), .second, .val (.double dC), .second, .val (.ref b192), .val (.ref b196), .val (.double dC), .second, .val (.ref b266), .val (.double dC), .second, .unset, .unset] [(.int (1023 : Int32)), (.int p5), (.double dC), (.int (3 : Int32)), (.ref b192)])) t
        refine XS.iand X291.here hx rfl (hb hby at_205) rfl ?_
        refine XS.iconst X291.here hx rfl (hb hby at_206) ?_
        refine XS.iadd X291.here hx rfl (hb hby at_207) rfl ?_
        refine XS.i2dS X291.here hx rfl (hb hby at_208) rfl rfl ?_
        refine XS.daddS X291.here hx rfl (hb hby at_209) rfl (own_nd hd.dyC _) rfl ?_
        exact k
      obtain ⟨c293, r293a, r293b, r293c, r293d, r293e, r293f⟩ := id f285
      have i293 : ¬ ((3 : Int32) < 0 ∨ c293.slots.size ≤ ((3 : Int32)).toNatClampNeg) := inb_of r293c ⟨by decide, by decide⟩
      obtain ⟨T293, h293, X293, e293, W293, st293⟩ := stD X291 hx hZ e291 r293a (j := (3 : Int32)) i293 (g := (mkF m 210 #[.val (.int p0), .val (.int p1), .val (.int p2), .val (.int p3), .val (.int p4), .val (.int p5), .val (.int (4 : Int32)), .val (.double dA), .second, .val (.double dB), .second, .val (.double dC), .second, .val (.ref b192), .val (.ref b196), .val (.double dC), .second, .val (.ref b266), .val (.double dC), .second, .unset, .unset] [(.double (FP.dadd dC (FP.i2d ((p5 &&& (1023 : Int32)) + (1 : Int32))))), (.int (3 : Int32)), (.ref b192)])) rfl rfl (hb hby at_210)
      have v294 := Arv.set r293a r293b r293c r293d r293e r293f rfl W293 3 rfl (Nat.le_of_ble_eq_true rfl)
      have f295 := f284.wr W293
      have f296 := f286.wr W293
      have f297 := f287.other W293 (Ne.symm ne_b192_b196)
      have f298 := f276.wr W293
      have f299 := f277.other W293 (Or.inl (Ne.symm ne_b192_b266))
      have f300 := f278.other W293 (Or.inl (Ne.symm ne_b192_b266))
      have f301 := f279.other W293 (Ne.symm ne_b192_x0_275)
      have f302 := f280.wr W293
      have f303 := f281.other W293 (Ne.symm ne_b192_x1_275)
      have f304 := f282.wr W293
      have z305 := Nat.le_trans z289 (Keep.of_wr W293).1
      have k306 := k290.wr W293 (Or.inr sz_b192)
      have n307 := Fr.snoc X293 n292 g_b192
      refine own_st (T' := T293) (g' := (mkF m 211 #[.val (.int p0), .val (.int p1), .val (.int p2), .val (.int p3), .val (.int p4), .val (.int p5), .val (.int (4 : Int32)), .val (.double dA), .second, .val (.double dB), .second, .val (.double dC), .second, .val (.ref b192), .val (.ref b196), .val (.double dC), .second, .val (.ref b266), .val (.double dC), .second, .unset, .unset] [])) st293 ?_
      refine own_st (T' := T293) (g' := (mkF m 213 #[.val (.int p0), .val (.int p1), .val (.int p2), .val (.int p3), .val (.int p4), .val (.int p5), .val (.int (4 : Int32)), .val (.double dA), .second, .val (.double dB), .second, .val (.double dC), .second, .val (.ref b192), .val (.ref b196), .val (.double dC), .second, .val (.ref b266), .val (.double dC), .second, .unset, .unset] [(.ref b266)])) (fun t k => ?_) ?_
      · show Steps p.tables e below (T293.setTop (mkF m 211 #[.val (.int p0), .val (.int p1), .val (.int p2), .val (.int p3), .val (.int p4), .val (.int p5), .val (.int (4 : Int32)), .val (.double dA), .second, .val (.double dB), .second, .val (.double dC), .second, .val (.ref b192), .val (.ref b196), .val (.double dC), .second, .val (.ref b266), .val (.double dC), .second, .unset, .unset] [])) t
        refine XS.aload X293.here hx rfl (hb hby at_211) rfl rfl ?_
        exact k
      obtain ⟨cq308, kq308, qa308, qb308, qc308⟩ := isOf hZ e293 f298
      obtain ⟨_, _, ⟨T308, L308, k308, n308⟩, -, X308, ⟨Lc308, hQ308, l308, y308, z308⟩, st308⟩ := X293.virtualBack hx (y := (⟨"com/example/corewright/corewright/equilibrium/Strategy", "getMaxValue", "()D"⟩ : MethodName)) (z := (⟨"com/example/corewright/corewright/equilibrium/Strategy", "getMaxValue", "()D"⟩ : MethodName)) hown (mvT hZ (hw _ (List.mem_of_getElem? (i := 33) rfl))) (mvT hZ (hw _ (List.mem_of_getElem? (i := 34) rfl))) (notFace_of_selects (args := #[]) (mvT hZ (hw _ (List.mem_of_getElem? (i := 36) rfl)))) (mvT hZ (hw _ (List.mem_of_getElem? (i := 36) rfl))) (mvT hZ (hw _ (List.mem_of_getElem? (i := 35) rfl))) (by decide) (backOf (W := 0) (rmg4 l Z ar hw [] b266 x0_275 k192 ((0 : UInt64)) dA dB dC h293 n0 z305 f298 f299 f301) hZ (hw _ (List.mem_of_getElem? (i := 37) rfl)) (hw _ (List.mem_of_getElem? (i := 4) rfl)) (by decide) (by decide)) qa308 qc308 (g := (mkF m 213 #[.val (.int p0), .val (.int p1), .val (.int p2), .val (.int p3), .val (.int p4), .val (.int p5), .val (.int (4 : Int32)), .val (.double dA), .second, .val (.double dB), .second, .val (.double dC), .second, .val (.ref b192), .val (.ref b196), .val (.double dC), .second, .val (.ref b266), .val (.double dC), .second, .unset, .unset] [(.ref b266)])) rfl (by rw [hml]; rfl) (Steps.refl _) (argsL := []) (rest := []) (lenOf pd0_1 rfl) rfl (by show 2 * 0 + _ ≤ _; exact Nat.le_of_eq rfl) (hb hby at_213) (fun _ _ => ⟨rfl, e293, (by decide : 5 + 0 ≤ _), (by decide : 18 + 0 ≤ _)⟩)
      dsimp only [Pt.U, Pt.locs, Pt.cells, Pt.slots] at X308 l308 y308 z308 st308 hQ308
      subst l308 y308 z308
      obtain ⟨rfl, N308q, e308⟩ := hQ308
      have n309 := Fr.app n307 N308q
      refine own_tr (T' := T308) (g' := (mkF m 216 #[.val (.int p0), .val (.int p1), .val (.int p2), .val (.int p3), .val (.int p4), .val (.int p5), .val (.int (4 : Int32)), .val (.double dA), .second, .val (.double dB), .second, .val (.double dC), .second, .val (.ref b192), .val (.ref b196), .val (.double dC), .second, .val (.ref b266), .val (.double dC), .second, .unset, .unset] [(.double dC)])) st308 ?_
      refine own_st (T' := T308) (g' := (mkF m 239 #[.val (.int p0), .val (.int p1), .val (.int p2), .val (.int p3), .val (.int p4), .val (.int p5), .val (.int (4 : Int32)), .val (.double dA), .second, .val (.double dB), .second, .val (.double dC), .second, .val (.ref b192), .val (.ref b196), .val (.double dC), .second, .val (.ref b266), .val (.double dC), .second, .val (.double dC), .second] [(.int (1 : Int32))])) (fun t k => ?_) ?_
      · show Steps p.tables e below (T308.setTop (mkF m 216 #[.val (.int p0), .val (.int p1), .val (.int p2), .val (.int p3), .val (.int p4), .val (.int p5), .val (.int (4 : Int32)), .val (.double dA), .second, .val (.double dB), .second, .val (.double dC), .second, .val (.ref b192), .val (.ref b196), .val (.double dC), .second, .val (.ref b266), .val (.double dC), .second, .unset, .unset] [(.double dC)])) t
        refine XS.dstore X308.here hx rfl (hb hby at_216) rfl (l' := #[.val (.int p0), .val (.int p1), .val (.int p2), .val (.int p3), .val (.int p4), .val (.int p5), .val (.int (4 : Int32)), .val (.double dA), .second, .val (.double dB), .second, .val (.double dC), .second, .val (.ref b192), .val (.ref b196), .val (.double dC), .second, .val (.ref b266), .val (.double dC), .second, .val (.double dC), .second]) rfl ?_
        refine XS.dload X308.here hx rfl (hb hby at_218) rfl ?_
        refine XS.dload X308.here hx rfl (hb hby at_220) rfl ?_
        refine XS.dcmpS X308.here hx rfl (hb hby at_222) rfl (dcmpV_self hd.nnC .l) ?_
        refine XS.ifNo X308.here hx rfl (hb hby at_223) rfl (by decide) ?_
        refine XS.dload X308.here hx rfl (hb hby at_226) rfl ?_
        refine XS.dload X308.here hx rfl (hb hby at_228) rfl ?_
        refine XS.dcmpS X308.here hx rfl (hb hby at_230) rfl (dcmpV_self hd.nnC .l) ?_
        show Steps p.tables e below (T308.setTop (mkF m 231 #[.val (.int p0), .val (.int p1), .val (.int p2), .val (.int p3), .val (.int p4), .val (.int p5), .val (.int (4 : Int32)), .val (.double dA), .second, .val (.double dB), .second, .val (.double dC), .second, .val (.ref b192), .val (.ref b196), .val (.double dC), .second, .val (.ref b266), .val (.double dC), .second, .val (.double dC), .second] [(.int (0 : Int32))])) t
        refine XS.ifNo X308.here hx rfl (hb hby at_231) rfl (by decide) ?_
        refine XS.iconst X308.here hx rfl (hb hby at_234) ?_
        refine XS.goto X308.here hx rfl (pc0 := 235) (pc' := 239) rfl (hb hby at_235) (by decide) (by decide) ?_
        exact k
      refine own_retZ X308 hx hlk Bd.returns (hb hby at_239) rfl (by decide) (by decide) ?_
      show Q0 Z p0 p1 p2 p3 p4 p5 h0 n0 (some (.int (1 : Int32))) T308.heap _
      rw [(e308 : T308.heap = h293)]
      exact ⟨rfl, n309⟩
    refine own_st (T' := s₁) (g' := (mkF m 46 #[.val (.int p0), .val (.int p1), .val (.int p2), .val (.int p3), .val (.int p4), .val (.int p5), .val (.int (4 : Int32)), .val (.double (FP.i2d ((p1 &&& (1023 : Int32)) + (1 : Int32)))), .second, .val (.double (FP.dadd (FP.i2d ((p1 &&& (1023 : Int32)) + (1 : Int32))) (FP.i2d ((p2 &&& (1023 : Int32)) + (1 : Int32))))), .second, .val (.double (FP.dadd (FP.dadd (FP.i2d ((p1 &&& (1023 : Int32)) + (1 : Int32))) (FP.i2d ((p2 &&& (1023 : Int32)) + (1 : Int32)))) (FP.i2d ((p3 &&& (1023 : Int32)) + (1 : Int32))))), .second, .unset, .unset, .unset, .unset, .unset, .unset, .unset, .unset, .unset] [])) (fun t k => ?_) ?_
    · show Steps p.tables e below (s₁.setTop (mkF m 10 #[.val (.int p0), .val (.int p1), .val (.int p2), .val (.int p3), .val (.int p4), .val (.int p5), .val (.int (4 : Int32)), .unset, .unset, .unset, .unset, .unset, .unset, .unset, .unset, .unset, .unset, .unset, .unset, .unset, .unset, .unset] [])) t
      refine XS.iloadN X0.here hx rfl (hb hby at_10) rfl ?_
      refine XS.sipush X0.here hx rfl (hb hby at_11) ?_
      refine XS.iand X0.here hx rfl (hb hby at_14) rfl ?_
      refine XS.iconst X0.here hx rfl (hb hby at_15) ?_
      refine XS.iadd X0.here hx rfl (hb hby at_16) rfl ?_
      refine XS.i2dS X0.here hx rfl (hb hby at_17) rfl rfl ?_
      refine XS.dstore X0.here hx rfl (hb hby at_18) rfl (l' := #[.val (.int p0), .val (.int p1), .val (.int p2), .val (.int p3), .val (.int p4), .val (.int p5), .val (.int (4 : Int32)), .val (.double (FP.i2d ((p1 &&& (1023 : Int32)) + (1 : Int32)))), .second, .unset, .unset, .unset, .unset, .unset, .unset, .unset, .unset, .unset, .unset, .unset, .unset, .unset]) rfl ?_
      refine XS.dload X0.here hx rfl (hb hby at_20) rfl ?_
      show Steps p.tables e below (s₁.setTop (mkF m 22 #[.val (.int p0), .val (.int p1), .val (.int p2), .val (.int p3), .val (.int p4), .val (.int p5), .val (.int (4 : Int32)), .val (.double (FP.i2d ((p1 &&& (1023 : Int32)) + (1 : Int32)))), .second, .unset, .unset, .unset, .unset, .unset, .unset, .unset, .unset, .unset, .unset, .unset, .unset, .unset] [(.double (FP.i2d ((p1 &&& (1023 : Int32)) + (1 : Int32))))])) t
      refine XS.iloadN X0.here hx rfl (hb hby at_22) rfl ?_
      refine XS.sipush X0.here hx rfl (hb hby at_23) ?_
      refine XS.iand X0.here hx rfl (hb hby at_26) rfl ?_
      refine XS.iconst X0.here hx rfl (hb hby at_27) ?_
      refine XS.iadd X0.here hx rfl (hb hby at_28) rfl ?_
      refine XS.i2dS X0.here hx rfl (hb hby at_29) rfl rfl ?_
      refine XS.daddS X0.here hx rfl (hb hby at_30) rfl (own_hT p1 p2 0).nnB rfl ?_
      refine XS.dstore X0.here hx rfl (hb hby at_31) rfl (l' := #[.val (.int p0), .val (.int p1), .val (.int p2), .val (.int p3), .val (.int p4), .val (.int p5), .val (.int (4 : Int32)), .val (.double (FP.i2d ((p1 &&& (1023 : Int32)) + (1 : Int32)))), .second, .val (.double (FP.dadd (FP.i2d ((p1 &&& (1023 : Int32)) + (1 : Int32))) (FP.i2d ((p2 &&& (1023 : Int32)) + (1 : Int32))))), .second, .unset, .unset, .unset, .unset, .unset, .unset, .unset, .unset, .unset, .unset, .unset]) rfl ?_
      show Steps p.tables e below (s₁.setTop (mkF m 33 #[.val (.int p0), .val (.int p1), .val (.int p2), .val (.int p3), .val (.int p4), .val (.int p5), .val (.int (4 : Int32)), .val (.double (FP.i2d ((p1 &&& (1023 : Int32)) + (1 : Int32)))), .second, .val (.double (FP.dadd (FP.i2d ((p1 &&& (1023 : Int32)) + (1 : Int32))) (FP.i2d ((p2 &&& (1023 : Int32)) + (1 : Int32))))), .second, .unset, .unset, .unset, .unset, .unset, .unset, .unset, .unset, .unset, .unset, .unset] [])) t
      refine XS.dload X0.here hx rfl (hb hby at_33) rfl ?_
      refine XS.iloadN X0.here hx rfl (hb hby at_35) rfl ?_
      refine XS.sipush X0.here hx rfl (hb hby at_36) ?_
      refine XS.iand X0.here hx rfl (hb hby at_39) rfl ?_
      refine XS.iconst X0.here hx rfl (hb hby at_40) ?_
      refine XS.iadd X0.here hx rfl (hb hby at_41) rfl ?_
      refine XS.i2dS X0.here hx rfl (hb hby at_42) rfl rfl ?_
      refine XS.daddS X0.here hx rfl (hb hby at_43) rfl (own_hT p1 p2 p3).nnC rfl ?_
      show Steps p.tables e below (s₁.setTop (mkF m 44 #[.val (.int p0), .val (.int p1), .val (.int p2), .val (.int p3), .val (.int p4), .val (.int p5), .val (.int (4 : Int32)), .val (.double (FP.i2d ((p1 &&& (1023 : Int32)) + (1 : Int32)))), .second, .val (.double (FP.dadd (FP.i2d ((p1 &&& (1023 : Int32)) + (1 : Int32))) (FP.i2d ((p2 &&& (1023 : Int32)) + (1 : Int32))))), .second, .unset, .unset, .unset, .unset, .unset, .unset, .unset, .unset, .unset, .unset, .unset] [(.double (FP.dadd (FP.dadd (FP.i2d ((p1 &&& (1023 : Int32)) + (1 : Int32))) (FP.i2d ((p2 &&& (1023 : Int32)) + (1 : Int32)))) (FP.i2d ((p3 &&& (1023 : Int32)) + (1 : Int32)))))])) t
      refine XS.dstore X0.here hx rfl (hb hby at_44) rfl (l' := #[.val (.int p0), .val (.int p1), .val (.int p2), .val (.int p3), .val (.int p4), .val (.int p5), .val (.int (4 : Int32)), .val (.double (FP.i2d ((p1 &&& (1023 : Int32)) + (1 : Int32)))), .second, .val (.double (FP.dadd (FP.i2d ((p1 &&& (1023 : Int32)) + (1 : Int32))) (FP.i2d ((p2 &&& (1023 : Int32)) + (1 : Int32))))), .second, .val (.double (FP.dadd (FP.dadd (FP.i2d ((p1 &&& (1023 : Int32)) + (1 : Int32))) (FP.i2d ((p2 &&& (1023 : Int32)) + (1 : Int32)))) (FP.i2d ((p3 &&& (1023 : Int32)) + (1 : Int32))))), .second, .unset, .unset, .unset, .unset, .unset, .unset, .unset, .unset, .unset]) rfl ?_
      exact k
    exact hJ46 _ _ _ (own_hT p1 p2 p3)
set_option maxRecDepth 65536 in
set_option maxHeartbeats 40000000 in
theorem comes_1 {Post : Tables → Env → Array Value → State → Outcome → State → Prop} (hpost : ∀ tb e args s v u, (limb_1_1.after args s (.returned v) u = true ∧ limb_1_2.after args s (.returned v) u = true ∧ True) → FrameEnd s (.returned v) u (Jvm.fieldLocs frame_1_writes args s ++ Jvm.arrayLocs frame_1_arrays args s ++ Jvm.staticLocs frame_1_statics s) 24 128 → Post tb e args s (.returned v) u) :
    ArmFor flags0 classFile x code maxLocals ret World_1 tables_1 room_1 Calls_1 rest_1 Pre_1 Post := by
  intro l hfl _ _ p e ha hc hk s m args below hf hA hF happ hP
  obtain ⟨hcalls, hrest, hpre⟩ := hP
  obtain ⟨-, -, -, hnamed, -, -, -, hat⟩ := (Spec.applies_iff hf).mp happ
  obtain ⟨hg, hn⟩ := and_e (Cond.before_iff.mp (show (Jvm.Cond.and given_1 narrow_1).before args s = true from hpre))
  obtain ⟨g0, gg0⟩ := and_e hg
  obtain ⟨g1, gg1⟩ := and_e gg0
  obtain ⟨g2, gg2⟩ := and_e gg1
  obtain ⟨g3, gg3⟩ := and_e gg2
  obtain ⟨g4, gg4⟩ := and_e gg3
  obtain ⟨g5, gg5⟩ := and_e gg4
  obtain ⟨w0, w1, w2, w3, w4, w5, rfl⟩ : ∃ w0 w1 w2 w3 w4 w5 : Value, args = #[w0, w1, w2, w3, w4, w5] := by
    have hs : args.size = 6 := by simpa [Cond.value, given_1] using g0
    obtain ⟨L⟩ := args
    match L, hs with
    | [w0, w1, w2, w3, w4, w5], _ => exact ⟨w0, w1, w2, w3, w4, w5, rfl⟩
  have hw := fun d (hd : d ∈ tables_1) => atoms_spec (ws := Jvm.Cond.code x code maxLocals ret :: tables_1) hat d (List.mem_cons_of_mem _ hd)
  have hfit : Fit s := fun {y c} hc i hi => by
    obtain ⟨ha, rfl⟩ := Array.getElem?_eq_some_iff.mp hc
    have q := List.all_eq_true.mp ((Array.all_eq_true_iff_forall_mem.mp hF) _ (Array.getElem_mem ha)) i (List.mem_range.mpr hi)
    simpa [Array.getElem?_eq_getElem hi] using q
  obtain ⟨p0, ei0⟩ := is_v g1
  obtain rfl : w0 = (.int p0) := Option.some.inj ei0
  obtain ⟨p1, ei1⟩ := is_v g2
  obtain rfl : w1 = (.int p1) := Option.some.inj ei1
  obtain ⟨p2, ei2⟩ := is_v g3
  obtain rfl : w2 = (.int p2) := Option.some.inj ei2
  obtain ⟨p3, ei3⟩ := is_v g4
  obtain rfl : w3 = (.int p3) := Option.some.inj ei3
  obtain ⟨p4, ei4⟩ := is_v g5
  obtain rfl : w4 = (.int p4) := Option.some.inj ei4
  obtain ⟨p5, ei5⟩ := is_v gg5
  obtain rfl : w5 = (.int p5) := Option.some.inj ei5
  obtain ⟨n, o, h1, h2, h3, _, L, rfl, ⟨rfl, N⟩, hq⟩ := rm0 l s _ hw tables_1 p0 p1 p2 p3 p4 p5 s.heap s.heap.size (Nat.le_refl _) p e ha hc hk s m _ below hf ((Spec.applies_iff_loose hf).mp happ).1 ⟨rfl, State.Warmed39.refl s, rfl⟩ trivial
  refine ⟨n, _, h1, h2, h3, hpost _ _ _ _ _ _ ⟨Cond.after_iff.mpr rfl, Cond.after_iff.mpr (eq_i res_at (Term.int_eval (1)) rfl), trivial⟩ ⟨hq.1, hq.2.1, (hq.2.2.sift fun y hy => Or.inr (N y hy)).mono (by decide) (by decide)⟩⟩
theorem main_1_1 : Claimed_1_1 := comes_1 fun _ _ _ _ _ _ h hF => ⟨h.1, hF⟩
theorem main_1_2 : Claimed_1_2 := comes_1 fun _ _ _ _ _ _ h hF => ⟨h.2.1, hF⟩
end Jvm.Pilot.@@N@@
namespace Jvm.Pilot.@@N@@
open Jvm Jvm.ClassFile Sem Op Lib Jvm.Free Jvm.Stand Jvm.Pilot.@@N@@.Jvm.D
/-! MADE BY PROGRAM (witnessworld.py) out of the Statement's table words and the real class files: 17 classes; the members and pool entries that the words name. The judged class is class 1, her method 1. -/
namespace start1
open Jvm.ClassFile
def u (s : String) : CpInfo := .utf8 (stringToUtf16 s)
/-- a pool by its gaps: so many unusable entries, then the entry; so many at the end -/
def gap : Nat → List CpInfo → List CpInfo
  | 0, r => r
  | n + 1, r => .unusable :: gap n r
def poolList (es : List (Nat × CpInfo)) (last : Nat) : List CpInfo := es.foldr (fun e r => gap e.1 (e.2 :: r)) (gap last [])
def pool (es : List (Nat × CpInfo)) (last : Nat) : Array CpInfo := ⟨poolList es last⟩
def fileOf (pool : Array CpInfo) (this : Nat) (attrs : Array Attribute := #[]) (ms : Array MethodInfo := #[]) (fl : Nat := 33) (sup : Nat := 0) (ifs : Array Nat := #[]) (fds : Array FieldInfo := #[]) : ClassFile where
  minorVersion := 0
  majorVersion := 65
  constantPool := pool
  accessFlags := fl
  thisClass := this
  superClass := sup
  interfaces := ifs
  fields := fds
  methods := ms
  attributes := attrs
def plain (name : String) (sup : Option ClassId) : Class where
  name := name
  kind := .ordinary
  loader := none
  accessFlags := 33
  super := sup
  interfaces := #[]
  cf := none
  fields := #[]
  methods := #[]
  instanceTypes := #[]
  staticTypes := #[]
  resolved := #[]
  callSites := []
  init := .initialized
  statics := none
  mirror := none

def pool0 : Array CpInfo := pool [(5, u "<init>"), (0, u "()V"), (1, .class_ 10), (1, u "java/lang/Object"), (85, u "clone"), (0, u "()Ljava/lang/Object;")] 26

def k0c0 : Code := { maxStack := 0, maxLocals := 1, code := object_method_1_code, exceptionTable := #[], attributes := #[] }
def k0m0 : Method := { name := "<init>", desc := "()V", sig := { parameters := [], returnType := none }, accessFlags := 1, code := some k0c0 }
def k0m1 : Method := { name := "clone", desc := "()Ljava/lang/Object;", sig := { parameters := [], returnType := some (.object "java/lang/Object") }, accessFlags := 260, code := none }
/-- java/lang/Object -/
def k0 : Class := { plain "java/lang/Object" none with
  accessFlags := 33
  interfaces := #[]
  cf := some (fileOf pool0 8 #[] #[{ accessFlags := 1, nameIndex := 5, descriptorIndex := 6, attributes := #[] }, { accessFlags := 260, nameIndex := 96, descriptorIndex := 97, attributes := #[] }] 33 0 #[] #[])
  fields := #[]
  methods := #[k0m0, k0m1]
  instanceTypes := #[]
  staticTypes := #[]
  resolved := Array.replicate 124 none
  statics := none }

def pool1 : Array CpInfo := pool [(2, .class_ 4), (1, u "java/lang/Object"), (0, u "<init>"), (0, u "()V"), (0, .integer 2147483647), (0, .class_ 9), (0, u "com/example/corewright/corewright/equilibrium/Strategy"), (0, .methodref 8 11), (0, .nameAndType 5 12), (0, u "([D[D)V"), (0, .methodref 8 14), (0, .nameAndType 15 16), (0, u "getMaxValue"), (0, u "()D"), (0, .class_ 18), (0, u "com/example/corewright/corewright/equilibrium/StrategyGetMaxValuePinLaw"), (2, u "law"), (0, u "(IIIIII)Z")] 5

def k1m0 : Method := { name := "<init>", desc := "()V", sig := { parameters := [], returnType := none }, accessFlags := 1, code := none }
def k1c1 : Code := { maxStack := 6, maxLocals := 22, code := code, exceptionTable := #[], attributes := #[] }
def k1m1 : Method := { name := "law", desc := "(IIIIII)Z", sig := { parameters := [.int, .int, .int, .int, .int, .int], returnType := some .boolean }, accessFlags := 9, code := some k1c1 }
/-- com/example/corewright/corewright/equilibrium/StrategyGetMaxValuePinLaw -/
def k1 : Class := { plain "com/example/corewright/corewright/equilibrium/StrategyGetMaxValuePinLaw" (some 0) with
  accessFlags := 49
  interfaces := #[]
  cf := some (fileOf pool1 17 #[] #[{ accessFlags := 1, nameIndex := 5, descriptorIndex := 6, attributes := #[] }, { accessFlags := 9, nameIndex := 21, descriptorIndex := 22, attributes := #[] }] 49 2 #[] #[])
  fields := #[]
  methods := #[k1m0, k1m1]
  instanceTypes := #[]
  staticTypes := #[]
  resolved := Array.replicate 28 none
  statics := none }

def pool2 : Array CpInfo := pool [(2, .class_ 4), (1, u "com/example/corewright/corewright/equilibrium/Strategy"), (4, u "<init>"), (0, u "([D[D)V"), (0, .methodref 12 13), (0, .class_ 14), (0, .nameAndType 9 15), (0, u "java/lang/Object"), (0, u "()V"), (11, .methodref 28 29), (0, .class_ 30), (0, .nameAndType 31 32), (0, u "java/lang/Double"), (0, u "isInfinite"), (0, u "(D)Z"), (6, .methodref 40 41), (0, .class_ 42), (0, .nameAndType 43 44), (0, u "[D"), (0, u "clone"), (0, u "()Ljava/lang/Object;"), (0, .fieldref 2 46), (0, .nameAndType 47 42), (0, u "values"), (0, .fieldref 2 49), (0, .nameAndType 50 42), (0, u "bids"), (23, u "getMaxValue"), (0, u "()D")] 28

def k2c0 : Code := { maxStack := 5, maxLocals := 8, code := prog_21_method_2_code, exceptionTable := #[], attributes := #[] }
def k2m0 : Method := { name := "<init>", desc := "([D[D)V", sig := { parameters := [(.array .double), (.array .double)], returnType := none }, accessFlags := 1, code := some k2c0 }
def k2c1 : Code := { maxStack := 3, maxLocals := 1, code := prog_21_method_5_code, exceptionTable := #[], attributes := #[] }
def k2m1 : Method := { name := "getMaxValue", desc := "()D", sig := { parameters := [], returnType := some .double }, accessFlags := 1, code := some k2c1 }
/-- com/example/corewright/corewright/equilibrium/Strategy -/
def k2 : Class := { plain "com/example/corewright/corewright/equilibrium/Strategy" (some 0) with
  accessFlags := 49
  interfaces := #[]
  cf := some (fileOf pool2 2 #[] #[{ accessFlags := 1, nameIndex := 9, descriptorIndex := 10, attributes := #[] }, { accessFlags := 1, nameIndex := 74, descriptorIndex := 75, attributes := #[] }] 49 12 #[] #[{ accessFlags := 18, nameIndex := 47, descriptorIndex := 42, attributes := #[] }, { accessFlags := 18, nameIndex := 50, descriptorIndex := 42, attributes := #[] }])
  fields := #[{ name := "values", type := (.array .double), accessFlags := 18, slot := 0, constantValue := 0 }, { name := "bids", type := (.array .double), accessFlags := 18, slot := 1, constantValue := 0 }]
  methods := #[k2m0, k2m1]
  instanceTypes := #[(.array .double), (.array .double)]
  staticTypes := #[]
  resolved := Array.replicate 104 none
  statics := none }

def pool3 : Array CpInfo := pool [(1, .class_ 2), (0, u "java/io/Serializable"), (0, .class_ 4), (0, u "java/lang/Object")] 2

/-- java/io/Serializable -/
def k3 : Class := { plain "java/io/Serializable" (some 0) with
  accessFlags := 1537
  interfaces := #[]
  cf := some (fileOf pool3 1 #[] #[] 1537 3 #[] #[])
  fields := #[]
  methods := #[]
  instanceTypes := #[]
  staticTypes := #[]
  resolved := Array.replicate 7 none
  statics := none }

def pool4 : Array CpInfo := pool [(2, .class_ 4), (1, u "java/lang/Object"), (0, u "<init>"), (0, u "()V"), (1, .class_ 10), (1, u "java/lang/Number"), (2, .class_ 14), (0, u "java/io/Serializable"), (0, u "serialVersionUID"), (0, u "J")] 20

def k4m0 : Method := { name := "<init>", desc := "()V", sig := { parameters := [], returnType := none }, accessFlags := 1, code := none }
/-- java/lang/Number -/
def k4 : Class := { plain "java/lang/Number" (some 0) with
  accessFlags := 1057
  interfaces := #[3]
  cf := some (fileOf pool4 8 #[] #[{ accessFlags := 1, nameIndex := 5, descriptorIndex := 6, attributes := #[] }] 1057 2 #[13] #[{ accessFlags := 26, nameIndex := 15, descriptorIndex := 16, attributes := #[] }])
  fields := #[{ name := "serialVersionUID", type := .long, accessFlags := 26, slot := 0, constantValue := 0 }]
  methods := #[k4m0]
  instanceTypes := #[]
  staticTypes := #[.long]
  resolved := Array.replicate 37 none
  statics := none }

def pool5 : Array CpInfo := pool [(1, .class_ 2), (0, u "java/lang/Comparable"), (0, .class_ 4), (0, u "java/lang/Object")] 7

/-- java/lang/Comparable -/
def k5 : Class := { plain "java/lang/Comparable" (some 0) with
  accessFlags := 1537
  interfaces := #[]
  cf := some (fileOf pool5 1 #[] #[] 1537 3 #[] #[])
  fields := #[]
  methods := #[]
  instanceTypes := #[]
  staticTypes := #[]
  resolved := Array.replicate 12 none
  statics := none }

def pool6 : Array CpInfo := pool [(1, .class_ 2), (0, u "java/lang/constant/Constable"), (0, .class_ 4), (0, u "java/lang/Object")] 6

/-- java/lang/constant/Constable -/
def k6 : Class := { plain "java/lang/constant/Constable" (some 0) with
  accessFlags := 1537
  interfaces := #[]
  cf := some (fileOf pool6 1 #[] #[] 1537 3 #[] #[])
  fields := #[]
  methods := #[]
  instanceTypes := #[]
  staticTypes := #[]
  resolved := Array.replicate 11 none
  statics := none }

def pool7 : Array CpInfo := pool [(1, .class_ 2), (0, u "java/lang/constant/ConstantDesc"), (0, .class_ 4), (0, u "java/lang/Object")] 32

/-- java/lang/constant/ConstantDesc -/
def k7 : Class := { plain "java/lang/constant/ConstantDesc" (some 0) with
  accessFlags := 1537
  interfaces := #[]
  cf := some (fileOf pool7 1 #[] #[] 1537 3 #[] #[])
  fields := #[]
  methods := #[]
  instanceTypes := #[]
  staticTypes := #[]
  resolved := Array.replicate 37 none
  statics := none }

def pool8 : Array CpInfo := pool [(1, .class_ 2), (0, u "java/lang/Double"), (11, u "(D)Z"), (8, .class_ 25), (1, u "java/lang/Math"), (12, .methodref 23 39), (0, .nameAndType 40 41), (0, u "abs"), (0, u "(D)D"), (69, .double 9218868437227405311), (2, .class_ 116), (1, u "java/lang/Number"), (3, u "value"), (0, u "D"), (5, u "isInfinite"), (45, u "TYPE"), (0, u "Ljava/lang/Class;"), (0, .class_ 176), (0, u "java/lang/Comparable"), (0, .class_ 178), (0, u "java/lang/constant/Constable"), (0, .class_ 180), (0, u "java/lang/constant/ConstantDesc"), (0, u "POSITIVE_INFINITY"), (3, u "NEGATIVE_INFINITY"), (2, u "NaN"), (2, u "MAX_VALUE"), (0, u "MIN_NORMAL"), (0, u "MIN_VALUE"), (2, u "SIZE"), (0, u "I"), (1, u "PRECISION"), (1, u "MAX_EXPONENT"), (1, u "MIN_EXPONENT"), (1, u "BYTES"), (3, u "serialVersionUID"), (0, u "J")] 79

def k8c0 : Code := { maxStack := 4, maxLocals := 2, code := jdk_117_method_7_code, exceptionTable := #[], attributes := #[] }
def k8m0 : Method := { name := "isInfinite", desc := "(D)Z", sig := { parameters := [.double], returnType := some .boolean }, accessFlags := 9, code := some k8c0 }
/-- java/lang/Double -/
def k8 : Class := { plain "java/lang/Double" (some 4) with
  accessFlags := 49
  interfaces := #[5, 6, 7]
  cf := some (fileOf pool8 1 #[] #[{ accessFlags := 9, nameIndex := 127, descriptorIndex := 14, attributes := #[] }] 49 114 #[175, 177, 179] #[{ accessFlags := 25, nameIndex := 181, descriptorIndex := 121, attributes := #[] }, { accessFlags := 25, nameIndex := 185, descriptorIndex := 121, attributes := #[] }, { accessFlags := 25, nameIndex := 188, descriptorIndex := 121, attributes := #[] }, { accessFlags := 25, nameIndex := 191, descriptorIndex := 121, attributes := #[] }, { accessFlags := 25, nameIndex := 192, descriptorIndex := 121, attributes := #[] }, { accessFlags := 25, nameIndex := 193, descriptorIndex := 121, attributes := #[] }, { accessFlags := 25, nameIndex := 196, descriptorIndex := 197, attributes := #[] }, { accessFlags := 25, nameIndex := 199, descriptorIndex := 197, attributes := #[] }, { accessFlags := 25, nameIndex := 201, descriptorIndex := 197, attributes := #[] }, { accessFlags := 25, nameIndex := 203, descriptorIndex := 197, attributes := #[] }, { accessFlags := 25, nameIndex := 205, descriptorIndex := 197, attributes := #[] }, { accessFlags := 25, nameIndex := 173, descriptorIndex := 174, attributes := #[] }, { accessFlags := 18, nameIndex := 120, descriptorIndex := 121, attributes := #[] }, { accessFlags := 26, nameIndex := 209, descriptorIndex := 210, attributes := #[] }])
  fields := #[{ name := "POSITIVE_INFINITY", type := .double, accessFlags := 25, slot := 0, constantValue := 0 }, { name := "NEGATIVE_INFINITY", type := .double, accessFlags := 25, slot := 1, constantValue := 0 }, { name := "NaN", type := .double, accessFlags := 25, slot := 2, constantValue := 0 }, { name := "MAX_VALUE", type := .double, accessFlags := 25, slot := 3, constantValue := 0 }, { name := "MIN_NORMAL", type := .double, accessFlags := 25, slot := 4, constantValue := 0 }, { name := "MIN_VALUE", type := .double, accessFlags := 25, slot := 5, constantValue := 0 }, { name := "SIZE", type := .int, accessFlags := 25, slot := 6, constantValue := 0 }, { name := "PRECISION", type := .int, accessFlags := 25, slot := 7, constantValue := 0 }, { name := "MAX_EXPONENT", type := .int, accessFlags := 25, slot := 8, constantValue := 0 }, { name := "MIN_EXPONENT", type := .int, accessFlags := 25, slot := 9, constantValue := 0 }, { name := "BYTES", type := .int, accessFlags := 25, slot := 10, constantValue := 0 }, { name := "TYPE", type := (.object "java/lang/Class"), accessFlags := 25, slot := 11, constantValue := 0 }, { name := "value", type := .double, accessFlags := 18, slot := 0, constantValue := 0 }, { name := "serialVersionUID", type := .long, accessFlags := 26, slot := 12, constantValue := 0 }]
  methods := #[k8m0]
  instanceTypes := #[.double]
  staticTypes := #[.double, .double, .double, .double, .double, .double, .int, .int, .int, .int, .int, (.object "java/lang/Class"), .long]
  resolved := Array.replicate 290 none
  statics := none }

def pool9 : Array CpInfo := pool [(1, .class_ 2), (0, u "java/lang/Math"), (1, .class_ 6), (1, u "java/lang/Object"), (0, u "<init>"), (0, u "()V"), (5, u "(D)D"), (83, .class_ 100), (1, u "java/lang/Math$RandomNumberGeneratorHolder"), (23, u "abs"), (47, u "negativeZeroFloatBits"), (0, u "J"), (2, u "negativeZeroDoubleBits"), (68, u "$assertionsDisabled"), (0, u "Z"), (91, u "twoToTheDoubleScaleDown"), (0, u "D"), (4, u "twoToTheDoubleScaleUp"), (9, u "E"), (3, u "PI"), (2, u "TAU"), (2, u "DEGREES_TO_RADIANS"), (0, u "RADIANS_TO_DEGREES")] 94

def k9m0 : Method := { name := "<init>", desc := "()V", sig := { parameters := [], returnType := none }, accessFlags := 2, code := none }
def k9c1 : Code := { maxStack := 4, maxLocals := 2, code := jdk_29_method_64_code, exceptionTable := #[], attributes := #[] }
def k9m1 : Method := { name := "abs", desc := "(D)D", sig := { parameters := [.double], returnType := some .double }, accessFlags := 9, code := some k9c1 }
/-- java/lang/Math -/
def k9 : Class := { plain "java/lang/Math" (some 0) with
  accessFlags := 49
  interfaces := #[]
  cf := some (fileOf pool9 1 #[.nestMembers #[98]] #[{ accessFlags := 2, nameIndex := 7, descriptorIndex := 8, attributes := #[] }, { accessFlags := 9, nameIndex := 124, descriptorIndex := 14, attributes := #[] }] 49 4 #[] #[{ accessFlags := 25, nameIndex := 354, descriptorIndex := 339, attributes := #[] }, { accessFlags := 25, nameIndex := 358, descriptorIndex := 339, attributes := #[] }, { accessFlags := 25, nameIndex := 361, descriptorIndex := 339, attributes := #[] }, { accessFlags := 26, nameIndex := 364, descriptorIndex := 339, attributes := #[] }, { accessFlags := 26, nameIndex := 365, descriptorIndex := 339, attributes := #[] }, { accessFlags := 26, nameIndex := 172, descriptorIndex := 173, attributes := #[] }, { accessFlags := 26, nameIndex := 176, descriptorIndex := 173, attributes := #[] }, { accessFlags := 8, nameIndex := 344, descriptorIndex := 339, attributes := #[] }, { accessFlags := 8, nameIndex := 338, descriptorIndex := 339, attributes := #[] }, { accessFlags := 4120, nameIndex := 245, descriptorIndex := 246, attributes := #[] }])
  fields := #[{ name := "E", type := .double, accessFlags := 25, slot := 0, constantValue := 0 }, { name := "PI", type := .double, accessFlags := 25, slot := 1, constantValue := 0 }, { name := "TAU", type := .double, accessFlags := 25, slot := 2, constantValue := 0 }, { name := "DEGREES_TO_RADIANS", type := .double, accessFlags := 26, slot := 3, constantValue := 0 }, { name := "RADIANS_TO_DEGREES", type := .double, accessFlags := 26, slot := 4, constantValue := 0 }, { name := "negativeZeroFloatBits", type := .long, accessFlags := 26, slot := 5, constantValue := 0 }, { name := "negativeZeroDoubleBits", type := .long, accessFlags := 26, slot := 6, constantValue := 0 }, { name := "twoToTheDoubleScaleUp", type := .double, accessFlags := 8, slot := 7, constantValue := 0 }, { name := "twoToTheDoubleScaleDown", type := .double, accessFlags := 8, slot := 8, constantValue := 0 }, { name := "$assertionsDisabled", type := .boolean, accessFlags := 4120, slot := 9, constantValue := 0 }]
  methods := #[k9m0, k9m1]
  instanceTypes := #[]
  staticTypes := #[.double, .double, .double, .double, .double, .long, .long, .double, .double, .boolean]
  resolved := Array.replicate 460 none
  statics := none }

def pool10 : Array CpInfo := pool [(1, .class_ 2), (0, u "java/lang/Cloneable"), (0, .class_ 4), (0, u "java/lang/Object")] 2

/-- java/lang/Cloneable -/
def k10 : Class := { plain "java/lang/Cloneable" (some 0) with
  accessFlags := 1537
  interfaces := #[]
  cf := some (fileOf pool10 1 #[] #[] 1537 3 #[] #[])
  fields := #[]
  methods := #[]
  instanceTypes := #[]
  staticTypes := #[]
  resolved := Array.replicate 7 none
  statics := none }

/-- the primitive byte -/
def k11 : Class := { plain "byte" none with kind := .primitive 'B', accessFlags := 0x411 }
/-- [B -/
def k12 : Class := { plain "[B" (some 0) with kind := .array 11 .byte, interfaces := #[10, 3], accessFlags := 1041 }

/-- the primitive double -/
def k13 : Class := { plain "double" none with kind := .primitive 'D', accessFlags := 0x411 }
/-- [D -/
def k14 : Class := { plain "[D" (some 0) with kind := .array 13 .double, interfaces := #[10, 3], accessFlags := 1041 }

/-- the primitive int -/
def k15 : Class := { plain "int" none with kind := .primitive 'I', accessFlags := 0x411 }
/-- [I -/
def k16 : Class := { plain "[I" (some 0) with kind := .array 15 .int, interfaces := #[10, 3], accessFlags := 1041 }

def heap : Heap := #[]
def classes : Array Class := #[k0, k1, k2, k3, k4, k5, k6, k7, k8, k9, k10, k11, k12, k13, k14, k15, k16]
def interned : List (Array UInt16 × Addr) := []
def slotsUsed : Nat := 0
def theMethod : MethodId := ⟨1, 1⟩
def args0 : Array Value := #[.int 1, .int 1, .int 1, .int 1, .int 1, .int 1]
def aboutOver (below : List Frame) : State where
  vm := { classes := classes, interned := interned.toArray }
  heap := heap
  slotsUsed := slotsUsed
  threads := #[{ frames := .invoking theMethod args0 :: below }]
def below0 : List Frame := [.native { method := ⟨0, 0⟩, args := #[] }]
def about1 : State := aboutOver below0
def p0 : Program := .bare "" "" ""
def e0 : Env := launch0.env 0 0 0
theorem w_frames : about1.frames = Frame.invoking theMethod args0 :: below0 := rfl
set_option maxRecDepth 65536 in
theorem w_args : argsFit about1.vm theMethod args0 = true := by decide +kernel
set_option maxRecDepth 65536 in
theorem w_heap : heapFits about1 = true := by decide +kernel
set_option maxRecDepth 65536 in
theorem w_runnable : about1.curStatus? = some .runnable := by decide +kernel
set_option maxRecDepth 65536 in
theorem w_alone : about1.alone = true := by decide +kernel
set_option maxRecDepth 65536 in
theorem w_named : about1.methodNamed? x = some theMethod := by decide +kernel
set_option maxRecDepth 65536 in
theorem w_hears : about1.hears theMethod below0 = true := by decide +kernel
set_option maxRecDepth 65536 in
theorem w_ripe : about1.ripe theMethod args0 below0 = true := by decide +kernel
theorem w_running : about1.status = .running := rfl
set_option maxRecDepth 65536 in
theorem w_room : about1.hasRoom e0.platform room_1 = true :=
  launch0.hasRoom_least _ room_1 (by decide +kernel) (by decide +kernel) (by decide +kernel) (by decide +kernel) (by decide +kernel) (by decide +kernel)
theorem allAtoms_all (ts : List Jvm.Cond) (a : Array Jvm.Value) (st : Jvm.State) : (allAtoms ts).before a st = ts.all (fun c => c.before a st) := by
  induction ts with
  | nil => rfl
  | cons c t ih =>
    show (Jvm.Cond.and c (allAtoms t)).before a st = _
    rw [Jvm.Cond.before_and, ih, List.all_cons]
def words1 : List Jvm.Cond := Jvm.Cond.code x code maxLocals ret :: tables_1
/-- a 'code' word, met by the world's own term for the bytes: nothing is compared byte by byte -/
theorem code_word {y : MethodName} {bytes : ByteArray} {mx : Nat} {rt : Option FieldType} {a : Array Value} {s : State} {m : MethodId} {meth : Method} {c : Code} (h1 : s.methodNamed? y = some m) (h2 : s.vm.method? m = some meth) (h3 : meth.code = some c) (h4 : c.code = bytes)
    (h5 : (c.maxLocals == mx && c.exceptionTable.isEmpty && decide (c.maxStack ≤ mostOperands) && decide (meth.sig.returnType = rt) && !meth.locks && decide (parseMethodDescriptor y.desc = some meth.sig)) = true) : (Jvm.Cond.code y bytes mx rt).before a s = true := by
  simp only [Bool.and_eq_true, beq_iff_eq, Bool.not_eq_true', decide_eq_true_eq] at h5
  obtain ⟨⟨⟨⟨⟨g1, g2⟩, g3⟩, g4⟩, g5⟩, g6⟩ := h5
  simp [Cond.before, Cond.holds, Cond.value, h1, h2, h3, h4, g1, g2, g3, g4, g5, g6]
def isCode : Jvm.Cond → Bool
  | .code _ _ _ _ => true
  | _ => false
theorem all_split {L : List Jvm.Cond} {P : Jvm.Cond → Bool} (h1 : L.all (fun c => isCode c || P c) = true) (h2 : ∀ c ∈ L.filter isCode, P c = true) : L.all P = true := by
  refine List.all_eq_true.mpr fun c hc => ?_
  have h := List.all_eq_true.mp h1 c hc
  rcases Bool.eq_false_or_eq_true (isCode c) with hi | hi
  · exact h2 c (List.mem_filter.mpr ⟨hc, hi⟩)
  · simpa [hi] using h
set_option maxRecDepth 65536 in
theorem w_c0 : (Jvm.Cond.code x code maxLocals ret).before args0 about1 = true := code_word (m := ⟨1, 1⟩) (meth := k1m1) (c := k1c1) (by decide +kernel) rfl rfl rfl (by decide +kernel)
set_option maxRecDepth 65536 in
theorem w_c1 : (Jvm.Cond.code ({ cls := "com/example/corewright/corewright/equilibrium/Strategy", name := "<init>", desc := "([D[D)V" } : Jvm.MethodName) prog_21_method_2_code (8 : Nat) (Option.none : Option Jvm.ClassFile.FieldType)).before args0 about1 = true := code_word (m := ⟨2, 0⟩) (meth := k2m0) (c := k2c0) (by decide +kernel) rfl rfl rfl (by decide +kernel)
set_option maxRecDepth 65536 in
theorem w_c2 : (Jvm.Cond.code ({ cls := "java/lang/Object", name := "<init>", desc := "()V" } : Jvm.MethodName) object_method_1_code (1 : Nat) (Option.none : Option Jvm.ClassFile.FieldType)).before args0 about1 = true := code_word (m := ⟨0, 0⟩) (meth := k0m0) (c := k0c0) (by decide +kernel) rfl rfl rfl (by decide +kernel)
set_option maxRecDepth 65536 in
theorem w_c3 : (Jvm.Cond.code ({ cls := "java/lang/Double", name := "isInfinite", desc := "(D)Z" } : Jvm.MethodName) jdk_117_method_7_code (2 : Nat) (Option.some Jvm.ClassFile.FieldType.boolean)).before args0 about1 = true := code_word (m := ⟨8, 0⟩) (meth := k8m0) (c := k8c0) (by decide +kernel) rfl rfl rfl (by decide +kernel)
set_option maxRecDepth 65536 in
theorem w_c4 : (Jvm.Cond.code ({ cls := "java/lang/Math", name := "abs", desc := "(D)D" } : Jvm.MethodName) jdk_29_method_64_code (2 : Nat) (Option.some Jvm.ClassFile.FieldType.double)).before args0 about1 = true := code_word (m := ⟨9, 1⟩) (meth := k9m1) (c := k9c1) (by decide +kernel) rfl rfl rfl (by decide +kernel)
set_option maxRecDepth 65536 in
theorem w_c5 : (Jvm.Cond.code ({ cls := "com/example/corewright/corewright/equilibrium/Strategy", name := "getMaxValue", desc := "()D" } : Jvm.MethodName) prog_21_method_5_code (1 : Nat) (Option.some Jvm.ClassFile.FieldType.double)).before args0 about1 = true := code_word (m := ⟨2, 1⟩) (meth := k2m1) (c := k2c1) (by decide +kernel) rfl rfl rfl (by decide +kernel)
def codes1 : List Jvm.Cond := [Jvm.Cond.code x code maxLocals ret, Jvm.Cond.code ({ cls := "com/example/corewright/corewright/equilibrium/Strategy", name := "<init>", desc := "([D[D)V" } : Jvm.MethodName) prog_21_method_2_code (8 : Nat) (Option.none : Option Jvm.ClassFile.FieldType), Jvm.Cond.code ({ cls := "java/lang/Object", name := "<init>", desc := "()V" } : Jvm.MethodName) object_method_1_code (1 : Nat) (Option.none : Option Jvm.ClassFile.FieldType), Jvm.Cond.code ({ cls := "java/lang/Double", name := "isInfinite", desc := "(D)Z" } : Jvm.MethodName) jdk_117_method_7_code (2 : Nat) (Option.some Jvm.ClassFile.FieldType.boolean), Jvm.Cond.code ({ cls := "java/lang/Math", name := "abs", desc := "(D)D" } : Jvm.MethodName) jdk_29_method_64_code (2 : Nat) (Option.some Jvm.ClassFile.FieldType.double), Jvm.Cond.code ({ cls := "com/example/corewright/corewright/equilibrium/Strategy", name := "getMaxValue", desc := "()D" } : Jvm.MethodName) prog_21_method_5_code (1 : Nat) (Option.some Jvm.ClassFile.FieldType.double)]
set_option maxRecDepth 65536 in
theorem codes_eq : words1.filter isCode = codes1 := rfl
theorem w_codes : ∀ c ∈ words1.filter isCode, c.before args0 about1 = true := by
  rw [codes_eq]
  intro c hc
  simp only [codes1, List.mem_cons, List.not_mem_nil, or_false] at hc
  rcases hc with rfl | rfl | rfl | rfl | rfl | rfl
  · exact w_c0
  · exact w_c1
  · exact w_c2
  · exact w_c3
  · exact w_c4
  · exact w_c5
set_option maxRecDepth 65536 in
theorem w_t1 : (words1.take 24).all (fun c => isCode c || c.before args0 about1) = true := by decide +kernel
set_option maxRecDepth 65536 in
theorem w_t2 : (words1.drop 24).all (fun c => isCode c || c.before args0 about1) = true := by decide +kernel
theorem w_tables : (allAtoms (Jvm.Cond.code x code maxLocals ret :: tables_1)).before args0 about1 = true := by
  rw [allAtoms_all]
  show words1.all (fun c => c.before args0 about1) = true
  refine all_split ?_ w_codes
  rw [← List.take_append_drop 24 words1, List.all_append, w_t1, w_t2]
  rfl
set_option maxRecDepth 65536 in
theorem w_case : (Jvm.Cond.and given_1 narrow_1).before args0 about1 = true := by decide +kernel
theorem w_applies : (headSpec (Jvm.Cond.code x code maxLocals ret :: tables_1) room_1).applies x e0.platform about1 = true :=
  (Spec.applies_iff w_frames).mpr ⟨w_running, w_runnable, w_alone, w_named, w_hears, w_ripe, w_room, w_tables⟩
theorem atStart : AtStart classFile x code maxLocals ret World_1 tables_1 room_1 Calls_1 rest_1 Pre_1 launch0 p0 e0 about1 theMethod args0 below0 :=
  ⟨lists_1, trivial, launch0.admits_env _ _ _, launch0.least_env, fairChoices_fair.cas, fairChoices_fair.clock, w_frames, w_args, w_heap, w_applies, trivial, trivial, w_case⟩
end start1
theorem witness_1 : WitnessClaimed_1 := ⟨start1.p0, start1.e0, start1.about1, start1.theMethod, start1.args0, start1.below0, start1.atStart⟩
end Jvm.Pilot.@@N@@
