import JvmDerived
import JvmDerived.Pilot.@@N@@Statement
import JvmDerived.Pilot.@@N@@Code
set_option linter.unusedVariables false
set_option linter.unusedSimpArgs false
namespace Jvm.Pilot.@@N@@
open Jvm Jvm.ClassFile Sem Op Lib Jvm.Free Jvm.Stand Jvm.LawKit Jvm.RoadKit Bundle Jvm.Pilot.@@N@@.Jvm.D
section OwnWalk
variable {p : Program} {l : Launch} {e : Env} {R : Room} {s : State} {m : MethodId} {args : Array Value} {below : List Frame} {meth : Method} {c : Code} {T T' : State} {locs : List Loc} {cells slots kc ks : Nat} {g g' : JFrame} {Q : Option Value → Heap → List Loc → Prop}
/-- from here the run comes to its end, and the end is as Q says -/
def own_G (p : Program) (e : Env) (below : List Frame) (s : State) (Q : Option Value → Heap → List Loc → Prop) (kc ks : Nat) (T : State) (g : JFrame) : Prop :=
  ∃ s₂ o, Steps p.tables e below (T.setTop g) s₂ ∧ s₂.status = .running ∧ Ended s₂ below o ∧ ∃ v L, o = .returned v ∧ Q v s₂.heap L ∧ FrameEnd s o s₂ L kc ks
theorem own_enter (q : g = g') (k : own_G p e below s Q kc ks T g') : own_G p e below s Q kc ks T g := q ▸ k
theorem own_st (st : ∀ t, Steps p.tables e below (T'.setTop g') t → Steps p.tables e below (T.setTop g) t) (k : own_G p e below s Q kc ks T' g') : own_G p e below s Q kc ks T g := by
  obtain ⟨s₂, o, h1, h2⟩ := k
  exact ⟨s₂, o, st _ h1, h2⟩
theorem own_tr (st : Steps p.tables e below (T.setTop g) (T'.setTop g')) (k : own_G p e below s Q kc ks T' g') : own_G p e below s Q kc ks T g := own_st (fun _ h => st.trans h) k
theorem own_ret (X : Stand p l e R s m args below meth c T locs cells slots) (hx : p.tables.exec = Jvm.exec) (hlk : meth.locks = false) {pc : Nat} {Ls : Array Slot} {w : Value} {t : FieldType} {i : Instr} {rest : List Value} (hret : meth.sig.returnType = some t) (hn : narrow t w = w)
    (hi : (i = .ireturn ∧ (t = .int ∨ t = .boolean ∨ t = .byte ∨ t = .char ∨ t = .short) ∧ ∃ z, w = .int z) ∨ (i = .lreturn ∧ t = .long ∧ ∃ z, w = .long z) ∨ (i = .dreturn ∧ t = .double ∧ ∃ z, w = .double z) ∨ (i = .freturn ∧ t = .float ∧ ∃ z, w = .float z) ∨ (i = .areturn ∧ t.isReference = true ∧ w.isRef = true))
    (hd : decode c.code pc = .ok (i, 1)) (hc : cells ≤ kc) (hs : slots ≤ ks) (hQ : Q (some w) T.heap locs) : own_G p e below s Q kc ks T (mkF m pc Ls (w :: rest)) := by
  obtain ⟨fs, hr, hrun, hended, hW, hsame⟩ := X.leave (v := some w) (fun h => by rw [hret] at h; cases h) hlk
  exact ⟨_, _, retOut X hx hret hn hi hd hr, hrun, hended, _, _, rfl, hQ, ⟨_, rfl⟩, hW, hsame.mono hc hs⟩
theorem own_retI (X : Stand p l e R s m args below meth c T locs cells slots) (hx : p.tables.exec = Jvm.exec) (hlk : meth.locks = false) {pc : Nat} {Ls : Array Slot} {z : Int32} {rest : List Value} (hret : meth.sig.returnType = some .int)
    (hd : decode c.code pc = .ok (.ireturn, 1)) (hc : cells ≤ kc) (hs : slots ≤ ks) (hQ : Q (some (.int z)) T.heap locs) : own_G p e below s Q kc ks T (mkF m pc Ls (.int z :: rest)) :=
  own_ret X hx hlk hret rfl (Or.inl ⟨rfl, Or.inl rfl, z, rfl⟩) hd hc hs hQ
theorem own_retZ (X : Stand p l e R s m args below meth c T locs cells slots) (hx : p.tables.exec = Jvm.exec) (hlk : meth.locks = false) {pc : Nat} {Ls : Array Slot} {z : Int32} {rest : List Value} (hret : meth.sig.returnType = some .boolean)
    (hd : decode c.code pc = .ok (.ireturn, 1)) (hn : narrow .boolean (.int z) = .int z) (hc : cells ≤ kc) (hs : slots ≤ ks) (hQ : Q (some (.int z)) T.heap locs) : own_G p e below s Q kc ks T (mkF m pc Ls (.int z :: rest)) :=
  own_ret X hx hlk hret hn (Or.inl ⟨rfl, Or.inr (Or.inl rfl), z, rfl⟩) hd hc hs hQ
theorem own_retJ (X : Stand p l e R s m args below meth c T locs cells slots) (hx : p.tables.exec = Jvm.exec) (hlk : meth.locks = false) {pc : Nat} {Ls : Array Slot} {z : Int64} {rest : List Value} (hret : meth.sig.returnType = some .long)
    (hd : decode c.code pc = .ok (.lreturn, 1)) (hc : cells ≤ kc) (hs : slots ≤ ks) (hQ : Q (some (.long z)) T.heap locs) : own_G p e below s Q kc ks T (mkF m pc Ls (.long z :: rest)) :=
  own_ret X hx hlk hret rfl (Or.inr (Or.inl ⟨rfl, rfl, z, rfl⟩)) hd hc hs hQ
theorem own_retD (X : Stand p l e R s m args below meth c T locs cells slots) (hx : p.tables.exec = Jvm.exec) (hlk : meth.locks = false) {pc : Nat} {Ls : Array Slot} {z : UInt64} {rest : List Value} (hret : meth.sig.returnType = some .double)
    (hd : decode c.code pc = .ok (.dreturn, 1)) (hc : cells ≤ kc) (hs : slots ≤ ks) (hQ : Q (some (.double z)) T.heap locs) : own_G p e below s Q kc ks T (mkF m pc Ls (.double z :: rest)) :=
  own_ret X hx hlk hret rfl (Or.inr (Or.inr (Or.inl ⟨rfl, rfl, z, rfl⟩))) hd hc hs hQ
theorem own_retA (X : Stand p l e R s m args below meth c T locs cells slots) (hx : p.tables.exec = Jvm.exec) (hlk : meth.locks = false) {pc : Nat} {Ls : Array Slot} {w : Value} {t : FieldType} {rest : List Value} (hret : meth.sig.returnType = some t) (ht : t.isReference = true) (hw : w.isRef = true)
    (hd : decode c.code pc = .ok (.areturn, 1)) (hc : cells ≤ kc) (hs : slots ≤ ks) (hQ : Q (some w) T.heap locs) : own_G p e below s Q kc ks T (mkF m pc Ls (w :: rest)) :=
  own_ret X hx hlk hret (by cases t <;> first | (cases ht; done) | (cases w <;> first | (cases hw; done) | rfl)) (Or.inr (Or.inr (Or.inr (Or.inr ⟨rfl, ht, hw⟩)))) hd hc hs hQ
theorem own_retV (X : Stand p l e R s m args below meth c T locs cells slots) (hx : p.tables.exec = Jvm.exec) (hlk : meth.locks = false) {pc : Nat} {Ls : Array Slot} (hret : meth.sig.returnType = none)
    (hd : decode c.code pc = .ok (.return_, 1)) (hc : cells ≤ kc) (hs : slots ≤ ks) (hQ : Q none T.heap locs) : own_G p e below s Q kc ks T (mkF m pc Ls []) := by
  obtain ⟨fs, hr, hrun, hended, hW, hsame⟩ := X.leave (v := none) (fun _ => rfl) hlk
  exact ⟨_, _, X.returnOut hx hret hd hr, hrun, hended, _, _, rfl, hQ, ⟨_, rfl⟩, hW, hsame.mono hc hs⟩
end OwnWalk
section OwnFloat
/-! ## Doubles as fractions: x is n / 2^k, exactly -/
def own_Dy (x : UInt64) (n : Int) (k : Nat) : Prop :=
  (∃ s c q, FP.Core.val64 x = .fin s c q) ∧ k ≤ 1074 ∧ FP.Core.zval FP.Core.b64 (FP.Core.val64 x) = n * ((2 ^ (1074 - k) : Nat) : Int)
theorem own_qmax : FP.Core.b64.qmax = 971 := by decide
theorem own_p : FP.Core.b64.p = 53 := by decide
theorem own_signed_abs (n : Int) : FP.Core.signed (decide (n < 0)) n.natAbs = n := by
  unfold FP.Core.signed; by_cases h : n < 0 <;> simp [h] <;> omega
/-- every n / 2^k with |n| < 2^53 is a double's value -/
theorem own_fitV {n : Int} {k : Nat} (hk : k ≤ 1074) (hn : n.natAbs < 9007199254740992) :
    ∃ V, FP.Core.fits FP.Core.b64 V ∧ (∃ s c q, V = .fin s c q) ∧ FP.Core.zval FP.Core.b64 V = n * ((2 ^ (1074 - k) : Nat) : Int) := by
  obtain ⟨c', q', h1, h2⟩ := FP.Core.round_exact FP.Core.good_b64 (decide (n < 0)) (c := n.natAbs) (q := -(k : Int)) (by rw [own_p]; exact hn) (by rw [FP.Core.qmin_b64]; omega) (by rw [own_qmax]; omega)
  refine ⟨_, FP.Core.round_fits FP.Core.good_b64 (.fin (decide (n < 0)) n.natAbs (-(k : Int))), ⟨_, _, _, h1⟩, ?_⟩
  rw [h1]
  show FP.Core.signed (decide (n < 0)) (FP.Core.inUnits c' q' FP.Core.b64.qmin) = _
  rw [h2]
  unfold FP.Core.inUnits
  rw [FP.Core.qmin_b64, show (-(k : Int) - -1074).toNat = 1074 - k by omega, FP.Core.signed_mul, own_signed_abs]
/-- what is worth n / 2^k rounds to that -/
theorem own_round {s : Bool} {c : Nat} {q e0 n : Int} {k : Nat} (hk : k ≤ 1074) (hn : n.natAbs < 9007199254740992) (h0 : e0 ≤ -1074) (h1 : e0 ≤ q)
    (h : FP.Core.signed s (FP.Core.inUnits c q e0) = n * ((2 ^ (1074 - k) : Nat) : Int) * ((2 ^ (-1074 - e0).toNat : Nat) : Int)) :
    (∃ s' c' q', FP.Core.round FP.Core.b64 (.fin s c q) = .fin s' c' q') ∧ FP.Core.zval FP.Core.b64 (FP.Core.round FP.Core.b64 (.fin s c q)) = n * ((2 ^ (1074 - k) : Nat) : Int) := by
  obtain ⟨V, v1, ⟨vs, vc, vq, v2⟩, v3⟩ := own_fitV hk hn
  have hne : V ≠ .nan := by rw [v2]; exact FP.Core.Datum.noConfusion
  have hq := FP.Core.qmin_b64
  have le := FP.Core.zval_round_le FP.Core.good_b64 (s := s) (c := c) (q := q) (e0 := e0) v1 hne (by rw [hq]; exact h0) h1 (by rw [hq, v3, h]; exact Int.le_refl _)
  have ge := FP.Core.zval_round_ge FP.Core.good_b64 (s := s) (c := c) (q := q) (e0 := e0) v1 hne (by rw [hq]; exact h0) h1 (by rw [hq, v3, h]; exact Int.le_refl _)
  have e : FP.Core.zval FP.Core.b64 (FP.Core.round FP.Core.b64 (.fin s c q)) = FP.Core.zval FP.Core.b64 V := Int.le_antisymm le ge
  refine ⟨?_, e.trans v3⟩
  rcases FP.Core.roundRatio_cases FP.Core.b64 s c 1 q with ⟨c', q', h'⟩ | h'
  · exact ⟨_, _, _, h'⟩
  · exfalso
    have e' : FP.Core.zval FP.Core.b64 (FP.Core.roundRatio FP.Core.b64 s c 1 q) = FP.Core.zval FP.Core.b64 V := e
    rw [h', v2] at e'
    rw [v2] at v1
    have hlt := FP.Core.zmag_lt_top FP.Core.good_b64 v1
    have e2 : FP.Core.signed s (FP.Core.b64.tails * 2 ^ (FP.Core.b64.exps - 2)) = FP.Core.signed vs (FP.Core.inUnits vc vq FP.Core.b64.qmin) := e'
    clear e'
    generalize FP.Core.inUnits vc vq FP.Core.b64.qmin = a at e2 hlt
    generalize FP.Core.b64.tails * 2 ^ (FP.Core.b64.exps - 2) = b at e2 hlt
    cases s <;> cases vs <;> simp only [FP.Core.signed, if_true, Bool.false_eq_true, if_false] at e2 <;> omega
theorem own_Dy.fin {x : UInt64} {n : Int} {k : Nat} (h : own_Dy x n k) : Fl.Fin64 x := by
  obtain ⟨⟨s, c, q, h1⟩, -⟩ := h
  exact Fl.fin64_core.mpr ⟨s, c, q, h1⟩
theorem own_Dy.nn {x : UInt64} {n : Int} {k : Nat} (h : own_Dy x n k) : Fl.NoNaN64 x := h.fin.noNaN
theorem own_Dy.ne {x : UInt64} {n : Int} {k : Nat} (h : own_Dy x n k) : FP.Core.val64 x ≠ .nan := by
  obtain ⟨⟨s, c, q, h1⟩, -⟩ := h; rw [h1]; exact FP.Core.Datum.noConfusion
theorem own_pow {j k : Nat} (h : j + k ≤ 1074) : ((2 ^ (1074 - j) : Nat) : Int) = ((2 ^ k : Nat) : Int) * ((2 ^ (1074 - (j + k)) : Nat) : Int) := by
  rw [← Int.natCast_mul, ← Nat.pow_add]; congr 2; omega
/-- the same number, with a greater denominator -/
theorem own_Dy.up {x : UInt64} {n : Int} {k : Nat} (h : own_Dy x n k) (j : Nat) (hj : k + j ≤ 1074) : own_Dy x (n * ((2 ^ j : Nat) : Int)) (k + j) := by
  obtain ⟨h1, -, h3⟩ := h
  refine ⟨h1, hj, ?_⟩
  rw [h3, own_pow hj, Int.mul_assoc]
theorem own_Dy.dn {x : UInt64} {n : Int} {k j : Nat} (h : own_Dy x (n * ((2 ^ j : Nat) : Int)) (k + j)) : own_Dy x n k := by
  obtain ⟨h1, h2, h3⟩ := h
  refine ⟨h1, by omega, ?_⟩
  rw [h3, own_pow h2, Int.mul_assoc]
theorem own_dy_l2d {a : Int64} (h1 : -9007199254740992 < a.toInt) (h2 : a.toInt < 9007199254740992) : own_Dy (FP.l2d a) a.toInt 0 := by
  have hr := own_round (s := decide (a.toInt < 0)) (c := a.toInt.natAbs) (q := 0) (e0 := -1074) (n := a.toInt) (k := 0) (by omega) (by omega) (by omega) (by omega) (by
    unfold FP.Core.inUnits
    rw [FP.Core.signed_mul, own_signed_abs, show (0 - -1074 : Int).toNat = 1074 from rfl, show (-1074 - -1074 : Int).toNat = 0 from rfl, Nat.pow_zero, Int.natCast_one, Int.mul_one])
  have hv : FP.Core.val64 (FP.l2d a) = FP.Core.round FP.Core.b64 (.fin (decide (a.toInt < 0)) a.toInt.natAbs 0) := FP.Core.val64_l2d a
  unfold own_Dy
  rw [hv]
  exact ⟨hr.1, by omega, hr.2⟩
theorem own_dy_i2d (a : Int32) : own_Dy (FP.i2d a) a.toInt 0 := by
  have h := Int32.toInt_lt a
  have h' := Int32.le_toInt a
  have e : a.toInt64.toInt = a.toInt := Int32.toInt_toInt64 a
  have := own_dy_l2d (a := a.toInt64) (by omega) (by omega)
  rw [e] at this
  exact (FP.Core.i2d_l2d a ▸ this : own_Dy (FP.Core.i2d a) a.toInt 0)
theorem own_Dy.add {x y : UInt64} {n m : Int} {k : Nat} (hx : own_Dy x n k) (hy : own_Dy y m k) (h : (n + m).natAbs < 9007199254740992) : own_Dy (FP.dadd x y) (n + m) k := by
  obtain ⟨⟨s, c, q, hx1⟩, hk, hx3⟩ := hx
  obtain ⟨⟨t, d, r, hy1⟩, -, hy3⟩ := hy
  obtain ⟨sg, w, e, h1, h2, h3⟩ := FP.Core.sum_units (f := FP.Core.b64) (hx1 ▸ FP.Core.val64_fits x) (hy1 ▸ FP.Core.val64_fits y)
  have hq := FP.Core.qmin_b64
  rw [← hx1, ← hy1, hx3, hy3, ← Int.add_mul] at h3
  have hr := own_round (s := sg) (c := w) (q := e) (e0 := -1074) (n := n + m) (k := k) hk h (by omega) (by rw [hq] at h2; exact h2) (by
    rw [hq] at h3; rw [h3, show (-1074 - -1074 : Int).toNat = 0 from rfl, Nat.pow_zero, Int.natCast_one, Int.mul_one])
  have hv : FP.Core.val64 (FP.dadd x y) = FP.Core.round FP.Core.b64 (.fin sg w e) := by
    have := FP.Core.val64_dadd x y
    rw [hx1, hy1, h1] at this
    exact this
  unfold own_Dy
  rw [hv]
  exact ⟨hr.1, hk, hr.2⟩
theorem own_Dy.sub {x y : UInt64} {n m : Int} {k : Nat} (hx : own_Dy x n k) (hy : own_Dy y m k) (h : (n - m).natAbs < 9007199254740992) : own_Dy (FP.dsub x y) (n - m) k := by
  obtain ⟨⟨s, c, q, hx1⟩, hk, hx3⟩ := hx
  obtain ⟨⟨t, d, r, hy1⟩, -, hy3⟩ := hy
  have hyn : FP.Core.fits FP.Core.b64 (FP.Core.negate (.fin t d r)) := FP.Core.negate_fits (hy1 ▸ FP.Core.val64_fits y)
  obtain ⟨sg, w, e, h1, h2, h3⟩ := FP.Core.sum_units (f := FP.Core.b64) (s := s) (c := c) (q := q) (t := !t) (d := d) (r := r) (hx1 ▸ FP.Core.val64_fits x) hyn
  have hq := FP.Core.qmin_b64
  have hneg : FP.Core.zval FP.Core.b64 (.fin (!t) d r) = -(m * ((2 ^ (1074 - k) : Nat) : Int)) := by
    rw [← hy3, hy1]; exact FP.Core.zval_negate FP.Core.b64 (.fin t d r)
  rw [← hx1, hx3, hneg, ← Int.sub_eq_add_neg, ← Int.sub_mul] at h3
  have hr := own_round (s := sg) (c := w) (q := e) (e0 := -1074) (n := n - m) (k := k) hk h (by omega) (by rw [hq] at h2; exact h2) (by
    rw [hq] at h3; rw [h3, show (-1074 - -1074 : Int).toNat = 0 from rfl, Nat.pow_zero, Int.natCast_one, Int.mul_one])
  have hv : FP.Core.val64 (FP.dsub x y) = FP.Core.round FP.Core.b64 (.fin sg w e) := by
    have := FP.Core.val64_dsub x y
    rw [hx1, hy1] at this
    exact this.trans (congrArg _ h1)
  unfold own_Dy
  rw [hv]
  exact ⟨hr.1, hk, hr.2⟩
theorem own_Dy.mul {x y : UInt64} {n m : Int} {k j : Nat} (hx : own_Dy x n k) (hy : own_Dy y m j) (hkj : k + j ≤ 1074) (h : (n * m).natAbs < 9007199254740992) : own_Dy (FP.dmul x y) (n * m) (k + j) := by
  obtain ⟨⟨s, c, q, hx1⟩, hk, hx3⟩ := hx
  obtain ⟨⟨t, d, r, hy1⟩, hj, hy3⟩ := hy
  obtain ⟨h1, h2, h3⟩ := FP.Core.product_units (f := FP.Core.b64) (hx1 ▸ FP.Core.val64_fits x) (hy1 ▸ FP.Core.val64_fits y)
  have hq := FP.Core.qmin_b64
  have hs : FP.Core.signed (s != t) (FP.Core.zmag FP.Core.b64 (.fin s c q) * FP.Core.zmag FP.Core.b64 (.fin t d r)) = FP.Core.zval FP.Core.b64 (.fin s c q) * FP.Core.zval FP.Core.b64 (.fin t d r) := by
    show _ = FP.Core.signed s (FP.Core.zmag FP.Core.b64 (.fin s c q)) * FP.Core.signed t (FP.Core.zmag FP.Core.b64 (.fin t d r))
    generalize FP.Core.zmag FP.Core.b64 (.fin s c q) = a
    generalize FP.Core.zmag FP.Core.b64 (.fin t d r) = b
    cases s <;> cases t <;> simp [FP.Core.signed, Int.natCast_mul, Int.neg_mul, Int.mul_neg]
  have hr := own_round (s := s != t) (c := c * d) (q := q + r) (e0 := -2148) (n := n * m) (k := k + j) hkj h (by omega) (by rw [hq] at h2; omega) (by
    rw [hq] at h3
    have h3' : FP.Core.inUnits (c * d) (q + r) (-2148) = FP.Core.zmag FP.Core.b64 (FP.Core.Datum.fin s c q) * FP.Core.zmag FP.Core.b64 (FP.Core.Datum.fin t d r) := h3
    rw [h3', hs, ← hx1, ← hy1, hx3, hy3, show (-1074 - -2148 : Int).toNat = 1074 from rfl]
    have e1 : ((2 ^ (1074 - k) : Nat) : Int) * ((2 ^ (1074 - j) : Nat) : Int) = ((2 ^ (1074 - (k + j)) : Nat) : Int) * ((2 ^ 1074 : Nat) : Int) := by
      rw [← Int.natCast_mul, ← Int.natCast_mul, ← Nat.pow_add, ← Nat.pow_add]; congr 2; omega
    generalize ((2 ^ (1074 - k) : Nat) : Int) = A at e1 ⊢
    generalize ((2 ^ (1074 - j) : Nat) : Int) = B at e1 ⊢
    generalize ((2 ^ (1074 - (k + j)) : Nat) : Int) = C at e1 ⊢
    generalize ((2 ^ 1074 : Nat) : Int) = D at e1 ⊢
    calc n * A * (m * B) = n * m * (A * B) := by ac_rfl
      _ = n * m * C * D := by rw [e1]; ac_rfl)
  have hv : FP.Core.val64 (FP.dmul x y) = FP.Core.round FP.Core.b64 (.fin (s != t) (c * d) (q + r)) := by
    have := FP.Core.val64_dmul x y
    rw [hx1, hy1] at this
    exact this.trans (congrArg _ h1)
  unfold own_Dy
  rw [hv]
  exact ⟨hr.1, hkj, hr.2⟩
theorem own_Dy.cmp {x y : UInt64} {n m : Int} {k : Nat} (hx : own_Dy x n k) (hy : own_Dy y m k) : FP.dcmp x y = some (compare n m) := by
  have h := FP.Core.dcmp_zval hx.ne hy.ne
  rw [hx.2.2, hy.2.2, FP.Core.compare_mul_pos _ _ _ (by have := Nat.two_pow_pos (1074 - k); omega)] at h
  exact h
theorem own_Dy.eq {x y : UInt64} {n m : Int} {k : Nat} (hx : own_Dy x n k) (hy : own_Dy y m k) (h : n = m) (o : CmpOp) : cmpValue (FP.dcmp x y) o = 0 := by
  rw [hx.cmp hy, (FP.Core.compare_eq_iff n m).mpr h]; rfl
theorem own_Dy.lt {x y : UInt64} {n m : Int} {k : Nat} (hx : own_Dy x n k) (hy : own_Dy y m k) (h : n < m) (o : CmpOp) : cmpValue (FP.dcmp x y) o = -1 := by
  rw [hx.cmp hy, (FP.Core.compare_lt_iff n m).mpr h]; rfl
theorem own_Dy.gt {x y : UInt64} {n m : Int} {k : Nat} (hx : own_Dy x n k) (hy : own_Dy y m k) (h : m < n) (o : CmpOp) : cmpValue (FP.dcmp x y) o = 1 := by
  rw [hx.cmp hy, (FP.Core.compare_gt_iff n m).mpr h]; rfl
end OwnFloat
section OwnInt
theorem own_ladd {a b : Int64} (h : (a.toInt + b.toInt).natAbs < 9223372036854775808) : (a + b).toInt = a.toInt + b.toInt := by
  have q := c_ladd a b; have r := rng64 (a + b); omega
theorem own_lsub {a b : Int64} (h : (a.toInt - b.toInt).natAbs < 9223372036854775808) : (a - b).toInt = a.toInt - b.toInt := by
  have q := c_lsub a b; have r := rng64 (a - b); omega
theorem own_lmul {a b : Int64} (h : (a.toInt * b.toInt).natAbs < 9223372036854775808) : (a * b).toInt = a.toInt * b.toInt := by
  have q := c_lmul a b; have r := rng64 (a * b); generalize a.toInt * b.toInt = z at *; omega
theorem own_iadd {a b : Int32} (h : (a.toInt + b.toInt).natAbs < 2147483648) : (a + b).toInt = a.toInt + b.toInt := by
  have q := c_iadd a b; have r := rng32 (a + b); omega
theorem own_isub {a b : Int32} (h : (a.toInt - b.toInt).natAbs < 2147483648) : (a - b).toInt = a.toInt - b.toInt := by
  have q := c_isub a b; have r := rng32 (a - b); omega
theorem own_imul {a b : Int32} (h : (a.toInt * b.toInt).natAbs < 2147483648) : (a * b).toInt = a.toInt * b.toInt := by
  have q := c_imul a b; have r := rng32 (a * b); generalize a.toInt * b.toInt = z at *; omega
theorem own_absmul {n m : Int} {A B : Nat} (hn : n.natAbs ≤ A) (hm : m.natAbs ≤ B) : (n * m).natAbs ≤ A * B := by
  rw [Int.natAbs_mul]; exact Nat.mul_le_mul hn hm
end OwnInt
section OwnShift
theorem own_bv {q : Int32} {n : Nat} (h : q.toInt = (n : Int)) : q.toBitVec.toNat = n := by
  have h1 : q.toBitVec.toInt = (n : Int) := h
  have h2 := BitVec.toInt_eq_toNat_cond q.toBitVec
  have h3 := q.toBitVec.isLt
  split at h2 <;> omega
theorem own_lshl {x : Int64} {q : Int32} {n : Nat} (hq : q.toInt = (n : Int)) (hn : n < 64) (hb : (x.toInt * ((2 ^ n : Nat) : Int)).natAbs < 9223372036854775808) : (x <<< (q &&& 0x3f).toInt64).toInt = x.toInt * ((2 ^ n : Nat) : Int) := by
  have h1 := c_lshl x q n (by rw [own_bv hq]; omega)
  have h2 := rng64 (x <<< (q &&& 0x3f).toInt64)
  generalize x.toInt * ((2 ^ n : Nat) : Int) = z at *
  omega
theorem own_ishl {x : Int32} {q : Int32} {n : Nat} (hq : q.toInt = (n : Int)) (hn : n < 32) (hb : (x.toInt * ((2 ^ n : Nat) : Int)).natAbs < 2147483648) : (x <<< (q &&& 31)).toInt = x.toInt * ((2 ^ n : Nat) : Int) := by
  have h1 := c_ishl x q n (by rw [own_bv hq]; omega)
  have h2 := rng32 (x <<< (q &&& 31))
  generalize x.toInt * ((2 ^ n : Nat) : Int) = z at *
  omega
theorem own_ishl1 {q : Int32} {n : Nat} (hq : q.toInt = (n : Int)) (hn : n < 31) : ((1 : Int32) <<< (q &&& 31)).toInt = ((2 ^ n : Nat) : Int) := by
  have e : (1 : Int32).toInt = 1 := by decide
  have hp : 2 ^ n ≤ 2 ^ 30 := Nat.pow_le_pow_right (by omega) (by omega)
  rw [own_ishl hq (by omega) (by rw [e, Int.one_mul, Int.natAbs_natCast]; omega), e, Int.one_mul]
theorem own_lshl1 {q : Int32} {n : Nat} (hq : q.toInt = (n : Int)) (hn : n < 63) : ((1 : Int64) <<< (q &&& 0x3f).toInt64).toInt = ((2 ^ n : Nat) : Int) := by
  have e : (1 : Int64).toInt = 1 := by decide
  have hp : 2 ^ n ≤ 2 ^ 62 := Nat.pow_le_pow_right (by omega) (by omega)
  rw [own_lshl hq (by omega) (by rw [e, Int.one_mul, Int.natAbs_natCast]; omega), e, Int.one_mul]
/-- a mask of ones: what is left is some natural below the power -/
theorem own_andN (x : Int32) (mk : Int32) (M : Nat) (hM : mk.toInt = (M : Int)) : ∃ n : Nat, (x &&& mk).toInt = (n : Int) ∧ n ≤ M := by
  have h := c_and x mk (by omega)
  exact ⟨(x &&& mk).toInt.toNat, by omega, by omega⟩
theorem own_andL (x : Int64) (mk : Int64) (k : Nat) (hk : k ≤ 63) (hm : mk.toBitVec.toNat = 2 ^ k - 1) : ∃ n : Nat, (x &&& mk).toInt = (n : Int) ∧ n < 2 ^ k := by
  have h := c_maskL x mk k hk hm
  have hp := Nat.two_pow_pos k
  have h1 := Int.emod_nonneg x.toInt (show ((2 ^ k : Nat) : Int) ≠ 0 by omega)
  have h2 := Int.emod_lt_of_pos x.toInt (show (0 : Int) < ((2 ^ k : Nat) : Int) by omega)
  exact ⟨(x &&& mk).toInt.toNat, by omega, by omega⟩
theorem own_irem {x y : Int32} (hx : 0 ≤ x.toInt) (hy : 0 < y.toInt) : (x % y).toInt = x.toInt % y.toInt := by
  rw [Int32.toInt_mod, Int.tmod_eq_emod_of_nonneg hx]
theorem own_lrem {x y : Int64} (hx : 0 ≤ x.toInt) (hy : 0 < y.toInt) : (x - x / y * y).toInt = x.toInt % y.toInt := by
  rw [lrem_mod, Int64.toInt_mod, Int.tmod_eq_emod_of_nonneg hx]
end OwnShift
section OwnPlain
open Jvm.Free.Fl
def own_cnt (d : UInt64) : Int32 := if ifCond.holds .le (cmpValue (FP.dcmp d (0 : UInt64)) .l) = true then 0 else if ifCond.holds .ge (cmpValue (FP.dcmp d (9218868437227405312 : UInt64)) .g) = true then 0 else 1
theorem own_cnt_pos {d : UInt64} (h1 : FP.dcmp d 0 = some .gt) (h2 : Fin64 d) : own_cnt d = 1 := by
  unfold own_cnt
  rw [h1, dcmp_pinf h2 .g]
  decide
theorem own_cnt_neg {d : UInt64} (h : FP.Core.val64 d ≠ .nan) (hz : FP.Core.zval FP.Core.b64 (FP.Core.val64 d) ≤ 0) : own_cnt d = 0 := by
  have h0 := FP.Core.dcmp_zval h (b := 0) (by rw [FP.Core.val64_zero]; exact FP.Core.Datum.noConfusion)
  rw [FP.Core.zval64_zero] at h0
  have h1 : FP.dcmp d 0 = some .lt ∨ FP.dcmp d 0 = some .eq := by
    rcases Int.lt_or_eq_of_le hz with q | q
    · exact Or.inl (h0.trans (by rw [(FP.Core.compare_lt_iff _ _).mpr q]))
    · exact Or.inr (h0.trans (by rw [(FP.Core.compare_eq_iff _ _).mpr q]))
  unfold own_cnt
  exact if_pos (by rcases h1 with q | q <;> rw [q] <;> decide)
theorem own_cnt_inf : own_cnt 9218868437227405312 = 0 := by decide +kernel
theorem own_pos_of {d : UInt64} (h : FP.Core.val64 d ≠ .nan) (hz : 0 < FP.Core.zval FP.Core.b64 (FP.Core.val64 d)) : FP.dcmp d 0 = some .gt := by
  have h0 := FP.Core.dcmp_zval h (b := 0) (by rw [FP.Core.val64_zero]; exact FP.Core.Datum.noConfusion)
  rw [FP.Core.zval64_zero] at h0
  exact h0.trans (by rw [(FP.Core.compare_gt_iff _ _).mpr hz])
/-- the sign goes through a product with a positive constant -/
theorem own_sg {x c : UInt64} (hx : FP.Core.val64 x ≠ .nan) {d : Nat} {r : Int} (hc : FP.Core.val64 c = .fin false d r) (hd : d ≠ 0) :
    FP.Core.val64 (FP.dmul x c) ≠ .nan ∧ FP.Core.sgn (FP.Core.val64 (FP.dmul x c)) = FP.Core.sgn (FP.Core.val64 x) := by
  have hv : FP.Core.val64 (FP.dmul x c) = FP.Core.round FP.Core.b64 (FP.Core.exactProduct (FP.Core.val64 x) (FP.Core.val64 c)) := FP.Core.val64_dmul x c
  rw [hv, hc]
  cases h : FP.Core.val64 x with
  | nan => exact absurd h hx
  | inf s => simp [FP.Core.exactProduct, hd, FP.Core.round, FP.Core.sgn]
  | fin s a q =>
    show FP.Core.roundRatio FP.Core.b64 (s != false) (a * d) 1 (q + r) ≠ .nan ∧ FP.Core.sgn (FP.Core.roundRatio FP.Core.b64 (s != false) (a * d) 1 (q + r)) = s
    rw [FP.Core.sgn_roundRatio]
    exact ⟨FP.Core.roundRatio_ne_nan _ _ _ _ _, by cases s <;> rfl⟩
theorem own_zneg {d : FP.Core.Datum} (h : FP.Core.sgn d = true) : FP.Core.zval FP.Core.b64 d ≤ 0 := by
  unfold FP.Core.zval FP.Core.signed
  rw [h]; simp
theorem own_zpos {d : FP.Core.Datum} (h : FP.Core.sgn d = false) : FP.Core.zval FP.Core.b64 d = (FP.Core.zmag FP.Core.b64 d : Int) := by
  unfold FP.Core.zval FP.Core.signed
  rw [h]; simp
/-- x at least 1: the product is at least the constant -/
theorem own_grow {x c : UInt64} {a : Nat} {q : Int} (hx : FP.Core.val64 x = .fin false a q) (hx1 : 2 ^ 1074 ≤ FP.Core.zmag FP.Core.b64 (FP.Core.val64 x)) {d : Nat} {r : Int} (hc : FP.Core.val64 c = .fin false d r) :
    FP.Core.zmag FP.Core.b64 (FP.Core.val64 c) ≤ FP.Core.zmag FP.Core.b64 (FP.Core.val64 (FP.dmul x c)) := by
  have hv : FP.Core.val64 (FP.dmul x c) = FP.Core.round FP.Core.b64 (FP.Core.exactProduct (FP.Core.val64 x) (FP.Core.val64 c)) := FP.Core.val64_dmul x c
  obtain ⟨h1, h2, h3⟩ := FP.Core.product_units (f := FP.Core.b64) (hx ▸ FP.Core.val64_fits x) (hc ▸ FP.Core.val64_fits c)
  have hq := FP.Core.qmin_b64
  have g := FP.Core.zmag_roundRatio_ge FP.Core.good_b64 (s := false != false) (A := a * d) (B := 1) (e := q + r) (e0 := -2148) (V := FP.Core.val64 c) (by decide) (FP.Core.val64_fits c) (by rw [hq]; omega) (by rw [hq] at h2; omega) (by
    rw [hq] at h3 ⊢
    rw [show (-2148 : Int) = 2 * -1074 from rfl, h3, ← hx, ← hc, Nat.mul_one, show (-1074 - 2 * -1074 : Int).toNat = 1074 from rfl, Nat.mul_comm]
    exact Nat.mul_le_mul_right _ hx1)
  rw [hv, hx, hc, h1]
  rw [hc] at g
  exact g
theorem own_i2d_neg {p0 : Int32} (h : p0.toInt < 0) : FP.Core.val64 (FP.i2d p0) ≠ .nan ∧ FP.Core.sgn (FP.Core.val64 (FP.i2d p0)) = true := by
  obtain ⟨c, q, h1⟩ := FP.Core.l2d_shape p0.toInt64
  have e : FP.Core.val64 (FP.i2d p0) = .fin (decide (p0.toInt64.toInt < 0)) c q := by rw [← h1]; exact congrArg FP.Core.val64 (FP.Core.i2d_l2d p0)
  rw [e, Int32.toInt_toInt64]
  exact ⟨FP.Core.Datum.noConfusion, by simp [FP.Core.sgn, h]⟩
theorem own_i2d_pos {p0 : Int32} (h : 0 < p0.toInt) : ∃ c q, FP.Core.val64 (FP.i2d p0) = .fin false c q ∧ 2 ^ 1074 ≤ FP.Core.zmag FP.Core.b64 (FP.Core.val64 (FP.i2d p0)) := by
  obtain ⟨c, q, h1⟩ := FP.Core.l2d_shape p0.toInt64
  have e : FP.Core.val64 (FP.i2d p0) = .fin (decide (p0.toInt64.toInt < 0)) c q := by rw [← h1]; exact congrArg FP.Core.val64 (FP.Core.i2d_l2d p0)
  rw [Int32.toInt_toInt64, show decide (p0.toInt < 0) = false by simp; omega] at e
  refine ⟨c, q, e, ?_⟩
  have hz := (own_dy_i2d p0).2.2
  rw [own_zpos (by rw [e]; rfl), Nat.sub_zero] at hz
  obtain ⟨m, hm⟩ := Int.eq_ofNat_of_zero_le (Int.le_of_lt h)
  rw [hm, ← Int.natCast_mul] at hz
  have hz' := Int.ofNat.inj hz
  rw [hz']
  exact Nat.le_mul_of_pos_left _ (by omega)
theorem own_cnt_big {d : UInt64} (h : FP.Core.val64 d ≠ .nan) (hz : FP.Core.zval FP.Core.b64 (FP.Core.val64 9218868437227405312) ≤ FP.Core.zval FP.Core.b64 (FP.Core.val64 d)) : own_cnt d = 0 := by
  have h0 := FP.Core.dcmp_zval h (b := 9218868437227405312) (by decide +kernel)
  have h1 : FP.dcmp d 9218868437227405312 = some .gt ∨ FP.dcmp d 9218868437227405312 = some .eq := by
    rcases Int.lt_or_eq_of_le hz with q | q
    · exact Or.inl (h0.trans (by rw [(FP.Core.compare_gt_iff _ _).mpr q]))
    · exact Or.inr (h0.trans (by rw [(FP.Core.compare_eq_iff _ _).mpr q.symm]))
  unfold own_cnt
  split
  · rfl
  · rcases h1 with q | q <;> rw [q] <;> decide
theorem own_zinf : FP.Core.zval FP.Core.b64 (FP.Core.val64 9218868437227405312) = (FP.Core.zmag FP.Core.b64 (.inf false) : Int) := by
  rw [show FP.Core.val64 9218868437227405312 = .inf false by decide +kernel]; exact own_zpos rfl
/-- a product of two that are each as great as c is infinite, where c times c is -/
theorem own_big {y c : UInt64} (hy : FP.Core.val64 y ≠ .nan) (hs : FP.Core.sgn (FP.Core.val64 y) = false) {d : Nat} {r : Int} (hc : FP.Core.val64 c = .fin false d r) (hd : d ≠ 0) (hyc : FP.Core.zmag FP.Core.b64 (FP.Core.val64 c) ≤ FP.Core.zmag FP.Core.b64 (FP.Core.val64 y))
    (hcc : FP.Core.zmag FP.Core.b64 (.inf false) * 2 ^ 1074 ≤ FP.Core.zmag FP.Core.b64 (FP.Core.val64 c) * FP.Core.zmag FP.Core.b64 (FP.Core.val64 c)) : own_cnt (FP.dmul y c) = 0 := by
  have g := own_sg hy hc hd
  refine own_cnt_big g.1 ?_
  rw [own_zinf, own_zpos (by rw [g.2, hs])]
  refine Int.ofNat_le.mpr ?_
  have hv : FP.Core.val64 (FP.dmul y c) = FP.Core.round FP.Core.b64 (FP.Core.exactProduct (FP.Core.val64 y) (FP.Core.val64 c)) := FP.Core.val64_dmul y c
  rw [hv]
  cases hx : FP.Core.val64 y with
  | nan => exact absurd hx hy
  | inf s => rw [hc]; simp [FP.Core.exactProduct, hd, FP.Core.round, FP.Core.zmag]
  | fin s a q =>
    obtain ⟨h1, h2, h3⟩ := FP.Core.product_units (f := FP.Core.b64) (hx ▸ FP.Core.val64_fits y) (hc ▸ FP.Core.val64_fits c)
    have hq := FP.Core.qmin_b64
    rw [hc, h1]
    refine FP.Core.zmag_roundRatio_ge FP.Core.good_b64 (e0 := -2148) (V := .inf false) (by decide) trivial (by rw [hq]; omega) (by rw [hq] at h2; omega) ?_
    rw [hq] at h3 ⊢
    rw [show (-2148 : Int) = 2 * -1074 from rfl, h3, ← hx, ← hc, Nat.mul_one, show (-1074 - 2 * -1074 : Int).toNat = 1074 from rfl]
    exact Nat.le_trans hcc (Nat.mul_le_mul_right _ hyc)
theorem own_lt {p0 : Int32} (h : (0 : Int32) < p0) : 0 < p0.toInt := by rw [Int32.lt_iff_toInt_lt] at h; exact h
theorem own_ng {p0 : Int32} (h : ¬ (0 : Int32) < p0) : p0 = 0 ∨ p0.toInt < 0 := by
  rw [Int32.lt_iff_toInt_lt] at h
  have e : (0 : Int32).toInt = 0 := by decide
  rcases Int.lt_or_eq_of_le (Int.not_lt.mp h) with q | q
  · exact Or.inr (by omega)
  · exact Or.inl (Int32.toInt_inj.mp q)
theorem own_law0t (p0 : Int32) (h : (0 : Int32) < p0) : own_cnt (FP.i2d p0) = 1 := by
  have d := own_dy_i2d p0
  refine own_cnt_pos (own_pos_of d.ne ?_) (i2d_fin p0)
  rw [d.2.2]; exact Int.mul_pos (own_lt h) (by have := Nat.two_pow_pos (1074 - 0); omega)
theorem own_law0f (p0 : Int32) (h : ¬ (0 : Int32) < p0) : own_cnt (FP.i2d p0) = 0 := by
  rcases own_ng h with q | q
  · rw [q]; decide +kernel
  · exact own_cnt_neg (own_i2d_neg q).1 (own_zneg (own_i2d_neg q).2)
theorem own_c2 : FP.Core.val64 (118622047889322841 : UInt64) = .fin false 6032057205060441 (-1049) := by decide +kernel
theorem own_c3 : FP.Core.val64 (8945421882333202015 : UInt64) = .fin false 5776622002767455 (911) := by decide +kernel
theorem own_c1 : FP.Core.val64 (9214871658872686752 : UInt64) = .fin false 5010420900022432 (971) := by decide +kernel
theorem own_pt {p0 : Int32} (h : (0 : Int32) < p0) {c : UInt64} {d : Nat} {r : Int} (hc : FP.Core.val64 c = .fin false d r) (hd : d ≠ 0) (hz : 0 < FP.Core.zmag FP.Core.b64 (FP.Core.val64 c)) (hf : Fin64 (FP.dmul (FP.i2d p0) c)) : own_cnt (FP.dmul (FP.i2d p0) c) = 1 := by
  obtain ⟨a, q, e, hx⟩ := own_i2d_pos (own_lt h)
  have g := own_sg (x := FP.i2d p0) (by rw [e]; exact FP.Core.Datum.noConfusion) hc hd
  refine own_cnt_pos (own_pos_of g.1 ?_) hf
  rw [own_zpos (by rw [g.2, e]; rfl)]
  exact Int.natCast_pos.mpr (Nat.lt_of_lt_of_le hz (own_grow e hx hc))
theorem own_pf {p0 : Int32} (h : p0.toInt < 0) {c : UInt64} {d : Nat} {r : Int} (hc : FP.Core.val64 c = .fin false d r) (hd : d ≠ 0) : own_cnt (FP.dmul (FP.i2d p0) c) = 0 := by
  have g := own_sg (own_i2d_neg h).1 hc hd
  exact own_cnt_neg g.1 (own_zneg (by rw [g.2]; exact (own_i2d_neg h).2))
theorem own_law2t (p0 : Int32) (h : (0 : Int32) < p0) : own_cnt (FP.dmul (FP.i2d p0) (118622047889322841 : UInt64)) = 1 := own_pt h own_c2 (by decide) (by decide +kernel) (by
  have q := dmul_mag (i2d_mag p0) (show Mag64 27 (118622047889322841 : UInt64) by unfold Mag64; decide) (by decide) (by decide)
  exact q.fin (by decide))
theorem own_law3t (p0 : Int32) (h : (0 : Int32) < p0) : own_cnt (FP.dmul (FP.i2d p0) (8945421882333202015 : UInt64)) = 1 := own_pt h own_c3 (by decide) (by decide +kernel) (by
  have q := dmul_mag (i2d_mag p0) (show Mag64 1987 (8945421882333202015 : UInt64) by unfold Mag64; decide) (by decide) (by decide)
  exact q.fin (by decide))
theorem own_law2f (p0 : Int32) (h : ¬ (0 : Int32) < p0) : own_cnt (FP.dmul (FP.i2d p0) (118622047889322841 : UInt64)) = 0 := by
  rcases own_ng h with q | q
  · rw [q]; decide +kernel
  · exact own_pf q own_c2 (by decide)
theorem own_law3f (p0 : Int32) (h : ¬ (0 : Int32) < p0) : own_cnt (FP.dmul (FP.i2d p0) (8945421882333202015 : UInt64)) = 0 := by
  rcases own_ng h with q | q
  · rw [q]; decide +kernel
  · exact own_pf q own_c3 (by decide)
theorem own_nn1 (p0 : Int32) : NoNaN64 (FP.dmul (FP.i2d p0) (9214871658872686752 : UInt64)) := val64_no.mpr (own_sg (own_dy_i2d p0).ne own_c1 (by decide)).1
theorem own_nn1' (p0 : Int32) : NoNaN64 (FP.dmul (FP.dmul (FP.i2d p0) (9214871658872686752 : UInt64)) (9214871658872686752 : UInt64)) := val64_no.mpr (own_sg (own_sg (own_dy_i2d p0).ne own_c1 (by decide)).1 own_c1 (by decide)).1
theorem own_law1 (p0 : Int32) : own_cnt (FP.dmul (FP.dmul (FP.i2d p0) (9214871658872686752 : UInt64)) (9214871658872686752 : UInt64)) = 0 := by
  by_cases h : (0 : Int32) < p0
  · obtain ⟨a, q, e, hx⟩ := own_i2d_pos (own_lt h)
    have g := own_sg (own_dy_i2d p0).ne own_c1 (by decide)
    exact own_big g.1 (by rw [g.2, e]; rfl) own_c1 (by decide) (own_grow e hx own_c1) (by decide +kernel)
  · rcases own_ng h with q | q
    · rw [q]; decide +kernel
    · have g := own_sg (own_i2d_neg q).1 own_c1 (by decide)
      have g2 := own_sg g.1 own_c1 (by decide)
      exact own_cnt_neg g2.1 (own_zneg (by rw [g2.2, g.2]; exact (own_i2d_neg q).2))
end OwnPlain
theorem d1_0 : decode prog_36_method_2_code 0 = .ok (.dload_n 0, 1) := by decide +kernel
theorem d1_1 : decode prog_36_method_2_code 1 = .ok (.dconst 0, 1) := by decide +kernel
theorem d1_2 : decode prog_36_method_2_code 2 = .ok (.dcmp .l, 1) := by decide +kernel
theorem d1_3 : decode prog_36_method_2_code 3 = .ok (.ifCond .le 15, 3) := by decide +kernel
theorem d1_6 : decode prog_36_method_2_code 6 = .ok (.dload_n 0, 1) := by decide +kernel
theorem d1_7 : decode prog_36_method_2_code 7 = .ok (.ldc2_w 23, 3) := by decide +kernel
theorem d1_10 : decode prog_36_method_2_code 10 = .ok (.dcmp .g, 1) := by decide +kernel
theorem d1_11 : decode prog_36_method_2_code 11 = .ok (.ifCond .ge 7, 3) := by decide +kernel
theorem d1_14 : decode prog_36_method_2_code 14 = .ok (.iconst 1, 1) := by decide +kernel
theorem d1_15 : decode prog_36_method_2_code 15 = .ok (.goto 4, 3) := by decide +kernel
theorem d1_18 : decode prog_36_method_2_code 18 = .ok (.iconst 0, 1) := by decide +kernel
theorem d1_19 : decode prog_36_method_2_code 19 = .ok (.ireturn, 1) := by decide +kernel
theorem pn1 : plainName "com/example/merkmal/merkmal/index/Postings" = true := by first | (simp [plainName, overriddenIn]; done) | decide +kernel
theorem ef1 (m : MethodId) (d0 : UInt64) : entryFrame m #[(.double d0)] 2 = mkF m 0 #[.val (.double d0), .second] [] := by first | (simp [entryFrame, mkF, argsToLocals, Value.category]; done) | rfl
def Q1 (Z : State) (d0 : UInt64) (h0 : Heap) (n0 : Nat) (v : Option Value) (h : Heap) (L : List Loc) : Prop := v = some (.int (own_cnt d0)) ∧ Fr n0 L ∧ h = h0
set_option maxRecDepth 65536 in
set_option maxHeartbeats 40000000 in
theorem rm1 (l : Launch) (Z : State) (ar : Array Value) (hw : ∀ d ∈ tables_1, d.before ar Z = true) (ws : List Jvm.Cond) (d0 : UInt64) (h0 : Heap) (n0 : Nat) (Z0 : n0 ≤ h0.size) :
    MetFree l (⟨"com/example/merkmal/merkmal/index/Postings", "isCount", "(D)Z"⟩ : MethodName) (head1 (Jvm.Cond.code (⟨"com/example/merkmal/merkmal/index/Postings", "isCount", "(D)Z"⟩ : MethodName) prog_36_method_2_code 2 (some .boolean) :: ws) ({ frames := 0, cells := 0, slots := 0, locals := 0 } : Room)) (fun a U => a = #[(.double d0)] ∧ Z.Warmed39 U.vm ∧ U.heap = h0) (fun _ _ _ _ _ => True) (fun _ U o U' => ∃ v L, o = .returned v ∧ Q1 Z d0 h0 n0 v U'.heap L ∧ FrameEnd U o U' L ({ frames := 0, cells := 0, slots := 0, locals := 0 } : Room).cells ({ frames := 0, cells := 0, slots := 0, locals := 0 } : Room).slots) := by
  refine MetFree.of_bodySF (plainFor_of_name pn1) hisR ?_
  intro p e s m args below meth c s₁ Bd hml0 hP hK
  obtain ⟨rfl, hZ, hh⟩ := hP
  have hx := Bd.exec
  have hby := Bd.bytes
  have hlk := Bd.notSynchronized
  have hml : c.maxLocals = 2 := hml0
  have hown : s.vm.findClass "com/example/merkmal/merkmal/index/Postings" = some m.cls := findClass_of_methodNamed Bd.named
  have hnm := (name_of_methodNamed Bd.named Bd.method).1
  have X0 : Stand p l e ({ frames := 0, cells := 0, slots := 0, locals := 0 } : Room) s m #[(.double d0)] below meth c s₁ [] 0 0 := Stand.of_body Bd
  have e0 : s₁.heap = h0 := by rw [← hh, Bd.state]; rfl
  have N0 := Fr.nil n0
  have K0 := Keep.refl h0 []
  refine own_enter (Q := Q1 Z d0 h0 n0) (ef1 m d0) ?_
  refine own_st (T' := s₁) (g' := (mkF m 3 #[.val (.double d0), .second] [(.int (cmpValue (FP.dcmp d0 (0 : UInt64)) .l))])) (fun t k => ?_) ?_
  · show Steps p.tables e below (s₁.setTop (mkF m 0 #[.val (.double d0), .second] [])) t
    refine XS.dloadN X0.here hx rfl (hb hby d1_0) rfl ?_
    show Steps p.tables e below (s₁.setTop (mkF m 1 #[.val (.double d0), .second] [(.double d0)])) t
    refine XS.dconst0 X0.here hx rfl (hb hby d1_1) rfl ?_
    show Steps p.tables e below (s₁.setTop (mkF m 2 #[.val (.double d0), .second] [(.double (0 : UInt64)), (.double d0)])) t
    refine XS.dcmpS X0.here hx rfl (hb hby d1_2) rfl rfl ?_
    exact k
  by_cases hc3_1 : ifCond.holds .le (cmpValue (FP.dcmp d0 (0 : UInt64)) .l) = true
  · refine own_st (T' := s₁) (g' := (mkF m 19 #[.val (.double d0), .second] [(.int (0 : Int32))])) (fun t k => ?_) ?_
    · show Steps p.tables e below (s₁.setTop (mkF m 3 #[.val (.double d0), .second] [(.int (cmpValue (FP.dcmp d0 (0 : UInt64)) .l))])) t
      refine XS.ifYes X0.here hx rfl (pc0 := 3) (pc' := 18) rfl (hb hby d1_3) rfl hc3_1 (by decide) (by decide) ?_
      show Steps p.tables e below (s₁.setTop (mkF m 18 #[.val (.double d0), .second] [])) t
      refine XS.iconst X0.here hx rfl (hb hby d1_18) ?_
      exact k
    refine own_retZ X0 hx hlk Bd.returns (hb hby d1_19) rfl (by decide) (by decide) ?_
    show Q1 Z d0 h0 n0 (some (.int (0 : Int32))) s₁.heap _
    rw [(e0 : s₁.heap = h0)]
    exact ⟨congrArg (fun z => some (Value.int z)) (by unfold own_cnt; rw [if_pos hc3_1]), N0, rfl⟩
  · refine own_st (T' := s₁) (g' := (mkF m 11 #[.val (.double d0), .second] [(.int (cmpValue (FP.dcmp d0 (9218868437227405312 : UInt64)) .g))])) (fun t k => ?_) ?_
    · show Steps p.tables e below (s₁.setTop (mkF m 3 #[.val (.double d0), .second] [(.int (cmpValue (FP.dcmp d0 (0 : UInt64)) .l))])) t
      refine XS.ifNo X0.here hx rfl (hb hby d1_3) rfl (Bool.eq_false_iff.mpr hc3_1) ?_
      show Steps p.tables e below (s₁.setTop (mkF m 6 #[.val (.double d0), .second] [])) t
      refine XS.dloadN X0.here hx rfl (hb hby d1_6) rfl ?_
      show Steps p.tables e below (s₁.setTop (mkF m 7 #[.val (.double d0), .second] [(.double d0)])) t
      refine X0.ldc2DoubleC hx hown (mvT hZ (hw _ (List.mem_of_getElem? (i := 6) rfl))) (g := (mkF m 7 #[.val (.double d0), .second] [(.double d0)])) rfl (hb hby d1_7) _ ?_
      show Steps p.tables e below (s₁.setTop (mkF m 10 #[.val (.double d0), .second] [(.double (9218868437227405312 : UInt64)), (.double d0)])) t
      refine XS.dcmpS X0.here hx rfl (hb hby d1_10) rfl rfl ?_
      exact k
    by_cases hc11_2 : ifCond.holds .ge (cmpValue (FP.dcmp d0 (9218868437227405312 : UInt64)) .g) = true
    · refine own_st (T' := s₁) (g' := (mkF m 19 #[.val (.double d0), .second] [(.int (0 : Int32))])) (fun t k => ?_) ?_
      · show Steps p.tables e below (s₁.setTop (mkF m 11 #[.val (.double d0), .second] [(.int (cmpValue (FP.dcmp d0 (9218868437227405312 : UInt64)) .g))])) t
        refine XS.ifYes X0.here hx rfl (pc0 := 11) (pc' := 18) rfl (hb hby d1_11) rfl hc11_2 (by decide) (by decide) ?_
        show Steps p.tables e below (s₁.setTop (mkF m 18 #[.val (.double d0), .second] [])) t
        refine XS.iconst X0.here hx rfl (hb hby d1_18) ?_
        exact k
      refine own_retZ X0 hx hlk Bd.returns (hb hby d1_19) rfl (by decide) (by decide) ?_
      show Q1 Z d0 h0 n0 (some (.int (0 : Int32))) s₁.heap _
      rw [(e0 : s₁.heap = h0)]
      exact ⟨congrArg (fun z => some (Value.int z)) (by unfold own_cnt; rw [if_neg hc3_1]; rw [if_pos hc11_2]), N0, rfl⟩
    · refine own_st (T' := s₁) (g' := (mkF m 19 #[.val (.double d0), .second] [(.int (1 : Int32))])) (fun t k => ?_) ?_
      · show Steps p.tables e below (s₁.setTop (mkF m 11 #[.val (.double d0), .second] [(.int (cmpValue (FP.dcmp d0 (9218868437227405312 : UInt64)) .g))])) t
        refine XS.ifNo X0.here hx rfl (hb hby d1_11) rfl (Bool.eq_false_iff.mpr hc11_2) ?_
        show Steps p.tables e below (s₁.setTop (mkF m 14 #[.val (.double d0), .second] [])) t
        refine XS.iconst X0.here hx rfl (hb hby d1_14) ?_
        show Steps p.tables e below (s₁.setTop (mkF m 15 #[.val (.double d0), .second] [(.int (1 : Int32))])) t
        refine XS.goto X0.here hx rfl (pc0 := 15) (pc' := 19) rfl (hb hby d1_15) (by decide) (by decide) ?_
        exact k
      refine own_retZ X0 hx hlk Bd.returns (hb hby d1_19) rfl (by decide) (by decide) ?_
      show Q1 Z d0 h0 n0 (some (.int (1 : Int32))) s₁.heap _
      rw [(e0 : s₁.heap = h0)]
      exact ⟨congrArg (fun z => some (Value.int z)) (by unfold own_cnt; rw [if_neg hc3_1]; rw [if_neg hc11_2]), N0, rfl⟩
theorem pn0 : plainName "com/example/merkmal/merkmal/index/PostingsIsCountPinLaw" = true := by first | (simp [plainName, overriddenIn]; done) | decide +kernel
theorem pd0_0 : parseMethodDescriptor "(D)Z" = some ⟨[.double], some .boolean⟩ := by decide +kernel
theorem ef0 (m : MethodId) (p0 : Int32) (p1 : Int32) : entryFrame m #[(.int p0), (.int p1)] maxLocals = mkF m 0 #[.val (.int p0), .val (.int p1), .unset, .unset, .unset, .unset] [] := by first | (simp [entryFrame, mkF, argsToLocals, Value.category, maxLocals]; done) | rfl
def Q0 (Z : State) (p0 : Int32) (p1 : Int32) (h0 : Heap) (n0 : Nat) (v : Option Value) (h : Heap) (L : List Loc) : Prop := v = some (.int (1 : Int32)) ∧ Fr n0 L
set_option maxRecDepth 65536 in
set_option maxHeartbeats 40000000 in
theorem rm0 (l : Launch) (Z : State) (ar : Array Value) (hw : ∀ d ∈ tables_1, d.before ar Z = true) (ws : List Jvm.Cond) (p0 : Int32) (p1 : Int32) (h0 : Heap) (n0 : Nat) (Z0 : n0 ≤ h0.size) :
    MetFree l x (head1 (Jvm.Cond.code x code maxLocals ret :: ws) room_1) (fun a U => a = #[(.int p0), (.int p1)] ∧ Z.Warmed39 U.vm ∧ U.heap = h0) (fun _ _ _ _ _ => True) (fun _ U o U' => ∃ v L, o = .returned v ∧ Q0 Z p0 p1 h0 n0 v U'.heap L ∧ FrameEnd U o U' L room_1.cells room_1.slots) := by
  refine MetFree.of_bodySF (plainFor_of_name pn0) hisR ?_
  intro p e s m args below meth c s₁ Bd hml0 hP hK
  obtain ⟨rfl, hZ, hh⟩ := hP
  have hx := Bd.exec
  have hby := Bd.bytes
  have hlk := Bd.notSynchronized
  have hml : c.maxLocals = 6 := hml0
  have hown : s.vm.findClass "com/example/merkmal/merkmal/index/PostingsIsCountPinLaw" = some m.cls := findClass_of_methodNamed Bd.named
  have hnm := (name_of_methodNamed Bd.named Bd.method).1
  have X0 : Stand p l e room_1 s m #[(.int p0), (.int p1)] below meth c s₁ [] 0 0 := Stand.of_body Bd
  have e0 : s₁.heap = h0 := by rw [← hh, Bd.state]; rfl
  have N0 := Fr.nil n0
  have K0 := Keep.refl h0 []
  refine own_enter (Q := Q0 Z p0 p1 h0 n0) (ef0 m p0 p1) ?_
  refine own_st (T' := s₁) (g' := (mkF m 5 #[.val (.int p0), .val (.int p1), .val (.int (p1 &&& (3 : Int32))), .unset, .unset, .unset] [(.int (p1 &&& (3 : Int32)))])) (fun t k => ?_) ?_
  · show Steps p.tables e below (s₁.setTop (mkF m 0 #[.val (.int p0), .val (.int p1), .unset, .unset, .unset, .unset] [])) t
    refine XS.iloadN X0.here hx rfl (hb hby at_0) rfl ?_
    show Steps p.tables e below (s₁.setTop (mkF m 1 #[.val (.int p0), .val (.int p1), .unset, .unset, .unset, .unset] [(.int p1)])) t
    refine XS.iconst X0.here hx rfl (hb hby at_1) ?_
    show Steps p.tables e below (s₁.setTop (mkF m 2 #[.val (.int p0), .val (.int p1), .unset, .unset, .unset, .unset] [(.int (3 : Int32)), (.int p1)])) t
    refine XS.iand X0.here hx rfl (hb hby at_2) rfl ?_
    show Steps p.tables e below (s₁.setTop (mkF m 3 #[.val (.int p0), .val (.int p1), .unset, .unset, .unset, .unset] [(.int (p1 &&& (3 : Int32)))])) t
    refine XS.istoreN X0.here hx rfl (hb hby at_3) rfl (l' := #[.val (.int p0), .val (.int p1), .val (.int (p1 &&& (3 : Int32))), .unset, .unset, .unset]) rfl ?_
    show Steps p.tables e below (s₁.setTop (mkF m 4 #[.val (.int p0), .val (.int p1), .val (.int (p1 &&& (3 : Int32))), .unset, .unset, .unset] [])) t
    refine XS.iloadN X0.here hx rfl (hb hby at_4) rfl ?_
    exact k
  by_cases hc5_1 : (p1 &&& (3 : Int32)) = (0 : Int32)
  · refine own_st (T' := s₁) (g' := (mkF m 12 #[.val (.int p0), .val (.int p1), .val (.int (p1 &&& (3 : Int32))), .val (.double (FP.i2d p0)), .second, .unset] [(.int p0)])) (fun t k => ?_) ?_
    · show Steps p.tables e below (s₁.setTop (mkF m 5 #[.val (.int p0), .val (.int p1), .val (.int (p1 &&& (3 : Int32))), .unset, .unset, .unset] [(.int (p1 &&& (3 : Int32)))])) t
      refine XS.ifNo X0.here hx rfl (hb hby at_5) rfl ((if0 _ _).trans (teq hc5_1).2) ?_
      show Steps p.tables e below (s₁.setTop (mkF m 8 #[.val (.int p0), .val (.int p1), .val (.int (p1 &&& (3 : Int32))), .unset, .unset, .unset] [])) t
      refine XS.iloadN X0.here hx rfl (hb hby at_8) rfl ?_
      show Steps p.tables e below (s₁.setTop (mkF m 9 #[.val (.int p0), .val (.int p1), .val (.int (p1 &&& (3 : Int32))), .unset, .unset, .unset] [(.int p0)])) t
      refine XS.i2dS X0.here hx rfl (hb hby at_9) rfl rfl ?_
      show Steps p.tables e below (s₁.setTop (mkF m 10 #[.val (.int p0), .val (.int p1), .val (.int (p1 &&& (3 : Int32))), .unset, .unset, .unset] [(.double (FP.i2d p0))])) t
      refine XS.dstoreN X0.here hx rfl (hb hby at_10) rfl (l' := #[.val (.int p0), .val (.int p1), .val (.int (p1 &&& (3 : Int32))), .val (.double (FP.i2d p0)), .second, .unset]) rfl ?_
      show Steps p.tables e below (s₁.setTop (mkF m 11 #[.val (.int p0), .val (.int p1), .val (.int (p1 &&& (3 : Int32))), .val (.double (FP.i2d p0)), .second, .unset] [])) t
      refine XS.iloadN X0.here hx rfl (hb hby at_11) rfl ?_
      exact k
    by_cases hc12_2 : (0 : Int32) < p0
    · refine own_st (T' := s₁) (g' := (mkF m 92 #[.val (.int p0), .val (.int p1), .val (.int (p1 &&& (3 : Int32))), .val (.double (FP.i2d p0)), .second, .val (.int (1 : Int32))] [(.double (FP.i2d p0))])) (fun t k => ?_) ?_
      · show Steps p.tables e below (s₁.setTop (mkF m 12 #[.val (.int p0), .val (.int p1), .val (.int (p1 &&& (3 : Int32))), .val (.double (FP.i2d p0)), .second, .unset] [(.int p0)])) t
        refine XS.ifNo X0.here hx rfl (hb hby at_12) rfl ((if0 _ _).trans (tlt hc12_2).2.2.2) ?_
        show Steps p.tables e below (s₁.setTop (mkF m 15 #[.val (.int p0), .val (.int p1), .val (.int (p1 &&& (3 : Int32))), .val (.double (FP.i2d p0)), .second, .unset] [])) t
        refine XS.iconst X0.here hx rfl (hb hby at_15) ?_
        show Steps p.tables e below (s₁.setTop (mkF m 16 #[.val (.int p0), .val (.int p1), .val (.int (p1 &&& (3 : Int32))), .val (.double (FP.i2d p0)), .second, .unset] [(.int (1 : Int32))])) t
        refine XS.goto X0.here hx rfl (pc0 := 16) (pc' := 20) rfl (hb hby at_16) (by decide) (by decide) ?_
        show Steps p.tables e below (s₁.setTop (mkF m 20 #[.val (.int p0), .val (.int p1), .val (.int (p1 &&& (3 : Int32))), .val (.double (FP.i2d p0)), .second, .unset] [(.int (1 : Int32))])) t
        refine XS.istore X0.here hx rfl (hb hby at_20) rfl (l' := #[.val (.int p0), .val (.int p1), .val (.int (p1 &&& (3 : Int32))), .val (.double (FP.i2d p0)), .second, .val (.int (1 : Int32))]) rfl ?_
        show Steps p.tables e below (s₁.setTop (mkF m 22 #[.val (.int p0), .val (.int p1), .val (.int (p1 &&& (3 : Int32))), .val (.double (FP.i2d p0)), .second, .val (.int (1 : Int32))] [])) t
        refine XS.goto X0.here hx rfl (pc0 := 22) (pc' := 91) rfl (hb hby at_22) (by decide) (by decide) ?_
        show Steps p.tables e below (s₁.setTop (mkF m 91 #[.val (.int p0), .val (.int p1), .val (.int (p1 &&& (3 : Int32))), .val (.double (FP.i2d p0)), .second, .val (.int (1 : Int32))] [])) t
        refine XS.dloadN X0.here hx rfl (hb hby at_91) rfl ?_
        exact k
      obtain ⟨_, _, ⟨T3, L3, k3, n3⟩, -, X3, ⟨Lc3, hQ3, l3, y3, z3⟩, st3⟩ := Jvm.LawKit.callS X0 hx (y := (⟨"com/example/merkmal/merkmal/index/Postings", "isCount", "(D)Z"⟩ : MethodName)) hown (mvT hZ (hw _ (List.mem_of_getElem? (i := 1) rfl))) (mvT hZ (hw _ (List.mem_of_getElem? (i := 2) rfl))) (mvT hZ (hw _ (List.mem_of_getElem? (i := 3) rfl))) (mvT hZ (hw _ (List.mem_of_getElem? (i := 4) rfl))) (by decide) (backOf (W := 0) (rm1 l Z ar hw [] ((FP.i2d p0)) h0 n0 Z0) hZ (hw _ (List.mem_of_getElem? (i := 4) rfl)) (hw _ (List.mem_of_getElem? (i := 3) rfl)) (by decide) (by decide)) (g := (mkF m 92 #[.val (.int p0), .val (.int p1), .val (.int (p1 &&& (3 : Int32))), .val (.double (FP.i2d p0)), .second, .val (.int (1 : Int32))] [(.double (FP.i2d p0))])) rfl (by rw [hml]; rfl) (argsL := [(.double (FP.i2d p0))]) (rest := []) (lenOf pd0_0 rfl) rfl (by show 2 * 0 + _ ≤ _; exact Nat.le_of_eq rfl) (hb hby at_92) (fun _ _ => ⟨rfl, e0, (by decide : 0 + 0 ≤ _), (by decide : 0 + 0 ≤ _)⟩)
      dsimp only [Pt.U, Pt.locs, Pt.cells, Pt.slots] at X3 l3 y3 z3 st3 hQ3
      subst l3 y3 z3
      obtain ⟨rfl, N3q, e3⟩ := hQ3
      have n4 := Fr.app N0 N3q
      refine own_st (T' := T3) (g' := (mkF m 95 #[.val (.int p0), .val (.int p1), .val (.int (p1 &&& (3 : Int32))), .val (.double (FP.i2d p0)), .second, .val (.int (1 : Int32))] [(.int (own_cnt (FP.i2d p0)))])) st3 ?_
      refine own_st (T' := T3) (g' := (mkF m 105 #[.val (.int p0), .val (.int p1), .val (.int (p1 &&& (3 : Int32))), .val (.double (FP.i2d p0)), .second, .val (.int (1 : Int32))] [(.int (1 : Int32))])) (fun t k => ?_) ?_
      · show Steps p.tables e below (T3.setTop (mkF m 95 #[.val (.int p0), .val (.int p1), .val (.int (p1 &&& (3 : Int32))), .val (.double (FP.i2d p0)), .second, .val (.int (1 : Int32))] [(.int (own_cnt (FP.i2d p0)))])) t
        refine XS.iload X3.here hx rfl (hb hby at_95) rfl ?_
        show Steps p.tables e below (T3.setTop (mkF m 97 #[.val (.int p0), .val (.int p1), .val (.int (p1 &&& (3 : Int32))), .val (.double (FP.i2d p0)), .second, .val (.int (1 : Int32))] [(.int (1 : Int32)), (.int (own_cnt (FP.i2d p0)))])) t
        refine XS.icmpNo X3.here hx rfl (hb hby at_97) rfl (teq (own_law0t p0 hc12_2 : (own_cnt (FP.i2d p0)) = (1 : Int32))).2 ?_
        show Steps p.tables e below (T3.setTop (mkF m 100 #[.val (.int p0), .val (.int p1), .val (.int (p1 &&& (3 : Int32))), .val (.double (FP.i2d p0)), .second, .val (.int (1 : Int32))] [])) t
        refine XS.iconst X3.here hx rfl (hb hby at_100) ?_
        show Steps p.tables e below (T3.setTop (mkF m 101 #[.val (.int p0), .val (.int p1), .val (.int (p1 &&& (3 : Int32))), .val (.double (FP.i2d p0)), .second, .val (.int (1 : Int32))] [(.int (1 : Int32))])) t
        refine XS.goto X3.here hx rfl (pc0 := 101) (pc' := 105) rfl (hb hby at_101) (by decide) (by decide) ?_
        exact k
      refine own_retZ X3 hx hlk Bd.returns (hb hby at_105) rfl (by decide) (by decide) ?_
      show Q0 Z p0 p1 h0 n0 (some (.int (1 : Int32))) T3.heap _
      rw [(e3 : T3.heap = h0)]
      exact ⟨rfl, n4⟩
    · refine own_st (T' := s₁) (g' := (mkF m 92 #[.val (.int p0), .val (.int p1), .val (.int (p1 &&& (3 : Int32))), .val (.double (FP.i2d p0)), .second, .val (.int (0 : Int32))] [(.double (FP.i2d p0))])) (fun t k => ?_) ?_
      · show Steps p.tables e below (s₁.setTop (mkF m 12 #[.val (.int p0), .val (.int p1), .val (.int (p1 &&& (3 : Int32))), .val (.double (FP.i2d p0)), .second, .unset] [(.int p0)])) t
        refine XS.ifYes X0.here hx rfl (pc0 := 12) (pc' := 19) rfl (hb hby at_12) rfl ((if0 _ _).trans (flt hc12_2).2.2.2) (by decide) (by decide) ?_
        show Steps p.tables e below (s₁.setTop (mkF m 19 #[.val (.int p0), .val (.int p1), .val (.int (p1 &&& (3 : Int32))), .val (.double (FP.i2d p0)), .second, .unset] [])) t
        refine XS.iconst X0.here hx rfl (hb hby at_19) ?_
        show Steps p.tables e below (s₁.setTop (mkF m 20 #[.val (.int p0), .val (.int p1), .val (.int (p1 &&& (3 : Int32))), .val (.double (FP.i2d p0)), .second, .unset] [(.int (0 : Int32))])) t
        refine XS.istore X0.here hx rfl (hb hby at_20) rfl (l' := #[.val (.int p0), .val (.int p1), .val (.int (p1 &&& (3 : Int32))), .val (.double (FP.i2d p0)), .second, .val (.int (0 : Int32))]) rfl ?_
        show Steps p.tables e below (s₁.setTop (mkF m 22 #[.val (.int p0), .val (.int p1), .val (.int (p1 &&& (3 : Int32))), .val (.double (FP.i2d p0)), .second, .val (.int (0 : Int32))] [])) t
        refine XS.goto X0.here hx rfl (pc0 := 22) (pc' := 91) rfl (hb hby at_22) (by decide) (by decide) ?_
        show Steps p.tables e below (s₁.setTop (mkF m 91 #[.val (.int p0), .val (.int p1), .val (.int (p1 &&& (3 : Int32))), .val (.double (FP.i2d p0)), .second, .val (.int (0 : Int32))] [])) t
        refine XS.dloadN X0.here hx rfl (hb hby at_91) rfl ?_
        exact k
      obtain ⟨_, _, ⟨T5, L5, k5, n5⟩, -, X5, ⟨Lc5, hQ5, l5, y5, z5⟩, st5⟩ := Jvm.LawKit.callS X0 hx (y := (⟨"com/example/merkmal/merkmal/index/Postings", "isCount", "(D)Z"⟩ : MethodName)) hown (mvT hZ (hw _ (List.mem_of_getElem? (i := 1) rfl))) (mvT hZ (hw _ (List.mem_of_getElem? (i := 2) rfl))) (mvT hZ (hw _ (List.mem_of_getElem? (i := 3) rfl))) (mvT hZ (hw _ (List.mem_of_getElem? (i := 4) rfl))) (by decide) (backOf (W := 0) (rm1 l Z ar hw [] ((FP.i2d p0)) h0 n0 Z0) hZ (hw _ (List.mem_of_getElem? (i := 4) rfl)) (hw _ (List.mem_of_getElem? (i := 3) rfl)) (by decide) (by decide)) (g := (mkF m 92 #[.val (.int p0), .val (.int p1), .val (.int (p1 &&& (3 : Int32))), .val (.double (FP.i2d p0)), .second, .val (.int (0 : Int32))] [(.double (FP.i2d p0))])) rfl (by rw [hml]; rfl) (argsL := [(.double (FP.i2d p0))]) (rest := []) (lenOf pd0_0 rfl) rfl (by show 2 * 0 + _ ≤ _; exact Nat.le_of_eq rfl) (hb hby at_92) (fun _ _ => ⟨rfl, e0, (by decide : 0 + 0 ≤ _), (by decide : 0 + 0 ≤ _)⟩)
      dsimp only [Pt.U, Pt.locs, Pt.cells, Pt.slots] at X5 l5 y5 z5 st5 hQ5
      subst l5 y5 z5
      obtain ⟨rfl, N5q, e5⟩ := hQ5
      have n6 := Fr.app N0 N5q
      refine own_st (T' := T5) (g' := (mkF m 95 #[.val (.int p0), .val (.int p1), .val (.int (p1 &&& (3 : Int32))), .val (.double (FP.i2d p0)), .second, .val (.int (0 : Int32))] [(.int (own_cnt (FP.i2d p0)))])) st5 ?_
      refine own_st (T' := T5) (g' := (mkF m 105 #[.val (.int p0), .val (.int p1), .val (.int (p1 &&& (3 : Int32))), .val (.double (FP.i2d p0)), .second, .val (.int (0 : Int32))] [(.int (1 : Int32))])) (fun t k => ?_) ?_
      · show Steps p.tables e below (T5.setTop (mkF m 95 #[.val (.int p0), .val (.int p1), .val (.int (p1 &&& (3 : Int32))), .val (.double (FP.i2d p0)), .second, .val (.int (0 : Int32))] [(.int (own_cnt (FP.i2d p0)))])) t
        refine XS.iload X5.here hx rfl (hb hby at_95) rfl ?_
        show Steps p.tables e below (T5.setTop (mkF m 97 #[.val (.int p0), .val (.int p1), .val (.int (p1 &&& (3 : Int32))), .val (.double (FP.i2d p0)), .second, .val (.int (0 : Int32))] [(.int (0 : Int32)), (.int (own_cnt (FP.i2d p0)))])) t
        refine XS.icmpNo X5.here hx rfl (hb hby at_97) rfl (teq (own_law0f p0 hc12_2 : (own_cnt (FP.i2d p0)) = (0 : Int32))).2 ?_
        show Steps p.tables e below (T5.setTop (mkF m 100 #[.val (.int p0), .val (.int p1), .val (.int (p1 &&& (3 : Int32))), .val (.double (FP.i2d p0)), .second, .val (.int (0 : Int32))] [])) t
        refine XS.iconst X5.here hx rfl (hb hby at_100) ?_
        show Steps p.tables e below (T5.setTop (mkF m 101 #[.val (.int p0), .val (.int p1), .val (.int (p1 &&& (3 : Int32))), .val (.double (FP.i2d p0)), .second, .val (.int (0 : Int32))] [(.int (1 : Int32))])) t
        refine XS.goto X5.here hx rfl (pc0 := 101) (pc' := 105) rfl (hb hby at_101) (by decide) (by decide) ?_
        exact k
      refine own_retZ X5 hx hlk Bd.returns (hb hby at_105) rfl (by decide) (by decide) ?_
      show Q0 Z p0 p1 h0 n0 (some (.int (1 : Int32))) T5.heap _
      rw [(e5 : T5.heap = h0)]
      exact ⟨rfl, n6⟩
  · refine own_st (T' := s₁) (g' := (mkF m 27 #[.val (.int p0), .val (.int p1), .val (.int (p1 &&& (3 : Int32))), .unset, .unset, .unset] [(.int (1 : Int32)), (.int (p1 &&& (3 : Int32)))])) (fun t k => ?_) ?_
    · show Steps p.tables e below (s₁.setTop (mkF m 5 #[.val (.int p0), .val (.int p1), .val (.int (p1 &&& (3 : Int32))), .unset, .unset, .unset] [(.int (p1 &&& (3 : Int32)))])) t
      refine XS.ifYes X0.here hx rfl (pc0 := 5) (pc' := 25) rfl (hb hby at_5) rfl ((if0 _ _).trans (feq hc5_1).2) (by decide) (by decide) ?_
      show Steps p.tables e below (s₁.setTop (mkF m 25 #[.val (.int p0), .val (.int p1), .val (.int (p1 &&& (3 : Int32))), .unset, .unset, .unset] [])) t
      refine XS.iloadN X0.here hx rfl (hb hby at_25) rfl ?_
      show Steps p.tables e below (s₁.setTop (mkF m 26 #[.val (.int p0), .val (.int p1), .val (.int (p1 &&& (3 : Int32))), .unset, .unset, .unset] [(.int (p1 &&& (3 : Int32)))])) t
      refine XS.iconst X0.here hx rfl (hb hby at_26) ?_
      exact k
    by_cases hc27_7 : (p1 &&& (3 : Int32)) = (1 : Int32)
    · refine own_st (T' := s₁) (g' := (mkF m 92 #[.val (.int p0), .val (.int p1), .val (.int (p1 &&& (3 : Int32))), .val (.double (FP.dmul (FP.dmul (FP.i2d p0) (9214871658872686752 : UInt64)) (9214871658872686752 : UInt64))), .second, .val (.int (0 : Int32))] [(.double (FP.dmul (FP.dmul (FP.i2d p0) (9214871658872686752 : UInt64)) (9214871658872686752 : UInt64)))])) (fun t k => ?_) ?_
      · show Steps p.tables e below (s₁.setTop (mkF m 27 #[.val (.int p0), .val (.int p1), .val (.int (p1 &&& (3 : Int32))), .unset, .unset, .unset] [(.int (1 : Int32)), (.int (p1 &&& (3 : Int32)))])) t
        refine XS.icmpNo X0.here hx rfl (hb hby at_27) rfl (teq hc27_7).2 ?_
        show Steps p.tables e below (s₁.setTop (mkF m 30 #[.val (.int p0), .val (.int p1), .val (.int (p1 &&& (3 : Int32))), .unset, .unset, .unset] [])) t
        refine XS.iloadN X0.here hx rfl (hb hby at_30) rfl ?_
        show Steps p.tables e below (s₁.setTop (mkF m 31 #[.val (.int p0), .val (.int p1), .val (.int (p1 &&& (3 : Int32))), .unset, .unset, .unset] [(.int p0)])) t
        refine XS.i2dS X0.here hx rfl (hb hby at_31) rfl rfl ?_
        show Steps p.tables e below (s₁.setTop (mkF m 32 #[.val (.int p0), .val (.int p1), .val (.int (p1 &&& (3 : Int32))), .unset, .unset, .unset] [(.double (FP.i2d p0))])) t
        refine X0.ldc2DoubleC hx hown (mvT hZ (hw _ (List.mem_of_getElem? (i := 5) rfl))) (g := (mkF m 32 #[.val (.int p0), .val (.int p1), .val (.int (p1 &&& (3 : Int32))), .unset, .unset, .unset] [(.double (FP.i2d p0))])) rfl (hb hby at_32) _ ?_
        show Steps p.tables e below (s₁.setTop (mkF m 35 #[.val (.int p0), .val (.int p1), .val (.int (p1 &&& (3 : Int32))), .unset, .unset, .unset] [(.double (9214871658872686752 : UInt64)), (.double (FP.i2d p0))])) t
        refine XS.dmulS X0.here hx rfl (hb hby at_35) rfl (own_nn1 p0) rfl ?_
        show Steps p.tables e below (s₁.setTop (mkF m 36 #[.val (.int p0), .val (.int p1), .val (.int (p1 &&& (3 : Int32))), .unset, .unset, .unset] [(.double (FP.dmul (FP.i2d p0) (9214871658872686752 : UInt64)))])) t
        refine X0.ldc2DoubleC hx hown (mvT hZ (hw _ (List.mem_of_getElem? (i := 5) rfl))) (g := (mkF m 36 #[.val (.int p0), .val (.int p1), .val (.int (p1 &&& (3 : Int32))), .unset, .unset, .unset] [(.double (FP.dmul (FP.i2d p0) (9214871658872686752 : UInt64)))])) rfl (hb hby at_36) _ ?_
        show Steps p.tables e below (s₁.setTop (mkF m 39 #[.val (.int p0), .val (.int p1), .val (.int (p1 &&& (3 : Int32))), .unset, .unset, .unset] [(.double (9214871658872686752 : UInt64)), (.double (FP.dmul (FP.i2d p0) (9214871658872686752 : UInt64)))])) t
        refine XS.dmulS X0.here hx rfl (hb hby at_39) rfl (own_nn1' p0) rfl ?_
        show Steps p.tables e below (s₁.setTop (mkF m 40 #[.val (.int p0), .val (.int p1), .val (.int (p1 &&& (3 : Int32))), .unset, .unset, .unset] [(.double (FP.dmul (FP.dmul (FP.i2d p0) (9214871658872686752 : UInt64)) (9214871658872686752 : UInt64)))])) t
        refine XS.dstoreN X0.here hx rfl (hb hby at_40) rfl (l' := #[.val (.int p0), .val (.int p1), .val (.int (p1 &&& (3 : Int32))), .val (.double (FP.dmul (FP.dmul (FP.i2d p0) (9214871658872686752 : UInt64)) (9214871658872686752 : UInt64))), .second, .unset]) rfl ?_
        show Steps p.tables e below (s₁.setTop (mkF m 41 #[.val (.int p0), .val (.int p1), .val (.int (p1 &&& (3 : Int32))), .val (.double (FP.dmul (FP.dmul (FP.i2d p0) (9214871658872686752 : UInt64)) (9214871658872686752 : UInt64))), .second, .unset] [])) t
        refine XS.iconst X0.here hx rfl (hb hby at_41) ?_
        show Steps p.tables e below (s₁.setTop (mkF m 42 #[.val (.int p0), .val (.int p1), .val (.int (p1 &&& (3 : Int32))), .val (.double (FP.dmul (FP.dmul (FP.i2d p0) (9214871658872686752 : UInt64)) (9214871658872686752 : UInt64))), .second, .unset] [(.int (0 : Int32))])) t
        refine XS.istore X0.here hx rfl (hb hby at_42) rfl (l' := #[.val (.int p0), .val (.int p1), .val (.int (p1 &&& (3 : Int32))), .val (.double (FP.dmul (FP.dmul (FP.i2d p0) (9214871658872686752 : UInt64)) (9214871658872686752 : UInt64))), .second, .val (.int (0 : Int32))]) rfl ?_
        show Steps p.tables e below (s₁.setTop (mkF m 44 #[.val (.int p0), .val (.int p1), .val (.int (p1 &&& (3 : Int32))), .val (.double (FP.dmul (FP.dmul (FP.i2d p0) (9214871658872686752 : UInt64)) (9214871658872686752 : UInt64))), .second, .val (.int (0 : Int32))] [])) t
        refine XS.goto X0.here hx rfl (pc0 := 44) (pc' := 91) rfl (hb hby at_44) (by decide) (by decide) ?_
        show Steps p.tables e below (s₁.setTop (mkF m 91 #[.val (.int p0), .val (.int p1), .val (.int (p1 &&& (3 : Int32))), .val (.double (FP.dmul (FP.dmul (FP.i2d p0) (9214871658872686752 : UInt64)) (9214871658872686752 : UInt64))), .second, .val (.int (0 : Int32))] [])) t
        refine XS.dloadN X0.here hx rfl (hb hby at_91) rfl ?_
        exact k
      obtain ⟨_, _, ⟨T8, L8, k8, n8⟩, -, X8, ⟨Lc8, hQ8, l8, y8, z8⟩, st8⟩ := Jvm.LawKit.callS X0 hx (y := (⟨"com/example/merkmal/merkmal/index/Postings", "isCount", "(D)Z"⟩ : MethodName)) hown (mvT hZ (hw _ (List.mem_of_getElem? (i := 1) rfl))) (mvT hZ (hw _ (List.mem_of_getElem? (i := 2) rfl))) (mvT hZ (hw _ (List.mem_of_getElem? (i := 3) rfl))) (mvT hZ (hw _ (List.mem_of_getElem? (i := 4) rfl))) (by decide) (backOf (W := 0) (rm1 l Z ar hw [] ((FP.dmul (FP.dmul (FP.i2d p0) (9214871658872686752 : UInt64)) (9214871658872686752 : UInt64))) h0 n0 Z0) hZ (hw _ (List.mem_of_getElem? (i := 4) rfl)) (hw _ (List.mem_of_getElem? (i := 3) rfl)) (by decide) (by decide)) (g := (mkF m 92 #[.val (.int p0), .val (.int p1), .val (.int (p1 &&& (3 : Int32))), .val (.double (FP.dmul (FP.dmul (FP.i2d p0) (9214871658872686752 : UInt64)) (9214871658872686752 : UInt64))), .second, .val (.int (0 : Int32))] [(.double (FP.dmul (FP.dmul (FP.i2d p0) (9214871658872686752 : UInt64)) (9214871658872686752 : UInt64)))])) rfl (by rw [hml]; rfl) (argsL := [(.double (FP.dmul (FP.dmul (FP.i2d p0) (9214871658872686752 : UInt64)) (9214871658872686752 : UInt64)))]) (rest := []) (lenOf pd0_0 rfl) rfl (by show 2 * 0 + _ ≤ _; exact Nat.le_of_eq rfl) (hb hby at_92) (fun _ _ => ⟨rfl, e0, (by decide : 0 + 0 ≤ _), (by decide : 0 + 0 ≤ _)⟩)
      dsimp only [Pt.U, Pt.locs, Pt.cells, Pt.slots] at X8 l8 y8 z8 st8 hQ8
      subst l8 y8 z8
      obtain ⟨rfl, N8q, e8⟩ := hQ8
      have n9 := Fr.app N0 N8q
      refine own_st (T' := T8) (g' := (mkF m 95 #[.val (.int p0), .val (.int p1), .val (.int (p1 &&& (3 : Int32))), .val (.double (FP.dmul (FP.dmul (FP.i2d p0) (9214871658872686752 : UInt64)) (9214871658872686752 : UInt64))), .second, .val (.int (0 : Int32))] [(.int (own_cnt (FP.dmul (FP.dmul (FP.i2d p0) (9214871658872686752 : UInt64)) (9214871658872686752 : UInt64))))])) st8 ?_
      refine own_st (T' := T8) (g' := (mkF m 105 #[.val (.int p0), .val (.int p1), .val (.int (p1 &&& (3 : Int32))), .val (.double (FP.dmul (FP.dmul (FP.i2d p0) (9214871658872686752 : UInt64)) (9214871658872686752 : UInt64))), .second, .val (.int (0 : Int32))] [(.int (1 : Int32))])) (fun t k => ?_) ?_
      · show Steps p.tables e below (T8.setTop (mkF m 95 #[.val (.int p0), .val (.int p1), .val (.int (p1 &&& (3 : Int32))), .val (.double (FP.dmul (FP.dmul (FP.i2d p0) (9214871658872686752 : UInt64)) (9214871658872686752 : UInt64))), .second, .val (.int (0 : Int32))] [(.int (own_cnt (FP.dmul (FP.dmul (FP.i2d p0) (9214871658872686752 : UInt64)) (9214871658872686752 : UInt64))))])) t
        refine XS.iload X8.here hx rfl (hb hby at_95) rfl ?_
        show Steps p.tables e below (T8.setTop (mkF m 97 #[.val (.int p0), .val (.int p1), .val (.int (p1 &&& (3 : Int32))), .val (.double (FP.dmul (FP.dmul (FP.i2d p0) (9214871658872686752 : UInt64)) (9214871658872686752 : UInt64))), .second, .val (.int (0 : Int32))] [(.int (0 : Int32)), (.int (own_cnt (FP.dmul (FP.dmul (FP.i2d p0) (9214871658872686752 : UInt64)) (9214871658872686752 : UInt64))))])) t
        refine XS.icmpNo X8.here hx rfl (hb hby at_97) rfl (teq (own_law1 p0 : (own_cnt (FP.dmul (FP.dmul (FP.i2d p0) (9214871658872686752 : UInt64)) (9214871658872686752 : UInt64))) = (0 : Int32))).2 ?_
        show Steps p.tables e below (T8.setTop (mkF m 100 #[.val (.int p0), .val (.int p1), .val (.int (p1 &&& (3 : Int32))), .val (.double (FP.dmul (FP.dmul (FP.i2d p0) (9214871658872686752 : UInt64)) (9214871658872686752 : UInt64))), .second, .val (.int (0 : Int32))] [])) t
        refine XS.iconst X8.here hx rfl (hb hby at_100) ?_
        show Steps p.tables e below (T8.setTop (mkF m 101 #[.val (.int p0), .val (.int p1), .val (.int (p1 &&& (3 : Int32))), .val (.double (FP.dmul (FP.dmul (FP.i2d p0) (9214871658872686752 : UInt64)) (9214871658872686752 : UInt64))), .second, .val (.int (0 : Int32))] [(.int (1 : Int32))])) t
        refine XS.goto X8.here hx rfl (pc0 := 101) (pc' := 105) rfl (hb hby at_101) (by decide) (by decide) ?_
        exact k
      refine own_retZ X8 hx hlk Bd.returns (hb hby at_105) rfl (by decide) (by decide) ?_
      show Q0 Z p0 p1 h0 n0 (some (.int (1 : Int32))) T8.heap _
      rw [(e8 : T8.heap = h0)]
      exact ⟨rfl, n9⟩
    · refine own_st (T' := s₁) (g' := (mkF m 49 #[.val (.int p0), .val (.int p1), .val (.int (p1 &&& (3 : Int32))), .unset, .unset, .unset] [(.int (2 : Int32)), (.int (p1 &&& (3 : Int32)))])) (fun t k => ?_) ?_
      · show Steps p.tables e below (s₁.setTop (mkF m 27 #[.val (.int p0), .val (.int p1), .val (.int (p1 &&& (3 : Int32))), .unset, .unset, .unset] [(.int (1 : Int32)), (.int (p1 &&& (3 : Int32)))])) t
        refine XS.icmpYes X0.here hx rfl (pc0 := 27) (pc' := 47) rfl (hb hby at_27) rfl (feq hc27_7).2 (by decide) (by decide) ?_
        show Steps p.tables e below (s₁.setTop (mkF m 47 #[.val (.int p0), .val (.int p1), .val (.int (p1 &&& (3 : Int32))), .unset, .unset, .unset] [])) t
        refine XS.iloadN X0.here hx rfl (hb hby at_47) rfl ?_
        show Steps p.tables e below (s₁.setTop (mkF m 48 #[.val (.int p0), .val (.int p1), .val (.int (p1 &&& (3 : Int32))), .unset, .unset, .unset] [(.int (p1 &&& (3 : Int32)))])) t
        refine XS.iconst X0.here hx rfl (hb hby at_48) ?_
        exact k
      by_cases hc49_10 : (p1 &&& (3 : Int32)) = (2 : Int32)
      · refine own_st (T' := s₁) (g' := (mkF m 60 #[.val (.int p0), .val (.int p1), .val (.int (p1 &&& (3 : Int32))), .val (.double (FP.dmul (FP.i2d p0) (118622047889322841 : UInt64))), .second, .unset] [(.int p0)])) (fun t k => ?_) ?_
        · show Steps p.tables e below (s₁.setTop (mkF m 49 #[.val (.int p0), .val (.int p1), .val (.int (p1 &&& (3 : Int32))), .unset, .unset, .unset] [(.int (2 : Int32)), (.int (p1 &&& (3 : Int32)))])) t
          refine XS.icmpNo X0.here hx rfl (hb hby at_49) rfl (teq hc49_10).2 ?_
          show Steps p.tables e below (s₁.setTop (mkF m 52 #[.val (.int p0), .val (.int p1), .val (.int (p1 &&& (3 : Int32))), .unset, .unset, .unset] [])) t
          refine XS.iloadN X0.here hx rfl (hb hby at_52) rfl ?_
          show Steps p.tables e below (s₁.setTop (mkF m 53 #[.val (.int p0), .val (.int p1), .val (.int (p1 &&& (3 : Int32))), .unset, .unset, .unset] [(.int p0)])) t
          refine XS.i2dS X0.here hx rfl (hb hby at_53) rfl rfl ?_
          show Steps p.tables e below (s₁.setTop (mkF m 54 #[.val (.int p0), .val (.int p1), .val (.int (p1 &&& (3 : Int32))), .unset, .unset, .unset] [(.double (FP.i2d p0))])) t
          refine X0.ldc2DoubleC hx hown (mvT hZ (hw _ (List.mem_of_getElem? (i := 7) rfl))) (g := (mkF m 54 #[.val (.int p0), .val (.int p1), .val (.int (p1 &&& (3 : Int32))), .unset, .unset, .unset] [(.double (FP.i2d p0))])) rfl (hb hby at_54) _ ?_
          show Steps p.tables e below (s₁.setTop (mkF m 57 #[.val (.int p0), .val (.int p1), .val (.int (p1 &&& (3 : Int32))), .unset, .unset, .unset] [(.double (118622047889322841 : UInt64)), (.double (FP.i2d p0))])) t
          refine XS.dmulS X0.here hx rfl (hb hby at_57) rfl ((Jvm.Free.Fl.Mag64.fin (show Jvm.Free.Fl.Mag64 61 (FP.dmul (FP.i2d p0) (118622047889322841 : UInt64)) by have q := (Jvm.Free.Fl.dmul_mag (Jvm.Free.Fl.i2d_mag p0) (show Jvm.Free.Fl.Mag64 27 (118622047889322841 : UInt64) by unfold Jvm.Free.Fl.Mag64; decide) (by decide) (by decide)); exact q) (by decide)).noNaN) rfl ?_
          show Steps p.tables e below (s₁.setTop (mkF m 58 #[.val (.int p0), .val (.int p1), .val (.int (p1 &&& (3 : Int32))), .unset, .unset, .unset] [(.double (FP.dmul (FP.i2d p0) (118622047889322841 : UInt64)))])) t
          refine XS.dstoreN X0.here hx rfl (hb hby at_58) rfl (l' := #[.val (.int p0), .val (.int p1), .val (.int (p1 &&& (3 : Int32))), .val (.double (FP.dmul (FP.i2d p0) (118622047889322841 : UInt64))), .second, .unset]) rfl ?_
          show Steps p.tables e below (s₁.setTop (mkF m 59 #[.val (.int p0), .val (.int p1), .val (.int (p1 &&& (3 : Int32))), .val (.double (FP.dmul (FP.i2d p0) (118622047889322841 : UInt64))), .second, .unset] [])) t
          refine XS.iloadN X0.here hx rfl (hb hby at_59) rfl ?_
          exact k
        by_cases hc60_11 : (0 : Int32) < p0
        · refine own_st (T' := s₁) (g' := (mkF m 92 #[.val (.int p0), .val (.int p1), .val (.int (p1 &&& (3 : Int32))), .val (.double (FP.dmul (FP.i2d p0) (118622047889322841 : UInt64))), .second, .val (.int (1 : Int32))] [(.double (FP.dmul (FP.i2d p0) (118622047889322841 : UInt64)))])) (fun t k => ?_) ?_
          · show Steps p.tables e below (s₁.setTop (mkF m 60 #[.val (.int p0), .val (.int p1), .val (.int (p1 &&& (3 : Int32))), .val (.double (FP.dmul (FP.i2d p0) (118622047889322841 : UInt64))), .second, .unset] [(.int p0)])) t
            refine XS.ifNo X0.here hx rfl (hb hby at_60) rfl ((if0 _ _).trans (tlt hc60_11).2.2.2) ?_
            show Steps p.tables e below (s₁.setTop (mkF m 63 #[.val (.int p0), .val (.int p1), .val (.int (p1 &&& (3 : Int32))), .val (.double (FP.dmul (FP.i2d p0) (118622047889322841 : UInt64))), .second, .unset] [])) t
            refine XS.iconst X0.here hx rfl (hb hby at_63) ?_
            show Steps p.tables e below (s₁.setTop (mkF m 64 #[.val (.int p0), .val (.int p1), .val (.int (p1 &&& (3 : Int32))), .val (.double (FP.dmul (FP.i2d p0) (118622047889322841 : UInt64))), .second, .unset] [(.int (1 : Int32))])) t
            refine XS.goto X0.here hx rfl (pc0 := 64) (pc' := 68) rfl (hb hby at_64) (by decide) (by decide) ?_
            show Steps p.tables e below (s₁.setTop (mkF m 68 #[.val (.int p0), .val (.int p1), .val (.int (p1 &&& (3 : Int32))), .val (.double (FP.dmul (FP.i2d p0) (118622047889322841 : UInt64))), .second, .unset] [(.int (1 : Int32))])) t
            refine XS.istore X0.here hx rfl (hb hby at_68) rfl (l' := #[.val (.int p0), .val (.int p1), .val (.int (p1 &&& (3 : Int32))), .val (.double (FP.dmul (FP.i2d p0) (118622047889322841 : UInt64))), .second, .val (.int (1 : Int32))]) rfl ?_
            show Steps p.tables e below (s₁.setTop (mkF m 70 #[.val (.int p0), .val (.int p1), .val (.int (p1 &&& (3 : Int32))), .val (.double (FP.dmul (FP.i2d p0) (118622047889322841 : UInt64))), .second, .val (.int (1 : Int32))] [])) t
            refine XS.goto X0.here hx rfl (pc0 := 70) (pc' := 91) rfl (hb hby at_70) (by decide) (by decide) ?_
            show Steps p.tables e below (s₁.setTop (mkF m 91 #[.val (.int p0), .val (.int p1), .val (.int (p1 &&& (3 : Int32))), .val (.double (FP.dmul (FP.i2d p0) (118622047889322841 : UInt64))), .second, .val (.int (1 : Int32))] [])) t
            refine XS.dloadN X0.here hx rfl (hb hby at_91) rfl ?_
            exact k
          obtain ⟨_, _, ⟨T12, L12, k12, n12⟩, -, X12, ⟨Lc12, hQ12, l12, y12, z12⟩, st12⟩ := Jvm.LawKit.callS X0 hx (y := (⟨"com/example/merkmal/merkmal/index/Postings", "isCount", "(D)Z"⟩ : MethodName)) hown (mvT hZ (hw _ (List.mem_of_getElem? (i := 1) rfl))) (mvT hZ (hw _ (List.mem_of_getElem? (i := 2) rfl))) (mvT hZ (hw _ (List.mem_of_getElem? (i := 3) rfl))) (mvT hZ (hw _ (List.mem_of_getElem? (i := 4) rfl))) (by decide) (backOf (W := 0) (rm1 l Z ar hw [] ((FP.dmul (FP.i2d p0) (118622047889322841 : UInt64))) h0 n0 Z0) hZ (hw _ (List.mem_of_getElem? (i := 4) rfl)) (hw _ (List.mem_of_getElem? (i := 3) rfl)) (by decide) (by decide)) (g := (mkF m 92 #[.val (.int p0), .val (.int p1), .val (.int (p1 &&& (3 : Int32))), .val (.double (FP.dmul (FP.i2d p0) (118622047889322841 : UInt64))), .second, .val (.int (1 : Int32))] [(.double (FP.dmul (FP.i2d p0) (118622047889322841 : UInt64)))])) rfl (by rw [hml]; rfl) (argsL := [(.double (FP.dmul (FP.i2d p0) (118622047889322841 : UInt64)))]) (rest := []) (lenOf pd0_0 rfl) rfl (by show 2 * 0 + _ ≤ _; exact Nat.le_of_eq rfl) (hb hby at_92) (fun _ _ => ⟨rfl, e0, (by decide : 0 + 0 ≤ _), (by decide : 0 + 0 ≤ _)⟩)
          dsimp only [Pt.U, Pt.locs, Pt.cells, Pt.slots] at X12 l12 y12 z12 st12 hQ12
          subst l12 y12 z12
          obtain ⟨rfl, N12q, e12⟩ := hQ12
          have n13 := Fr.app N0 N12q
          refine own_st (T' := T12) (g' := (mkF m 95 #[.val (.int p0), .val (.int p1), .val (.int (p1 &&& (3 : Int32))), .val (.double (FP.dmul (FP.i2d p0) (118622047889322841 : UInt64))), .second, .val (.int (1 : Int32))] [(.int (own_cnt (FP.dmul (FP.i2d p0) (118622047889322841 : UInt64))))])) st12 ?_
          refine own_st (T' := T12) (g' := (mkF m 105 #[.val (.int p0), .val (.int p1), .val (.int (p1 &&& (3 : Int32))), .val (.double (FP.dmul (FP.i2d p0) (118622047889322841 : UInt64))), .second, .val (.int (1 : Int32))] [(.int (1 : Int32))])) (fun t k => ?_) ?_
          · show Steps p.tables e below (T12.setTop (mkF m 95 #[.val (.int p0), .val (.int p1), .val (.int (p1 &&& (3 : Int32))), .val (.double (FP.dmul (FP.i2d p0) (118622047889322841 : UInt64))), .second, .val (.int (1 : Int32))] [(.int (own_cnt (FP.dmul (FP.i2d p0) (118622047889322841 : UInt64))))])) t
            refine XS.iload X12.here hx rfl (hb hby at_95) rfl ?_
            show Steps p.tables e below (T12.setTop (mkF m 97 #[.val (.int p0), .val (.int p1), .val (.int (p1 &&& (3 : Int32))), .val (.double (FP.dmul (FP.i2d p0) (118622047889322841 : UInt64))), .second, .val (.int (1 : Int32))] [(.int (1 : Int32)), (.int (own_cnt (FP.dmul (FP.i2d p0) (118622047889322841 : UInt64))))])) t
            refine XS.icmpNo X12.here hx rfl (hb hby at_97) rfl (teq (own_law2t p0 hc60_11 : (own_cnt (FP.dmul (FP.i2d p0) (118622047889322841 : UInt64))) = (1 : Int32))).2 ?_
            show Steps p.tables e below (T12.setTop (mkF m 100 #[.val (.int p0), .val (.int p1), .val (.int (p1 &&& (3 : Int32))), .val (.double (FP.dmul (FP.i2d p0) (118622047889322841 : UInt64))), .second, .val (.int (1 : Int32))] [])) t
            refine XS.iconst X12.here hx rfl (hb hby at_100) ?_
            show Steps p.tables e below (T12.setTop (mkF m 101 #[.val (.int p0), .val (.int p1), .val (.int (p1 &&& (3 : Int32))), .val (.double (FP.dmul (FP.i2d p0) (118622047889322841 : UInt64))), .second, .val (.int (1 : Int32))] [(.int (1 : Int32))])) t
            refine XS.goto X12.here hx rfl (pc0 := 101) (pc' := 105) rfl (hb hby at_101) (by decide) (by decide) ?_
            exact k
          refine own_retZ X12 hx hlk Bd.returns (hb hby at_105) rfl (by decide) (by decide) ?_
          show Q0 Z p0 p1 h0 n0 (some (.int (1 : Int32))) T12.heap _
          rw [(e12 : T12.heap = h0)]
          exact ⟨rfl, n13⟩
        · refine own_st (T' := s₁) (g' := (mkF m 92 #[.val (.int p0), .val (.int p1), .val (.int (p1 &&& (3 : Int32))), .val (.double (FP.dmul (FP.i2d p0) (118622047889322841 : UInt64))), .second, .val (.int (0 : Int32))] [(.double (FP.dmul (FP.i2d p0) (118622047889322841 : UInt64)))])) (fun t k => ?_) ?_
          · show Steps p.tables e below (s₁.setTop (mkF m 60 #[.val (.int p0), .val (.int p1), .val (.int (p1 &&& (3 : Int32))), .val (.double (FP.dmul (FP.i2d p0) (118622047889322841 : UInt64))), .second, .unset] [(.int p0)])) t
            refine XS.ifYes X0.here hx rfl (pc0 := 60) (pc' := 67) rfl (hb hby at_60) rfl ((if0 _ _).trans (flt hc60_11).2.2.2) (by decide) (by decide) ?_
            show Steps p.tables e below (s₁.setTop (mkF m 67 #[.val (.int p0), .val (.int p1), .val (.int (p1 &&& (3 : Int32))), .val (.double (FP.dmul (FP.i2d p0) (118622047889322841 : UInt64))), .second, .unset] [])) t
            refine XS.iconst X0.here hx rfl (hb hby at_67) ?_
            show Steps p.tables e below (s₁.setTop (mkF m 68 #[.val (.int p0), .val (.int p1), .val (.int (p1 &&& (3 : Int32))), .val (.double (FP.dmul (FP.i2d p0) (118622047889322841 : UInt64))), .second, .unset] [(.int (0 : Int32))])) t
            refine XS.istore X0.here hx rfl (hb hby at_68) rfl (l' := #[.val (.int p0), .val (.int p1), .val (.int (p1 &&& (3 : Int32))), .val (.double (FP.dmul (FP.i2d p0) (118622047889322841 : UInt64))), .second, .val (.int (0 : Int32))]) rfl ?_
            show Steps p.tables e below (s₁.setTop (mkF m 70 #[.val (.int p0), .val (.int p1), .val (.int (p1 &&& (3 : Int32))), .val (.double (FP.dmul (FP.i2d p0) (118622047889322841 : UInt64))), .second, .val (.int (0 : Int32))] [])) t
            refine XS.goto X0.here hx rfl (pc0 := 70) (pc' := 91) rfl (hb hby at_70) (by decide) (by decide) ?_
            show Steps p.tables e below (s₁.setTop (mkF m 91 #[.val (.int p0), .val (.int p1), .val (.int (p1 &&& (3 : Int32))), .val (.double (FP.dmul (FP.i2d p0) (118622047889322841 : UInt64))), .second, .val (.int (0 : Int32))] [])) t
            refine XS.dloadN X0.here hx rfl (hb hby at_91) rfl ?_
            exact k
          obtain ⟨_, _, ⟨T14, L14, k14, n14⟩, -, X14, ⟨Lc14, hQ14, l14, y14, z14⟩, st14⟩ := Jvm.LawKit.callS X0 hx (y := (⟨"com/example/merkmal/merkmal/index/Postings", "isCount", "(D)Z"⟩ : MethodName)) hown (mvT hZ (hw _ (List.mem_of_getElem? (i := 1) rfl))) (mvT hZ (hw _ (List.mem_of_getElem? (i := 2) rfl))) (mvT hZ (hw _ (List.mem_of_getElem? (i := 3) rfl))) (mvT hZ (hw _ (List.mem_of_getElem? (i := 4) rfl))) (by decide) (backOf (W := 0) (rm1 l Z ar hw [] ((FP.dmul (FP.i2d p0) (118622047889322841 : UInt64))) h0 n0 Z0) hZ (hw _ (List.mem_of_getElem? (i := 4) rfl)) (hw _ (List.mem_of_getElem? (i := 3) rfl)) (by decide) (by decide)) (g := (mkF m 92 #[.val (.int p0), .val (.int p1), .val (.int (p1 &&& (3 : Int32))), .val (.double (FP.dmul (FP.i2d p0) (118622047889322841 : UInt64))), .second, .val (.int (0 : Int32))] [(.double (FP.dmul (FP.i2d p0) (118622047889322841 : UInt64)))])) rfl (by rw [hml]; rfl) (argsL := [(.double (FP.dmul (FP.i2d p0) (118622047889322841 : UInt64)))]) (rest := []) (lenOf pd0_0 rfl) rfl (by show 2 * 0 + _ ≤ _; exact Nat.le_of_eq rfl) (hb hby at_92) (fun _ _ => ⟨rfl, e0, (by decide : 0 + 0 ≤ _), (by decide : 0 + 0 ≤ _)⟩)
          dsimp only [Pt.U, Pt.locs, Pt.cells, Pt.slots] at X14 l14 y14 z14 st14 hQ14
          subst l14 y14 z14
          obtain ⟨rfl, N14q, e14⟩ := hQ14
          have n15 := Fr.app N0 N14q
          refine own_st (T' := T14) (g' := (mkF m 95 #[.val (.int p0), .val (.int p1), .val (.int (p1 &&& (3 : Int32))), .val (.double (FP.dmul (FP.i2d p0) (118622047889322841 : UInt64))), .second, .val (.int (0 : Int32))] [(.int (own_cnt (FP.dmul (FP.i2d p0) (118622047889322841 : UInt64))))])) st14 ?_
          refine own_st (T' := T14) (g' := (mkF m 105 #[.val (.int p0), .val (.int p1), .val (.int (p1 &&& (3 : Int32))), .val (.double (FP.dmul (FP.i2d p0) (118622047889322841 : UInt64))), .second, .val (.int (0 : Int32))] [(.int (1 : Int32))])) (fun t k => ?_) ?_
          · show Steps p.tables e below (T14.setTop (mkF m 95 #[.val (.int p0), .val (.int p1), .val (.int (p1 &&& (3 : Int32))), .val (.double (FP.dmul (FP.i2d p0) (118622047889322841 : UInt64))), .second, .val (.int (0 : Int32))] [(.int (own_cnt (FP.dmul (FP.i2d p0) (118622047889322841 : UInt64))))])) t
            refine XS.iload X14.here hx rfl (hb hby at_95) rfl ?_
            show Steps p.tables e below (T14.setTop (mkF m 97 #[.val (.int p0), .val (.int p1), .val (.int (p1 &&& (3 : Int32))), .val (.double (FP.dmul (FP.i2d p0) (118622047889322841 : UInt64))), .second, .val (.int (0 : Int32))] [(.int (0 : Int32)), (.int (own_cnt (FP.dmul (FP.i2d p0) (118622047889322841 : UInt64))))])) t
            refine XS.icmpNo X14.here hx rfl (hb hby at_97) rfl (teq (own_law2f p0 hc60_11 : (own_cnt (FP.dmul (FP.i2d p0) (118622047889322841 : UInt64))) = (0 : Int32))).2 ?_
            show Steps p.tables e below (T14.setTop (mkF m 100 #[.val (.int p0), .val (.int p1), .val (.int (p1 &&& (3 : Int32))), .val (.double (FP.dmul (FP.i2d p0) (118622047889322841 : UInt64))), .second, .val (.int (0 : Int32))] [])) t
            refine XS.iconst X14.here hx rfl (hb hby at_100) ?_
            show Steps p.tables e below (T14.setTop (mkF m 101 #[.val (.int p0), .val (.int p1), .val (.int (p1 &&& (3 : Int32))), .val (.double (FP.dmul (FP.i2d p0) (118622047889322841 : UInt64))), .second, .val (.int (0 : Int32))] [(.int (1 : Int32))])) t
            refine XS.goto X14.here hx rfl (pc0 := 101) (pc' := 105) rfl (hb hby at_101) (by decide) (by decide) ?_
            exact k
          refine own_retZ X14 hx hlk Bd.returns (hb hby at_105) rfl (by decide) (by decide) ?_
          show Q0 Z p0 p1 h0 n0 (some (.int (1 : Int32))) T14.heap _
          rw [(e14 : T14.heap = h0)]
          exact ⟨rfl, n15⟩
      · refine own_st (T' := s₁) (g' := (mkF m 81 #[.val (.int p0), .val (.int p1), .val (.int (p1 &&& (3 : Int32))), .val (.double (FP.dmul (FP.i2d p0) (8945421882333202015 : UInt64))), .second, .unset] [(.int p0)])) (fun t k => ?_) ?_
        · show Steps p.tables e below (s₁.setTop (mkF m 49 #[.val (.int p0), .val (.int p1), .val (.int (p1 &&& (3 : Int32))), .unset, .unset, .unset] [(.int (2 : Int32)), (.int (p1 &&& (3 : Int32)))])) t
          refine XS.icmpYes X0.here hx rfl (pc0 := 49) (pc' := 73) rfl (hb hby at_49) rfl (feq hc49_10).2 (by decide) (by decide) ?_
          show Steps p.tables e below (s₁.setTop (mkF m 73 #[.val (.int p0), .val (.int p1), .val (.int (p1 &&& (3 : Int32))), .unset, .unset, .unset] [])) t
          refine XS.iloadN X0.here hx rfl (hb hby at_73) rfl ?_
          show Steps p.tables e below (s₁.setTop (mkF m 74 #[.val (.int p0), .val (.int p1), .val (.int (p1 &&& (3 : Int32))), .unset, .unset, .unset] [(.int p0)])) t
          refine XS.i2dS X0.here hx rfl (hb hby at_74) rfl rfl ?_
          show Steps p.tables e below (s₁.setTop (mkF m 75 #[.val (.int p0), .val (.int p1), .val (.int (p1 &&& (3 : Int32))), .unset, .unset, .unset] [(.double (FP.i2d p0))])) t
          refine X0.ldc2DoubleC hx hown (mvT hZ (hw _ (List.mem_of_getElem? (i := 0) rfl))) (g := (mkF m 75 #[.val (.int p0), .val (.int p1), .val (.int (p1 &&& (3 : Int32))), .unset, .unset, .unset] [(.double (FP.i2d p0))])) rfl (hb hby at_75) _ ?_
          show Steps p.tables e below (s₁.setTop (mkF m 78 #[.val (.int p0), .val (.int p1), .val (.int (p1 &&& (3 : Int32))), .unset, .unset, .unset] [(.double (8945421882333202015 : UInt64)), (.double (FP.i2d p0))])) t
          refine XS.dmulS X0.here hx rfl (hb hby at_78) rfl ((Jvm.Free.Fl.Mag64.fin (show Jvm.Free.Fl.Mag64 2021 (FP.dmul (FP.i2d p0) (8945421882333202015 : UInt64)) by have q := (Jvm.Free.Fl.dmul_mag (Jvm.Free.Fl.i2d_mag p0) (show Jvm.Free.Fl.Mag64 1987 (8945421882333202015 : UInt64) by unfold Jvm.Free.Fl.Mag64; decide) (by decide) (by decide)); exact q) (by decide)).noNaN) rfl ?_
          show Steps p.tables e below (s₁.setTop (mkF m 79 #[.val (.int p0), .val (.int p1), .val (.int (p1 &&& (3 : Int32))), .unset, .unset, .unset] [(.double (FP.dmul (FP.i2d p0) (8945421882333202015 : UInt64)))])) t
          refine XS.dstoreN X0.here hx rfl (hb hby at_79) rfl (l' := #[.val (.int p0), .val (.int p1), .val (.int (p1 &&& (3 : Int32))), .val (.double (FP.dmul (FP.i2d p0) (8945421882333202015 : UInt64))), .second, .unset]) rfl ?_
          show Steps p.tables e below (s₁.setTop (mkF m 80 #[.val (.int p0), .val (.int p1), .val (.int (p1 &&& (3 : Int32))), .val (.double (FP.dmul (FP.i2d p0) (8945421882333202015 : UInt64))), .second, .unset] [])) t
          refine XS.iloadN X0.here hx rfl (hb hby at_80) rfl ?_
          exact k
        by_cases hc81_16 : (0 : Int32) < p0
        · refine own_st (T' := s₁) (g' := (mkF m 92 #[.val (.int p0), .val (.int p1), .val (.int (p1 &&& (3 : Int32))), .val (.double (FP.dmul (FP.i2d p0) (8945421882333202015 : UInt64))), .second, .val (.int (1 : Int32))] [(.double (FP.dmul (FP.i2d p0) (8945421882333202015 : UInt64)))])) (fun t k => ?_) ?_
          · show Steps p.tables e below (s₁.setTop (mkF m 81 #[.val (.int p0), .val (.int p1), .val (.int (p1 &&& (3 : Int32))), .val (.double (FP.dmul (FP.i2d p0) (8945421882333202015 : UInt64))), .second, .unset] [(.int p0)])) t
            refine XS.ifNo X0.here hx rfl (hb hby at_81) rfl ((if0 _ _).trans (tlt hc81_16).2.2.2) ?_
            show Steps p.tables e below (s₁.setTop (mkF m 84 #[.val (.int p0), .val (.int p1), .val (.int (p1 &&& (3 : Int32))), .val (.double (FP.dmul (FP.i2d p0) (8945421882333202015 : UInt64))), .second, .unset] [])) t
            refine XS.iconst X0.here hx rfl (hb hby at_84) ?_
            show Steps p.tables e below (s₁.setTop (mkF m 85 #[.val (.int p0), .val (.int p1), .val (.int (p1 &&& (3 : Int32))), .val (.double (FP.dmul (FP.i2d p0) (8945421882333202015 : UInt64))), .second, .unset] [(.int (1 : Int32))])) t
            refine XS.goto X0.here hx rfl (pc0 := 85) (pc' := 89) rfl (hb hby at_85) (by decide) (by decide) ?_
            show Steps p.tables e below (s₁.setTop (mkF m 89 #[.val (.int p0), .val (.int p1), .val (.int (p1 &&& (3 : Int32))), .val (.double (FP.dmul (FP.i2d p0) (8945421882333202015 : UInt64))), .second, .unset] [(.int (1 : Int32))])) t
            refine XS.istore X0.here hx rfl (hb hby at_89) rfl (l' := #[.val (.int p0), .val (.int p1), .val (.int (p1 &&& (3 : Int32))), .val (.double (FP.dmul (FP.i2d p0) (8945421882333202015 : UInt64))), .second, .val (.int (1 : Int32))]) rfl ?_
            show Steps p.tables e below (s₁.setTop (mkF m 91 #[.val (.int p0), .val (.int p1), .val (.int (p1 &&& (3 : Int32))), .val (.double (FP.dmul (FP.i2d p0) (8945421882333202015 : UInt64))), .second, .val (.int (1 : Int32))] [])) t
            refine XS.dloadN X0.here hx rfl (hb hby at_91) rfl ?_
            exact k
          obtain ⟨_, _, ⟨T17, L17, k17, n17⟩, -, X17, ⟨Lc17, hQ17, l17, y17, z17⟩, st17⟩ := Jvm.LawKit.callS X0 hx (y := (⟨"com/example/merkmal/merkmal/index/Postings", "isCount", "(D)Z"⟩ : MethodName)) hown (mvT hZ (hw _ (List.mem_of_getElem? (i := 1) rfl))) (mvT hZ (hw _ (List.mem_of_getElem? (i := 2) rfl))) (mvT hZ (hw _ (List.mem_of_getElem? (i := 3) rfl))) (mvT hZ (hw _ (List.mem_of_getElem? (i := 4) rfl))) (by decide) (backOf (W := 0) (rm1 l Z ar hw [] ((FP.dmul (FP.i2d p0) (8945421882333202015 : UInt64))) h0 n0 Z0) hZ (hw _ (List.mem_of_getElem? (i := 4) rfl)) (hw _ (List.mem_of_getElem? (i := 3) rfl)) (by decide) (by decide)) (g := (mkF m 92 #[.val (.int p0), .val (.int p1), .val (.int (p1 &&& (3 : Int32))), .val (.double (FP.dmul (FP.i2d p0) (8945421882333202015 : UInt64))), .second, .val (.int (1 : Int32))] [(.double (FP.dmul (FP.i2d p0) (8945421882333202015 : UInt64)))])) rfl (by rw [hml]; rfl) (argsL := [(.double (FP.dmul (FP.i2d p0) (8945421882333202015 : UInt64)))]) (rest := []) (lenOf pd0_0 rfl) rfl (by show 2 * 0 + _ ≤ _; exact Nat.le_of_eq rfl) (hb hby at_92) (fun _ _ => ⟨rfl, e0, (by decide : 0 + 0 ≤ _), (by decide : 0 + 0 ≤ _)⟩)
          dsimp only [Pt.U, Pt.locs, Pt.cells, Pt.slots] at X17 l17 y17 z17 st17 hQ17
          subst l17 y17 z17
          obtain ⟨rfl, N17q, e17⟩ := hQ17
          have n18 := Fr.app N0 N17q
          refine own_st (T' := T17) (g' := (mkF m 95 #[.val (.int p0), .val (.int p1), .val (.int (p1 &&& (3 : Int32))), .val (.double (FP.dmul (FP.i2d p0) (8945421882333202015 : UInt64))), .second, .val (.int (1 : Int32))] [(.int (own_cnt (FP.dmul (FP.i2d p0) (8945421882333202015 : UInt64))))])) st17 ?_
          refine own_st (T' := T17) (g' := (mkF m 105 #[.val (.int p0), .val (.int p1), .val (.int (p1 &&& (3 : Int32))), .val (.double (FP.dmul (FP.i2d p0) (8945421882333202015 : UInt64))), .second, .val (.int (1 : Int32))] [(.int (1 : Int32))])) (fun t k => ?_) ?_
          · show Steps p.tables e below (T17.setTop (mkF m 95 #[.val (.int p0), .val (.int p1), .val (.int (p1 &&& (3 : Int32))), .val (.double (FP.dmul (FP.i2d p0) (8945421882333202015 : UInt64))), .second, .val (.int (1 : Int32))] [(.int (own_cnt (FP.dmul (FP.i2d p0) (8945421882333202015 : UInt64))))])) t
            refine XS.iload X17.here hx rfl (hb hby at_95) rfl ?_
            show Steps p.tables e below (T17.setTop (mkF m 97 #[.val (.int p0), .val (.int p1), .val (.int (p1 &&& (3 : Int32))), .val (.double (FP.dmul (FP.i2d p0) (8945421882333202015 : UInt64))), .second, .val (.int (1 : Int32))] [(.int (1 : Int32)), (.int (own_cnt (FP.dmul (FP.i2d p0) (8945421882333202015 : UInt64))))])) t
            refine XS.icmpNo X17.here hx rfl (hb hby at_97) rfl (teq (own_law3t p0 hc81_16 : (own_cnt (FP.dmul (FP.i2d p0) (8945421882333202015 : UInt64))) = (1 : Int32))).2 ?_
            show Steps p.tables e below (T17.setTop (mkF m 100 #[.val (.int p0), .val (.int p1), .val (.int (p1 &&& (3 : Int32))), .val (.double (FP.dmul (FP.i2d p0) (8945421882333202015 : UInt64))), .second, .val (.int (1 : Int32))] [])) t
            refine XS.iconst X17.here hx rfl (hb hby at_100) ?_
            show Steps p.tables e below (T17.setTop (mkF m 101 #[.val (.int p0), .val (.int p1), .val (.int (p1 &&& (3 : Int32))), .val (.double (FP.dmul (FP.i2d p0) (8945421882333202015 : UInt64))), .second, .val (.int (1 : Int32))] [(.int (1 : Int32))])) t
            refine XS.goto X17.here hx rfl (pc0 := 101) (pc' := 105) rfl (hb hby at_101) (by decide) (by decide) ?_
            exact k
          refine own_retZ X17 hx hlk Bd.returns (hb hby at_105) rfl (by decide) (by decide) ?_
          show Q0 Z p0 p1 h0 n0 (some (.int (1 : Int32))) T17.heap _
          rw [(e17 : T17.heap = h0)]
          exact ⟨rfl, n18⟩
        · refine own_st (T' := s₁) (g' := (mkF m 92 #[.val (.int p0), .val (.int p1), .val (.int (p1 &&& (3 : Int32))), .val (.double (FP.dmul (FP.i2d p0) (8945421882333202015 : UInt64))), .second, .val (.int (0 : Int32))] [(.double (FP.dmul (FP.i2d p0) (8945421882333202015 : UInt64)))])) (fun t k => ?_) ?_
          · show Steps p.tables e below (s₁.setTop (mkF m 81 #[.val (.int p0), .val (.int p1), .val (.int (p1 &&& (3 : Int32))), .val (.double (FP.dmul (FP.i2d p0) (8945421882333202015 : UInt64))), .second, .unset] [(.int p0)])) t
            refine XS.ifYes X0.here hx rfl (pc0 := 81) (pc' := 88) rfl (hb hby at_81) rfl ((if0 _ _).trans (flt hc81_16).2.2.2) (by decide) (by decide) ?_
            show Steps p.tables e below (s₁.setTop (mkF m 88 #[.val (.int p0), .val (.int p1), .val (.int (p1 &&& (3 : Int32))), .val (.double (FP.dmul (FP.i2d p0) (8945421882333202015 : UInt64))), .second, .unset] [])) t
            refine XS.iconst X0.here hx rfl (hb hby at_88) ?_
            show Steps p.tables e below (s₁.setTop (mkF m 89 #[.val (.int p0), .val (.int p1), .val (.int (p1 &&& (3 : Int32))), .val (.double (FP.dmul (FP.i2d p0) (8945421882333202015 : UInt64))), .second, .unset] [(.int (0 : Int32))])) t
            refine XS.istore X0.here hx rfl (hb hby at_89) rfl (l' := #[.val (.int p0), .val (.int p1), .val (.int (p1 &&& (3 : Int32))), .val (.double (FP.dmul (FP.i2d p0) (8945421882333202015 : UInt64))), .second, .val (.int (0 : Int32))]) rfl ?_
            show Steps p.tables e below (s₁.setTop (mkF m 91 #[.val (.int p0), .val (.int p1), .val (.int (p1 &&& (3 : Int32))), .val (.double (FP.dmul (FP.i2d p0) (8945421882333202015 : UInt64))), .second, .val (.int (0 : Int32))] [])) t
            refine XS.dloadN X0.here hx rfl (hb hby at_91) rfl ?_
            exact k
          obtain ⟨_, _, ⟨T19, L19, k19, n19⟩, -, X19, ⟨Lc19, hQ19, l19, y19, z19⟩, st19⟩ := Jvm.LawKit.callS X0 hx (y := (⟨"com/example/merkmal/merkmal/index/Postings", "isCount", "(D)Z"⟩ : MethodName)) hown (mvT hZ (hw _ (List.mem_of_getElem? (i := 1) rfl))) (mvT hZ (hw _ (List.mem_of_getElem? (i := 2) rfl))) (mvT hZ (hw _ (List.mem_of_getElem? (i := 3) rfl))) (mvT hZ (hw _ (List.mem_of_getElem? (i := 4) rfl))) (by decide) (backOf (W := 0) (rm1 l Z ar hw [] ((FP.dmul (FP.i2d p0) (8945421882333202015 : UInt64))) h0 n0 Z0) hZ (hw _ (List.mem_of_getElem? (i := 4) rfl)) (hw _ (List.mem_of_getElem? (i := 3) rfl)) (by decide) (by decide)) (g := (mkF m 92 #[.val (.int p0), .val (.int p1), .val (.int (p1 &&& (3 : Int32))), .val (.double (FP.dmul (FP.i2d p0) (8945421882333202015 : UInt64))), .second, .val (.int (0 : Int32))] [(.double (FP.dmul (FP.i2d p0) (8945421882333202015 : UInt64)))])) rfl (by rw [hml]; rfl) (argsL := [(.double (FP.dmul (FP.i2d p0) (8945421882333202015 : UInt64)))]) (rest := []) (lenOf pd0_0 rfl) rfl (by show 2 * 0 + _ ≤ _; exact Nat.le_of_eq rfl) (hb hby at_92) (fun _ _ => ⟨rfl, e0, (by decide : 0 + 0 ≤ _), (by decide : 0 + 0 ≤ _)⟩)
          dsimp only [Pt.U, Pt.locs, Pt.cells, Pt.slots] at X19 l19 y19 z19 st19 hQ19
          subst l19 y19 z19
          obtain ⟨rfl, N19q, e19⟩ := hQ19
          have n20 := Fr.app N0 N19q
          refine own_st (T' := T19) (g' := (mkF m 95 #[.val (.int p0), .val (.int p1), .val (.int (p1 &&& (3 : Int32))), .val (.double (FP.dmul (FP.i2d p0) (8945421882333202015 : UInt64))), .second, .val (.int (0 : Int32))] [(.int (own_cnt (FP.dmul (FP.i2d p0) (8945421882333202015 : UInt64))))])) st19 ?_
          refine own_st (T' := T19) (g' := (mkF m 105 #[.val (.int p0), .val (.int p1), .val (.int (p1 &&& (3 : Int32))), .val (.double (FP.dmul (FP.i2d p0) (8945421882333202015 : UInt64))), .second, .val (.int (0 : Int32))] [(.int (1 : Int32))])) (fun t k => ?_) ?_
          · show Steps p.tables e below (T19.setTop (mkF m 95 #[.val (.int p0), .val (.int p1), .val (.int (p1 &&& (3 : Int32))), .val (.double (FP.dmul (FP.i2d p0) (8945421882333202015 : UInt64))), .second, .val (.int (0 : Int32))] [(.int (own_cnt (FP.dmul (FP.i2d p0) (8945421882333202015 : UInt64))))])) t
            refine XS.iload X19.here hx rfl (hb hby at_95) rfl ?_
            show Steps p.tables e below (T19.setTop (mkF m 97 #[.val (.int p0), .val (.int p1), .val (.int (p1 &&& (3 : Int32))), .val (.double (FP.dmul (FP.i2d p0) (8945421882333202015 : UInt64))), .second, .val (.int (0 : Int32))] [(.int (0 : Int32)), (.int (own_cnt (FP.dmul (FP.i2d p0) (8945421882333202015 : UInt64))))])) t
            refine XS.icmpNo X19.here hx rfl (hb hby at_97) rfl (teq (own_law3f p0 hc81_16 : (own_cnt (FP.dmul (FP.i2d p0) (8945421882333202015 : UInt64))) = (0 : Int32))).2 ?_
            show Steps p.tables e below (T19.setTop (mkF m 100 #[.val (.int p0), .val (.int p1), .val (.int (p1 &&& (3 : Int32))), .val (.double (FP.dmul (FP.i2d p0) (8945421882333202015 : UInt64))), .second, .val (.int (0 : Int32))] [])) t
            refine XS.iconst X19.here hx rfl (hb hby at_100) ?_
            show Steps p.tables e below (T19.setTop (mkF m 101 #[.val (.int p0), .val (.int p1), .val (.int (p1 &&& (3 : Int32))), .val (.double (FP.dmul (FP.i2d p0) (8945421882333202015 : UInt64))), .second, .val (.int (0 : Int32))] [(.int (1 : Int32))])) t
            refine XS.goto X19.here hx rfl (pc0 := 101) (pc' := 105) rfl (hb hby at_101) (by decide) (by decide) ?_
            exact k
          refine own_retZ X19 hx hlk Bd.returns (hb hby at_105) rfl (by decide) (by decide) ?_
          show Q0 Z p0 p1 h0 n0 (some (.int (1 : Int32))) T19.heap _
          rw [(e19 : T19.heap = h0)]
          exact ⟨rfl, n20⟩
set_option maxRecDepth 65536 in
set_option maxHeartbeats 40000000 in
theorem comes_1 {Post : Tables → Env → Array Value → State → Outcome → State → Prop} (hpost : ∀ tb e args s v u, (limb_1_1.after args s (.returned v) u = true ∧ limb_1_2.after args s (.returned v) u = true ∧ True) → FrameEnd s (.returned v) u (Jvm.fieldLocs frame_1_writes args s ++ Jvm.arrayLocs frame_1_arrays args s ++ Jvm.staticLocs frame_1_statics s) 0 0 → Post tb e args s (.returned v) u) :
    ArmFor flags0 classFile x code maxLocals ret World_1 tables_1 room_1 Calls_1 rest_1 Pre_1 Post := by
  intro l hfl _ _ p e ha hc hk s m args below hf hA hF happ hP
  obtain ⟨hcalls, hrest, hpre⟩ := hP
  obtain ⟨-, -, -, hnamed, -, -, -, hat⟩ := (Spec.applies_iff hf).mp happ
  obtain ⟨hg, hn⟩ := and_e (Cond.before_iff.mp (show (Jvm.Cond.and given_1 narrow_1).before args s = true from hpre))
  obtain ⟨g0, gg0⟩ := and_e hg
  obtain ⟨g1, gg1⟩ := and_e gg0
  obtain ⟨w0, w1, rfl⟩ : ∃ w0 w1 : Value, args = #[w0, w1] := by
    have hs : args.size = 2 := by simpa [Cond.value, given_1] using g0
    obtain ⟨L⟩ := args
    match L, hs with
    | [w0, w1], _ => exact ⟨w0, w1, rfl⟩
  have hw := fun d (hd : d ∈ tables_1) => atoms_spec (ws := Jvm.Cond.code x code maxLocals ret :: tables_1) hat d (List.mem_cons_of_mem _ hd)
  have hfit : Fit s := fun {y c} hc i hi => by
    obtain ⟨ha, rfl⟩ := Array.getElem?_eq_some_iff.mp hc
    have q := List.all_eq_true.mp ((Array.all_eq_true_iff_forall_mem.mp hF) _ (Array.getElem_mem ha)) i (List.mem_range.mpr hi)
    simpa [Array.getElem?_eq_getElem hi] using q
  obtain ⟨p0, ei0⟩ := is_v g1
  obtain rfl : w0 = (.int p0) := Option.some.inj ei0
  obtain ⟨p1, ei1⟩ := is_v gg1
  obtain rfl : w1 = (.int p1) := Option.some.inj ei1
  obtain ⟨n, o, h1, h2, h3, _, L, rfl, ⟨rfl, N⟩, hq⟩ := rm0 l s _ hw tables_1 p0 p1 s.heap s.heap.size (Nat.le_refl _) p e ha hc hk s m _ below hf ((Spec.applies_iff_loose hf).mp happ).1 ⟨rfl, State.Warmed39.refl s, rfl⟩ trivial
  refine ⟨n, _, h1, h2, h3, hpost _ _ _ _ _ _ ⟨Cond.after_iff.mpr rfl, Cond.after_iff.mpr (eq_i res_at (Term.int_eval (1)) rfl), trivial⟩ ⟨hq.1, hq.2.1, (hq.2.2.sift fun y hy => Or.inr (N y hy)).mono (by decide) (by decide)⟩⟩
theorem main_1_1 : Claimed_1_1 := comes_1 fun _ _ _ _ _ _ h hF => ⟨h.1, hF⟩
theorem main_1_2 : Claimed_1_2 := comes_1 fun _ _ _ _ _ _ h hF => ⟨h.2.1, hF⟩
end Jvm.Pilot.@@N@@
namespace Jvm.Pilot.@@N@@
open Jvm Jvm.ClassFile Sem Op Lib Jvm.Free Jvm.Stand Jvm.Pilot.@@N@@.Jvm.D
/-! MADE BY PROGRAM (witnessworld.py) out of the Statement's table words and the real class files: 9 classes; the members and pool entries that the words name. The judged class is class 1, her method 1. -/
namespace start1
open Jvm.ClassFile
def u (s : String) : CpInfo := .utf8 (stringToUtf16 s)
/-- a pool by its gaps: so many unusable entries, then the entry; so many at the end -/
def gap : Nat → List CpInfo → List CpInfo
  | 0, r => r
  | n + 1, r => .unusable :: gap n r
def poolList (es : List (Nat × CpInfo)) (last : Nat) : List CpInfo := es.foldr (fun e r => gap e.1 (e.2 :: r)) (gap last [])
def pool (es : List (Nat × CpInfo)) (last : Nat) : Array CpInfo := ⟨poolList es last⟩
def fileOf (pool : Array CpInfo) (this : Nat) (attrs : Array Attribute := #[]) (ms : Array MethodInfo := #[]) (fl : Nat := 33) (sup : Nat := 0) (ifs : Array Nat := #[]) (fds : Array FieldInfo := #[]) : ClassFile where
  minorVersion := 0
  majorVersion := 65
  constantPool := pool
  accessFlags := fl
  thisClass := this
  superClass := sup
  interfaces := ifs
  fields := fds
  methods := ms
  attributes := attrs
def plain (name : String) (sup : Option ClassId) : Class where
  name := name
  kind := .ordinary
  loader := none
  accessFlags := 33
  super := sup
  interfaces := #[]
  cf := none
  fields := #[]
  methods := #[]
  instanceTypes := #[]
  staticTypes := #[]
  resolved := #[]
  callSites := []
  init := .initialized
  statics := none
  mirror := none

def pool0 : Array CpInfo := pool [(5, u "<init>"), (0, u "()V"), (1, .class_ 10), (1, u "java/lang/Object")] 113

def k0m0 : Method := { name := "<init>", desc := "()V", sig := { parameters := [], returnType := none }, accessFlags := 1, code := none }
/-- java/lang/Object -/
def k0 : Class := { plain "java/lang/Object" none with
  accessFlags := 33
  interfaces := #[]
  cf := some (fileOf pool0 8 #[] #[{ accessFlags := 1, nameIndex := 5, descriptorIndex := 6, attributes := #[] }] 33 0 #[] #[])
  fields := #[]
  methods := #[k0m0]
  instanceTypes := #[]
  staticTypes := #[]
  resolved := Array.replicate 124 none
  statics := none }

def pool1 : Array CpInfo := pool [(2, .class_ 4), (1, u "java/lang/Object"), (0, u "<init>"), (0, u "()V"), (0, .double 9214871658872686752), (1, .double 118622047889322841), (1, .double 8945421882333202015), (1, .methodref 14 15), (0, .class_ 16), (0, .nameAndType 17 18), (0, u "com/example/merkmal/merkmal/index/Postings"), (0, u "isCount"), (0, u "(D)Z"), (0, .class_ 20), (0, u "com/example/merkmal/merkmal/index/PostingsIsCountPinLaw"), (2, u "law"), (0, u "(II)Z")] 3

def k1m0 : Method := { name := "<init>", desc := "()V", sig := { parameters := [], returnType := none }, accessFlags := 1, code := none }
def k1c1 : Code := { maxStack := 4, maxLocals := 6, code := code, exceptionTable := #[], attributes := #[] }
def k1m1 : Method := { name := "law", desc := "(II)Z", sig := { parameters := [.int, .int], returnType := some .boolean }, accessFlags := 9, code := some k1c1 }
/-- com/example/merkmal/merkmal/index/PostingsIsCountPinLaw -/
def k1 : Class := { plain "com/example/merkmal/merkmal/index/PostingsIsCountPinLaw" (some 0) with
  accessFlags := 49
  interfaces := #[]
  cf := some (fileOf pool1 19 #[] #[{ accessFlags := 1, nameIndex := 5, descriptorIndex := 6, attributes := #[] }, { accessFlags := 9, nameIndex := 23, descriptorIndex := 24, attributes := #[] }] 49 2 #[] #[])
  fields := #[]
  methods := #[k1m0, k1m1]
  instanceTypes := #[]
  staticTypes := #[]
  resolved := Array.replicate 28 none
  statics := none }

def pool2 : Array CpInfo := pool [(2, .class_ 4), (1, u "java/lang/Object"), (3, .class_ 10), (1, u "com/example/merkmal/merkmal/index/Postings"), (0, u "records"), (0, u "[I"), (2, u "counts"), (0, u "[D"), (2, u "totalCount"), (0, u "D"), (2, .double 9218868437227405312), (6, u "NONE"), (0, u "Lcom/example/merkmal/merkmal/index/Postings;"), (5, u "isCount"), (0, u "(D)Z")] 10

def k2c0 : Code := { maxStack := 4, maxLocals := 2, code := prog_36_method_2_code, exceptionTable := #[], attributes := #[] }
def k2m0 : Method := { name := "isCount", desc := "(D)Z", sig := { parameters := [.double], returnType := some .boolean }, accessFlags := 9, code := some k2c0 }
/-- com/example/merkmal/merkmal/index/Postings -/
def k2 : Class := { plain "com/example/merkmal/merkmal/index/Postings" (some 0) with
  accessFlags := 49
  interfaces := #[]
  cf := some (fileOf pool2 8 #[] #[{ accessFlags := 9, nameIndex := 37, descriptorIndex := 38, attributes := #[] }] 49 2 #[] #[{ accessFlags := 25, nameIndex := 30, descriptorIndex := 31, attributes := #[] }, { accessFlags := 18, nameIndex := 11, descriptorIndex := 12, attributes := #[] }, { accessFlags := 18, nameIndex := 15, descriptorIndex := 16, attributes := #[] }, { accessFlags := 18, nameIndex := 19, descriptorIndex := 20, attributes := #[] }])
  fields := #[{ name := "NONE", type := (.object "com/example/merkmal/merkmal/index/Postings"), accessFlags := 25, slot := 0, constantValue := 0 }, { name := "records", type := (.array .int), accessFlags := 18, slot := 0, constantValue := 0 }, { name := "counts", type := (.array .double), accessFlags := 18, slot := 1, constantValue := 0 }, { name := "totalCount", type := .double, accessFlags := 18, slot := 2, constantValue := 0 }]
  methods := #[k2m0]
  instanceTypes := #[(.array .int), (.array .double), .double]
  staticTypes := #[(.object "com/example/merkmal/merkmal/index/Postings")]
  resolved := Array.replicate 49 none
  statics := none }

def pool3 : Array CpInfo := pool [(1, u "java/lang/Cloneable"), (0, .class_ 1), (0, u "java/lang/Object"), (0, .class_ 3)] 3

/-- java/lang/Cloneable -/
def k3 : Class := { plain "java/lang/Cloneable" (some 0) with
  accessFlags := 1537
  interfaces := #[]
  cf := some (fileOf pool3 2 #[] #[] 1537 4 #[] #[])
  fields := #[]
  methods := #[]
  instanceTypes := #[]
  staticTypes := #[]
  resolved := Array.replicate 8 none
  statics := none }

def pool4 : Array CpInfo := pool [(1, u "java/io/Serializable"), (0, .class_ 1), (0, u "java/lang/Object"), (0, .class_ 3)] 3

/-- java/io/Serializable -/
def k4 : Class := { plain "java/io/Serializable" (some 0) with
  accessFlags := 1537
  interfaces := #[]
  cf := some (fileOf pool4 2 #[] #[] 1537 4 #[] #[])
  fields := #[]
  methods := #[]
  instanceTypes := #[]
  staticTypes := #[]
  resolved := Array.replicate 8 none
  statics := none }

/-- the primitive byte -/
def k5 : Class := { plain "byte" none with kind := .primitive 'B', accessFlags := 0x411 }
/-- [B -/
def k6 : Class := { plain "[B" (some 0) with kind := .array 5 .byte, interfaces := #[3, 4], accessFlags := 1041 }

/-- the primitive int -/
def k7 : Class := { plain "int" none with kind := .primitive 'I', accessFlags := 0x411 }
/-- [I -/
def k8 : Class := { plain "[I" (some 0) with kind := .array 7 .int, interfaces := #[3, 4], accessFlags := 1041 }

def heap : Heap := #[]
def classes : Array Class := #[k0, k1, k2, k3, k4, k5, k6, k7, k8]
def interned : List (Array UInt16 × Addr) := []
def slotsUsed : Nat := 0
def theMethod : MethodId := ⟨1, 1⟩
def args0 : Array Value := #[.int 1, .int 1]
def aboutOver (below : List Frame) : State where
  vm := { classes := classes, interned := interned.toArray }
  heap := heap
  slotsUsed := slotsUsed
  threads := #[{ frames := .invoking theMethod args0 :: below }]
def below0 : List Frame := [.native { method := ⟨0, 0⟩, args := #[] }]
def about1 : State := aboutOver below0
def p0 : Program := .bare "" "" ""
def e0 : Env := launch0.env 0 0 0
theorem w_frames : about1.frames = Frame.invoking theMethod args0 :: below0 := rfl
set_option maxRecDepth 65536 in
theorem w_args : argsFit about1.vm theMethod args0 = true := by decide +kernel
set_option maxRecDepth 65536 in
theorem w_heap : heapFits about1 = true := by decide +kernel
set_option maxRecDepth 65536 in
theorem w_runnable : about1.curStatus? = some .runnable := by decide +kernel
set_option maxRecDepth 65536 in
theorem w_alone : about1.alone = true := by decide +kernel
set_option maxRecDepth 65536 in
theorem w_named : about1.methodNamed? x = some theMethod := by decide +kernel
set_option maxRecDepth 65536 in
theorem w_hears : about1.hears theMethod below0 = true := by decide +kernel
set_option maxRecDepth 65536 in
theorem w_ripe : about1.ripe theMethod args0 below0 = true := by decide +kernel
theorem w_running : about1.status = .running := rfl
set_option maxRecDepth 65536 in
theorem w_room : about1.hasRoom e0.platform room_1 = true :=
  launch0.hasRoom_least _ room_1 (by decide +kernel) (by decide +kernel) (by decide +kernel) (by decide +kernel) (by decide +kernel) (by decide +kernel)
theorem allAtoms_all (ts : List Jvm.Cond) (a : Array Jvm.Value) (st : Jvm.State) : (allAtoms ts).before a st = ts.all (fun c => c.before a st) := by
  induction ts with
  | nil => rfl
  | cons c t ih =>
    show (Jvm.Cond.and c (allAtoms t)).before a st = _
    rw [Jvm.Cond.before_and, ih, List.all_cons]
def words1 : List Jvm.Cond := Jvm.Cond.code x code maxLocals ret :: tables_1
/-- a 'code' word, met by the world's own term for the bytes: nothing is compared byte by byte -/
theorem code_word {y : MethodName} {bytes : ByteArray} {mx : Nat} {rt : Option FieldType} {a : Array Value} {s : State} {m : MethodId} {meth : Method} {c : Code} (h1 : s.methodNamed? y = some m) (h2 : s.vm.method? m = some meth) (h3 : meth.code = some c) (h4 : c.code = bytes)
    (h5 : (c.maxLocals == mx && c.exceptionTable.isEmpty && decide (c.maxStack ≤ mostOperands) && decide (meth.sig.returnType = rt) && !meth.locks && decide (parseMethodDescriptor y.desc = some meth.sig)) = true) : (Jvm.Cond.code y bytes mx rt).before a s = true := by
  simp only [Bool.and_eq_true, beq_iff_eq, Bool.not_eq_true', decide_eq_true_eq] at h5
  obtain ⟨⟨⟨⟨⟨g1, g2⟩, g3⟩, g4⟩, g5⟩, g6⟩ := h5
  simp [Cond.before, Cond.holds, Cond.value, h1, h2, h3, h4, g1, g2, g3, g4, g5, g6]
def isCode : Jvm.Cond → Bool
  | .code _ _ _ _ => true
  | _ => false
theorem all_split {L : List Jvm.Cond} {P : Jvm.Cond → Bool} (h1 : L.all (fun c => isCode c || P c) = true) (h2 : ∀ c ∈ L.filter isCode, P c = true) : L.all P = true := by
  refine List.all_eq_true.mpr fun c hc => ?_
  have h := List.all_eq_true.mp h1 c hc
  rcases Bool.eq_false_or_eq_true (isCode c) with hi | hi
  · exact h2 c (List.mem_filter.mpr ⟨hc, hi⟩)
  · simpa [hi] using h
set_option maxRecDepth 65536 in
theorem w_c0 : (Jvm.Cond.code x code maxLocals ret).before args0 about1 = true := code_word (m := ⟨1, 1⟩) (meth := k1m1) (c := k1c1) (by decide +kernel) rfl rfl rfl (by decide +kernel)
set_option maxRecDepth 65536 in
theorem w_c1 : (Jvm.Cond.code ({ cls := "com/example/merkmal/merkmal/index/Postings", name := "isCount", desc := "(D)Z" } : Jvm.MethodName) prog_36_method_2_code (2 : Nat) (Option.some Jvm.ClassFile.FieldType.boolean)).before args0 about1 = true := code_word (m := ⟨2, 0⟩) (meth := k2m0) (c := k2c0) (by decide +kernel) rfl rfl rfl (by decide +kernel)
def codes1 : List Jvm.Cond := [Jvm.Cond.code x code maxLocals ret, Jvm.Cond.code ({ cls := "com/example/merkmal/merkmal/index/Postings", name := "isCount", desc := "(D)Z" } : Jvm.MethodName) prog_36_method_2_code (2 : Nat) (Option.some Jvm.ClassFile.FieldType.boolean)]
set_option maxRecDepth 65536 in
theorem codes_eq : words1.filter isCode = codes1 := rfl
theorem w_codes : ∀ c ∈ words1.filter isCode, c.before args0 about1 = true := by
  rw [codes_eq]
  intro c hc
  simp only [codes1, List.mem_cons, List.not_mem_nil, or_false] at hc
  rcases hc with rfl | rfl
  · exact w_c0
  · exact w_c1
set_option maxRecDepth 65536 in
theorem w_t1 : words1.all (fun c => isCode c || c.before args0 about1) = true := by decide +kernel
theorem w_tables : (allAtoms (Jvm.Cond.code x code maxLocals ret :: tables_1)).before args0 about1 = true := by
  rw [allAtoms_all]
  show words1.all (fun c => c.before args0 about1) = true
  refine all_split ?_ w_codes
  rw [w_t1]
set_option maxRecDepth 65536 in
theorem w_case : (Jvm.Cond.and given_1 narrow_1).before args0 about1 = true := by decide +kernel
theorem w_applies : (headSpec (Jvm.Cond.code x code maxLocals ret :: tables_1) room_1).applies x e0.platform about1 = true :=
  (Spec.applies_iff w_frames).mpr ⟨w_running, w_runnable, w_alone, w_named, w_hears, w_ripe, w_room, w_tables⟩
theorem atStart : AtStart classFile x code maxLocals ret World_1 tables_1 room_1 Calls_1 rest_1 Pre_1 launch0 p0 e0 about1 theMethod args0 below0 :=
  ⟨lists_1, trivial, launch0.admits_env _ _ _, launch0.least_env, fairChoices_fair.cas, fairChoices_fair.clock, w_frames, w_args, w_heap, w_applies, trivial, trivial, w_case⟩
end start1
theorem witness_1 : WitnessClaimed_1 := ⟨start1.p0, start1.e0, start1.about1, start1.theMethod, start1.args0, start1.below0, start1.atStart⟩
end Jvm.Pilot.@@N@@
