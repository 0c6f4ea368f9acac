import JvmDerived
import JvmDerived.Pilot.@@N@@Statement
import JvmDerived.Pilot.@@N@@Code
set_option linter.unusedVariables false
set_option linter.unusedSimpArgs false
namespace Jvm.Pilot.@@N@@
open Jvm Jvm.ClassFile Sem Op Lib Jvm.Free Jvm.Stand Jvm.LawKit Jvm.RoadKit Bundle Jvm.Pilot.@@N@@.Jvm.D
section OwnWalk
variable {p : Program} {l : Launch} {e : Env} {R : Room} {s : State} {m : MethodId} {args : Array Value} {below : List Frame} {meth : Method} {c : Code} {T T' : State} {locs : List Loc} {cells slots kc ks : Nat} {g g' : JFrame} {Q : Option Value → Heap → List Loc → Prop}
/-- from here the run comes to its end, and the end is as Q says -/
def own_G (p : Program) (e : Env) (below : List Frame) (s : State) (Q : Option Value → Heap → List Loc → Prop) (kc ks : Nat) (T : State) (g : JFrame) : Prop :=
  ∃ s₂ o, Steps p.tables e below (T.setTop g) s₂ ∧ s₂.status = .running ∧ Ended s₂ below o ∧ ∃ v L, o = .returned v ∧ Q v s₂.heap L ∧ FrameEnd s o s₂ L kc ks
theorem own_enter (q : g = g') (k : own_G p e below s Q kc ks T g') : own_G p e below s Q kc ks T g := q ▸ k
theorem own_st (st : ∀ t, Steps p.tables e below (T'.setTop g') t → Steps p.tables e below (T.setTop g) t) (k : own_G p e below s Q kc ks T' g') : own_G p e below s Q kc ks T g := by
  obtain ⟨s₂, o, h1, h2⟩ := k
  exact ⟨s₂, o, st _ h1, h2⟩
theorem own_tr (st : Steps p.tables e below (T.setTop g) (T'.setTop g')) (k : own_G p e below s Q kc ks T' g') : own_G p e below s Q kc ks T g := own_st (fun _ h => st.trans h) k
theorem own_ret (X : Stand p l e R s m args below meth c T locs cells slots) (hx : p.tables.exec = Jvm.exec) (hlk : meth.locks = false) {pc : Nat} {Ls : Array Slot} {w : Value} {t : FieldType} {i : Instr} {rest : List Value} (hret : meth.sig.returnType = some t) (hn : narrow t w = w)
    (hi : (i = .ireturn ∧ (t = .int ∨ t = .boolean ∨ t = .byte ∨ t = .char ∨ t = .short) ∧ ∃ z, w = .int z) ∨ (i = .lreturn ∧ t = .long ∧ ∃ z, w = .long z) ∨ (i = .dreturn ∧ t = .double ∧ ∃ z, w = .double z) ∨ (i = .freturn ∧ t = .float ∧ ∃ z, w = .float z) ∨ (i = .areturn ∧ t.isReference = true ∧ w.isRef = true))
    (hd : decode c.code pc = .ok (i, 1)) (hc : cells ≤ kc) (hs : slots ≤ ks) (hQ : Q (some w) T.heap locs) : own_G p e below s Q kc ks T (mkF m pc Ls (w :: rest)) := by
  obtain ⟨fs, hr, hrun, hended, hW, hsame⟩ := X.leave (v := some w) (fun h => by rw [hret] at h; cases h) hlk
  exact ⟨_, _, retOut X hx hret hn hi hd hr, hrun, hended, _, _, rfl, hQ, ⟨_, rfl⟩, hW, hsame.mono hc hs⟩
theorem own_retI (X : Stand p l e R s m args below meth c T locs cells slots) (hx : p.tables.exec = Jvm.exec) (hlk : meth.locks = false) {pc : Nat} {Ls : Array Slot} {z : Int32} {rest : List Value} (hret : meth.sig.returnType = some .int)
    (hd : decode c.code pc = .ok (.ireturn, 1)) (hc : cells ≤ kc) (hs : slots ≤ ks) (hQ : Q (some (.int z)) T.heap locs) : own_G p e below s Q kc ks T (mkF m pc Ls (.int z :: rest)) :=
  own_ret X hx hlk hret rfl (Or.inl ⟨rfl, Or.inl rfl, z, rfl⟩) hd hc hs hQ
theorem own_retZ (X : Stand p l e R s m args below meth c T locs cells slots) (hx : p.tables.exec = Jvm.exec) (hlk : meth.locks = false) {pc : Nat} {Ls : Array Slot} {z : Int32} {rest : List Value} (hret : meth.sig.returnType = some .boolean)
    (hd : decode c.code pc = .ok (.ireturn, 1)) (hn : narrow .boolean (.int z) = .int z) (hc : cells ≤ kc) (hs : slots ≤ ks) (hQ : Q (some (.int z)) T.heap locs) : own_G p e below s Q kc ks T (mkF m pc Ls (.int z :: rest)) :=
  own_ret X hx hlk hret hn (Or.inl ⟨rfl, Or.inr (Or.inl rfl), z, rfl⟩) hd hc hs hQ
theorem own_retJ (X : Stand p l e R s m args below meth c T locs cells slots) (hx : p.tables.exec = Jvm.exec) (hlk : meth.locks = false) {pc : Nat} {Ls : Array Slot} {z : Int64} {rest : List Value} (hret : meth.sig.returnType = some .long)
    (hd : decode c.code pc = .ok (.lreturn, 1)) (hc : cells ≤ kc) (hs : slots ≤ ks) (hQ : Q (some (.long z)) T.heap locs) : own_G p e below s Q kc ks T (mkF m pc Ls (.long z :: rest)) :=
  own_ret X hx hlk hret rfl (Or.inr (Or.inl ⟨rfl, rfl, z, rfl⟩)) hd hc hs hQ
theorem own_retD (X : Stand p l e R s m args below meth c T locs cells slots) (hx : p.tables.exec = Jvm.exec) (hlk : meth.locks = false) {pc : Nat} {Ls : Array Slot} {z : UInt64} {rest : List Value} (hret : meth.sig.returnType = some .double)
    (hd : decode c.code pc = .ok (.dreturn, 1)) (hc : cells ≤ kc) (hs : slots ≤ ks) (hQ : Q (some (.double z)) T.heap locs) : own_G p e below s Q kc ks T (mkF m pc Ls (.double z :: rest)) :=
  own_ret X hx hlk hret rfl (Or.inr (Or.inr (Or.inl ⟨rfl, rfl, z, rfl⟩))) hd hc hs hQ
theorem own_retA (X : Stand p l e R s m args below meth c T locs cells slots) (hx : p.tables.exec = Jvm.exec) (hlk : meth.locks = false) {pc : Nat} {Ls : Array Slot} {w : Value} {t : FieldType} {rest : List Value} (hret : meth.sig.returnType = some t) (ht : t.isReference = true) (hw : w.isRef = true)
    (hd : decode c.code pc = .ok (.areturn, 1)) (hc : cells ≤ kc) (hs : slots ≤ ks) (hQ : Q (some w) T.heap locs) : own_G p e below s Q kc ks T (mkF m pc Ls (w :: rest)) :=
  own_ret X hx hlk hret (by cases t <;> first | (cases ht; done) | (cases w <;> first | (cases hw; done) | rfl)) (Or.inr (Or.inr (Or.inr (Or.inr ⟨rfl, ht, hw⟩)))) hd hc hs hQ
theorem own_retV (X : Stand p l e R s m args below meth c T locs cells slots) (hx : p.tables.exec = Jvm.exec) (hlk : meth.locks = false) {pc : Nat} {Ls : Array Slot} (hret : meth.sig.returnType = none)
    (hd : decode c.code pc = .ok (.return_, 1)) (hc : cells ≤ kc) (hs : slots ≤ ks) (hQ : Q none T.heap locs) : own_G p e below s Q kc ks T (mkF m pc Ls []) := by
  obtain ⟨fs, hr, hrun, hended, hW, hsame⟩ := X.leave (v := none) (fun _ => rfl) hlk
  exact ⟨_, _, X.returnOut hx hret hd hr, hrun, hended, _, _, rfl, hQ, ⟨_, rfl⟩, hW, hsame.mono hc hs⟩
end OwnWalk
section OwnFloat
/-! ## Doubles as fractions: x is n / 2^k, exactly -/
def own_Dy (x : UInt64) (n : Int) (k : Nat) : Prop :=
  (∃ s c q, FP.Core.val64 x = .fin s c q) ∧ k ≤ 1074 ∧ FP.Core.zval FP.Core.b64 (FP.Core.val64 x) = n * ((2 ^ (1074 - k) : Nat) : Int)
theorem own_qmax : FP.Core.b64.qmax = 971 := by decide
theorem own_p : FP.Core.b64.p = 53 := by decide
theorem own_signed_abs (n : Int) : FP.Core.signed (decide (n < 0)) n.natAbs = n := by
  unfold FP.Core.signed; by_cases h : n < 0 <;> simp [h] <;> omega
/-- every n / 2^k with |n| < 2^53 is a double's value -/
theorem own_fitV {n : Int} {k : Nat} (hk : k ≤ 1074) (hn : n.natAbs < 9007199254740992) :
    ∃ V, FP.Core.fits FP.Core.b64 V ∧ (∃ s c q, V = .fin s c q) ∧ FP.Core.zval FP.Core.b64 V = n * ((2 ^ (1074 - k) : Nat) : Int) := by
  obtain ⟨c', q', h1, h2⟩ := FP.Core.round_exact FP.Core.good_b64 (decide (n < 0)) (c := n.natAbs) (q := -(k : Int)) (by rw [own_p]; exact hn) (by rw [FP.Core.qmin_b64]; omega) (by rw [own_qmax]; omega)
  refine ⟨_, FP.Core.round_fits FP.Core.good_b64 (.fin (decide (n < 0)) n.natAbs (-(k : Int))), ⟨_, _, _, h1⟩, ?_⟩
  rw [h1]
  show FP.Core.signed (decide (n < 0)) (FP.Core.inUnits c' q' FP.Core.b64.qmin) = _
  rw [h2]
  unfold FP.Core.inUnits
  rw [FP.Core.qmin_b64, show (-(k : Int) - -1074).toNat = 1074 - k by omega, FP.Core.signed_mul, own_signed_abs]
/-- what is worth n / 2^k rounds to that -/
theorem own_round {s : Bool} {c : Nat} {q e0 n : Int} {k : Nat} (hk : k ≤ 1074) (hn : n.natAbs < 9007199254740992) (h0 : e0 ≤ -1074) (h1 : e0 ≤ q)
    (h : FP.Core.signed s (FP.Core.inUnits c q e0) = n * ((2 ^ (1074 - k) : Nat) : Int) * ((2 ^ (-1074 - e0).toNat : Nat) : Int)) :
    (∃ s' c' q', FP.Core.round FP.Core.b64 (.fin s c q) = .fin s' c' q') ∧ FP.Core.zval FP.Core.b64 (FP.Core.round FP.Core.b64 (.fin s c q)) = n * ((2 ^ (1074 - k) : Nat) : Int) := by
  obtain ⟨V, v1, ⟨vs, vc, vq, v2⟩, v3⟩ := own_fitV hk hn
  have hne : V ≠ .nan := by rw [v2]; exact FP.Core.Datum.noConfusion
  have hq := FP.Core.qmin_b64
  have le := FP.Core.zval_round_le FP.Core.good_b64 (s := s) (c := c) (q := q) (e0 := e0) v1 hne (by rw [hq]; exact h0) h1 (by rw [hq, v3, h]; exact Int.le_refl _)
  have ge := FP.Core.zval_round_ge FP.Core.good_b64 (s := s) (c := c) (q := q) (e0 := e0) v1 hne (by rw [hq]; exact h0) h1 (by rw [hq, v3, h]; exact Int.le_refl _)
  have e : FP.Core.zval FP.Core.b64 (FP.Core.round FP.Core.b64 (.fin s c q)) = FP.Core.zval FP.Core.b64 V := Int.le_antisymm le ge
  refine ⟨?_, e.trans v3⟩
  rcases FP.Core.roundRatio_cases FP.Core.b64 s c 1 q with ⟨c', q', h'⟩ | h'
  · exact ⟨_, _, _, h'⟩
  · exfalso
    have e' : FP.Core.zval FP.Core.b64 (FP.Core.roundRatio FP.Core.b64 s c 1 q) = FP.Core.zval FP.Core.b64 V := e
    rw [h', v2] at e'
    rw [v2] at v1
    have hlt := FP.Core.zmag_lt_top FP.Core.good_b64 v1
    have e2 : FP.Core.signed s (FP.Core.b64.tails * 2 ^ (FP.Core.b64.exps - 2)) = FP.Core.signed vs (FP.Core.inUnits vc vq FP.Core.b64.qmin) := e'
    clear e'
    generalize FP.Core.inUnits vc vq FP.Core.b64.qmin = a at e2 hlt
    generalize FP.Core.b64.tails * 2 ^ (FP.Core.b64.exps - 2) = b at e2 hlt
    cases s <;> cases vs <;> simp only [FP.Core.signed, if_true, Bool.false_eq_true, if_false] at e2 <;> omega
theorem own_Dy.fin {x : UInt64} {n : Int} {k : Nat} (h : own_Dy x n k) : Fl.Fin64 x := by
  obtain ⟨⟨s, c, q, h1⟩, -⟩ := h
  exact Fl.fin64_core.mpr ⟨s, c, q, h1⟩
theorem own_Dy.nn {x : UInt64} {n : Int} {k : Nat} (h : own_Dy x n k) : Fl.NoNaN64 x := h.fin.noNaN
theorem own_Dy.ne {x : UInt64} {n : Int} {k : Nat} (h : own_Dy x n k) : FP.Core.val64 x ≠ .nan := by
  obtain ⟨⟨s, c, q, h1⟩, -⟩ := h; rw [h1]; exact FP.Core.Datum.noConfusion
theorem own_pow {j k : Nat} (h : j + k ≤ 1074) : ((2 ^ (1074 - j) : Nat) : Int) = ((2 ^ k : Nat) : Int) * ((2 ^ (1074 - (j + k)) : Nat) : Int) := by
  rw [← Int.natCast_mul, ← Nat.pow_add]; congr 2; omega
/-- the same number, with a greater denominator -/
theorem own_Dy.up {x : UInt64} {n : Int} {k : Nat} (h : own_Dy x n k) (j : Nat) (hj : k + j ≤ 1074) : own_Dy x (n * ((2 ^ j : Nat) : Int)) (k + j) := by
  obtain ⟨h1, -, h3⟩ := h
  refine ⟨h1, hj, ?_⟩
  rw [h3, own_pow hj, Int.mul_assoc]
theorem own_Dy.dn {x : UInt64} {n : Int} {k j : Nat} (h : own_Dy x (n * ((2 ^ j : Nat) : Int)) (k + j)) : own_Dy x n k := by
  obtain ⟨h1, h2, h3⟩ := h
  refine ⟨h1, by omega, ?_⟩
  rw [h3, own_pow h2, Int.mul_assoc]
theorem own_dy_l2d {a : Int64} (h1 : -9007199254740992 < a.toInt) (h2 : a.toInt < 9007199254740992) : own_Dy (FP.l2d a) a.toInt 0 := by
  have hr := own_round (s := decide (a.toInt < 0)) (c := a.toInt.natAbs) (q := 0) (e0 := -1074) (n := a.toInt) (k := 0) (by omega) (by omega) (by omega) (by omega) (by
    unfold FP.Core.inUnits
    rw [FP.Core.signed_mul, own_signed_abs, show (0 - -1074 : Int).toNat = 1074 from rfl, show (-1074 - -1074 : Int).toNat = 0 from rfl, Nat.pow_zero, Int.natCast_one, Int.mul_one])
  have hv : FP.Core.val64 (FP.l2d a) = FP.Core.round FP.Core.b64 (.fin (decide (a.toInt < 0)) a.toInt.natAbs 0) := FP.Core.val64_l2d a
  unfold own_Dy
  rw [hv]
  exact ⟨hr.1, by omega, hr.2⟩
theorem own_dy_i2d (a : Int32) : own_Dy (FP.i2d a) a.toInt 0 := by
  have h := Int32.toInt_lt a
  have h' := Int32.le_toInt a
  have e : a.toInt64.toInt = a.toInt := Int32.toInt_toInt64 a
  have := own_dy_l2d (a := a.toInt64) (by omega) (by omega)
  rw [e] at this
  exact (FP.Core.i2d_l2d a ▸ this : own_Dy (FP.Core.i2d a) a.toInt 0)
theorem own_Dy.add {x y : UInt64} {n m : Int} {k : Nat} (hx : own_Dy x n k) (hy : own_Dy y m k) (h : (n + m).natAbs < 9007199254740992) : own_Dy (FP.dadd x y) (n + m) k := by
  obtain ⟨⟨s, c, q, hx1⟩, hk, hx3⟩ := hx
  obtain ⟨⟨t, d, r, hy1⟩, -, hy3⟩ := hy
  obtain ⟨sg, w, e, h1, h2, h3⟩ := FP.Core.sum_units (f := FP.Core.b64) (hx1 ▸ FP.Core.val64_fits x) (hy1 ▸ FP.Core.val64_fits y)
  have hq := FP.Core.qmin_b64
  rw [← hx1, ← hy1, hx3, hy3, ← Int.add_mul] at h3
  have hr := own_round (s := sg) (c := w) (q := e) (e0 := -1074) (n := n + m) (k := k) hk h (by omega) (by rw [hq] at h2; exact h2) (by
    rw [hq] at h3; rw [h3, show (-1074 - -1074 : Int).toNat = 0 from rfl, Nat.pow_zero, Int.natCast_one, Int.mul_one])
  have hv : FP.Core.val64 (FP.dadd x y) = FP.Core.round FP.Core.b64 (.fin sg w e) := by
    have := FP.Core.val64_dadd x y
    rw [hx1, hy1, h1] at this
    exact this
  unfold own_Dy
  rw [hv]
  exact ⟨hr.1, hk, hr.2⟩
theorem own_Dy.sub {x y : UInt64} {n m : Int} {k : Nat} (hx : own_Dy x n k) (hy : own_Dy y m k) (h : (n - m).natAbs < 9007199254740992) : own_Dy (FP.dsub x y) (n - m) k := by
  obtain ⟨⟨s, c, q, hx1⟩, hk, hx3⟩ := hx
  obtain ⟨⟨t, d, r, hy1⟩, -, hy3⟩ := hy
  have hyn : FP.Core.fits FP.Core.b64 (FP.Core.negate (.fin t d r)) := FP.Core.negate_fits (hy1 ▸ FP.Core.val64_fits y)
  obtain ⟨sg, w, e, h1, h2, h3⟩ := FP.Core.sum_units (f := FP.Core.b64) (s := s) (c := c) (q := q) (t := !t) (d := d) (r := r) (hx1 ▸ FP.Core.val64_fits x) hyn
  have hq := FP.Core.qmin_b64
  have hneg : FP.Core.zval FP.Core.b64 (.fin (!t) d r) = -(m * ((2 ^ (1074 - k) : Nat) : Int)) := by
    rw [← hy3, hy1]; exact FP.Core.zval_negate FP.Core.b64 (.fin t d r)
  rw [← hx1, hx3, hneg, ← Int.sub_eq_add_neg, ← Int.sub_mul] at h3
  have hr := own_round (s := sg) (c := w) (q := e) (e0 := -1074) (n := n - m) (k := k) hk h (by omega) (by rw [hq] at h2; exact h2) (by
    rw [hq] at h3; rw [h3, show (-1074 - -1074 : Int).toNat = 0 from rfl, Nat.pow_zero, Int.natCast_one, Int.mul_one])
  have hv : FP.Core.val64 (FP.dsub x y) = FP.Core.round FP.Core.b64 (.fin sg w e) := by
    have := FP.Core.val64_dsub x y
    rw [hx1, hy1] at this
    exact this.trans (congrArg _ h1)
  unfold own_Dy
  rw [hv]
  exact ⟨hr.1, hk, hr.2⟩
theorem own_Dy.mul {x y : UInt64} {n m : Int} {k j : Nat} (hx : own_Dy x n k) (hy : own_Dy y m j) (hkj : k + j ≤ 1074) (h : (n * m).natAbs < 9007199254740992) : own_Dy (FP.dmul x y) (n * m) (k + j) := by
  obtain ⟨⟨s, c, q, hx1⟩, hk, hx3⟩ := hx
  obtain ⟨⟨t, d, r, hy1⟩, hj, hy3⟩ := hy
  obtain ⟨h1, h2, h3⟩ := FP.Core.product_units (f := FP.Core.b64) (hx1 ▸ FP.Core.val64_fits x) (hy1 ▸ FP.Core.val64_fits y)
  have hq := FP.Core.qmin_b64
  have hs : FP.Core.signed (s != t) (FP.Core.zmag FP.Core.b64 (.fin s c q) * FP.Core.zmag FP.Core.b64 (.fin t d r)) = FP.Core.zval FP.Core.b64 (.fin s c q) * FP.Core.zval FP.Core.b64 (.fin t d r) := by
    show _ = FP.Core.signed s (FP.Core.zmag FP.Core.b64 (.fin s c q)) * FP.Core.signed t (FP.Core.zmag FP.Core.b64 (.fin t d r))
    generalize FP.Core.zmag FP.Core.b64 (.fin s c q) = a
    generalize FP.Core.zmag FP.Core.b64 (.fin t d r) = b
    cases s <;> cases t <;> simp [FP.Core.signed, Int.natCast_mul, Int.neg_mul, Int.mul_neg]
  have hr := own_round (s := s != t) (c := c * d) (q := q + r) (e0 := -2148) (n := n * m) (k := k + j) hkj h (by omega) (by rw [hq] at h2; omega) (by
    rw [hq] at h3
    have h3' : FP.Core.inUnits (c * d) (q + r) (-2148) = FP.Core.zmag FP.Core.b64 (FP.Core.Datum.fin s c q) * FP.Core.zmag FP.Core.b64 (FP.Core.Datum.fin t d r) := h3
    rw [h3', hs, ← hx1, ← hy1, hx3, hy3, show (-1074 - -2148 : Int).toNat = 1074 from rfl]
    have e1 : ((2 ^ (1074 - k) : Nat) : Int) * ((2 ^ (1074 - j) : Nat) : Int) = ((2 ^ (1074 - (k + j)) : Nat) : Int) * ((2 ^ 1074 : Nat) : Int) := by
      rw [← Int.natCast_mul, ← Int.natCast_mul, ← Nat.pow_add, ← Nat.pow_add]; congr 2; omega
    generalize ((2 ^ (1074 - k) : Nat) : Int) = A at e1 ⊢
    generalize ((2 ^ (1074 - j) : Nat) : Int) = B at e1 ⊢
    generalize ((2 ^ (1074 - (k + j)) : Nat) : Int) = C at e1 ⊢
    generalize ((2 ^ 1074 : Nat) : Int) = D at e1 ⊢
    calc n * A * (m * B) = n * m * (A * B) := by ac_rfl
      _ = n * m * C * D := by rw [e1]; ac_rfl)
  have hv : FP.Core.val64 (FP.dmul x y) = FP.Core.round FP.Core.b64 (.fin (s != t) (c * d) (q + r)) := by
    have := FP.Core.val64_dmul x y
    rw [hx1, hy1] at this
    exact this.trans (congrArg _ h1)
  unfold own_Dy
  rw [hv]
  exact ⟨hr.1, hkj, hr.2⟩
theorem own_Dy.cmp {x y : UInt64} {n m : Int} {k : Nat} (hx : own_Dy x n k) (hy : own_Dy y m k) : FP.dcmp x y = some (compare n m) := by
  have h := FP.Core.dcmp_zval hx.ne hy.ne
  rw [hx.2.2, hy.2.2, FP.Core.compare_mul_pos _ _ _ (by have := Nat.two_pow_pos (1074 - k); omega)] at h
  exact h
theorem own_Dy.eq {x y : UInt64} {n m : Int} {k : Nat} (hx : own_Dy x n k) (hy : own_Dy y m k) (h : n = m) (o : CmpOp) : cmpValue (FP.dcmp x y) o = 0 := by
  rw [hx.cmp hy, (FP.Core.compare_eq_iff n m).mpr h]; rfl
theorem own_Dy.lt {x y : UInt64} {n m : Int} {k : Nat} (hx : own_Dy x n k) (hy : own_Dy y m k) (h : n < m) (o : CmpOp) : cmpValue (FP.dcmp x y) o = -1 := by
  rw [hx.cmp hy, (FP.Core.compare_lt_iff n m).mpr h]; rfl
theorem own_Dy.gt {x y : UInt64} {n m : Int} {k : Nat} (hx : own_Dy x n k) (hy : own_Dy y m k) (h : m < n) (o : CmpOp) : cmpValue (FP.dcmp x y) o = 1 := by
  rw [hx.cmp hy, (FP.Core.compare_gt_iff n m).mpr h]; rfl
end OwnFloat
section OwnInt
theorem own_ladd {a b : Int64} (h : (a.toInt + b.toInt).natAbs < 9223372036854775808) : (a + b).toInt = a.toInt + b.toInt := by
  have q := c_ladd a b; have r := rng64 (a + b); omega
theorem own_lsub {a b : Int64} (h : (a.toInt - b.toInt).natAbs < 9223372036854775808) : (a - b).toInt = a.toInt - b.toInt := by
  have q := c_lsub a b; have r := rng64 (a - b); omega
theorem own_lmul {a b : Int64} (h : (a.toInt * b.toInt).natAbs < 9223372036854775808) : (a * b).toInt = a.toInt * b.toInt := by
  have q := c_lmul a b; have r := rng64 (a * b); generalize a.toInt * b.toInt = z at *; omega
theorem own_iadd {a b : Int32} (h : (a.toInt + b.toInt).natAbs < 2147483648) : (a + b).toInt = a.toInt + b.toInt := by
  have q := c_iadd a b; have r := rng32 (a + b); omega
theorem own_isub {a b : Int32} (h : (a.toInt - b.toInt).natAbs < 2147483648) : (a - b).toInt = a.toInt - b.toInt := by
  have q := c_isub a b; have r := rng32 (a - b); omega
theorem own_imul {a b : Int32} (h : (a.toInt * b.toInt).natAbs < 2147483648) : (a * b).toInt = a.toInt * b.toInt := by
  have q := c_imul a b; have r := rng32 (a * b); generalize a.toInt * b.toInt = z at *; omega
theorem own_absmul {n m : Int} {A B : Nat} (hn : n.natAbs ≤ A) (hm : m.natAbs ≤ B) : (n * m).natAbs ≤ A * B := by
  rw [Int.natAbs_mul]; exact Nat.mul_le_mul hn hm
end OwnInt
section OwnShift
theorem own_bv {q : Int32} {n : Nat} (h : q.toInt = (n : Int)) : q.toBitVec.toNat = n := by
  have h1 : q.toBitVec.toInt = (n : Int) := h
  have h2 := BitVec.toInt_eq_toNat_cond q.toBitVec
  have h3 := q.toBitVec.isLt
  split at h2 <;> omega
theorem own_lshl {x : Int64} {q : Int32} {n : Nat} (hq : q.toInt = (n : Int)) (hn : n < 64) (hb : (x.toInt * ((2 ^ n : Nat) : Int)).natAbs < 9223372036854775808) : (x <<< (q &&& 0x3f).toInt64).toInt = x.toInt * ((2 ^ n : Nat) : Int) := by
  have h1 := c_lshl x q n (by rw [own_bv hq]; omega)
  have h2 := rng64 (x <<< (q &&& 0x3f).toInt64)
  generalize x.toInt * ((2 ^ n : Nat) : Int) = z at *
  omega
theorem own_ishl {x : Int32} {q : Int32} {n : Nat} (hq : q.toInt = (n : Int)) (hn : n < 32) (hb : (x.toInt * ((2 ^ n : Nat) : Int)).natAbs < 2147483648) : (x <<< (q &&& 31)).toInt = x.toInt * ((2 ^ n : Nat) : Int) := by
  have h1 := c_ishl x q n (by rw [own_bv hq]; omega)
  have h2 := rng32 (x <<< (q &&& 31))
  generalize x.toInt * ((2 ^ n : Nat) : Int) = z at *
  omega
theorem own_ishl1 {q : Int32} {n : Nat} (hq : q.toInt = (n : Int)) (hn : n < 31) : ((1 : Int32) <<< (q &&& 31)).toInt = ((2 ^ n : Nat) : Int) := by
  have e : (1 : Int32).toInt = 1 := by decide
  have hp : 2 ^ n ≤ 2 ^ 30 := Nat.pow_le_pow_right (by omega) (by omega)
  rw [own_ishl hq (by omega) (by rw [e, Int.one_mul, Int.natAbs_natCast]; omega), e, Int.one_mul]
theorem own_lshl1 {q : Int32} {n : Nat} (hq : q.toInt = (n : Int)) (hn : n < 63) : ((1 : Int64) <<< (q &&& 0x3f).toInt64).toInt = ((2 ^ n : Nat) : Int) := by
  have e : (1 : Int64).toInt = 1 := by decide
  have hp : 2 ^ n ≤ 2 ^ 62 := Nat.pow_le_pow_right (by omega) (by omega)
  rw [own_lshl hq (by omega) (by rw [e, Int.one_mul, Int.natAbs_natCast]; omega), e, Int.one_mul]
/-- a mask of ones: what is left is some natural below the power -/
theorem own_andN (x : Int32) (mk : Int32) (M : Nat) (hM : mk.toInt = (M : Int)) : ∃ n : Nat, (x &&& mk).toInt = (n : Int) ∧ n ≤ M := by
  have h := c_and x mk (by omega)
  exact ⟨(x &&& mk).toInt.toNat, by omega, by omega⟩
theorem own_andL (x : Int64) (mk : Int64) (k : Nat) (hk : k ≤ 63) (hm : mk.toBitVec.toNat = 2 ^ k - 1) : ∃ n : Nat, (x &&& mk).toInt = (n : Int) ∧ n < 2 ^ k := by
  have h := c_maskL x mk k hk hm
  have hp := Nat.two_pow_pos k
  have h1 := Int.emod_nonneg x.toInt (show ((2 ^ k : Nat) : Int) ≠ 0 by omega)
  have h2 := Int.emod_lt_of_pos x.toInt (show (0 : Int) < ((2 ^ k : Nat) : Int) by omega)
  exact ⟨(x &&& mk).toInt.toNat, by omega, by omega⟩
theorem own_irem {x y : Int32} (hx : 0 ≤ x.toInt) (hy : 0 < y.toInt) : (x % y).toInt = x.toInt % y.toInt := by
  rw [Int32.toInt_mod, Int.tmod_eq_emod_of_nonneg hx]
theorem own_lrem {x y : Int64} (hx : 0 ≤ x.toInt) (hy : 0 < y.toInt) : (x - x / y * y).toInt = x.toInt % y.toInt := by
  rw [lrem_mod, Int64.toInt_mod, Int.tmod_eq_emod_of_nonneg hx]
end OwnShift
section OwnPlain
def own_a (p : Int32) : Int64 := (p >>> ((6 : Int32) &&& 31)).toInt64
theorem own_ab (p : Int32) : (own_a p).toInt.natAbs ≤ 33554432 := by
  have h := rng32 p
  have e : (own_a p).toInt = p.toInt / (2 ^ 6 : Nat) := (c_i2l _).trans (c_ishr p 6 6 rfl)
  rw [e]; omega
theorem own_da (p : Int32) : own_Dy (FP.l2d (own_a p)) (own_a p).toInt 0 := by
  have h := own_ab p
  exact own_dy_l2d (by omega) (by omega)
theorem own_pb (p q : Int32) : ((own_a p).toInt * (own_a q).toInt).natAbs ≤ 1125899906842624 := own_absmul (own_ab p) (own_ab q)
theorem own_mu (p q : Int32) : own_Dy (FP.dmul (FP.l2d (own_a p)) (FP.l2d (own_a q))) ((own_a p).toInt * (own_a q).toInt) 0 := by
  have h := own_pb p q
  exact (own_da p).mul (own_da q) (by omega) (by omega)
theorem own_ml (p q : Int32) : (own_a p * own_a q).toInt = (own_a p).toInt * (own_a q).toInt := by
  have h := own_pb p q
  exact own_lmul (by omega)
theorem own_re (p q r s : Int32) : own_Dy (FP.dsub (FP.dmul (FP.l2d (own_a p)) (FP.l2d (own_a r))) (FP.dmul (FP.l2d (own_a q)) (FP.l2d (own_a s)))) ((own_a p).toInt * (own_a r).toInt - (own_a q).toInt * (own_a s).toInt) 0 := by
  have h1 := own_pb p r; have h2 := own_pb q s
  refine (own_mu p r).sub (own_mu q s) ?_
  generalize (own_a p).toInt * (own_a r).toInt = x at *; generalize (own_a q).toInt * (own_a s).toInt = y at *; omega
theorem own_im (p q r s : Int32) : own_Dy (FP.dadd (FP.dmul (FP.l2d (own_a p)) (FP.l2d (own_a s))) (FP.dmul (FP.l2d (own_a q)) (FP.l2d (own_a r)))) ((own_a p).toInt * (own_a s).toInt + (own_a q).toInt * (own_a r).toInt) 0 := by
  have h1 := own_pb p s; have h2 := own_pb q r
  refine (own_mu p s).add (own_mu q r) ?_
  generalize (own_a p).toInt * (own_a s).toInt = x at *; generalize (own_a q).toInt * (own_a r).toInt = y at *; omega
theorem own_lre (p q r s : Int32) : own_Dy (FP.l2d (own_a p * own_a r - own_a q * own_a s)) ((own_a p).toInt * (own_a r).toInt - (own_a q).toInt * (own_a s).toInt) 0 := by
  have h1 := own_pb p r; have h2 := own_pb q s; have e1 := own_ml p r; have e2 := own_ml q s
  have e : (own_a p * own_a r - own_a q * own_a s).toInt = (own_a p).toInt * (own_a r).toInt - (own_a q).toInt * (own_a s).toInt := by
    rw [← e1] at h1; rw [← e2] at h2
    rw [own_lsub (by omega), e1, e2]
  rw [← e]
  rw [← e1] at h1 e; rw [← e2] at h2 e
  exact own_dy_l2d (by omega) (by omega)
theorem own_lim (p q r s : Int32) : own_Dy (FP.l2d (own_a p * own_a s + own_a q * own_a r)) ((own_a p).toInt * (own_a s).toInt + (own_a q).toInt * (own_a r).toInt) 0 := by
  have h1 := own_pb p s; have h2 := own_pb q r; have e1 := own_ml p s; have e2 := own_ml q r
  have e : (own_a p * own_a s + own_a q * own_a r).toInt = (own_a p).toInt * (own_a s).toInt + (own_a q).toInt * (own_a r).toInt := by
    rw [← e1] at h1; rw [← e2] at h2
    rw [own_ladd (by omega), e1, e2]
  rw [← e]
  rw [← e1] at h1 e; rw [← e2] at h2 e
  exact own_dy_l2d (by omega) (by omega)
theorem own_same (p : Int32) : (cmpValue (FP.dcmp (FP.l2d (own_a p)) (FP.l2d (own_a p))) .l) = (0 : Int32) := (own_da p).eq (own_da p) rfl .l
end OwnPlain
theorem d2_0 : decode jdk_30_method_1_code 0 = .ok (.aload_n 0, 1) := by decide +kernel
theorem d2_1 : decode jdk_30_method_1_code 1 = .ok (.invokespecial 1, 3) := by decide +kernel
theorem d2_4 : decode jdk_30_method_1_code 4 = .ok (.return_, 1) := by decide +kernel
theorem pn2 : plainName "java/lang/Record" = true := by first | (simp [plainName, overriddenIn]; done) | decide +kernel
theorem ef2 (m : MethodId) (a0 : Addr) : entryFrame m #[(.ref a0)] 1 = mkF m 0 #[.val (.ref a0)] [] := by first | (simp [entryFrame, mkF, argsToLocals, Value.category]; done) | rfl
def Q2 (Z : State) (a0 : Addr) (h0 : Heap) (n0 : Nat) (v : Option Value) (h : Heap) (L : List Loc) : Prop := v = none ∧ Fr n0 L ∧ h = h0
set_option maxRecDepth 65536 in
set_option maxHeartbeats 40000000 in
theorem rm2 (l : Launch) (Z : State) (ar : Array Value) (hw : ∀ d ∈ tables_1, d.before ar Z = true) (ws : List Jvm.Cond) (a0 : Addr) (h0 : Heap) (n0 : Nat) (Z0 : n0 ≤ h0.size) :
    MetFree l (⟨"java/lang/Record", "<init>", "()V"⟩ : MethodName) (head1 (Jvm.Cond.code (⟨"java/lang/Record", "<init>", "()V"⟩ : MethodName) jdk_30_method_1_code 1 none :: ws) ({ frames := 1, cells := 0, slots := 0, locals := 12 } : Room)) (fun a U => a = #[(.ref a0)] ∧ Z.Warmed39 U.vm ∧ U.heap = h0) (fun _ _ _ _ _ => True) (fun _ U o U' => ∃ v L, o = .returned v ∧ Q2 Z a0 h0 n0 v U'.heap L ∧ FrameEnd U o U' L ({ frames := 1, cells := 0, slots := 0, locals := 12 } : Room).cells ({ frames := 1, cells := 0, slots := 0, locals := 12 } : Room).slots) := by
  refine MetFree.of_bodySF (plainFor_of_name pn2) hisR ?_
  intro p e s m args below meth c s₁ Bd hml0 hP hK
  obtain ⟨rfl, hZ, hh⟩ := hP
  have hx := Bd.exec
  have hby := Bd.bytes
  have hlk := Bd.notSynchronized
  have hml : c.maxLocals = 1 := hml0
  have hown : s.vm.findClass "java/lang/Record" = some m.cls := findClass_of_methodNamed Bd.named
  have hnm := (name_of_methodNamed Bd.named Bd.method).1
  have X0 : Stand p l e ({ frames := 1, cells := 0, slots := 0, locals := 12 } : Room) s m #[(.ref a0)] below meth c s₁ [] 0 0 := Stand.of_body Bd
  have e0 : s₁.heap = h0 := by rw [← hh, Bd.state]; rfl
  have N0 := Fr.nil n0
  have K0 := Keep.refl h0 []
  refine own_enter (Q := Q2 Z a0 h0 n0) (ef2 m a0) ?_
  refine own_st (T' := s₁) (g' := (mkF m 1 #[.val (.ref a0)] [(.ref a0)])) (fun t k => ?_) ?_
  · show Steps p.tables e below (s₁.setTop (mkF m 0 #[.val (.ref a0)] [])) t
    refine XS.aloadN X0.here hx rfl (hb hby d2_0) rfl rfl ?_
    exact k
  obtain ⟨T1, X1, e1, st1⟩ := initO X0 hx hZ hown (hw _ (List.mem_of_getElem? (i := 11) rfl)) (hw _ (List.mem_of_getElem? (i := 12) rfl)) (hw _ (List.mem_of_getElem? (i := 13) rfl)) e0 (g := (mkF m 1 #[.val (.ref a0)] [(.ref a0)])) rfl (by rw [hml]; rfl) rfl (hb hby d2_1) (by decide) (W := 0) (by show 2 * 0 + _ ≤ _; exact Nat.le_of_eq rfl) (by decide)
  refine own_st (T' := T1) (g' := (mkF m 4 #[.val (.ref a0)] [])) st1 ?_
  refine own_retV X1 hx hlk Bd.returns (hb hby d2_4) (by decide) (by decide) ?_
  show Q2 Z a0 h0 n0 none T1.heap _
  rw [(e1 : T1.heap = h0)]
  exact ⟨rfl, N0, rfl⟩
theorem d1_0 : decode prog_3_method_1_code 0 = .ok (.aload_n 0, 1) := by decide +kernel
theorem d1_1 : decode prog_3_method_1_code 1 = .ok (.invokespecial 1, 3) := by decide +kernel
theorem d1_4 : decode prog_3_method_1_code 4 = .ok (.aload_n 0, 1) := by decide +kernel
theorem d1_5 : decode prog_3_method_1_code 5 = .ok (.dload_n 1, 1) := by decide +kernel
theorem d1_6 : decode prog_3_method_1_code 6 = .ok (.putfield 7, 3) := by decide +kernel
theorem d1_9 : decode prog_3_method_1_code 9 = .ok (.aload_n 0, 1) := by decide +kernel
theorem d1_10 : decode prog_3_method_1_code 10 = .ok (.dload_n 3, 1) := by decide +kernel
theorem d1_11 : decode prog_3_method_1_code 11 = .ok (.putfield 13, 3) := by decide +kernel
theorem d1_14 : decode prog_3_method_1_code 14 = .ok (.return_, 1) := by decide +kernel
theorem pn1 : plainName "com/example/feedpoint/feedpoint/core/Complex" = true := by first | (simp [plainName, overriddenIn]; done) | decide +kernel
theorem pd1_0 : parseMethodDescriptor "()V" = some ⟨[], none⟩ := by decide +kernel
theorem ef1 (m : MethodId) (a0 : Addr) (d1 : UInt64) (d2 : UInt64) : entryFrame m #[(.ref a0), (.double d1), (.double d2)] 5 = mkF m 0 #[.val (.ref a0), .val (.double d1), .second, .val (.double d2), .second] [] := by first | (simp [entryFrame, mkF, argsToLocals, Value.category]; done) | rfl
def Q1 (Z : State) (a0 : Addr) (d1 : UInt64) (d2 : UInt64) (u_re_a0 : Value) (u_im_a0 : Value) (h0 : Heap) (n0 : Nat) (v : Option Value) (h : Heap) (L : List Loc) : Prop := v = none ∧ Fr n0 L ∧ Keep h0 h [a0] ∧ Exa Z h a0 "com/example/feedpoint/feedpoint/core/Complex" ∧ Fld Z h a0 "com/example/feedpoint/feedpoint/core/Complex" "re" "D" (.double d1) ∧ Fld Z h a0 "com/example/feedpoint/feedpoint/core/Complex" "im" "D" (.double d2)
set_option maxRecDepth 65536 in
set_option maxHeartbeats 40000000 in
theorem rm1 (l : Launch) (Z : State) (ar : Array Value) (hw : ∀ d ∈ tables_1, d.before ar Z = true) (ws : List Jvm.Cond) (a0 : Addr) (d1 : UInt64) (d2 : UInt64) (u_re_a0 : Value) (u_im_a0 : Value) (h0 : Heap) (n0 : Nat) (Z0 : n0 ≤ h0.size) (E_a0 : Exa Z h0 a0 "com/example/feedpoint/feedpoint/core/Complex") (F_re_a0 : Fld Z h0 a0 "com/example/feedpoint/feedpoint/core/Complex" "re" "D" u_re_a0) (F_im_a0 : Fld Z h0 a0 "com/example/feedpoint/feedpoint/core/Complex" "im" "D" u_im_a0) (g_a0 : n0 ≤ a0) :
    MetFree l (⟨"com/example/feedpoint/feedpoint/core/Complex", "<init>", "(DD)V"⟩ : MethodName) (head1 (Jvm.Cond.code (⟨"com/example/feedpoint/feedpoint/core/Complex", "<init>", "(DD)V"⟩ : MethodName) prog_3_method_1_code 5 none :: ws) ({ frames := 2, cells := 0, slots := 0, locals := 24 } : Room)) (fun a U => a = #[(.ref a0), (.double d1), (.double d2)] ∧ Z.Warmed39 U.vm ∧ U.heap = h0) (fun _ _ _ _ _ => True) (fun _ U o U' => ∃ v L, o = .returned v ∧ Q1 Z a0 d1 d2 u_re_a0 u_im_a0 h0 n0 v U'.heap L ∧ FrameEnd U o U' L ({ frames := 2, cells := 0, slots := 0, locals := 24 } : Room).cells ({ frames := 2, cells := 0, slots := 0, locals := 24 } : Room).slots) := by
  refine MetFree.of_bodySF (plainFor_of_name pn1) hisR ?_
  intro p e s m args below meth c s₁ Bd hml0 hP hK
  obtain ⟨rfl, hZ, hh⟩ := hP
  have hx := Bd.exec
  have hby := Bd.bytes
  have hlk := Bd.notSynchronized
  have hml : c.maxLocals = 5 := hml0
  have hown : s.vm.findClass "com/example/feedpoint/feedpoint/core/Complex" = some m.cls := findClass_of_methodNamed Bd.named
  have hnm := (name_of_methodNamed Bd.named Bd.method).1
  have X0 : Stand p l e ({ frames := 2, cells := 0, slots := 0, locals := 24 } : Room) s m #[(.ref a0), (.double d1), (.double d2)] below meth c s₁ [] 0 0 := Stand.of_body Bd
  have e0 : s₁.heap = h0 := by rw [← hh, Bd.state]; rfl
  have N0 := Fr.nil n0
  have K0 := Keep.refl h0 [a0]
  refine own_enter (Q := Q1 Z a0 d1 d2 u_re_a0 u_im_a0 h0 n0) (ef1 m a0 d1 d2) ?_
  refine own_st (T' := s₁) (g' := (mkF m 1 #[.val (.ref a0), .val (.double d1), .second, .val (.double d2), .second] [(.ref a0)])) (fun t k => ?_) ?_
  · show Steps p.tables e below (s₁.setTop (mkF m 0 #[.val (.ref a0), .val (.double d1), .second, .val (.double d2), .second] [])) t
    refine XS.aloadN X0.here hx rfl (hb hby d1_0) rfl rfl ?_
    exact k
  obtain ⟨_, _, ⟨T1, L1, k1, n1⟩, -, X1, ⟨Lc1, hQ1, l1, y1, z1⟩, st1⟩ := X0.specialBack hx (y := (⟨"java/lang/Record", "<init>", "()V"⟩ : MethodName)) rfl hown (mvT hZ (hw _ (List.mem_of_getElem? (i := 6) rfl))) (mvT hZ (hw _ (List.mem_of_getElem? (i := 7) rfl))) (mvT hZ (hw _ (List.mem_of_getElem? (i := 10) rfl))) (by decide) (backOf (W := 0) (rm2 l Z ar hw [] a0 h0 n0 Z0) hZ (hw _ (List.mem_of_getElem? (i := 10) rfl)) (hw _ (List.mem_of_getElem? (i := 9) rfl)) (by decide) (by decide)) (g := (mkF m 1 #[.val (.ref a0), .val (.double d1), .second, .val (.double d2), .second] [(.ref a0)])) rfl (by rw [hml]; rfl) (Steps.refl _) (a := a0) (argsL := []) (rest := []) (lenOf pd1_0 rfl) rfl (by show 2 * 0 + _ ≤ _; exact Nat.le_of_eq rfl) (hb hby d1_1) (fun _ _ => ⟨rfl, e0, (by decide : 0 + 0 ≤ _), (by decide : 0 + 0 ≤ _)⟩)
  dsimp only [Pt.U, Pt.locs, Pt.cells, Pt.slots] at X1 l1 y1 z1 st1 hQ1
  subst l1 y1 z1
  obtain ⟨rfl, N1q, e1⟩ := hQ1
  have n2 := Fr.app N0 N1q
  refine own_tr (T' := T1) (g' := (mkF m 4 #[.val (.ref a0), .val (.double d1), .second, .val (.double d2), .second] [])) st1 ?_
  refine own_st (T' := T1) (g' := (mkF m 6 #[.val (.ref a0), .val (.double d1), .second, .val (.double d2), .second] [(.double d1), (.ref a0)])) (fun t k => ?_) ?_
  · show Steps p.tables e below (T1.setTop (mkF m 4 #[.val (.ref a0), .val (.double d1), .second, .val (.double d2), .second] [])) t
    refine XS.aloadN X1.here hx rfl (hb hby d1_4) rfl rfl ?_
    show Steps p.tables e below (T1.setTop (mkF m 5 #[.val (.ref a0), .val (.double d1), .second, .val (.double d2), .second] [(.ref a0)])) t
    refine XS.dloadN X1.here hx rfl (hb hby d1_5) rfl ?_
    exact k
  obtain ⟨T3, h3, X3, e3, W3, st3⟩ := putF X1 hx hZ hown (host := "") (Or.inl (hw _ (List.mem_of_getElem? (i := 14) rfl))) Via.refl e1 F_re_a0 E_a0 (Or.inr ⟨(hw _ (List.mem_of_getElem? (i := 15) rfl)), rfl, hnm⟩) (hw _ (List.mem_of_getElem? (i := 1) rfl)) (ty := .double) (by decide) rfl rfl (g := (mkF m 6 #[.val (.ref a0), .val (.double d1), .second, .val (.double d2), .second] [(.double d1), (.ref a0)])) rfl rfl (hb hby d1_6)
  have f4 := E_a0.wr W3
  have f5 := F_re_a0.same W3
  have f6 := F_im_a0.other W3 (Or.inr (slot_ne (Or.inr (hw _ (List.mem_of_getElem? (i := 17) rfl))) (Or.inr (hw _ (List.mem_of_getElem? (i := 15) rfl))) (by decide) (t := .double) (t' := .double) (by decide) (by decide)))
  have z7 := Nat.le_trans Z0 (Keep.of_wr W3).1
  have k8 := K0.wr W3 (Or.inl (List.mem_of_getElem? (i := 0) rfl))
  have n9 := Fr.snoc X3 n2 g_a0
  refine own_st (T' := T3) (g' := (mkF m 9 #[.val (.ref a0), .val (.double d1), .second, .val (.double d2), .second] [])) st3 ?_
  refine own_st (T' := T3) (g' := (mkF m 11 #[.val (.ref a0), .val (.double d1), .second, .val (.double d2), .second] [(.double d2), (.ref a0)])) (fun t k => ?_) ?_
  · show Steps p.tables e below (T3.setTop (mkF m 9 #[.val (.ref a0), .val (.double d1), .second, .val (.double d2), .second] [])) t
    refine XS.aloadN X3.here hx rfl (hb hby d1_9) rfl rfl ?_
    show Steps p.tables e below (T3.setTop (mkF m 10 #[.val (.ref a0), .val (.double d1), .second, .val (.double d2), .second] [(.ref a0)])) t
    refine XS.dloadN X3.here hx rfl (hb hby d1_10) rfl ?_
    exact k
  obtain ⟨T10, h10, X10, e10, W10, st10⟩ := putF X3 hx hZ hown (host := "") (Or.inl (hw _ (List.mem_of_getElem? (i := 16) rfl))) Via.refl e3 f6 f4 (Or.inr ⟨(hw _ (List.mem_of_getElem? (i := 17) rfl)), rfl, hnm⟩) (hw _ (List.mem_of_getElem? (i := 1) rfl)) (ty := .double) (by decide) rfl rfl (g := (mkF m 11 #[.val (.ref a0), .val (.double d1), .second, .val (.double d2), .second] [(.double d2), (.ref a0)])) rfl rfl (hb hby d1_11)
  have f11 := f4.wr W10
  have f12 := f5.other W10 (Or.inr (slot_ne (Or.inr (hw _ (List.mem_of_getElem? (i := 15) rfl))) (Or.inr (hw _ (List.mem_of_getElem? (i := 17) rfl))) (by decide) (t := .double) (t' := .double) (by decide) (by decide)))
  have f13 := f6.same W10
  have z14 := Nat.le_trans z7 (Keep.of_wr W10).1
  have k15 := k8.wr W10 (Or.inl (List.mem_of_getElem? (i := 0) rfl))
  have n16 := Fr.snoc X10 n9 g_a0
  refine own_st (T' := T10) (g' := (mkF m 14 #[.val (.ref a0), .val (.double d1), .second, .val (.double d2), .second] [])) st10 ?_
  refine own_retV X10 hx hlk Bd.returns (hb hby d1_14) (by decide) (by decide) ?_
  show Q1 Z a0 d1 d2 u_re_a0 u_im_a0 h0 n0 none T10.heap _
  rw [(e10 : T10.heap = h10)]
  exact ⟨rfl, n16, k15, f11, f12, f13⟩
theorem d4_0 : decode prog_3_method_5_code 0 = .ok (.new 8, 3) := by decide +kernel
theorem d4_3 : decode prog_3_method_5_code 3 = .ok (.dup, 1) := by decide +kernel
theorem d4_4 : decode prog_3_method_5_code 4 = .ok (.aload_n 0, 1) := by decide +kernel
theorem d4_5 : decode prog_3_method_5_code 5 = .ok (.getfield 7, 3) := by decide +kernel
theorem d4_8 : decode prog_3_method_5_code 8 = .ok (.aload_n 1, 1) := by decide +kernel
theorem d4_9 : decode prog_3_method_5_code 9 = .ok (.getfield 7, 3) := by decide +kernel
theorem d4_12 : decode prog_3_method_5_code 12 = .ok (.dmul, 1) := by decide +kernel
theorem d4_13 : decode prog_3_method_5_code 13 = .ok (.aload_n 0, 1) := by decide +kernel
theorem d4_14 : decode prog_3_method_5_code 14 = .ok (.getfield 13, 3) := by decide +kernel
theorem d4_17 : decode prog_3_method_5_code 17 = .ok (.aload_n 1, 1) := by decide +kernel
theorem d4_18 : decode prog_3_method_5_code 18 = .ok (.getfield 13, 3) := by decide +kernel
theorem d4_21 : decode prog_3_method_5_code 21 = .ok (.dmul, 1) := by decide +kernel
theorem d4_22 : decode prog_3_method_5_code 22 = .ok (.dsub, 1) := by decide +kernel
theorem d4_23 : decode prog_3_method_5_code 23 = .ok (.aload_n 0, 1) := by decide +kernel
theorem d4_24 : decode prog_3_method_5_code 24 = .ok (.getfield 7, 3) := by decide +kernel
theorem d4_27 : decode prog_3_method_5_code 27 = .ok (.aload_n 1, 1) := by decide +kernel
theorem d4_28 : decode prog_3_method_5_code 28 = .ok (.getfield 13, 3) := by decide +kernel
theorem d4_31 : decode prog_3_method_5_code 31 = .ok (.dmul, 1) := by decide +kernel
theorem d4_32 : decode prog_3_method_5_code 32 = .ok (.aload_n 0, 1) := by decide +kernel
theorem d4_33 : decode prog_3_method_5_code 33 = .ok (.getfield 13, 3) := by decide +kernel
theorem d4_36 : decode prog_3_method_5_code 36 = .ok (.aload_n 1, 1) := by decide +kernel
theorem d4_37 : decode prog_3_method_5_code 37 = .ok (.getfield 7, 3) := by decide +kernel
theorem d4_40 : decode prog_3_method_5_code 40 = .ok (.dmul, 1) := by decide +kernel
theorem d4_41 : decode prog_3_method_5_code 41 = .ok (.dadd, 1) := by decide +kernel
theorem d4_42 : decode prog_3_method_5_code 42 = .ok (.invokespecial 28, 3) := by decide +kernel
theorem d4_45 : decode prog_3_method_5_code 45 = .ok (.areturn, 1) := by decide +kernel
theorem pn4 : plainName "com/example/feedpoint/feedpoint/core/Complex" = true := by first | (simp [plainName, overriddenIn]; done) | decide +kernel
theorem pd4_0 : parseMethodDescriptor "(DD)V" = some ⟨[.double, .double], none⟩ := by decide +kernel
theorem ef4 (m : MethodId) (a0 : Addr) (a1 : Addr) : entryFrame m #[(.ref a0), (.ref a1)] 2 = mkF m 0 #[.val (.ref a0), .val (.ref a1)] [] := by first | (simp [entryFrame, mkF, argsToLocals, Value.category]; done) | rfl
def Q4 (Z : State) (a0 : Addr) (a1 : Addr) (w_re_a0 : UInt64) (w_im_a0 : UInt64) (w_re_a1 : UInt64) (w_im_a1 : UInt64) (h0 : Heap) (n0 : Nat) (v : Option Value) (h : Heap) (L : List Loc) : Prop := ∃ (x0 : Addr), v = some (.ref x0) ∧ Fr n0 L ∧ Keep h0 h [] ∧ h0.size ≤ x0 ∧ Exa Z h x0 "com/example/feedpoint/feedpoint/core/Complex" ∧ Fld Z h x0 "com/example/feedpoint/feedpoint/core/Complex" "re" "D" (.double (FP.dsub (FP.dmul w_re_a0 w_re_a1) (FP.dmul w_im_a0 w_im_a1))) ∧ Fld Z h x0 "com/example/feedpoint/feedpoint/core/Complex" "im" "D" (.double (FP.dadd (FP.dmul w_re_a0 w_im_a1) (FP.dmul w_im_a0 w_re_a1)))
set_option maxRecDepth 65536 in
set_option maxHeartbeats 40000000 in
theorem rm4 (l : Launch) (Z : State) (ar : Array Value) (hw : ∀ d ∈ tables_1, d.before ar Z = true) (ws : List Jvm.Cond) (a0 : Addr) (a1 : Addr) (w_re_a0 : UInt64) (w_im_a0 : UInt64) (w_re_a1 : UInt64) (w_im_a1 : UInt64) (h0 : Heap) (n0 : Nat) (Z0 : n0 ≤ h0.size) (E_a0 : Exa Z h0 a0 "com/example/feedpoint/feedpoint/core/Complex") (F_re_a0 : Fld Z h0 a0 "com/example/feedpoint/feedpoint/core/Complex" "re" "D" (.double w_re_a0)) (F_im_a0 : Fld Z h0 a0 "com/example/feedpoint/feedpoint/core/Complex" "im" "D" (.double w_im_a0)) (E_a1 : Exa Z h0 a1 "com/example/feedpoint/feedpoint/core/Complex") (F_re_a1 : Fld Z h0 a1 "com/example/feedpoint/feedpoint/core/Complex" "re" "D" (.double w_re_a1)) (F_im_a1 : Fld Z h0 a1 "com/example/feedpoint/feedpoint/core/Complex" "im" "D" (.double w_im_a1)) (hn12 : Jvm.Free.Fl.NoNaN64 (FP.dmul w_re_a0 w_re_a1)) (hn21 : Jvm.Free.Fl.NoNaN64 (FP.dmul w_im_a0 w_im_a1)) (hn22 : Jvm.Free.Fl.NoNaN64 (FP.dsub (FP.dmul w_re_a0 w_re_a1) (FP.dmul w_im_a0 w_im_a1))) (hn31 : Jvm.Free.Fl.NoNaN64 (FP.dmul w_re_a0 w_im_a1)) (hn40 : Jvm.Free.Fl.NoNaN64 (FP.dmul w_im_a0 w_re_a1)) (hn41 : Jvm.Free.Fl.NoNaN64 (FP.dadd (FP.dmul w_re_a0 w_im_a1) (FP.dmul w_im_a0 w_re_a1))) :
    MetFree l (⟨"com/example/feedpoint/feedpoint/core/Complex", "times", "(Lcom/example/feedpoint/feedpoint/core/Complex;)Lcom/example/feedpoint/feedpoint/core/Complex;"⟩ : MethodName) (head1 (Jvm.Cond.code (⟨"com/example/feedpoint/feedpoint/core/Complex", "times", "(Lcom/example/feedpoint/feedpoint/core/Complex;)Lcom/example/feedpoint/feedpoint/core/Complex;"⟩ : MethodName) prog_3_method_5_code 2 (some (.object "com/example/feedpoint/feedpoint/core/Complex")) :: ws) ({ frames := 3, cells := 1, slots := 2, locals := 41 } : Room)) (fun a U => a = #[(.ref a0), (.ref a1)] ∧ Z.Warmed39 U.vm ∧ U.heap = h0) (fun _ _ _ _ _ => True) (fun _ U o U' => ∃ v L, o = .returned v ∧ Q4 Z a0 a1 w_re_a0 w_im_a0 w_re_a1 w_im_a1 h0 n0 v U'.heap L ∧ FrameEnd U o U' L ({ frames := 3, cells := 1, slots := 2, locals := 41 } : Room).cells ({ frames := 3, cells := 1, slots := 2, locals := 41 } : Room).slots) := by
  refine MetFree.of_bodySF (plainFor_of_name pn4) hisR ?_
  intro p e s m args below meth c s₁ Bd hml0 hP hK
  obtain ⟨rfl, hZ, hh⟩ := hP
  have hx := Bd.exec
  have hby := Bd.bytes
  have hlk := Bd.notSynchronized
  have hml : c.maxLocals = 2 := hml0
  have hown : s.vm.findClass "com/example/feedpoint/feedpoint/core/Complex" = some m.cls := findClass_of_methodNamed Bd.named
  have hnm := (name_of_methodNamed Bd.named Bd.method).1
  have X0 : Stand p l e ({ frames := 3, cells := 1, slots := 2, locals := 41 } : Room) s m #[(.ref a0), (.ref a1)] below meth c s₁ [] 0 0 := Stand.of_body Bd
  have e0 : s₁.heap = h0 := by rw [← hh, Bd.state]; rfl
  have N0 := Fr.nil n0
  have K0 := Keep.refl h0 []
  refine own_enter (Q := Q4 Z a0 a1 w_re_a0 w_im_a0 w_re_a1 w_im_a1 h0 n0) (ef4 m a0 a1) ?_
  obtain ⟨T1, h1, X1, e1, E1, A1, D1, -, st1⟩ := newO X0 hx hZ hown (hw _ (List.mem_of_getElem? (i := 23) rfl)) (hw _ (List.mem_of_getElem? (i := 1) rfl)) (hw _ (List.mem_of_getElem? (i := 2) rfl)) e0 (g := (mkF m 0 #[.val (.ref a0), .val (.ref a1)] [])) rfl (hb hby d4_0) (by decide) (by decide)
  obtain ⟨b1, g1⟩ : ∃ z, z = h0.size := ⟨_, rfl⟩
  rw [← g1] at A1 D1 st1
  have ne_a0_b1 : a0 ≠ b1 := Nat.ne_of_lt (Nat.lt_of_lt_of_le E_a0.lt (Nat.le_of_eq g1.symm))
  have ne_a1_b1 : a1 ≠ b1 := Nat.ne_of_lt (Nat.lt_of_lt_of_le E_a1.lt (Nat.le_of_eq g1.symm))
  have g_b1 : n0 ≤ b1 := Nat.le_trans Z0 (Nat.le_of_eq g1.symm)
  have sz_b1 : h0.size ≤ b1 := Nat.le_trans K0.1 (Nat.le_of_eq g1.symm)
  have f2 := E_a0.ext E1
  have f3 := F_re_a0.ext E1
  have f4 := F_im_a0.ext E1
  have f5 := E_a1.ext E1
  have f6 := F_re_a1.ext E1
  have f7 := F_im_a1.ext E1
  have z8 := Nat.le_trans Z0 E1.1
  have k9 := K0.ext E1
  have f10 : Fld Z h1 b1 "com/example/feedpoint/feedpoint/core/Complex" "re" "D" (.double (0 : UInt64)) := D1 (Or.inr (hw _ (List.mem_of_getElem? (i := 15) rfl))) (ty := .double) (by decide)
  have f11 : Fld Z h1 b1 "com/example/feedpoint/feedpoint/core/Complex" "im" "D" (.double (0 : UInt64)) := D1 (Or.inr (hw _ (List.mem_of_getElem? (i := 17) rfl))) (ty := .double) (by decide)
  refine own_st (T' := T1) (g' := (mkF m 3 #[.val (.ref a0), .val (.ref a1)] [(.ref b1)])) st1 ?_
  refine own_st (T' := T1) (g' := (mkF m 5 #[.val (.ref a0), .val (.ref a1)] [(.ref a0), (.ref b1), (.ref b1)])) (fun t k => ?_) ?_
  · show Steps p.tables e below (T1.setTop (mkF m 3 #[.val (.ref a0), .val (.ref a1)] [(.ref b1)])) t
    refine XS.dup X1.here hx rfl (hb hby d4_3) rfl rfl ?_
    show Steps p.tables e below (T1.setTop (mkF m 4 #[.val (.ref a0), .val (.ref a1)] [(.ref b1), (.ref b1)])) t
    refine XS.aloadN X1.here hx rfl (hb hby d4_4) rfl rfl ?_
    exact k
  obtain ⟨T12, X12, e12, st12⟩ := getF X1 hx hZ hown (host := "") (Or.inl (hw _ (List.mem_of_getElem? (i := 14) rfl))) Via.refl e1 f3 (g := (mkF m 5 #[.val (.ref a0), .val (.ref a1)] [(.ref a0), (.ref b1), (.ref b1)])) rfl rfl (hb hby d4_5)
  refine own_st (T' := T12) (g' := (mkF m 8 #[.val (.ref a0), .val (.ref a1)] [(.double w_re_a0), (.ref b1), (.ref b1)])) st12 ?_
  refine own_st (T' := T12) (g' := (mkF m 9 #[.val (.ref a0), .val (.ref a1)] [(.ref a1), (.double w_re_a0), (.ref b1), (.ref b1)])) (fun t k => ?_) ?_
  · show Steps p.tables e below (T12.setTop (mkF m 8 #[.val (.ref a0), .val (.ref a1)] [(.double w_re_a0), (.ref b1), (.ref b1)])) t
    refine XS.aloadN X12.here hx rfl (hb hby d4_8) rfl rfl ?_
    exact k
  obtain ⟨T13, X13, e13, st13⟩ := getF X12 hx hZ hown (host := "") (Or.inl (hw _ (List.mem_of_getElem? (i := 14) rfl))) Via.refl e12 f6 (g := (mkF m 9 #[.val (.ref a0), .val (.ref a1)] [(.ref a1), (.double w_re_a0), (.ref b1), (.ref b1)])) rfl rfl (hb hby d4_9)
  refine own_st (T' := T13) (g' := (mkF m 12 #[.val (.ref a0), .val (.ref a1)] [(.double w_re_a1), (.double w_re_a0), (.ref b1), (.ref b1)])) st13 ?_
  refine own_st (T' := T13) (g' := (mkF m 14 #[.val (.ref a0), .val (.ref a1)] [(.ref a0), (.double (FP.dmul w_re_a0 w_re_a1)), (.ref b1), (.ref b1)])) (fun t k => ?_) ?_
  · show Steps p.tables e below (T13.setTop (mkF m 12 #[.val (.ref a0), .val (.ref a1)] [(.double w_re_a1), (.double w_re_a0), (.ref b1), (.ref b1)])) t
    refine XS.dmulS X13.here hx rfl (hb hby d4_12) rfl hn12 rfl ?_
    show Steps p.tables e below (T13.setTop (mkF m 13 #[.val (.ref a0), .val (.ref a1)] [(.double (FP.dmul w_re_a0 w_re_a1)), (.ref b1), (.ref b1)])) t
    refine XS.aloadN X13.here hx rfl (hb hby d4_13) rfl rfl ?_
    exact k
  obtain ⟨T14, X14, e14, st14⟩ := getF X13 hx hZ hown (host := "") (Or.inl (hw _ (List.mem_of_getElem? (i := 16) rfl))) Via.refl e13 f4 (g := (mkF m 14 #[.val (.ref a0), .val (.ref a1)] [(.ref a0), (.double (FP.dmul w_re_a0 w_re_a1)), (.ref b1), (.ref b1)])) rfl rfl (hb hby d4_14)
  refine own_st (T' := T14) (g' := (mkF m 17 #[.val (.ref a0), .val (.ref a1)] [(.double w_im_a0), (.double (FP.dmul w_re_a0 w_re_a1)), (.ref b1), (.ref b1)])) st14 ?_
  refine own_st (T' := T14) (g' := (mkF m 18 #[.val (.ref a0), .val (.ref a1)] [(.ref a1), (.double w_im_a0), (.double (FP.dmul w_re_a0 w_re_a1)), (.ref b1), (.ref b1)])) (fun t k => ?_) ?_
  · show Steps p.tables e below (T14.setTop (mkF m 17 #[.val (.ref a0), .val (.ref a1)] [(.double w_im_a0), (.double (FP.dmul w_re_a0 w_re_a1)), (.ref b1), (.ref b1)])) t
    refine XS.aloadN X14.here hx rfl (hb hby d4_17) rfl rfl ?_
    exact k
  obtain ⟨T15, X15, e15, st15⟩ := getF X14 hx hZ hown (host := "") (Or.inl (hw _ (List.mem_of_getElem? (i := 16) rfl))) Via.refl e14 f7 (g := (mkF m 18 #[.val (.ref a0), .val (.ref a1)] [(.ref a1), (.double w_im_a0), (.double (FP.dmul w_re_a0 w_re_a1)), (.ref b1), (.ref b1)])) rfl rfl (hb hby d4_18)
  refine own_st (T' := T15) (g' := (mkF m 21 #[.val (.ref a0), .val (.ref a1)] [(.double w_im_a1), (.double w_im_a0), (.double (FP.dmul w_re_a0 w_re_a1)), (.ref b1), (.ref b1)])) st15 ?_
  refine own_st (T' := T15) (g' := (mkF m 24 #[.val (.ref a0), .val (.ref a1)] [(.ref a0), (.double (FP.dsub (FP.dmul w_re_a0 w_re_a1) (FP.dmul w_im_a0 w_im_a1))), (.ref b1), (.ref b1)])) (fun t k => ?_) ?_
  · show Steps p.tables e below (T15.setTop (mkF m 21 #[.val (.ref a0), .val (.ref a1)] [(.double w_im_a1), (.double w_im_a0), (.double (FP.dmul w_re_a0 w_re_a1)), (.ref b1), (.ref b1)])) t
    refine XS.dmulS X15.here hx rfl (hb hby d4_21) rfl hn21 rfl ?_
    show Steps p.tables e below (T15.setTop (mkF m 22 #[.val (.ref a0), .val (.ref a1)] [(.double (FP.dmul w_im_a0 w_im_a1)), (.double (FP.dmul w_re_a0 w_re_a1)), (.ref b1), (.ref b1)])) t
    refine XS.dsubS X15.here hx rfl (hb hby d4_22) rfl hn22 rfl ?_
    show Steps p.tables e below (T15.setTop (mkF m 23 #[.val (.ref a0), .val (.ref a1)] [(.double (FP.dsub (FP.dmul w_re_a0 w_re_a1) (FP.dmul w_im_a0 w_im_a1))), (.ref b1), (.ref b1)])) t
    refine XS.aloadN X15.here hx rfl (hb hby d4_23) rfl rfl ?_
    exact k
  obtain ⟨T16, X16, e16, st16⟩ := getF X15 hx hZ hown (host := "") (Or.inl (hw _ (List.mem_of_getElem? (i := 14) rfl))) Via.refl e15 f3 (g := (mkF m 24 #[.val (.ref a0), .val (.ref a1)] [(.ref a0), (.double (FP.dsub (FP.dmul w_re_a0 w_re_a1) (FP.dmul w_im_a0 w_im_a1))), (.ref b1), (.ref b1)])) rfl rfl (hb hby d4_24)
  refine own_st (T' := T16) (g' := (mkF m 27 #[.val (.ref a0), .val (.ref a1)] [(.double w_re_a0), (.double (FP.dsub (FP.dmul w_re_a0 w_re_a1) (FP.dmul w_im_a0 w_im_a1))), (.ref b1), (.ref b1)])) st16 ?_
  refine own_st (T' := T16) (g' := (mkF m 28 #[.val (.ref a0), .val (.ref a1)] [(.ref a1), (.double w_re_a0), (.double (FP.dsub (FP.dmul w_re_a0 w_re_a1) (FP.dmul w_im_a0 w_im_a1))), (.ref b1), (.ref b1)])) (fun t k => ?_) ?_
  · show Steps p.tables e below (T16.setTop (mkF m 27 #[.val (.ref a0), .val (.ref a1)] [(.double w_re_a0), (.double (FP.dsub (FP.dmul w_re_a0 w_re_a1) (FP.dmul w_im_a0 w_im_a1))), (.ref b1), (.ref b1)])) t
    refine XS.aloadN X16.here hx rfl (hb hby d4_27) rfl rfl ?_
    exact k
  obtain ⟨T17, X17, e17, st17⟩ := getF X16 hx hZ hown (host := "") (Or.inl (hw _ (List.mem_of_getElem? (i := 16) rfl))) Via.refl e16 f7 (g := (mkF m 28 #[.val (.ref a0), .val (.ref a1)] [(.ref a1), (.double w_re_a0), (.double (FP.dsub (FP.dmul w_re_a0 w_re_a1) (FP.dmul w_im_a0 w_im_a1))), (.ref b1), (.ref b1)])) rfl rfl (hb hby d4_28)
  refine own_st (T' := T17) (g' := (mkF m 31 #[.val (.ref a0), .val (.ref a1)] [(.double w_im_a1), (.double w_re_a0), (.double (FP.dsub (FP.dmul w_re_a0 w_re_a1) (FP.dmul w_im_a0 w_im_a1))), (.ref b1), (.ref b1)])) st17 ?_
  refine own_st (T' := T17) (g' := (mkF m 33 #[.val (.ref a0), .val (.ref a1)] [(.ref a0), (.double (FP.dmul w_re_a0 w_im_a1)), (.double (FP.dsub (FP.dmul w_re_a0 w_re_a1) (FP.dmul w_im_a0 w_im_a1))), (.ref b1), (.ref b1)])) (fun t k => ?_) ?_
  · show Steps p.tables e below (T17.setTop (mkF m 31 #[.val (.ref a0), .val (.ref a1)] [(.double w_im_a1), (.double w_re_a0), (.double (FP.dsub (FP.dmul w_re_a0 w_re_a1) (FP.dmul w_im_a0 w_im_a1))), (.ref b1), (.ref b1)])) t
    refine XS.dmulS X17.here hx rfl (hb hby d4_31) rfl hn31 rfl ?_
    show Steps p.tables e below (T17.setTop (mkF m 32 #[.val (.ref a0), .val (.ref a1)] [(.double (FP.dmul w_re_a0 w_im_a1)), (.double (FP.dsub (FP.dmul w_re_a0 w_re_a1) (FP.dmul w_im_a0 w_im_a1))), (.ref b1), (.ref b1)])) t
    refine XS.aloadN X17.here hx rfl (hb hby d4_32) rfl rfl ?_
    exact k
  obtain ⟨T18, X18, e18, st18⟩ := getF X17 hx hZ hown (host := "") (Or.inl (hw _ (List.mem_of_getElem? (i := 16) rfl))) Via.refl e17 f4 (g := (mkF m 33 #[.val (.ref a0), .val (.ref a1)] [(.ref a0), (.double (FP.dmul w_re_a0 w_im_a1)), (.double (FP.dsub (FP.dmul w_re_a0 w_re_a1) (FP.dmul w_im_a0 w_im_a1))), (.ref b1), (.ref b1)])) rfl rfl (hb hby d4_33)
  refine own_st (T' := T18) (g' := (mkF m 36 #[.val (.ref a0), .val (.ref a1)] [(.double w_im_a0), (.double (FP.dmul w_re_a0 w_im_a1)), (.double (FP.dsub (FP.dmul w_re_a0 w_re_a1) (FP.dmul w_im_a0 w_im_a1))), (.ref b1), (.ref b1)])) st18 ?_
  refine own_st (T' := T18) (g' := (mkF m 37 #[.val (.ref a0), .val (.ref a1)] [(.ref a1), (.double w_im_a0), (.double (FP.dmul w_re_a0 w_im_a1)), (.double (FP.dsub (FP.dmul w_re_a0 w_re_a1) (FP.dmul w_im_a0 w_im_a1))), (.ref b1), (.ref b1)])) (fun t k => ?_) ?_
  · show Steps p.tables e below (T18.setTop (mkF m 36 #[.val (.ref a0), .val (.ref a1)] [(.double w_im_a0), (.double (FP.dmul w_re_a0 w_im_a1)), (.double (FP.dsub (FP.dmul w_re_a0 w_re_a1) (FP.dmul w_im_a0 w_im_a1))), (.ref b1), (.ref b1)])) t
    refine XS.aloadN X18.here hx rfl (hb hby d4_36) rfl rfl ?_
    exact k
  obtain ⟨T19, X19, e19, st19⟩ := getF X18 hx hZ hown (host := "") (Or.inl (hw _ (List.mem_of_getElem? (i := 14) rfl))) Via.refl e18 f6 (g := (mkF m 37 #[.val (.ref a0), .val (.ref a1)] [(.ref a1), (.double w_im_a0), (.double (FP.dmul w_re_a0 w_im_a1)), (.double (FP.dsub (FP.dmul w_re_a0 w_re_a1) (FP.dmul w_im_a0 w_im_a1))), (.ref b1), (.ref b1)])) rfl rfl (hb hby d4_37)
  refine own_st (T' := T19) (g' := (mkF m 40 #[.val (.ref a0), .val (.ref a1)] [(.double w_re_a1), (.double w_im_a0), (.double (FP.dmul w_re_a0 w_im_a1)), (.double (FP.dsub (FP.dmul w_re_a0 w_re_a1) (FP.dmul w_im_a0 w_im_a1))), (.ref b1), (.ref b1)])) st19 ?_
  refine own_st (T' := T19) (g' := (mkF m 42 #[.val (.ref a0), .val (.ref a1)] [(.double (FP.dadd (FP.dmul w_re_a0 w_im_a1) (FP.dmul w_im_a0 w_re_a1))), (.double (FP.dsub (FP.dmul w_re_a0 w_re_a1) (FP.dmul w_im_a0 w_im_a1))), (.ref b1), (.ref b1)])) (fun t k => ?_) ?_
  · show Steps p.tables e below (T19.setTop (mkF m 40 #[.val (.ref a0), .val (.ref a1)] [(.double w_re_a1), (.double w_im_a0), (.double (FP.dmul w_re_a0 w_im_a1)), (.double (FP.dsub (FP.dmul w_re_a0 w_re_a1) (FP.dmul w_im_a0 w_im_a1))), (.ref b1), (.ref b1)])) t
    refine XS.dmulS X19.here hx rfl (hb hby d4_40) rfl hn40 rfl ?_
    show Steps p.tables e below (T19.setTop (mkF m 41 #[.val (.ref a0), .val (.ref a1)] [(.double (FP.dmul w_im_a0 w_re_a1)), (.double (FP.dmul w_re_a0 w_im_a1)), (.double (FP.dsub (FP.dmul w_re_a0 w_re_a1) (FP.dmul w_im_a0 w_im_a1))), (.ref b1), (.ref b1)])) t
    refine XS.daddS X19.here hx rfl (hb hby d4_41) rfl hn41 rfl ?_
    exact k
  obtain ⟨_, _, ⟨T20, L20, k20, n20⟩, -, X20, ⟨Lc20, hQ20, l20, y20, z20⟩, st20⟩ := X19.specialBack hx (y := (⟨"com/example/feedpoint/feedpoint/core/Complex", "<init>", "(DD)V"⟩ : MethodName)) rfl hown (mvT hZ (hw _ (List.mem_of_getElem? (i := 24) rfl))) (mvT hZ (hw _ (List.mem_of_getElem? (i := 4) rfl))) (mvT hZ (hw _ (List.mem_of_getElem? (i := 5) rfl))) (by decide) (backOf (W := 1) (rm1 l Z ar hw [] b1 ((FP.dsub (FP.dmul w_re_a0 w_re_a1) (FP.dmul w_im_a0 w_im_a1))) ((FP.dadd (FP.dmul w_re_a0 w_im_a1) (FP.dmul w_im_a0 w_re_a1))) ((.double (0 : UInt64))) ((.double (0 : UInt64))) h1 n0 z8 A1 f10 f11 g_b1) hZ (hw _ (List.mem_of_getElem? (i := 5) rfl)) (hw _ (List.mem_of_getElem? (i := 2) rfl)) (by decide) (by decide)) (g := (mkF m 42 #[.val (.ref a0), .val (.ref a1)] [(.double (FP.dadd (FP.dmul w_re_a0 w_im_a1) (FP.dmul w_im_a0 w_re_a1))), (.double (FP.dsub (FP.dmul w_re_a0 w_re_a1) (FP.dmul w_im_a0 w_im_a1))), (.ref b1), (.ref b1)])) rfl (by rw [hml]; rfl) (Steps.refl _) (a := b1) (argsL := [(.double (FP.dsub (FP.dmul w_re_a0 w_re_a1) (FP.dmul w_im_a0 w_im_a1))), (.double (FP.dadd (FP.dmul w_re_a0 w_im_a1) (FP.dmul w_im_a0 w_re_a1)))]) (rest := [(.ref b1)]) (lenOf pd4_0 rfl) rfl (by show 2 * 0 + _ ≤ _; exact Nat.le_of_eq rfl) (hb hby d4_42) (fun _ _ => ⟨rfl, e19, (by decide : 1 + 0 ≤ _), (by decide : 2 + 0 ≤ _)⟩)
  dsimp only [Pt.U, Pt.locs, Pt.cells, Pt.slots] at X20 l20 y20 z20 st20 hQ20
  subst l20 y20 z20
  obtain ⟨rfl, N20q, K20, f21, f22, f23⟩ := hQ20
  have n24 := Fr.app N0 N20q
  have f25 := f2.keep K20
  have f26 := f3.keep K20 (ninS ne_a0_b1 nin0)
  have f27 := f4.keep K20 (ninS ne_a0_b1 nin0)
  have f28 := f5.keep K20
  have f29 := f6.keep K20 (ninS ne_a1_b1 nin0)
  have f30 := f7.keep K20 (ninS ne_a1_b1 nin0)
  have f31 := A1.keep K20
  have z32 := Nat.le_trans z8 K20.1
  have k33 := k9.trans K20 (allS (Or.inr sz_b1) all0)
  refine own_tr (T' := T20) (g' := (mkF m 45 #[.val (.ref a0), .val (.ref a1)] [(.ref b1)])) st20 ?_
  refine own_retA X20 hx hlk Bd.returns rfl rfl (hb hby d4_45) (by decide) (by decide) ?_
  show Q4 Z a0 a1 w_re_a0 w_im_a0 w_re_a1 w_im_a1 h0 n0 (some (.ref b1)) T20.heap _
  exact ⟨b1, rfl, n24, k33, sz_b1, f21, f22, f23⟩
theorem d5_0 : decode prog_3_method_18_code 0 = .ok (.aload_n 0, 1) := by decide +kernel
theorem d5_1 : decode prog_3_method_18_code 1 = .ok (.getfield 7, 3) := by decide +kernel
theorem d5_4 : decode prog_3_method_18_code 4 = .ok (.dreturn, 1) := by decide +kernel
theorem pn5 : plainName "com/example/feedpoint/feedpoint/core/Complex" = true := by first | (simp [plainName, overriddenIn]; done) | decide +kernel
theorem ef5 (m : MethodId) (a0 : Addr) : entryFrame m #[(.ref a0)] 1 = mkF m 0 #[.val (.ref a0)] [] := by first | (simp [entryFrame, mkF, argsToLocals, Value.category]; done) | rfl
def Q5 (Z : State) (a0 : Addr) (w_re_a0 : UInt64) (h0 : Heap) (n0 : Nat) (v : Option Value) (h : Heap) (L : List Loc) : Prop := v = some (.double w_re_a0) ∧ Fr n0 L ∧ h = h0
set_option maxRecDepth 65536 in
set_option maxHeartbeats 40000000 in
theorem rm5 (l : Launch) (Z : State) (ar : Array Value) (hw : ∀ d ∈ tables_1, d.before ar Z = true) (ws : List Jvm.Cond) (a0 : Addr) (w_re_a0 : UInt64) (h0 : Heap) (n0 : Nat) (Z0 : n0 ≤ h0.size) (F_re_a0 : Fld Z h0 a0 "com/example/feedpoint/feedpoint/core/Complex" "re" "D" (.double w_re_a0)) :
    MetFree l (⟨"com/example/feedpoint/feedpoint/core/Complex", "re", "()D"⟩ : MethodName) (head1 (Jvm.Cond.code (⟨"com/example/feedpoint/feedpoint/core/Complex", "re", "()D"⟩ : MethodName) prog_3_method_18_code 1 (some .double) :: ws) ({ frames := 0, cells := 0, slots := 0, locals := 0 } : Room)) (fun a U => a = #[(.ref a0)] ∧ Z.Warmed39 U.vm ∧ U.heap = h0) (fun _ _ _ _ _ => True) (fun _ U o U' => ∃ v L, o = .returned v ∧ Q5 Z a0 w_re_a0 h0 n0 v U'.heap L ∧ FrameEnd U o U' L ({ frames := 0, cells := 0, slots := 0, locals := 0 } : Room).cells ({ frames := 0, cells := 0, slots := 0, locals := 0 } : Room).slots) := by
  refine MetFree.of_bodySF (plainFor_of_name pn5) hisR ?_
  intro p e s m args below meth c s₁ Bd hml0 hP hK
  obtain ⟨rfl, hZ, hh⟩ := hP
  have hx := Bd.exec
  have hby := Bd.bytes
  have hlk := Bd.notSynchronized
  have hml : c.maxLocals = 1 := hml0
  have hown : s.vm.findClass "com/example/feedpoint/feedpoint/core/Complex" = some m.cls := findClass_of_methodNamed Bd.named
  have hnm := (name_of_methodNamed Bd.named Bd.method).1
  have X0 : Stand p l e ({ frames := 0, cells := 0, slots := 0, locals := 0 } : Room) s m #[(.ref a0)] below meth c s₁ [] 0 0 := Stand.of_body Bd
  have e0 : s₁.heap = h0 := by rw [← hh, Bd.state]; rfl
  have N0 := Fr.nil n0
  have K0 := Keep.refl h0 []
  refine own_enter (Q := Q5 Z a0 w_re_a0 h0 n0) (ef5 m a0) ?_
  refine own_st (T' := s₁) (g' := (mkF m 1 #[.val (.ref a0)] [(.ref a0)])) (fun t k => ?_) ?_
  · show Steps p.tables e below (s₁.setTop (mkF m 0 #[.val (.ref a0)] [])) t
    refine XS.aloadN X0.here hx rfl (hb hby d5_0) rfl rfl ?_
    exact k
  obtain ⟨T1, X1, e1, st1⟩ := getF X0 hx hZ hown (host := "") (Or.inl (hw _ (List.mem_of_getElem? (i := 14) rfl))) Via.refl e0 F_re_a0 (g := (mkF m 1 #[.val (.ref a0)] [(.ref a0)])) rfl rfl (hb hby d5_1)
  refine own_st (T' := T1) (g' := (mkF m 4 #[.val (.ref a0)] [(.double w_re_a0)])) st1 ?_
  refine own_retD X1 hx hlk Bd.returns (hb hby d5_4) (by decide) (by decide) ?_
  show Q5 Z a0 w_re_a0 h0 n0 (some (.double w_re_a0)) T1.heap _
  rw [(e1 : T1.heap = h0)]
  exact ⟨rfl, N0, rfl⟩
theorem d6_0 : decode prog_3_method_19_code 0 = .ok (.aload_n 0, 1) := by decide +kernel
theorem d6_1 : decode prog_3_method_19_code 1 = .ok (.getfield 13, 3) := by decide +kernel
theorem d6_4 : decode prog_3_method_19_code 4 = .ok (.dreturn, 1) := by decide +kernel
theorem pn6 : plainName "com/example/feedpoint/feedpoint/core/Complex" = true := by first | (simp [plainName, overriddenIn]; done) | decide +kernel
theorem ef6 (m : MethodId) (a0 : Addr) : entryFrame m #[(.ref a0)] 1 = mkF m 0 #[.val (.ref a0)] [] := by first | (simp [entryFrame, mkF, argsToLocals, Value.category]; done) | rfl
def Q6 (Z : State) (a0 : Addr) (w_im_a0 : UInt64) (h0 : Heap) (n0 : Nat) (v : Option Value) (h : Heap) (L : List Loc) : Prop := v = some (.double w_im_a0) ∧ Fr n0 L ∧ h = h0
set_option maxRecDepth 65536 in
set_option maxHeartbeats 40000000 in
theorem rm6 (l : Launch) (Z : State) (ar : Array Value) (hw : ∀ d ∈ tables_1, d.before ar Z = true) (ws : List Jvm.Cond) (a0 : Addr) (w_im_a0 : UInt64) (h0 : Heap) (n0 : Nat) (Z0 : n0 ≤ h0.size) (F_im_a0 : Fld Z h0 a0 "com/example/feedpoint/feedpoint/core/Complex" "im" "D" (.double w_im_a0)) :
    MetFree l (⟨"com/example/feedpoint/feedpoint/core/Complex", "im", "()D"⟩ : MethodName) (head1 (Jvm.Cond.code (⟨"com/example/feedpoint/feedpoint/core/Complex", "im", "()D"⟩ : MethodName) prog_3_method_19_code 1 (some .double) :: ws) ({ frames := 0, cells := 0, slots := 0, locals := 0 } : Room)) (fun a U => a = #[(.ref a0)] ∧ Z.Warmed39 U.vm ∧ U.heap = h0) (fun _ _ _ _ _ => True) (fun _ U o U' => ∃ v L, o = .returned v ∧ Q6 Z a0 w_im_a0 h0 n0 v U'.heap L ∧ FrameEnd U o U' L ({ frames := 0, cells := 0, slots := 0, locals := 0 } : Room).cells ({ frames := 0, cells := 0, slots := 0, locals := 0 } : Room).slots) := by
  refine MetFree.of_bodySF (plainFor_of_name pn6) hisR ?_
  intro p e s m args below meth c s₁ Bd hml0 hP hK
  obtain ⟨rfl, hZ, hh⟩ := hP
  have hx := Bd.exec
  have hby := Bd.bytes
  have hlk := Bd.notSynchronized
  have hml : c.maxLocals = 1 := hml0
  have hown : s.vm.findClass "com/example/feedpoint/feedpoint/core/Complex" = some m.cls := findClass_of_methodNamed Bd.named
  have hnm := (name_of_methodNamed Bd.named Bd.method).1
  have X0 : Stand p l e ({ frames := 0, cells := 0, slots := 0, locals := 0 } : Room) s m #[(.ref a0)] below meth c s₁ [] 0 0 := Stand.of_body Bd
  have e0 : s₁.heap = h0 := by rw [← hh, Bd.state]; rfl
  have N0 := Fr.nil n0
  have K0 := Keep.refl h0 []
  refine own_enter (Q := Q6 Z a0 w_im_a0 h0 n0) (ef6 m a0) ?_
  refine own_st (T' := s₁) (g' := (mkF m 1 #[.val (.ref a0)] [(.ref a0)])) (fun t k => ?_) ?_
  · show Steps p.tables e below (s₁.setTop (mkF m 0 #[.val (.ref a0)] [])) t
    refine XS.aloadN X0.here hx rfl (hb hby d6_0) rfl rfl ?_
    exact k
  obtain ⟨T1, X1, e1, st1⟩ := getF X0 hx hZ hown (host := "") (Or.inl (hw _ (List.mem_of_getElem? (i := 16) rfl))) Via.refl e0 F_im_a0 (g := (mkF m 1 #[.val (.ref a0)] [(.ref a0)])) rfl rfl (hb hby d6_1)
  refine own_st (T' := T1) (g' := (mkF m 4 #[.val (.ref a0)] [(.double w_im_a0)])) st1 ?_
  refine own_retD X1 hx hlk Bd.returns (hb hby d6_4) (by decide) (by decide) ?_
  show Q6 Z a0 w_im_a0 h0 n0 (some (.double w_im_a0)) T1.heap _
  rw [(e1 : T1.heap = h0)]
  exact ⟨rfl, N0, rfl⟩
theorem pn0 : plainName "com/example/feedpoint/feedpoint/core/ComplexTimesPinLaw" = true := by first | (simp [plainName, overriddenIn]; done) | decide +kernel
theorem pd0_0 : parseMethodDescriptor "(DD)V" = some ⟨[.double, .double], none⟩ := by decide +kernel
theorem pd0_1 : parseMethodDescriptor "(Lcom/example/feedpoint/feedpoint/core/Complex;)Lcom/example/feedpoint/feedpoint/core/Complex;" = some ⟨[(.object "com/example/feedpoint/feedpoint/core/Complex")], some (.object "com/example/feedpoint/feedpoint/core/Complex")⟩ := by decide +kernel
theorem pd0_2 : parseMethodDescriptor "()D" = some ⟨[], some .double⟩ := by decide +kernel
theorem ef0 (m : MethodId) (p0 : Int32) (p1 : Int32) (p2 : Int32) (p3 : Int32) : entryFrame m #[(.int p0), (.int p1), (.int p2), (.int p3)] maxLocals = mkF m 0 #[.val (.int p0), .val (.int p1), .val (.int p2), .val (.int p3), .unset, .unset, .unset, .unset, .unset, .unset, .unset, .unset, .unset, .unset, .unset, .unset, .unset, .unset, .unset, .unset, .unset] [] := by first | (simp [entryFrame, mkF, argsToLocals, Value.category, maxLocals]; done) | rfl
def Q0 (Z : State) (p0 : Int32) (p1 : Int32) (p2 : Int32) (p3 : Int32) (h0 : Heap) (n0 : Nat) (v : Option Value) (h : Heap) (L : List Loc) : Prop := v = some (.int (1 : Int32)) ∧ Fr n0 L
set_option maxRecDepth 65536 in
set_option maxHeartbeats 40000000 in
theorem rm0 (l : Launch) (Z : State) (ar : Array Value) (hw : ∀ d ∈ tables_1, d.before ar Z = true) (ws : List Jvm.Cond) (p0 : Int32) (p1 : Int32) (p2 : Int32) (p3 : Int32) (h0 : Heap) (n0 : Nat) (Z0 : n0 ≤ h0.size) (hq101 : (cmpValue (FP.dcmp (FP.dsub (FP.dmul (FP.l2d ((p0 >>> ((6 : Int32) &&& 31)).toInt64)) (FP.l2d ((p2 >>> ((6 : Int32) &&& 31)).toInt64))) (FP.dmul (FP.l2d ((p1 >>> ((6 : Int32) &&& 31)).toInt64)) (FP.l2d ((p3 >>> ((6 : Int32) &&& 31)).toInt64)))) (FP.l2d ((((p0 >>> ((6 : Int32) &&& 31)).toInt64) * ((p2 >>> ((6 : Int32) &&& 31)).toInt64)) - (((p1 >>> ((6 : Int32) &&& 31)).toInt64) * ((p3 >>> ((6 : Int32) &&& 31)).toInt64))))) .l) = (0 : Int32)) (hq113 : (cmpValue (FP.dcmp (FP.dadd (FP.dmul (FP.l2d ((p0 >>> ((6 : Int32) &&& 31)).toInt64)) (FP.l2d ((p3 >>> ((6 : Int32) &&& 31)).toInt64))) (FP.dmul (FP.l2d ((p1 >>> ((6 : Int32) &&& 31)).toInt64)) (FP.l2d ((p2 >>> ((6 : Int32) &&& 31)).toInt64)))) (FP.l2d ((((p0 >>> ((6 : Int32) &&& 31)).toInt64) * ((p3 >>> ((6 : Int32) &&& 31)).toInt64)) + (((p1 >>> ((6 : Int32) &&& 31)).toInt64) * ((p2 >>> ((6 : Int32) &&& 31)).toInt64))))) .l) = (0 : Int32)) (hq132 : (cmpValue (FP.dcmp (FP.l2d ((p0 >>> ((6 : Int32) &&& 31)).toInt64)) (FP.l2d ((p0 >>> ((6 : Int32) &&& 31)).toInt64))) .l) = (0 : Int32)) (hq144 : (cmpValue (FP.dcmp (FP.l2d ((p1 >>> ((6 : Int32) &&& 31)).toInt64)) (FP.l2d ((p1 >>> ((6 : Int32) &&& 31)).toInt64))) .l) = (0 : Int32)) (hq156 : (cmpValue (FP.dcmp (FP.l2d ((p2 >>> ((6 : Int32) &&& 31)).toInt64)) (FP.l2d ((p2 >>> ((6 : Int32) &&& 31)).toInt64))) .l) = (0 : Int32)) (hq168 : (cmpValue (FP.dcmp (FP.l2d ((p3 >>> ((6 : Int32) &&& 31)).toInt64)) (FP.l2d ((p3 >>> ((6 : Int32) &&& 31)).toInt64))) .l) = (0 : Int32)) :
    MetFree l x (head1 (Jvm.Cond.code x code maxLocals ret :: ws) room_1) (fun a U => a = #[(.int p0), (.int p1), (.int p2), (.int p3)] ∧ Z.Warmed39 U.vm ∧ U.heap = h0) (fun _ _ _ _ _ => True) (fun _ U o U' => ∃ v L, o = .returned v ∧ Q0 Z p0 p1 p2 p3 h0 n0 v U'.heap L ∧ FrameEnd U o U' L room_1.cells room_1.slots) := by
  refine MetFree.of_bodySF (plainFor_of_name pn0) hisR ?_
  intro p e s m args below meth c s₁ Bd hml0 hP hK
  obtain ⟨rfl, hZ, hh⟩ := hP
  have hx := Bd.exec
  have hby := Bd.bytes
  have hlk := Bd.notSynchronized
  have hml : c.maxLocals = 21 := hml0
  have hown : s.vm.findClass "com/example/feedpoint/feedpoint/core/ComplexTimesPinLaw" = some m.cls := findClass_of_methodNamed Bd.named
  have hnm := (name_of_methodNamed Bd.named Bd.method).1
  have X0 : Stand p l e room_1 s m #[(.int p0), (.int p1), (.int p2), (.int p3)] below meth c s₁ [] 0 0 := Stand.of_body Bd
  have e0 : s₁.heap = h0 := by rw [← hh, Bd.state]; rfl
  have N0 := Fr.nil n0
  have K0 := Keep.refl h0 []
  refine own_enter (Q := Q0 Z p0 p1 p2 p3 h0 n0) (ef0 m p0 p1 p2 p3) ?_
  refine own_st (T' := s₁) (g' := (mkF m 28 #[.val (.int p0), .val (.int p1), .val (.int p2), .val (.int p3), .val (.long ((p0 >>> ((6 : Int32) &&& 31)).toInt64)), .second, .val (.long ((p1 >>> ((6 : Int32) &&& 31)).toInt64)), .second, .val (.long ((p2 >>> ((6 : Int32) &&& 31)).toInt64)), .second, .val (.long ((p3 >>> ((6 : Int32) &&& 31)).toInt64)), .second, .unset, .unset, .unset, .unset, .unset, .unset, .unset, .unset, .unset] [])) (fun t k => ?_) ?_
  · show Steps p.tables e below (s₁.setTop (mkF m 0 #[.val (.int p0), .val (.int p1), .val (.int p2), .val (.int p3), .unset, .unset, .unset, .unset, .unset, .unset, .unset, .unset, .unset, .unset, .unset, .unset, .unset, .unset, .unset, .unset, .unset] [])) t
    refine XS.iloadN X0.here hx rfl (hb hby at_0) rfl ?_
    show Steps p.tables e below (s₁.setTop (mkF m 1 #[.val (.int p0), .val (.int p1), .val (.int p2), .val (.int p3), .unset, .unset, .unset, .unset, .unset, .unset, .unset, .unset, .unset, .unset, .unset, .unset, .unset, .unset, .unset, .unset, .unset] [(.int p0)])) t
    refine XS.bipush X0.here hx rfl (hb hby at_1) ?_
    show Steps p.tables e below (s₁.setTop (mkF m 3 #[.val (.int p0), .val (.int p1), .val (.int p2), .val (.int p3), .unset, .unset, .unset, .unset, .unset, .unset, .unset, .unset, .unset, .unset, .unset, .unset, .unset, .unset, .unset, .unset, .unset] [(.int (6 : Int32)), (.int p0)])) t
    refine XS.ishr X0.here hx rfl (hb hby at_3) rfl ?_
    show Steps p.tables e below (s₁.setTop (mkF m 4 #[.val (.int p0), .val (.int p1), .val (.int p2), .val (.int p3), .unset, .unset, .unset, .unset, .unset, .unset, .unset, .unset, .unset, .unset, .unset, .unset, .unset, .unset, .unset, .unset, .unset] [(.int (p0 >>> ((6 : Int32) &&& 31)))])) t
    refine XS.i2l X0.here hx rfl (hb hby at_4) rfl ?_
    show Steps p.tables e below (s₁.setTop (mkF m 5 #[.val (.int p0), .val (.int p1), .val (.int p2), .val (.int p3), .unset, .unset, .unset, .unset, .unset, .unset, .unset, .unset, .unset, .unset, .unset, .unset, .unset, .unset, .unset, .unset, .unset] [(.long ((p0 >>> ((6 : Int32) &&& 31)).toInt64))])) t
    refine XS.lstore X0.here hx rfl (hb hby at_5) rfl (l' := #[.val (.int p0), .val (.int p1), .val (.int p2), .val (.int p3), .val (.long ((p0 >>> ((6 : Int32) &&& 31)).toInt64)), .second, .unset, .unset, .unset, .unset, .unset, .unset, .unset, .unset, .unset, .unset, .unset, .unset, .unset, .unset, .unset]) rfl ?_
    show Steps p.tables e below (s₁.setTop (mkF m 7 #[.val (.int p0), .val (.int p1), .val (.int p2), .val (.int p3), .val (.long ((p0 >>> ((6 : Int32) &&& 31)).toInt64)), .second, .unset, .unset, .unset, .unset, .unset, .unset, .unset, .unset, .unset, .unset, .unset, .unset, .unset, .unset, .unset] [])) t
    refine XS.iloadN X0.here hx rfl (hb hby at_7) rfl ?_
    show Steps p.tables e below (s₁.setTop (mkF m 8 #[.val (.int p0), .val (.int p1), .val (.int p2), .val (.int p3), .val (.long ((p0 >>> ((6 : Int32) &&& 31)).toInt64)), .second, .unset, .unset, .unset, .unset, .unset, .unset, .unset, .unset, .unset, .unset, .unset, .unset, .unset, .unset, .unset] [(.int p1)])) t
    refine XS.bipush X0.here hx rfl (hb hby at_8) ?_
    show Steps p.tables e below (s₁.setTop (mkF m 10 #[.val (.int p0), .val (.int p1), .val (.int p2), .val (.int p3), .val (.long ((p0 >>> ((6 : Int32) &&& 31)).toInt64)), .second, .unset, .unset, .unset, .unset, .unset, .unset, .unset, .unset, .unset, .unset, .unset, .unset, .unset, .unset, .unset] [(.int (6 : Int32)), (.int p1)])) t
    refine XS.ishr X0.here hx rfl (hb hby at_10) rfl ?_
    show Steps p.tables e below (s₁.setTop (mkF m 11 #[.val (.int p0), .val (.int p1), .val (.int p2), .val (.int p3), .val (.long ((p0 >>> ((6 : Int32) &&& 31)).toInt64)), .second, .unset, .unset, .unset, .unset, .unset, .unset, .unset, .unset, .unset, .unset, .unset, .unset, .unset, .unset, .unset] [(.int (p1 >>> ((6 : Int32) &&& 31)))])) t
    refine XS.i2l X0.here hx rfl (hb hby at_11) rfl ?_
    show Steps p.tables e below (s₁.setTop (mkF m 12 #[.val (.int p0), .val (.int p1), .val (.int p2), .val (.int p3), .val (.long ((p0 >>> ((6 : Int32) &&& 31)).toInt64)), .second, .unset, .unset, .unset, .unset, .unset, .unset, .unset, .unset, .unset, .unset, .unset, .unset, .unset, .unset, .unset] [(.long ((p1 >>> ((6 : Int32) &&& 31)).toInt64))])) t
    refine XS.lstore X0.here hx rfl (hb hby at_12) rfl (l' := #[.val (.int p0), .val (.int p1), .val (.int p2), .val (.int p3), .val (.long ((p0 >>> ((6 : Int32) &&& 31)).toInt64)), .second, .val (.long ((p1 >>> ((6 : Int32) &&& 31)).toInt64)), .second, .unset, .unset, .unset, .unset, .unset, .unset, .unset, .unset, .unset, .unset, .unset, .unset, .unset]) rfl ?_
    show Steps p.tables e below (s₁.setTop (mkF m 14 #[.val (.int p0), .val (.int p1), .val (.int p2), .val (.int p3), .val (.long ((p0 >>> ((6 : Int32) &&& 31)).toInt64)), .second, .val (.long ((p1 >>> ((6 : Int32) &&& 31)).toInt64)), .second, .unset, .unset, .unset, .unset, .unset, .unset, .unset, .unset, .unset, .unset, .unset, .unset, .unset] [])) t
    refine XS.iloadN X0.here hx rfl (hb hby at_14) rfl ?_
    show Steps p.tables e below (s₁.setTop (mkF m 15 #[.val (.int p0), .val (.int p1), .val (.int p2), .val (.int p3), .val (.long ((p0 >>> ((6 : Int32) &&& 31)).toInt64)), .second, .val (.long ((p1 >>> ((6 : Int32) &&& 31)).toInt64)), .second, .unset, .unset, .unset, .unset, .unset, .unset, .unset, .unset, .unset, .unset, .unset, .unset, .unset] [(.int p2)])) t
    refine XS.bipush X0.here hx rfl (hb hby at_15) ?_
    show Steps p.tables e below (s₁.setTop (mkF m 17 #[.val (.int p0), .val (.int p1), .val (.int p2), .val (.int p3), .val (.long ((p0 >>> ((6 : Int32) &&& 31)).toInt64)), .second, .val (.long ((p1 >>> ((6 : Int32) &&& 31)).toInt64)), .second, .unset, .unset, .unset, .unset, .unset, .unset, .unset, .unset, .unset, .unset, .unset, .unset, .unset] [(.int (6 : Int32)), (.int p2)])) t
    refine XS.ishr X0.here hx rfl (hb hby at_17) rfl ?_
    show Steps p.tables e below (s₁.setTop (mkF m 18 #[.val (.int p0), .val (.int p1), .val (.int p2), .val (.int p3), .val (.long ((p0 >>> ((6 : Int32) &&& 31)).toInt64)), .second, .val (.long ((p1 >>> ((6 : Int32) &&& 31)).toInt64)), .second, .unset, .unset, .unset, .unset, .unset, .unset, .unset, .unset, .unset, .unset, .unset, .unset, .unset] [(.int (p2 >>> ((6 : Int32) &&& 31)))])) t
    refine XS.i2l X0.here hx rfl (hb hby at_18) rfl ?_
    show Steps p.tables e below (s₁.setTop (mkF m 19 #[.val (.int p0), .val (.int p1), .val (.int p2), .val (.int p3), .val (.long ((p0 >>> ((6 : Int32) &&& 31)).toInt64)), .second, .val (.long ((p1 >>> ((6 : Int32) &&& 31)).toInt64)), .second, .unset, .unset, .unset, .unset, .unset, .unset, .unset, .unset, .unset, .unset, .unset, .unset, .unset] [(.long ((p2 >>> ((6 : Int32) &&& 31)).toInt64))])) t
    refine XS.lstore X0.here hx rfl (hb hby at_19) rfl (l' := #[.val (.int p0), .val (.int p1), .val (.int p2), .val (.int p3), .val (.long ((p0 >>> ((6 : Int32) &&& 31)).toInt64)), .second, .val (.long ((p1 >>> ((6 : Int32) &&& 31)).toInt64)), .second, .val (.long ((p2 >>> ((6 : Int32) &&& 31)).toInt64)), .second, .unset, .unset, .unset, .unset, .unset, .unset, .unset, .unset, .unset, .unset, .unset]) rfl ?_
    show Steps p.tables e below (s₁.setTop (mkF m 21 #[.val (.int p0), .val (.int p1), .val (.int p2), .val (.int p3), .val (.long ((p0 >>> ((6 : Int32) &&& 31)).toInt64)), .second, .val (.long ((p1 >>> ((6 : Int32) &&& 31)).toInt64)), .second, .val (.long ((p2 >>> ((6 : Int32) &&& 31)).toInt64)), .second, .unset, .unset, .unset, .unset, .unset, .unset, .unset, .unset, .unset, .unset, .unset] [])) t
    refine XS.iloadN X0.here hx rfl (hb hby at_21) rfl ?_
    show Steps p.tables e below (s₁.setTop (mkF m 22 #[.val (.int p0), .val (.int p1), .val (.int p2), .val (.int p3), .val (.long ((p0 >>> ((6 : Int32) &&& 31)).toInt64)), .second, .val (.long ((p1 >>> ((6 : Int32) &&& 31)).toInt64)), .second, .val (.long ((p2 >>> ((6 : Int32) &&& 31)).toInt64)), .second, .unset, .unset, .unset, .unset, .unset, .unset, .unset, .unset, .unset, .unset, .unset] [(.int p3)])) t
    refine XS.bipush X0.here hx rfl (hb hby at_22) ?_
    show Steps p.tables e below (s₁.setTop (mkF m 24 #[.val (.int p0), .val (.int p1), .val (.int p2), .val (.int p3), .val (.long ((p0 >>> ((6 : Int32) &&& 31)).toInt64)), .second, .val (.long ((p1 >>> ((6 : Int32) &&& 31)).toInt64)), .second, .val (.long ((p2 >>> ((6 : Int32) &&& 31)).toInt64)), .second, .unset, .unset, .unset, .unset, .unset, .unset, .unset, .unset, .unset, .unset, .unset] [(.int (6 : Int32)), (.int p3)])) t
    refine XS.ishr X0.here hx rfl (hb hby at_24) rfl ?_
    show Steps p.tables e below (s₁.setTop (mkF m 25 #[.val (.int p0), .val (.int p1), .val (.int p2), .val (.int p3), .val (.long ((p0 >>> ((6 : Int32) &&& 31)).toInt64)), .second, .val (.long ((p1 >>> ((6 : Int32) &&& 31)).toInt64)), .second, .val (.long ((p2 >>> ((6 : Int32) &&& 31)).toInt64)), .second, .unset, .unset, .unset, .unset, .unset, .unset, .unset, .unset, .unset, .unset, .unset] [(.int (p3 >>> ((6 : Int32) &&& 31)))])) t
    refine XS.i2l X0.here hx rfl (hb hby at_25) rfl ?_
    show Steps p.tables e below (s₁.setTop (mkF m 26 #[.val (.int p0), .val (.int p1), .val (.int p2), .val (.int p3), .val (.long ((p0 >>> ((6 : Int32) &&& 31)).toInt64)), .second, .val (.long ((p1 >>> ((6 : Int32) &&& 31)).toInt64)), .second, .val (.long ((p2 >>> ((6 : Int32) &&& 31)).toInt64)), .second, .unset, .unset, .unset, .unset, .unset, .unset, .unset, .unset, .unset, .unset, .unset] [(.long ((p3 >>> ((6 : Int32) &&& 31)).toInt64))])) t
    refine XS.lstore X0.here hx rfl (hb hby at_26) rfl (l' := #[.val (.int p0), .val (.int p1), .val (.int p2), .val (.int p3), .val (.long ((p0 >>> ((6 : Int32) &&& 31)).toInt64)), .second, .val (.long ((p1 >>> ((6 : Int32) &&& 31)).toInt64)), .second, .val (.long ((p2 >>> ((6 : Int32) &&& 31)).toInt64)), .second, .val (.long ((p3 >>> ((6 : Int32) &&& 31)).toInt64)), .second, .unset, .unset, .unset, .unset, .unset, .unset, .unset, .unset, .unset]) rfl ?_
    exact k
  obtain ⟨T1, h1, X1, e1, E1, A1, D1, -, st1⟩ := newO X0 hx hZ hown (hw _ (List.mem_of_getElem? (i := 0) rfl)) (hw _ (List.mem_of_getElem? (i := 1) rfl)) (hw _ (List.mem_of_getElem? (i := 2) rfl)) e0 (g := (mkF m 28 #[.val (.int p0), .val (.int p1), .val (.int p2), .val (.int p3), .val (.long ((p0 >>> ((6 : Int32) &&& 31)).toInt64)), .second, .val (.long ((p1 >>> ((6 : Int32) &&& 31)).toInt64)), .second, .val (.long ((p2 >>> ((6 : Int32) &&& 31)).toInt64)), .second, .val (.long ((p3 >>> ((6 : Int32) &&& 31)).toInt64)), .second, .unset, .unset, .unset, .unset, .unset, .unset, .unset, .unset, .unset] [])) rfl (hb hby at_28) (by decide) (by decide)
  obtain ⟨b1, g1⟩ : ∃ z, z = h0.size := ⟨_, rfl⟩
  rw [← g1] at A1 D1 st1
  have g_b1 : n0 ≤ b1 := Nat.le_trans Z0 (Nat.le_of_eq g1.symm)
  have sz_b1 : h0.size ≤ b1 := Nat.le_trans K0.1 (Nat.le_of_eq g1.symm)
  have z2 := Nat.le_trans Z0 E1.1
  have k3 := K0.ext E1
  have f4 : Fld Z h1 b1 "com/example/feedpoint/feedpoint/core/Complex" "re" "D" (.double (0 : UInt64)) := D1 (Or.inr (hw _ (List.mem_of_getElem? (i := 15) rfl))) (ty := .double) (by decide)
  have f5 : Fld Z h1 b1 "com/example/feedpoint/feedpoint/core/Complex" "im" "D" (.double (0 : UInt64)) := D1 (Or.inr (hw _ (List.mem_of_getElem? (i := 17) rfl))) (ty := .double) (by decide)
  refine own_st (T' := T1) (g' := (mkF m 31 #[.val (.int p0), .val (.int p1), .val (.int p2), .val (.int p3), .val (.long ((p0 >>> ((6 : Int32) &&& 31)).toInt64)), .second, .val (.long ((p1 >>> ((6 : Int32) &&& 31)).toInt64)), .second, .val (.long ((p2 >>> ((6 : Int32) &&& 31)).toInt64)), .second, .val (.long ((p3 >>> ((6 : Int32) &&& 31)).toInt64)), .second, .unset, .unset, .unset, .unset, .unset, .unset, .unset, .unset, .unset] [(.ref b1)])) st1 ?_
  refine own_st (T' := T1) (g' := (mkF m 38 #[.val (.int p0), .val (.int p1), .val (.int p2), .val (.int p3), .val (.long ((p0 >>> ((6 : Int32) &&& 31)).toInt64)), .second, .val (.long ((p1 >>> ((6 : Int32) &&& 31)).toInt64)), .second, .val (.long ((p2 >>> ((6 : Int32) &&& 31)).toInt64)), .second, .val (.long ((p3 >>> ((6 : Int32) &&& 31)).toInt64)), .second, .unset, .unset, .unset, .unset, .unset, .unset, .unset, .unset, .unset] [(.double (FP.l2d ((p1 >>> ((6 : Int32) &&& 31)).toInt64))), (.double (FP.l2d ((p0 >>> ((6 : Int32) &&& 31)).toInt64))), (.ref b1), (.ref b1)])) (fun t k => ?_) ?_
  · show Steps p.tables e below (T1.setTop (mkF m 31 #[.val (.int p0), .val (.int p1), .val (.int p2), .val (.int p3), .val (.long ((p0 >>> ((6 : Int32) &&& 31)).toInt64)), .second, .val (.long ((p1 >>> ((6 : Int32) &&& 31)).toInt64)), .second, .val (.long ((p2 >>> ((6 : Int32) &&& 31)).toInt64)), .second, .val (.long ((p3 >>> ((6 : Int32) &&& 31)).toInt64)), .second, .unset, .unset, .unset, .unset, .unset, .unset, .unset, .unset, .unset] [(.ref b1)])) t
    refine XS.dup X1.here hx rfl (hb hby at_31) rfl rfl ?_
    show Steps p.tables e below (T1.setTop (mkF m 32 #[.val (.int p0), .val (.int p1), .val (.int p2), .val (.int p3), .val (.long ((p0 >>> ((6 : Int32) &&& 31)).toInt64)), .second, .val (.long ((p1 >>> ((6 : Int32) &&& 31)).toInt64)), .second, .val (.long ((p2 >>> ((6 : Int32) &&& 31)).toInt64)), .second, .val (.long ((p3 >>> ((6 : Int32) &&& 31)).toInt64)), .second, .unset, .unset, .unset, .unset, .unset, .unset, .unset, .unset, .unset] [(.ref b1), (.ref b1)])) t
    refine XS.lload X1.here hx rfl (hb hby at_32) rfl ?_
    show Steps p.tables e below (T1.setTop (mkF m 34 #[.val (.int p0), .val (.int p1), .val (.int p2), .val (.int p3), .val (.long ((p0 >>> ((6 : Int32) &&& 31)).toInt64)), .second, .val (.long ((p1 >>> ((6 : Int32) &&& 31)).toInt64)), .second, .val (.long ((p2 >>> ((6 : Int32) &&& 31)).toInt64)), .second, .val (.long ((p3 >>> ((6 : Int32) &&& 31)).toInt64)), .second, .unset, .unset, .unset, .unset, .unset, .unset, .unset, .unset, .unset] [(.long ((p0 >>> ((6 : Int32) &&& 31)).toInt64)), (.ref b1), (.ref b1)])) t
    refine XS.l2dS X1.here hx rfl (hb hby at_34) rfl rfl ?_
    show Steps p.tables e below (T1.setTop (mkF m 35 #[.val (.int p0), .val (.int p1), .val (.int p2), .val (.int p3), .val (.long ((p0 >>> ((6 : Int32) &&& 31)).toInt64)), .second, .val (.long ((p1 >>> ((6 : Int32) &&& 31)).toInt64)), .second, .val (.long ((p2 >>> ((6 : Int32) &&& 31)).toInt64)), .second, .val (.long ((p3 >>> ((6 : Int32) &&& 31)).toInt64)), .second, .unset, .unset, .unset, .unset, .unset, .unset, .unset, .unset, .unset] [(.double (FP.l2d ((p0 >>> ((6 : Int32) &&& 31)).toInt64))), (.ref b1), (.ref b1)])) t
    refine XS.lload X1.here hx rfl (hb hby at_35) rfl ?_
    show Steps p.tables e below (T1.setTop (mkF m 37 #[.val (.int p0), .val (.int p1), .val (.int p2), .val (.int p3), .val (.long ((p0 >>> ((6 : Int32) &&& 31)).toInt64)), .second, .val (.long ((p1 >>> ((6 : Int32) &&& 31)).toInt64)), .second, .val (.long ((p2 >>> ((6 : Int32) &&& 31)).toInt64)), .second, .val (.long ((p3 >>> ((6 : Int32) &&& 31)).toInt64)), .second, .unset, .unset, .unset, .unset, .unset, .unset, .unset, .unset, .unset] [(.long ((p1 >>> ((6 : Int32) &&& 31)).toInt64)), (.double (FP.l2d ((p0 >>> ((6 : Int32) &&& 31)).toInt64))), (.ref b1), (.ref b1)])) t
    refine XS.l2dS X1.here hx rfl (hb hby at_37) rfl rfl ?_
    exact k
  obtain ⟨_, _, ⟨T6, L6, k6, n6⟩, -, X6, ⟨Lc6, hQ6, l6, y6, z6⟩, st6⟩ := X1.specialBack hx (y := (⟨"com/example/feedpoint/feedpoint/core/Complex", "<init>", "(DD)V"⟩ : MethodName)) rfl hown (mvT hZ (hw _ (List.mem_of_getElem? (i := 3) rfl))) (mvT hZ (hw _ (List.mem_of_getElem? (i := 4) rfl))) (mvT hZ (hw _ (List.mem_of_getElem? (i := 5) rfl))) (by decide) (backOf (W := 1) (rm1 l Z ar hw [] b1 ((FP.l2d ((p0 >>> ((6 : Int32) &&& 31)).toInt64))) ((FP.l2d ((p1 >>> ((6 : Int32) &&& 31)).toInt64))) ((.double (0 : UInt64))) ((.double (0 : UInt64))) h1 n0 z2 A1 f4 f5 g_b1) hZ (hw _ (List.mem_of_getElem? (i := 5) rfl)) (hw _ (List.mem_of_getElem? (i := 2) rfl)) (by decide) (by decide)) (g := (mkF m 38 #[.val (.int p0), .val (.int p1), .val (.int p2), .val (.int p3), .val (.long ((p0 >>> ((6 : Int32) &&& 31)).toInt64)), .second, .val (.long ((p1 >>> ((6 : Int32) &&& 31)).toInt64)), .second, .val (.long ((p2 >>> ((6 : Int32) &&& 31)).toInt64)), .second, .val (.long ((p3 >>> ((6 : Int32) &&& 31)).toInt64)), .second, .unset, .unset, .unset, .unset, .unset, .unset, .unset, .unset, .unset] [(.double (FP.l2d ((p1 >>> ((6 : Int32) &&& 31)).toInt64))), (.double (FP.l2d ((p0 >>> ((6 : Int32) &&& 31)).toInt64))), (.ref b1), (.ref b1)])) rfl (by rw [hml]; rfl) (Steps.refl _) (a := b1) (argsL := [(.double (FP.l2d ((p0 >>> ((6 : Int32) &&& 31)).toInt64))), (.double (FP.l2d ((p1 >>> ((6 : Int32) &&& 31)).toInt64)))]) (rest := [(.ref b1)]) (lenOf pd0_0 rfl) rfl (by show 2 * 0 + _ ≤ _; exact Nat.le_of_eq rfl) (hb hby at_38) (fun _ _ => ⟨rfl, e1, (by decide : 1 + 0 ≤ _), (by decide : 2 + 0 ≤ _)⟩)
  dsimp only [Pt.U, Pt.locs, Pt.cells, Pt.slots] at X6 l6 y6 z6 st6 hQ6
  subst l6 y6 z6
  obtain ⟨rfl, N6q, K6, f7, f8, f9⟩ := hQ6
  have n10 := Fr.app N0 N6q
  have f11 := A1.keep K6
  have z12 := Nat.le_trans z2 K6.1
  have k13 := k3.trans K6 (allS (Or.inr sz_b1) all0)
  refine own_tr (T' := T6) (g' := (mkF m 41 #[.val (.int p0), .val (.int p1), .val (.int p2), .val (.int p3), .val (.long ((p0 >>> ((6 : Int32) &&& 31)).toInt64)), .second, .val (.long ((p1 >>> ((6 : Int32) &&& 31)).toInt64)), .second, .val (.long ((p2 >>> ((6 : Int32) &&& 31)).toInt64)), .second, .val (.long ((p3 >>> ((6 : Int32) &&& 31)).toInt64)), .second, .unset, .unset, .unset, .unset, .unset, .unset, .unset, .unset, .unset] [(.ref b1)])) st6 ?_
  refine own_st (T' := T6) (g' := (mkF m 43 #[.val (.int p0), .val (.int p1), .val (.int p2), .val (.int p3), .val (.long ((p0 >>> ((6 : Int32) &&& 31)).toInt64)), .second, .val (.long ((p1 >>> ((6 : Int32) &&& 31)).toInt64)), .second, .val (.long ((p2 >>> ((6 : Int32) &&& 31)).toInt64)), .second, .val (.long ((p3 >>> ((6 : Int32) &&& 31)).toInt64)), .second, .val (.ref b1), .unset, .unset, .unset, .unset, .unset, .unset, .unset, .unset] [])) (fun t k => ?_) ?_
  · show Steps p.tables e below (T6.setTop (mkF m 41 #[.val (.int p0), .val (.int p1), .val (.int p2), .val (.int p3), .val (.long ((p0 >>> ((6 : Int32) &&& 31)).toInt64)), .second, .val (.long ((p1 >>> ((6 : Int32) &&& 31)).toInt64)), .second, .val (.long ((p2 >>> ((6 : Int32) &&& 31)).toInt64)), .second, .val (.long ((p3 >>> ((6 : Int32) &&& 31)).toInt64)), .second, .unset, .unset, .unset, .unset, .unset, .unset, .unset, .unset, .unset] [(.ref b1)])) t
    refine XS.astore X6.here hx rfl (hb hby at_41) rfl rfl (l' := #[.val (.int p0), .val (.int p1), .val (.int p2), .val (.int p3), .val (.long ((p0 >>> ((6 : Int32) &&& 31)).toInt64)), .second, .val (.long ((p1 >>> ((6 : Int32) &&& 31)).toInt64)), .second, .val (.long ((p2 >>> ((6 : Int32) &&& 31)).toInt64)), .second, .val (.long ((p3 >>> ((6 : Int32) &&& 31)).toInt64)), .second, .val (.ref b1), .unset, .unset, .unset, .unset, .unset, .unset, .unset, .unset]) rfl ?_
    exact k
  obtain ⟨T14, h14, X14, e14, E14, A14, D14, -, st14⟩ := newO X6 hx hZ hown (hw _ (List.mem_of_getElem? (i := 0) rfl)) (hw _ (List.mem_of_getElem? (i := 1) rfl)) (hw _ (List.mem_of_getElem? (i := 2) rfl)) (rfl : T6.heap = T6.heap) (g := (mkF m 43 #[.val (.int p0), .val (.int p1), .val (.int p2), .val (.int p3), .val (.long ((p0 >>> ((6 : Int32) &&& 31)).toInt64)), .second, .val (.long ((p1 >>> ((6 : Int32) &&& 31)).toInt64)), .second, .val (.long ((p2 >>> ((6 : Int32) &&& 31)).toInt64)), .second, .val (.long ((p3 >>> ((6 : Int32) &&& 31)).toInt64)), .second, .val (.ref b1), .unset, .unset, .unset, .unset, .unset, .unset, .unset, .unset] [])) rfl (hb hby at_43) (by decide) (by decide)
  obtain ⟨b14, g14⟩ : ∃ z, z = T6.heap.size := ⟨_, rfl⟩
  rw [← g14] at A14 D14 st14
  have ne_b1_b14 : b1 ≠ b14 := Nat.ne_of_lt (Nat.lt_of_lt_of_le f7.lt (Nat.le_of_eq g14.symm))
  have g_b14 : n0 ≤ b14 := Nat.le_trans z12 (Nat.le_of_eq g14.symm)
  have sz_b14 : h0.size ≤ b14 := Nat.le_trans k13.1 (Nat.le_of_eq g14.symm)
  have f15 := f7.ext E14
  have f16 := f8.ext E14
  have f17 := f9.ext E14
  have z18 := Nat.le_trans z12 E14.1
  have k19 := k13.ext E14
  have f20 : Fld Z h14 b14 "com/example/feedpoint/feedpoint/core/Complex" "re" "D" (.double (0 : UInt64)) := D14 (Or.inr (hw _ (List.mem_of_getElem? (i := 15) rfl))) (ty := .double) (by decide)
  have f21 : Fld Z h14 b14 "com/example/feedpoint/feedpoint/core/Complex" "im" "D" (.double (0 : UInt64)) := D14 (Or.inr (hw _ (List.mem_of_getElem? (i := 17) rfl))) (ty := .double) (by decide)
  refine own_st (T' := T14) (g' := (mkF m 46 #[.val (.int p0), .val (.int p1), .val (.int p2), .val (.int p3), .val (.long ((p0 >>> ((6 : Int32) &&& 31)).toInt64)), .second, .val (.long ((p1 >>> ((6 : Int32) &&& 31)).toInt64)), .second, .val (.long ((p2 >>> ((6 : Int32) &&& 31)).toInt64)), .second, .val (.long ((p3 >>> ((6 : Int32) &&& 31)).toInt64)), .second, .val (.ref b1), .unset, .unset, .unset, .unset, .unset, .unset, .unset, .unset] [(.ref b14)])) st14 ?_
  refine own_st (T' := T14) (g' := (mkF m 53 #[.val (.int p0), .val (.int p1), .val (.int p2), .val (.int p3), .val (.long ((p0 >>> ((6 : Int32) &&& 31)).toInt64)), .second, .val (.long ((p1 >>> ((6 : Int32) &&& 31)).toInt64)), .second, .val (.long ((p2 >>> ((6 : Int32) &&& 31)).toInt64)), .second, .val (.long ((p3 >>> ((6 : Int32) &&& 31)).toInt64)), .second, .val (.ref b1), .unset, .unset, .unset, .unset, .unset, .unset, .unset, .unset] [(.double (FP.l2d ((p3 >>> ((6 : Int32) &&& 31)).toInt64))), (.double (FP.l2d ((p2 >>> ((6 : Int32) &&& 31)).toInt64))), (.ref b14), (.ref b14)])) (fun t k => ?_) ?_
  · show Steps p.tables e below (T14.setTop (mkF m 46 #[.val (.int p0), .val (.int p1), .val (.int p2), .val (.int p3), .val (.long ((p0 >>> ((6 : Int32) &&& 31)).toInt64)), .second, .val (.long ((p1 >>> ((6 : Int32) &&& 31)).toInt64)), .second, .val (.long ((p2 >>> ((6 : Int32) &&& 31)).toInt64)), .second, .val (.long ((p3 >>> ((6 : Int32) &&& 31)).toInt64)), .second, .val (.ref b1), .unset, .unset, .unset, .unset, .unset, .unset, .unset, .unset] [(.ref b14)])) t
    refine XS.dup X14.here hx rfl (hb hby at_46) rfl rfl ?_
    show Steps p.tables e below (T14.setTop (mkF m 47 #[.val (.int p0), .val (.int p1), .val (.int p2), .val (.int p3), .val (.long ((p0 >>> ((6 : Int32) &&& 31)).toInt64)), .second, .val (.long ((p1 >>> ((6 : Int32) &&& 31)).toInt64)), .second, .val (.long ((p2 >>> ((6 : Int32) &&& 31)).toInt64)), .second, .val (.long ((p3 >>> ((6 : Int32) &&& 31)).toInt64)), .second, .val (.ref b1), .unset, .unset, .unset, .unset, .unset, .unset, .unset, .unset] [(.ref b14), (.ref b14)])) t
    refine XS.lload X14.here hx rfl (hb hby at_47) rfl ?_
    show Steps p.tables e below (T14.setTop (mkF m 49 #[.val (.int p0), .val (.int p1), .val (.int p2), .val (.int p3), .val (.long ((p0 >>> ((6 : Int32) &&& 31)).toInt64)), .second, .val (.long ((p1 >>> ((6 : Int32) &&& 31)).toInt64)), .second, .val (.long ((p2 >>> ((6 : Int32) &&& 31)).toInt64)), .second, .val (.long ((p3 >>> ((6 : Int32) &&& 31)).toInt64)), .second, .val (.ref b1), .unset, .unset, .unset, .unset, .unset, .unset, .unset, .unset] [(.long ((p2 >>> ((6 : Int32) &&& 31)).toInt64)), (.ref b14), (.ref b14)])) t
    refine XS.l2dS X14.here hx rfl (hb hby at_49) rfl rfl ?_
    show Steps p.tables e below (T14.setTop (mkF m 50 #[.val (.int p0), .val (.int p1), .val (.int p2), .val (.int p3), .val (.long ((p0 >>> ((6 : Int32) &&& 31)).toInt64)), .second, .val (.long ((p1 >>> ((6 : Int32) &&& 31)).toInt64)), .second, .val (.long ((p2 >>> ((6 : Int32) &&& 31)).toInt64)), .second, .val (.long ((p3 >>> ((6 : Int32) &&& 31)).toInt64)), .second, .val (.ref b1), .unset, .unset, .unset, .unset, .unset, .unset, .unset, .unset] [(.double (FP.l2d ((p2 >>> ((6 : Int32) &&& 31)).toInt64))), (.ref b14), (.ref b14)])) t
    refine XS.lload X14.here hx rfl (hb hby at_50) rfl ?_
    show Steps p.tables e below (T14.setTop (mkF m 52 #[.val (.int p0), .val (.int p1), .val (.int p2), .val (.int p3), .val (.long ((p0 >>> ((6 : Int32) &&& 31)).toInt64)), .second, .val (.long ((p1 >>> ((6 : Int32) &&& 31)).toInt64)), .second, .val (.long ((p2 >>> ((6 : Int32) &&& 31)).toInt64)), .second, .val (.long ((p3 >>> ((6 : Int32) &&& 31)).toInt64)), .second, .val (.ref b1), .unset, .unset, .unset, .unset, .unset, .unset, .unset, .unset] [(.long ((p3 >>> ((6 : Int32) &&& 31)).toInt64)), (.double (FP.l2d ((p2 >>> ((6 : Int32) &&& 31)).toInt64))), (.ref b14), (.ref b14)])) t
    refine XS.l2dS X14.here hx rfl (hb hby at_52) rfl rfl ?_
    exact k
  obtain ⟨_, _, ⟨T22, L22, k22, n22⟩, -, X22, ⟨Lc22, hQ22, l22, y22, z22⟩, st22⟩ := X14.specialBack hx (y := (⟨"com/example/feedpoint/feedpoint/core/Complex", "<init>", "(DD)V"⟩ : MethodName)) rfl hown (mvT hZ (hw _ (List.mem_of_getElem? (i := 3) rfl))) (mvT hZ (hw _ (List.mem_of_getElem? (i := 4) rfl))) (mvT hZ (hw _ (List.mem_of_getElem? (i := 5) rfl))) (by decide) (backOf (W := 1) (rm1 l Z ar hw [] b14 ((FP.l2d ((p2 >>> ((6 : Int32) &&& 31)).toInt64))) ((FP.l2d ((p3 >>> ((6 : Int32) &&& 31)).toInt64))) ((.double (0 : UInt64))) ((.double (0 : UInt64))) h14 n0 z18 A14 f20 f21 g_b14) hZ (hw _ (List.mem_of_getElem? (i := 5) rfl)) (hw _ (List.mem_of_getElem? (i := 2) rfl)) (by decide) (by decide)) (g := (mkF m 53 #[.val (.int p0), .val (.int p1), .val (.int p2), .val (.int p3), .val (.long ((p0 >>> ((6 : Int32) &&& 31)).toInt64)), .second, .val (.long ((p1 >>> ((6 : Int32) &&& 31)).toInt64)), .second, .val (.long ((p2 >>> ((6 : Int32) &&& 31)).toInt64)), .second, .val (.long ((p3 >>> ((6 : Int32) &&& 31)).toInt64)), .second, .val (.ref b1), .unset, .unset, .unset, .unset, .unset, .unset, .unset, .unset] [(.double (FP.l2d ((p3 >>> ((6 : Int32) &&& 31)).toInt64))), (.double (FP.l2d ((p2 >>> ((6 : Int32) &&& 31)).toInt64))), (.ref b14), (.ref b14)])) rfl (by rw [hml]; rfl) (Steps.refl _) (a := b14) (argsL := [(.double (FP.l2d ((p2 >>> ((6 : Int32) &&& 31)).toInt64))), (.double (FP.l2d ((p3 >>> ((6 : Int32) &&& 31)).toInt64)))]) (rest := [(.ref b14)]) (lenOf pd0_0 rfl) rfl (by show 2 * 0 + _ ≤ _; exact Nat.le_of_eq rfl) (hb hby at_53) (fun _ _ => ⟨rfl, e14, (by decide : 2 + 0 ≤ _), (by decide : 4 + 0 ≤ _)⟩)
  dsimp only [Pt.U, Pt.locs, Pt.cells, Pt.slots] at X22 l22 y22 z22 st22 hQ22
  subst l22 y22 z22
  obtain ⟨rfl, N22q, K22, f23, f24, f25⟩ := hQ22
  have n26 := Fr.app n10 N22q
  have f27 := f15.keep K22
  have f28 := f16.keep K22 (ninS ne_b1_b14 nin0)
  have f29 := f17.keep K22 (ninS ne_b1_b14 nin0)
  have f30 := A14.keep K22
  have z31 := Nat.le_trans z18 K22.1
  have k32 := k19.trans K22 (allS (Or.inr sz_b14) all0)
  refine own_tr (T' := T22) (g' := (mkF m 56 #[.val (.int p0), .val (.int p1), .val (.int p2), .val (.int p3), .val (.long ((p0 >>> ((6 : Int32) &&& 31)).toInt64)), .second, .val (.long ((p1 >>> ((6 : Int32) &&& 31)).toInt64)), .second, .val (.long ((p2 >>> ((6 : Int32) &&& 31)).toInt64)), .second, .val (.long ((p3 >>> ((6 : Int32) &&& 31)).toInt64)), .second, .val (.ref b1), .unset, .unset, .unset, .unset, .unset, .unset, .unset, .unset] [(.ref b14)])) st22 ?_
  refine own_st (T' := T22) (g' := (mkF m 62 #[.val (.int p0), .val (.int p1), .val (.int p2), .val (.int p3), .val (.long ((p0 >>> ((6 : Int32) &&& 31)).toInt64)), .second, .val (.long ((p1 >>> ((6 : Int32) &&& 31)).toInt64)), .second, .val (.long ((p2 >>> ((6 : Int32) &&& 31)).toInt64)), .second, .val (.long ((p3 >>> ((6 : Int32) &&& 31)).toInt64)), .second, .val (.ref b1), .val (.ref b14), .unset, .unset, .unset, .unset, .unset, .unset, .unset] [(.ref b14), (.ref b1)])) (fun t k => ?_) ?_
  · show Steps p.tables e below (T22.setTop (mkF m 56 #[.val (.int p0), .val (.int p1), .val (.int p2), .val (.int p3), .val (.long ((p0 >>> ((6 : Int32) &&& 31)).toInt64)), .second, .val (.long ((p1 >>> ((6 : Int32) &&& 31)).toInt64)), .second, .val (.long ((p2 >>> ((6 : Int32) &&& 31)).toInt64)), .second, .val (.long ((p3 >>> ((6 : Int32) &&& 31)).toInt64)), .second, .val (.ref b1), .unset, .unset, .unset, .unset, .unset, .unset, .unset, .unset] [(.ref b14)])) t
    refine XS.astore X22.here hx rfl (hb hby at_56) rfl rfl (l' := #[.val (.int p0), .val (.int p1), .val (.int p2), .val (.int p3), .val (.long ((p0 >>> ((6 : Int32) &&& 31)).toInt64)), .second, .val (.long ((p1 >>> ((6 : Int32) &&& 31)).toInt64)), .second, .val (.long ((p2 >>> ((6 : Int32) &&& 31)).toInt64)), .second, .val (.long ((p3 >>> ((6 : Int32) &&& 31)).toInt64)), .second, .val (.ref b1), .val (.ref b14), .unset, .unset, .unset, .unset, .unset, .unset, .unset]) rfl ?_
    show Steps p.tables e below (T22.setTop (mkF m 58 #[.val (.int p0), .val (.int p1), .val (.int p2), .val (.int p3), .val (.long ((p0 >>> ((6 : Int32) &&& 31)).toInt64)), .second, .val (.long ((p1 >>> ((6 : Int32) &&& 31)).toInt64)), .second, .val (.long ((p2 >>> ((6 : Int32) &&& 31)).toInt64)), .second, .val (.long ((p3 >>> ((6 : Int32) &&& 31)).toInt64)), .second, .val (.ref b1), .val (.ref b14), .unset, .unset, .unset, .unset, .unset, .unset, .unset] [])) t
    refine XS.aload X22.here hx rfl (hb hby at_58) rfl rfl ?_
    show Steps p.tables e below (T22.setTop (mkF m 60 #[.val (.int p0), .val (.int p1), .val (.int p2), .val (.int p3), .val (.long ((p0 >>> ((6 : Int32) &&& 31)).toInt64)), .second, .val (.long ((p1 >>> ((6 : Int32) &&& 31)).toInt64)), .second, .val (.long ((p2 >>> ((6 : Int32) &&& 31)).toInt64)), .second, .val (.long ((p3 >>> ((6 : Int32) &&& 31)).toInt64)), .second, .val (.ref b1), .val (.ref b14), .unset, .unset, .unset, .unset, .unset, .unset, .unset] [(.ref b1)])) t
    refine XS.aload X22.here hx rfl (hb hby at_60) rfl rfl ?_
    exact k
  obtain ⟨cq33, kq33, qa33, qb33, qc33⟩ := isOf hZ (rfl : T22.heap = T22.heap) f27
  obtain ⟨_, _, ⟨T33, L33, k33, n33⟩, -, X33, ⟨Lc33, hQ33, l33, y33, z33⟩, st33⟩ := X22.virtualBack hx (y := (⟨"com/example/feedpoint/feedpoint/core/Complex", "times", "(Lcom/example/feedpoint/feedpoint/core/Complex;)Lcom/example/feedpoint/feedpoint/core/Complex;"⟩ : MethodName)) (z := (⟨"com/example/feedpoint/feedpoint/core/Complex", "times", "(Lcom/example/feedpoint/feedpoint/core/Complex;)Lcom/example/feedpoint/feedpoint/core/Complex;"⟩ : MethodName)) hown (mvT hZ (hw _ (List.mem_of_getElem? (i := 18) rfl))) (mvT hZ (hw _ (List.mem_of_getElem? (i := 19) rfl))) (notFace_of_selects (args := #[]) (mvT hZ (hw _ (List.mem_of_getElem? (i := 21) rfl)))) (mvT hZ (hw _ (List.mem_of_getElem? (i := 21) rfl))) (mvT hZ (hw _ (List.mem_of_getElem? (i := 20) rfl))) (by decide) (backOf (W := 0) (rm4 l Z ar hw [] b1 b14 ((FP.l2d ((p0 >>> ((6 : Int32) &&& 31)).toInt64))) ((FP.l2d ((p1 >>> ((6 : Int32) &&& 31)).toInt64))) ((FP.l2d ((p2 >>> ((6 : Int32) &&& 31)).toInt64))) ((FP.l2d ((p3 >>> ((6 : Int32) &&& 31)).toInt64))) T22.heap n0 z31 f27 f28 f29 f23 f24 f25 ((Jvm.Free.Fl.Mag64.fin (Jvm.Free.Fl.dmul_mag (Jvm.Free.Fl.l2d_mag ((p0 >>> ((6 : Int32) &&& 31)).toInt64)) (Jvm.Free.Fl.l2d_mag ((p2 >>> ((6 : Int32) &&& 31)).toInt64)) (by decide) (by decide)) (by decide)).noNaN) ((Jvm.Free.Fl.Mag64.fin (Jvm.Free.Fl.dmul_mag (Jvm.Free.Fl.l2d_mag ((p1 >>> ((6 : Int32) &&& 31)).toInt64)) (Jvm.Free.Fl.l2d_mag ((p3 >>> ((6 : Int32) &&& 31)).toInt64)) (by decide) (by decide)) (by decide)).noNaN) ((Jvm.Free.Fl.Mag64.fin (Jvm.Free.Fl.dsub_mag (Jvm.Free.Fl.dmul_mag (Jvm.Free.Fl.l2d_mag ((p0 >>> ((6 : Int32) &&& 31)).toInt64)) (Jvm.Free.Fl.l2d_mag ((p2 >>> ((6 : Int32) &&& 31)).toInt64)) (by decide) (by decide)) (Jvm.Free.Fl.dmul_mag (Jvm.Free.Fl.l2d_mag ((p1 >>> ((6 : Int32) &&& 31)).toInt64)) (Jvm.Free.Fl.l2d_mag ((p3 >>> ((6 : Int32) &&& 31)).toInt64)) (by decide) (by decide)) (by decide)) (by decide)).noNaN) ((Jvm.Free.Fl.Mag64.fin (Jvm.Free.Fl.dmul_mag (Jvm.Free.Fl.l2d_mag ((p0 >>> ((6 : Int32) &&& 31)).toInt64)) (Jvm.Free.Fl.l2d_mag ((p3 >>> ((6 : Int32) &&& 31)).toInt64)) (by decide) (by decide)) (by decide)).noNaN) ((Jvm.Free.Fl.Mag64.fin (Jvm.Free.Fl.dmul_mag (Jvm.Free.Fl.l2d_mag ((p1 >>> ((6 : Int32) &&& 31)).toInt64)) (Jvm.Free.Fl.l2d_mag ((p2 >>> ((6 : Int32) &&& 31)).toInt64)) (by decide) (by decide)) (by decide)).noNaN) ((Jvm.Free.Fl.Mag64.fin (Jvm.Free.Fl.dadd_mag (Jvm.Free.Fl.dmul_mag (Jvm.Free.Fl.l2d_mag ((p0 >>> ((6 : Int32) &&& 31)).toInt64)) (Jvm.Free.Fl.l2d_mag ((p3 >>> ((6 : Int32) &&& 31)).toInt64)) (by decide) (by decide)) (Jvm.Free.Fl.dmul_mag (Jvm.Free.Fl.l2d_mag ((p1 >>> ((6 : Int32) &&& 31)).toInt64)) (Jvm.Free.Fl.l2d_mag ((p2 >>> ((6 : Int32) &&& 31)).toInt64)) (by decide) (by decide)) (by decide)) (by decide)).noNaN)) hZ (hw _ (List.mem_of_getElem? (i := 22) rfl)) (hw _ (List.mem_of_getElem? (i := 2) rfl)) (by decide) (by decide)) qa33 qc33 (g := (mkF m 62 #[.val (.int p0), .val (.int p1), .val (.int p2), .val (.int p3), .val (.long ((p0 >>> ((6 : Int32) &&& 31)).toInt64)), .second, .val (.long ((p1 >>> ((6 : Int32) &&& 31)).toInt64)), .second, .val (.long ((p2 >>> ((6 : Int32) &&& 31)).toInt64)), .second, .val (.long ((p3 >>> ((6 : Int32) &&& 31)).toInt64)), .second, .val (.ref b1), .val (.ref b14), .unset, .unset, .unset, .unset, .unset, .unset, .unset] [(.ref b14), (.ref b1)])) rfl (by rw [hml]; rfl) (Steps.refl _) (argsL := [(.ref b14)]) (rest := []) (lenOf pd0_1 rfl) rfl (by show 2 * 0 + _ ≤ _; exact Nat.le_of_eq rfl) (hb hby at_62) (fun _ _ => ⟨rfl, (rfl : T22.heap = T22.heap), (by decide : 2 + 1 ≤ _), (by decide : 4 + 2 ≤ _)⟩)
  dsimp only [Pt.U, Pt.locs, Pt.cells, Pt.slots] at X33 l33 y33 z33 st33 hQ33
  subst l33 y33 z33
  obtain ⟨x0_33, rfl, N33q, K33, sz33_x0, f34, f35, f36⟩ := hQ33
  have n37 := Fr.app n26 N33q
  have ne_b1_x0_33 : b1 ≠ x0_33 := Nat.ne_of_lt (Nat.lt_of_lt_of_le f27.lt sz33_x0)
  have ne_b14_x0_33 : b14 ≠ x0_33 := Nat.ne_of_lt (Nat.lt_of_lt_of_le f23.lt sz33_x0)
  have g_x0_33 : n0 ≤ x0_33 := Nat.le_trans z31 sz33_x0
  have sz_x0_33 : h0.size ≤ x0_33 := Nat.le_trans k32.1 sz33_x0
  have f38 := f27.keep K33
  have f39 := f28.keep K33 nin0
  have f40 := f29.keep K33 nin0
  have f41 := f23.keep K33
  have f42 := f24.keep K33 nin0
  have f43 := f25.keep K33 nin0
  have z44 := Nat.le_trans z31 K33.1
  have k45 := k32.trans K33 all0
  refine own_tr (T' := T33) (g' := (mkF m 65 #[.val (.int p0), .val (.int p1), .val (.int p2), .val (.int p3), .val (.long ((p0 >>> ((6 : Int32) &&& 31)).toInt64)), .second, .val (.long ((p1 >>> ((6 : Int32) &&& 31)).toInt64)), .second, .val (.long ((p2 >>> ((6 : Int32) &&& 31)).toInt64)), .second, .val (.long ((p3 >>> ((6 : Int32) &&& 31)).toInt64)), .second, .val (.ref b1), .val (.ref b14), .unset, .unset, .unset, .unset, .unset, .unset, .unset] [(.ref x0_33)])) st33 ?_
  refine own_st (T' := T33) (g' := (mkF m 95 #[.val (.int p0), .val (.int p1), .val (.int p2), .val (.int p3), .val (.long ((p0 >>> ((6 : Int32) &&& 31)).toInt64)), .second, .val (.long ((p1 >>> ((6 : Int32) &&& 31)).toInt64)), .second, .val (.long ((p2 >>> ((6 : Int32) &&& 31)).toInt64)), .second, .val (.long ((p3 >>> ((6 : Int32) &&& 31)).toInt64)), .second, .val (.ref b1), .val (.ref b14), .val (.ref x0_33), .val (.long ((((p0 >>> ((6 : Int32) &&& 31)).toInt64) * ((p2 >>> ((6 : Int32) &&& 31)).toInt64)) - (((p1 >>> ((6 : Int32) &&& 31)).toInt64) * ((p3 >>> ((6 : Int32) &&& 31)).toInt64)))), .second, .val (.long ((((p0 >>> ((6 : Int32) &&& 31)).toInt64) * ((p3 >>> ((6 : Int32) &&& 31)).toInt64)) + (((p1 >>> ((6 : Int32) &&& 31)).toInt64) * ((p2 >>> ((6 : Int32) &&& 31)).toInt64)))), .second, .unset, .unset] [(.ref x0_33)])) (fun t k => ?_) ?_
  · show Steps p.tables e below (T33.setTop (mkF m 65 #[.val (.int p0), .val (.int p1), .val (.int p2), .val (.int p3), .val (.long ((p0 >>> ((6 : Int32) &&& 31)).toInt64)), .second, .val (.long ((p1 >>> ((6 : Int32) &&& 31)).toInt64)), .second, .val (.long ((p2 >>> ((6 : Int32) &&& 31)).toInt64)), .second, .val (.long ((p3 >>> ((6 : Int32) &&& 31)).toInt64)), .second, .val (.ref b1), .val (.ref b14), .unset, .unset, .unset, .unset, .unset, .unset, .unset] [(.ref x0_33)])) t
    refine XS.astore X33.here hx rfl (hb hby at_65) rfl rfl (l' := #[.val (.int p0), .val (.int p1), .val (.int p2), .val (.int p3), .val (.long ((p0 >>> ((6 : Int32) &&& 31)).toInt64)), .second, .val (.long ((p1 >>> ((6 : Int32) &&& 31)).toInt64)), .second, .val (.long ((p2 >>> ((6 : Int32) &&& 31)).toInt64)), .second, .val (.long ((p3 >>> ((6 : Int32) &&& 31)).toInt64)), .second, .val (.ref b1), .val (.ref b14), .val (.ref x0_33), .unset, .unset, .unset, .unset, .unset, .unset]) rfl ?_
    show Steps p.tables e below (T33.setTop (mkF m 67 #[.val (.int p0), .val (.int p1), .val (.int p2), .val (.int p3), .val (.long ((p0 >>> ((6 : Int32) &&& 31)).toInt64)), .second, .val (.long ((p1 >>> ((6 : Int32) &&& 31)).toInt64)), .second, .val (.long ((p2 >>> ((6 : Int32) &&& 31)).toInt64)), .second, .val (.long ((p3 >>> ((6 : Int32) &&& 31)).toInt64)), .second, .val (.ref b1), .val (.ref b14), .val (.ref x0_33), .unset, .unset, .unset, .unset, .unset, .unset] [])) t
    refine XS.lload X33.here hx rfl (hb hby at_67) rfl ?_
    show Steps p.tables e below (T33.setTop (mkF m 69 #[.val (.int p0), .val (.int p1), .val (.int p2), .val (.int p3), .val (.long ((p0 >>> ((6 : Int32) &&& 31)).toInt64)), .second, .val (.long ((p1 >>> ((6 : Int32) &&& 31)).toInt64)), .second, .val (.long ((p2 >>> ((6 : Int32) &&& 31)).toInt64)), .second, .val (.long ((p3 >>> ((6 : Int32) &&& 31)).toInt64)), .second, .val (.ref b1), .val (.ref b14), .val (.ref x0_33), .unset, .unset, .unset, .unset, .unset, .unset] [(.long ((p0 >>> ((6 : Int32) &&& 31)).toInt64))])) t
    refine XS.lload X33.here hx rfl (hb hby at_69) rfl ?_
    show Steps p.tables e below (T33.setTop (mkF m 71 #[.val (.int p0), .val (.int p1), .val (.int p2), .val (.int p3), .val (.long ((p0 >>> ((6 : Int32) &&& 31)).toInt64)), .second, .val (.long ((p1 >>> ((6 : Int32) &&& 31)).toInt64)), .second, .val (.long ((p2 >>> ((6 : Int32) &&& 31)).toInt64)), .second, .val (.long ((p3 >>> ((6 : Int32) &&& 31)).toInt64)), .second, .val (.ref b1), .val (.ref b14), .val (.ref x0_33), .unset, .unset, .unset, .unset, .unset, .unset] [(.long ((p2 >>> ((6 : Int32) &&& 31)).toInt64)), (.long ((p0 >>> ((6 : Int32) &&& 31)).toInt64))])) t
    refine XS.lmul X33.here hx rfl (hb hby at_71) rfl ?_
    show Steps p.tables e below (T33.setTop (mkF m 72 #[.val (.int p0), .val (.int p1), .val (.int p2), .val (.int p3), .val (.long ((p0 >>> ((6 : Int32) &&& 31)).toInt64)), .second, .val (.long ((p1 >>> ((6 : Int32) &&& 31)).toInt64)), .second, .val (.long ((p2 >>> ((6 : Int32) &&& 31)).toInt64)), .second, .val (.long ((p3 >>> ((6 : Int32) &&& 31)).toInt64)), .second, .val (.ref b1), .val (.ref b14), .val (.ref x0_33), .unset, .unset, .unset, .unset, .unset, .unset] [(.long (((p0 >>> ((6 : Int32) &&& 31)).toInt64) * ((p2 >>> ((6 : Int32) &&& 31)).toInt64)))])) t
    refine XS.lload X33.here hx rfl (hb hby at_72) rfl ?_
    show Steps p.tables e below (T33.setTop (mkF m 74 #[.val (.int p0), .val (.int p1), .val (.int p2), .val (.int p3), .val (.long ((p0 >>> ((6 : Int32) &&& 31)).toInt64)), .second, .val (.long ((p1 >>> ((6 : Int32) &&& 31)).toInt64)), .second, .val (.long ((p2 >>> ((6 : Int32) &&& 31)).toInt64)), .second, .val (.long ((p3 >>> ((6 : Int32) &&& 31)).toInt64)), .second, .val (.ref b1), .val (.ref b14), .val (.ref x0_33), .unset, .unset, .unset, .unset, .unset, .unset] [(.long ((p1 >>> ((6 : Int32) &&& 31)).toInt64)), (.long (((p0 >>> ((6 : Int32) &&& 31)).toInt64) * ((p2 >>> ((6 : Int32) &&& 31)).toInt64)))])) t
    refine XS.lload X33.here hx rfl (hb hby at_74) rfl ?_
    show Steps p.tables e below (T33.setTop (mkF m 76 #[.val (.int p0), .val (.int p1), .val (.int p2), .val (.int p3), .val (.long ((p0 >>> ((6 : Int32) &&& 31)).toInt64)), .second, .val (.long ((p1 >>> ((6 : Int32) &&& 31)).toInt64)), .second, .val (.long ((p2 >>> ((6 : Int32) &&& 31)).toInt64)), .second, .val (.long ((p3 >>> ((6 : Int32) &&& 31)).toInt64)), .second, .val (.ref b1), .val (.ref b14), .val (.ref x0_33), .unset, .unset, .unset, .unset, .unset, .unset] [(.long ((p3 >>> ((6 : Int32) &&& 31)).toInt64)), (.long ((p1 >>> ((6 : Int32) &&& 31)).toInt64)), (.long (((p0 >>> ((6 : Int32) &&& 31)).toInt64) * ((p2 >>> ((6 : Int32) &&& 31)).toInt64)))])) t
    refine XS.lmul X33.here hx rfl (hb hby at_76) rfl ?_
    show Steps p.tables e below (T33.setTop (mkF m 77 #[.val (.int p0), .val (.int p1), .val (.int p2), .val (.int p3), .val (.long ((p0 >>> ((6 : Int32) &&& 31)).toInt64)), .second, .val (.long ((p1 >>> ((6 : Int32) &&& 31)).toInt64)), .second, .val (.long ((p2 >>> ((6 : Int32) &&& 31)).toInt64)), .second, .val (.long ((p3 >>> ((6 : Int32) &&& 31)).toInt64)), .second, .val (.ref b1), .val (.ref b14), .val (.ref x0_33), .unset, .unset, .unset, .unset, .unset, .unset] [(.long (((p1 >>> ((6 : Int32) &&& 31)).toInt64) * ((p3 >>> ((6 : Int32) &&& 31)).toInt64))), (.long (((p0 >>> ((6 : Int32) &&& 31)).toInt64) * ((p2 >>> ((6 : Int32) &&& 31)).toInt64)))])) t
    refine XS.lsub X33.here hx rfl (hb hby at_77) rfl ?_
    show Steps p.tables e below (T33.setTop (mkF m 78 #[.val (.int p0), .val (.int p1), .val (.int p2), .val (.int p3), .val (.long ((p0 >>> ((6 : Int32) &&& 31)).toInt64)), .second, .val (.long ((p1 >>> ((6 : Int32) &&& 31)).toInt64)), .second, .val (.long ((p2 >>> ((6 : Int32) &&& 31)).toInt64)), .second, .val (.long ((p3 >>> ((6 : Int32) &&& 31)).toInt64)), .second, .val (.ref b1), .val (.ref b14), .val (.ref x0_33), .unset, .unset, .unset, .unset, .unset, .unset] [(.long ((((p0 >>> ((6 : Int32) &&& 31)).toInt64) * ((p2 >>> ((6 : Int32) &&& 31)).toInt64)) - (((p1 >>> ((6 : Int32) &&& 31)).toInt64) * ((p3 >>> ((6 : Int32) &&& 31)).toInt64))))])) t
    refine XS.lstore X33.here hx rfl (hb hby at_78) rfl (l' := #[.val (.int p0), .val (.int p1), .val (.int p2), .val (.int p3), .val (.long ((p0 >>> ((6 : Int32) &&& 31)).toInt64)), .second, .val (.long ((p1 >>> ((6 : Int32) &&& 31)).toInt64)), .second, .val (.long ((p2 >>> ((6 : Int32) &&& 31)).toInt64)), .second, .val (.long ((p3 >>> ((6 : Int32) &&& 31)).toInt64)), .second, .val (.ref b1), .val (.ref b14), .val (.ref x0_33), .val (.long ((((p0 >>> ((6 : Int32) &&& 31)).toInt64) * ((p2 >>> ((6 : Int32) &&& 31)).toInt64)) - (((p1 >>> ((6 : Int32) &&& 31)).toInt64) * ((p3 >>> ((6 : Int32) &&& 31)).toInt64)))), .second, .unset, .unset, .unset, .unset]) rfl ?_
    show Steps p.tables e below (T33.setTop (mkF m 80 #[.val (.int p0), .val (.int p1), .val (.int p2), .val (.int p3), .val (.long ((p0 >>> ((6 : Int32) &&& 31)).toInt64)), .second, .val (.long ((p1 >>> ((6 : Int32) &&& 31)).toInt64)), .second, .val (.long ((p2 >>> ((6 : Int32) &&& 31)).toInt64)), .second, .val (.long ((p3 >>> ((6 : Int32) &&& 31)).toInt64)), .second, .val (.ref b1), .val (.ref b14), .val (.ref x0_33), .val (.long ((((p0 >>> ((6 : Int32) &&& 31)).toInt64) * ((p2 >>> ((6 : Int32) &&& 31)).toInt64)) - (((p1 >>> ((6 : Int32) &&& 31)).toInt64) * ((p3 >>> ((6 : Int32) &&& 31)).toInt64)))), .second, .unset, .unset, .unset, .unset] [])) t
    refine XS.lload X33.here hx rfl (hb hby at_80) rfl ?_
    show Steps p.tables e below (T33.setTop (mkF m 82 #[.val (.int p0), .val (.int p1), .val (.int p2), .val (.int p3), .val (.long ((p0 >>> ((6 : Int32) &&& 31)).toInt64)), .second, .val (.long ((p1 >>> ((6 : Int32) &&& 31)).toInt64)), .second, .val (.long ((p2 >>> ((6 : Int32) &&& 31)).toInt64)), .second, .val (.long ((p3 >>> ((6 : Int32) &&& 31)).toInt64)), .second, .val (.ref b1), .val (.ref b14), .val (.ref x0_33), .val (.long ((((p0 >>> ((6 : Int32) &&& 31)).toInt64) * ((p2 >>> ((6 : Int32) &&& 31)).toInt64)) - (((p1 >>> ((6 : Int32) &&& 31)).toInt64) * ((p3 >>> ((6 : Int32) &&& 31)).toInt64)))), .second, .unset, .unset, .unset, .unset] [(.long ((p0 >>> ((6 : Int32) &&& 31)).toInt64))])) t
    refine XS.lload X33.here hx rfl (hb hby at_82) rfl ?_
    show Steps p.tables e below (T33.setTop (mkF m 84 #[.val (.int p0), .val (.int p1), .val (.int p2), .val (.int p3), .val (.long ((p0 >>> ((6 : Int32) &&& 31)).toInt64)), .second, .val (.long ((p1 >>> ((6 : Int32) &&& 31)).toInt64)), .second, .val (.long ((p2 >>> ((6 : Int32) &&& 31)).toInt64)), .second, .val (.long ((p3 >>> ((6 : Int32) &&& 31)).toInt64)), .second, .val (.ref b1), .val (.ref b14), .val (.ref x0_33), .val (.long ((((p0 >>> ((6 : Int32) &&& 31)).toInt64) * ((p2 >>> ((6 : Int32) &&& 31)).toInt64)) - (((p1 >>> ((6 : Int32) &&& 31)).toInt64) * ((p3 >>> ((6 : Int32) &&& 31)).toInt64)))), .second, .unset, .unset, .unset, .unset] [(.long ((p3 >>> ((6 : Int32) &&& 31)).toInt64)), (.long ((p0 >>> ((6 : Int32) &&& 31)).toInt64))])) t
    refine XS.lmul X33.here hx rfl (hb hby at_84) rfl ?_
    show Steps p.tables e below (T33.setTop (mkF m 85 #[.val (.int p0), .val (.int p1), .val (.int p2), .val (.int p3), .val (.long ((p0 >>> ((6 : Int32) &&& 31)).toInt64)), .second, .val (.long ((p1 >>> ((6 : Int32) &&& 31)).toInt64)), .second, .val (.long ((p2 >>> ((6 : Int32) &&& 31)).toInt64)), .second, .val (.long ((p3 >>> ((6 : Int32) &&& 31)).toInt64)), .second, .val (.ref b1), .val (.ref b14), .val (.ref x0_33), .val (.long ((((p0 >>> ((6 : Int32) &&& 31)).toInt64) * ((p2 >>> ((6 : Int32) &&& 31)).toInt64)) - (((p1 >>> ((6 : Int32) &&& 31)).toInt64) * ((p3 >>> ((6 : Int32) &&& 31)).toInt64)))), .second, .unset, .unset, .unset, .unset] [(.long (((p0 >>> ((6 : Int32) &&& 31)).toInt64) * ((p3 >>> ((6 : Int32) &&& 31)).toInt64)))])) t
    refine XS.lload X33.here hx rfl (hb hby at_85) rfl ?_
    show Steps p.tables e below (T33.setTop (mkF m 87 #[.val (.int p0), .val (.int p1), .val (.int p2), .val (.int p3), .val (.long ((p0 >>> ((6 : Int32) &&& 31)).toInt64)), .second, .val (.long ((p1 >>> ((6 : Int32) &&& 31)).toInt64)), .second, .val (.long ((p2 >>> ((6 : Int32) &&& 31)).toInt64)), .second, .val (.long ((p3 >>> ((6 : Int32) &&& 31)).toInt64)), .second, .val (.ref b1), .val (.ref b14), .val (.ref x0_33), .val (.long ((((p0 >>> ((6 : Int32) &&& 31)).toInt64) * ((p2 >>> ((6 : Int32) &&& 31)).toInt64)) - (((p1 >>> ((6 : Int32) &&& 31)).toInt64) * ((p3 >>> ((6 : Int32) &&& 31)).toInt64)))), .second, .unset, .unset, .unset, .unset] [(.long ((p1 >>> ((6 : Int32) &&& 31)).toInt64)), (.long (((p0 >>> ((6 : Int32) &&& 31)).toInt64) * ((p3 >>> ((6 : Int32) &&& 31)).toInt64)))])) t
    refine XS.lload X33.here hx rfl (hb hby at_87) rfl ?_
    show Steps p.tables e below (T33.setTop (mkF m 89 #[.val (.int p0), .val (.int p1), .val (.int p2), .val (.int p3), .val (.long ((p0 >>> ((6 : Int32) &&& 31)).toInt64)), .second, .val (.long ((p1 >>> ((6 : Int32) &&& 31)).toInt64)), .second, .val (.long ((p2 >>> ((6 : Int32) &&& 31)).toInt64)), .second, .val (.long ((p3 >>> ((6 : Int32) &&& 31)).toInt64)), .second, .val (.ref b1), .val (.ref b14), .val (.ref x0_33), .val (.long ((((p0 >>> ((6 : Int32) &&& 31)).toInt64) * ((p2 >>> ((6 : Int32) &&& 31)).toInt64)) - (((p1 >>> ((6 : Int32) &&& 31)).toInt64) * ((p3 >>> ((6 : Int32) &&& 31)).toInt64)))), .second, .unset, .unset, .unset, .unset] [(.long ((p2 >>> ((6 : Int32) &&& 31)).toInt64)), (.long ((p1 >>> ((6 : Int32) &&& 31)).toInt64)), (.long (((p0 >>> ((6 : Int32) &&& 31)).toInt64) * ((p3 >>> ((6 : Int32) &&& 31)).toInt64)))])) t
    refine XS.lmul X33.here hx rfl (hb hby at_89) rfl ?_
    show Steps p.tables e below (T33.setTop (mkF m 90 #[.val (.int p0), .val (.int p1), .val (.int p2), .val (.int p3), .val (.long ((p0 >>> ((6 : Int32) &&& 31)).toInt64)), .second, .val (.long ((p1 >>> ((6 : Int32) &&& 31)).toInt64)), .second, .val (.long ((p2 >>> ((6 : Int32) &&& 31)).toInt64)), .second, .val (.long ((p3 >>> ((6 : Int32) &&& 31)).toInt64)), .second, .val (.ref b1), .val (.ref b14), .val (.ref x0_33), .val (.long ((((p0 >>> ((6 : Int32) &&& 31)).toInt64) * ((p2 >>> ((6 : Int32) &&& 31)).toInt64)) - (((p1 >>> ((6 : Int32) &&& 31)).toInt64) * ((p3 >>> ((6 : Int32) &&& 31)).toInt64)))), .second, .unset, .unset, .unset, .unset] [(.long (((p1 >>> ((6 : Int32) &&& 31)).toInt64) * ((p2 >>> ((6 : Int32) &&& 31)).toInt64))), (.long (((p0 >>> ((6 : Int32) &&& 31)).toInt64) * ((p3 >>> ((6 : Int32) &&& 31)).toInt64)))])) t
    refine XS.ladd X33.here hx rfl (hb hby at_90) rfl ?_
    show Steps p.tables e below (T33.setTop (mkF m 91 #[.val (.int p0), .val (.int p1), .val (.int p2), .val (.int p3), .val (.long ((p0 >>> ((6 : Int32) &&& 31)).toInt64)), .second, .val (.long ((p1 >>> ((6 : Int32) &&& 31)).toInt64)), .second, .val (.long ((p2 >>> ((6 : Int32) &&& 31)).toInt64)), .second, .val (.long ((p3 >>> ((6 : Int32) &&& 31)).toInt64)), .second, .val (.ref b1), .val (.ref b14), .val (.ref x0_33), .val (.long ((((p0 >>> ((6 : Int32) &&& 31)).toInt64) * ((p2 >>> ((6 : Int32) &&& 31)).toInt64)) - (((p1 >>> ((6 : Int32) &&& 31)).toInt64) * ((p3 >>> ((6 : Int32) &&& 31)).toInt64)))), .second, .unset, .unset, .unset, .unset] [(.long ((((p0 >>> ((6 : Int32) &&& 31)).toInt64) * ((p3 >>> ((6 : Int32) &&& 31)).toInt64)) + (((p1 >>> ((6 : Int32) &&& 31)).toInt64) * ((p2 >>> ((6 : Int32) &&& 31)).toInt64))))])) t
    refine XS.lstore X33.here hx rfl (hb hby at_91) rfl (l' := #[.val (.int p0), .val (.int p1), .val (.int p2), .val (.int p3), .val (.long ((p0 >>> ((6 : Int32) &&& 31)).toInt64)), .second, .val (.long ((p1 >>> ((6 : Int32) &&& 31)).toInt64)), .second, .val (.long ((p2 >>> ((6 : Int32) &&& 31)).toInt64)), .second, .val (.long ((p3 >>> ((6 : Int32) &&& 31)).toInt64)), .second, .val (.ref b1), .val (.ref b14), .val (.ref x0_33), .val (.long ((((p0 >>> ((6 : Int32) &&& 31)).toInt64) * ((p2 >>> ((6 : Int32) &&& 31)).toInt64)) - (((p1 >>> ((6 : Int32) &&& 31)).toInt64) * ((p3 >>> ((6 : Int32) &&& 31)).toInt64)))), .second, .val (.long ((((p0 >>> ((6 : Int32) &&& 31)).toInt64) * ((p3 >>> ((6 : Int32) &&& 31)).toInt64)) + (((p1 >>> ((6 : Int32) &&& 31)).toInt64) * ((p2 >>> ((6 : Int32) &&& 31)).toInt64)))), .second, .unset, .unset]) rfl ?_
    show Steps p.tables e below (T33.setTop (mkF m 93 #[.val (.int p0), .val (.int p1), .val (.int p2), .val (.int p3), .val (.long ((p0 >>> ((6 : Int32) &&& 31)).toInt64)), .second, .val (.long ((p1 >>> ((6 : Int32) &&& 31)).toInt64)), .second, .val (.long ((p2 >>> ((6 : Int32) &&& 31)).toInt64)), .second, .val (.long ((p3 >>> ((6 : Int32) &&& 31)).toInt64)), .second, .val (.ref b1), .val (.ref b14), .val (.ref x0_33), .val (.long ((((p0 >>> ((6 : Int32) &&& 31)).toInt64) * ((p2 >>> ((6 : Int32) &&& 31)).toInt64)) - (((p1 >>> ((6 : Int32) &&& 31)).toInt64) * ((p3 >>> ((6 : Int32) &&& 31)).toInt64)))), .second, .val (.long ((((p0 >>> ((6 : Int32) &&& 31)).toInt64) * ((p3 >>> ((6 : Int32) &&& 31)).toInt64)) + (((p1 >>> ((6 : Int32) &&& 31)).toInt64) * ((p2 >>> ((6 : Int32) &&& 31)).toInt64)))), .second, .unset, .unset] [])) t
    refine XS.aload X33.here hx rfl (hb hby at_93) rfl rfl ?_
    exact k
  obtain ⟨cq46, kq46, qa46, qb46, qc46⟩ := isOf hZ (rfl : T33.heap = T33.heap) f34
  obtain ⟨_, _, ⟨T46, L46, k46, n46⟩, -, X46, ⟨Lc46, hQ46, l46, y46, z46⟩, st46⟩ := X33.virtualBack hx (y := (⟨"com/example/feedpoint/feedpoint/core/Complex", "re", "()D"⟩ : MethodName)) (z := (⟨"com/example/feedpoint/feedpoint/core/Complex", "re", "()D"⟩ : MethodName)) hown (mvT hZ (hw _ (List.mem_of_getElem? (i := 25) rfl))) (mvT hZ (hw _ (List.mem_of_getElem? (i := 26) rfl))) (notFace_of_selects (args := #[]) (mvT hZ (hw _ (List.mem_of_getElem? (i := 28) rfl)))) (mvT hZ (hw _ (List.mem_of_getElem? (i := 28) rfl))) (mvT hZ (hw _ (List.mem_of_getElem? (i := 27) rfl))) (by decide) (backOf (W := 0) (rm5 l Z ar hw [] x0_33 ((FP.dsub (FP.dmul (FP.l2d ((p0 >>> ((6 : Int32) &&& 31)).toInt64)) (FP.l2d ((p2 >>> ((6 : Int32) &&& 31)).toInt64))) (FP.dmul (FP.l2d ((p1 >>> ((6 : Int32) &&& 31)).toInt64)) (FP.l2d ((p3 >>> ((6 : Int32) &&& 31)).toInt64))))) T33.heap n0 z44 f35) hZ (hw _ (List.mem_of_getElem? (i := 29) rfl)) (hw _ (List.mem_of_getElem? (i := 2) rfl)) (by decide) (by decide)) qa46 qc46 (g := (mkF m 95 #[.val (.int p0), .val (.int p1), .val (.int p2), .val (.int p3), .val (.long ((p0 >>> ((6 : Int32) &&& 31)).toInt64)), .second, .val (.long ((p1 >>> ((6 : Int32) &&& 31)).toInt64)), .second, .val (.long ((p2 >>> ((6 : Int32) &&& 31)).toInt64)), .second, .val (.long ((p3 >>> ((6 : Int32) &&& 31)).toInt64)), .second, .val (.ref b1), .val (.ref b14), .val (.ref x0_33), .val (.long ((((p0 >>> ((6 : Int32) &&& 31)).toInt64) * ((p2 >>> ((6 : Int32) &&& 31)).toInt64)) - (((p1 >>> ((6 : Int32) &&& 31)).toInt64) * ((p3 >>> ((6 : Int32) &&& 31)).toInt64)))), .second, .val (.long ((((p0 >>> ((6 : Int32) &&& 31)).toInt64) * ((p3 >>> ((6 : Int32) &&& 31)).toInt64)) + (((p1 >>> ((6 : Int32) &&& 31)).toInt64) * ((p2 >>> ((6 : Int32) &&& 31)).toInt64)))), .second, .unset, .unset] [(.ref x0_33)])) rfl (by rw [hml]; rfl) (Steps.refl _) (argsL := []) (rest := []) (lenOf pd0_2 rfl) rfl (by show 2 * 0 + _ ≤ _; exact Nat.le_of_eq rfl) (hb hby at_95) (fun _ _ => ⟨rfl, (rfl : T33.heap = T33.heap), (by decide : 3 + 0 ≤ _), (by decide : 6 + 0 ≤ _)⟩)
  dsimp only [Pt.U, Pt.locs, Pt.cells, Pt.slots] at X46 l46 y46 z46 st46 hQ46
  subst l46 y46 z46
  obtain ⟨rfl, N46q, e46⟩ := hQ46
  have n47 := Fr.app n37 N46q
  refine own_tr (T' := T46) (g' := (mkF m 98 #[.val (.int p0), .val (.int p1), .val (.int p2), .val (.int p3), .val (.long ((p0 >>> ((6 : Int32) &&& 31)).toInt64)), .second, .val (.long ((p1 >>> ((6 : Int32) &&& 31)).toInt64)), .second, .val (.long ((p2 >>> ((6 : Int32) &&& 31)).toInt64)), .second, .val (.long ((p3 >>> ((6 : Int32) &&& 31)).toInt64)), .second, .val (.ref b1), .val (.ref b14), .val (.ref x0_33), .val (.long ((((p0 >>> ((6 : Int32) &&& 31)).toInt64) * ((p2 >>> ((6 : Int32) &&& 31)).toInt64)) - (((p1 >>> ((6 : Int32) &&& 31)).toInt64) * ((p3 >>> ((6 : Int32) &&& 31)).toInt64)))), .second, .val (.long ((((p0 >>> ((6 : Int32) &&& 31)).toInt64) * ((p3 >>> ((6 : Int32) &&& 31)).toInt64)) + (((p1 >>> ((6 : Int32) &&& 31)).toInt64) * ((p2 >>> ((6 : Int32) &&& 31)).toInt64)))), .second, .unset, .unset] [(.double (FP.dsub (FP.dmul (FP.l2d ((p0 >>> ((6 : Int32) &&& 31)).toInt64)) (FP.l2d ((p2 >>> ((6 : Int32) &&& 31)).toInt64))) (FP.dmul (FP.l2d ((p1 >>> ((6 : Int32) &&& 31)).toInt64)) (FP.l2d ((p3 >>> ((6 : Int32) &&& 31)).toInt64)))))])) st46 ?_
  refine own_st (T' := T46) (g' := (mkF m 107 #[.val (.int p0), .val (.int p1), .val (.int p2), .val (.int p3), .val (.long ((p0 >>> ((6 : Int32) &&& 31)).toInt64)), .second, .val (.long ((p1 >>> ((6 : Int32) &&& 31)).toInt64)), .second, .val (.long ((p2 >>> ((6 : Int32) &&& 31)).toInt64)), .second, .val (.long ((p3 >>> ((6 : Int32) &&& 31)).toInt64)), .second, .val (.ref b1), .val (.ref b14), .val (.ref x0_33), .val (.long ((((p0 >>> ((6 : Int32) &&& 31)).toInt64) * ((p2 >>> ((6 : Int32) &&& 31)).toInt64)) - (((p1 >>> ((6 : Int32) &&& 31)).toInt64) * ((p3 >>> ((6 : Int32) &&& 31)).toInt64)))), .second, .val (.long ((((p0 >>> ((6 : Int32) &&& 31)).toInt64) * ((p3 >>> ((6 : Int32) &&& 31)).toInt64)) + (((p1 >>> ((6 : Int32) &&& 31)).toInt64) * ((p2 >>> ((6 : Int32) &&& 31)).toInt64)))), .second, .unset, .unset] [(.ref x0_33)])) (fun t k => ?_) ?_
  · show Steps p.tables e below (T46.setTop (mkF m 98 #[.val (.int p0), .val (.int p1), .val (.int p2), .val (.int p3), .val (.long ((p0 >>> ((6 : Int32) &&& 31)).toInt64)), .second, .val (.long ((p1 >>> ((6 : Int32) &&& 31)).toInt64)), .second, .val (.long ((p2 >>> ((6 : Int32) &&& 31)).toInt64)), .second, .val (.long ((p3 >>> ((6 : Int32) &&& 31)).toInt64)), .second, .val (.ref b1), .val (.ref b14), .val (.ref x0_33), .val (.long ((((p0 >>> ((6 : Int32) &&& 31)).toInt64) * ((p2 >>> ((6 : Int32) &&& 31)).toInt64)) - (((p1 >>> ((6 : Int32) &&& 31)).toInt64) * ((p3 >>> ((6 : Int32) &&& 31)).toInt64)))), .second, .val (.long ((((p0 >>> ((6 : Int32) &&& 31)).toInt64) * ((p3 >>> ((6 : Int32) &&& 31)).toInt64)) + (((p1 >>> ((6 : Int32) &&& 31)).toInt64) * ((p2 >>> ((6 : Int32) &&& 31)).toInt64)))), .second, .unset, .unset] [(.double (FP.dsub (FP.dmul (FP.l2d ((p0 >>> ((6 : Int32) &&& 31)).toInt64)) (FP.l2d ((p2 >>> ((6 : Int32) &&& 31)).toInt64))) (FP.dmul (FP.l2d ((p1 >>> ((6 : Int32) &&& 31)).toInt64)) (FP.l2d ((p3 >>> ((6 : Int32) &&& 31)).toInt64)))))])) t
    refine XS.lload X46.here hx rfl (hb hby at_98) rfl ?_
    show Steps p.tables e below (T46.setTop (mkF m 100 #[.val (.int p0), .val (.int p1), .val (.int p2), .val (.int p3), .val (.long ((p0 >>> ((6 : Int32) &&& 31)).toInt64)), .second, .val (.long ((p1 >>> ((6 : Int32) &&& 31)).toInt64)), .second, .val (.long ((p2 >>> ((6 : Int32) &&& 31)).toInt64)), .second, .val (.long ((p3 >>> ((6 : Int32) &&& 31)).toInt64)), .second, .val (.ref b1), .val (.ref b14), .val (.ref x0_33), .val (.long ((((p0 >>> ((6 : Int32) &&& 31)).toInt64) * ((p2 >>> ((6 : Int32) &&& 31)).toInt64)) - (((p1 >>> ((6 : Int32) &&& 31)).toInt64) * ((p3 >>> ((6 : Int32) &&& 31)).toInt64)))), .second, .val (.long ((((p0 >>> ((6 : Int32) &&& 31)).toInt64) * ((p3 >>> ((6 : Int32) &&& 31)).toInt64)) + (((p1 >>> ((6 : Int32) &&& 31)).toInt64) * ((p2 >>> ((6 : Int32) &&& 31)).toInt64)))), .second, .unset, .unset] [(.long ((((p0 >>> ((6 : Int32) &&& 31)).toInt64) * ((p2 >>> ((6 : Int32) &&& 31)).toInt64)) - (((p1 >>> ((6 : Int32) &&& 31)).toInt64) * ((p3 >>> ((6 : Int32) &&& 31)).toInt64)))), (.double (FP.dsub (FP.dmul (FP.l2d ((p0 >>> ((6 : Int32) &&& 31)).toInt64)) (FP.l2d ((p2 >>> ((6 : Int32) &&& 31)).toInt64))) (FP.dmul (FP.l2d ((p1 >>> ((6 : Int32) &&& 31)).toInt64)) (FP.l2d ((p3 >>> ((6 : Int32) &&& 31)).toInt64)))))])) t
    refine XS.l2dS X46.here hx rfl (hb hby at_100) rfl rfl ?_
    show Steps p.tables e below (T46.setTop (mkF m 101 #[.val (.int p0), .val (.int p1), .val (.int p2), .val (.int p3), .val (.long ((p0 >>> ((6 : Int32) &&& 31)).toInt64)), .second, .val (.long ((p1 >>> ((6 : Int32) &&& 31)).toInt64)), .second, .val (.long ((p2 >>> ((6 : Int32) &&& 31)).toInt64)), .second, .val (.long ((p3 >>> ((6 : Int32) &&& 31)).toInt64)), .second, .val (.ref b1), .val (.ref b14), .val (.ref x0_33), .val (.long ((((p0 >>> ((6 : Int32) &&& 31)).toInt64) * ((p2 >>> ((6 : Int32) &&& 31)).toInt64)) - (((p1 >>> ((6 : Int32) &&& 31)).toInt64) * ((p3 >>> ((6 : Int32) &&& 31)).toInt64)))), .second, .val (.long ((((p0 >>> ((6 : Int32) &&& 31)).toInt64) * ((p3 >>> ((6 : Int32) &&& 31)).toInt64)) + (((p1 >>> ((6 : Int32) &&& 31)).toInt64) * ((p2 >>> ((6 : Int32) &&& 31)).toInt64)))), .second, .unset, .unset] [(.double (FP.l2d ((((p0 >>> ((6 : Int32) &&& 31)).toInt64) * ((p2 >>> ((6 : Int32) &&& 31)).toInt64)) - (((p1 >>> ((6 : Int32) &&& 31)).toInt64) * ((p3 >>> ((6 : Int32) &&& 31)).toInt64))))), (.double (FP.dsub (FP.dmul (FP.l2d ((p0 >>> ((6 : Int32) &&& 31)).toInt64)) (FP.l2d ((p2 >>> ((6 : Int32) &&& 31)).toInt64))) (FP.dmul (FP.l2d ((p1 >>> ((6 : Int32) &&& 31)).toInt64)) (FP.l2d ((p3 >>> ((6 : Int32) &&& 31)).toInt64)))))])) t
    refine XS.dcmpS X46.here hx rfl (hb hby at_101) rfl hq101 ?_
    show Steps p.tables e below (T46.setTop (mkF m 102 #[.val (.int p0), .val (.int p1), .val (.int p2), .val (.int p3), .val (.long ((p0 >>> ((6 : Int32) &&& 31)).toInt64)), .second, .val (.long ((p1 >>> ((6 : Int32) &&& 31)).toInt64)), .second, .val (.long ((p2 >>> ((6 : Int32) &&& 31)).toInt64)), .second, .val (.long ((p3 >>> ((6 : Int32) &&& 31)).toInt64)), .second, .val (.ref b1), .val (.ref b14), .val (.ref x0_33), .val (.long ((((p0 >>> ((6 : Int32) &&& 31)).toInt64) * ((p2 >>> ((6 : Int32) &&& 31)).toInt64)) - (((p1 >>> ((6 : Int32) &&& 31)).toInt64) * ((p3 >>> ((6 : Int32) &&& 31)).toInt64)))), .second, .val (.long ((((p0 >>> ((6 : Int32) &&& 31)).toInt64) * ((p3 >>> ((6 : Int32) &&& 31)).toInt64)) + (((p1 >>> ((6 : Int32) &&& 31)).toInt64) * ((p2 >>> ((6 : Int32) &&& 31)).toInt64)))), .second, .unset, .unset] [(.int (0 : Int32))])) t
    refine XS.ifNo X46.here hx rfl (hb hby at_102) rfl (by decide) ?_
    show Steps p.tables e below (T46.setTop (mkF m 105 #[.val (.int p0), .val (.int p1), .val (.int p2), .val (.int p3), .val (.long ((p0 >>> ((6 : Int32) &&& 31)).toInt64)), .second, .val (.long ((p1 >>> ((6 : Int32) &&& 31)).toInt64)), .second, .val (.long ((p2 >>> ((6 : Int32) &&& 31)).toInt64)), .second, .val (.long ((p3 >>> ((6 : Int32) &&& 31)).toInt64)), .second, .val (.ref b1), .val (.ref b14), .val (.ref x0_33), .val (.long ((((p0 >>> ((6 : Int32) &&& 31)).toInt64) * ((p2 >>> ((6 : Int32) &&& 31)).toInt64)) - (((p1 >>> ((6 : Int32) &&& 31)).toInt64) * ((p3 >>> ((6 : Int32) &&& 31)).toInt64)))), .second, .val (.long ((((p0 >>> ((6 : Int32) &&& 31)).toInt64) * ((p3 >>> ((6 : Int32) &&& 31)).toInt64)) + (((p1 >>> ((6 : Int32) &&& 31)).toInt64) * ((p2 >>> ((6 : Int32) &&& 31)).toInt64)))), .second, .unset, .unset] [])) t
    refine XS.aload X46.here hx rfl (hb hby at_105) rfl rfl ?_
    exact k
  obtain ⟨cq48, kq48, qa48, qb48, qc48⟩ := isOf hZ e46 f34
  obtain ⟨_, _, ⟨T48, L48, k48, n48⟩, -, X48, ⟨Lc48, hQ48, l48, y48, z48⟩, st48⟩ := X46.virtualBack hx (y := (⟨"com/example/feedpoint/feedpoint/core/Complex", "im", "()D"⟩ : MethodName)) (z := (⟨"com/example/feedpoint/feedpoint/core/Complex", "im", "()D"⟩ : MethodName)) hown (mvT hZ (hw _ (List.mem_of_getElem? (i := 30) rfl))) (mvT hZ (hw _ (List.mem_of_getElem? (i := 31) rfl))) (notFace_of_selects (args := #[]) (mvT hZ (hw _ (List.mem_of_getElem? (i := 33) rfl)))) (mvT hZ (hw _ (List.mem_of_getElem? (i := 33) rfl))) (mvT hZ (hw _ (List.mem_of_getElem? (i := 32) rfl))) (by decide) (backOf (W := 0) (rm6 l Z ar hw [] x0_33 ((FP.dadd (FP.dmul (FP.l2d ((p0 >>> ((6 : Int32) &&& 31)).toInt64)) (FP.l2d ((p3 >>> ((6 : Int32) &&& 31)).toInt64))) (FP.dmul (FP.l2d ((p1 >>> ((6 : Int32) &&& 31)).toInt64)) (FP.l2d ((p2 >>> ((6 : Int32) &&& 31)).toInt64))))) T33.heap n0 z44 f36) hZ (hw _ (List.mem_of_getElem? (i := 34) rfl)) (hw _ (List.mem_of_getElem? (i := 2) rfl)) (by decide) (by decide)) qa48 qc48 (g := (mkF m 107 #[.val (.int p0), .val (.int p1), .val (.int p2), .val (.int p3), .val (.long ((p0 >>> ((6 : Int32) &&& 31)).toInt64)), .second, .val (.long ((p1 >>> ((6 : Int32) &&& 31)).toInt64)), .second, .val (.long ((p2 >>> ((6 : Int32) &&& 31)).toInt64)), .second, .val (.long ((p3 >>> ((6 : Int32) &&& 31)).toInt64)), .second, .val (.ref b1), .val (.ref b14), .val (.ref x0_33), .val (.long ((((p0 >>> ((6 : Int32) &&& 31)).toInt64) * ((p2 >>> ((6 : Int32) &&& 31)).toInt64)) - (((p1 >>> ((6 : Int32) &&& 31)).toInt64) * ((p3 >>> ((6 : Int32) &&& 31)).toInt64)))), .second, .val (.long ((((p0 >>> ((6 : Int32) &&& 31)).toInt64) * ((p3 >>> ((6 : Int32) &&& 31)).toInt64)) + (((p1 >>> ((6 : Int32) &&& 31)).toInt64) * ((p2 >>> ((6 : Int32) &&& 31)).toInt64)))), .second, .unset, .unset] [(.ref x0_33)])) rfl (by rw [hml]; rfl) (Steps.refl _) (argsL := []) (rest := []) (lenOf pd0_2 rfl) rfl (by show 2 * 0 + _ ≤ _; exact Nat.le_of_eq rfl) (hb hby at_107) (fun _ _ => ⟨rfl, e46, (by decide : 3 + 0 ≤ _), (by decide : 6 + 0 ≤ _)⟩)
  dsimp only [Pt.U, Pt.locs, Pt.cells, Pt.slots] at X48 l48 y48 z48 st48 hQ48
  subst l48 y48 z48
  obtain ⟨rfl, N48q, e48⟩ := hQ48
  have n49 := Fr.app n47 N48q
  refine own_tr (T' := T48) (g' := (mkF m 110 #[.val (.int p0), .val (.int p1), .val (.int p2), .val (.int p3), .val (.long ((p0 >>> ((6 : Int32) &&& 31)).toInt64)), .second, .val (.long ((p1 >>> ((6 : Int32) &&& 31)).toInt64)), .second, .val (.long ((p2 >>> ((6 : Int32) &&& 31)).toInt64)), .second, .val (.long ((p3 >>> ((6 : Int32) &&& 31)).toInt64)), .second, .val (.ref b1), .val (.ref b14), .val (.ref x0_33), .val (.long ((((p0 >>> ((6 : Int32) &&& 31)).toInt64) * ((p2 >>> ((6 : Int32) &&& 31)).toInt64)) - (((p1 >>> ((6 : Int32) &&& 31)).toInt64) * ((p3 >>> ((6 : Int32) &&& 31)).toInt64)))), .second, .val (.long ((((p0 >>> ((6 : Int32) &&& 31)).toInt64) * ((p3 >>> ((6 : Int32) &&& 31)).toInt64)) + (((p1 >>> ((6 : Int32) &&& 31)).toInt64) * ((p2 >>> ((6 : Int32) &&& 31)).toInt64)))), .second, .unset, .unset] [(.double (FP.dadd (FP.dmul (FP.l2d ((p0 >>> ((6 : Int32) &&& 31)).toInt64)) (FP.l2d ((p3 >>> ((6 : Int32) &&& 31)).toInt64))) (FP.dmul (FP.l2d ((p1 >>> ((6 : Int32) &&& 31)).toInt64)) (FP.l2d ((p2 >>> ((6 : Int32) &&& 31)).toInt64)))))])) st48 ?_
  refine own_st (T' := T48) (g' := (mkF m 126 #[.val (.int p0), .val (.int p1), .val (.int p2), .val (.int p3), .val (.long ((p0 >>> ((6 : Int32) &&& 31)).toInt64)), .second, .val (.long ((p1 >>> ((6 : Int32) &&& 31)).toInt64)), .second, .val (.long ((p2 >>> ((6 : Int32) &&& 31)).toInt64)), .second, .val (.long ((p3 >>> ((6 : Int32) &&& 31)).toInt64)), .second, .val (.ref b1), .val (.ref b14), .val (.ref x0_33), .val (.long ((((p0 >>> ((6 : Int32) &&& 31)).toInt64) * ((p2 >>> ((6 : Int32) &&& 31)).toInt64)) - (((p1 >>> ((6 : Int32) &&& 31)).toInt64) * ((p3 >>> ((6 : Int32) &&& 31)).toInt64)))), .second, .val (.long ((((p0 >>> ((6 : Int32) &&& 31)).toInt64) * ((p3 >>> ((6 : Int32) &&& 31)).toInt64)) + (((p1 >>> ((6 : Int32) &&& 31)).toInt64) * ((p2 >>> ((6 : Int32) &&& 31)).toInt64)))), .second, .val (.int (1 : Int32)), .unset] [(.ref b1)])) (fun t k => ?_) ?_
  · show Steps p.tables e below (T48.setTop (mkF m 110 #[.val (.int p0), .val (.int p1), .val (.int p2), .val (.int p3), .val (.long ((p0 >>> ((6 : Int32) &&& 31)).toInt64)), .second, .val (.long ((p1 >>> ((6 : Int32) &&& 31)).toInt64)), .second, .val (.long ((p2 >>> ((6 : Int32) &&& 31)).toInt64)), .second, .val (.long ((p3 >>> ((6 : Int32) &&& 31)).toInt64)), .second, .val (.ref b1), .val (.ref b14), .val (.ref x0_33), .val (.long ((((p0 >>> ((6 : Int32) &&& 31)).toInt64) * ((p2 >>> ((6 : Int32) &&& 31)).toInt64)) - (((p1 >>> ((6 : Int32) &&& 31)).toInt64) * ((p3 >>> ((6 : Int32) &&& 31)).toInt64)))), .second, .val (.long ((((p0 >>> ((6 : Int32) &&& 31)).toInt64) * ((p3 >>> ((6 : Int32) &&& 31)).toInt64)) + (((p1 >>> ((6 : Int32) &&& 31)).toInt64) * ((p2 >>> ((6 : Int32) &&& 31)).toInt64)))), .second, .unset, .unset] [(.double (FP.dadd (FP.dmul (FP.l2d ((p0 >>> ((6 : Int32) &&& 31)).toInt64)) (FP.l2d ((p3 >>> ((6 : Int32) &&& 31)).toInt64))) (FP.dmul (FP.l2d ((p1 >>> ((6 : Int32) &&& 31)).toInt64)) (FP.l2d ((p2 >>> ((6 : Int32) &&& 31)).toInt64)))))])) t
    refine XS.lload X48.here hx rfl (hb hby at_110) rfl ?_
    show Steps p.tables e below (T48.setTop (mkF m 112 #[.val (.int p0), .val (.int p1), .val (.int p2), .val (.int p3), .val (.long ((p0 >>> ((6 : Int32) &&& 31)).toInt64)), .second, .val (.long ((p1 >>> ((6 : Int32) &&& 31)).toInt64)), .second, .val (.long ((p2 >>> ((6 : Int32) &&& 31)).toInt64)), .second, .val (.long ((p3 >>> ((6 : Int32) &&& 31)).toInt64)), .second, .val (.ref b1), .val (.ref b14), .val (.ref x0_33), .val (.long ((((p0 >>> ((6 : Int32) &&& 31)).toInt64) * ((p2 >>> ((6 : Int32) &&& 31)).toInt64)) - (((p1 >>> ((6 : Int32) &&& 31)).toInt64) * ((p3 >>> ((6 : Int32) &&& 31)).toInt64)))), .second, .val (.long ((((p0 >>> ((6 : Int32) &&& 31)).toInt64) * ((p3 >>> ((6 : Int32) &&& 31)).toInt64)) + (((p1 >>> ((6 : Int32) &&& 31)).toInt64) * ((p2 >>> ((6 : Int32) &&& 31)).toInt64)))), .second, .unset, .unset] [(.long ((((p0 >>> ((6 : Int32) &&& 31)).toInt64) * ((p3 >>> ((6 : Int32) &&& 31)).toInt64)) + (((p1 >>> ((6 : Int32) &&& 31)).toInt64) * ((p2 >>> ((6 : Int32) &&& 31)).toInt64)))), (.double (FP.dadd (FP.dmul (FP.l2d ((p0 >>> ((6 : Int32) &&& 31)).toInt64)) (FP.l2d ((p3 >>> ((6 : Int32) &&& 31)).toInt64))) (FP.dmul (FP.l2d ((p1 >>> ((6 : Int32) &&& 31)).toInt64)) (FP.l2d ((p2 >>> ((6 : Int32) &&& 31)).toInt64)))))])) t
    refine XS.l2dS X48.here hx rfl (hb hby at_112) rfl rfl ?_
    show Steps p.tables e below (T48.setTop (mkF m 113 #[.val (.int p0), .val (.int p1), .val (.int p2), .val (.int p3), .val (.long ((p0 >>> ((6 : Int32) &&& 31)).toInt64)), .second, .val (.long ((p1 >>> ((6 : Int32) &&& 31)).toInt64)), .second, .val (.long ((p2 >>> ((6 : Int32) &&& 31)).toInt64)), .second, .val (.long ((p3 >>> ((6 : Int32) &&& 31)).toInt64)), .second, .val (.ref b1), .val (.ref b14), .val (.ref x0_33), .val (.long ((((p0 >>> ((6 : Int32) &&& 31)).toInt64) * ((p2 >>> ((6 : Int32) &&& 31)).toInt64)) - (((p1 >>> ((6 : Int32) &&& 31)).toInt64) * ((p3 >>> ((6 : Int32) &&& 31)).toInt64)))), .second, .val (.long ((((p0 >>> ((6 : Int32) &&& 31)).toInt64) * ((p3 >>> ((6 : Int32) &&& 31)).toInt64)) + (((p1 >>> ((6 : Int32) &&& 31)).toInt64) * ((p2 >>> ((6 : Int32) &&& 31)).toInt64)))), .second, .unset, .unset] [(.double (FP.l2d ((((p0 >>> ((6 : Int32) &&& 31)).toInt64) * ((p3 >>> ((6 : Int32) &&& 31)).toInt64)) + (((p1 >>> ((6 : Int32) &&& 31)).toInt64) * ((p2 >>> ((6 : Int32) &&& 31)).toInt64))))), (.double (FP.dadd (FP.dmul (FP.l2d ((p0 >>> ((6 : Int32) &&& 31)).toInt64)) (FP.l2d ((p3 >>> ((6 : Int32) &&& 31)).toInt64))) (FP.dmul (FP.l2d ((p1 >>> ((6 : Int32) &&& 31)).toInt64)) (FP.l2d ((p2 >>> ((6 : Int32) &&& 31)).toInt64)))))])) t
    refine XS.dcmpS X48.here hx rfl (hb hby at_113) rfl hq113 ?_
    show Steps p.tables e below (T48.setTop (mkF m 114 #[.val (.int p0), .val (.int p1), .val (.int p2), .val (.int p3), .val (.long ((p0 >>> ((6 : Int32) &&& 31)).toInt64)), .second, .val (.long ((p1 >>> ((6 : Int32) &&& 31)).toInt64)), .second, .val (.long ((p2 >>> ((6 : Int32) &&& 31)).toInt64)), .second, .val (.long ((p3 >>> ((6 : Int32) &&& 31)).toInt64)), .second, .val (.ref b1), .val (.ref b14), .val (.ref x0_33), .val (.long ((((p0 >>> ((6 : Int32) &&& 31)).toInt64) * ((p2 >>> ((6 : Int32) &&& 31)).toInt64)) - (((p1 >>> ((6 : Int32) &&& 31)).toInt64) * ((p3 >>> ((6 : Int32) &&& 31)).toInt64)))), .second, .val (.long ((((p0 >>> ((6 : Int32) &&& 31)).toInt64) * ((p3 >>> ((6 : Int32) &&& 31)).toInt64)) + (((p1 >>> ((6 : Int32) &&& 31)).toInt64) * ((p2 >>> ((6 : Int32) &&& 31)).toInt64)))), .second, .unset, .unset] [(.int (0 : Int32))])) t
    refine XS.ifNo X48.here hx rfl (hb hby at_114) rfl (by decide) ?_
    show Steps p.tables e below (T48.setTop (mkF m 117 #[.val (.int p0), .val (.int p1), .val (.int p2), .val (.int p3), .val (.long ((p0 >>> ((6 : Int32) &&& 31)).toInt64)), .second, .val (.long ((p1 >>> ((6 : Int32) &&& 31)).toInt64)), .second, .val (.long ((p2 >>> ((6 : Int32) &&& 31)).toInt64)), .second, .val (.long ((p3 >>> ((6 : Int32) &&& 31)).toInt64)), .second, .val (.ref b1), .val (.ref b14), .val (.ref x0_33), .val (.long ((((p0 >>> ((6 : Int32) &&& 31)).toInt64) * ((p2 >>> ((6 : Int32) &&& 31)).toInt64)) - (((p1 >>> ((6 : Int32) &&& 31)).toInt64) * ((p3 >>> ((6 : Int32) &&& 31)).toInt64)))), .second, .val (.long ((((p0 >>> ((6 : Int32) &&& 31)).toInt64) * ((p3 >>> ((6 : Int32) &&& 31)).toInt64)) + (((p1 >>> ((6 : Int32) &&& 31)).toInt64) * ((p2 >>> ((6 : Int32) &&& 31)).toInt64)))), .second, .unset, .unset] [])) t
    refine XS.iconst X48.here hx rfl (hb hby at_117) ?_
    show Steps p.tables e below (T48.setTop (mkF m 118 #[.val (.int p0), .val (.int p1), .val (.int p2), .val (.int p3), .val (.long ((p0 >>> ((6 : Int32) &&& 31)).toInt64)), .second, .val (.long ((p1 >>> ((6 : Int32) &&& 31)).toInt64)), .second, .val (.long ((p2 >>> ((6 : Int32) &&& 31)).toInt64)), .second, .val (.long ((p3 >>> ((6 : Int32) &&& 31)).toInt64)), .second, .val (.ref b1), .val (.ref b14), .val (.ref x0_33), .val (.long ((((p0 >>> ((6 : Int32) &&& 31)).toInt64) * ((p2 >>> ((6 : Int32) &&& 31)).toInt64)) - (((p1 >>> ((6 : Int32) &&& 31)).toInt64) * ((p3 >>> ((6 : Int32) &&& 31)).toInt64)))), .second, .val (.long ((((p0 >>> ((6 : Int32) &&& 31)).toInt64) * ((p3 >>> ((6 : Int32) &&& 31)).toInt64)) + (((p1 >>> ((6 : Int32) &&& 31)).toInt64) * ((p2 >>> ((6 : Int32) &&& 31)).toInt64)))), .second, .unset, .unset] [(.int (1 : Int32))])) t
    refine XS.goto X48.here hx rfl (pc0 := 118) (pc' := 122) rfl (hb hby at_118) (by decide) (by decide) ?_
    show Steps p.tables e below (T48.setTop (mkF m 122 #[.val (.int p0), .val (.int p1), .val (.int p2), .val (.int p3), .val (.long ((p0 >>> ((6 : Int32) &&& 31)).toInt64)), .second, .val (.long ((p1 >>> ((6 : Int32) &&& 31)).toInt64)), .second, .val (.long ((p2 >>> ((6 : Int32) &&& 31)).toInt64)), .second, .val (.long ((p3 >>> ((6 : Int32) &&& 31)).toInt64)), .second, .val (.ref b1), .val (.ref b14), .val (.ref x0_33), .val (.long ((((p0 >>> ((6 : Int32) &&& 31)).toInt64) * ((p2 >>> ((6 : Int32) &&& 31)).toInt64)) - (((p1 >>> ((6 : Int32) &&& 31)).toInt64) * ((p3 >>> ((6 : Int32) &&& 31)).toInt64)))), .second, .val (.long ((((p0 >>> ((6 : Int32) &&& 31)).toInt64) * ((p3 >>> ((6 : Int32) &&& 31)).toInt64)) + (((p1 >>> ((6 : Int32) &&& 31)).toInt64) * ((p2 >>> ((6 : Int32) &&& 31)).toInt64)))), .second, .unset, .unset] [(.int (1 : Int32))])) t
    refine XS.istore X48.here hx rfl (hb hby at_122) rfl (l' := #[.val (.int p0), .val (.int p1), .val (.int p2), .val (.int p3), .val (.long ((p0 >>> ((6 : Int32) &&& 31)).toInt64)), .second, .val (.long ((p1 >>> ((6 : Int32) &&& 31)).toInt64)), .second, .val (.long ((p2 >>> ((6 : Int32) &&& 31)).toInt64)), .second, .val (.long ((p3 >>> ((6 : Int32) &&& 31)).toInt64)), .second, .val (.ref b1), .val (.ref b14), .val (.ref x0_33), .val (.long ((((p0 >>> ((6 : Int32) &&& 31)).toInt64) * ((p2 >>> ((6 : Int32) &&& 31)).toInt64)) - (((p1 >>> ((6 : Int32) &&& 31)).toInt64) * ((p3 >>> ((6 : Int32) &&& 31)).toInt64)))), .second, .val (.long ((((p0 >>> ((6 : Int32) &&& 31)).toInt64) * ((p3 >>> ((6 : Int32) &&& 31)).toInt64)) + (((p1 >>> ((6 : Int32) &&& 31)).toInt64) * ((p2 >>> ((6 : Int32) &&& 31)).toInt64)))), .second, .val (.int (1 : Int32)), .unset]) rfl ?_
    show Steps p.tables e below (T48.setTop (mkF m 124 #[.val (.int p0), .val (.int p1), .val (.int p2), .val (.int p3), .val (.long ((p0 >>> ((6 : Int32) &&& 31)).toInt64)), .second, .val (.long ((p1 >>> ((6 : Int32) &&& 31)).toInt64)), .second, .val (.long ((p2 >>> ((6 : Int32) &&& 31)).toInt64)), .second, .val (.long ((p3 >>> ((6 : Int32) &&& 31)).toInt64)), .second, .val (.ref b1), .val (.ref b14), .val (.ref x0_33), .val (.long ((((p0 >>> ((6 : Int32) &&& 31)).toInt64) * ((p2 >>> ((6 : Int32) &&& 31)).toInt64)) - (((p1 >>> ((6 : Int32) &&& 31)).toInt64) * ((p3 >>> ((6 : Int32) &&& 31)).toInt64)))), .second, .val (.long ((((p0 >>> ((6 : Int32) &&& 31)).toInt64) * ((p3 >>> ((6 : Int32) &&& 31)).toInt64)) + (((p1 >>> ((6 : Int32) &&& 31)).toInt64) * ((p2 >>> ((6 : Int32) &&& 31)).toInt64)))), .second, .val (.int (1 : Int32)), .unset] [])) t
    refine XS.aload X48.here hx rfl (hb hby at_124) rfl rfl ?_
    exact k
  obtain ⟨cq50, kq50, qa50, qb50, qc50⟩ := isOf hZ e48 f38
  obtain ⟨_, _, ⟨T50, L50, k50, n50⟩, -, X50, ⟨Lc50, hQ50, l50, y50, z50⟩, st50⟩ := X48.virtualBack hx (y := (⟨"com/example/feedpoint/feedpoint/core/Complex", "re", "()D"⟩ : MethodName)) (z := (⟨"com/example/feedpoint/feedpoint/core/Complex", "re", "()D"⟩ : MethodName)) hown (mvT hZ (hw _ (List.mem_of_getElem? (i := 25) rfl))) (mvT hZ (hw _ (List.mem_of_getElem? (i := 26) rfl))) (notFace_of_selects (args := #[]) (mvT hZ (hw _ (List.mem_of_getElem? (i := 28) rfl)))) (mvT hZ (hw _ (List.mem_of_getElem? (i := 28) rfl))) (mvT hZ (hw _ (List.mem_of_getElem? (i := 27) rfl))) (by decide) (backOf (W := 0) (rm5 l Z ar hw [] b1 ((FP.l2d ((p0 >>> ((6 : Int32) &&& 31)).toInt64))) T33.heap n0 z44 f39) hZ (hw _ (List.mem_of_getElem? (i := 29) rfl)) (hw _ (List.mem_of_getElem? (i := 2) rfl)) (by decide) (by decide)) qa50 qc50 (g := (mkF m 126 #[.val (.int p0), .val (.int p1), .val (.int p2), .val (.int p3), .val (.long ((p0 >>> ((6 : Int32) &&& 31)).toInt64)), .second, .val (.long ((p1 >>> ((6 : Int32) &&& 31)).toInt64)), .second, .val (.long ((p2 >>> ((6 : Int32) &&& 31)).toInt64)), .second, .val (.long ((p3 >>> ((6 : Int32) &&& 31)).toInt64)), .second, .val (.ref b1), .val (.ref b14), .val (.ref x0_33), .val (.long ((((p0 >>> ((6 : Int32) &&& 31)).toInt64) * ((p2 >>> ((6 : Int32) &&& 31)).toInt64)) - (((p1 >>> ((6 : Int32) &&& 31)).toInt64) * ((p3 >>> ((6 : Int32) &&& 31)).toInt64)))), .second, .val (.long ((((p0 >>> ((6 : Int32) &&& 31)).toInt64) * ((p3 >>> ((6 : Int32) &&& 31)).toInt64)) + (((p1 >>> ((6 : Int32) &&& 31)).toInt64) * ((p2 >>> ((6 : Int32) &&& 31)).toInt64)))), .second, .val (.int (1 : Int32)), .unset] [(.ref b1)])) rfl (by rw [hml]; rfl) (Steps.refl _) (argsL := []) (rest := []) (lenOf pd0_2 rfl) rfl (by show 2 * 0 + _ ≤ _; exact Nat.le_of_eq rfl) (hb hby at_126) (fun _ _ => ⟨rfl, e48, (by decide : 3 + 0 ≤ _), (by decide : 6 + 0 ≤ _)⟩)
  dsimp only [Pt.U, Pt.locs, Pt.cells, Pt.slots] at X50 l50 y50 z50 st50 hQ50
  subst l50 y50 z50
  obtain ⟨rfl, N50q, e50⟩ := hQ50
  have n51 := Fr.app n49 N50q
  refine own_tr (T' := T50) (g' := (mkF m 129 #[.val (.int p0), .val (.int p1), .val (.int p2), .val (.int p3), .val (.long ((p0 >>> ((6 : Int32) &&& 31)).toInt64)), .second, .val (.long ((p1 >>> ((6 : Int32) &&& 31)).toInt64)), .second, .val (.long ((p2 >>> ((6 : Int32) &&& 31)).toInt64)), .second, .val (.long ((p3 >>> ((6 : Int32) &&& 31)).toInt64)), .second, .val (.ref b1), .val (.ref b14), .val (.ref x0_33), .val (.long ((((p0 >>> ((6 : Int32) &&& 31)).toInt64) * ((p2 >>> ((6 : Int32) &&& 31)).toInt64)) - (((p1 >>> ((6 : Int32) &&& 31)).toInt64) * ((p3 >>> ((6 : Int32) &&& 31)).toInt64)))), .second, .val (.long ((((p0 >>> ((6 : Int32) &&& 31)).toInt64) * ((p3 >>> ((6 : Int32) &&& 31)).toInt64)) + (((p1 >>> ((6 : Int32) &&& 31)).toInt64) * ((p2 >>> ((6 : Int32) &&& 31)).toInt64)))), .second, .val (.int (1 : Int32)), .unset] [(.double (FP.l2d ((p0 >>> ((6 : Int32) &&& 31)).toInt64)))])) st50 ?_
  refine own_st (T' := T50) (g' := (mkF m 138 #[.val (.int p0), .val (.int p1), .val (.int p2), .val (.int p3), .val (.long ((p0 >>> ((6 : Int32) &&& 31)).toInt64)), .second, .val (.long ((p1 >>> ((6 : Int32) &&& 31)).toInt64)), .second, .val (.long ((p2 >>> ((6 : Int32) &&& 31)).toInt64)), .second, .val (.long ((p3 >>> ((6 : Int32) &&& 31)).toInt64)), .second, .val (.ref b1), .val (.ref b14), .val (.ref x0_33), .val (.long ((((p0 >>> ((6 : Int32) &&& 31)).toInt64) * ((p2 >>> ((6 : Int32) &&& 31)).toInt64)) - (((p1 >>> ((6 : Int32) &&& 31)).toInt64) * ((p3 >>> ((6 : Int32) &&& 31)).toInt64)))), .second, .val (.long ((((p0 >>> ((6 : Int32) &&& 31)).toInt64) * ((p3 >>> ((6 : Int32) &&& 31)).toInt64)) + (((p1 >>> ((6 : Int32) &&& 31)).toInt64) * ((p2 >>> ((6 : Int32) &&& 31)).toInt64)))), .second, .val (.int (1 : Int32)), .unset] [(.ref b1)])) (fun t k => ?_) ?_
  · show Steps p.tables e below (T50.setTop (mkF m 129 #[.val (.int p0), .val (.int p1), .val (.int p2), .val (.int p3), .val (.long ((p0 >>> ((6 : Int32) &&& 31)).toInt64)), .second, .val (.long ((p1 >>> ((6 : Int32) &&& 31)).toInt64)), .second, .val (.long ((p2 >>> ((6 : Int32) &&& 31)).toInt64)), .second, .val (.long ((p3 >>> ((6 : Int32) &&& 31)).toInt64)), .second, .val (.ref b1), .val (.ref b14), .val (.ref x0_33), .val (.long ((((p0 >>> ((6 : Int32) &&& 31)).toInt64) * ((p2 >>> ((6 : Int32) &&& 31)).toInt64)) - (((p1 >>> ((6 : Int32) &&& 31)).toInt64) * ((p3 >>> ((6 : Int32) &&& 31)).toInt64)))), .second, .val (.long ((((p0 >>> ((6 : Int32) &&& 31)).toInt64) * ((p3 >>> ((6 : Int32) &&& 31)).toInt64)) + (((p1 >>> ((6 : Int32) &&& 31)).toInt64) * ((p2 >>> ((6 : Int32) &&& 31)).toInt64)))), .second, .val (.int (1 : Int32)), .unset] [(.double (FP.l2d ((p0 >>> ((6 : Int32) &&& 31)).toInt64)))])) t
    refine XS.lload X50.here hx rfl (hb hby at_129) rfl ?_
    show Steps p.tables e below (T50.setTop (mkF m 131 #[.val (.int p0), .val (.int p1), .val (.int p2), .val (.int p3), .val (.long ((p0 >>> ((6 : Int32) &&& 31)).toInt64)), .second, .val (.long ((p1 >>> ((6 : Int32) &&& 31)).toInt64)), .second, .val (.long ((p2 >>> ((6 : Int32) &&& 31)).toInt64)), .second, .val (.long ((p3 >>> ((6 : Int32) &&& 31)).toInt64)), .second, .val (.ref b1), .val (.ref b14), .val (.ref x0_33), .val (.long ((((p0 >>> ((6 : Int32) &&& 31)).toInt64) * ((p2 >>> ((6 : Int32) &&& 31)).toInt64)) - (((p1 >>> ((6 : Int32) &&& 31)).toInt64) * ((p3 >>> ((6 : Int32) &&& 31)).toInt64)))), .second, .val (.long ((((p0 >>> ((6 : Int32) &&& 31)).toInt64) * ((p3 >>> ((6 : Int32) &&& 31)).toInt64)) + (((p1 >>> ((6 : Int32) &&& 31)).toInt64) * ((p2 >>> ((6 : Int32) &&& 31)).toInt64)))), .second, .val (.int (1 : Int32)), .unset] [(.long ((p0 >>> ((6 : Int32) &&& 31)).toInt64)), (.double (FP.l2d ((p0 >>> ((6 : Int32) &&& 31)).toInt64)))])) t
    refine XS.l2dS X50.here hx rfl (hb hby at_131) rfl rfl ?_
    show Steps p.tables e below (T50.setTop (mkF m 132 #[.val (.int p0), .val (.int p1), .val (.int p2), .val (.int p3), .val (.long ((p0 >>> ((6 : Int32) &&& 31)).toInt64)), .second, .val (.long ((p1 >>> ((6 : Int32) &&& 31)).toInt64)), .second, .val (.long ((p2 >>> ((6 : Int32) &&& 31)).toInt64)), .second, .val (.long ((p3 >>> ((6 : Int32) &&& 31)).toInt64)), .second, .val (.ref b1), .val (.ref b14), .val (.ref x0_33), .val (.long ((((p0 >>> ((6 : Int32) &&& 31)).toInt64) * ((p2 >>> ((6 : Int32) &&& 31)).toInt64)) - (((p1 >>> ((6 : Int32) &&& 31)).toInt64) * ((p3 >>> ((6 : Int32) &&& 31)).toInt64)))), .second, .val (.long ((((p0 >>> ((6 : Int32) &&& 31)).toInt64) * ((p3 >>> ((6 : Int32) &&& 31)).toInt64)) + (((p1 >>> ((6 : Int32) &&& 31)).toInt64) * ((p2 >>> ((6 : Int32) &&& 31)).toInt64)))), .second, .val (.int (1 : Int32)), .unset] [(.double (FP.l2d ((p0 >>> ((6 : Int32) &&& 31)).toInt64))), (.double (FP.l2d ((p0 >>> ((6 : Int32) &&& 31)).toInt64)))])) t
    refine XS.dcmpS X50.here hx rfl (hb hby at_132) rfl hq132 ?_
    show Steps p.tables e below (T50.setTop (mkF m 133 #[.val (.int p0), .val (.int p1), .val (.int p2), .val (.int p3), .val (.long ((p0 >>> ((6 : Int32) &&& 31)).toInt64)), .second, .val (.long ((p1 >>> ((6 : Int32) &&& 31)).toInt64)), .second, .val (.long ((p2 >>> ((6 : Int32) &&& 31)).toInt64)), .second, .val (.long ((p3 >>> ((6 : Int32) &&& 31)).toInt64)), .second, .val (.ref b1), .val (.ref b14), .val (.ref x0_33), .val (.long ((((p0 >>> ((6 : Int32) &&& 31)).toInt64) * ((p2 >>> ((6 : Int32) &&& 31)).toInt64)) - (((p1 >>> ((6 : Int32) &&& 31)).toInt64) * ((p3 >>> ((6 : Int32) &&& 31)).toInt64)))), .second, .val (.long ((((p0 >>> ((6 : Int32) &&& 31)).toInt64) * ((p3 >>> ((6 : Int32) &&& 31)).toInt64)) + (((p1 >>> ((6 : Int32) &&& 31)).toInt64) * ((p2 >>> ((6 : Int32) &&& 31)).toInt64)))), .second, .val (.int (1 : Int32)), .unset] [(.int (0 : Int32))])) t
    refine XS.ifNo X50.here hx rfl (hb hby at_133) rfl (by decide) ?_
    show Steps p.tables e below (T50.setTop (mkF m 136 #[.val (.int p0), .val (.int p1), .val (.int p2), .val (.int p3), .val (.long ((p0 >>> ((6 : Int32) &&& 31)).toInt64)), .second, .val (.long ((p1 >>> ((6 : Int32) &&& 31)).toInt64)), .second, .val (.long ((p2 >>> ((6 : Int32) &&& 31)).toInt64)), .second, .val (.long ((p3 >>> ((6 : Int32) &&& 31)).toInt64)), .second, .val (.ref b1), .val (.ref b14), .val (.ref x0_33), .val (.long ((((p0 >>> ((6 : Int32) &&& 31)).toInt64) * ((p2 >>> ((6 : Int32) &&& 31)).toInt64)) - (((p1 >>> ((6 : Int32) &&& 31)).toInt64) * ((p3 >>> ((6 : Int32) &&& 31)).toInt64)))), .second, .val (.long ((((p0 >>> ((6 : Int32) &&& 31)).toInt64) * ((p3 >>> ((6 : Int32) &&& 31)).toInt64)) + (((p1 >>> ((6 : Int32) &&& 31)).toInt64) * ((p2 >>> ((6 : Int32) &&& 31)).toInt64)))), .second, .val (.int (1 : Int32)), .unset] [])) t
    refine XS.aload X50.here hx rfl (hb hby at_136) rfl rfl ?_
    exact k
  obtain ⟨cq52, kq52, qa52, qb52, qc52⟩ := isOf hZ e50 f38
  obtain ⟨_, _, ⟨T52, L52, k52, n52⟩, -, X52, ⟨Lc52, hQ52, l52, y52, z52⟩, st52⟩ := X50.virtualBack hx (y := (⟨"com/example/feedpoint/feedpoint/core/Complex", "im", "()D"⟩ : MethodName)) (z := (⟨"com/example/feedpoint/feedpoint/core/Complex", "im", "()D"⟩ : MethodName)) hown (mvT hZ (hw _ (List.mem_of_getElem? (i := 30) rfl))) (mvT hZ (hw _ (List.mem_of_getElem? (i := 31) rfl))) (notFace_of_selects (args := #[]) (mvT hZ (hw _ (List.mem_of_getElem? (i := 33) rfl)))) (mvT hZ (hw _ (List.mem_of_getElem? (i := 33) rfl))) (mvT hZ (hw _ (List.mem_of_getElem? (i := 32) rfl))) (by decide) (backOf (W := 0) (rm6 l Z ar hw [] b1 ((FP.l2d ((p1 >>> ((6 : Int32) &&& 31)).toInt64))) T33.heap n0 z44 f40) hZ (hw _ (List.mem_of_getElem? (i := 34) rfl)) (hw _ (List.mem_of_getElem? (i := 2) rfl)) (by decide) (by decide)) qa52 qc52 (g := (mkF m 138 #[.val (.int p0), .val (.int p1), .val (.int p2), .val (.int p3), .val (.long ((p0 >>> ((6 : Int32) &&& 31)).toInt64)), .second, .val (.long ((p1 >>> ((6 : Int32) &&& 31)).toInt64)), .second, .val (.long ((p2 >>> ((6 : Int32) &&& 31)).toInt64)), .second, .val (.long ((p3 >>> ((6 : Int32) &&& 31)).toInt64)), .second, .val (.ref b1), .val (.ref b14), .val (.ref x0_33), .val (.long ((((p0 >>> ((6 : Int32) &&& 31)).toInt64) * ((p2 >>> ((6 : Int32) &&& 31)).toInt64)) - (((p1 >>> ((6 : Int32) &&& 31)).toInt64) * ((p3 >>> ((6 : Int32) &&& 31)).toInt64)))), .second, .val (.long ((((p0 >>> ((6 : Int32) &&& 31)).toInt64) * ((p3 >>> ((6 : Int32) &&& 31)).toInt64)) + (((p1 >>> ((6 : Int32) &&& 31)).toInt64) * ((p2 >>> ((6 : Int32) &&& 31)).toInt64)))), .second, .val (.int (1 : Int32)), .unset] [(.ref b1)])) rfl (by rw [hml]; rfl) (Steps.refl _) (argsL := []) (rest := []) (lenOf pd0_2 rfl) rfl (by show 2 * 0 + _ ≤ _; exact Nat.le_of_eq rfl) (hb hby at_138) (fun _ _ => ⟨rfl, e50, (by decide : 3 + 0 ≤ _), (by decide : 6 + 0 ≤ _)⟩)
  dsimp only [Pt.U, Pt.locs, Pt.cells, Pt.slots] at X52 l52 y52 z52 st52 hQ52
  subst l52 y52 z52
  obtain ⟨rfl, N52q, e52⟩ := hQ52
  have n53 := Fr.app n51 N52q
  refine own_tr (T' := T52) (g' := (mkF m 141 #[.val (.int p0), .val (.int p1), .val (.int p2), .val (.int p3), .val (.long ((p0 >>> ((6 : Int32) &&& 31)).toInt64)), .second, .val (.long ((p1 >>> ((6 : Int32) &&& 31)).toInt64)), .second, .val (.long ((p2 >>> ((6 : Int32) &&& 31)).toInt64)), .second, .val (.long ((p3 >>> ((6 : Int32) &&& 31)).toInt64)), .second, .val (.ref b1), .val (.ref b14), .val (.ref x0_33), .val (.long ((((p0 >>> ((6 : Int32) &&& 31)).toInt64) * ((p2 >>> ((6 : Int32) &&& 31)).toInt64)) - (((p1 >>> ((6 : Int32) &&& 31)).toInt64) * ((p3 >>> ((6 : Int32) &&& 31)).toInt64)))), .second, .val (.long ((((p0 >>> ((6 : Int32) &&& 31)).toInt64) * ((p3 >>> ((6 : Int32) &&& 31)).toInt64)) + (((p1 >>> ((6 : Int32) &&& 31)).toInt64) * ((p2 >>> ((6 : Int32) &&& 31)).toInt64)))), .second, .val (.int (1 : Int32)), .unset] [(.double (FP.l2d ((p1 >>> ((6 : Int32) &&& 31)).toInt64)))])) st52 ?_
  refine own_st (T' := T52) (g' := (mkF m 150 #[.val (.int p0), .val (.int p1), .val (.int p2), .val (.int p3), .val (.long ((p0 >>> ((6 : Int32) &&& 31)).toInt64)), .second, .val (.long ((p1 >>> ((6 : Int32) &&& 31)).toInt64)), .second, .val (.long ((p2 >>> ((6 : Int32) &&& 31)).toInt64)), .second, .val (.long ((p3 >>> ((6 : Int32) &&& 31)).toInt64)), .second, .val (.ref b1), .val (.ref b14), .val (.ref x0_33), .val (.long ((((p0 >>> ((6 : Int32) &&& 31)).toInt64) * ((p2 >>> ((6 : Int32) &&& 31)).toInt64)) - (((p1 >>> ((6 : Int32) &&& 31)).toInt64) * ((p3 >>> ((6 : Int32) &&& 31)).toInt64)))), .second, .val (.long ((((p0 >>> ((6 : Int32) &&& 31)).toInt64) * ((p3 >>> ((6 : Int32) &&& 31)).toInt64)) + (((p1 >>> ((6 : Int32) &&& 31)).toInt64) * ((p2 >>> ((6 : Int32) &&& 31)).toInt64)))), .second, .val (.int (1 : Int32)), .unset] [(.ref b14)])) (fun t k => ?_) ?_
  · show Steps p.tables e below (T52.setTop (mkF m 141 #[.val (.int p0), .val (.int p1), .val (.int p2), .val (.int p3), .val (.long ((p0 >>> ((6 : Int32) &&& 31)).toInt64)), .second, .val (.long ((p1 >>> ((6 : Int32) &&& 31)).toInt64)), .second, .val (.long ((p2 >>> ((6 : Int32) &&& 31)).toInt64)), .second, .val (.long ((p3 >>> ((6 : Int32) &&& 31)).toInt64)), .second, .val (.ref b1), .val (.ref b14), .val (.ref x0_33), .val (.long ((((p0 >>> ((6 : Int32) &&& 31)).toInt64) * ((p2 >>> ((6 : Int32) &&& 31)).toInt64)) - (((p1 >>> ((6 : Int32) &&& 31)).toInt64) * ((p3 >>> ((6 : Int32) &&& 31)).toInt64)))), .second, .val (.long ((((p0 >>> ((6 : Int32) &&& 31)).toInt64) * ((p3 >>> ((6 : Int32) &&& 31)).toInt64)) + (((p1 >>> ((6 : Int32) &&& 31)).toInt64) * ((p2 >>> ((6 : Int32) &&& 31)).toInt64)))), .second, .val (.int (1 : Int32)), .unset] [(.double (FP.l2d ((p1 >>> ((6 : Int32) &&& 31)).toInt64)))])) t
    refine XS.lload X52.here hx rfl (hb hby at_141) rfl ?_
    show Steps p.tables e below (T52.setTop (mkF m 143 #[.val (.int p0), .val (.int p1), .val (.int p2), .val (.int p3), .val (.long ((p0 >>> ((6 : Int32) &&& 31)).toInt64)), .second, .val (.long ((p1 >>> ((6 : Int32) &&& 31)).toInt64)), .second, .val (.long ((p2 >>> ((6 : Int32) &&& 31)).toInt64)), .second, .val (.long ((p3 >>> ((6 : Int32) &&& 31)).toInt64)), .second, .val (.ref b1), .val (.ref b14), .val (.ref x0_33), .val (.long ((((p0 >>> ((6 : Int32) &&& 31)).toInt64) * ((p2 >>> ((6 : Int32) &&& 31)).toInt64)) - (((p1 >>> ((6 : Int32) &&& 31)).toInt64) * ((p3 >>> ((6 : Int32) &&& 31)).toInt64)))), .second, .val (.long ((((p0 >>> ((6 : Int32) &&& 31)).toInt64) * ((p3 >>> ((6 : Int32) &&& 31)).toInt64)) + (((p1 >>> ((6 : Int32) &&& 31)).toInt64) * ((p2 >>> ((6 : Int32) &&& 31)).toInt64)))), .second, .val (.int (1 : Int32)), .unset] [(.long ((p1 >>> ((6 : Int32) &&& 31)).toInt64)), (.double (FP.l2d ((p1 >>> ((6 : Int32) &&& 31)).toInt64)))])) t
    refine XS.l2dS X52.here hx rfl (hb hby at_143) rfl rfl ?_
    show Steps p.tables e below (T52.setTop (mkF m 144 #[.val (.int p0), .val (.int p1), .val (.int p2), .val (.int p3), .val (.long ((p0 >>> ((6 : Int32) &&& 31)).toInt64)), .second, .val (.long ((p1 >>> ((6 : Int32) &&& 31)).toInt64)), .second, .val (.long ((p2 >>> ((6 : Int32) &&& 31)).toInt64)), .second, .val (.long ((p3 >>> ((6 : Int32) &&& 31)).toInt64)), .second, .val (.ref b1), .val (.ref b14), .val (.ref x0_33), .val (.long ((((p0 >>> ((6 : Int32) &&& 31)).toInt64) * ((p2 >>> ((6 : Int32) &&& 31)).toInt64)) - (((p1 >>> ((6 : Int32) &&& 31)).toInt64) * ((p3 >>> ((6 : Int32) &&& 31)).toInt64)))), .second, .val (.long ((((p0 >>> ((6 : Int32) &&& 31)).toInt64) * ((p3 >>> ((6 : Int32) &&& 31)).toInt64)) + (((p1 >>> ((6 : Int32) &&& 31)).toInt64) * ((p2 >>> ((6 : Int32) &&& 31)).toInt64)))), .second, .val (.int (1 : Int32)), .unset] [(.double (FP.l2d ((p1 >>> ((6 : Int32) &&& 31)).toInt64))), (.double (FP.l2d ((p1 >>> ((6 : Int32) &&& 31)).toInt64)))])) t
    refine XS.dcmpS X52.here hx rfl (hb hby at_144) rfl hq144 ?_
    show Steps p.tables e below (T52.setTop (mkF m 145 #[.val (.int p0), .val (.int p1), .val (.int p2), .val (.int p3), .val (.long ((p0 >>> ((6 : Int32) &&& 31)).toInt64)), .second, .val (.long ((p1 >>> ((6 : Int32) &&& 31)).toInt64)), .second, .val (.long ((p2 >>> ((6 : Int32) &&& 31)).toInt64)), .second, .val (.long ((p3 >>> ((6 : Int32) &&& 31)).toInt64)), .second, .val (.ref b1), .val (.ref b14), .val (.ref x0_33), .val (.long ((((p0 >>> ((6 : Int32) &&& 31)).toInt64) * ((p2 >>> ((6 : Int32) &&& 31)).toInt64)) - (((p1 >>> ((6 : Int32) &&& 31)).toInt64) * ((p3 >>> ((6 : Int32) &&& 31)).toInt64)))), .second, .val (.long ((((p0 >>> ((6 : Int32) &&& 31)).toInt64) * ((p3 >>> ((6 : Int32) &&& 31)).toInt64)) + (((p1 >>> ((6 : Int32) &&& 31)).toInt64) * ((p2 >>> ((6 : Int32) &&& 31)).toInt64)))), .second, .val (.int (1 : Int32)), .unset] [(.int (0 : Int32))])) t
    refine XS.ifNo X52.here hx rfl (hb hby at_145) rfl (by decide) ?_
    show Steps p.tables e below (T52.setTop (mkF m 148 #[.val (.int p0), .val (.int p1), .val (.int p2), .val (.int p3), .val (.long ((p0 >>> ((6 : Int32) &&& 31)).toInt64)), .second, .val (.long ((p1 >>> ((6 : Int32) &&& 31)).toInt64)), .second, .val (.long ((p2 >>> ((6 : Int32) &&& 31)).toInt64)), .second, .val (.long ((p3 >>> ((6 : Int32) &&& 31)).toInt64)), .second, .val (.ref b1), .val (.ref b14), .val (.ref x0_33), .val (.long ((((p0 >>> ((6 : Int32) &&& 31)).toInt64) * ((p2 >>> ((6 : Int32) &&& 31)).toInt64)) - (((p1 >>> ((6 : Int32) &&& 31)).toInt64) * ((p3 >>> ((6 : Int32) &&& 31)).toInt64)))), .second, .val (.long ((((p0 >>> ((6 : Int32) &&& 31)).toInt64) * ((p3 >>> ((6 : Int32) &&& 31)).toInt64)) + (((p1 >>> ((6 : Int32) &&& 31)).toInt64) * ((p2 >>> ((6 : Int32) &&& 31)).toInt64)))), .second, .val (.int (1 : Int32)), .unset] [])) t
    refine XS.aload X52.here hx rfl (hb hby at_148) rfl rfl ?_
    exact k
  obtain ⟨cq54, kq54, qa54, qb54, qc54⟩ := isOf hZ e52 f41
  obtain ⟨_, _, ⟨T54, L54, k54, n54⟩, -, X54, ⟨Lc54, hQ54, l54, y54, z54⟩, st54⟩ := X52.virtualBack hx (y := (⟨"com/example/feedpoint/feedpoint/core/Complex", "re", "()D"⟩ : MethodName)) (z := (⟨"com/example/feedpoint/feedpoint/core/Complex", "re", "()D"⟩ : MethodName)) hown (mvT hZ (hw _ (List.mem_of_getElem? (i := 25) rfl))) (mvT hZ (hw _ (List.mem_of_getElem? (i := 26) rfl))) (notFace_of_selects (args := #[]) (mvT hZ (hw _ (List.mem_of_getElem? (i := 28) rfl)))) (mvT hZ (hw _ (List.mem_of_getElem? (i := 28) rfl))) (mvT hZ (hw _ (List.mem_of_getElem? (i := 27) rfl))) (by decide) (backOf (W := 0) (rm5 l Z ar hw [] b14 ((FP.l2d ((p2 >>> ((6 : Int32) &&& 31)).toInt64))) T33.heap n0 z44 f42) hZ (hw _ (List.mem_of_getElem? (i := 29) rfl)) (hw _ (List.mem_of_getElem? (i := 2) rfl)) (by decide) (by decide)) qa54 qc54 (g := (mkF m 150 #[.val (.int p0), .val (.int p1), .val (.int p2), .val (.int p3), .val (.long ((p0 >>> ((6 : Int32) &&& 31)).toInt64)), .second, .val (.long ((p1 >>> ((6 : Int32) &&& 31)).toInt64)), .second, .val (.long ((p2 >>> ((6 : Int32) &&& 31)).toInt64)), .second, .val (.long ((p3 >>> ((6 : Int32) &&& 31)).toInt64)), .second, .val (.ref b1), .val (.ref b14), .val (.ref x0_33), .val (.long ((((p0 >>> ((6 : Int32) &&& 31)).toInt64) * ((p2 >>> ((6 : Int32) &&& 31)).toInt64)) - (((p1 >>> ((6 : Int32) &&& 31)).toInt64) * ((p3 >>> ((6 : Int32) &&& 31)).toInt64)))), .second, .val (.long ((((p0 >>> ((6 : Int32) &&& 31)).toInt64) * ((p3 >>> ((6 : Int32) &&& 31)).toInt64)) + (((p1 >>> ((6 : Int32) &&& 31)).toInt64) * ((p2 >>> ((6 : Int32) &&& 31)).toInt64)))), .second, .val (.int (1 : Int32)), .unset] [(.ref b14)])) rfl (by rw [hml]; rfl) (Steps.refl _) (argsL := []) (rest := []) (lenOf pd0_2 rfl) rfl (by show 2 * 0 + _ ≤ _; exact Nat.le_of_eq rfl) (hb hby at_150) (fun _ _ => ⟨rfl, e52, (by decide : 3 + 0 ≤ _), (by decide : 6 + 0 ≤ _)⟩)
  dsimp only [Pt.U, Pt.locs, Pt.cells, Pt.slots] at X54 l54 y54 z54 st54 hQ54
  subst l54 y54 z54
  obtain ⟨rfl, N54q, e54⟩ := hQ54
  have n55 := Fr.app n53 N54q
  refine own_tr (T' := T54) (g' := (mkF m 153 #[.val (.int p0), .val (.int p1), .val (.int p2), .val (.int p3), .val (.long ((p0 >>> ((6 : Int32) &&& 31)).toInt64)), .second, .val (.long ((p1 >>> ((6 : Int32) &&& 31)).toInt64)), .second, .val (.long ((p2 >>> ((6 : Int32) &&& 31)).toInt64)), .second, .val (.long ((p3 >>> ((6 : Int32) &&& 31)).toInt64)), .second, .val (.ref b1), .val (.ref b14), .val (.ref x0_33), .val (.long ((((p0 >>> ((6 : Int32) &&& 31)).toInt64) * ((p2 >>> ((6 : Int32) &&& 31)).toInt64)) - (((p1 >>> ((6 : Int32) &&& 31)).toInt64) * ((p3 >>> ((6 : Int32) &&& 31)).toInt64)))), .second, .val (.long ((((p0 >>> ((6 : Int32) &&& 31)).toInt64) * ((p3 >>> ((6 : Int32) &&& 31)).toInt64)) + (((p1 >>> ((6 : Int32) &&& 31)).toInt64) * ((p2 >>> ((6 : Int32) &&& 31)).toInt64)))), .second, .val (.int (1 : Int32)), .unset] [(.double (FP.l2d ((p2 >>> ((6 : Int32) &&& 31)).toInt64)))])) st54 ?_
  refine own_st (T' := T54) (g' := (mkF m 162 #[.val (.int p0), .val (.int p1), .val (.int p2), .val (.int p3), .val (.long ((p0 >>> ((6 : Int32) &&& 31)).toInt64)), .second, .val (.long ((p1 >>> ((6 : Int32) &&& 31)).toInt64)), .second, .val (.long ((p2 >>> ((6 : Int32) &&& 31)).toInt64)), .second, .val (.long ((p3 >>> ((6 : Int32) &&& 31)).toInt64)), .second, .val (.ref b1), .val (.ref b14), .val (.ref x0_33), .val (.long ((((p0 >>> ((6 : Int32) &&& 31)).toInt64) * ((p2 >>> ((6 : Int32) &&& 31)).toInt64)) - (((p1 >>> ((6 : Int32) &&& 31)).toInt64) * ((p3 >>> ((6 : Int32) &&& 31)).toInt64)))), .second, .val (.long ((((p0 >>> ((6 : Int32) &&& 31)).toInt64) * ((p3 >>> ((6 : Int32) &&& 31)).toInt64)) + (((p1 >>> ((6 : Int32) &&& 31)).toInt64) * ((p2 >>> ((6 : Int32) &&& 31)).toInt64)))), .second, .val (.int (1 : Int32)), .unset] [(.ref b14)])) (fun t k => ?_) ?_
  · show Steps p.tables e below (T54.setTop (mkF m 153 #[.val (.int p0), .val (.int p1), .val (.int p2), .val (.int p3), .val (.long ((p0 >>> ((6 : Int32) &&& 31)).toInt64)), .second, .val (.long ((p1 >>> ((6 : Int32) &&& 31)).toInt64)), .second, .val (.long ((p2 >>> ((6 : Int32) &&& 31)).toInt64)), .second, .val (.long ((p3 >>> ((6 : Int32) &&& 31)).toInt64)), .second, .val (.ref b1), .val (.ref b14), .val (.ref x0_33), .val (.long ((((p0 >>> ((6 : Int32) &&& 31)).toInt64) * ((p2 >>> ((6 : Int32) &&& 31)).toInt64)) - (((p1 >>> ((6 : Int32) &&& 31)).toInt64) * ((p3 >>> ((6 : Int32) &&& 31)).toInt64)))), .second, .val (.long ((((p0 >>> ((6 : Int32) &&& 31)).toInt64) * ((p3 >>> ((6 : Int32) &&& 31)).toInt64)) + (((p1 >>> ((6 : Int32) &&& 31)).toInt64) * ((p2 >>> ((6 : Int32) &&& 31)).toInt64)))), .second, .val (.int (1 : Int32)), .unset] [(.double (FP.l2d ((p2 >>> ((6 : Int32) &&& 31)).toInt64)))])) t
    refine XS.lload X54.here hx rfl (hb hby at_153) rfl ?_
    show Steps p.tables e below (T54.setTop (mkF m 155 #[.val (.int p0), .val (.int p1), .val (.int p2), .val (.int p3), .val (.long ((p0 >>> ((6 : Int32) &&& 31)).toInt64)), .second, .val (.long ((p1 >>> ((6 : Int32) &&& 31)).toInt64)), .second, .val (.long ((p2 >>> ((6 : Int32) &&& 31)).toInt64)), .second, .val (.long ((p3 >>> ((6 : Int32) &&& 31)).toInt64)), .second, .val (.ref b1), .val (.ref b14), .val (.ref x0_33), .val (.long ((((p0 >>> ((6 : Int32) &&& 31)).toInt64) * ((p2 >>> ((6 : Int32) &&& 31)).toInt64)) - (((p1 >>> ((6 : Int32) &&& 31)).toInt64) * ((p3 >>> ((6 : Int32) &&& 31)).toInt64)))), .second, .val (.long ((((p0 >>> ((6 : Int32) &&& 31)).toInt64) * ((p3 >>> ((6 : Int32) &&& 31)).toInt64)) + (((p1 >>> ((6 : Int32) &&& 31)).toInt64) * ((p2 >>> ((6 : Int32) &&& 31)).toInt64)))), .second, .val (.int (1 : Int32)), .unset] [(.long ((p2 >>> ((6 : Int32) &&& 31)).toInt64)), (.double (FP.l2d ((p2 >>> ((6 : Int32) &&& 31)).toInt64)))])) t
    refine XS.l2dS X54.here hx rfl (hb hby at_155) rfl rfl ?_
    show Steps p.tables e below (T54.setTop (mkF m 156 #[.val (.int p0), .val (.int p1), .val (.int p2), .val (.int p3), .val (.long ((p0 >>> ((6 : Int32) &&& 31)).toInt64)), .second, .val (.long ((p1 >>> ((6 : Int32) &&& 31)).toInt64)), .second, .val (.long ((p2 >>> ((6 : Int32) &&& 31)).toInt64)), .second, .val (.long ((p3 >>> ((6 : Int32) &&& 31)).toInt64)), .second, .val (.ref b1), .val (.ref b14), .val (.ref x0_33), .val (.long ((((p0 >>> ((6 : Int32) &&& 31)).toInt64) * ((p2 >>> ((6 : Int32) &&& 31)).toInt64)) - (((p1 >>> ((6 : Int32) &&& 31)).toInt64) * ((p3 >>> ((6 : Int32) &&& 31)).toInt64)))), .second, .val (.long ((((p0 >>> ((6 : Int32) &&& 31)).toInt64) * ((p3 >>> ((6 : Int32) &&& 31)).toInt64)) + (((p1 >>> ((6 : Int32) &&& 31)).toInt64) * ((p2 >>> ((6 : Int32) &&& 31)).toInt64)))), .second, .val (.int (1 : Int32)), .unset] [(.double (FP.l2d ((p2 >>> ((6 : Int32) &&& 31)).toInt64))), (.double (FP.l2d ((p2 >>> ((6 : Int32) &&& 31)).toInt64)))])) t
    refine XS.dcmpS X54.here hx rfl (hb hby at_156) rfl hq156 ?_
    show Steps p.tables e below (T54.setTop (mkF m 157 #[.val (.int p0), .val (.int p1), .val (.int p2), .val (.int p3), .val (.long ((p0 >>> ((6 : Int32) &&& 31)).toInt64)), .second, .val (.long ((p1 >>> ((6 : Int32) &&& 31)).toInt64)), .second, .val (.long ((p2 >>> ((6 : Int32) &&& 31)).toInt64)), .second, .val (.long ((p3 >>> ((6 : Int32) &&& 31)).toInt64)), .second, .val (.ref b1), .val (.ref b14), .val (.ref x0_33), .val (.long ((((p0 >>> ((6 : Int32) &&& 31)).toInt64) * ((p2 >>> ((6 : Int32) &&& 31)).toInt64)) - (((p1 >>> ((6 : Int32) &&& 31)).toInt64) * ((p3 >>> ((6 : Int32) &&& 31)).toInt64)))), .second, .val (.long ((((p0 >>> ((6 : Int32) &&& 31)).toInt64) * ((p3 >>> ((6 : Int32) &&& 31)).toInt64)) + (((p1 >>> ((6 : Int32) &&& 31)).toInt64) * ((p2 >>> ((6 : Int32) &&& 31)).toInt64)))), .second, .val (.int (1 : Int32)), .unset] [(.int (0 : Int32))])) t
    refine XS.ifNo X54.here hx rfl (hb hby at_157) rfl (by decide) ?_
    show Steps p.tables e below (T54.setTop (mkF m 160 #[.val (.int p0), .val (.int p1), .val (.int p2), .val (.int p3), .val (.long ((p0 >>> ((6 : Int32) &&& 31)).toInt64)), .second, .val (.long ((p1 >>> ((6 : Int32) &&& 31)).toInt64)), .second, .val (.long ((p2 >>> ((6 : Int32) &&& 31)).toInt64)), .second, .val (.long ((p3 >>> ((6 : Int32) &&& 31)).toInt64)), .second, .val (.ref b1), .val (.ref b14), .val (.ref x0_33), .val (.long ((((p0 >>> ((6 : Int32) &&& 31)).toInt64) * ((p2 >>> ((6 : Int32) &&& 31)).toInt64)) - (((p1 >>> ((6 : Int32) &&& 31)).toInt64) * ((p3 >>> ((6 : Int32) &&& 31)).toInt64)))), .second, .val (.long ((((p0 >>> ((6 : Int32) &&& 31)).toInt64) * ((p3 >>> ((6 : Int32) &&& 31)).toInt64)) + (((p1 >>> ((6 : Int32) &&& 31)).toInt64) * ((p2 >>> ((6 : Int32) &&& 31)).toInt64)))), .second, .val (.int (1 : Int32)), .unset] [])) t
    refine XS.aload X54.here hx rfl (hb hby at_160) rfl rfl ?_
    exact k
  obtain ⟨cq56, kq56, qa56, qb56, qc56⟩ := isOf hZ e54 f41
  obtain ⟨_, _, ⟨T56, L56, k56, n56⟩, -, X56, ⟨Lc56, hQ56, l56, y56, z56⟩, st56⟩ := X54.virtualBack hx (y := (⟨"com/example/feedpoint/feedpoint/core/Complex", "im", "()D"⟩ : MethodName)) (z := (⟨"com/example/feedpoint/feedpoint/core/Complex", "im", "()D"⟩ : MethodName)) hown (mvT hZ (hw _ (List.mem_of_getElem? (i := 30) rfl))) (mvT hZ (hw _ (List.mem_of_getElem? (i := 31) rfl))) (notFace_of_selects (args := #[]) (mvT hZ (hw _ (List.mem_of_getElem? (i := 33) rfl)))) (mvT hZ (hw _ (List.mem_of_getElem? (i := 33) rfl))) (mvT hZ (hw _ (List.mem_of_getElem? (i := 32) rfl))) (by decide) (backOf (W := 0) (rm6 l Z ar hw [] b14 ((FP.l2d ((p3 >>> ((6 : Int32) &&& 31)).toInt64))) T33.heap n0 z44 f43) hZ (hw _ (List.mem_of_getElem? (i := 34) rfl)) (hw _ (List.mem_of_getElem? (i := 2) rfl)) (by decide) (by decide)) qa56 qc56 (g := (mkF m 162 #[.val (.int p0), .val (.int p1), .val (.int p2), .val (.int p3), .val (.long ((p0 >>> ((6 : Int32) &&& 31)).toInt64)), .second, .val (.long ((p1 >>> ((6 : Int32) &&& 31)).toInt64)), .second, .val (.long ((p2 >>> ((6 : Int32) &&& 31)).toInt64)), .second, .val (.long ((p3 >>> ((6 : Int32) &&& 31)).toInt64)), .second, .val (.ref b1), .val (.ref b14), .val (.ref x0_33), .val (.long ((((p0 >>> ((6 : Int32) &&& 31)).toInt64) * ((p2 >>> ((6 : Int32) &&& 31)).toInt64)) - (((p1 >>> ((6 : Int32) &&& 31)).toInt64) * ((p3 >>> ((6 : Int32) &&& 31)).toInt64)))), .second, .val (.long ((((p0 >>> ((6 : Int32) &&& 31)).toInt64) * ((p3 >>> ((6 : Int32) &&& 31)).toInt64)) + (((p1 >>> ((6 : Int32) &&& 31)).toInt64) * ((p2 >>> ((6 : Int32) &&& 31)).toInt64)))), .second, .val (.int (1 : Int32)), .unset] [(.ref b14)])) rfl (by rw [hml]; rfl) (Steps.refl _) (argsL := []) (rest := []) (lenOf pd0_2 rfl) rfl (by show 2 * 0 + _ ≤ _; exact Nat.le_of_eq rfl) (hb hby at_162) (fun _ _ => ⟨rfl, e54, (by decide : 3 + 0 ≤ _), (by decide : 6 + 0 ≤ _)⟩)
  dsimp only [Pt.U, Pt.locs, Pt.cells, Pt.slots] at X56 l56 y56 z56 st56 hQ56
  subst l56 y56 z56
  obtain ⟨rfl, N56q, e56⟩ := hQ56
  have n57 := Fr.app n55 N56q
  refine own_tr (T' := T56) (g' := (mkF m 165 #[.val (.int p0), .val (.int p1), .val (.int p2), .val (.int p3), .val (.long ((p0 >>> ((6 : Int32) &&& 31)).toInt64)), .second, .val (.long ((p1 >>> ((6 : Int32) &&& 31)).toInt64)), .second, .val (.long ((p2 >>> ((6 : Int32) &&& 31)).toInt64)), .second, .val (.long ((p3 >>> ((6 : Int32) &&& 31)).toInt64)), .second, .val (.ref b1), .val (.ref b14), .val (.ref x0_33), .val (.long ((((p0 >>> ((6 : Int32) &&& 31)).toInt64) * ((p2 >>> ((6 : Int32) &&& 31)).toInt64)) - (((p1 >>> ((6 : Int32) &&& 31)).toInt64) * ((p3 >>> ((6 : Int32) &&& 31)).toInt64)))), .second, .val (.long ((((p0 >>> ((6 : Int32) &&& 31)).toInt64) * ((p3 >>> ((6 : Int32) &&& 31)).toInt64)) + (((p1 >>> ((6 : Int32) &&& 31)).toInt64) * ((p2 >>> ((6 : Int32) &&& 31)).toInt64)))), .second, .val (.int (1 : Int32)), .unset] [(.double (FP.l2d ((p3 >>> ((6 : Int32) &&& 31)).toInt64)))])) st56 ?_
  refine own_st (T' := T56) (g' := (mkF m 194 #[.val (.int p0), .val (.int p1), .val (.int p2), .val (.int p3), .val (.long ((p0 >>> ((6 : Int32) &&& 31)).toInt64)), .second, .val (.long ((p1 >>> ((6 : Int32) &&& 31)).toInt64)), .second, .val (.long ((p2 >>> ((6 : Int32) &&& 31)).toInt64)), .second, .val (.long ((p3 >>> ((6 : Int32) &&& 31)).toInt64)), .second, .val (.ref b1), .val (.ref b14), .val (.ref x0_33), .val (.long ((((p0 >>> ((6 : Int32) &&& 31)).toInt64) * ((p2 >>> ((6 : Int32) &&& 31)).toInt64)) - (((p1 >>> ((6 : Int32) &&& 31)).toInt64) * ((p3 >>> ((6 : Int32) &&& 31)).toInt64)))), .second, .val (.long ((((p0 >>> ((6 : Int32) &&& 31)).toInt64) * ((p3 >>> ((6 : Int32) &&& 31)).toInt64)) + (((p1 >>> ((6 : Int32) &&& 31)).toInt64) * ((p2 >>> ((6 : Int32) &&& 31)).toInt64)))), .second, .val (.int (1 : Int32)), .val (.int (1 : Int32))] [(.int (1 : Int32))])) (fun t k => ?_) ?_
  · show Steps p.tables e below (T56.setTop (mkF m 165 #[.val (.int p0), .val (.int p1), .val (.int p2), .val (.int p3), .val (.long ((p0 >>> ((6 : Int32) &&& 31)).toInt64)), .second, .val (.long ((p1 >>> ((6 : Int32) &&& 31)).toInt64)), .second, .val (.long ((p2 >>> ((6 : Int32) &&& 31)).toInt64)), .second, .val (.long ((p3 >>> ((6 : Int32) &&& 31)).toInt64)), .second, .val (.ref b1), .val (.ref b14), .val (.ref x0_33), .val (.long ((((p0 >>> ((6 : Int32) &&& 31)).toInt64) * ((p2 >>> ((6 : Int32) &&& 31)).toInt64)) - (((p1 >>> ((6 : Int32) &&& 31)).toInt64) * ((p3 >>> ((6 : Int32) &&& 31)).toInt64)))), .second, .val (.long ((((p0 >>> ((6 : Int32) &&& 31)).toInt64) * ((p3 >>> ((6 : Int32) &&& 31)).toInt64)) + (((p1 >>> ((6 : Int32) &&& 31)).toInt64) * ((p2 >>> ((6 : Int32) &&& 31)).toInt64)))), .second, .val (.int (1 : Int32)), .unset] [(.double (FP.l2d ((p3 >>> ((6 : Int32) &&& 31)).toInt64)))])) t
    refine XS.lload X56.here hx rfl (hb hby at_165) rfl ?_
    show Steps p.tables e below (T56.setTop (mkF m 167 #[.val (.int p0), .val (.int p1), .val (.int p2), .val (.int p3), .val (.long ((p0 >>> ((6 : Int32) &&& 31)).toInt64)), .second, .val (.long ((p1 >>> ((6 : Int32) &&& 31)).toInt64)), .second, .val (.long ((p2 >>> ((6 : Int32) &&& 31)).toInt64)), .second, .val (.long ((p3 >>> ((6 : Int32) &&& 31)).toInt64)), .second, .val (.ref b1), .val (.ref b14), .val (.ref x0_33), .val (.long ((((p0 >>> ((6 : Int32) &&& 31)).toInt64) * ((p2 >>> ((6 : Int32) &&& 31)).toInt64)) - (((p1 >>> ((6 : Int32) &&& 31)).toInt64) * ((p3 >>> ((6 : Int32) &&& 31)).toInt64)))), .second, .val (.long ((((p0 >>> ((6 : Int32) &&& 31)).toInt64) * ((p3 >>> ((6 : Int32) &&& 31)).toInt64)) + (((p1 >>> ((6 : Int32) &&& 31)).toInt64) * ((p2 >>> ((6 : Int32) &&& 31)).toInt64)))), .second, .val (.int (1 : Int32)), .unset] [(.long ((p3 >>> ((6 : Int32) &&& 31)).toInt64)), (.double (FP.l2d ((p3 >>> ((6 : Int32) &&& 31)).toInt64)))])) t
    refine XS.l2dS X56.here hx rfl (hb hby at_167) rfl rfl ?_
    show Steps p.tables e below (T56.setTop (mkF m 168 #[.val (.int p0), .val (.int p1), .val (.int p2), .val (.int p3), .val (.long ((p0 >>> ((6 : Int32) &&& 31)).toInt64)), .second, .val (.long ((p1 >>> ((6 : Int32) &&& 31)).toInt64)), .second, .val (.long ((p2 >>> ((6 : Int32) &&& 31)).toInt64)), .second, .val (.long ((p3 >>> ((6 : Int32) &&& 31)).toInt64)), .second, .val (.ref b1), .val (.ref b14), .val (.ref x0_33), .val (.long ((((p0 >>> ((6 : Int32) &&& 31)).toInt64) * ((p2 >>> ((6 : Int32) &&& 31)).toInt64)) - (((p1 >>> ((6 : Int32) &&& 31)).toInt64) * ((p3 >>> ((6 : Int32) &&& 31)).toInt64)))), .second, .val (.long ((((p0 >>> ((6 : Int32) &&& 31)).toInt64) * ((p3 >>> ((6 : Int32) &&& 31)).toInt64)) + (((p1 >>> ((6 : Int32) &&& 31)).toInt64) * ((p2 >>> ((6 : Int32) &&& 31)).toInt64)))), .second, .val (.int (1 : Int32)), .unset] [(.double (FP.l2d ((p3 >>> ((6 : Int32) &&& 31)).toInt64))), (.double (FP.l2d ((p3 >>> ((6 : Int32) &&& 31)).toInt64)))])) t
    refine XS.dcmpS X56.here hx rfl (hb hby at_168) rfl hq168 ?_
    show Steps p.tables e below (T56.setTop (mkF m 169 #[.val (.int p0), .val (.int p1), .val (.int p2), .val (.int p3), .val (.long ((p0 >>> ((6 : Int32) &&& 31)).toInt64)), .second, .val (.long ((p1 >>> ((6 : Int32) &&& 31)).toInt64)), .second, .val (.long ((p2 >>> ((6 : Int32) &&& 31)).toInt64)), .second, .val (.long ((p3 >>> ((6 : Int32) &&& 31)).toInt64)), .second, .val (.ref b1), .val (.ref b14), .val (.ref x0_33), .val (.long ((((p0 >>> ((6 : Int32) &&& 31)).toInt64) * ((p2 >>> ((6 : Int32) &&& 31)).toInt64)) - (((p1 >>> ((6 : Int32) &&& 31)).toInt64) * ((p3 >>> ((6 : Int32) &&& 31)).toInt64)))), .second, .val (.long ((((p0 >>> ((6 : Int32) &&& 31)).toInt64) * ((p3 >>> ((6 : Int32) &&& 31)).toInt64)) + (((p1 >>> ((6 : Int32) &&& 31)).toInt64) * ((p2 >>> ((6 : Int32) &&& 31)).toInt64)))), .second, .val (.int (1 : Int32)), .unset] [(.int (0 : Int32))])) t
    refine XS.ifNo X56.here hx rfl (hb hby at_169) rfl (by decide) ?_
    show Steps p.tables e below (T56.setTop (mkF m 172 #[.val (.int p0), .val (.int p1), .val (.int p2), .val (.int p3), .val (.long ((p0 >>> ((6 : Int32) &&& 31)).toInt64)), .second, .val (.long ((p1 >>> ((6 : Int32) &&& 31)).toInt64)), .second, .val (.long ((p2 >>> ((6 : Int32) &&& 31)).toInt64)), .second, .val (.long ((p3 >>> ((6 : Int32) &&& 31)).toInt64)), .second, .val (.ref b1), .val (.ref b14), .val (.ref x0_33), .val (.long ((((p0 >>> ((6 : Int32) &&& 31)).toInt64) * ((p2 >>> ((6 : Int32) &&& 31)).toInt64)) - (((p1 >>> ((6 : Int32) &&& 31)).toInt64) * ((p3 >>> ((6 : Int32) &&& 31)).toInt64)))), .second, .val (.long ((((p0 >>> ((6 : Int32) &&& 31)).toInt64) * ((p3 >>> ((6 : Int32) &&& 31)).toInt64)) + (((p1 >>> ((6 : Int32) &&& 31)).toInt64) * ((p2 >>> ((6 : Int32) &&& 31)).toInt64)))), .second, .val (.int (1 : Int32)), .unset] [])) t
    refine XS.iconst X56.here hx rfl (hb hby at_172) ?_
    show Steps p.tables e below (T56.setTop (mkF m 173 #[.val (.int p0), .val (.int p1), .val (.int p2), .val (.int p3), .val (.long ((p0 >>> ((6 : Int32) &&& 31)).toInt64)), .second, .val (.long ((p1 >>> ((6 : Int32) &&& 31)).toInt64)), .second, .val (.long ((p2 >>> ((6 : Int32) &&& 31)).toInt64)), .second, .val (.long ((p3 >>> ((6 : Int32) &&& 31)).toInt64)), .second, .val (.ref b1), .val (.ref b14), .val (.ref x0_33), .val (.long ((((p0 >>> ((6 : Int32) &&& 31)).toInt64) * ((p2 >>> ((6 : Int32) &&& 31)).toInt64)) - (((p1 >>> ((6 : Int32) &&& 31)).toInt64) * ((p3 >>> ((6 : Int32) &&& 31)).toInt64)))), .second, .val (.long ((((p0 >>> ((6 : Int32) &&& 31)).toInt64) * ((p3 >>> ((6 : Int32) &&& 31)).toInt64)) + (((p1 >>> ((6 : Int32) &&& 31)).toInt64) * ((p2 >>> ((6 : Int32) &&& 31)).toInt64)))), .second, .val (.int (1 : Int32)), .unset] [(.int (1 : Int32))])) t
    refine XS.goto X56.here hx rfl (pc0 := 173) (pc' := 177) rfl (hb hby at_173) (by decide) (by decide) ?_
    show Steps p.tables e below (T56.setTop (mkF m 177 #[.val (.int p0), .val (.int p1), .val (.int p2), .val (.int p3), .val (.long ((p0 >>> ((6 : Int32) &&& 31)).toInt64)), .second, .val (.long ((p1 >>> ((6 : Int32) &&& 31)).toInt64)), .second, .val (.long ((p2 >>> ((6 : Int32) &&& 31)).toInt64)), .second, .val (.long ((p3 >>> ((6 : Int32) &&& 31)).toInt64)), .second, .val (.ref b1), .val (.ref b14), .val (.ref x0_33), .val (.long ((((p0 >>> ((6 : Int32) &&& 31)).toInt64) * ((p2 >>> ((6 : Int32) &&& 31)).toInt64)) - (((p1 >>> ((6 : Int32) &&& 31)).toInt64) * ((p3 >>> ((6 : Int32) &&& 31)).toInt64)))), .second, .val (.long ((((p0 >>> ((6 : Int32) &&& 31)).toInt64) * ((p3 >>> ((6 : Int32) &&& 31)).toInt64)) + (((p1 >>> ((6 : Int32) &&& 31)).toInt64) * ((p2 >>> ((6 : Int32) &&& 31)).toInt64)))), .second, .val (.int (1 : Int32)), .unset] [(.int (1 : Int32))])) t
    refine XS.istore X56.here hx rfl (hb hby at_177) rfl (l' := #[.val (.int p0), .val (.int p1), .val (.int p2), .val (.int p3), .val (.long ((p0 >>> ((6 : Int32) &&& 31)).toInt64)), .second, .val (.long ((p1 >>> ((6 : Int32) &&& 31)).toInt64)), .second, .val (.long ((p2 >>> ((6 : Int32) &&& 31)).toInt64)), .second, .val (.long ((p3 >>> ((6 : Int32) &&& 31)).toInt64)), .second, .val (.ref b1), .val (.ref b14), .val (.ref x0_33), .val (.long ((((p0 >>> ((6 : Int32) &&& 31)).toInt64) * ((p2 >>> ((6 : Int32) &&& 31)).toInt64)) - (((p1 >>> ((6 : Int32) &&& 31)).toInt64) * ((p3 >>> ((6 : Int32) &&& 31)).toInt64)))), .second, .val (.long ((((p0 >>> ((6 : Int32) &&& 31)).toInt64) * ((p3 >>> ((6 : Int32) &&& 31)).toInt64)) + (((p1 >>> ((6 : Int32) &&& 31)).toInt64) * ((p2 >>> ((6 : Int32) &&& 31)).toInt64)))), .second, .val (.int (1 : Int32)), .val (.int (1 : Int32))]) rfl ?_
    show Steps p.tables e below (T56.setTop (mkF m 179 #[.val (.int p0), .val (.int p1), .val (.int p2), .val (.int p3), .val (.long ((p0 >>> ((6 : Int32) &&& 31)).toInt64)), .second, .val (.long ((p1 >>> ((6 : Int32) &&& 31)).toInt64)), .second, .val (.long ((p2 >>> ((6 : Int32) &&& 31)).toInt64)), .second, .val (.long ((p3 >>> ((6 : Int32) &&& 31)).toInt64)), .second, .val (.ref b1), .val (.ref b14), .val (.ref x0_33), .val (.long ((((p0 >>> ((6 : Int32) &&& 31)).toInt64) * ((p2 >>> ((6 : Int32) &&& 31)).toInt64)) - (((p1 >>> ((6 : Int32) &&& 31)).toInt64) * ((p3 >>> ((6 : Int32) &&& 31)).toInt64)))), .second, .val (.long ((((p0 >>> ((6 : Int32) &&& 31)).toInt64) * ((p3 >>> ((6 : Int32) &&& 31)).toInt64)) + (((p1 >>> ((6 : Int32) &&& 31)).toInt64) * ((p2 >>> ((6 : Int32) &&& 31)).toInt64)))), .second, .val (.int (1 : Int32)), .val (.int (1 : Int32))] [])) t
    refine XS.iload X56.here hx rfl (hb hby at_179) rfl ?_
    show Steps p.tables e below (T56.setTop (mkF m 181 #[.val (.int p0), .val (.int p1), .val (.int p2), .val (.int p3), .val (.long ((p0 >>> ((6 : Int32) &&& 31)).toInt64)), .second, .val (.long ((p1 >>> ((6 : Int32) &&& 31)).toInt64)), .second, .val (.long ((p2 >>> ((6 : Int32) &&& 31)).toInt64)), .second, .val (.long ((p3 >>> ((6 : Int32) &&& 31)).toInt64)), .second, .val (.ref b1), .val (.ref b14), .val (.ref x0_33), .val (.long ((((p0 >>> ((6 : Int32) &&& 31)).toInt64) * ((p2 >>> ((6 : Int32) &&& 31)).toInt64)) - (((p1 >>> ((6 : Int32) &&& 31)).toInt64) * ((p3 >>> ((6 : Int32) &&& 31)).toInt64)))), .second, .val (.long ((((p0 >>> ((6 : Int32) &&& 31)).toInt64) * ((p3 >>> ((6 : Int32) &&& 31)).toInt64)) + (((p1 >>> ((6 : Int32) &&& 31)).toInt64) * ((p2 >>> ((6 : Int32) &&& 31)).toInt64)))), .second, .val (.int (1 : Int32)), .val (.int (1 : Int32))] [(.int (1 : Int32))])) t
    refine XS.ifNo X56.here hx rfl (hb hby at_181) rfl (by decide) ?_
    show Steps p.tables e below (T56.setTop (mkF m 184 #[.val (.int p0), .val (.int p1), .val (.int p2), .val (.int p3), .val (.long ((p0 >>> ((6 : Int32) &&& 31)).toInt64)), .second, .val (.long ((p1 >>> ((6 : Int32) &&& 31)).toInt64)), .second, .val (.long ((p2 >>> ((6 : Int32) &&& 31)).toInt64)), .second, .val (.long ((p3 >>> ((6 : Int32) &&& 31)).toInt64)), .second, .val (.ref b1), .val (.ref b14), .val (.ref x0_33), .val (.long ((((p0 >>> ((6 : Int32) &&& 31)).toInt64) * ((p2 >>> ((6 : Int32) &&& 31)).toInt64)) - (((p1 >>> ((6 : Int32) &&& 31)).toInt64) * ((p3 >>> ((6 : Int32) &&& 31)).toInt64)))), .second, .val (.long ((((p0 >>> ((6 : Int32) &&& 31)).toInt64) * ((p3 >>> ((6 : Int32) &&& 31)).toInt64)) + (((p1 >>> ((6 : Int32) &&& 31)).toInt64) * ((p2 >>> ((6 : Int32) &&& 31)).toInt64)))), .second, .val (.int (1 : Int32)), .val (.int (1 : Int32))] [])) t
    refine XS.iload X56.here hx rfl (hb hby at_184) rfl ?_
    show Steps p.tables e below (T56.setTop (mkF m 186 #[.val (.int p0), .val (.int p1), .val (.int p2), .val (.int p3), .val (.long ((p0 >>> ((6 : Int32) &&& 31)).toInt64)), .second, .val (.long ((p1 >>> ((6 : Int32) &&& 31)).toInt64)), .second, .val (.long ((p2 >>> ((6 : Int32) &&& 31)).toInt64)), .second, .val (.long ((p3 >>> ((6 : Int32) &&& 31)).toInt64)), .second, .val (.ref b1), .val (.ref b14), .val (.ref x0_33), .val (.long ((((p0 >>> ((6 : Int32) &&& 31)).toInt64) * ((p2 >>> ((6 : Int32) &&& 31)).toInt64)) - (((p1 >>> ((6 : Int32) &&& 31)).toInt64) * ((p3 >>> ((6 : Int32) &&& 31)).toInt64)))), .second, .val (.long ((((p0 >>> ((6 : Int32) &&& 31)).toInt64) * ((p3 >>> ((6 : Int32) &&& 31)).toInt64)) + (((p1 >>> ((6 : Int32) &&& 31)).toInt64) * ((p2 >>> ((6 : Int32) &&& 31)).toInt64)))), .second, .val (.int (1 : Int32)), .val (.int (1 : Int32))] [(.int (1 : Int32))])) t
    refine XS.ifNo X56.here hx rfl (hb hby at_186) rfl (by decide) ?_
    show Steps p.tables e below (T56.setTop (mkF m 189 #[.val (.int p0), .val (.int p1), .val (.int p2), .val (.int p3), .val (.long ((p0 >>> ((6 : Int32) &&& 31)).toInt64)), .second, .val (.long ((p1 >>> ((6 : Int32) &&& 31)).toInt64)), .second, .val (.long ((p2 >>> ((6 : Int32) &&& 31)).toInt64)), .second, .val (.long ((p3 >>> ((6 : Int32) &&& 31)).toInt64)), .second, .val (.ref b1), .val (.ref b14), .val (.ref x0_33), .val (.long ((((p0 >>> ((6 : Int32) &&& 31)).toInt64) * ((p2 >>> ((6 : Int32) &&& 31)).toInt64)) - (((p1 >>> ((6 : Int32) &&& 31)).toInt64) * ((p3 >>> ((6 : Int32) &&& 31)).toInt64)))), .second, .val (.long ((((p0 >>> ((6 : Int32) &&& 31)).toInt64) * ((p3 >>> ((6 : Int32) &&& 31)).toInt64)) + (((p1 >>> ((6 : Int32) &&& 31)).toInt64) * ((p2 >>> ((6 : Int32) &&& 31)).toInt64)))), .second, .val (.int (1 : Int32)), .val (.int (1 : Int32))] [])) t
    refine XS.iconst X56.here hx rfl (hb hby at_189) ?_
    show Steps p.tables e below (T56.setTop (mkF m 190 #[.val (.int p0), .val (.int p1), .val (.int p2), .val (.int p3), .val (.long ((p0 >>> ((6 : Int32) &&& 31)).toInt64)), .second, .val (.long ((p1 >>> ((6 : Int32) &&& 31)).toInt64)), .second, .val (.long ((p2 >>> ((6 : Int32) &&& 31)).toInt64)), .second, .val (.long ((p3 >>> ((6 : Int32) &&& 31)).toInt64)), .second, .val (.ref b1), .val (.ref b14), .val (.ref x0_33), .val (.long ((((p0 >>> ((6 : Int32) &&& 31)).toInt64) * ((p2 >>> ((6 : Int32) &&& 31)).toInt64)) - (((p1 >>> ((6 : Int32) &&& 31)).toInt64) * ((p3 >>> ((6 : Int32) &&& 31)).toInt64)))), .second, .val (.long ((((p0 >>> ((6 : Int32) &&& 31)).toInt64) * ((p3 >>> ((6 : Int32) &&& 31)).toInt64)) + (((p1 >>> ((6 : Int32) &&& 31)).toInt64) * ((p2 >>> ((6 : Int32) &&& 31)).toInt64)))), .second, .val (.int (1 : Int32)), .val (.int (1 : Int32))] [(.int (1 : Int32))])) t
    refine XS.goto X56.here hx rfl (pc0 := 190) (pc' := 194) rfl (hb hby at_190) (by decide) (by decide) ?_
    exact k
  refine own_retZ X56 hx hlk Bd.returns (hb hby at_194) rfl (by decide) (by decide) ?_
  show Q0 Z p0 p1 p2 p3 h0 n0 (some (.int (1 : Int32))) T56.heap _
  exact ⟨rfl, n57⟩
set_option maxRecDepth 65536 in
set_option maxHeartbeats 40000000 in
theorem comes_1 {Post : Tables → Env → Array Value → State → Outcome → State → Prop} (hpost : ∀ tb e args s v u, (limb_1_1.after args s (.returned v) u = true ∧ limb_1_2.after args s (.returned v) u = true ∧ True) → FrameEnd s (.returned v) u (Jvm.fieldLocs frame_1_writes args s ++ Jvm.arrayLocs frame_1_arrays args s ++ Jvm.staticLocs frame_1_statics s) 16 128 → Post tb e args s (.returned v) u) :
    ArmFor flags0 classFile x code maxLocals ret World_1 tables_1 room_1 Calls_1 rest_1 Pre_1 Post := by
  intro l hfl _ _ p e ha hc hk s m args below hf hA hF happ hP
  obtain ⟨hcalls, hrest, hpre⟩ := hP
  obtain ⟨-, -, -, hnamed, -, -, -, hat⟩ := (Spec.applies_iff hf).mp happ
  obtain ⟨hg, hn⟩ := and_e (Cond.before_iff.mp (show (Jvm.Cond.and given_1 narrow_1).before args s = true from hpre))
  obtain ⟨g0, gg0⟩ := and_e hg
  obtain ⟨g1, gg1⟩ := and_e gg0
  obtain ⟨g2, gg2⟩ := and_e gg1
  obtain ⟨g3, gg3⟩ := and_e gg2
  obtain ⟨w0, w1, w2, w3, rfl⟩ : ∃ w0 w1 w2 w3 : Value, args = #[w0, w1, w2, w3] := by
    have hs : args.size = 4 := by simpa [Cond.value, given_1] using g0
    obtain ⟨L⟩ := args
    match L, hs with
    | [w0, w1, w2, w3], _ => exact ⟨w0, w1, w2, w3, rfl⟩
  have hw := fun d (hd : d ∈ tables_1) => atoms_spec (ws := Jvm.Cond.code x code maxLocals ret :: tables_1) hat d (List.mem_cons_of_mem _ hd)
  have hfit : Fit s := fun {y c} hc i hi => by
    obtain ⟨ha, rfl⟩ := Array.getElem?_eq_some_iff.mp hc
    have q := List.all_eq_true.mp ((Array.all_eq_true_iff_forall_mem.mp hF) _ (Array.getElem_mem ha)) i (List.mem_range.mpr hi)
    simpa [Array.getElem?_eq_getElem hi] using q
  obtain ⟨p0, ei0⟩ := is_v g1
  obtain rfl : w0 = (.int p0) := Option.some.inj ei0
  obtain ⟨p1, ei1⟩ := is_v g2
  obtain rfl : w1 = (.int p1) := Option.some.inj ei1
  obtain ⟨p2, ei2⟩ := is_v g3
  obtain rfl : w2 = (.int p2) := Option.some.inj ei2
  obtain ⟨p3, ei3⟩ := is_v gg3
  obtain rfl : w3 = (.int p3) := Option.some.inj ei3
  obtain ⟨n, o, h1, h2, h3, _, L, rfl, ⟨rfl, N⟩, hq⟩ := rm0 l s _ hw tables_1 p0 p1 p2 p3 s.heap s.heap.size (Nat.le_refl _) ((own_re p0 p1 p2 p3).eq (own_lre p0 p1 p2 p3) rfl .l) ((own_im p0 p1 p2 p3).eq (own_lim p0 p1 p2 p3) rfl .l) (own_same p0) (own_same p1) (own_same p2) (own_same p3) p e ha hc hk s m _ below hf ((Spec.applies_iff_loose hf).mp happ).1 ⟨rfl, State.Warmed39.refl s, rfl⟩ trivial
  refine ⟨n, _, h1, h2, h3, hpost _ _ _ _ _ _ ⟨Cond.after_iff.mpr rfl, Cond.after_iff.mpr (eq_i res_at (Term.int_eval (1)) rfl), trivial⟩ ⟨hq.1, hq.2.1, (hq.2.2.sift fun y hy => Or.inr (N y hy)).mono (by decide) (by decide)⟩⟩
theorem main_1_1 : Claimed_1_1 := comes_1 fun _ _ _ _ _ _ h hF => ⟨h.1, hF⟩
theorem main_1_2 : Claimed_1_2 := comes_1 fun _ _ _ _ _ _ h hF => ⟨h.2.1, hF⟩
end Jvm.Pilot.@@N@@
namespace Jvm.Pilot.@@N@@
open Jvm Jvm.ClassFile Sem Op Lib Jvm.Free Jvm.Stand Jvm.Pilot.@@N@@.Jvm.D
/-! MADE BY PROGRAM (witnessworld.py) out of the Statement's table words and the real class files: 10 classes; the members and pool entries that the words name. The judged class is class 1, her method 1. -/
namespace start1
open Jvm.ClassFile
def u (s : String) : CpInfo := .utf8 (stringToUtf16 s)
/-- a pool by its gaps: so many unusable entries, then the entry; so many at the end -/
def gap : Nat → List CpInfo → List CpInfo
  | 0, r => r
  | n + 1, r => .unusable :: gap n r
def poolList (es : List (Nat × CpInfo)) (last : Nat) : List CpInfo := es.foldr (fun e r => gap e.1 (e.2 :: r)) (gap last [])
def pool (es : List (Nat × CpInfo)) (last : Nat) : Array CpInfo := ⟨poolList es last⟩
def fileOf (pool : Array CpInfo) (this : Nat) (attrs : Array Attribute := #[]) (ms : Array MethodInfo := #[]) (fl : Nat := 33) (sup : Nat := 0) (ifs : Array Nat := #[]) (fds : Array FieldInfo := #[]) : ClassFile where
  minorVersion := 0
  majorVersion := 65
  constantPool := pool
  accessFlags := fl
  thisClass := this
  superClass := sup
  interfaces := ifs
  fields := fds
  methods := ms
  attributes := attrs
def plain (name : String) (sup : Option ClassId) : Class where
  name := name
  kind := .ordinary
  loader := none
  accessFlags := 33
  super := sup
  interfaces := #[]
  cf := none
  fields := #[]
  methods := #[]
  instanceTypes := #[]
  staticTypes := #[]
  resolved := #[]
  callSites := []
  init := .initialized
  statics := none
  mirror := none

def pool0 : Array CpInfo := pool [(5, u "<init>"), (0, u "()V"), (1, .class_ 10), (1, u "java/lang/Object")] 113

def k0c0 : Code := { maxStack := 0, maxLocals := 1, code := object_method_1_code, exceptionTable := #[], attributes := #[] }
def k0m0 : Method := { name := "<init>", desc := "()V", sig := { parameters := [], returnType := none }, accessFlags := 1, code := some k0c0 }
/-- java/lang/Object -/
def k0 : Class := { plain "java/lang/Object" none with
  accessFlags := 33
  interfaces := #[]
  cf := some (fileOf pool0 8 #[] #[{ accessFlags := 1, nameIndex := 5, descriptorIndex := 6, attributes := #[] }] 33 0 #[] #[])
  fields := #[]
  methods := #[k0m0]
  instanceTypes := #[]
  staticTypes := #[]
  resolved := Array.replicate 124 none
  statics := none }

def pool1 : Array CpInfo := pool [(2, .class_ 4), (1, u "java/lang/Object"), (0, u "<init>"), (0, u "()V"), (0, .class_ 8), (0, u "com/example/feedpoint/feedpoint/core/Complex"), (0, .methodref 7 10), (0, .nameAndType 5 11), (0, u "(DD)V"), (0, .methodref 7 13), (0, .nameAndType 14 15), (0, u "times"), (0, u "(Lcom/example/feedpoint/feedpoint/core/Complex;)Lcom/example/feedpoint/feedpoint/core/Complex;"), (0, .methodref 7 17), (0, .nameAndType 18 19), (0, u "re"), (0, u "()D"), (0, .methodref 7 21), (0, .nameAndType 22 19), (0, u "im"), (0, .class_ 24), (0, u "com/example/feedpoint/feedpoint/core/ComplexTimesPinLaw"), (2, u "law"), (0, u "(IIII)Z")] 3

def k1m0 : Method := { name := "<init>", desc := "()V", sig := { parameters := [], returnType := none }, accessFlags := 1, code := none }
def k1c1 : Code := { maxStack := 6, maxLocals := 21, code := code, exceptionTable := #[], attributes := #[] }
def k1m1 : Method := { name := "law", desc := "(IIII)Z", sig := { parameters := [.int, .int, .int, .int], returnType := some .boolean }, accessFlags := 9, code := some k1c1 }
/-- com/example/feedpoint/feedpoint/core/ComplexTimesPinLaw -/
def k1 : Class := { plain "com/example/feedpoint/feedpoint/core/ComplexTimesPinLaw" (some 0) with
  accessFlags := 49
  interfaces := #[]
  cf := some (fileOf pool1 23 #[] #[{ accessFlags := 1, nameIndex := 5, descriptorIndex := 6, attributes := #[] }, { accessFlags := 9, nameIndex := 27, descriptorIndex := 28, attributes := #[] }] 49 2 #[] #[])
  fields := #[]
  methods := #[k1m0, k1m1]
  instanceTypes := #[]
  staticTypes := #[]
  resolved := Array.replicate 32 none
  statics := none }

def pool2 : Array CpInfo := pool [(1, .methodref 2 3), (0, .class_ 4), (0, .nameAndType 5 6), (0, u "java/lang/Object"), (0, u "<init>"), (0, u "()V"), (0, .class_ 8), (0, u "java/lang/Record")] 13

def k2c0 : Code := { maxStack := 1, maxLocals := 1, code := jdk_30_method_1_code, exceptionTable := #[], attributes := #[] }
def k2m0 : Method := { name := "<init>", desc := "()V", sig := { parameters := [], returnType := none }, accessFlags := 4, code := some k2c0 }
/-- java/lang/Record -/
def k2 : Class := { plain "java/lang/Record" (some 0) with
  accessFlags := 1057
  interfaces := #[]
  cf := some (fileOf pool2 7 #[] #[{ accessFlags := 4, nameIndex := 5, descriptorIndex := 6, attributes := #[] }] 1057 2 #[] #[])
  fields := #[]
  methods := #[k2m0]
  instanceTypes := #[]
  staticTypes := #[]
  resolved := Array.replicate 22 none
  statics := none }

def pool3 : Array CpInfo := pool [(1, .methodref 2 3), (0, .class_ 4), (0, .nameAndType 5 6), (0, u "java/lang/Record"), (0, u "<init>"), (0, u "()V"), (0, .fieldref 8 9), (0, .class_ 10), (0, .nameAndType 11 12), (0, u "com/example/feedpoint/feedpoint/core/Complex"), (0, u "re"), (0, u "D"), (0, .fieldref 8 14), (0, .nameAndType 15 12), (0, u "im"), (12, .methodref 8 29), (0, .nameAndType 5 30), (0, u "(DD)V"), (19, u "()D"), (16, u "times"), (25, u "(Lcom/example/feedpoint/feedpoint/core/Complex;)Lcom/example/feedpoint/feedpoint/core/Complex;")] 29

def k3c0 : Code := { maxStack := 3, maxLocals := 5, code := prog_3_method_1_code, exceptionTable := #[], attributes := #[] }
def k3m0 : Method := { name := "<init>", desc := "(DD)V", sig := { parameters := [.double, .double], returnType := none }, accessFlags := 1, code := some k3c0 }
def k3c1 : Code := { maxStack := 10, maxLocals := 2, code := prog_3_method_5_code, exceptionTable := #[], attributes := #[] }
def k3m1 : Method := { name := "times", desc := "(Lcom/example/feedpoint/feedpoint/core/Complex;)Lcom/example/feedpoint/feedpoint/core/Complex;", sig := { parameters := [(.object "com/example/feedpoint/feedpoint/core/Complex")], returnType := some (.object "com/example/feedpoint/feedpoint/core/Complex") }, accessFlags := 1, code := some k3c1 }
def k3c2 : Code := { maxStack := 2, maxLocals := 1, code := prog_3_method_18_code, exceptionTable := #[], attributes := #[] }
def k3m2 : Method := { name := "re", desc := "()D", sig := { parameters := [], returnType := some .double }, accessFlags := 1, code := some k3c2 }
def k3c3 : Code := { maxStack := 2, maxLocals := 1, code := prog_3_method_19_code, exceptionTable := #[], attributes := #[] }
def k3m3 : Method := { name := "im", desc := "()D", sig := { parameters := [], returnType := some .double }, accessFlags := 1, code := some k3c3 }
/-- com/example/feedpoint/feedpoint/core/Complex -/
def k3 : Class := { plain "com/example/feedpoint/feedpoint/core/Complex" (some 2) with
  accessFlags := 49
  interfaces := #[]
  cf := some (fileOf pool3 8 #[] #[{ accessFlags := 1, nameIndex := 5, descriptorIndex := 30, attributes := #[] }, { accessFlags := 1, nameIndex := 67, descriptorIndex := 93, attributes := #[] }, { accessFlags := 1, nameIndex := 11, descriptorIndex := 50, attributes := #[] }, { accessFlags := 1, nameIndex := 15, descriptorIndex := 50, attributes := #[] }] 49 2 #[] #[{ accessFlags := 18, nameIndex := 11, descriptorIndex := 12, attributes := #[] }, { accessFlags := 18, nameIndex := 15, descriptorIndex := 12, attributes := #[] }])
  fields := #[{ name := "re", type := .double, accessFlags := 18, slot := 0, constantValue := 0 }, { name := "im", type := .double, accessFlags := 18, slot := 1, constantValue := 0 }]
  methods := #[k3m0, k3m1, k3m2, k3m3]
  instanceTypes := #[.double, .double]
  staticTypes := #[]
  resolved := Array.replicate 123 none
  statics := none }

def pool4 : Array CpInfo := pool [(1, u "java/lang/Cloneable"), (0, .class_ 1), (0, u "java/lang/Object"), (0, .class_ 3)] 3

/-- java/lang/Cloneable -/
def k4 : Class := { plain "java/lang/Cloneable" (some 0) with
  accessFlags := 1537
  interfaces := #[]
  cf := some (fileOf pool4 2 #[] #[] 1537 4 #[] #[])
  fields := #[]
  methods := #[]
  instanceTypes := #[]
  staticTypes := #[]
  resolved := Array.replicate 8 none
  statics := none }

def pool5 : Array CpInfo := pool [(1, u "java/io/Serializable"), (0, .class_ 1), (0, u "java/lang/Object"), (0, .class_ 3)] 3

/-- java/io/Serializable -/
def k5 : Class := { plain "java/io/Serializable" (some 0) with
  accessFlags := 1537
  interfaces := #[]
  cf := some (fileOf pool5 2 #[] #[] 1537 4 #[] #[])
  fields := #[]
  methods := #[]
  instanceTypes := #[]
  staticTypes := #[]
  resolved := Array.replicate 8 none
  statics := none }

/-- the primitive byte -/
def k6 : Class := { plain "byte" none with kind := .primitive 'B', accessFlags := 0x411 }
/-- [B -/
def k7 : Class := { plain "[B" (some 0) with kind := .array 6 .byte, interfaces := #[4, 5], accessFlags := 1041 }

/-- the primitive int -/
def k8 : Class := { plain "int" none with kind := .primitive 'I', accessFlags := 0x411 }
/-- [I -/
def k9 : Class := { plain "[I" (some 0) with kind := .array 8 .int, interfaces := #[4, 5], accessFlags := 1041 }

def heap : Heap := #[]
def classes : Array Class := #[k0, k1, k2, k3, k4, k5, k6, k7, k8, k9]
def interned : List (Array UInt16 × Addr) := []
def slotsUsed : Nat := 0
def theMethod : MethodId := ⟨1, 1⟩
def args0 : Array Value := #[.int 500, .int (-300), .int 7000, .int 20]
def aboutOver (below : List Frame) : State where
  vm := { classes := classes, interned := interned.toArray }
  heap := heap
  slotsUsed := slotsUsed
  threads := #[{ frames := .invoking theMethod args0 :: below }]
def below0 : List Frame := [.native { method := ⟨0, 0⟩, args := #[] }]
def about1 : State := aboutOver below0
def p0 : Program := .bare "" "" ""
def e0 : Env := launch0.env 0 0 0
theorem w_frames : about1.frames = Frame.invoking theMethod args0 :: below0 := rfl
set_option maxRecDepth 65536 in
theorem w_args : argsFit about1.vm theMethod args0 = true := by decide +kernel
set_option maxRecDepth 65536 in
theorem w_heap : heapFits about1 = true := by decide +kernel
set_option maxRecDepth 65536 in
theorem w_runnable : about1.curStatus? = some .runnable := by decide +kernel
set_option maxRecDepth 65536 in
theorem w_alone : about1.alone = true := by decide +kernel
set_option maxRecDepth 65536 in
theorem w_named : about1.methodNamed? x = some theMethod := by decide +kernel
set_option maxRecDepth 65536 in
theorem w_hears : about1.hears theMethod below0 = true := by decide +kernel
set_option maxRecDepth 65536 in
theorem w_ripe : about1.ripe theMethod args0 below0 = true := by decide +kernel
theorem w_running : about1.status = .running := rfl
set_option maxRecDepth 65536 in
theorem w_room : about1.hasRoom e0.platform room_1 = true :=
  launch0.hasRoom_least _ room_1 (by decide +kernel) (by decide +kernel) (by decide +kernel) (by decide +kernel) (by decide +kernel) (by decide +kernel)
theorem allAtoms_all (ts : List Jvm.Cond) (a : Array Jvm.Value) (st : Jvm.State) : (allAtoms ts).before a st = ts.all (fun c => c.before a st) := by
  induction ts with
  | nil => rfl
  | cons c t ih =>
    show (Jvm.Cond.and c (allAtoms t)).before a st = _
    rw [Jvm.Cond.before_and, ih, List.all_cons]
def words1 : List Jvm.Cond := Jvm.Cond.code x code maxLocals ret :: tables_1
/-- a 'code' word, met by the world's own term for the bytes: nothing is compared byte by byte -/
theorem code_word {y : MethodName} {bytes : ByteArray} {mx : Nat} {rt : Option FieldType} {a : Array Value} {s : State} {m : MethodId} {meth : Method} {c : Code} (h1 : s.methodNamed? y = some m) (h2 : s.vm.method? m = some meth) (h3 : meth.code = some c) (h4 : c.code = bytes)
    (h5 : (c.maxLocals == mx && c.exceptionTable.isEmpty && decide (c.maxStack ≤ mostOperands) && decide (meth.sig.returnType = rt) && !meth.locks && decide (parseMethodDescriptor y.desc = some meth.sig)) = true) : (Jvm.Cond.code y bytes mx rt).before a s = true := by
  simp only [Bool.and_eq_true, beq_iff_eq, Bool.not_eq_true', decide_eq_true_eq] at h5
  obtain ⟨⟨⟨⟨⟨g1, g2⟩, g3⟩, g4⟩, g5⟩, g6⟩ := h5
  simp [Cond.before, Cond.holds, Cond.value, h1, h2, h3, h4, g1, g2, g3, g4, g5, g6]
def isCode : Jvm.Cond → Bool
  | .code _ _ _ _ => true
  | _ => false
theorem all_split {L : List Jvm.Cond} {P : Jvm.Cond → Bool} (h1 : L.all (fun c => isCode c || P c) = true) (h2 : ∀ c ∈ L.filter isCode, P c = true) : L.all P = true := by
  refine List.all_eq_true.mpr fun c hc => ?_
  have h := List.all_eq_true.mp h1 c hc
  rcases Bool.eq_false_or_eq_true (isCode c) with hi | hi
  · exact h2 c (List.mem_filter.mpr ⟨hc, hi⟩)
  · simpa [hi] using h
set_option maxRecDepth 65536 in
theorem w_c0 : (Jvm.Cond.code x code maxLocals ret).before args0 about1 = true := code_word (m := ⟨1, 1⟩) (meth := k1m1) (c := k1c1) (by decide +kernel) rfl rfl rfl (by decide +kernel)
set_option maxRecDepth 65536 in
theorem w_c1 : (Jvm.Cond.code ({ cls := "com/example/feedpoint/feedpoint/core/Complex", name := "<init>", desc := "(DD)V" } : Jvm.MethodName) prog_3_method_1_code (5 : Nat) (Option.none : Option Jvm.ClassFile.FieldType)).before args0 about1 = true := code_word (m := ⟨3, 0⟩) (meth := k3m0) (c := k3c0) (by decide +kernel) rfl rfl rfl (by decide +kernel)
set_option maxRecDepth 65536 in
theorem w_c2 : (Jvm.Cond.code ({ cls := "java/lang/Record", name := "<init>", desc := "()V" } : Jvm.MethodName) jdk_30_method_1_code (1 : Nat) (Option.none : Option Jvm.ClassFile.FieldType)).before args0 about1 = true := code_word (m := ⟨2, 0⟩) (meth := k2m0) (c := k2c0) (by decide +kernel) rfl rfl rfl (by decide +kernel)
set_option maxRecDepth 65536 in
theorem w_c3 : (Jvm.Cond.code ({ cls := "java/lang/Object", name := "<init>", desc := "()V" } : Jvm.MethodName) object_method_1_code (1 : Nat) (Option.none : Option Jvm.ClassFile.FieldType)).before args0 about1 = true := code_word (m := ⟨0, 0⟩) (meth := k0m0) (c := k0c0) (by decide +kernel) rfl rfl rfl (by decide +kernel)
set_option maxRecDepth 65536 in
theorem w_c4 : (Jvm.Cond.code ({ cls := "com/example/feedpoint/feedpoint/core/Complex", name := "times", desc := "(Lcom/example/feedpoint/feedpoint/core/Complex;)Lcom/example/feedpoint/feedpoint/core/Complex;" } : Jvm.MethodName) prog_3_method_5_code (2 : Nat) (Option.some (Jvm.ClassFile.FieldType.object "com/example/feedpoint/feedpoint/core/Complex"))).before args0 about1 = true := code_word (m := ⟨3, 1⟩) (meth := k3m1) (c := k3c1) (by decide +kernel) rfl rfl rfl (by decide +kernel)
set_option maxRecDepth 65536 in
theorem w_c5 : (Jvm.Cond.code ({ cls := "com/example/feedpoint/feedpoint/core/Complex", name := "re", desc := "()D" } : Jvm.MethodName) prog_3_method_18_code (1 : Nat) (Option.some Jvm.ClassFile.FieldType.double)).before args0 about1 = true := code_word (m := ⟨3, 2⟩) (meth := k3m2) (c := k3c2) (by decide +kernel) rfl rfl rfl (by decide +kernel)
set_option maxRecDepth 65536 in
theorem w_c6 : (Jvm.Cond.code ({ cls := "com/example/feedpoint/feedpoint/core/Complex", name := "im", desc := "()D" } : Jvm.MethodName) prog_3_method_19_code (1 : Nat) (Option.some Jvm.ClassFile.FieldType.double)).before args0 about1 = true := code_word (m := ⟨3, 3⟩) (meth := k3m3) (c := k3c3) (by decide +kernel) rfl rfl rfl (by decide +kernel)
def codes1 : List Jvm.Cond := [Jvm.Cond.code x code maxLocals ret, Jvm.Cond.code ({ cls := "com/example/feedpoint/feedpoint/core/Complex", name := "<init>", desc := "(DD)V" } : Jvm.MethodName) prog_3_method_1_code (5 : Nat) (Option.none : Option Jvm.ClassFile.FieldType), Jvm.Cond.code ({ cls := "java/lang/Record", name := "<init>", desc := "()V" } : Jvm.MethodName) jdk_30_method_1_code (1 : Nat) (Option.none : Option Jvm.ClassFile.FieldType), Jvm.Cond.code ({ cls := "java/lang/Object", name := "<init>", desc := "()V" } : Jvm.MethodName) object_method_1_code (1 : Nat) (Option.none : Option Jvm.ClassFile.FieldType), Jvm.Cond.code ({ cls := "com/example/feedpoint/feedpoint/core/Complex", name := "times", desc := "(Lcom/example/feedpoint/feedpoint/core/Complex;)Lcom/example/feedpoint/feedpoint/core/Complex;" } : Jvm.MethodName) prog_3_method_5_code (2 : Nat) (Option.some (Jvm.ClassFile.FieldType.object "com/example/feedpoint/feedpoint/core/Complex")), Jvm.Cond.code ({ cls := "com/example/feedpoint/feedpoint/core/Complex", name := "re", desc := "()D" } : Jvm.MethodName) prog_3_method_18_code (1 : Nat) (Option.some Jvm.ClassFile.FieldType.double), Jvm.Cond.code ({ cls := "com/example/feedpoint/feedpoint/core/Complex", name := "im", desc := "()D" } : Jvm.MethodName) prog_3_method_19_code (1 : Nat) (Option.some Jvm.ClassFile.FieldType.double)]
set_option maxRecDepth 65536 in
theorem codes_eq : words1.filter isCode = codes1 := rfl
theorem w_codes : ∀ c ∈ words1.filter isCode, c.before args0 about1 = true := by
  rw [codes_eq]
  intro c hc
  simp only [codes1, List.mem_cons, List.not_mem_nil, or_false] at hc
  rcases hc with rfl | rfl | rfl | rfl | rfl | rfl | rfl
  · exact w_c0
  · exact w_c1
  · exact w_c2
  · exact w_c3
  · exact w_c4
  · exact w_c5
  · exact w_c6
set_option maxRecDepth 65536 in
theorem w_t1 : (words1.take 24).all (fun c => isCode c || c.before args0 about1) = true := by decide +kernel
set_option maxRecDepth 65536 in
theorem w_t2 : (words1.drop 24).all (fun c => isCode c || c.before args0 about1) = true := by decide +kernel
theorem w_tables : (allAtoms (Jvm.Cond.code x code maxLocals ret :: tables_1)).before args0 about1 = true := by
  rw [allAtoms_all]
  show words1.all (fun c => c.before args0 about1) = true
  refine all_split ?_ w_codes
  rw [← List.take_append_drop 24 words1, List.all_append, w_t1, w_t2]
  rfl
set_option maxRecDepth 65536 in
theorem w_case : (Jvm.Cond.and given_1 narrow_1).before args0 about1 = true := by decide +kernel
theorem w_applies : (headSpec (Jvm.Cond.code x code maxLocals ret :: tables_1) room_1).applies x e0.platform about1 = true :=
  (Spec.applies_iff w_frames).mpr ⟨w_running, w_runnable, w_alone, w_named, w_hears, w_ripe, w_room, w_tables⟩
theorem atStart : AtStart classFile x code maxLocals ret World_1 tables_1 room_1 Calls_1 rest_1 Pre_1 launch0 p0 e0 about1 theMethod args0 below0 :=
  ⟨lists_1, trivial, launch0.admits_env _ _ _, launch0.least_env, fairChoices_fair.cas, fairChoices_fair.clock, w_frames, w_args, w_heap, w_applies, trivial, trivial, w_case⟩
end start1
theorem witness_1 : WitnessClaimed_1 := ⟨start1.p0, start1.e0, start1.about1, start1.theMethod, start1.args0, start1.below0, start1.atStart⟩
end Jvm.Pilot.@@N@@
