import JvmDerived
import JvmDerived.Pilot.@@N@@Statement
import JvmDerived.Pilot.@@N@@Code
set_option linter.unusedVariables false
set_option linter.unusedSimpArgs false
namespace Jvm.Pilot.@@N@@
open Jvm Jvm.ClassFile Sem Op Lib Jvm.Free Jvm.Stand Jvm.LawKit Jvm.RoadKit Bundle Jvm.Pilot.@@N@@.Jvm.D
section OwnWalk
variable {p : Program} {l : Launch} {e : Env} {R : Room} {s : State} {m : MethodId} {args : Array Value} {below : List Frame} {meth : Method} {c : Code} {T T' : State} {locs : List Loc} {cells slots kc ks : Nat} {g g' : JFrame} {Q : Option Value → Heap → List Loc → Prop}
/-- from here the run comes to its end, and the end is as Q says -/
def own_G (p : Program) (e : Env) (below : List Frame) (s : State) (Q : Option Value → Heap → List Loc → Prop) (kc ks : Nat) (T : State) (g : JFrame) : Prop :=
  ∃ s₂ o, Steps p.tables e below (T.setTop g) s₂ ∧ s₂.status = .running ∧ Ended s₂ below o ∧ ∃ v L, o = .returned v ∧ Q v s₂.heap L ∧ FrameEnd s o s₂ L kc ks
theorem own_enter (q : g = g') (k : own_G p e below s Q kc ks T g') : own_G p e below s Q kc ks T g := q ▸ k
theorem own_st (st : ∀ t, Steps p.tables e below (T'.setTop g') t → Steps p.tables e below (T.setTop g) t) (k : own_G p e below s Q kc ks T' g') : own_G p e below s Q kc ks T g := by
  obtain ⟨s₂, o, h1, h2⟩ := k
  exact ⟨s₂, o, st _ h1, h2⟩
theorem own_tr (st : Steps p.tables e below (T.setTop g) (T'.setTop g')) (k : own_G p e below s Q kc ks T' g') : own_G p e below s Q kc ks T g := own_st (fun _ h => st.trans h) k
theorem own_ret (X : Stand p l e R s m args below meth c T locs cells slots) (hx : p.tables.exec = Jvm.exec) (hlk : meth.locks = false) {pc : Nat} {Ls : Array Slot} {w : Value} {t : FieldType} {i : Instr} {rest : List Value} (hret : meth.sig.returnType = some t) (hn : narrow t w = w)
    (hi : (i = .ireturn ∧ (t = .int ∨ t = .boolean ∨ t = .byte ∨ t = .char ∨ t = .short) ∧ ∃ z, w = .int z) ∨ (i = .lreturn ∧ t = .long ∧ ∃ z, w = .long z) ∨ (i = .dreturn ∧ t = .double ∧ ∃ z, w = .double z) ∨ (i = .freturn ∧ t = .float ∧ ∃ z, w = .float z) ∨ (i = .areturn ∧ t.isReference = true ∧ w.isRef = true))
    (hd : decode c.code pc = .ok (i, 1)) (hc : cells ≤ kc) (hs : slots ≤ ks) (hQ : Q (some w) T.heap locs) : own_G p e below s Q kc ks T (mkF m pc Ls (w :: rest)) := by
  obtain ⟨fs, hr, hrun, hended, hW, hsame⟩ := X.leave (v := some w) (fun h => by rw [hret] at h; cases h) hlk
  exact ⟨_, _, retOut X hx hret hn hi hd hr, hrun, hended, _, _, rfl, hQ, ⟨_, rfl⟩, hW, hsame.mono hc hs⟩
theorem own_retI (X : Stand p l e R s m args below meth c T locs cells slots) (hx : p.tables.exec = Jvm.exec) (hlk : meth.locks = false) {pc : Nat} {Ls : Array Slot} {z : Int32} {rest : List Value} (hret : meth.sig.returnType = some .int)
    (hd : decode c.code pc = .ok (.ireturn, 1)) (hc : cells ≤ kc) (hs : slots ≤ ks) (hQ : Q (some (.int z)) T.heap locs) : own_G p e below s Q kc ks T (mkF m pc Ls (.int z :: rest)) :=
  own_ret X hx hlk hret rfl (Or.inl ⟨rfl, Or.inl rfl, z, rfl⟩) hd hc hs hQ
theorem own_retZ (X : Stand p l e R s m args below meth c T locs cells slots) (hx : p.tables.exec = Jvm.exec) (hlk : meth.locks = false) {pc : Nat} {Ls : Array Slot} {z : Int32} {rest : List Value} (hret : meth.sig.returnType = some .boolean)
    (hd : decode c.code pc = .ok (.ireturn, 1)) (hn : narrow .boolean (.int z) = .int z) (hc : cells ≤ kc) (hs : slots ≤ ks) (hQ : Q (some (.int z)) T.heap locs) : own_G p e below s Q kc ks T (mkF m pc Ls (.int z :: rest)) :=
  own_ret X hx hlk hret hn (Or.inl ⟨rfl, Or.inr (Or.inl rfl), z, rfl⟩) hd hc hs hQ
theorem own_retJ (X : Stand p l e R s m args below meth c T locs cells slots) (hx : p.tables.exec = Jvm.exec) (hlk : meth.locks = false) {pc : Nat} {Ls : Array Slot} {z : Int64} {rest : List Value} (hret : meth.sig.returnType = some .long)
    (hd : decode c.code pc = .ok (.lreturn, 1)) (hc : cells ≤ kc) (hs : slots ≤ ks) (hQ : Q (some (.long z)) T.heap locs) : own_G p e below s Q kc ks T (mkF m pc Ls (.long z :: rest)) :=
  own_ret X hx hlk hret rfl (Or.inr (Or.inl ⟨rfl, rfl, z, rfl⟩)) hd hc hs hQ
theorem own_retD (X : Stand p l e R s m args below meth c T locs cells slots) (hx : p.tables.exec = Jvm.exec) (hlk : meth.locks = false) {pc : Nat} {Ls : Array Slot} {z : UInt64} {rest : List Value} (hret : meth.sig.returnType = some .double)
    (hd : decode c.code pc = .ok (.dreturn, 1)) (hc : cells ≤ kc) (hs : slots ≤ ks) (hQ : Q (some (.double z)) T.heap locs) : own_G p e below s Q kc ks T (mkF m pc Ls (.double z :: rest)) :=
  own_ret X hx hlk hret rfl (Or.inr (Or.inr (Or.inl ⟨rfl, rfl, z, rfl⟩))) hd hc hs hQ
theorem own_retA (X : Stand p l e R s m args below meth c T locs cells slots) (hx : p.tables.exec = Jvm.exec) (hlk : meth.locks = false) {pc : Nat} {Ls : Array Slot} {w : Value} {t : FieldType} {rest : List Value} (hret : meth.sig.returnType = some t) (ht : t.isReference = true) (hw : w.isRef = true)
    (hd : decode c.code pc = .ok (.areturn, 1)) (hc : cells ≤ kc) (hs : slots ≤ ks) (hQ : Q (some w) T.heap locs) : own_G p e below s Q kc ks T (mkF m pc Ls (w :: rest)) :=
  own_ret X hx hlk hret (by cases t <;> first | (cases ht; done) | (cases w <;> first | (cases hw; done) | rfl)) (Or.inr (Or.inr (Or.inr (Or.inr ⟨rfl, ht, hw⟩)))) hd hc hs hQ
theorem own_retV (X : Stand p l e R s m args below meth c T locs cells slots) (hx : p.tables.exec = Jvm.exec) (hlk : meth.locks = false) {pc : Nat} {Ls : Array Slot} (hret : meth.sig.returnType = none)
    (hd : decode c.code pc = .ok (.return_, 1)) (hc : cells ≤ kc) (hs : slots ≤ ks) (hQ : Q none T.heap locs) : own_G p e below s Q kc ks T (mkF m pc Ls []) := by
  obtain ⟨fs, hr, hrun, hended, hW, hsame⟩ := X.leave (v := none) (fun _ => rfl) hlk
  exact ⟨_, _, X.returnOut hx hret hd hr, hrun, hended, _, _, rfl, hQ, ⟨_, rfl⟩, hW, hsame.mono hc hs⟩
end OwnWalk
section OwnFloat
/-! ## Doubles as fractions: x is n / 2^k, exactly -/
def own_Dy (x : UInt64) (n : Int) (k : Nat) : Prop :=
  (∃ s c q, FP.Core.val64 x = .fin s c q) ∧ k ≤ 1074 ∧ FP.Core.zval FP.Core.b64 (FP.Core.val64 x) = n * ((2 ^ (1074 - k) : Nat) : Int)
theorem own_qmax : FP.Core.b64.qmax = 971 := by decide
theorem own_p : FP.Core.b64.p = 53 := by decide
theorem own_signed_abs (n : Int) : FP.Core.signed (decide (n < 0)) n.natAbs = n := by
  unfold FP.Core.signed; by_cases h : n < 0 <;> simp [h] <;> omega
/-- every n / 2^k with |n| < 2^53 is a double's value -/
theorem own_fitV {n : Int} {k : Nat} (hk : k ≤ 1074) (hn : n.natAbs < 9007199254740992) :
    ∃ V, FP.Core.fits FP.Core.b64 V ∧ (∃ s c q, V = .fin s c q) ∧ FP.Core.zval FP.Core.b64 V = n * ((2 ^ (1074 - k) : Nat) : Int) := by
  obtain ⟨c', q', h1, h2⟩ := FP.Core.round_exact FP.Core.good_b64 (decide (n < 0)) (c := n.natAbs) (q := -(k : Int)) (by rw [own_p]; exact hn) (by rw [FP.Core.qmin_b64]; omega) (by rw [own_qmax]; omega)
  refine ⟨_, FP.Core.round_fits FP.Core.good_b64 (.fin (decide (n < 0)) n.natAbs (-(k : Int))), ⟨_, _, _, h1⟩, ?_⟩
  rw [h1]
  show FP.Core.signed (decide (n < 0)) (FP.Core.inUnits c' q' FP.Core.b64.qmin) = _
  rw [h2]
  unfold FP.Core.inUnits
  rw [FP.Core.qmin_b64, show (-(k : Int) - -1074).toNat = 1074 - k by omega, FP.Core.signed_mul, own_signed_abs]
/-- what is worth n / 2^k rounds to that -/
theorem own_round {s : Bool} {c : Nat} {q e0 n : Int} {k : Nat} (hk : k ≤ 1074) (hn : n.natAbs < 9007199254740992) (h0 : e0 ≤ -1074) (h1 : e0 ≤ q)
    (h : FP.Core.signed s (FP.Core.inUnits c q e0) = n * ((2 ^ (1074 - k) : Nat) : Int) * ((2 ^ (-1074 - e0).toNat : Nat) : Int)) :
    (∃ s' c' q', FP.Core.round FP.Core.b64 (.fin s c q) = .fin s' c' q') ∧ FP.Core.zval FP.Core.b64 (FP.Core.round FP.Core.b64 (.fin s c q)) = n * ((2 ^ (1074 - k) : Nat) : Int) := by
  obtain ⟨V, v1, ⟨vs, vc, vq, v2⟩, v3⟩ := own_fitV hk hn
  have hne : V ≠ .nan := by rw [v2]; exact FP.Core.Datum.noConfusion
  have hq := FP.Core.qmin_b64
  have le := FP.Core.zval_round_le FP.Core.good_b64 (s := s) (c := c) (q := q) (e0 := e0) v1 hne (by rw [hq]; exact h0) h1 (by rw [hq, v3, h]; exact Int.le_refl _)
  have ge := FP.Core.zval_round_ge FP.Core.good_b64 (s := s) (c := c) (q := q) (e0 := e0) v1 hne (by rw [hq]; exact h0) h1 (by rw [hq, v3, h]; exact Int.le_refl _)
  have e : FP.Core.zval FP.Core.b64 (FP.Core.round FP.Core.b64 (.fin s c q)) = FP.Core.zval FP.Core.b64 V := Int.le_antisymm le ge
  refine ⟨?_, e.trans v3⟩
  rcases FP.Core.roundRatio_cases FP.Core.b64 s c 1 q with ⟨c', q', h'⟩ | h'
  · exact ⟨_, _, _, h'⟩
  · exfalso
    have e' : FP.Core.zval FP.Core.b64 (FP.Core.roundRatio FP.Core.b64 s c 1 q) = FP.Core.zval FP.Core.b64 V := e
    rw [h', v2] at e'
    rw [v2] at v1
    have hlt := FP.Core.zmag_lt_top FP.Core.good_b64 v1
    have e2 : FP.Core.signed s (FP.Core.b64.tails * 2 ^ (FP.Core.b64.exps - 2)) = FP.Core.signed vs (FP.Core.inUnits vc vq FP.Core.b64.qmin) := e'
    clear e'
    generalize FP.Core.inUnits vc vq FP.Core.b64.qmin = a at e2 hlt
    generalize FP.Core.b64.tails * 2 ^ (FP.Core.b64.exps - 2) = b at e2 hlt
    cases s <;> cases vs <;> simp only [FP.Core.signed, if_true, Bool.false_eq_true, if_false] at e2 <;> omega
theorem own_Dy.fin {x : UInt64} {n : Int} {k : Nat} (h : own_Dy x n k) : Fl.Fin64 x := by
  obtain ⟨⟨s, c, q, h1⟩, -⟩ := h
  exact Fl.fin64_core.mpr ⟨s, c, q, h1⟩
theorem own_Dy.nn {x : UInt64} {n : Int} {k : Nat} (h : own_Dy x n k) : Fl.NoNaN64 x := h.fin.noNaN
theorem own_Dy.ne {x : UInt64} {n : Int} {k : Nat} (h : own_Dy x n k) : FP.Core.val64 x ≠ .nan := by
  obtain ⟨⟨s, c, q, h1⟩, -⟩ := h; rw [h1]; exact FP.Core.Datum.noConfusion
theorem own_pow {j k : Nat} (h : j + k ≤ 1074) : ((2 ^ (1074 - j) : Nat) : Int) = ((2 ^ k : Nat) : Int) * ((2 ^ (1074 - (j + k)) : Nat) : Int) := by
  rw [← Int.natCast_mul, ← Nat.pow_add]; congr 2; omega
/-- the same number, with a greater denominator -/
theorem own_Dy.up {x : UInt64} {n : Int} {k : Nat} (h : own_Dy x n k) (j : Nat) (hj : k + j ≤ 1074) : own_Dy x (n * ((2 ^ j : Nat) : Int)) (k + j) := by
  obtain ⟨h1, -, h3⟩ := h
  refine ⟨h1, hj, ?_⟩
  rw [h3, own_pow hj, Int.mul_assoc]
theorem own_Dy.dn {x : UInt64} {n : Int} {k j : Nat} (h : own_Dy x (n * ((2 ^ j : Nat) : Int)) (k + j)) : own_Dy x n k := by
  obtain ⟨h1, h2, h3⟩ := h
  refine ⟨h1, by omega, ?_⟩
  rw [h3, own_pow h2, Int.mul_assoc]
theorem own_dy_l2d {a : Int64} (h1 : -9007199254740992 < a.toInt) (h2 : a.toInt < 9007199254740992) : own_Dy (FP.l2d a) a.toInt 0 := by
  have hr := own_round (s := decide (a.toInt < 0)) (c := a.toInt.natAbs) (q := 0) (e0 := -1074) (n := a.toInt) (k := 0) (by omega) (by omega) (by omega) (by omega) (by
    unfold FP.Core.inUnits
    rw [FP.Core.signed_mul, own_signed_abs, show (0 - -1074 : Int).toNat = 1074 from rfl, show (-1074 - -1074 : Int).toNat = 0 from rfl, Nat.pow_zero, Int.natCast_one, Int.mul_one])
  have hv : FP.Core.val64 (FP.l2d a) = FP.Core.round FP.Core.b64 (.fin (decide (a.toInt < 0)) a.toInt.natAbs 0) := FP.Core.val64_l2d a
  unfold own_Dy
  rw [hv]
  exact ⟨hr.1, by omega, hr.2⟩
theorem own_dy_i2d (a : Int32) : own_Dy (FP.i2d a) a.toInt 0 := by
  have h := Int32.toInt_lt a
  have h' := Int32.le_toInt a
  have e : a.toInt64.toInt = a.toInt := Int32.toInt_toInt64 a
  have := own_dy_l2d (a := a.toInt64) (by omega) (by omega)
  rw [e] at this
  exact (FP.Core.i2d_l2d a ▸ this : own_Dy (FP.Core.i2d a) a.toInt 0)
theorem own_Dy.add {x y : UInt64} {n m : Int} {k : Nat} (hx : own_Dy x n k) (hy : own_Dy y m k) (h : (n + m).natAbs < 9007199254740992) : own_Dy (FP.dadd x y) (n + m) k := by
  obtain ⟨⟨s, c, q, hx1⟩, hk, hx3⟩ := hx
  obtain ⟨⟨t, d, r, hy1⟩, -, hy3⟩ := hy
  obtain ⟨sg, w, e, h1, h2, h3⟩ := FP.Core.sum_units (f := FP.Core.b64) (hx1 ▸ FP.Core.val64_fits x) (hy1 ▸ FP.Core.val64_fits y)
  have hq := FP.Core.qmin_b64
  rw [← hx1, ← hy1, hx3, hy3, ← Int.add_mul] at h3
  have hr := own_round (s := sg) (c := w) (q := e) (e0 := -1074) (n := n + m) (k := k) hk h (by omega) (by rw [hq] at h2; exact h2) (by
    rw [hq] at h3; rw [h3, show (-1074 - -1074 : Int).toNat = 0 from rfl, Nat.pow_zero, Int.natCast_one, Int.mul_one])
  have hv : FP.Core.val64 (FP.dadd x y) = FP.Core.round FP.Core.b64 (.fin sg w e) := by
    have := FP.Core.val64_dadd x y
    rw [hx1, hy1, h1] at this
    exact this
  unfold own_Dy
  rw [hv]
  exact ⟨hr.1, hk, hr.2⟩
theorem own_Dy.sub {x y : UInt64} {n m : Int} {k : Nat} (hx : own_Dy x n k) (hy : own_Dy y m k) (h : (n - m).natAbs < 9007199254740992) : own_Dy (FP.dsub x y) (n - m) k := by
  obtain ⟨⟨s, c, q, hx1⟩, hk, hx3⟩ := hx
  obtain ⟨⟨t, d, r, hy1⟩, -, hy3⟩ := hy
  have hyn : FP.Core.fits FP.Core.b64 (FP.Core.negate (.fin t d r)) := FP.Core.negate_fits (hy1 ▸ FP.Core.val64_fits y)
  obtain ⟨sg, w, e, h1, h2, h3⟩ := FP.Core.sum_units (f := FP.Core.b64) (s := s) (c := c) (q := q) (t := !t) (d := d) (r := r) (hx1 ▸ FP.Core.val64_fits x) hyn
  have hq := FP.Core.qmin_b64
  have hneg : FP.Core.zval FP.Core.b64 (.fin (!t) d r) = -(m * ((2 ^ (1074 - k) : Nat) : Int)) := by
    rw [← hy3, hy1]; exact FP.Core.zval_negate FP.Core.b64 (.fin t d r)
  rw [← hx1, hx3, hneg, ← Int.sub_eq_add_neg, ← Int.sub_mul] at h3
  have hr := own_round (s := sg) (c := w) (q := e) (e0 := -1074) (n := n - m) (k := k) hk h (by omega) (by rw [hq] at h2; exact h2) (by
    rw [hq] at h3; rw [h3, show (-1074 - -1074 : Int).toNat = 0 from rfl, Nat.pow_zero, Int.natCast_one, Int.mul_one])
  have hv : FP.Core.val64 (FP.dsub x y) = FP.Core.round FP.Core.b64 (.fin sg w e) := by
    have := FP.Core.val64_dsub x y
    rw [hx1, hy1] at this
    exact this.trans (congrArg _ h1)
  unfold own_Dy
  rw [hv]
  exact ⟨hr.1, hk, hr.2⟩
theorem own_Dy.mul {x y : UInt64} {n m : Int} {k j : Nat} (hx : own_Dy x n k) (hy : own_Dy y m j) (hkj : k + j ≤ 1074) (h : (n * m).natAbs < 9007199254740992) : own_Dy (FP.dmul x y) (n * m) (k + j) := by
  obtain ⟨⟨s, c, q, hx1⟩, hk, hx3⟩ := hx
  obtain ⟨⟨t, d, r, hy1⟩, hj, hy3⟩ := hy
  obtain ⟨h1, h2, h3⟩ := FP.Core.product_units (f := FP.Core.b64) (hx1 ▸ FP.Core.val64_fits x) (hy1 ▸ FP.Core.val64_fits y)
  have hq := FP.Core.qmin_b64
  have hs : FP.Core.signed (s != t) (FP.Core.zmag FP.Core.b64 (.fin s c q) * FP.Core.zmag FP.Core.b64 (.fin t d r)) = FP.Core.zval FP.Core.b64 (.fin s c q) * FP.Core.zval FP.Core.b64 (.fin t d r) := by
    show _ = FP.Core.signed s (FP.Core.zmag FP.Core.b64 (.fin s c q)) * FP.Core.signed t (FP.Core.zmag FP.Core.b64 (.fin t d r))
    generalize FP.Core.zmag FP.Core.b64 (.fin s c q) = a
    generalize FP.Core.zmag FP.Core.b64 (.fin t d r) = b
    cases s <;> cases t <;> simp [FP.Core.signed, Int.natCast_mul, Int.neg_mul, Int.mul_neg]
  have hr := own_round (s := s != t) (c := c * d) (q := q + r) (e0 := -2148) (n := n * m) (k := k + j) hkj h (by omega) (by rw [hq] at h2; omega) (by
    rw [hq] at h3
    have h3' : FP.Core.inUnits (c * d) (q + r) (-2148) = FP.Core.zmag FP.Core.b64 (FP.Core.Datum.fin s c q) * FP.Core.zmag FP.Core.b64 (FP.Core.Datum.fin t d r) := h3
    rw [h3', hs, ← hx1, ← hy1, hx3, hy3, show (-1074 - -2148 : Int).toNat = 1074 from rfl]
    have e1 : ((2 ^ (1074 - k) : Nat) : Int) * ((2 ^ (1074 - j) : Nat) : Int) = ((2 ^ (1074 - (k + j)) : Nat) : Int) * ((2 ^ 1074 : Nat) : Int) := by
      rw [← Int.natCast_mul, ← Int.natCast_mul, ← Nat.pow_add, ← Nat.pow_add]; congr 2; omega
    generalize ((2 ^ (1074 - k) : Nat) : Int) = A at e1 ⊢
    generalize ((2 ^ (1074 - j) : Nat) : Int) = B at e1 ⊢
    generalize ((2 ^ (1074 - (k + j)) : Nat) : Int) = C at e1 ⊢
    generalize ((2 ^ 1074 : Nat) : Int) = D at e1 ⊢
    calc n * A * (m * B) = n * m * (A * B) := by ac_rfl
      _ = n * m * C * D := by rw [e1]; ac_rfl)
  have hv : FP.Core.val64 (FP.dmul x y) = FP.Core.round FP.Core.b64 (.fin (s != t) (c * d) (q + r)) := by
    have := FP.Core.val64_dmul x y
    rw [hx1, hy1] at this
    exact this.trans (congrArg _ h1)
  unfold own_Dy
  rw [hv]
  exact ⟨hr.1, hkj, hr.2⟩
theorem own_Dy.cmp {x y : UInt64} {n m : Int} {k : Nat} (hx : own_Dy x n k) (hy : own_Dy y m k) : FP.dcmp x y = some (compare n m) := by
  have h := FP.Core.dcmp_zval hx.ne hy.ne
  rw [hx.2.2, hy.2.2, FP.Core.compare_mul_pos _ _ _ (by have := Nat.two_pow_pos (1074 - k); omega)] at h
  exact h
theorem own_Dy.eq {x y : UInt64} {n m : Int} {k : Nat} (hx : own_Dy x n k) (hy : own_Dy y m k) (h : n = m) (o : CmpOp) : cmpValue (FP.dcmp x y) o = 0 := by
  rw [hx.cmp hy, (FP.Core.compare_eq_iff n m).mpr h]; rfl
theorem own_Dy.lt {x y : UInt64} {n m : Int} {k : Nat} (hx : own_Dy x n k) (hy : own_Dy y m k) (h : n < m) (o : CmpOp) : cmpValue (FP.dcmp x y) o = -1 := by
  rw [hx.cmp hy, (FP.Core.compare_lt_iff n m).mpr h]; rfl
theorem own_Dy.gt {x y : UInt64} {n m : Int} {k : Nat} (hx : own_Dy x n k) (hy : own_Dy y m k) (h : m < n) (o : CmpOp) : cmpValue (FP.dcmp x y) o = 1 := by
  rw [hx.cmp hy, (FP.Core.compare_gt_iff n m).mpr h]; rfl
end OwnFloat
section OwnInt
theorem own_ladd {a b : Int64} (h : (a.toInt + b.toInt).natAbs < 9223372036854775808) : (a + b).toInt = a.toInt + b.toInt := by
  have q := c_ladd a b; have r := rng64 (a + b); omega
theorem own_lsub {a b : Int64} (h : (a.toInt - b.toInt).natAbs < 9223372036854775808) : (a - b).toInt = a.toInt - b.toInt := by
  have q := c_lsub a b; have r := rng64 (a - b); omega
theorem own_lmul {a b : Int64} (h : (a.toInt * b.toInt).natAbs < 9223372036854775808) : (a * b).toInt = a.toInt * b.toInt := by
  have q := c_lmul a b; have r := rng64 (a * b); generalize a.toInt * b.toInt = z at *; omega
theorem own_iadd {a b : Int32} (h : (a.toInt + b.toInt).natAbs < 2147483648) : (a + b).toInt = a.toInt + b.toInt := by
  have q := c_iadd a b; have r := rng32 (a + b); omega
theorem own_isub {a b : Int32} (h : (a.toInt - b.toInt).natAbs < 2147483648) : (a - b).toInt = a.toInt - b.toInt := by
  have q := c_isub a b; have r := rng32 (a - b); omega
theorem own_imul {a b : Int32} (h : (a.toInt * b.toInt).natAbs < 2147483648) : (a * b).toInt = a.toInt * b.toInt := by
  have q := c_imul a b; have r := rng32 (a * b); generalize a.toInt * b.toInt = z at *; omega
theorem own_absmul {n m : Int} {A B : Nat} (hn : n.natAbs ≤ A) (hm : m.natAbs ≤ B) : (n * m).natAbs ≤ A * B := by
  rw [Int.natAbs_mul]; exact Nat.mul_le_mul hn hm
end OwnInt
section OwnShift
theorem own_bv {q : Int32} {n : Nat} (h : q.toInt = (n : Int)) : q.toBitVec.toNat = n := by
  have h1 : q.toBitVec.toInt = (n : Int) := h
  have h2 := BitVec.toInt_eq_toNat_cond q.toBitVec
  have h3 := q.toBitVec.isLt
  split at h2 <;> omega
theorem own_lshl {x : Int64} {q : Int32} {n : Nat} (hq : q.toInt = (n : Int)) (hn : n < 64) (hb : (x.toInt * ((2 ^ n : Nat) : Int)).natAbs < 9223372036854775808) : (x <<< (q &&& 0x3f).toInt64).toInt = x.toInt * ((2 ^ n : Nat) : Int) := by
  have h1 := c_lshl x q n (by rw [own_bv hq]; omega)
  have h2 := rng64 (x <<< (q &&& 0x3f).toInt64)
  generalize x.toInt * ((2 ^ n : Nat) : Int) = z at *
  omega
theorem own_ishl {x : Int32} {q : Int32} {n : Nat} (hq : q.toInt = (n : Int)) (hn : n < 32) (hb : (x.toInt * ((2 ^ n : Nat) : Int)).natAbs < 2147483648) : (x <<< (q &&& 31)).toInt = x.toInt * ((2 ^ n : Nat) : Int) := by
  have h1 := c_ishl x q n (by rw [own_bv hq]; omega)
  have h2 := rng32 (x <<< (q &&& 31))
  generalize x.toInt * ((2 ^ n : Nat) : Int) = z at *
  omega
theorem own_ishl1 {q : Int32} {n : Nat} (hq : q.toInt = (n : Int)) (hn : n < 31) : ((1 : Int32) <<< (q &&& 31)).toInt = ((2 ^ n : Nat) : Int) := by
  have e : (1 : Int32).toInt = 1 := by decide
  have hp : 2 ^ n ≤ 2 ^ 30 := Nat.pow_le_pow_right (by omega) (by omega)
  rw [own_ishl hq (by omega) (by rw [e, Int.one_mul, Int.natAbs_natCast]; omega), e, Int.one_mul]
theorem own_lshl1 {q : Int32} {n : Nat} (hq : q.toInt = (n : Int)) (hn : n < 63) : ((1 : Int64) <<< (q &&& 0x3f).toInt64).toInt = ((2 ^ n : Nat) : Int) := by
  have e : (1 : Int64).toInt = 1 := by decide
  have hp : 2 ^ n ≤ 2 ^ 62 := Nat.pow_le_pow_right (by omega) (by omega)
  rw [own_lshl hq (by omega) (by rw [e, Int.one_mul, Int.natAbs_natCast]; omega), e, Int.one_mul]
/-- a mask of ones: what is left is some natural below the power -/
theorem own_andN (x : Int32) (mk : Int32) (M : Nat) (hM : mk.toInt = (M : Int)) : ∃ n : Nat, (x &&& mk).toInt = (n : Int) ∧ n ≤ M := by
  have h := c_and x mk (by omega)
  exact ⟨(x &&& mk).toInt.toNat, by omega, by omega⟩
theorem own_andL (x : Int64) (mk : Int64) (k : Nat) (hk : k ≤ 63) (hm : mk.toBitVec.toNat = 2 ^ k - 1) : ∃ n : Nat, (x &&& mk).toInt = (n : Int) ∧ n < 2 ^ k := by
  have h := c_maskL x mk k hk hm
  have hp := Nat.two_pow_pos k
  have h1 := Int.emod_nonneg x.toInt (show ((2 ^ k : Nat) : Int) ≠ 0 by omega)
  have h2 := Int.emod_lt_of_pos x.toInt (show (0 : Int) < ((2 ^ k : Nat) : Int) by omega)
  exact ⟨(x &&& mk).toInt.toNat, by omega, by omega⟩
theorem own_irem {x y : Int32} (hx : 0 ≤ x.toInt) (hy : 0 < y.toInt) : (x % y).toInt = x.toInt % y.toInt := by
  rw [Int32.toInt_mod, Int.tmod_eq_emod_of_nonneg hx]
theorem own_lrem {x y : Int64} (hx : 0 ≤ x.toInt) (hy : 0 < y.toInt) : (x - x / y * y).toInt = x.toInt % y.toInt := by
  rw [lrem_mod, Int64.toInt_mod, Int.tmod_eq_emod_of_nonneg hx]
end OwnShift
section OwnPlain
def own_h0 (r : Option Ordering) : Int32 := if ifCond.holds .ge (cmpValue r .g) = true then 0 else 1
def own_h1 (r : Option Ordering) : Int32 := if ifCond.holds .gt (cmpValue r .g) = true then 0 else 1
def own_h2 (r : Option Ordering) : Int32 := if ifCond.holds .le (cmpValue r .l) = true then 0 else 1
def own_h3 (r : Option Ordering) : Int32 := if ifCond.holds .lt (cmpValue r .l) = true then 0 else 1
def own_h4 (r : Option Ordering) : Int32 := if ifCond.holds .ne (cmpValue r .l) = true then 0 else 1
def own_h5 (r : Option Ordering) : Int32 := if ifCond.holds .eq (cmpValue r .l) = true then 0 else 1
def own_B (a : Int64) : Prop := -9007199254740992 < a.toInt ∧ a.toInt < 9007199254740992
theorem own_b2 (p : Int32) : own_B p.toInt64 := by have := rng32 p; have := c_i2l p; exact ⟨by omega, by omega⟩
theorem own_b1 (p q : Int32) : own_B (((p.toInt64) + (((q >>> ((1 : Int32) &&& 31)) &&& (3 : Int32)).toInt64)) - (1 : Int64)) := by
  have h1 := rng32 p; have h2 := c_i2l p; have h3 := c_i2l ((q >>> ((1 : Int32) &&& 31)) &&& (3 : Int32))
  have h4 := c_and (q >>> ((1 : Int32) &&& 31)) 3 (by decide)
  have h5 : (3 : Int32).toInt = 3 := by decide
  have h6 : (1 : Int64).toInt = 1 := by decide
  have e1 := own_ladd (a := p.toInt64) (b := ((q >>> ((1 : Int32) &&& 31)) &&& (3 : Int32)).toInt64) (by omega)
  have e2 := own_lsub (a := p.toInt64 + ((q >>> ((1 : Int32) &&& 31)) &&& (3 : Int32)).toInt64) (b := 1) (by omega)
  exact ⟨by omega, by omega⟩
theorem own_lt {a b : Int64} (ha : own_B a) (hb : own_B b) (h : a < b) : FP.dcmp (FP.l2d a) (FP.l2d b) = some .lt := by
  rw [(own_dy_l2d ha.1 ha.2).cmp (own_dy_l2d hb.1 hb.2), (FP.Core.compare_lt_iff _ _).mpr (Int64.lt_iff_toInt_lt.mp h)]
theorem own_eq {a b : Int64} (ha : own_B a) (hb : own_B b) (h : a = b) : FP.dcmp (FP.l2d a) (FP.l2d b) = some .eq := by
  rw [(own_dy_l2d ha.1 ha.2).cmp (own_dy_l2d hb.1 hb.2), (FP.Core.compare_eq_iff _ _).mpr (congrArg _ h)]
theorem own_gt {a b : Int64} (ha : own_B a) (hb : own_B b) (h : ¬ a < b) (h2 : ¬ a = b) : FP.dcmp (FP.l2d a) (FP.l2d b) = some .gt := by
  rw [(own_dy_l2d ha.1 ha.2).cmp (own_dy_l2d hb.1 hb.2), (FP.Core.compare_gt_iff _ _).mpr (by
    have q : ¬ a.toInt < b.toInt := fun q => h (Int64.lt_iff_toInt_lt.mpr q)
    have r : ¬ a.toInt = b.toInt := fun q => h2 (Int64.toInt_inj.mp q)
    omega)]
end OwnPlain
theorem d2_0 : decode jdk_37_method_2_code 0 = .ok (.aload_n 0, 1) := by decide +kernel
theorem d2_1 : decode jdk_37_method_2_code 1 = .ok (.getfield 7, 3) := by decide +kernel
theorem d2_4 : decode jdk_37_method_2_code 4 = .ok (.ireturn, 1) := by decide +kernel
theorem pno0 : plainName "java/lang/Enum" = true := by first | (simp [plainName, overriddenIn]; done) | decide +kernel
theorem efo0 (m : MethodId) (a0 : Addr) : entryFrame m #[(.ref a0)] 1 = mkF m 0 #[.val (.ref a0)] [] := by first | (simp [entryFrame, mkF, argsToLocals, Value.category]; done) | rfl
def Qo0 (Z : State) (a0 : Addr) (h0 : Heap) (n0 : Nat) (v : Option Value) (h : Heap) (L : List Loc) : Prop := v = some (.int (0 : Int32)) ∧ Fr n0 L ∧ h = h0
set_option maxRecDepth 65536 in
set_option maxHeartbeats 40000000 in
theorem rmo0 (l : Launch) (Z : State) (ar : Array Value) (hw : ∀ d ∈ tables_1, d.before ar Z = true) (ws : List Jvm.Cond) (a0 : Addr) (h0 : Heap) (n0 : Nat) (Z0 : n0 ≤ h0.size) (F_ordinal_a0 : Fld Z h0 a0 "java/lang/Enum" "ordinal" "I" (.int (0 : Int32))) :
    MetFree l (⟨"java/lang/Enum", "ordinal", "()I"⟩ : MethodName) (head1 (Jvm.Cond.code (⟨"java/lang/Enum", "ordinal", "()I"⟩ : MethodName) jdk_37_method_2_code 1 (some .int) :: ws) ({ frames := 0, cells := 0, slots := 0, locals := 0 } : Room)) (fun a U => a = #[(.ref a0)] ∧ Z.Warmed39 U.vm ∧ U.heap = h0) (fun _ _ _ _ _ => True) (fun _ U o U' => ∃ v L, o = .returned v ∧ Qo0 Z a0 h0 n0 v U'.heap L ∧ FrameEnd U o U' L ({ frames := 0, cells := 0, slots := 0, locals := 0 } : Room).cells ({ frames := 0, cells := 0, slots := 0, locals := 0 } : Room).slots) := by
  refine MetFree.of_bodySF (plainFor_of_name pno0) hisR ?_
  intro p e s m args below meth c s₁ Bd hml0 hP hK
  obtain ⟨rfl, hZ, hh⟩ := hP
  have hx := Bd.exec
  have hby := Bd.bytes
  have hlk := Bd.notSynchronized
  have hml : c.maxLocals = 1 := hml0
  have hown : s.vm.findClass "java/lang/Enum" = some m.cls := findClass_of_methodNamed Bd.named
  have hnm := (name_of_methodNamed Bd.named Bd.method).1
  have X0 : Stand p l e ({ frames := 0, cells := 0, slots := 0, locals := 0 } : Room) s m #[(.ref a0)] below meth c s₁ [] 0 0 := Stand.of_body Bd
  have e0 : s₁.heap = h0 := by rw [← hh, Bd.state]; rfl
  have N0 := Fr.nil n0
  have K0 := Keep.refl h0 []
  refine own_enter (Q := Qo0 Z a0 h0 n0) (efo0 m a0) ?_
  refine own_st (T' := s₁) (g' := (mkF m 1 #[.val (.ref a0)] [(.ref a0)])) (fun t k => ?_) ?_
  · show Steps p.tables e below (s₁.setTop (mkF m 0 #[.val (.ref a0)] [])) t
    refine XS.aloadN X0.here hx rfl (hb hby d2_0) rfl rfl ?_
    exact k
  obtain ⟨T1, X1, e1, st1⟩ := getF X0 hx hZ hown (host := "") (Or.inl (hw _ (List.mem_of_getElem? (i := 16) rfl))) Via.refl e0 F_ordinal_a0 (g := (mkF m 1 #[.val (.ref a0)] [(.ref a0)])) rfl rfl (hb hby d2_1)
  refine own_st (T' := T1) (g' := (mkF m 4 #[.val (.ref a0)] [(.int (0 : Int32))])) st1 ?_
  refine own_retI X1 hx hlk Bd.returns (hb hby d2_4) (by decide) (by decide) ?_
  show Qo0 Z a0 h0 n0 (some (.int (0 : Int32))) T1.heap _
  rw [(e1 : T1.heap = h0)]
  exact ⟨rfl, N0, rfl⟩
theorem d1_0 : decode prog_24_method_5_code 0 = .ok (.aload_n 0, 1) := by decide +kernel
theorem d1_1 : decode prog_24_method_5_code 1 = .ok (.invokevirtual 41, 3) := by decide +kernel
theorem d1_4 : decode prog_24_method_5_code 4 = .ok (.tableswitch 40 0 5 #[50, 64, 78, 92, 106, 120], 40) := by decide +kernel
theorem d1_54 : decode prog_24_method_5_code 54 = .ok (.dload_n 1, 1) := by decide +kernel
theorem d1_55 : decode prog_24_method_5_code 55 = .ok (.dload_n 3, 1) := by decide +kernel
theorem d1_56 : decode prog_24_method_5_code 56 = .ok (.dcmp .g, 1) := by decide +kernel
theorem d1_57 : decode prog_24_method_5_code 57 = .ok (.ifCond .ge 7, 3) := by decide +kernel
theorem d1_60 : decode prog_24_method_5_code 60 = .ok (.iconst 1, 1) := by decide +kernel
theorem d1_61 : decode prog_24_method_5_code 61 = .ok (.goto 74, 3) := by decide +kernel
theorem d1_64 : decode prog_24_method_5_code 64 = .ok (.iconst 0, 1) := by decide +kernel
theorem d1_65 : decode prog_24_method_5_code 65 = .ok (.goto 70, 3) := by decide +kernel
theorem d1_135 : decode prog_24_method_5_code 135 = .ok (.ireturn, 1) := by decide +kernel
theorem pnh0 : plainName "com/example/meshwatch/meshwatch/Relation" = true := by first | (simp [plainName, overriddenIn]; done) | decide +kernel
theorem pdh0_0 : parseMethodDescriptor "()I" = some ⟨[], some .int⟩ := by decide +kernel
theorem efh0 (m : MethodId) (a0 : Addr) (d1 : UInt64) (d2 : UInt64) : entryFrame m #[(.ref a0), (.double d1), (.double d2)] 5 = mkF m 0 #[.val (.ref a0), .val (.double d1), .second, .val (.double d2), .second] [] := by first | (simp [entryFrame, mkF, argsToLocals, Value.category]; done) | rfl
def Qh0 (Z : State) (a0 : Addr) (d1 : UInt64) (d2 : UInt64) (h0 : Heap) (n0 : Nat) (v : Option Value) (h : Heap) (L : List Loc) : Prop := v = some (.int (own_h0 (FP.dcmp d1 d2))) ∧ Fr n0 L ∧ h = h0
set_option maxRecDepth 65536 in
set_option maxHeartbeats 40000000 in
theorem rmh0 (l : Launch) (Z : State) (ar : Array Value) (hw : ∀ d ∈ tables_1, d.before ar Z = true) (ws : List Jvm.Cond) (a0 : Addr) (d1 : UInt64) (d2 : UInt64) (h0 : Heap) (n0 : Nat) (Z0 : n0 ≤ h0.size) (E_a0 : Exa Z h0 a0 "com/example/meshwatch/meshwatch/Relation") (F_ordinal_a0 : Fld Z h0 a0 "java/lang/Enum" "ordinal" "I" (.int (0 : Int32))) :
    MetFree l (⟨"com/example/meshwatch/meshwatch/Relation", "holds", "(DD)Z"⟩ : MethodName) (head1 (Jvm.Cond.code (⟨"com/example/meshwatch/meshwatch/Relation", "holds", "(DD)Z"⟩ : MethodName) prog_24_method_5_code 5 (some .boolean) :: ws) ({ frames := 1, cells := 0, slots := 0, locals := 12 } : Room)) (fun a U => a = #[(.ref a0), (.double d1), (.double d2)] ∧ Z.Warmed39 U.vm ∧ U.heap = h0) (fun _ _ _ _ _ => True) (fun _ U o U' => ∃ v L, o = .returned v ∧ Qh0 Z a0 d1 d2 h0 n0 v U'.heap L ∧ FrameEnd U o U' L ({ frames := 1, cells := 0, slots := 0, locals := 12 } : Room).cells ({ frames := 1, cells := 0, slots := 0, locals := 12 } : Room).slots) := by
  refine MetFree.of_bodySF (plainFor_of_name pnh0) hisR ?_
  intro p e s m args below meth c s₁ Bd hml0 hP hK
  obtain ⟨rfl, hZ, hh⟩ := hP
  have hx := Bd.exec
  have hby := Bd.bytes
  have hlk := Bd.notSynchronized
  have hml : c.maxLocals = 5 := hml0
  have hown : s.vm.findClass "com/example/meshwatch/meshwatch/Relation" = some m.cls := findClass_of_methodNamed Bd.named
  have hnm := (name_of_methodNamed Bd.named Bd.method).1
  have X0 : Stand p l e ({ frames := 1, cells := 0, slots := 0, locals := 12 } : Room) s m #[(.ref a0), (.double d1), (.double d2)] below meth c s₁ [] 0 0 := Stand.of_body Bd
  have e0 : s₁.heap = h0 := by rw [← hh, Bd.state]; rfl
  have N0 := Fr.nil n0
  have K0 := Keep.refl h0 []
  refine own_enter (Q := Qh0 Z a0 d1 d2 h0 n0) (efh0 m a0 d1 d2) ?_
  refine own_st (T' := s₁) (g' := (mkF m 1 #[.val (.ref a0), .val (.double d1), .second, .val (.double d2), .second] [(.ref a0)])) (fun t k => ?_) ?_
  · show Steps p.tables e below (s₁.setTop (mkF m 0 #[.val (.ref a0), .val (.double d1), .second, .val (.double d2), .second] [])) t
    refine XS.aloadN X0.here hx rfl (hb hby d1_0) rfl rfl ?_
    exact k
  obtain ⟨cq1, kq1, qa1, qb1, qc1⟩ := isOf hZ e0 E_a0
  obtain ⟨_, _, ⟨T1, L1, k1, n1⟩, -, X1, ⟨Lc1, hQ1, l1, y1, z1⟩, st1⟩ := X0.virtualBackUp hx (owner := "java/lang/Enum") (x := (⟨"com/example/meshwatch/meshwatch/Relation", "ordinal", "()I"⟩ : MethodName)) (y := (⟨"java/lang/Enum", "ordinal", "()I"⟩ : MethodName)) hown (mvT hZ (hw _ (List.mem_of_getElem? (i := 9) rfl))) (mvT hZ (hw _ (List.mem_of_getElem? (i := 10) rfl))) (mvT hZ (hw _ (List.mem_of_getElem? (i := 11) rfl))) (by decide) (mvT hZ (hw _ (List.mem_of_getElem? (i := 13) rfl))) (mvT hZ (hw _ (List.mem_of_getElem? (i := 12) rfl))) (backOf (W := 0) (rmo0 l Z ar hw [] a0 h0 n0 Z0 F_ordinal_a0) hZ (hw _ (List.mem_of_getElem? (i := 15) rfl)) (hw _ (List.mem_of_getElem? (i := 14) rfl)) (by decide) (by decide)) qa1 qc1 (g := (mkF m 1 #[.val (.ref a0), .val (.double d1), .second, .val (.double d2), .second] [(.ref a0)])) rfl (by rw [hml]; rfl) (Steps.refl _) (argsL := []) (rest := []) (lenOf pdh0_0 rfl) rfl (by show 2 * 0 + _ ≤ _; exact Nat.le_of_eq rfl) (hb hby d1_1) (fun _ _ => ⟨rfl, e0, (by decide : 0 + 0 ≤ _), (by decide : 0 + 0 ≤ _)⟩)
  dsimp only [Pt.U, Pt.locs, Pt.cells, Pt.slots] at X1 l1 y1 z1 st1 hQ1
  subst l1 y1 z1
  obtain ⟨rfl, N1q, e1⟩ := hQ1
  have n2 := Fr.app N0 N1q
  refine own_tr (T' := T1) (g' := (mkF m 4 #[.val (.ref a0), .val (.double d1), .second, .val (.double d2), .second] [(.int (0 : Int32))])) st1 ?_
  refine own_st (T' := T1) (g' := (mkF m 57 #[.val (.ref a0), .val (.double d1), .second, .val (.double d2), .second] [(.int (cmpValue (FP.dcmp d1 d2) .g))])) (fun t k => ?_) ?_
  · show Steps p.tables e below (T1.setTop (mkF m 4 #[.val (.ref a0), .val (.double d1), .second, .val (.double d2), .second] [(.int (0 : Int32))])) t
    refine XS.tswIn X1.here hx rfl (pc0 := 4) (pc' := 54) rfl (hb hby d1_4) rfl (by decide) rfl (by decide) (by decide) ?_
    show Steps p.tables e below (T1.setTop (mkF m 54 #[.val (.ref a0), .val (.double d1), .second, .val (.double d2), .second] [])) t
    refine XS.dloadN X1.here hx rfl (hb hby d1_54) rfl ?_
    show Steps p.tables e below (T1.setTop (mkF m 55 #[.val (.ref a0), .val (.double d1), .second, .val (.double d2), .second] [(.double d1)])) t
    refine XS.dloadN X1.here hx rfl (hb hby d1_55) rfl ?_
    show Steps p.tables e below (T1.setTop (mkF m 56 #[.val (.ref a0), .val (.double d1), .second, .val (.double d2), .second] [(.double d2), (.double d1)])) t
    refine XS.dcmpS X1.here hx rfl (hb hby d1_56) rfl rfl ?_
    exact k
  by_cases hc57_3 : ifCond.holds .ge (cmpValue (FP.dcmp d1 d2) .g) = true
  · refine own_st (T' := T1) (g' := (mkF m 135 #[.val (.ref a0), .val (.double d1), .second, .val (.double d2), .second] [(.int (0 : Int32))])) (fun t k => ?_) ?_
    · show Steps p.tables e below (T1.setTop (mkF m 57 #[.val (.ref a0), .val (.double d1), .second, .val (.double d2), .second] [(.int (cmpValue (FP.dcmp d1 d2) .g))])) t
      refine XS.ifYes X1.here hx rfl (pc0 := 57) (pc' := 64) rfl (hb hby d1_57) rfl hc57_3 (by decide) (by decide) ?_
      show Steps p.tables e below (T1.setTop (mkF m 64 #[.val (.ref a0), .val (.double d1), .second, .val (.double d2), .second] [])) t
      refine XS.iconst X1.here hx rfl (hb hby d1_64) ?_
      show Steps p.tables e below (T1.setTop (mkF m 65 #[.val (.ref a0), .val (.double d1), .second, .val (.double d2), .second] [(.int (0 : Int32))])) t
      refine XS.goto X1.here hx rfl (pc0 := 65) (pc' := 135) rfl (hb hby d1_65) (by decide) (by decide) ?_
      exact k
    refine own_retZ X1 hx hlk Bd.returns (hb hby d1_135) rfl (by decide) (by decide) ?_
    show Qh0 Z a0 d1 d2 h0 n0 (some (.int (0 : Int32))) T1.heap _
    rw [(e1 : T1.heap = h0)]
    exact ⟨congrArg (fun z => some (Value.int z)) (if_pos hc57_3).symm, n2, rfl⟩
  · refine own_st (T' := T1) (g' := (mkF m 135 #[.val (.ref a0), .val (.double d1), .second, .val (.double d2), .second] [(.int (1 : Int32))])) (fun t k => ?_) ?_
    · show Steps p.tables e below (T1.setTop (mkF m 57 #[.val (.ref a0), .val (.double d1), .second, .val (.double d2), .second] [(.int (cmpValue (FP.dcmp d1 d2) .g))])) t
      refine XS.ifNo X1.here hx rfl (hb hby d1_57) rfl (Bool.eq_false_iff.mpr hc57_3) ?_
      show Steps p.tables e below (T1.setTop (mkF m 60 #[.val (.ref a0), .val (.double d1), .second, .val (.double d2), .second] [])) t
      refine XS.iconst X1.here hx rfl (hb hby d1_60) ?_
      show Steps p.tables e below (T1.setTop (mkF m 61 #[.val (.ref a0), .val (.double d1), .second, .val (.double d2), .second] [(.int (1 : Int32))])) t
      refine XS.goto X1.here hx rfl (pc0 := 61) (pc' := 135) rfl (hb hby d1_61) (by decide) (by decide) ?_
      exact k
    refine own_retZ X1 hx hlk Bd.returns (hb hby d1_135) rfl (by decide) (by decide) ?_
    show Qh0 Z a0 d1 d2 h0 n0 (some (.int (1 : Int32))) T1.heap _
    rw [(e1 : T1.heap = h0)]
    exact ⟨congrArg (fun z => some (Value.int z)) (if_neg hc57_3).symm, n2, rfl⟩
theorem pno1 : plainName "java/lang/Enum" = true := by first | (simp [plainName, overriddenIn]; done) | decide +kernel
theorem efo1 (m : MethodId) (a0 : Addr) : entryFrame m #[(.ref a0)] 1 = mkF m 0 #[.val (.ref a0)] [] := by first | (simp [entryFrame, mkF, argsToLocals, Value.category]; done) | rfl
def Qo1 (Z : State) (a0 : Addr) (h0 : Heap) (n0 : Nat) (v : Option Value) (h : Heap) (L : List Loc) : Prop := v = some (.int (1 : Int32)) ∧ Fr n0 L ∧ h = h0
set_option maxRecDepth 65536 in
set_option maxHeartbeats 40000000 in
theorem rmo1 (l : Launch) (Z : State) (ar : Array Value) (hw : ∀ d ∈ tables_1, d.before ar Z = true) (ws : List Jvm.Cond) (a0 : Addr) (h0 : Heap) (n0 : Nat) (Z0 : n0 ≤ h0.size) (F_ordinal_a0 : Fld Z h0 a0 "java/lang/Enum" "ordinal" "I" (.int (1 : Int32))) :
    MetFree l (⟨"java/lang/Enum", "ordinal", "()I"⟩ : MethodName) (head1 (Jvm.Cond.code (⟨"java/lang/Enum", "ordinal", "()I"⟩ : MethodName) jdk_37_method_2_code 1 (some .int) :: ws) ({ frames := 0, cells := 0, slots := 0, locals := 0 } : Room)) (fun a U => a = #[(.ref a0)] ∧ Z.Warmed39 U.vm ∧ U.heap = h0) (fun _ _ _ _ _ => True) (fun _ U o U' => ∃ v L, o = .returned v ∧ Qo1 Z a0 h0 n0 v U'.heap L ∧ FrameEnd U o U' L ({ frames := 0, cells := 0, slots := 0, locals := 0 } : Room).cells ({ frames := 0, cells := 0, slots := 0, locals := 0 } : Room).slots) := by
  refine MetFree.of_bodySF (plainFor_of_name pno1) hisR ?_
  intro p e s m args below meth c s₁ Bd hml0 hP hK
  obtain ⟨rfl, hZ, hh⟩ := hP
  have hx := Bd.exec
  have hby := Bd.bytes
  have hlk := Bd.notSynchronized
  have hml : c.maxLocals = 1 := hml0
  have hown : s.vm.findClass "java/lang/Enum" = some m.cls := findClass_of_methodNamed Bd.named
  have hnm := (name_of_methodNamed Bd.named Bd.method).1
  have X0 : Stand p l e ({ frames := 0, cells := 0, slots := 0, locals := 0 } : Room) s m #[(.ref a0)] below meth c s₁ [] 0 0 := Stand.of_body Bd
  have e0 : s₁.heap = h0 := by rw [← hh, Bd.state]; rfl
  have N0 := Fr.nil n0
  have K0 := Keep.refl h0 []
  refine own_enter (Q := Qo1 Z a0 h0 n0) (efo1 m a0) ?_
  refine own_st (T' := s₁) (g' := (mkF m 1 #[.val (.ref a0)] [(.ref a0)])) (fun t k => ?_) ?_
  · show Steps p.tables e below (s₁.setTop (mkF m 0 #[.val (.ref a0)] [])) t
    refine XS.aloadN X0.here hx rfl (hb hby d2_0) rfl rfl ?_
    exact k
  obtain ⟨T1, X1, e1, st1⟩ := getF X0 hx hZ hown (host := "") (Or.inl (hw _ (List.mem_of_getElem? (i := 16) rfl))) Via.refl e0 F_ordinal_a0 (g := (mkF m 1 #[.val (.ref a0)] [(.ref a0)])) rfl rfl (hb hby d2_1)
  refine own_st (T' := T1) (g' := (mkF m 4 #[.val (.ref a0)] [(.int (1 : Int32))])) st1 ?_
  refine own_retI X1 hx hlk Bd.returns (hb hby d2_4) (by decide) (by decide) ?_
  show Qo1 Z a0 h0 n0 (some (.int (1 : Int32))) T1.heap _
  rw [(e1 : T1.heap = h0)]
  exact ⟨rfl, N0, rfl⟩
theorem d1_68 : decode prog_24_method_5_code 68 = .ok (.dload_n 1, 1) := by decide +kernel
theorem d1_69 : decode prog_24_method_5_code 69 = .ok (.dload_n 3, 1) := by decide +kernel
theorem d1_70 : decode prog_24_method_5_code 70 = .ok (.dcmp .g, 1) := by decide +kernel
theorem d1_71 : decode prog_24_method_5_code 71 = .ok (.ifCond .gt 7, 3) := by decide +kernel
theorem d1_74 : decode prog_24_method_5_code 74 = .ok (.iconst 1, 1) := by decide +kernel
theorem d1_75 : decode prog_24_method_5_code 75 = .ok (.goto 60, 3) := by decide +kernel
theorem d1_78 : decode prog_24_method_5_code 78 = .ok (.iconst 0, 1) := by decide +kernel
theorem d1_79 : decode prog_24_method_5_code 79 = .ok (.goto 56, 3) := by decide +kernel
theorem pnh1 : plainName "com/example/meshwatch/meshwatch/Relation" = true := by first | (simp [plainName, overriddenIn]; done) | decide +kernel
theorem pdh1_0 : parseMethodDescriptor "()I" = some ⟨[], some .int⟩ := by decide +kernel
theorem efh1 (m : MethodId) (a0 : Addr) (d1 : UInt64) (d2 : UInt64) : entryFrame m #[(.ref a0), (.double d1), (.double d2)] 5 = mkF m 0 #[.val (.ref a0), .val (.double d1), .second, .val (.double d2), .second] [] := by first | (simp [entryFrame, mkF, argsToLocals, Value.category]; done) | rfl
def Qh1 (Z : State) (a0 : Addr) (d1 : UInt64) (d2 : UInt64) (h0 : Heap) (n0 : Nat) (v : Option Value) (h : Heap) (L : List Loc) : Prop := v = some (.int (own_h1 (FP.dcmp d1 d2))) ∧ Fr n0 L ∧ h = h0
set_option maxRecDepth 65536 in
set_option maxHeartbeats 40000000 in
theorem rmh1 (l : Launch) (Z : State) (ar : Array Value) (hw : ∀ d ∈ tables_1, d.before ar Z = true) (ws : List Jvm.Cond) (a0 : Addr) (d1 : UInt64) (d2 : UInt64) (h0 : Heap) (n0 : Nat) (Z0 : n0 ≤ h0.size) (E_a0 : Exa Z h0 a0 "com/example/meshwatch/meshwatch/Relation") (F_ordinal_a0 : Fld Z h0 a0 "java/lang/Enum" "ordinal" "I" (.int (1 : Int32))) :
    MetFree l (⟨"com/example/meshwatch/meshwatch/Relation", "holds", "(DD)Z"⟩ : MethodName) (head1 (Jvm.Cond.code (⟨"com/example/meshwatch/meshwatch/Relation", "holds", "(DD)Z"⟩ : MethodName) prog_24_method_5_code 5 (some .boolean) :: ws) ({ frames := 1, cells := 0, slots := 0, locals := 12 } : Room)) (fun a U => a = #[(.ref a0), (.double d1), (.double d2)] ∧ Z.Warmed39 U.vm ∧ U.heap = h0) (fun _ _ _ _ _ => True) (fun _ U o U' => ∃ v L, o = .returned v ∧ Qh1 Z a0 d1 d2 h0 n0 v U'.heap L ∧ FrameEnd U o U' L ({ frames := 1, cells := 0, slots := 0, locals := 12 } : Room).cells ({ frames := 1, cells := 0, slots := 0, locals := 12 } : Room).slots) := by
  refine MetFree.of_bodySF (plainFor_of_name pnh1) hisR ?_
  intro p e s m args below meth c s₁ Bd hml0 hP hK
  obtain ⟨rfl, hZ, hh⟩ := hP
  have hx := Bd.exec
  have hby := Bd.bytes
  have hlk := Bd.notSynchronized
  have hml : c.maxLocals = 5 := hml0
  have hown : s.vm.findClass "com/example/meshwatch/meshwatch/Relation" = some m.cls := findClass_of_methodNamed Bd.named
  have hnm := (name_of_methodNamed Bd.named Bd.method).1
  have X0 : Stand p l e ({ frames := 1, cells := 0, slots := 0, locals := 12 } : Room) s m #[(.ref a0), (.double d1), (.double d2)] below meth c s₁ [] 0 0 := Stand.of_body Bd
  have e0 : s₁.heap = h0 := by rw [← hh, Bd.state]; rfl
  have N0 := Fr.nil n0
  have K0 := Keep.refl h0 []
  refine own_enter (Q := Qh1 Z a0 d1 d2 h0 n0) (efh1 m a0 d1 d2) ?_
  refine own_st (T' := s₁) (g' := (mkF m 1 #[.val (.ref a0), .val (.double d1), .second, .val (.double d2), .second] [(.ref a0)])) (fun t k => ?_) ?_
  · show Steps p.tables e below (s₁.setTop (mkF m 0 #[.val (.ref a0), .val (.double d1), .second, .val (.double d2), .second] [])) t
    refine XS.aloadN X0.here hx rfl (hb hby d1_0) rfl rfl ?_
    exact k
  obtain ⟨cq1, kq1, qa1, qb1, qc1⟩ := isOf hZ e0 E_a0
  obtain ⟨_, _, ⟨T1, L1, k1, n1⟩, -, X1, ⟨Lc1, hQ1, l1, y1, z1⟩, st1⟩ := X0.virtualBackUp hx (owner := "java/lang/Enum") (x := (⟨"com/example/meshwatch/meshwatch/Relation", "ordinal", "()I"⟩ : MethodName)) (y := (⟨"java/lang/Enum", "ordinal", "()I"⟩ : MethodName)) hown (mvT hZ (hw _ (List.mem_of_getElem? (i := 9) rfl))) (mvT hZ (hw _ (List.mem_of_getElem? (i := 10) rfl))) (mvT hZ (hw _ (List.mem_of_getElem? (i := 11) rfl))) (by decide) (mvT hZ (hw _ (List.mem_of_getElem? (i := 13) rfl))) (mvT hZ (hw _ (List.mem_of_getElem? (i := 12) rfl))) (backOf (W := 0) (rmo1 l Z ar hw [] a0 h0 n0 Z0 F_ordinal_a0) hZ (hw _ (List.mem_of_getElem? (i := 15) rfl)) (hw _ (List.mem_of_getElem? (i := 14) rfl)) (by decide) (by decide)) qa1 qc1 (g := (mkF m 1 #[.val (.ref a0), .val (.double d1), .second, .val (.double d2), .second] [(.ref a0)])) rfl (by rw [hml]; rfl) (Steps.refl _) (argsL := []) (rest := []) (lenOf pdh1_0 rfl) rfl (by show 2 * 0 + _ ≤ _; exact Nat.le_of_eq rfl) (hb hby d1_1) (fun _ _ => ⟨rfl, e0, (by decide : 0 + 0 ≤ _), (by decide : 0 + 0 ≤ _)⟩)
  dsimp only [Pt.U, Pt.locs, Pt.cells, Pt.slots] at X1 l1 y1 z1 st1 hQ1
  subst l1 y1 z1
  obtain ⟨rfl, N1q, e1⟩ := hQ1
  have n2 := Fr.app N0 N1q
  refine own_tr (T' := T1) (g' := (mkF m 4 #[.val (.ref a0), .val (.double d1), .second, .val (.double d2), .second] [(.int (1 : Int32))])) st1 ?_
  refine own_st (T' := T1) (g' := (mkF m 71 #[.val (.ref a0), .val (.double d1), .second, .val (.double d2), .second] [(.int (cmpValue (FP.dcmp d1 d2) .g))])) (fun t k => ?_) ?_
  · show Steps p.tables e below (T1.setTop (mkF m 4 #[.val (.ref a0), .val (.double d1), .second, .val (.double d2), .second] [(.int (1 : Int32))])) t
    refine XS.tswIn X1.here hx rfl (pc0 := 4) (pc' := 68) rfl (hb hby d1_4) rfl (by decide) rfl (by decide) (by decide) ?_
    show Steps p.tables e below (T1.setTop (mkF m 68 #[.val (.ref a0), .val (.double d1), .second, .val (.double d2), .second] [])) t
    refine XS.dloadN X1.here hx rfl (hb hby d1_68) rfl ?_
    show Steps p.tables e below (T1.setTop (mkF m 69 #[.val (.ref a0), .val (.double d1), .second, .val (.double d2), .second] [(.double d1)])) t
    refine XS.dloadN X1.here hx rfl (hb hby d1_69) rfl ?_
    show Steps p.tables e below (T1.setTop (mkF m 70 #[.val (.ref a0), .val (.double d1), .second, .val (.double d2), .second] [(.double d2), (.double d1)])) t
    refine XS.dcmpS X1.here hx rfl (hb hby d1_70) rfl rfl ?_
    exact k
  by_cases hc71_3 : ifCond.holds .gt (cmpValue (FP.dcmp d1 d2) .g) = true
  · refine own_st (T' := T1) (g' := (mkF m 135 #[.val (.ref a0), .val (.double d1), .second, .val (.double d2), .second] [(.int (0 : Int32))])) (fun t k => ?_) ?_
    · show Steps p.tables e below (T1.setTop (mkF m 71 #[.val (.ref a0), .val (.double d1), .second, .val (.double d2), .second] [(.int (cmpValue (FP.dcmp d1 d2) .g))])) t
      refine XS.ifYes X1.here hx rfl (pc0 := 71) (pc' := 78) rfl (hb hby d1_71) rfl hc71_3 (by decide) (by decide) ?_
      show Steps p.tables e below (T1.setTop (mkF m 78 #[.val (.ref a0), .val (.double d1), .second, .val (.double d2), .second] [])) t
      refine XS.iconst X1.here hx rfl (hb hby d1_78) ?_
      show Steps p.tables e below (T1.setTop (mkF m 79 #[.val (.ref a0), .val (.double d1), .second, .val (.double d2), .second] [(.int (0 : Int32))])) t
      refine XS.goto X1.here hx rfl (pc0 := 79) (pc' := 135) rfl (hb hby d1_79) (by decide) (by decide) ?_
      exact k
    refine own_retZ X1 hx hlk Bd.returns (hb hby d1_135) rfl (by decide) (by decide) ?_
    show Qh1 Z a0 d1 d2 h0 n0 (some (.int (0 : Int32))) T1.heap _
    rw [(e1 : T1.heap = h0)]
    exact ⟨congrArg (fun z => some (Value.int z)) (if_pos hc71_3).symm, n2, rfl⟩
  · refine own_st (T' := T1) (g' := (mkF m 135 #[.val (.ref a0), .val (.double d1), .second, .val (.double d2), .second] [(.int (1 : Int32))])) (fun t k => ?_) ?_
    · show Steps p.tables e below (T1.setTop (mkF m 71 #[.val (.ref a0), .val (.double d1), .second, .val (.double d2), .second] [(.int (cmpValue (FP.dcmp d1 d2) .g))])) t
      refine XS.ifNo X1.here hx rfl (hb hby d1_71) rfl (Bool.eq_false_iff.mpr hc71_3) ?_
      show Steps p.tables e below (T1.setTop (mkF m 74 #[.val (.ref a0), .val (.double d1), .second, .val (.double d2), .second] [])) t
      refine XS.iconst X1.here hx rfl (hb hby d1_74) ?_
      show Steps p.tables e below (T1.setTop (mkF m 75 #[.val (.ref a0), .val (.double d1), .second, .val (.double d2), .second] [(.int (1 : Int32))])) t
      refine XS.goto X1.here hx rfl (pc0 := 75) (pc' := 135) rfl (hb hby d1_75) (by decide) (by decide) ?_
      exact k
    refine own_retZ X1 hx hlk Bd.returns (hb hby d1_135) rfl (by decide) (by decide) ?_
    show Qh1 Z a0 d1 d2 h0 n0 (some (.int (1 : Int32))) T1.heap _
    rw [(e1 : T1.heap = h0)]
    exact ⟨congrArg (fun z => some (Value.int z)) (if_neg hc71_3).symm, n2, rfl⟩
theorem pno2 : plainName "java/lang/Enum" = true := by first | (simp [plainName, overriddenIn]; done) | decide +kernel
theorem efo2 (m : MethodId) (a0 : Addr) : entryFrame m #[(.ref a0)] 1 = mkF m 0 #[.val (.ref a0)] [] := by first | (simp [entryFrame, mkF, argsToLocals, Value.category]; done) | rfl
def Qo2 (Z : State) (a0 : Addr) (h0 : Heap) (n0 : Nat) (v : Option Value) (h : Heap) (L : List Loc) : Prop := v = some (.int (2 : Int32)) ∧ Fr n0 L ∧ h = h0
set_option maxRecDepth 65536 in
set_option maxHeartbeats 40000000 in
theorem rmo2 (l : Launch) (Z : State) (ar : Array Value) (hw : ∀ d ∈ tables_1, d.before ar Z = true) (ws : List Jvm.Cond) (a0 : Addr) (h0 : Heap) (n0 : Nat) (Z0 : n0 ≤ h0.size) (F_ordinal_a0 : Fld Z h0 a0 "java/lang/Enum" "ordinal" "I" (.int (2 : Int32))) :
    MetFree l (⟨"java/lang/Enum", "ordinal", "()I"⟩ : MethodName) (head1 (Jvm.Cond.code (⟨"java/lang/Enum", "ordinal", "()I"⟩ : MethodName) jdk_37_method_2_code 1 (some .int) :: ws) ({ frames := 0, cells := 0, slots := 0, locals := 0 } : Room)) (fun a U => a = #[(.ref a0)] ∧ Z.Warmed39 U.vm ∧ U.heap = h0) (fun _ _ _ _ _ => True) (fun _ U o U' => ∃ v L, o = .returned v ∧ Qo2 Z a0 h0 n0 v U'.heap L ∧ FrameEnd U o U' L ({ frames := 0, cells := 0, slots := 0, locals := 0 } : Room).cells ({ frames := 0, cells := 0, slots := 0, locals := 0 } : Room).slots) := by
  refine MetFree.of_bodySF (plainFor_of_name pno2) hisR ?_
  intro p e s m args below meth c s₁ Bd hml0 hP hK
  obtain ⟨rfl, hZ, hh⟩ := hP
  have hx := Bd.exec
  have hby := Bd.bytes
  have hlk := Bd.notSynchronized
  have hml : c.maxLocals = 1 := hml0
  have hown : s.vm.findClass "java/lang/Enum" = some m.cls := findClass_of_methodNamed Bd.named
  have hnm := (name_of_methodNamed Bd.named Bd.method).1
  have X0 : Stand p l e ({ frames := 0, cells := 0, slots := 0, locals := 0 } : Room) s m #[(.ref a0)] below meth c s₁ [] 0 0 := Stand.of_body Bd
  have e0 : s₁.heap = h0 := by rw [← hh, Bd.state]; rfl
  have N0 := Fr.nil n0
  have K0 := Keep.refl h0 []
  refine own_enter (Q := Qo2 Z a0 h0 n0) (efo2 m a0) ?_
  refine own_st (T' := s₁) (g' := (mkF m 1 #[.val (.ref a0)] [(.ref a0)])) (fun t k => ?_) ?_
  · show Steps p.tables e below (s₁.setTop (mkF m 0 #[.val (.ref a0)] [])) t
    refine XS.aloadN X0.here hx rfl (hb hby d2_0) rfl rfl ?_
    exact k
  obtain ⟨T1, X1, e1, st1⟩ := getF X0 hx hZ hown (host := "") (Or.inl (hw _ (List.mem_of_getElem? (i := 16) rfl))) Via.refl e0 F_ordinal_a0 (g := (mkF m 1 #[.val (.ref a0)] [(.ref a0)])) rfl rfl (hb hby d2_1)
  refine own_st (T' := T1) (g' := (mkF m 4 #[.val (.ref a0)] [(.int (2 : Int32))])) st1 ?_
  refine own_retI X1 hx hlk Bd.returns (hb hby d2_4) (by decide) (by decide) ?_
  show Qo2 Z a0 h0 n0 (some (.int (2 : Int32))) T1.heap _
  rw [(e1 : T1.heap = h0)]
  exact ⟨rfl, N0, rfl⟩
theorem d1_82 : decode prog_24_method_5_code 82 = .ok (.dload_n 1, 1) := by decide +kernel
theorem d1_83 : decode prog_24_method_5_code 83 = .ok (.dload_n 3, 1) := by decide +kernel
theorem d1_84 : decode prog_24_method_5_code 84 = .ok (.dcmp .l, 1) := by decide +kernel
theorem d1_85 : decode prog_24_method_5_code 85 = .ok (.ifCond .le 7, 3) := by decide +kernel
theorem d1_88 : decode prog_24_method_5_code 88 = .ok (.iconst 1, 1) := by decide +kernel
theorem d1_89 : decode prog_24_method_5_code 89 = .ok (.goto 46, 3) := by decide +kernel
theorem d1_92 : decode prog_24_method_5_code 92 = .ok (.iconst 0, 1) := by decide +kernel
theorem d1_93 : decode prog_24_method_5_code 93 = .ok (.goto 42, 3) := by decide +kernel
theorem pnh2 : plainName "com/example/meshwatch/meshwatch/Relation" = true := by first | (simp [plainName, overriddenIn]; done) | decide +kernel
theorem pdh2_0 : parseMethodDescriptor "()I" = some ⟨[], some .int⟩ := by decide +kernel
theorem efh2 (m : MethodId) (a0 : Addr) (d1 : UInt64) (d2 : UInt64) : entryFrame m #[(.ref a0), (.double d1), (.double d2)] 5 = mkF m 0 #[.val (.ref a0), .val (.double d1), .second, .val (.double d2), .second] [] := by first | (simp [entryFrame, mkF, argsToLocals, Value.category]; done) | rfl
def Qh2 (Z : State) (a0 : Addr) (d1 : UInt64) (d2 : UInt64) (h0 : Heap) (n0 : Nat) (v : Option Value) (h : Heap) (L : List Loc) : Prop := v = some (.int (own_h2 (FP.dcmp d1 d2))) ∧ Fr n0 L ∧ h = h0
set_option maxRecDepth 65536 in
set_option maxHeartbeats 40000000 in
theorem rmh2 (l : Launch) (Z : State) (ar : Array Value) (hw : ∀ d ∈ tables_1, d.before ar Z = true) (ws : List Jvm.Cond) (a0 : Addr) (d1 : UInt64) (d2 : UInt64) (h0 : Heap) (n0 : Nat) (Z0 : n0 ≤ h0.size) (E_a0 : Exa Z h0 a0 "com/example/meshwatch/meshwatch/Relation") (F_ordinal_a0 : Fld Z h0 a0 "java/lang/Enum" "ordinal" "I" (.int (2 : Int32))) :
    MetFree l (⟨"com/example/meshwatch/meshwatch/Relation", "holds", "(DD)Z"⟩ : MethodName) (head1 (Jvm.Cond.code (⟨"com/example/meshwatch/meshwatch/Relation", "holds", "(DD)Z"⟩ : MethodName) prog_24_method_5_code 5 (some .boolean) :: ws) ({ frames := 1, cells := 0, slots := 0, locals := 12 } : Room)) (fun a U => a = #[(.ref a0), (.double d1), (.double d2)] ∧ Z.Warmed39 U.vm ∧ U.heap = h0) (fun _ _ _ _ _ => True) (fun _ U o U' => ∃ v L, o = .returned v ∧ Qh2 Z a0 d1 d2 h0 n0 v U'.heap L ∧ FrameEnd U o U' L ({ frames := 1, cells := 0, slots := 0, locals := 12 } : Room).cells ({ frames := 1, cells := 0, slots := 0, locals := 12 } : Room).slots) := by
  refine MetFree.of_bodySF (plainFor_of_name pnh2) hisR ?_
  intro p e s m args below meth c s₁ Bd hml0 hP hK
  obtain ⟨rfl, hZ, hh⟩ := hP
  have hx := Bd.exec
  have hby := Bd.bytes
  have hlk := Bd.notSynchronized
  have hml : c.maxLocals = 5 := hml0
  have hown : s.vm.findClass "com/example/meshwatch/meshwatch/Relation" = some m.cls := findClass_of_methodNamed Bd.named
  have hnm := (name_of_methodNamed Bd.named Bd.method).1
  have X0 : Stand p l e ({ frames := 1, cells := 0, slots := 0, locals := 12 } : Room) s m #[(.ref a0), (.double d1), (.double d2)] below meth c s₁ [] 0 0 := Stand.of_body Bd
  have e0 : s₁.heap = h0 := by rw [← hh, Bd.state]; rfl
  have N0 := Fr.nil n0
  have K0 := Keep.refl h0 []
  refine own_enter (Q := Qh2 Z a0 d1 d2 h0 n0) (efh2 m a0 d1 d2) ?_
  refine own_st (T' := s₁) (g' := (mkF m 1 #[.val (.ref a0), .val (.double d1), .second, .val (.double d2), .second] [(.ref a0)])) (fun t k => ?_) ?_
  · show Steps p.tables e below (s₁.setTop (mkF m 0 #[.val (.ref a0), .val (.double d1), .second, .val (.double d2), .second] [])) t
    refine XS.aloadN X0.here hx rfl (hb hby d1_0) rfl rfl ?_
    exact k
  obtain ⟨cq1, kq1, qa1, qb1, qc1⟩ := isOf hZ e0 E_a0
  obtain ⟨_, _, ⟨T1, L1, k1, n1⟩, -, X1, ⟨Lc1, hQ1, l1, y1, z1⟩, st1⟩ := X0.virtualBackUp hx (owner := "java/lang/Enum") (x := (⟨"com/example/meshwatch/meshwatch/Relation", "ordinal", "()I"⟩ : MethodName)) (y := (⟨"java/lang/Enum", "ordinal", "()I"⟩ : MethodName)) hown (mvT hZ (hw _ (List.mem_of_getElem? (i := 9) rfl))) (mvT hZ (hw _ (List.mem_of_getElem? (i := 10) rfl))) (mvT hZ (hw _ (List.mem_of_getElem? (i := 11) rfl))) (by decide) (mvT hZ (hw _ (List.mem_of_getElem? (i := 13) rfl))) (mvT hZ (hw _ (List.mem_of_getElem? (i := 12) rfl))) (backOf (W := 0) (rmo2 l Z ar hw [] a0 h0 n0 Z0 F_ordinal_a0) hZ (hw _ (List.mem_of_getElem? (i := 15) rfl)) (hw _ (List.mem_of_getElem? (i := 14) rfl)) (by decide) (by decide)) qa1 qc1 (g := (mkF m 1 #[.val (.ref a0), .val (.double d1), .second, .val (.double d2), .second] [(.ref a0)])) rfl (by rw [hml]; rfl) (Steps.refl _) (argsL := []) (rest := []) (lenOf pdh2_0 rfl) rfl (by show 2 * 0 + _ ≤ _; exact Nat.le_of_eq rfl) (hb hby d1_1) (fun _ _ => ⟨rfl, e0, (by decide : 0 + 0 ≤ _), (by decide : 0 + 0 ≤ _)⟩)
  dsimp only [Pt.U, Pt.locs, Pt.cells, Pt.slots] at X1 l1 y1 z1 st1 hQ1
  subst l1 y1 z1
  obtain ⟨rfl, N1q, e1⟩ := hQ1
  have n2 := Fr.app N0 N1q
  refine own_tr (T' := T1) (g' := (mkF m 4 #[.val (.ref a0), .val (.double d1), .second, .val (.double d2), .second] [(.int (2 : Int32))])) st1 ?_
  refine own_st (T' := T1) (g' := (mkF m 85 #[.val (.ref a0), .val (.double d1), .second, .val (.double d2), .second] [(.int (cmpValue (FP.dcmp d1 d2) .l))])) (fun t k => ?_) ?_
  · show Steps p.tables e below (T1.setTop (mkF m 4 #[.val (.ref a0), .val (.double d1), .second, .val (.double d2), .second] [(.int (2 : Int32))])) t
    refine XS.tswIn X1.here hx rfl (pc0 := 4) (pc' := 82) rfl (hb hby d1_4) rfl (by decide) rfl (by decide) (by decide) ?_
    show Steps p.tables e below (T1.setTop (mkF m 82 #[.val (.ref a0), .val (.double d1), .second, .val (.double d2), .second] [])) t
    refine XS.dloadN X1.here hx rfl (hb hby d1_82) rfl ?_
    show Steps p.tables e below (T1.setTop (mkF m 83 #[.val (.ref a0), .val (.double d1), .second, .val (.double d2), .second] [(.double d1)])) t
    refine XS.dloadN X1.here hx rfl (hb hby d1_83) rfl ?_
    show Steps p.tables e below (T1.setTop (mkF m 84 #[.val (.ref a0), .val (.double d1), .second, .val (.double d2), .second] [(.double d2), (.double d1)])) t
    refine XS.dcmpS X1.here hx rfl (hb hby d1_84) rfl rfl ?_
    exact k
  by_cases hc85_3 : ifCond.holds .le (cmpValue (FP.dcmp d1 d2) .l) = true
  · refine own_st (T' := T1) (g' := (mkF m 135 #[.val (.ref a0), .val (.double d1), .second, .val (.double d2), .second] [(.int (0 : Int32))])) (fun t k => ?_) ?_
    · show Steps p.tables e below (T1.setTop (mkF m 85 #[.val (.ref a0), .val (.double d1), .second, .val (.double d2), .second] [(.int (cmpValue (FP.dcmp d1 d2) .l))])) t
      refine XS.ifYes X1.here hx rfl (pc0 := 85) (pc' := 92) rfl (hb hby d1_85) rfl hc85_3 (by decide) (by decide) ?_
      show Steps p.tables e below (T1.setTop (mkF m 92 #[.val (.ref a0), .val (.double d1), .second, .val (.double d2), .second] [])) t
      refine XS.iconst X1.here hx rfl (hb hby d1_92) ?_
      show Steps p.tables e below (T1.setTop (mkF m 93 #[.val (.ref a0), .val (.double d1), .second, .val (.double d2), .second] [(.int (0 : Int32))])) t
      refine XS.goto X1.here hx rfl (pc0 := 93) (pc' := 135) rfl (hb hby d1_93) (by decide) (by decide) ?_
      exact k
    refine own_retZ X1 hx hlk Bd.returns (hb hby d1_135) rfl (by decide) (by decide) ?_
    show Qh2 Z a0 d1 d2 h0 n0 (some (.int (0 : Int32))) T1.heap _
    rw [(e1 : T1.heap = h0)]
    exact ⟨congrArg (fun z => some (Value.int z)) (if_pos hc85_3).symm, n2, rfl⟩
  · refine own_st (T' := T1) (g' := (mkF m 135 #[.val (.ref a0), .val (.double d1), .second, .val (.double d2), .second] [(.int (1 : Int32))])) (fun t k => ?_) ?_
    · show Steps p.tables e below (T1.setTop (mkF m 85 #[.val (.ref a0), .val (.double d1), .second, .val (.double d2), .second] [(.int (cmpValue (FP.dcmp d1 d2) .l))])) t
      refine XS.ifNo X1.here hx rfl (hb hby d1_85) rfl (Bool.eq_false_iff.mpr hc85_3) ?_
      show Steps p.tables e below (T1.setTop (mkF m 88 #[.val (.ref a0), .val (.double d1), .second, .val (.double d2), .second] [])) t
      refine XS.iconst X1.here hx rfl (hb hby d1_88) ?_
      show Steps p.tables e below (T1.setTop (mkF m 89 #[.val (.ref a0), .val (.double d1), .second, .val (.double d2), .second] [(.int (1 : Int32))])) t
      refine XS.goto X1.here hx rfl (pc0 := 89) (pc' := 135) rfl (hb hby d1_89) (by decide) (by decide) ?_
      exact k
    refine own_retZ X1 hx hlk Bd.returns (hb hby d1_135) rfl (by decide) (by decide) ?_
    show Qh2 Z a0 d1 d2 h0 n0 (some (.int (1 : Int32))) T1.heap _
    rw [(e1 : T1.heap = h0)]
    exact ⟨congrArg (fun z => some (Value.int z)) (if_neg hc85_3).symm, n2, rfl⟩
theorem pno3 : plainName "java/lang/Enum" = true := by first | (simp [plainName, overriddenIn]; done) | decide +kernel
theorem efo3 (m : MethodId) (a0 : Addr) : entryFrame m #[(.ref a0)] 1 = mkF m 0 #[.val (.ref a0)] [] := by first | (simp [entryFrame, mkF, argsToLocals, Value.category]; done) | rfl
def Qo3 (Z : State) (a0 : Addr) (h0 : Heap) (n0 : Nat) (v : Option Value) (h : Heap) (L : List Loc) : Prop := v = some (.int (3 : Int32)) ∧ Fr n0 L ∧ h = h0
set_option maxRecDepth 65536 in
set_option maxHeartbeats 40000000 in
theorem rmo3 (l : Launch) (Z : State) (ar : Array Value) (hw : ∀ d ∈ tables_1, d.before ar Z = true) (ws : List Jvm.Cond) (a0 : Addr) (h0 : Heap) (n0 : Nat) (Z0 : n0 ≤ h0.size) (F_ordinal_a0 : Fld Z h0 a0 "java/lang/Enum" "ordinal" "I" (.int (3 : Int32))) :
    MetFree l (⟨"java/lang/Enum", "ordinal", "()I"⟩ : MethodName) (head1 (Jvm.Cond.code (⟨"java/lang/Enum", "ordinal", "()I"⟩ : MethodName) jdk_37_method_2_code 1 (some .int) :: ws) ({ frames := 0, cells := 0, slots := 0, locals := 0 } : Room)) (fun a U => a = #[(.ref a0)] ∧ Z.Warmed39 U.vm ∧ U.heap = h0) (fun _ _ _ _ _ => True) (fun _ U o U' => ∃ v L, o = .returned v ∧ Qo3 Z a0 h0 n0 v U'.heap L ∧ FrameEnd U o U' L ({ frames := 0, cells := 0, slots := 0, locals := 0 } : Room).cells ({ frames := 0, cells := 0, slots := 0, locals := 0 } : Room).slots) := by
  refine MetFree.of_bodySF (plainFor_of_name pno3) hisR ?_
  intro p e s m args below meth c s₁ Bd hml0 hP hK
  obtain ⟨rfl, hZ, hh⟩ := hP
  have hx := Bd.exec
  have hby := Bd.bytes
  have hlk := Bd.notSynchronized
  have hml : c.maxLocals = 1 := hml0
  have hown : s.vm.findClass "java/lang/Enum" = some m.cls := findClass_of_methodNamed Bd.named
  have hnm := (name_of_methodNamed Bd.named Bd.method).1
  have X0 : Stand p l e ({ frames := 0, cells := 0, slots := 0, locals := 0 } : Room) s m #[(.ref a0)] below meth c s₁ [] 0 0 := Stand.of_body Bd
  have e0 : s₁.heap = h0 := by rw [← hh, Bd.state]; rfl
  have N0 := Fr.nil n0
  have K0 := Keep.refl h0 []
  refine own_enter (Q := Qo3 Z a0 h0 n0) (efo3 m a0) ?_
  refine own_st (T' := s₁) (g' := (mkF m 1 #[.val (.ref a0)] [(.ref a0)])) (fun t k => ?_) ?_
  · show Steps p.tables e below (s₁.setTop (mkF m 0 #[.val (.ref a0)] [])) t
    refine XS.aloadN X0.here hx rfl (hb hby d2_0) rfl rfl ?_
    exact k
  obtain ⟨T1, X1, e1, st1⟩ := getF X0 hx hZ hown (host := "") (Or.inl (hw _ (List.mem_of_getElem? (i := 16) rfl))) Via.refl e0 F_ordinal_a0 (g := (mkF m 1 #[.val (.ref a0)] [(.ref a0)])) rfl rfl (hb hby d2_1)
  refine own_st (T' := T1) (g' := (mkF m 4 #[.val (.ref a0)] [(.int (3 : Int32))])) st1 ?_
  refine own_retI X1 hx hlk Bd.returns (hb hby d2_4) (by decide) (by decide) ?_
  show Qo3 Z a0 h0 n0 (some (.int (3 : Int32))) T1.heap _
  rw [(e1 : T1.heap = h0)]
  exact ⟨rfl, N0, rfl⟩
theorem d1_96 : decode prog_24_method_5_code 96 = .ok (.dload_n 1, 1) := by decide +kernel
theorem d1_97 : decode prog_24_method_5_code 97 = .ok (.dload_n 3, 1) := by decide +kernel
theorem d1_98 : decode prog_24_method_5_code 98 = .ok (.dcmp .l, 1) := by decide +kernel
theorem d1_99 : decode prog_24_method_5_code 99 = .ok (.ifCond .lt 7, 3) := by decide +kernel
theorem d1_102 : decode prog_24_method_5_code 102 = .ok (.iconst 1, 1) := by decide +kernel
theorem d1_103 : decode prog_24_method_5_code 103 = .ok (.goto 32, 3) := by decide +kernel
theorem d1_106 : decode prog_24_method_5_code 106 = .ok (.iconst 0, 1) := by decide +kernel
theorem d1_107 : decode prog_24_method_5_code 107 = .ok (.goto 28, 3) := by decide +kernel
theorem pnh3 : plainName "com/example/meshwatch/meshwatch/Relation" = true := by first | (simp [plainName, overriddenIn]; done) | decide +kernel
theorem pdh3_0 : parseMethodDescriptor "()I" = some ⟨[], some .int⟩ := by decide +kernel
theorem efh3 (m : MethodId) (a0 : Addr) (d1 : UInt64) (d2 : UInt64) : entryFrame m #[(.ref a0), (.double d1), (.double d2)] 5 = mkF m 0 #[.val (.ref a0), .val (.double d1), .second, .val (.double d2), .second] [] := by first | (simp [entryFrame, mkF, argsToLocals, Value.category]; done) | rfl
def Qh3 (Z : State) (a0 : Addr) (d1 : UInt64) (d2 : UInt64) (h0 : Heap) (n0 : Nat) (v : Option Value) (h : Heap) (L : List Loc) : Prop := v = some (.int (own_h3 (FP.dcmp d1 d2))) ∧ Fr n0 L ∧ h = h0
set_option maxRecDepth 65536 in
set_option maxHeartbeats 40000000 in
theorem rmh3 (l : Launch) (Z : State) (ar : Array Value) (hw : ∀ d ∈ tables_1, d.before ar Z = true) (ws : List Jvm.Cond) (a0 : Addr) (d1 : UInt64) (d2 : UInt64) (h0 : Heap) (n0 : Nat) (Z0 : n0 ≤ h0.size) (E_a0 : Exa Z h0 a0 "com/example/meshwatch/meshwatch/Relation") (F_ordinal_a0 : Fld Z h0 a0 "java/lang/Enum" "ordinal" "I" (.int (3 : Int32))) :
    MetFree l (⟨"com/example/meshwatch/meshwatch/Relation", "holds", "(DD)Z"⟩ : MethodName) (head1 (Jvm.Cond.code (⟨"com/example/meshwatch/meshwatch/Relation", "holds", "(DD)Z"⟩ : MethodName) prog_24_method_5_code 5 (some .boolean) :: ws) ({ frames := 1, cells := 0, slots := 0, locals := 12 } : Room)) (fun a U => a = #[(.ref a0), (.double d1), (.double d2)] ∧ Z.Warmed39 U.vm ∧ U.heap = h0) (fun _ _ _ _ _ => True) (fun _ U o U' => ∃ v L, o = .returned v ∧ Qh3 Z a0 d1 d2 h0 n0 v U'.heap L ∧ FrameEnd U o U' L ({ frames := 1, cells := 0, slots := 0, locals := 12 } : Room).cells ({ frames := 1, cells := 0, slots := 0, locals := 12 } : Room).slots) := by
  refine MetFree.of_bodySF (plainFor_of_name pnh3) hisR ?_
  intro p e s m args below meth c s₁ Bd hml0 hP hK
  obtain ⟨rfl, hZ, hh⟩ := hP
  have hx := Bd.exec
  have hby := Bd.bytes
  have hlk := Bd.notSynchronized
  have hml : c.maxLocals = 5 := hml0
  have hown : s.vm.findClass "com/example/meshwatch/meshwatch/Relation" = some m.cls := findClass_of_methodNamed Bd.named
  have hnm := (name_of_methodNamed Bd.named Bd.method).1
  have X0 : Stand p l e ({ frames := 1, cells := 0, slots := 0, locals := 12 } : Room) s m #[(.ref a0), (.double d1), (.double d2)] below meth c s₁ [] 0 0 := Stand.of_body Bd
  have e0 : s₁.heap = h0 := by rw [← hh, Bd.state]; rfl
  have N0 := Fr.nil n0
  have K0 := Keep.refl h0 []
  refine own_enter (Q := Qh3 Z a0 d1 d2 h0 n0) (efh3 m a0 d1 d2) ?_
  refine own_st (T' := s₁) (g' := (mkF m 1 #[.val (.ref a0), .val (.double d1), .second, .val (.double d2), .second] [(.ref a0)])) (fun t k => ?_) ?_
  · show Steps p.tables e below (s₁.setTop (mkF m 0 #[.val (.ref a0), .val (.double d1), .second, .val (.double d2), .second] [])) t
    refine XS.aloadN X0.here hx rfl (hb hby d1_0) rfl rfl ?_
    exact k
  obtain ⟨cq1, kq1, qa1, qb1, qc1⟩ := isOf hZ e0 E_a0
  obtain ⟨_, _, ⟨T1, L1, k1, n1⟩, -, X1, ⟨Lc1, hQ1, l1, y1, z1⟩, st1⟩ := X0.virtualBackUp hx (owner := "java/lang/Enum") (x := (⟨"com/example/meshwatch/meshwatch/Relation", "ordinal", "()I"⟩ : MethodName)) (y := (⟨"java/lang/Enum", "ordinal", "()I"⟩ : MethodName)) hown (mvT hZ (hw _ (List.mem_of_getElem? (i := 9) rfl))) (mvT hZ (hw _ (List.mem_of_getElem? (i := 10) rfl))) (mvT hZ (hw _ (List.mem_of_getElem? (i := 11) rfl))) (by decide) (mvT hZ (hw _ (List.mem_of_getElem? (i := 13) rfl))) (mvT hZ (hw _ (List.mem_of_getElem? (i := 12) rfl))) (backOf (W := 0) (rmo3 l Z ar hw [] a0 h0 n0 Z0 F_ordinal_a0) hZ (hw _ (List.mem_of_getElem? (i := 15) rfl)) (hw _ (List.mem_of_getElem? (i := 14) rfl)) (by decide) (by decide)) qa1 qc1 (g := (mkF m 1 #[.val (.ref a0), .val (.double d1), .second, .val (.double d2), .second] [(.ref a0)])) rfl (by rw [hml]; rfl) (Steps.refl _) (argsL := []) (rest := []) (lenOf pdh3_0 rfl) rfl (by show 2 * 0 + _ ≤ _; exact Nat.le_of_eq rfl) (hb hby d1_1) (fun _ _ => ⟨rfl, e0, (by decide : 0 + 0 ≤ _), (by decide : 0 + 0 ≤ _)⟩)
  dsimp only [Pt.U, Pt.locs, Pt.cells, Pt.slots] at X1 l1 y1 z1 st1 hQ1
  subst l1 y1 z1
  obtain ⟨rfl, N1q, e1⟩ := hQ1
  have n2 := Fr.app N0 N1q
  refine own_tr (T' := T1) (g' := (mkF m 4 #[.val (.ref a0), .val (.double d1), .second, .val (.double d2), .second] [(.int (3 : Int32))])) st1 ?_
  refine own_st (T' := T1) (g' := (mkF m 99 #[.val (.ref a0), .val (.double d1), .second, .val (.double d2), .second] [(.int (cmpValue (FP.dcmp d1 d2) .l))])) (fun t k => ?_) ?_
  · show Steps p.tables e below (T1.setTop (mkF m 4 #[.val (.ref a0), .val (.double d1), .second, .val (.double d2), .second] [(.int (3 : Int32))])) t
    refine XS.tswIn X1.here hx rfl (pc0 := 4) (pc' := 96) rfl (hb hby d1_4) rfl (by decide) rfl (by decide) (by decide) ?_
    show Steps p.tables e below (T1.setTop (mkF m 96 #[.val (.ref a0), .val (.double d1), .second, .val (.double d2), .second] [])) t
    refine XS.dloadN X1.here hx rfl (hb hby d1_96) rfl ?_
    show Steps p.tables e below (T1.setTop (mkF m 97 #[.val (.ref a0), .val (.double d1), .second, .val (.double d2), .second] [(.double d1)])) t
    refine XS.dloadN X1.here hx rfl (hb hby d1_97) rfl ?_
    show Steps p.tables e below (T1.setTop (mkF m 98 #[.val (.ref a0), .val (.double d1), .second, .val (.double d2), .second] [(.double d2), (.double d1)])) t
    refine XS.dcmpS X1.here hx rfl (hb hby d1_98) rfl rfl ?_
    exact k
  by_cases hc99_3 : ifCond.holds .lt (cmpValue (FP.dcmp d1 d2) .l) = true
  · refine own_st (T' := T1) (g' := (mkF m 135 #[.val (.ref a0), .val (.double d1), .second, .val (.double d2), .second] [(.int (0 : Int32))])) (fun t k => ?_) ?_
    · show Steps p.tables e below (T1.setTop (mkF m 99 #[.val (.ref a0), .val (.double d1), .second, .val (.double d2), .second] [(.int (cmpValue (FP.dcmp d1 d2) .l))])) t
      refine XS.ifYes X1.here hx rfl (pc0 := 99) (pc' := 106) rfl (hb hby d1_99) rfl hc99_3 (by decide) (by decide) ?_
      show Steps p.tables e below (T1.setTop (mkF m 106 #[.val (.ref a0), .val (.double d1), .second, .val (.double d2), .second] [])) t
      refine XS.iconst X1.here hx rfl (hb hby d1_106) ?_
      show Steps p.tables e below (T1.setTop (mkF m 107 #[.val (.ref a0), .val (.double d1), .second, .val (.double d2), .second] [(.int (0 : Int32))])) t
      refine XS.goto X1.here hx rfl (pc0 := 107) (pc' := 135) rfl (hb hby d1_107) (by decide) (by decide) ?_
      exact k
    refine own_retZ X1 hx hlk Bd.returns (hb hby d1_135) rfl (by decide) (by decide) ?_
    show Qh3 Z a0 d1 d2 h0 n0 (some (.int (0 : Int32))) T1.heap _
    rw [(e1 : T1.heap = h0)]
    exact ⟨congrArg (fun z => some (Value.int z)) (if_pos hc99_3).symm, n2, rfl⟩
  · refine own_st (T' := T1) (g' := (mkF m 135 #[.val (.ref a0), .val (.double d1), .second, .val (.double d2), .second] [(.int (1 : Int32))])) (fun t k => ?_) ?_
    · show Steps p.tables e below (T1.setTop (mkF m 99 #[.val (.ref a0), .val (.double d1), .second, .val (.double d2), .second] [(.int (cmpValue (FP.dcmp d1 d2) .l))])) t
      refine XS.ifNo X1.here hx rfl (hb hby d1_99) rfl (Bool.eq_false_iff.mpr hc99_3) ?_
      show Steps p.tables e below (T1.setTop (mkF m 102 #[.val (.ref a0), .val (.double d1), .second, .val (.double d2), .second] [])) t
      refine XS.iconst X1.here hx rfl (hb hby d1_102) ?_
      show Steps p.tables e below (T1.setTop (mkF m 103 #[.val (.ref a0), .val (.double d1), .second, .val (.double d2), .second] [(.int (1 : Int32))])) t
      refine XS.goto X1.here hx rfl (pc0 := 103) (pc' := 135) rfl (hb hby d1_103) (by decide) (by decide) ?_
      exact k
    refine own_retZ X1 hx hlk Bd.returns (hb hby d1_135) rfl (by decide) (by decide) ?_
    show Qh3 Z a0 d1 d2 h0 n0 (some (.int (1 : Int32))) T1.heap _
    rw [(e1 : T1.heap = h0)]
    exact ⟨congrArg (fun z => some (Value.int z)) (if_neg hc99_3).symm, n2, rfl⟩
theorem pno4 : plainName "java/lang/Enum" = true := by first | (simp [plainName, overriddenIn]; done) | decide +kernel
theorem efo4 (m : MethodId) (a0 : Addr) : entryFrame m #[(.ref a0)] 1 = mkF m 0 #[.val (.ref a0)] [] := by first | (simp [entryFrame, mkF, argsToLocals, Value.category]; done) | rfl
def Qo4 (Z : State) (a0 : Addr) (h0 : Heap) (n0 : Nat) (v : Option Value) (h : Heap) (L : List Loc) : Prop := v = some (.int (4 : Int32)) ∧ Fr n0 L ∧ h = h0
set_option maxRecDepth 65536 in
set_option maxHeartbeats 40000000 in
theorem rmo4 (l : Launch) (Z : State) (ar : Array Value) (hw : ∀ d ∈ tables_1, d.before ar Z = true) (ws : List Jvm.Cond) (a0 : Addr) (h0 : Heap) (n0 : Nat) (Z0 : n0 ≤ h0.size) (F_ordinal_a0 : Fld Z h0 a0 "java/lang/Enum" "ordinal" "I" (.int (4 : Int32))) :
    MetFree l (⟨"java/lang/Enum", "ordinal", "()I"⟩ : MethodName) (head1 (Jvm.Cond.code (⟨"java/lang/Enum", "ordinal", "()I"⟩ : MethodName) jdk_37_method_2_code 1 (some .int) :: ws) ({ frames := 0, cells := 0, slots := 0, locals := 0 } : Room)) (fun a U => a = #[(.ref a0)] ∧ Z.Warmed39 U.vm ∧ U.heap = h0) (fun _ _ _ _ _ => True) (fun _ U o U' => ∃ v L, o = .returned v ∧ Qo4 Z a0 h0 n0 v U'.heap L ∧ FrameEnd U o U' L ({ frames := 0, cells := 0, slots := 0, locals := 0 } : Room).cells ({ frames := 0, cells := 0, slots := 0, locals := 0 } : Room).slots) := by
  refine MetFree.of_bodySF (plainFor_of_name pno4) hisR ?_
  intro p e s m args below meth c s₁ Bd hml0 hP hK
  obtain ⟨rfl, hZ, hh⟩ := hP
  have hx := Bd.exec
  have hby := Bd.bytes
  have hlk := Bd.notSynchronized
  have hml : c.maxLocals = 1 := hml0
  have hown : s.vm.findClass "java/lang/Enum" = some m.cls := findClass_of_methodNamed Bd.named
  have hnm := (name_of_methodNamed Bd.named Bd.method).1
  have X0 : Stand p l e ({ frames := 0, cells := 0, slots := 0, locals := 0 } : Room) s m #[(.ref a0)] below meth c s₁ [] 0 0 := Stand.of_body Bd
  have e0 : s₁.heap = h0 := by rw [← hh, Bd.state]; rfl
  have N0 := Fr.nil n0
  have K0 := Keep.refl h0 []
  refine own_enter (Q := Qo4 Z a0 h0 n0) (efo4 m a0) ?_
  refine own_st (T' := s₁) (g' := (mkF m 1 #[.val (.ref a0)] [(.ref a0)])) (fun t k => ?_) ?_
  · show Steps p.tables e below (s₁.setTop (mkF m 0 #[.val (.ref a0)] [])) t
    refine XS.aloadN X0.here hx rfl (hb hby d2_0) rfl rfl ?_
    exact k
  obtain ⟨T1, X1, e1, st1⟩ := getF X0 hx hZ hown (host := "") (Or.inl (hw _ (List.mem_of_getElem? (i := 16) rfl))) Via.refl e0 F_ordinal_a0 (g := (mkF m 1 #[.val (.ref a0)] [(.ref a0)])) rfl rfl (hb hby d2_1)
  refine own_st (T' := T1) (g' := (mkF m 4 #[.val (.ref a0)] [(.int (4 : Int32))])) st1 ?_
  refine own_retI X1 hx hlk Bd.returns (hb hby d2_4) (by decide) (by decide) ?_
  show Qo4 Z a0 h0 n0 (some (.int (4 : Int32))) T1.heap _
  rw [(e1 : T1.heap = h0)]
  exact ⟨rfl, N0, rfl⟩
theorem d1_110 : decode prog_24_method_5_code 110 = .ok (.dload_n 1, 1) := by decide +kernel
theorem d1_111 : decode prog_24_method_5_code 111 = .ok (.dload_n 3, 1) := by decide +kernel
theorem d1_112 : decode prog_24_method_5_code 112 = .ok (.dcmp .l, 1) := by decide +kernel
theorem d1_113 : decode prog_24_method_5_code 113 = .ok (.ifCond .ne 7, 3) := by decide +kernel
theorem d1_116 : decode prog_24_method_5_code 116 = .ok (.iconst 1, 1) := by decide +kernel
theorem d1_117 : decode prog_24_method_5_code 117 = .ok (.goto 18, 3) := by decide +kernel
theorem d1_120 : decode prog_24_method_5_code 120 = .ok (.iconst 0, 1) := by decide +kernel
theorem d1_121 : decode prog_24_method_5_code 121 = .ok (.goto 14, 3) := by decide +kernel
theorem pnh4 : plainName "com/example/meshwatch/meshwatch/Relation" = true := by first | (simp [plainName, overriddenIn]; done) | decide +kernel
theorem pdh4_0 : parseMethodDescriptor "()I" = some ⟨[], some .int⟩ := by decide +kernel
theorem efh4 (m : MethodId) (a0 : Addr) (d1 : UInt64) (d2 : UInt64) : entryFrame m #[(.ref a0), (.double d1), (.double d2)] 5 = mkF m 0 #[.val (.ref a0), .val (.double d1), .second, .val (.double d2), .second] [] := by first | (simp [entryFrame, mkF, argsToLocals, Value.category]; done) | rfl
def Qh4 (Z : State) (a0 : Addr) (d1 : UInt64) (d2 : UInt64) (h0 : Heap) (n0 : Nat) (v : Option Value) (h : Heap) (L : List Loc) : Prop := v = some (.int (own_h4 (FP.dcmp d1 d2))) ∧ Fr n0 L ∧ h = h0
set_option maxRecDepth 65536 in
set_option maxHeartbeats 40000000 in
theorem rmh4 (l : Launch) (Z : State) (ar : Array Value) (hw : ∀ d ∈ tables_1, d.before ar Z = true) (ws : List Jvm.Cond) (a0 : Addr) (d1 : UInt64) (d2 : UInt64) (h0 : Heap) (n0 : Nat) (Z0 : n0 ≤ h0.size) (E_a0 : Exa Z h0 a0 "com/example/meshwatch/meshwatch/Relation") (F_ordinal_a0 : Fld Z h0 a0 "java/lang/Enum" "ordinal" "I" (.int (4 : Int32))) :
    MetFree l (⟨"com/example/meshwatch/meshwatch/Relation", "holds", "(DD)Z"⟩ : MethodName) (head1 (Jvm.Cond.code (⟨"com/example/meshwatch/meshwatch/Relation", "holds", "(DD)Z"⟩ : MethodName) prog_24_method_5_code 5 (some .boolean) :: ws) ({ frames := 1, cells := 0, slots := 0, locals := 12 } : Room)) (fun a U => a = #[(.ref a0), (.double d1), (.double d2)] ∧ Z.Warmed39 U.vm ∧ U.heap = h0) (fun _ _ _ _ _ => True) (fun _ U o U' => ∃ v L, o = .returned v ∧ Qh4 Z a0 d1 d2 h0 n0 v U'.heap L ∧ FrameEnd U o U' L ({ frames := 1, cells := 0, slots := 0, locals := 12 } : Room).cells ({ frames := 1, cells := 0, slots := 0, locals := 12 } : Room).slots) := by
  refine MetFree.of_bodySF (plainFor_of_name pnh4) hisR ?_
  intro p e s m args below meth c s₁ Bd hml0 hP hK
  obtain ⟨rfl, hZ, hh⟩ := hP
  have hx := Bd.exec
  have hby := Bd.bytes
  have hlk := Bd.notSynchronized
  have hml : c.maxLocals = 5 := hml0
  have hown : s.vm.findClass "com/example/meshwatch/meshwatch/Relation" = some m.cls := findClass_of_methodNamed Bd.named
  have hnm := (name_of_methodNamed Bd.named Bd.method).1
  have X0 : Stand p l e ({ frames := 1, cells := 0, slots := 0, locals := 12 } : Room) s m #[(.ref a0), (.double d1), (.double d2)] below meth c s₁ [] 0 0 := Stand.of_body Bd
  have e0 : s₁.heap = h0 := by rw [← hh, Bd.state]; rfl
  have N0 := Fr.nil n0
  have K0 := Keep.refl h0 []
  refine own_enter (Q := Qh4 Z a0 d1 d2 h0 n0) (efh4 m a0 d1 d2) ?_
  refine own_st (T' := s₁) (g' := (mkF m 1 #[.val (.ref a0), .val (.double d1), .second, .val (.double d2), .second] [(.ref a0)])) (fun t k => ?_) ?_
  · show Steps p.tables e below (s₁.setTop (mkF m 0 #[.val (.ref a0), .val (.double d1), .second, .val (.double d2), .second] [])) t
    refine XS.aloadN X0.here hx rfl (hb hby d1_0) rfl rfl ?_
    exact k
  obtain ⟨cq1, kq1, qa1, qb1, qc1⟩ := isOf hZ e0 E_a0
  obtain ⟨_, _, ⟨T1, L1, k1, n1⟩, -, X1, ⟨Lc1, hQ1, l1, y1, z1⟩, st1⟩ := X0.virtualBackUp hx (owner := "java/lang/Enum") (x := (⟨"com/example/meshwatch/meshwatch/Relation", "ordinal", "()I"⟩ : MethodName)) (y := (⟨"java/lang/Enum", "ordinal", "()I"⟩ : MethodName)) hown (mvT hZ (hw _ (List.mem_of_getElem? (i := 9) rfl))) (mvT hZ (hw _ (List.mem_of_getElem? (i := 10) rfl))) (mvT hZ (hw _ (List.mem_of_getElem? (i := 11) rfl))) (by decide) (mvT hZ (hw _ (List.mem_of_getElem? (i := 13) rfl))) (mvT hZ (hw _ (List.mem_of_getElem? (i := 12) rfl))) (backOf (W := 0) (rmo4 l Z ar hw [] a0 h0 n0 Z0 F_ordinal_a0) hZ (hw _ (List.mem_of_getElem? (i := 15) rfl)) (hw _ (List.mem_of_getElem? (i := 14) rfl)) (by decide) (by decide)) qa1 qc1 (g := (mkF m 1 #[.val (.ref a0), .val (.double d1), .second, .val (.double d2), .second] [(.ref a0)])) rfl (by rw [hml]; rfl) (Steps.refl _) (argsL := []) (rest := []) (lenOf pdh4_0 rfl) rfl (by show 2 * 0 + _ ≤ _; exact Nat.le_of_eq rfl) (hb hby d1_1) (fun _ _ => ⟨rfl, e0, (by decide : 0 + 0 ≤ _), (by decide : 0 + 0 ≤ _)⟩)
  dsimp only [Pt.U, Pt.locs, Pt.cells, Pt.slots] at X1 l1 y1 z1 st1 hQ1
  subst l1 y1 z1
  obtain ⟨rfl, N1q, e1⟩ := hQ1
  have n2 := Fr.app N0 N1q
  refine own_tr (T' := T1) (g' := (mkF m 4 #[.val (.ref a0), .val (.double d1), .second, .val (.double d2), .second] [(.int (4 : Int32))])) st1 ?_
  refine own_st (T' := T1) (g' := (mkF m 113 #[.val (.ref a0), .val (.double d1), .second, .val (.double d2), .second] [(.int (cmpValue (FP.dcmp d1 d2) .l))])) (fun t k => ?_) ?_
  · show Steps p.tables e below (T1.setTop (mkF m 4 #[.val (.ref a0), .val (.double d1), .second, .val (.double d2), .second] [(.int (4 : Int32))])) t
    refine XS.tswIn X1.here hx rfl (pc0 := 4) (pc' := 110) rfl (hb hby d1_4) rfl (by decide) rfl (by decide) (by decide) ?_
    show Steps p.tables e below (T1.setTop (mkF m 110 #[.val (.ref a0), .val (.double d1), .second, .val (.double d2), .second] [])) t
    refine XS.dloadN X1.here hx rfl (hb hby d1_110) rfl ?_
    show Steps p.tables e below (T1.setTop (mkF m 111 #[.val (.ref a0), .val (.double d1), .second, .val (.double d2), .second] [(.double d1)])) t
    refine XS.dloadN X1.here hx rfl (hb hby d1_111) rfl ?_
    show Steps p.tables e below (T1.setTop (mkF m 112 #[.val (.ref a0), .val (.double d1), .second, .val (.double d2), .second] [(.double d2), (.double d1)])) t
    refine XS.dcmpS X1.here hx rfl (hb hby d1_112) rfl rfl ?_
    exact k
  by_cases hc113_3 : ifCond.holds .ne (cmpValue (FP.dcmp d1 d2) .l) = true
  · refine own_st (T' := T1) (g' := (mkF m 135 #[.val (.ref a0), .val (.double d1), .second, .val (.double d2), .second] [(.int (0 : Int32))])) (fun t k => ?_) ?_
    · show Steps p.tables e below (T1.setTop (mkF m 113 #[.val (.ref a0), .val (.double d1), .second, .val (.double d2), .second] [(.int (cmpValue (FP.dcmp d1 d2) .l))])) t
      refine XS.ifYes X1.here hx rfl (pc0 := 113) (pc' := 120) rfl (hb hby d1_113) rfl hc113_3 (by decide) (by decide) ?_
      show Steps p.tables e below (T1.setTop (mkF m 120 #[.val (.ref a0), .val (.double d1), .second, .val (.double d2), .second] [])) t
      refine XS.iconst X1.here hx rfl (hb hby d1_120) ?_
      show Steps p.tables e below (T1.setTop (mkF m 121 #[.val (.ref a0), .val (.double d1), .second, .val (.double d2), .second] [(.int (0 : Int32))])) t
      refine XS.goto X1.here hx rfl (pc0 := 121) (pc' := 135) rfl (hb hby d1_121) (by decide) (by decide) ?_
      exact k
    refine own_retZ X1 hx hlk Bd.returns (hb hby d1_135) rfl (by decide) (by decide) ?_
    show Qh4 Z a0 d1 d2 h0 n0 (some (.int (0 : Int32))) T1.heap _
    rw [(e1 : T1.heap = h0)]
    exact ⟨congrArg (fun z => some (Value.int z)) (if_pos hc113_3).symm, n2, rfl⟩
  · refine own_st (T' := T1) (g' := (mkF m 135 #[.val (.ref a0), .val (.double d1), .second, .val (.double d2), .second] [(.int (1 : Int32))])) (fun t k => ?_) ?_
    · show Steps p.tables e below (T1.setTop (mkF m 113 #[.val (.ref a0), .val (.double d1), .second, .val (.double d2), .second] [(.int (cmpValue (FP.dcmp d1 d2) .l))])) t
      refine XS.ifNo X1.here hx rfl (hb hby d1_113) rfl (Bool.eq_false_iff.mpr hc113_3) ?_
      show Steps p.tables e below (T1.setTop (mkF m 116 #[.val (.ref a0), .val (.double d1), .second, .val (.double d2), .second] [])) t
      refine XS.iconst X1.here hx rfl (hb hby d1_116) ?_
      show Steps p.tables e below (T1.setTop (mkF m 117 #[.val (.ref a0), .val (.double d1), .second, .val (.double d2), .second] [(.int (1 : Int32))])) t
      refine XS.goto X1.here hx rfl (pc0 := 117) (pc' := 135) rfl (hb hby d1_117) (by decide) (by decide) ?_
      exact k
    refine own_retZ X1 hx hlk Bd.returns (hb hby d1_135) rfl (by decide) (by decide) ?_
    show Qh4 Z a0 d1 d2 h0 n0 (some (.int (1 : Int32))) T1.heap _
    rw [(e1 : T1.heap = h0)]
    exact ⟨congrArg (fun z => some (Value.int z)) (if_neg hc113_3).symm, n2, rfl⟩
theorem pno5 : plainName "java/lang/Enum" = true := by first | (simp [plainName, overriddenIn]; done) | decide +kernel
theorem efo5 (m : MethodId) (a0 : Addr) : entryFrame m #[(.ref a0)] 1 = mkF m 0 #[.val (.ref a0)] [] := by first | (simp [entryFrame, mkF, argsToLocals, Value.category]; done) | rfl
def Qo5 (Z : State) (a0 : Addr) (h0 : Heap) (n0 : Nat) (v : Option Value) (h : Heap) (L : List Loc) : Prop := v = some (.int (5 : Int32)) ∧ Fr n0 L ∧ h = h0
set_option maxRecDepth 65536 in
set_option maxHeartbeats 40000000 in
theorem rmo5 (l : Launch) (Z : State) (ar : Array Value) (hw : ∀ d ∈ tables_1, d.before ar Z = true) (ws : List Jvm.Cond) (a0 : Addr) (h0 : Heap) (n0 : Nat) (Z0 : n0 ≤ h0.size) (F_ordinal_a0 : Fld Z h0 a0 "java/lang/Enum" "ordinal" "I" (.int (5 : Int32))) :
    MetFree l (⟨"java/lang/Enum", "ordinal", "()I"⟩ : MethodName) (head1 (Jvm.Cond.code (⟨"java/lang/Enum", "ordinal", "()I"⟩ : MethodName) jdk_37_method_2_code 1 (some .int) :: ws) ({ frames := 0, cells := 0, slots := 0, locals := 0 } : Room)) (fun a U => a = #[(.ref a0)] ∧ Z.Warmed39 U.vm ∧ U.heap = h0) (fun _ _ _ _ _ => True) (fun _ U o U' => ∃ v L, o = .returned v ∧ Qo5 Z a0 h0 n0 v U'.heap L ∧ FrameEnd U o U' L ({ frames := 0, cells := 0, slots := 0, locals := 0 } : Room).cells ({ frames := 0, cells := 0, slots := 0, locals := 0 } : Room).slots) := by
  refine MetFree.of_bodySF (plainFor_of_name pno5) hisR ?_
  intro p e s m args below meth c s₁ Bd hml0 hP hK
  obtain ⟨rfl, hZ, hh⟩ := hP
  have hx := Bd.exec
  have hby := Bd.bytes
  have hlk := Bd.notSynchronized
  have hml : c.maxLocals = 1 := hml0
  have hown : s.vm.findClass "java/lang/Enum" = some m.cls := findClass_of_methodNamed Bd.named
  have hnm := (name_of_methodNamed Bd.named Bd.method).1
  have X0 : Stand p l e ({ frames := 0, cells := 0, slots := 0, locals := 0 } : Room) s m #[(.ref a0)] below meth c s₁ [] 0 0 := Stand.of_body Bd
  have e0 : s₁.heap = h0 := by rw [← hh, Bd.state]; rfl
  have N0 := Fr.nil n0
  have K0 := Keep.refl h0 []
  refine own_enter (Q := Qo5 Z a0 h0 n0) (efo5 m a0) ?_
  refine own_st (T' := s₁) (g' := (mkF m 1 #[.val (.ref a0)] [(.ref a0)])) (fun t k => ?_) ?_
  · show Steps p.tables e below (s₁.setTop (mkF m 0 #[.val (.ref a0)] [])) t
    refine XS.aloadN X0.here hx rfl (hb hby d2_0) rfl rfl ?_
    exact k
  obtain ⟨T1, X1, e1, st1⟩ := getF X0 hx hZ hown (host := "") (Or.inl (hw _ (List.mem_of_getElem? (i := 16) rfl))) Via.refl e0 F_ordinal_a0 (g := (mkF m 1 #[.val (.ref a0)] [(.ref a0)])) rfl rfl (hb hby d2_1)
  refine own_st (T' := T1) (g' := (mkF m 4 #[.val (.ref a0)] [(.int (5 : Int32))])) st1 ?_
  refine own_retI X1 hx hlk Bd.returns (hb hby d2_4) (by decide) (by decide) ?_
  show Qo5 Z a0 h0 n0 (some (.int (5 : Int32))) T1.heap _
  rw [(e1 : T1.heap = h0)]
  exact ⟨rfl, N0, rfl⟩
theorem d1_124 : decode prog_24_method_5_code 124 = .ok (.dload_n 1, 1) := by decide +kernel
theorem d1_125 : decode prog_24_method_5_code 125 = .ok (.dload_n 3, 1) := by decide +kernel
theorem d1_126 : decode prog_24_method_5_code 126 = .ok (.dcmp .l, 1) := by decide +kernel
theorem d1_127 : decode prog_24_method_5_code 127 = .ok (.ifCond .eq 7, 3) := by decide +kernel
theorem d1_130 : decode prog_24_method_5_code 130 = .ok (.iconst 1, 1) := by decide +kernel
theorem d1_131 : decode prog_24_method_5_code 131 = .ok (.goto 4, 3) := by decide +kernel
theorem d1_134 : decode prog_24_method_5_code 134 = .ok (.iconst 0, 1) := by decide +kernel
theorem pnh5 : plainName "com/example/meshwatch/meshwatch/Relation" = true := by first | (simp [plainName, overriddenIn]; done) | decide +kernel
theorem pdh5_0 : parseMethodDescriptor "()I" = some ⟨[], some .int⟩ := by decide +kernel
theorem efh5 (m : MethodId) (a0 : Addr) (d1 : UInt64) (d2 : UInt64) : entryFrame m #[(.ref a0), (.double d1), (.double d2)] 5 = mkF m 0 #[.val (.ref a0), .val (.double d1), .second, .val (.double d2), .second] [] := by first | (simp [entryFrame, mkF, argsToLocals, Value.category]; done) | rfl
def Qh5 (Z : State) (a0 : Addr) (d1 : UInt64) (d2 : UInt64) (h0 : Heap) (n0 : Nat) (v : Option Value) (h : Heap) (L : List Loc) : Prop := v = some (.int (own_h5 (FP.dcmp d1 d2))) ∧ Fr n0 L ∧ h = h0
set_option maxRecDepth 65536 in
set_option maxHeartbeats 40000000 in
theorem rmh5 (l : Launch) (Z : State) (ar : Array Value) (hw : ∀ d ∈ tables_1, d.before ar Z = true) (ws : List Jvm.Cond) (a0 : Addr) (d1 : UInt64) (d2 : UInt64) (h0 : Heap) (n0 : Nat) (Z0 : n0 ≤ h0.size) (E_a0 : Exa Z h0 a0 "com/example/meshwatch/meshwatch/Relation") (F_ordinal_a0 : Fld Z h0 a0 "java/lang/Enum" "ordinal" "I" (.int (5 : Int32))) :
    MetFree l (⟨"com/example/meshwatch/meshwatch/Relation", "holds", "(DD)Z"⟩ : MethodName) (head1 (Jvm.Cond.code (⟨"com/example/meshwatch/meshwatch/Relation", "holds", "(DD)Z"⟩ : MethodName) prog_24_method_5_code 5 (some .boolean) :: ws) ({ frames := 1, cells := 0, slots := 0, locals := 12 } : Room)) (fun a U => a = #[(.ref a0), (.double d1), (.double d2)] ∧ Z.Warmed39 U.vm ∧ U.heap = h0) (fun _ _ _ _ _ => True) (fun _ U o U' => ∃ v L, o = .returned v ∧ Qh5 Z a0 d1 d2 h0 n0 v U'.heap L ∧ FrameEnd U o U' L ({ frames := 1, cells := 0, slots := 0, locals := 12 } : Room).cells ({ frames := 1, cells := 0, slots := 0, locals := 12 } : Room).slots) := by
  refine MetFree.of_bodySF (plainFor_of_name pnh5) hisR ?_
  intro p e s m args below meth c s₁ Bd hml0 hP hK
  obtain ⟨rfl, hZ, hh⟩ := hP
  have hx := Bd.exec
  have hby := Bd.bytes
  have hlk := Bd.notSynchronized
  have hml : c.maxLocals = 5 := hml0
  have hown : s.vm.findClass "com/example/meshwatch/meshwatch/Relation" = some m.cls := findClass_of_methodNamed Bd.named
  have hnm := (name_of_methodNamed Bd.named Bd.method).1
  have X0 : Stand p l e ({ frames := 1, cells := 0, slots := 0, locals := 12 } : Room) s m #[(.ref a0), (.double d1), (.double d2)] below meth c s₁ [] 0 0 := Stand.of_body Bd
  have e0 : s₁.heap = h0 := by rw [← hh, Bd.state]; rfl
  have N0 := Fr.nil n0
  have K0 := Keep.refl h0 []
  refine own_enter (Q := Qh5 Z a0 d1 d2 h0 n0) (efh5 m a0 d1 d2) ?_
  refine own_st (T' := s₁) (g' := (mkF m 1 #[.val (.ref a0), .val (.double d1), .second, .val (.double d2), .second] [(.ref a0)])) (fun t k => ?_) ?_
  · show Steps p.tables e below (s₁.setTop (mkF m 0 #[.val (.ref a0), .val (.double d1), .second, .val (.double d2), .second] [])) t
    refine XS.aloadN X0.here hx rfl (hb hby d1_0) rfl rfl ?_
    exact k
  obtain ⟨cq1, kq1, qa1, qb1, qc1⟩ := isOf hZ e0 E_a0
  obtain ⟨_, _, ⟨T1, L1, k1, n1⟩, -, X1, ⟨Lc1, hQ1, l1, y1, z1⟩, st1⟩ := X0.virtualBackUp hx (owner := "java/lang/Enum") (x := (⟨"com/example/meshwatch/meshwatch/Relation", "ordinal", "()I"⟩ : MethodName)) (y := (⟨"java/lang/Enum", "ordinal", "()I"⟩ : MethodName)) hown (mvT hZ (hw _ (List.mem_of_getElem? (i := 9) rfl))) (mvT hZ (hw _ (List.mem_of_getElem? (i := 10) rfl))) (mvT hZ (hw _ (List.mem_of_getElem? (i := 11) rfl))) (by decide) (mvT hZ (hw _ (List.mem_of_getElem? (i := 13) rfl))) (mvT hZ (hw _ (List.mem_of_getElem? (i := 12) rfl))) (backOf (W := 0) (rmo5 l Z ar hw [] a0 h0 n0 Z0 F_ordinal_a0) hZ (hw _ (List.mem_of_getElem? (i := 15) rfl)) (hw _ (List.mem_of_getElem? (i := 14) rfl)) (by decide) (by decide)) qa1 qc1 (g := (mkF m 1 #[.val (.ref a0), .val (.double d1), .second, .val (.double d2), .second] [(.ref a0)])) rfl (by rw [hml]; rfl) (Steps.refl _) (argsL := []) (rest := []) (lenOf pdh5_0 rfl) rfl (by show 2 * 0 + _ ≤ _; exact Nat.le_of_eq rfl) (hb hby d1_1) (fun _ _ => ⟨rfl, e0, (by decide : 0 + 0 ≤ _), (by decide : 0 + 0 ≤ _)⟩)
  dsimp only [Pt.U, Pt.locs, Pt.cells, Pt.slots] at X1 l1 y1 z1 st1 hQ1
  subst l1 y1 z1
  obtain ⟨rfl, N1q, e1⟩ := hQ1
  have n2 := Fr.app N0 N1q
  refine own_tr (T' := T1) (g' := (mkF m 4 #[.val (.ref a0), .val (.double d1), .second, .val (.double d2), .second] [(.int (5 : Int32))])) st1 ?_
  refine own_st (T' := T1) (g' := (mkF m 127 #[.val (.ref a0), .val (.double d1), .second, .val (.double d2), .second] [(.int (cmpValue (FP.dcmp d1 d2) .l))])) (fun t k => ?_) ?_
  · show Steps p.tables e below (T1.setTop (mkF m 4 #[.val (.ref a0), .val (.double d1), .second, .val (.double d2), .second] [(.int (5 : Int32))])) t
    refine XS.tswIn X1.here hx rfl (pc0 := 4) (pc' := 124) rfl (hb hby d1_4) rfl (by decide) rfl (by decide) (by decide) ?_
    show Steps p.tables e below (T1.setTop (mkF m 124 #[.val (.ref a0), .val (.double d1), .second, .val (.double d2), .second] [])) t
    refine XS.dloadN X1.here hx rfl (hb hby d1_124) rfl ?_
    show Steps p.tables e below (T1.setTop (mkF m 125 #[.val (.ref a0), .val (.double d1), .second, .val (.double d2), .second] [(.double d1)])) t
    refine XS.dloadN X1.here hx rfl (hb hby d1_125) rfl ?_
    show Steps p.tables e below (T1.setTop (mkF m 126 #[.val (.ref a0), .val (.double d1), .second, .val (.double d2), .second] [(.double d2), (.double d1)])) t
    refine XS.dcmpS X1.here hx rfl (hb hby d1_126) rfl rfl ?_
    exact k
  by_cases hc127_3 : ifCond.holds .eq (cmpValue (FP.dcmp d1 d2) .l) = true
  · refine own_st (T' := T1) (g' := (mkF m 135 #[.val (.ref a0), .val (.double d1), .second, .val (.double d2), .second] [(.int (0 : Int32))])) (fun t k => ?_) ?_
    · show Steps p.tables e below (T1.setTop (mkF m 127 #[.val (.ref a0), .val (.double d1), .second, .val (.double d2), .second] [(.int (cmpValue (FP.dcmp d1 d2) .l))])) t
      refine XS.ifYes X1.here hx rfl (pc0 := 127) (pc' := 134) rfl (hb hby d1_127) rfl hc127_3 (by decide) (by decide) ?_
      show Steps p.tables e below (T1.setTop (mkF m 134 #[.val (.ref a0), .val (.double d1), .second, .val (.double d2), .second] [])) t
      refine XS.iconst X1.here hx rfl (hb hby d1_134) ?_
      exact k
    refine own_retZ X1 hx hlk Bd.returns (hb hby d1_135) rfl (by decide) (by decide) ?_
    show Qh5 Z a0 d1 d2 h0 n0 (some (.int (0 : Int32))) T1.heap _
    rw [(e1 : T1.heap = h0)]
    exact ⟨congrArg (fun z => some (Value.int z)) (if_pos hc127_3).symm, n2, rfl⟩
  · refine own_st (T' := T1) (g' := (mkF m 135 #[.val (.ref a0), .val (.double d1), .second, .val (.double d2), .second] [(.int (1 : Int32))])) (fun t k => ?_) ?_
    · show Steps p.tables e below (T1.setTop (mkF m 127 #[.val (.ref a0), .val (.double d1), .second, .val (.double d2), .second] [(.int (cmpValue (FP.dcmp d1 d2) .l))])) t
      refine XS.ifNo X1.here hx rfl (hb hby d1_127) rfl (Bool.eq_false_iff.mpr hc127_3) ?_
      show Steps p.tables e below (T1.setTop (mkF m 130 #[.val (.ref a0), .val (.double d1), .second, .val (.double d2), .second] [])) t
      refine XS.iconst X1.here hx rfl (hb hby d1_130) ?_
      show Steps p.tables e below (T1.setTop (mkF m 131 #[.val (.ref a0), .val (.double d1), .second, .val (.double d2), .second] [(.int (1 : Int32))])) t
      refine XS.goto X1.here hx rfl (pc0 := 131) (pc' := 135) rfl (hb hby d1_131) (by decide) (by decide) ?_
      exact k
    refine own_retZ X1 hx hlk Bd.returns (hb hby d1_135) rfl (by decide) (by decide) ?_
    show Qh5 Z a0 d1 d2 h0 n0 (some (.int (1 : Int32))) T1.heap _
    rw [(e1 : T1.heap = h0)]
    exact ⟨congrArg (fun z => some (Value.int z)) (if_neg hc127_3).symm, n2, rfl⟩
theorem pn0 : plainName "com/example/meshwatch/meshwatch/RelationHoldsPinLaw" = true := by first | (simp [plainName, overriddenIn]; done) | decide +kernel
theorem pd0_0 : parseMethodDescriptor "(DD)Z" = some ⟨[.double, .double], some .boolean⟩ := by decide +kernel
theorem ef0 (m : MethodId) (p0 : Int32) (p1 : Int32) (p2 : Int32) (p3 : Int32) : entryFrame m #[(.int p0), (.int p1), (.int p2), (.int p3)] maxLocals = mkF m 0 #[.val (.int p0), .val (.int p1), .val (.int p2), .val (.int p3), .unset, .unset, .unset, .unset, .unset, .unset, .unset, .unset, .unset] [] := by first | (simp [entryFrame, mkF, argsToLocals, Value.category, maxLocals]; done) | rfl
def Q0 (Z : State) (p0 : Int32) (p1 : Int32) (p2 : Int32) (p3 : Int32) (w_LESS : Addr) (w_LESS_OR_EQUAL : Addr) (w_GREATER : Addr) (w_GREATER_OR_EQUAL : Addr) (w_EQUAL : Addr) (w_NOT_EQUAL : Addr) (h0 : Heap) (n0 : Nat) (v : Option Value) (h : Heap) (L : List Loc) : Prop := v = some (.int (1 : Int32)) ∧ Fr n0 L
set_option maxRecDepth 65536 in
set_option maxHeartbeats 40000000 in
theorem rm0 (l : Launch) (Z : State) (ar : Array Value) (hw : ∀ d ∈ tables_1, d.before ar Z = true) (ws : List Jvm.Cond) (p0 : Int32) (p1 : Int32) (p2 : Int32) (p3 : Int32) (w_LESS : Addr) (w_LESS_OR_EQUAL : Addr) (w_GREATER : Addr) (w_GREATER_OR_EQUAL : Addr) (w_EQUAL : Addr) (w_NOT_EQUAL : Addr) (h0 : Heap) (n0 : Nat) (Z0 : n0 ≤ h0.size) (S_LESS : Sta Z h0 "com/example/meshwatch/meshwatch/Relation" "LESS" "Lcom/example/meshwatch/meshwatch/Relation;" (.ref w_LESS)) (E_w_LESS : Exa Z h0 w_LESS "com/example/meshwatch/meshwatch/Relation") (F_ordinal_w_LESS : Fld Z h0 w_LESS "java/lang/Enum" "ordinal" "I" (.int (0 : Int32))) (S_LESS_OR_EQUAL : Sta Z h0 "com/example/meshwatch/meshwatch/Relation" "LESS_OR_EQUAL" "Lcom/example/meshwatch/meshwatch/Relation;" (.ref w_LESS_OR_EQUAL)) (E_w_LESS_OR_EQUAL : Exa Z h0 w_LESS_OR_EQUAL "com/example/meshwatch/meshwatch/Relation") (F_ordinal_w_LESS_OR_EQUAL : Fld Z h0 w_LESS_OR_EQUAL "java/lang/Enum" "ordinal" "I" (.int (1 : Int32))) (S_GREATER : Sta Z h0 "com/example/meshwatch/meshwatch/Relation" "GREATER" "Lcom/example/meshwatch/meshwatch/Relation;" (.ref w_GREATER)) (E_w_GREATER : Exa Z h0 w_GREATER "com/example/meshwatch/meshwatch/Relation") (F_ordinal_w_GREATER : Fld Z h0 w_GREATER "java/lang/Enum" "ordinal" "I" (.int (2 : Int32))) (S_GREATER_OR_EQUAL : Sta Z h0 "com/example/meshwatch/meshwatch/Relation" "GREATER_OR_EQUAL" "Lcom/example/meshwatch/meshwatch/Relation;" (.ref w_GREATER_OR_EQUAL)) (E_w_GREATER_OR_EQUAL : Exa Z h0 w_GREATER_OR_EQUAL "com/example/meshwatch/meshwatch/Relation") (F_ordinal_w_GREATER_OR_EQUAL : Fld Z h0 w_GREATER_OR_EQUAL "java/lang/Enum" "ordinal" "I" (.int (3 : Int32))) (S_EQUAL : Sta Z h0 "com/example/meshwatch/meshwatch/Relation" "EQUAL" "Lcom/example/meshwatch/meshwatch/Relation;" (.ref w_EQUAL)) (E_w_EQUAL : Exa Z h0 w_EQUAL "com/example/meshwatch/meshwatch/Relation") (F_ordinal_w_EQUAL : Fld Z h0 w_EQUAL "java/lang/Enum" "ordinal" "I" (.int (4 : Int32))) (S_NOT_EQUAL : Sta Z h0 "com/example/meshwatch/meshwatch/Relation" "NOT_EQUAL" "Lcom/example/meshwatch/meshwatch/Relation;" (.ref w_NOT_EQUAL)) (E_w_NOT_EQUAL : Exa Z h0 w_NOT_EQUAL "com/example/meshwatch/meshwatch/Relation") (F_ordinal_w_NOT_EQUAL : Fld Z h0 w_NOT_EQUAL "java/lang/Enum" "ordinal" "I" (.int (5 : Int32))) :
    MetFree l x (head1 (Jvm.Cond.code x code maxLocals ret :: ws) room_1) (fun a U => a = #[(.int p0), (.int p1), (.int p2), (.int p3)] ∧ Z.Warmed39 U.vm ∧ U.heap = h0) (fun _ _ _ _ _ => True) (fun _ U o U' => ∃ v L, o = .returned v ∧ Q0 Z p0 p1 p2 p3 w_LESS w_LESS_OR_EQUAL w_GREATER w_GREATER_OR_EQUAL w_EQUAL w_NOT_EQUAL h0 n0 v U'.heap L ∧ FrameEnd U o U' L room_1.cells room_1.slots) := by
  refine MetFree.of_bodySF (plainFor_of_name pn0) hisR ?_
  intro p e s m args below meth c s₁ Bd hml0 hP hK
  obtain ⟨rfl, hZ, hh⟩ := hP
  have hx := Bd.exec
  have hby := Bd.bytes
  have hlk := Bd.notSynchronized
  have hml : c.maxLocals = 13 := hml0
  have hown : s.vm.findClass "com/example/meshwatch/meshwatch/RelationHoldsPinLaw" = some m.cls := findClass_of_methodNamed Bd.named
  have hnm := (name_of_methodNamed Bd.named Bd.method).1
  have X0 : Stand p l e room_1 s m #[(.int p0), (.int p1), (.int p2), (.int p3)] below meth c s₁ [] 0 0 := Stand.of_body Bd
  have e0 : s₁.heap = h0 := by rw [← hh, Bd.state]; rfl
  have N0 := Fr.nil n0
  have K0 := Keep.refl h0 []
  refine own_enter (Q := Q0 Z p0 p1 p2 p3 w_LESS w_LESS_OR_EQUAL w_GREATER w_GREATER_OR_EQUAL w_EQUAL w_NOT_EQUAL h0 n0) (ef0 m p0 p1 p2 p3) ?_
  refine own_st (T' := s₁) (g' := (mkF m 16 #[.val (.int p0), .val (.int p1), .val (.int p2), .val (.int p3), .val (.int ((p0 &&& (2147483647 : Int32)) % (6 : Int32))), .val (.long (p1.toInt64)), .second, .unset, .unset, .unset, .unset, .unset, .unset] [(.int (p3 &&& (1 : Int32)))])) (fun t k => ?_) ?_
  · show Steps p.tables e below (s₁.setTop (mkF m 0 #[.val (.int p0), .val (.int p1), .val (.int p2), .val (.int p3), .unset, .unset, .unset, .unset, .unset, .unset, .unset, .unset, .unset] [])) t
    refine XS.iloadN X0.here hx rfl (hb hby at_0) rfl ?_
    show Steps p.tables e below (s₁.setTop (mkF m 1 #[.val (.int p0), .val (.int p1), .val (.int p2), .val (.int p3), .unset, .unset, .unset, .unset, .unset, .unset, .unset, .unset, .unset] [(.int p0)])) t
    refine X0.ldcInt hx hown (mvT hZ (hw _ (List.mem_of_getElem? (i := 0) rfl))) (g := (mkF m 1 #[.val (.int p0), .val (.int p1), .val (.int p2), .val (.int p3), .unset, .unset, .unset, .unset, .unset, .unset, .unset, .unset, .unset] [(.int p0)])) rfl (hb hby at_1) _ ?_
    show Steps p.tables e below (s₁.setTop (mkF m 3 #[.val (.int p0), .val (.int p1), .val (.int p2), .val (.int p3), .unset, .unset, .unset, .unset, .unset, .unset, .unset, .unset, .unset] [(.int (2147483647 : Int32)), (.int p0)])) t
    refine XS.iand X0.here hx rfl (hb hby at_3) rfl ?_
    show Steps p.tables e below (s₁.setTop (mkF m 4 #[.val (.int p0), .val (.int p1), .val (.int p2), .val (.int p3), .unset, .unset, .unset, .unset, .unset, .unset, .unset, .unset, .unset] [(.int (p0 &&& (2147483647 : Int32)))])) t
    refine XS.bipush X0.here hx rfl (hb hby at_4) ?_
    show Steps p.tables e below (s₁.setTop (mkF m 6 #[.val (.int p0), .val (.int p1), .val (.int p2), .val (.int p3), .unset, .unset, .unset, .unset, .unset, .unset, .unset, .unset, .unset] [(.int (6 : Int32)), (.int (p0 &&& (2147483647 : Int32)))])) t
    refine iremM X0 hx rfl (hb hby at_6) rfl (by decide) ?_
    show Steps p.tables e below (s₁.setTop (mkF m 7 #[.val (.int p0), .val (.int p1), .val (.int p2), .val (.int p3), .unset, .unset, .unset, .unset, .unset, .unset, .unset, .unset, .unset] [(.int ((p0 &&& (2147483647 : Int32)) % (6 : Int32)))])) t
    refine XS.istore X0.here hx rfl (hb hby at_7) rfl (l' := #[.val (.int p0), .val (.int p1), .val (.int p2), .val (.int p3), .val (.int ((p0 &&& (2147483647 : Int32)) % (6 : Int32))), .unset, .unset, .unset, .unset, .unset, .unset, .unset, .unset]) rfl ?_
    show Steps p.tables e below (s₁.setTop (mkF m 9 #[.val (.int p0), .val (.int p1), .val (.int p2), .val (.int p3), .val (.int ((p0 &&& (2147483647 : Int32)) % (6 : Int32))), .unset, .unset, .unset, .unset, .unset, .unset, .unset, .unset] [])) t
    refine XS.iloadN X0.here hx rfl (hb hby at_9) rfl ?_
    show Steps p.tables e below (s₁.setTop (mkF m 10 #[.val (.int p0), .val (.int p1), .val (.int p2), .val (.int p3), .val (.int ((p0 &&& (2147483647 : Int32)) % (6 : Int32))), .unset, .unset, .unset, .unset, .unset, .unset, .unset, .unset] [(.int p1)])) t
    refine XS.i2l X0.here hx rfl (hb hby at_10) rfl ?_
    show Steps p.tables e below (s₁.setTop (mkF m 11 #[.val (.int p0), .val (.int p1), .val (.int p2), .val (.int p3), .val (.int ((p0 &&& (2147483647 : Int32)) % (6 : Int32))), .unset, .unset, .unset, .unset, .unset, .unset, .unset, .unset] [(.long (p1.toInt64))])) t
    refine XS.lstore X0.here hx rfl (hb hby at_11) rfl (l' := #[.val (.int p0), .val (.int p1), .val (.int p2), .val (.int p3), .val (.int ((p0 &&& (2147483647 : Int32)) % (6 : Int32))), .val (.long (p1.toInt64)), .second, .unset, .unset, .unset, .unset, .unset, .unset]) rfl ?_
    show Steps p.tables e below (s₁.setTop (mkF m 13 #[.val (.int p0), .val (.int p1), .val (.int p2), .val (.int p3), .val (.int ((p0 &&& (2147483647 : Int32)) % (6 : Int32))), .val (.long (p1.toInt64)), .second, .unset, .unset, .unset, .unset, .unset, .unset] [])) t
    refine XS.iloadN X0.here hx rfl (hb hby at_13) rfl ?_
    show Steps p.tables e below (s₁.setTop (mkF m 14 #[.val (.int p0), .val (.int p1), .val (.int p2), .val (.int p3), .val (.int ((p0 &&& (2147483647 : Int32)) % (6 : Int32))), .val (.long (p1.toInt64)), .second, .unset, .unset, .unset, .unset, .unset, .unset] [(.int p3)])) t
    refine XS.iconst X0.here hx rfl (hb hby at_14) ?_
    show Steps p.tables e below (s₁.setTop (mkF m 15 #[.val (.int p0), .val (.int p1), .val (.int p2), .val (.int p3), .val (.int ((p0 &&& (2147483647 : Int32)) % (6 : Int32))), .val (.long (p1.toInt64)), .second, .unset, .unset, .unset, .unset, .unset, .unset] [(.int (1 : Int32)), (.int p3)])) t
    refine XS.iand X0.here hx rfl (hb hby at_15) rfl ?_
    exact k
  have hJ35 : ∀ (lb : Int64) (hlb : own_B lb), own_G p e below s (Q0 Z p0 p1 p2 p3 w_LESS w_LESS_OR_EQUAL w_GREATER w_GREATER_OR_EQUAL w_EQUAL w_NOT_EQUAL h0 n0) (room_1).cells (room_1).slots s₁ (mkF m 35 #[.val (.int p0), .val (.int p1), .val (.int p2), .val (.int p3), .val (.int ((p0 &&& (2147483647 : Int32)) % (6 : Int32))), .val (.long (p1.toInt64)), .second, .unset, .unset, .unset, .unset, .unset, .unset] [(.long lb)]) := by
    intro lb hlb
    refine own_st (T' := s₁) (g' := (mkF m 39 #[.val (.int p0), .val (.int p1), .val (.int p2), .val (.int p3), .val (.int ((p0 &&& (2147483647 : Int32)) % (6 : Int32))), .val (.long (p1.toInt64)), .second, .val (.long lb), .second, .unset, .unset, .unset, .unset] [(.int ((p0 &&& (2147483647 : Int32)) % (6 : Int32)))])) (fun t k => ?_) ?_
    · show Steps p.tables e below (s₁.setTop (mkF m 35 #[.val (.int p0), .val (.int p1), .val (.int p2), .val (.int p3), .val (.int ((p0 &&& (2147483647 : Int32)) % (6 : Int32))), .val (.long (p1.toInt64)), .second, .unset, .unset, .unset, .unset, .unset, .unset] [(.long lb)])) t
      refine XS.lstore X0.here hx rfl (hb hby at_35) rfl (l' := #[.val (.int p0), .val (.int p1), .val (.int p2), .val (.int p3), .val (.int ((p0 &&& (2147483647 : Int32)) % (6 : Int32))), .val (.long (p1.toInt64)), .second, .val (.long lb), .second, .unset, .unset, .unset, .unset]) rfl ?_
      show Steps p.tables e below (s₁.setTop (mkF m 37 #[.val (.int p0), .val (.int p1), .val (.int p2), .val (.int p3), .val (.int ((p0 &&& (2147483647 : Int32)) % (6 : Int32))), .val (.long (p1.toInt64)), .second, .val (.long lb), .second, .unset, .unset, .unset, .unset] [])) t
      refine XS.iload X0.here hx rfl (hb hby at_37) rfl ?_
      exact k
    by_cases hc39_1 : ((p0 &&& (2147483647 : Int32)) % (6 : Int32)) = (0 : Int32)
    · refine own_st (T' := s₁) (g' := (mkF m 42 #[.val (.int p0), .val (.int p1), .val (.int p2), .val (.int p3), .val (.int ((p0 &&& (2147483647 : Int32)) % (6 : Int32))), .val (.long (p1.toInt64)), .second, .val (.long lb), .second, .unset, .unset, .unset, .unset] [])) (fun t k => ?_) ?_
      · show Steps p.tables e below (s₁.setTop (mkF m 39 #[.val (.int p0), .val (.int p1), .val (.int p2), .val (.int p3), .val (.int ((p0 &&& (2147483647 : Int32)) % (6 : Int32))), .val (.long (p1.toInt64)), .second, .val (.long lb), .second, .unset, .unset, .unset, .unset] [(.int ((p0 &&& (2147483647 : Int32)) % (6 : Int32)))])) t
        refine XS.ifNo X0.here hx rfl (hb hby at_39) rfl ((if0 _ _).trans (teq hc39_1).2) ?_
        exact k
      obtain ⟨T2, X2, e2, st2⟩ := getS2 X0 hx hZ hown (host := "") (Or.inl (hw _ (List.mem_of_getElem? (i := 1) rfl))) Via.refl e0 S_LESS (g := (mkF m 42 #[.val (.int p0), .val (.int p1), .val (.int p2), .val (.int p3), .val (.int ((p0 &&& (2147483647 : Int32)) % (6 : Int32))), .val (.long (p1.toInt64)), .second, .val (.long lb), .second, .unset, .unset, .unset, .unset] [])) rfl (hb hby at_42)
      refine own_st (T' := T2) (g' := (mkF m 45 #[.val (.int p0), .val (.int p1), .val (.int p2), .val (.int p3), .val (.int ((p0 &&& (2147483647 : Int32)) % (6 : Int32))), .val (.long (p1.toInt64)), .second, .val (.long lb), .second, .unset, .unset, .unset, .unset] [(.ref w_LESS)])) st2 ?_
      refine own_st (T' := T2) (g' := (mkF m 135 #[.val (.int p0), .val (.int p1), .val (.int p2), .val (.int p3), .val (.int ((p0 &&& (2147483647 : Int32)) % (6 : Int32))), .val (.long (p1.toInt64)), .second, .val (.long lb), .second, .val (.ref w_LESS), .val (.int (1 : Int32)), .unset, .unset] [(.int (lcmpW (p1.toInt64) lb))])) (fun t k => ?_) ?_
      · show Steps p.tables e below (T2.setTop (mkF m 45 #[.val (.int p0), .val (.int p1), .val (.int p2), .val (.int p3), .val (.int ((p0 &&& (2147483647 : Int32)) % (6 : Int32))), .val (.long (p1.toInt64)), .second, .val (.long lb), .second, .unset, .unset, .unset, .unset] [(.ref w_LESS)])) t
        refine XS.astore X2.here hx rfl (hb hby at_45) rfl rfl (l' := #[.val (.int p0), .val (.int p1), .val (.int p2), .val (.int p3), .val (.int ((p0 &&& (2147483647 : Int32)) % (6 : Int32))), .val (.long (p1.toInt64)), .second, .val (.long lb), .second, .val (.ref w_LESS), .unset, .unset, .unset]) rfl ?_
        show Steps p.tables e below (T2.setTop (mkF m 47 #[.val (.int p0), .val (.int p1), .val (.int p2), .val (.int p3), .val (.int ((p0 &&& (2147483647 : Int32)) % (6 : Int32))), .val (.long (p1.toInt64)), .second, .val (.long lb), .second, .val (.ref w_LESS), .unset, .unset, .unset] [])) t
        refine XS.iconst X2.here hx rfl (hb hby at_47) ?_
        show Steps p.tables e below (T2.setTop (mkF m 48 #[.val (.int p0), .val (.int p1), .val (.int p2), .val (.int p3), .val (.int ((p0 &&& (2147483647 : Int32)) % (6 : Int32))), .val (.long (p1.toInt64)), .second, .val (.long lb), .second, .val (.ref w_LESS), .unset, .unset, .unset] [(.int (1 : Int32))])) t
        refine XS.istore X2.here hx rfl (hb hby at_48) rfl (l' := #[.val (.int p0), .val (.int p1), .val (.int p2), .val (.int p3), .val (.int ((p0 &&& (2147483647 : Int32)) % (6 : Int32))), .val (.long (p1.toInt64)), .second, .val (.long lb), .second, .val (.ref w_LESS), .val (.int (1 : Int32)), .unset, .unset]) rfl ?_
        show Steps p.tables e below (T2.setTop (mkF m 50 #[.val (.int p0), .val (.int p1), .val (.int p2), .val (.int p3), .val (.int ((p0 &&& (2147483647 : Int32)) % (6 : Int32))), .val (.long (p1.toInt64)), .second, .val (.long lb), .second, .val (.ref w_LESS), .val (.int (1 : Int32)), .unset, .unset] [])) t
        refine XS.goto X2.here hx rfl (pc0 := 50) (pc' := 130) rfl (hb hby at_50) (by decide) (by decide) ?_
        show Steps p.tables e below (T2.setTop (mkF m 130 #[.val (.int p0), .val (.int p1), .val (.int p2), .val (.int p3), .val (.int ((p0 &&& (2147483647 : Int32)) % (6 : Int32))), .val (.long (p1.toInt64)), .second, .val (.long lb), .second, .val (.ref w_LESS), .val (.int (1 : Int32)), .unset, .unset] [])) t
        refine XS.lload X2.here hx rfl (hb hby at_130) rfl ?_
        show Steps p.tables e below (T2.setTop (mkF m 132 #[.val (.int p0), .val (.int p1), .val (.int p2), .val (.int p3), .val (.int ((p0 &&& (2147483647 : Int32)) % (6 : Int32))), .val (.long (p1.toInt64)), .second, .val (.long lb), .second, .val (.ref w_LESS), .val (.int (1 : Int32)), .unset, .unset] [(.long (p1.toInt64))])) t
        refine XS.lload X2.here hx rfl (hb hby at_132) rfl ?_
        show Steps p.tables e below (T2.setTop (mkF m 134 #[.val (.int p0), .val (.int p1), .val (.int p2), .val (.int p3), .val (.int ((p0 &&& (2147483647 : Int32)) % (6 : Int32))), .val (.long (p1.toInt64)), .second, .val (.long lb), .second, .val (.ref w_LESS), .val (.int (1 : Int32)), .unset, .unset] [(.long lb), (.long (p1.toInt64))])) t
        refine XS.lcmp X2.here hx rfl (hb hby at_134) rfl ?_
        exact k
      by_cases hc135_3 : (p1.toInt64) < lb
      · refine own_st (T' := T2) (g' := (mkF m 182 #[.val (.int p0), .val (.int p1), .val (.int p2), .val (.int p3), .val (.int ((p0 &&& (2147483647 : Int32)) % (6 : Int32))), .val (.long (p1.toInt64)), .second, .val (.long lb), .second, .val (.ref w_LESS), .val (.int (1 : Int32)), .val (.int (0 : Int32)), .val (.int (1 : Int32))] [(.double (FP.l2d lb)), (.double (FP.l2d (p1.toInt64))), (.ref w_LESS)])) (fun t k => ?_) ?_
        · show Steps p.tables e below (T2.setTop (mkF m 135 #[.val (.int p0), .val (.int p1), .val (.int p2), .val (.int p3), .val (.int ((p0 &&& (2147483647 : Int32)) % (6 : Int32))), .val (.long (p1.toInt64)), .second, .val (.long lb), .second, .val (.ref w_LESS), .val (.int (1 : Int32)), .unset, .unset] [(.int (lcmpW (p1.toInt64) lb))])) t
          refine XS.ifNo X2.here hx rfl (hb hby at_135) rfl ((if0 _ _).trans (tlt ((lw_lt (p1.toInt64) lb).mpr hc135_3)).2.1) ?_
          show Steps p.tables e below (T2.setTop (mkF m 138 #[.val (.int p0), .val (.int p1), .val (.int p2), .val (.int p3), .val (.int ((p0 &&& (2147483647 : Int32)) % (6 : Int32))), .val (.long (p1.toInt64)), .second, .val (.long lb), .second, .val (.ref w_LESS), .val (.int (1 : Int32)), .unset, .unset] [])) t
          refine XS.iconst X2.here hx rfl (hb hby at_138) ?_
          show Steps p.tables e below (T2.setTop (mkF m 139 #[.val (.int p0), .val (.int p1), .val (.int p2), .val (.int p3), .val (.int ((p0 &&& (2147483647 : Int32)) % (6 : Int32))), .val (.long (p1.toInt64)), .second, .val (.long lb), .second, .val (.ref w_LESS), .val (.int (1 : Int32)), .unset, .unset] [(.int (0 : Int32))])) t
          refine XS.goto X2.here hx rfl (pc0 := 139) (pc' := 155) rfl (hb hby at_139) (by decide) (by decide) ?_
          show Steps p.tables e below (T2.setTop (mkF m 155 #[.val (.int p0), .val (.int p1), .val (.int p2), .val (.int p3), .val (.int ((p0 &&& (2147483647 : Int32)) % (6 : Int32))), .val (.long (p1.toInt64)), .second, .val (.long lb), .second, .val (.ref w_LESS), .val (.int (1 : Int32)), .unset, .unset] [(.int (0 : Int32))])) t
          refine XS.istore X2.here hx rfl (hb hby at_155) rfl (l' := #[.val (.int p0), .val (.int p1), .val (.int p2), .val (.int p3), .val (.int ((p0 &&& (2147483647 : Int32)) % (6 : Int32))), .val (.long (p1.toInt64)), .second, .val (.long lb), .second, .val (.ref w_LESS), .val (.int (1 : Int32)), .val (.int (0 : Int32)), .unset]) rfl ?_
          show Steps p.tables e below (T2.setTop (mkF m 157 #[.val (.int p0), .val (.int p1), .val (.int p2), .val (.int p3), .val (.int ((p0 &&& (2147483647 : Int32)) % (6 : Int32))), .val (.long (p1.toInt64)), .second, .val (.long lb), .second, .val (.ref w_LESS), .val (.int (1 : Int32)), .val (.int (0 : Int32)), .unset] [])) t
          refine XS.iload X2.here hx rfl (hb hby at_157) rfl ?_
          show Steps p.tables e below (T2.setTop (mkF m 159 #[.val (.int p0), .val (.int p1), .val (.int p2), .val (.int p3), .val (.int ((p0 &&& (2147483647 : Int32)) % (6 : Int32))), .val (.long (p1.toInt64)), .second, .val (.long lb), .second, .val (.ref w_LESS), .val (.int (1 : Int32)), .val (.int (0 : Int32)), .unset] [(.int (1 : Int32))])) t
          refine XS.iload X2.here hx rfl (hb hby at_159) rfl ?_
          show Steps p.tables e below (T2.setTop (mkF m 161 #[.val (.int p0), .val (.int p1), .val (.int p2), .val (.int p3), .val (.int ((p0 &&& (2147483647 : Int32)) % (6 : Int32))), .val (.long (p1.toInt64)), .second, .val (.long lb), .second, .val (.ref w_LESS), .val (.int (1 : Int32)), .val (.int (0 : Int32)), .unset] [(.int (0 : Int32)), (.int (1 : Int32))])) t
          refine XS.ishr X2.here hx rfl (hb hby at_161) rfl ?_
          show Steps p.tables e below (T2.setTop (mkF m 162 #[.val (.int p0), .val (.int p1), .val (.int p2), .val (.int p3), .val (.int ((p0 &&& (2147483647 : Int32)) % (6 : Int32))), .val (.long (p1.toInt64)), .second, .val (.long lb), .second, .val (.ref w_LESS), .val (.int (1 : Int32)), .val (.int (0 : Int32)), .unset] [(.int (1 : Int32))])) t
          refine XS.iconst X2.here hx rfl (hb hby at_162) ?_
          show Steps p.tables e below (T2.setTop (mkF m 163 #[.val (.int p0), .val (.int p1), .val (.int p2), .val (.int p3), .val (.int ((p0 &&& (2147483647 : Int32)) % (6 : Int32))), .val (.long (p1.toInt64)), .second, .val (.long lb), .second, .val (.ref w_LESS), .val (.int (1 : Int32)), .val (.int (0 : Int32)), .unset] [(.int (1 : Int32)), (.int (1 : Int32))])) t
          refine XS.iand X2.here hx rfl (hb hby at_163) rfl ?_
          show Steps p.tables e below (T2.setTop (mkF m 164 #[.val (.int p0), .val (.int p1), .val (.int p2), .val (.int p3), .val (.int ((p0 &&& (2147483647 : Int32)) % (6 : Int32))), .val (.long (p1.toInt64)), .second, .val (.long lb), .second, .val (.ref w_LESS), .val (.int (1 : Int32)), .val (.int (0 : Int32)), .unset] [(.int (1 : Int32))])) t
          refine XS.ifNo X2.here hx rfl (hb hby at_164) rfl (by decide) ?_
          show Steps p.tables e below (T2.setTop (mkF m 167 #[.val (.int p0), .val (.int p1), .val (.int p2), .val (.int p3), .val (.int ((p0 &&& (2147483647 : Int32)) % (6 : Int32))), .val (.long (p1.toInt64)), .second, .val (.long lb), .second, .val (.ref w_LESS), .val (.int (1 : Int32)), .val (.int (0 : Int32)), .unset] [])) t
          refine XS.iconst X2.here hx rfl (hb hby at_167) ?_
          show Steps p.tables e below (T2.setTop (mkF m 168 #[.val (.int p0), .val (.int p1), .val (.int p2), .val (.int p3), .val (.int ((p0 &&& (2147483647 : Int32)) % (6 : Int32))), .val (.long (p1.toInt64)), .second, .val (.long lb), .second, .val (.ref w_LESS), .val (.int (1 : Int32)), .val (.int (0 : Int32)), .unset] [(.int (1 : Int32))])) t
          refine XS.goto X2.here hx rfl (pc0 := 168) (pc' := 172) rfl (hb hby at_168) (by decide) (by decide) ?_
          show Steps p.tables e below (T2.setTop (mkF m 172 #[.val (.int p0), .val (.int p1), .val (.int p2), .val (.int p3), .val (.int ((p0 &&& (2147483647 : Int32)) % (6 : Int32))), .val (.long (p1.toInt64)), .second, .val (.long lb), .second, .val (.ref w_LESS), .val (.int (1 : Int32)), .val (.int (0 : Int32)), .unset] [(.int (1 : Int32))])) t
          refine XS.istore X2.here hx rfl (hb hby at_172) rfl (l' := #[.val (.int p0), .val (.int p1), .val (.int p2), .val (.int p3), .val (.int ((p0 &&& (2147483647 : Int32)) % (6 : Int32))), .val (.long (p1.toInt64)), .second, .val (.long lb), .second, .val (.ref w_LESS), .val (.int (1 : Int32)), .val (.int (0 : Int32)), .val (.int (1 : Int32))]) rfl ?_
          show Steps p.tables e below (T2.setTop (mkF m 174 #[.val (.int p0), .val (.int p1), .val (.int p2), .val (.int p3), .val (.int ((p0 &&& (2147483647 : Int32)) % (6 : Int32))), .val (.long (p1.toInt64)), .second, .val (.long lb), .second, .val (.ref w_LESS), .val (.int (1 : Int32)), .val (.int (0 : Int32)), .val (.int (1 : Int32))] [])) t
          refine XS.aload X2.here hx rfl (hb hby at_174) rfl rfl ?_
          show Steps p.tables e below (T2.setTop (mkF m 176 #[.val (.int p0), .val (.int p1), .val (.int p2), .val (.int p3), .val (.int ((p0 &&& (2147483647 : Int32)) % (6 : Int32))), .val (.long (p1.toInt64)), .second, .val (.long lb), .second, .val (.ref w_LESS), .val (.int (1 : Int32)), .val (.int (0 : Int32)), .val (.int (1 : Int32))] [(.ref w_LESS)])) t
          refine XS.lload X2.here hx rfl (hb hby at_176) rfl ?_
          show Steps p.tables e below (T2.setTop (mkF m 178 #[.val (.int p0), .val (.int p1), .val (.int p2), .val (.int p3), .val (.int ((p0 &&& (2147483647 : Int32)) % (6 : Int32))), .val (.long (p1.toInt64)), .second, .val (.long lb), .second, .val (.ref w_LESS), .val (.int (1 : Int32)), .val (.int (0 : Int32)), .val (.int (1 : Int32))] [(.long (p1.toInt64)), (.ref w_LESS)])) t
          refine XS.l2dS X2.here hx rfl (hb hby at_178) rfl rfl ?_
          show Steps p.tables e below (T2.setTop (mkF m 179 #[.val (.int p0), .val (.int p1), .val (.int p2), .val (.int p3), .val (.int ((p0 &&& (2147483647 : Int32)) % (6 : Int32))), .val (.long (p1.toInt64)), .second, .val (.long lb), .second, .val (.ref w_LESS), .val (.int (1 : Int32)), .val (.int (0 : Int32)), .val (.int (1 : Int32))] [(.double (FP.l2d (p1.toInt64))), (.ref w_LESS)])) t
          refine XS.lload X2.here hx rfl (hb hby at_179) rfl ?_
          show Steps p.tables e below (T2.setTop (mkF m 181 #[.val (.int p0), .val (.int p1), .val (.int p2), .val (.int p3), .val (.int ((p0 &&& (2147483647 : Int32)) % (6 : Int32))), .val (.long (p1.toInt64)), .second, .val (.long lb), .second, .val (.ref w_LESS), .val (.int (1 : Int32)), .val (.int (0 : Int32)), .val (.int (1 : Int32))] [(.long lb), (.double (FP.l2d (p1.toInt64))), (.ref w_LESS)])) t
          refine XS.l2dS X2.here hx rfl (hb hby at_181) rfl rfl ?_
          exact k
        obtain ⟨cq4, kq4, qa4, qb4, qc4⟩ := isOf hZ e2 E_w_LESS
        obtain ⟨_, _, ⟨T4, L4, k4, n4⟩, -, X4, ⟨Lc4, hQ4, l4, y4, z4⟩, st4⟩ := X2.virtualBack hx (y := (⟨"com/example/meshwatch/meshwatch/Relation", "holds", "(DD)Z"⟩ : MethodName)) (z := (⟨"com/example/meshwatch/meshwatch/Relation", "holds", "(DD)Z"⟩ : MethodName)) hown (mvT hZ (hw _ (List.mem_of_getElem? (i := 4) rfl))) (mvT hZ (hw _ (List.mem_of_getElem? (i := 5) rfl))) (notFace_of_selects (args := #[]) (mvT hZ (hw _ (List.mem_of_getElem? (i := 7) rfl)))) (mvT hZ (hw _ (List.mem_of_getElem? (i := 7) rfl))) (mvT hZ (hw _ (List.mem_of_getElem? (i := 6) rfl))) (by decide) (backOf (W := 0) (rmh0 l Z ar hw [] w_LESS ((FP.l2d (p1.toInt64))) ((FP.l2d lb)) h0 n0 Z0 E_w_LESS F_ordinal_w_LESS) hZ (hw _ (List.mem_of_getElem? (i := 8) rfl)) (hw _ (List.mem_of_getElem? (i := 2) rfl)) (by decide) (by decide)) qa4 qc4 (g := (mkF m 182 #[.val (.int p0), .val (.int p1), .val (.int p2), .val (.int p3), .val (.int ((p0 &&& (2147483647 : Int32)) % (6 : Int32))), .val (.long (p1.toInt64)), .second, .val (.long lb), .second, .val (.ref w_LESS), .val (.int (1 : Int32)), .val (.int (0 : Int32)), .val (.int (1 : Int32))] [(.double (FP.l2d lb)), (.double (FP.l2d (p1.toInt64))), (.ref w_LESS)])) rfl (by rw [hml]; rfl) (Steps.refl _) (argsL := [(.double (FP.l2d (p1.toInt64))), (.double (FP.l2d lb))]) (rest := []) (lenOf pd0_0 rfl) rfl (by show 2 * 0 + _ ≤ _; exact Nat.le_of_eq rfl) (hb hby at_182) (fun _ _ => ⟨rfl, e2, (by decide : 0 + 0 ≤ _), (by decide : 0 + 0 ≤ _)⟩)
        dsimp only [Pt.U, Pt.locs, Pt.cells, Pt.slots] at X4 l4 y4 z4 st4 hQ4
        subst l4 y4 z4
        obtain ⟨rfl, N4q, e4⟩ := hQ4
        have n5 := Fr.app N0 N4q
        refine own_tr (T' := T4) (g' := (mkF m 185 #[.val (.int p0), .val (.int p1), .val (.int p2), .val (.int p3), .val (.int ((p0 &&& (2147483647 : Int32)) % (6 : Int32))), .val (.long (p1.toInt64)), .second, .val (.long lb), .second, .val (.ref w_LESS), .val (.int (1 : Int32)), .val (.int (0 : Int32)), .val (.int (1 : Int32))] [(.int (own_h0 (FP.dcmp (FP.l2d (p1.toInt64)) (FP.l2d lb))))])) st4 ?_
        refine own_st (T' := T4) (g' := (mkF m 195 #[.val (.int p0), .val (.int p1), .val (.int p2), .val (.int p3), .val (.int ((p0 &&& (2147483647 : Int32)) % (6 : Int32))), .val (.long (p1.toInt64)), .second, .val (.long lb), .second, .val (.ref w_LESS), .val (.int (1 : Int32)), .val (.int (0 : Int32)), .val (.int (1 : Int32))] [(.int (1 : Int32))])) (fun t k => ?_) ?_
        · show Steps p.tables e below (T4.setTop (mkF m 185 #[.val (.int p0), .val (.int p1), .val (.int p2), .val (.int p3), .val (.int ((p0 &&& (2147483647 : Int32)) % (6 : Int32))), .val (.long (p1.toInt64)), .second, .val (.long lb), .second, .val (.ref w_LESS), .val (.int (1 : Int32)), .val (.int (0 : Int32)), .val (.int (1 : Int32))] [(.int (own_h0 (FP.dcmp (FP.l2d (p1.toInt64)) (FP.l2d lb))))])) t
          refine XS.iload X4.here hx rfl (hb hby at_185) rfl ?_
          show Steps p.tables e below (T4.setTop (mkF m 187 #[.val (.int p0), .val (.int p1), .val (.int p2), .val (.int p3), .val (.int ((p0 &&& (2147483647 : Int32)) % (6 : Int32))), .val (.long (p1.toInt64)), .second, .val (.long lb), .second, .val (.ref w_LESS), .val (.int (1 : Int32)), .val (.int (0 : Int32)), .val (.int (1 : Int32))] [(.int (1 : Int32)), (.int (own_h0 (FP.dcmp (FP.l2d (p1.toInt64)) (FP.l2d lb))))])) t
          refine XS.icmpNo X4.here hx rfl (hb hby at_187) rfl (teq ((congrArg own_h0 (own_lt (own_b2 p1) hlb hc135_3)).trans (by decide) : (own_h0 (FP.dcmp (FP.l2d (p1.toInt64)) (FP.l2d lb))) = (1 : Int32))).2 ?_
          show Steps p.tables e below (T4.setTop (mkF m 190 #[.val (.int p0), .val (.int p1), .val (.int p2), .val (.int p3), .val (.int ((p0 &&& (2147483647 : Int32)) % (6 : Int32))), .val (.long (p1.toInt64)), .second, .val (.long lb), .second, .val (.ref w_LESS), .val (.int (1 : Int32)), .val (.int (0 : Int32)), .val (.int (1 : Int32))] [])) t
          refine XS.iconst X4.here hx rfl (hb hby at_190) ?_
          show Steps p.tables e below (T4.setTop (mkF m 191 #[.val (.int p0), .val (.int p1), .val (.int p2), .val (.int p3), .val (.int ((p0 &&& (2147483647 : Int32)) % (6 : Int32))), .val (.long (p1.toInt64)), .second, .val (.long lb), .second, .val (.ref w_LESS), .val (.int (1 : Int32)), .val (.int (0 : Int32)), .val (.int (1 : Int32))] [(.int (1 : Int32))])) t
          refine XS.goto X4.here hx rfl (pc0 := 191) (pc' := 195) rfl (hb hby at_191) (by decide) (by decide) ?_
          exact k
        refine own_retZ X4 hx hlk Bd.returns (hb hby at_195) rfl (by decide) (by decide) ?_
        show Q0 Z p0 p1 p2 p3 w_LESS w_LESS_OR_EQUAL w_GREATER w_GREATER_OR_EQUAL w_EQUAL w_NOT_EQUAL h0 n0 (some (.int (1 : Int32))) T4.heap _
        rw [(e4 : T4.heap = h0)]
        exact ⟨rfl, n5⟩
      · refine own_st (T' := T2) (g' := (mkF m 147 #[.val (.int p0), .val (.int p1), .val (.int p2), .val (.int p3), .val (.int ((p0 &&& (2147483647 : Int32)) % (6 : Int32))), .val (.long (p1.toInt64)), .second, .val (.long lb), .second, .val (.ref w_LESS), .val (.int (1 : Int32)), .unset, .unset] [(.int (lcmpW (p1.toInt64) lb))])) (fun t k => ?_) ?_
        · show Steps p.tables e below (T2.setTop (mkF m 135 #[.val (.int p0), .val (.int p1), .val (.int p2), .val (.int p3), .val (.int ((p0 &&& (2147483647 : Int32)) % (6 : Int32))), .val (.long (p1.toInt64)), .second, .val (.long lb), .second, .val (.ref w_LESS), .val (.int (1 : Int32)), .unset, .unset] [(.int (lcmpW (p1.toInt64) lb))])) t
          refine XS.ifYes X2.here hx rfl (pc0 := 135) (pc' := 142) rfl (hb hby at_135) rfl ((if0 _ _).trans (flt (fun q => hc135_3 ((lw_lt (p1.toInt64) lb).mp q))).2.1) (by decide) (by decide) ?_
          show Steps p.tables e below (T2.setTop (mkF m 142 #[.val (.int p0), .val (.int p1), .val (.int p2), .val (.int p3), .val (.int ((p0 &&& (2147483647 : Int32)) % (6 : Int32))), .val (.long (p1.toInt64)), .second, .val (.long lb), .second, .val (.ref w_LESS), .val (.int (1 : Int32)), .unset, .unset] [])) t
          refine XS.lload X2.here hx rfl (hb hby at_142) rfl ?_
          show Steps p.tables e below (T2.setTop (mkF m 144 #[.val (.int p0), .val (.int p1), .val (.int p2), .val (.int p3), .val (.int ((p0 &&& (2147483647 : Int32)) % (6 : Int32))), .val (.long (p1.toInt64)), .second, .val (.long lb), .second, .val (.ref w_LESS), .val (.int (1 : Int32)), .unset, .unset] [(.long (p1.toInt64))])) t
          refine XS.lload X2.here hx rfl (hb hby at_144) rfl ?_
          show Steps p.tables e below (T2.setTop (mkF m 146 #[.val (.int p0), .val (.int p1), .val (.int p2), .val (.int p3), .val (.int ((p0 &&& (2147483647 : Int32)) % (6 : Int32))), .val (.long (p1.toInt64)), .second, .val (.long lb), .second, .val (.ref w_LESS), .val (.int (1 : Int32)), .unset, .unset] [(.long lb), (.long (p1.toInt64))])) t
          refine XS.lcmp X2.here hx rfl (hb hby at_146) rfl ?_
          exact k
        by_cases hc147_6 : (p1.toInt64) = lb
        · refine own_st (T' := T2) (g' := (mkF m 182 #[.val (.int p0), .val (.int p1), .val (.int p2), .val (.int p3), .val (.int ((p0 &&& (2147483647 : Int32)) % (6 : Int32))), .val (.long (p1.toInt64)), .second, .val (.long lb), .second, .val (.ref w_LESS), .val (.int (1 : Int32)), .val (.int (1 : Int32)), .val (.int (0 : Int32))] [(.double (FP.l2d lb)), (.double (FP.l2d (p1.toInt64))), (.ref w_LESS)])) (fun t k => ?_) ?_
          · show Steps p.tables e below (T2.setTop (mkF m 147 #[.val (.int p0), .val (.int p1), .val (.int p2), .val (.int p3), .val (.int ((p0 &&& (2147483647 : Int32)) % (6 : Int32))), .val (.long (p1.toInt64)), .second, .val (.long lb), .second, .val (.ref w_LESS), .val (.int (1 : Int32)), .unset, .unset] [(.int (lcmpW (p1.toInt64) lb))])) t
            refine XS.ifNo X2.here hx rfl (hb hby at_147) rfl ((if0 _ _).trans (teq ((lw_eq (p1.toInt64) lb).mpr hc147_6)).2) ?_
            show Steps p.tables e below (T2.setTop (mkF m 150 #[.val (.int p0), .val (.int p1), .val (.int p2), .val (.int p3), .val (.int ((p0 &&& (2147483647 : Int32)) % (6 : Int32))), .val (.long (p1.toInt64)), .second, .val (.long lb), .second, .val (.ref w_LESS), .val (.int (1 : Int32)), .unset, .unset] [])) t
            refine XS.iconst X2.here hx rfl (hb hby at_150) ?_
            show Steps p.tables e below (T2.setTop (mkF m 151 #[.val (.int p0), .val (.int p1), .val (.int p2), .val (.int p3), .val (.int ((p0 &&& (2147483647 : Int32)) % (6 : Int32))), .val (.long (p1.toInt64)), .second, .val (.long lb), .second, .val (.ref w_LESS), .val (.int (1 : Int32)), .unset, .unset] [(.int (1 : Int32))])) t
            refine XS.goto X2.here hx rfl (pc0 := 151) (pc' := 155) rfl (hb hby at_151) (by decide) (by decide) ?_
            show Steps p.tables e below (T2.setTop (mkF m 155 #[.val (.int p0), .val (.int p1), .val (.int p2), .val (.int p3), .val (.int ((p0 &&& (2147483647 : Int32)) % (6 : Int32))), .val (.long (p1.toInt64)), .second, .val (.long lb), .second, .val (.ref w_LESS), .val (.int (1 : Int32)), .unset, .unset] [(.int (1 : Int32))])) t
            refine XS.istore X2.here hx rfl (hb hby at_155) rfl (l' := #[.val (.int p0), .val (.int p1), .val (.int p2), .val (.int p3), .val (.int ((p0 &&& (2147483647 : Int32)) % (6 : Int32))), .val (.long (p1.toInt64)), .second, .val (.long lb), .second, .val (.ref w_LESS), .val (.int (1 : Int32)), .val (.int (1 : Int32)), .unset]) rfl ?_
            show Steps p.tables e below (T2.setTop (mkF m 157 #[.val (.int p0), .val (.int p1), .val (.int p2), .val (.int p3), .val (.int ((p0 &&& (2147483647 : Int32)) % (6 : Int32))), .val (.long (p1.toInt64)), .second, .val (.long lb), .second, .val (.ref w_LESS), .val (.int (1 : Int32)), .val (.int (1 : Int32)), .unset] [])) t
            refine XS.iload X2.here hx rfl (hb hby at_157) rfl ?_
            show Steps p.tables e below (T2.setTop (mkF m 159 #[.val (.int p0), .val (.int p1), .val (.int p2), .val (.int p3), .val (.int ((p0 &&& (2147483647 : Int32)) % (6 : Int32))), .val (.long (p1.toInt64)), .second, .val (.long lb), .second, .val (.ref w_LESS), .val (.int (1 : Int32)), .val (.int (1 : Int32)), .unset] [(.int (1 : Int32))])) t
            refine XS.iload X2.here hx rfl (hb hby at_159) rfl ?_
            show Steps p.tables e below (T2.setTop (mkF m 161 #[.val (.int p0), .val (.int p1), .val (.int p2), .val (.int p3), .val (.int ((p0 &&& (2147483647 : Int32)) % (6 : Int32))), .val (.long (p1.toInt64)), .second, .val (.long lb), .second, .val (.ref w_LESS), .val (.int (1 : Int32)), .val (.int (1 : Int32)), .unset] [(.int (1 : Int32)), (.int (1 : Int32))])) t
            refine XS.ishr X2.here hx rfl (hb hby at_161) rfl ?_
            show Steps p.tables e below (T2.setTop (mkF m 162 #[.val (.int p0), .val (.int p1), .val (.int p2), .val (.int p3), .val (.int ((p0 &&& (2147483647 : Int32)) % (6 : Int32))), .val (.long (p1.toInt64)), .second, .val (.long lb), .second, .val (.ref w_LESS), .val (.int (1 : Int32)), .val (.int (1 : Int32)), .unset] [(.int (0 : Int32))])) t
            refine XS.iconst X2.here hx rfl (hb hby at_162) ?_
            show Steps p.tables e below (T2.setTop (mkF m 163 #[.val (.int p0), .val (.int p1), .val (.int p2), .val (.int p3), .val (.int ((p0 &&& (2147483647 : Int32)) % (6 : Int32))), .val (.long (p1.toInt64)), .second, .val (.long lb), .second, .val (.ref w_LESS), .val (.int (1 : Int32)), .val (.int (1 : Int32)), .unset] [(.int (1 : Int32)), (.int (0 : Int32))])) t
            refine XS.iand X2.here hx rfl (hb hby at_163) rfl ?_
            show Steps p.tables e below (T2.setTop (mkF m 164 #[.val (.int p0), .val (.int p1), .val (.int p2), .val (.int p3), .val (.int ((p0 &&& (2147483647 : Int32)) % (6 : Int32))), .val (.long (p1.toInt64)), .second, .val (.long lb), .second, .val (.ref w_LESS), .val (.int (1 : Int32)), .val (.int (1 : Int32)), .unset] [(.int (0 : Int32))])) t
            refine XS.ifYes X2.here hx rfl (pc0 := 164) (pc' := 171) rfl (hb hby at_164) rfl (by decide) (by decide) (by decide) ?_
            show Steps p.tables e below (T2.setTop (mkF m 171 #[.val (.int p0), .val (.int p1), .val (.int p2), .val (.int p3), .val (.int ((p0 &&& (2147483647 : Int32)) % (6 : Int32))), .val (.long (p1.toInt64)), .second, .val (.long lb), .second, .val (.ref w_LESS), .val (.int (1 : Int32)), .val (.int (1 : Int32)), .unset] [])) t
            refine XS.iconst X2.here hx rfl (hb hby at_171) ?_
            show Steps p.tables e below (T2.setTop (mkF m 172 #[.val (.int p0), .val (.int p1), .val (.int p2), .val (.int p3), .val (.int ((p0 &&& (2147483647 : Int32)) % (6 : Int32))), .val (.long (p1.toInt64)), .second, .val (.long lb), .second, .val (.ref w_LESS), .val (.int (1 : Int32)), .val (.int (1 : Int32)), .unset] [(.int (0 : Int32))])) t
            refine XS.istore X2.here hx rfl (hb hby at_172) rfl (l' := #[.val (.int p0), .val (.int p1), .val (.int p2), .val (.int p3), .val (.int ((p0 &&& (2147483647 : Int32)) % (6 : Int32))), .val (.long (p1.toInt64)), .second, .val (.long lb), .second, .val (.ref w_LESS), .val (.int (1 : Int32)), .val (.int (1 : Int32)), .val (.int (0 : Int32))]) rfl ?_
            show Steps p.tables e below (T2.setTop (mkF m 174 #[.val (.int p0), .val (.int p1), .val (.int p2), .val (.int p3), .val (.int ((p0 &&& (2147483647 : Int32)) % (6 : Int32))), .val (.long (p1.toInt64)), .second, .val (.long lb), .second, .val (.ref w_LESS), .val (.int (1 : Int32)), .val (.int (1 : Int32)), .val (.int (0 : Int32))] [])) t
            refine XS.aload X2.here hx rfl (hb hby at_174) rfl rfl ?_
            show Steps p.tables e below (T2.setTop (mkF m 176 #[.val (.int p0), .val (.int p1), .val (.int p2), .val (.int p3), .val (.int ((p0 &&& (2147483647 : Int32)) % (6 : Int32))), .val (.long (p1.toInt64)), .second, .val (.long lb), .second, .val (.ref w_LESS), .val (.int (1 : Int32)), .val (.int (1 : Int32)), .val (.int (0 : Int32))] [(.ref w_LESS)])) t
            refine XS.lload X2.here hx rfl (hb hby at_176) rfl ?_
            show Steps p.tables e below (T2.setTop (mkF m 178 #[.val (.int p0), .val (.int p1), .val (.int p2), .val (.int p3), .val (.int ((p0 &&& (2147483647 : Int32)) % (6 : Int32))), .val (.long (p1.toInt64)), .second, .val (.long lb), .second, .val (.ref w_LESS), .val (.int (1 : Int32)), .val (.int (1 : Int32)), .val (.int (0 : Int32))] [(.long (p1.toInt64)), (.ref w_LESS)])) t
            refine XS.l2dS X2.here hx rfl (hb hby at_178) rfl rfl ?_
            show Steps p.tables e below (T2.setTop (mkF m 179 #[.val (.int p0), .val (.int p1), .val (.int p2), .val (.int p3), .val (.int ((p0 &&& (2147483647 : Int32)) % (6 : Int32))), .val (.long (p1.toInt64)), .second, .val (.long lb), .second, .val (.ref w_LESS), .val (.int (1 : Int32)), .val (.int (1 : Int32)), .val (.int (0 : Int32))] [(.double (FP.l2d (p1.toInt64))), (.ref w_LESS)])) t
            refine XS.lload X2.here hx rfl (hb hby at_179) rfl ?_
            show Steps p.tables e below (T2.setTop (mkF m 181 #[.val (.int p0), .val (.int p1), .val (.int p2), .val (.int p3), .val (.int ((p0 &&& (2147483647 : Int32)) % (6 : Int32))), .val (.long (p1.toInt64)), .second, .val (.long lb), .second, .val (.ref w_LESS), .val (.int (1 : Int32)), .val (.int (1 : Int32)), .val (.int (0 : Int32))] [(.long lb), (.double (FP.l2d (p1.toInt64))), (.ref w_LESS)])) t
            refine XS.l2dS X2.here hx rfl (hb hby at_181) rfl rfl ?_
            exact k
          obtain ⟨cq7, kq7, qa7, qb7, qc7⟩ := isOf hZ e2 E_w_LESS
          obtain ⟨_, _, ⟨T7, L7, k7, n7⟩, -, X7, ⟨Lc7, hQ7, l7, y7, z7⟩, st7⟩ := X2.virtualBack hx (y := (⟨"com/example/meshwatch/meshwatch/Relation", "holds", "(DD)Z"⟩ : MethodName)) (z := (⟨"com/example/meshwatch/meshwatch/Relation", "holds", "(DD)Z"⟩ : MethodName)) hown (mvT hZ (hw _ (List.mem_of_getElem? (i := 4) rfl))) (mvT hZ (hw _ (List.mem_of_getElem? (i := 5) rfl))) (notFace_of_selects (args := #[]) (mvT hZ (hw _ (List.mem_of_getElem? (i := 7) rfl)))) (mvT hZ (hw _ (List.mem_of_getElem? (i := 7) rfl))) (mvT hZ (hw _ (List.mem_of_getElem? (i := 6) rfl))) (by decide) (backOf (W := 0) (rmh0 l Z ar hw [] w_LESS ((FP.l2d (p1.toInt64))) ((FP.l2d lb)) h0 n0 Z0 E_w_LESS F_ordinal_w_LESS) hZ (hw _ (List.mem_of_getElem? (i := 8) rfl)) (hw _ (List.mem_of_getElem? (i := 2) rfl)) (by decide) (by decide)) qa7 qc7 (g := (mkF m 182 #[.val (.int p0), .val (.int p1), .val (.int p2), .val (.int p3), .val (.int ((p0 &&& (2147483647 : Int32)) % (6 : Int32))), .val (.long (p1.toInt64)), .second, .val (.long lb), .second, .val (.ref w_LESS), .val (.int (1 : Int32)), .val (.int (1 : Int32)), .val (.int (0 : Int32))] [(.double (FP.l2d lb)), (.double (FP.l2d (p1.toInt64))), (.ref w_LESS)])) rfl (by rw [hml]; rfl) (Steps.refl _) (argsL := [(.double (FP.l2d (p1.toInt64))), (.double (FP.l2d lb))]) (rest := []) (lenOf pd0_0 rfl) rfl (by show 2 * 0 + _ ≤ _; exact Nat.le_of_eq rfl) (hb hby at_182) (fun _ _ => ⟨rfl, e2, (by decide : 0 + 0 ≤ _), (by decide : 0 + 0 ≤ _)⟩)
          dsimp only [Pt.U, Pt.locs, Pt.cells, Pt.slots] at X7 l7 y7 z7 st7 hQ7
          subst l7 y7 z7
          obtain ⟨rfl, N7q, e7⟩ := hQ7
          have n8 := Fr.app N0 N7q
          refine own_tr (T' := T7) (g' := (mkF m 185 #[.val (.int p0), .val (.int p1), .val (.int p2), .val (.int p3), .val (.int ((p0 &&& (2147483647 : Int32)) % (6 : Int32))), .val (.long (p1.toInt64)), .second, .val (.long lb), .second, .val (.ref w_LESS), .val (.int (1 : Int32)), .val (.int (1 : Int32)), .val (.int (0 : Int32))] [(.int (own_h0 (FP.dcmp (FP.l2d (p1.toInt64)) (FP.l2d lb))))])) st7 ?_
          refine own_st (T' := T7) (g' := (mkF m 195 #[.val (.int p0), .val (.int p1), .val (.int p2), .val (.int p3), .val (.int ((p0 &&& (2147483647 : Int32)) % (6 : Int32))), .val (.long (p1.toInt64)), .second, .val (.long lb), .second, .val (.ref w_LESS), .val (.int (1 : Int32)), .val (.int (1 : Int32)), .val (.int (0 : Int32))] [(.int (1 : Int32))])) (fun t k => ?_) ?_
          · show Steps p.tables e below (T7.setTop (mkF m 185 #[.val (.int p0), .val (.int p1), .val (.int p2), .val (.int p3), .val (.int ((p0 &&& (2147483647 : Int32)) % (6 : Int32))), .val (.long (p1.toInt64)), .second, .val (.long lb), .second, .val (.ref w_LESS), .val (.int (1 : Int32)), .val (.int (1 : Int32)), .val (.int (0 : Int32))] [(.int (own_h0 (FP.dcmp (FP.l2d (p1.toInt64)) (FP.l2d lb))))])) t
            refine XS.iload X7.here hx rfl (hb hby at_185) rfl ?_
            show Steps p.tables e below (T7.setTop (mkF m 187 #[.val (.int p0), .val (.int p1), .val (.int p2), .val (.int p3), .val (.int ((p0 &&& (2147483647 : Int32)) % (6 : Int32))), .val (.long (p1.toInt64)), .second, .val (.long lb), .second, .val (.ref w_LESS), .val (.int (1 : Int32)), .val (.int (1 : Int32)), .val (.int (0 : Int32))] [(.int (0 : Int32)), (.int (own_h0 (FP.dcmp (FP.l2d (p1.toInt64)) (FP.l2d lb))))])) t
            refine XS.icmpNo X7.here hx rfl (hb hby at_187) rfl (teq ((congrArg own_h0 (own_eq (own_b2 p1) hlb hc147_6)).trans (by decide) : (own_h0 (FP.dcmp (FP.l2d (p1.toInt64)) (FP.l2d lb))) = (0 : Int32))).2 ?_
            show Steps p.tables e below (T7.setTop (mkF m 190 #[.val (.int p0), .val (.int p1), .val (.int p2), .val (.int p3), .val (.int ((p0 &&& (2147483647 : Int32)) % (6 : Int32))), .val (.long (p1.toInt64)), .second, .val (.long lb), .second, .val (.ref w_LESS), .val (.int (1 : Int32)), .val (.int (1 : Int32)), .val (.int (0 : Int32))] [])) t
            refine XS.iconst X7.here hx rfl (hb hby at_190) ?_
            show Steps p.tables e below (T7.setTop (mkF m 191 #[.val (.int p0), .val (.int p1), .val (.int p2), .val (.int p3), .val (.int ((p0 &&& (2147483647 : Int32)) % (6 : Int32))), .val (.long (p1.toInt64)), .second, .val (.long lb), .second, .val (.ref w_LESS), .val (.int (1 : Int32)), .val (.int (1 : Int32)), .val (.int (0 : Int32))] [(.int (1 : Int32))])) t
            refine XS.goto X7.here hx rfl (pc0 := 191) (pc' := 195) rfl (hb hby at_191) (by decide) (by decide) ?_
            exact k
          refine own_retZ X7 hx hlk Bd.returns (hb hby at_195) rfl (by decide) (by decide) ?_
          show Q0 Z p0 p1 p2 p3 w_LESS w_LESS_OR_EQUAL w_GREATER w_GREATER_OR_EQUAL w_EQUAL w_NOT_EQUAL h0 n0 (some (.int (1 : Int32))) T7.heap _
          rw [(e7 : T7.heap = h0)]
          exact ⟨rfl, n8⟩
        · refine own_st (T' := T2) (g' := (mkF m 182 #[.val (.int p0), .val (.int p1), .val (.int p2), .val (.int p3), .val (.int ((p0 &&& (2147483647 : Int32)) % (6 : Int32))), .val (.long (p1.toInt64)), .second, .val (.long lb), .second, .val (.ref w_LESS), .val (.int (1 : Int32)), .val (.int (2 : Int32)), .val (.int (0 : Int32))] [(.double (FP.l2d lb)), (.double (FP.l2d (p1.toInt64))), (.ref w_LESS)])) (fun t k => ?_) ?_
          · show Steps p.tables e below (T2.setTop (mkF m 147 #[.val (.int p0), .val (.int p1), .val (.int p2), .val (.int p3), .val (.int ((p0 &&& (2147483647 : Int32)) % (6 : Int32))), .val (.long (p1.toInt64)), .second, .val (.long lb), .second, .val (.ref w_LESS), .val (.int (1 : Int32)), .unset, .unset] [(.int (lcmpW (p1.toInt64) lb))])) t
            refine XS.ifYes X2.here hx rfl (pc0 := 147) (pc' := 154) rfl (hb hby at_147) rfl ((if0 _ _).trans (feq (fun q => hc147_6 ((lw_eq (p1.toInt64) lb).mp q))).2) (by decide) (by decide) ?_
            show Steps p.tables e below (T2.setTop (mkF m 154 #[.val (.int p0), .val (.int p1), .val (.int p2), .val (.int p3), .val (.int ((p0 &&& (2147483647 : Int32)) % (6 : Int32))), .val (.long (p1.toInt64)), .second, .val (.long lb), .second, .val (.ref w_LESS), .val (.int (1 : Int32)), .unset, .unset] [])) t
            refine XS.iconst X2.here hx rfl (hb hby at_154) ?_
            show Steps p.tables e below (T2.setTop (mkF m 155 #[.val (.int p0), .val (.int p1), .val (.int p2), .val (.int p3), .val (.int ((p0 &&& (2147483647 : Int32)) % (6 : Int32))), .val (.long (p1.toInt64)), .second, .val (.long lb), .second, .val (.ref w_LESS), .val (.int (1 : Int32)), .unset, .unset] [(.int (2 : Int32))])) t
            refine XS.istore X2.here hx rfl (hb hby at_155) rfl (l' := #[.val (.int p0), .val (.int p1), .val (.int p2), .val (.int p3), .val (.int ((p0 &&& (2147483647 : Int32)) % (6 : Int32))), .val (.long (p1.toInt64)), .second, .val (.long lb), .second, .val (.ref w_LESS), .val (.int (1 : Int32)), .val (.int (2 : Int32)), .unset]) rfl ?_
            show Steps p.tables e below (T2.setTop (mkF m 157 #[.val (.int p0), .val (.int p1), .val (.int p2), .val (.int p3), .val (.int ((p0 &&& (2147483647 : Int32)) % (6 : Int32))), .val (.long (p1.toInt64)), .second, .val (.long lb), .second, .val (.ref w_LESS), .val (.int (1 : Int32)), .val (.int (2 : Int32)), .unset] [])) t
            refine XS.iload X2.here hx rfl (hb hby at_157) rfl ?_
            show Steps p.tables e below (T2.setTop (mkF m 159 #[.val (.int p0), .val (.int p1), .val (.int p2), .val (.int p3), .val (.int ((p0 &&& (2147483647 : Int32)) % (6 : Int32))), .val (.long (p1.toInt64)), .second, .val (.long lb), .second, .val (.ref w_LESS), .val (.int (1 : Int32)), .val (.int (2 : Int32)), .unset] [(.int (1 : Int32))])) t
            refine XS.iload X2.here hx rfl (hb hby at_159) rfl ?_
            show Steps p.tables e below (T2.setTop (mkF m 161 #[.val (.int p0), .val (.int p1), .val (.int p2), .val (.int p3), .val (.int ((p0 &&& (2147483647 : Int32)) % (6 : Int32))), .val (.long (p1.toInt64)), .second, .val (.long lb), .second, .val (.ref w_LESS), .val (.int (1 : Int32)), .val (.int (2 : Int32)), .unset] [(.int (2 : Int32)), (.int (1 : Int32))])) t
            refine XS.ishr X2.here hx rfl (hb hby at_161) rfl ?_
            show Steps p.tables e below (T2.setTop (mkF m 162 #[.val (.int p0), .val (.int p1), .val (.int p2), .val (.int p3), .val (.int ((p0 &&& (2147483647 : Int32)) % (6 : Int32))), .val (.long (p1.toInt64)), .second, .val (.long lb), .second, .val (.ref w_LESS), .val (.int (1 : Int32)), .val (.int (2 : Int32)), .unset] [(.int (0 : Int32))])) t
            refine XS.iconst X2.here hx rfl (hb hby at_162) ?_
            show Steps p.tables e below (T2.setTop (mkF m 163 #[.val (.int p0), .val (.int p1), .val (.int p2), .val (.int p3), .val (.int ((p0 &&& (2147483647 : Int32)) % (6 : Int32))), .val (.long (p1.toInt64)), .second, .val (.long lb), .second, .val (.ref w_LESS), .val (.int (1 : Int32)), .val (.int (2 : Int32)), .unset] [(.int (1 : Int32)), (.int (0 : Int32))])) t
            refine XS.iand X2.here hx rfl (hb hby at_163) rfl ?_
            show Steps p.tables e below (T2.setTop (mkF m 164 #[.val (.int p0), .val (.int p1), .val (.int p2), .val (.int p3), .val (.int ((p0 &&& (2147483647 : Int32)) % (6 : Int32))), .val (.long (p1.toInt64)), .second, .val (.long lb), .second, .val (.ref w_LESS), .val (.int (1 : Int32)), .val (.int (2 : Int32)), .unset] [(.int (0 : Int32))])) t
            refine XS.ifYes X2.here hx rfl (pc0 := 164) (pc' := 171) rfl (hb hby at_164) rfl (by decide) (by decide) (by decide) ?_
            show Steps p.tables e below (T2.setTop (mkF m 171 #[.val (.int p0), .val (.int p1), .val (.int p2), .val (.int p3), .val (.int ((p0 &&& (2147483647 : Int32)) % (6 : Int32))), .val (.long (p1.toInt64)), .second, .val (.long lb), .second, .val (.ref w_LESS), .val (.int (1 : Int32)), .val (.int (2 : Int32)), .unset] [])) t
            refine XS.iconst X2.here hx rfl (hb hby at_171) ?_
            show Steps p.tables e below (T2.setTop (mkF m 172 #[.val (.int p0), .val (.int p1), .val (.int p2), .val (.int p3), .val (.int ((p0 &&& (2147483647 : Int32)) % (6 : Int32))), .val (.long (p1.toInt64)), .second, .val (.long lb), .second, .val (.ref w_LESS), .val (.int (1 : Int32)), .val (.int (2 : Int32)), .unset] [(.int (0 : Int32))])) t
            refine XS.istore X2.here hx rfl (hb hby at_172) rfl (l' := #[.val (.int p0), .val (.int p1), .val (.int p2), .val (.int p3), .val (.int ((p0 &&& (2147483647 : Int32)) % (6 : Int32))), .val (.long (p1.toInt64)), .second, .val (.long lb), .second, .val (.ref w_LESS), .val (.int (1 : Int32)), .val (.int (2 : Int32)), .val (.int (0 : Int32))]) rfl ?_
            show Steps p.tables e below (T2.setTop (mkF m 174 #[.val (.int p0), .val (.int p1), .val (.int p2), .val (.int p3), .val (.int ((p0 &&& (2147483647 : Int32)) % (6 : Int32))), .val (.long (p1.toInt64)), .second, .val (.long lb), .second, .val (.ref w_LESS), .val (.int (1 : Int32)), .val (.int (2 : Int32)), .val (.int (0 : Int32))] [])) t
            refine XS.aload X2.here hx rfl (hb hby at_174) rfl rfl ?_
            show Steps p.tables e below (T2.setTop (mkF m 176 #[.val (.int p0), .val (.int p1), .val (.int p2), .val (.int p3), .val (.int ((p0 &&& (2147483647 : Int32)) % (6 : Int32))), .val (.long (p1.toInt64)), .second, .val (.long lb), .second, .val (.ref w_LESS), .val (.int (1 : Int32)), .val (.int (2 : Int32)), .val (.int (0 : Int32))] [(.ref w_LESS)])) t
            refine XS.lload X2.here hx rfl (hb hby at_176) rfl ?_
            show Steps p.tables e below (T2.setTop (mkF m 178 #[.val (.int p0), .val (.int p1), .val (.int p2), .val (.int p3), .val (.int ((p0 &&& (2147483647 : Int32)) % (6 : Int32))), .val (.long (p1.toInt64)), .second, .val (.long lb), .second, .val (.ref w_LESS), .val (.int (1 : Int32)), .val (.int (2 : Int32)), .val (.int (0 : Int32))] [(.long (p1.toInt64)), (.ref w_LESS)])) t
            refine XS.l2dS X2.here hx rfl (hb hby at_178) rfl rfl ?_
            show Steps p.tables e below (T2.setTop (mkF m 179 #[.val (.int p0), .val (.int p1), .val (.int p2), .val (.int p3), .val (.int ((p0 &&& (2147483647 : Int32)) % (6 : Int32))), .val (.long (p1.toInt64)), .second, .val (.long lb), .second, .val (.ref w_LESS), .val (.int (1 : Int32)), .val (.int (2 : Int32)), .val (.int (0 : Int32))] [(.double (FP.l2d (p1.toInt64))), (.ref w_LESS)])) t
            refine XS.lload X2.here hx rfl (hb hby at_179) rfl ?_
            show Steps p.tables e below (T2.setTop (mkF m 181 #[.val (.int p0), .val (.int p1), .val (.int p2), .val (.int p3), .val (.int ((p0 &&& (2147483647 : Int32)) % (6 : Int32))), .val (.long (p1.toInt64)), .second, .val (.long lb), .second, .val (.ref w_LESS), .val (.int (1 : Int32)), .val (.int (2 : Int32)), .val (.int (0 : Int32))] [(.long lb), (.double (FP.l2d (p1.toInt64))), (.ref w_LESS)])) t
            refine XS.l2dS X2.here hx rfl (hb hby at_181) rfl rfl ?_
            exact k
          obtain ⟨cq9, kq9, qa9, qb9, qc9⟩ := isOf hZ e2 E_w_LESS
          obtain ⟨_, _, ⟨T9, L9, k9, n9⟩, -, X9, ⟨Lc9, hQ9, l9, y9, z9⟩, st9⟩ := X2.virtualBack hx (y := (⟨"com/example/meshwatch/meshwatch/Relation", "holds", "(DD)Z"⟩ : MethodName)) (z := (⟨"com/example/meshwatch/meshwatch/Relation", "holds", "(DD)Z"⟩ : MethodName)) hown (mvT hZ (hw _ (List.mem_of_getElem? (i := 4) rfl))) (mvT hZ (hw _ (List.mem_of_getElem? (i := 5) rfl))) (notFace_of_selects (args := #[]) (mvT hZ (hw _ (List.mem_of_getElem? (i := 7) rfl)))) (mvT hZ (hw _ (List.mem_of_getElem? (i := 7) rfl))) (mvT hZ (hw _ (List.mem_of_getElem? (i := 6) rfl))) (by decide) (backOf (W := 0) (rmh0 l Z ar hw [] w_LESS ((FP.l2d (p1.toInt64))) ((FP.l2d lb)) h0 n0 Z0 E_w_LESS F_ordinal_w_LESS) hZ (hw _ (List.mem_of_getElem? (i := 8) rfl)) (hw _ (List.mem_of_getElem? (i := 2) rfl)) (by decide) (by decide)) qa9 qc9 (g := (mkF m 182 #[.val (.int p0), .val (.int p1), .val (.int p2), .val (.int p3), .val (.int ((p0 &&& (2147483647 : Int32)) % (6 : Int32))), .val (.long (p1.toInt64)), .second, .val (.long lb), .second, .val (.ref w_LESS), .val (.int (1 : Int32)), .val (.int (2 : Int32)), .val (.int (0 : Int32))] [(.double (FP.l2d lb)), (.double (FP.l2d (p1.toInt64))), (.ref w_LESS)])) rfl (by rw [hml]; rfl) (Steps.refl _) (argsL := [(.double (FP.l2d (p1.toInt64))), (.double (FP.l2d lb))]) (rest := []) (lenOf pd0_0 rfl) rfl (by show 2 * 0 + _ ≤ _; exact Nat.le_of_eq rfl) (hb hby at_182) (fun _ _ => ⟨rfl, e2, (by decide : 0 + 0 ≤ _), (by decide : 0 + 0 ≤ _)⟩)
          dsimp only [Pt.U, Pt.locs, Pt.cells, Pt.slots] at X9 l9 y9 z9 st9 hQ9
          subst l9 y9 z9
          obtain ⟨rfl, N9q, e9⟩ := hQ9
          have n10 := Fr.app N0 N9q
          refine own_tr (T' := T9) (g' := (mkF m 185 #[.val (.int p0), .val (.int p1), .val (.int p2), .val (.int p3), .val (.int ((p0 &&& (2147483647 : Int32)) % (6 : Int32))), .val (.long (p1.toInt64)), .second, .val (.long lb), .second, .val (.ref w_LESS), .val (.int (1 : Int32)), .val (.int (2 : Int32)), .val (.int (0 : Int32))] [(.int (own_h0 (FP.dcmp (FP.l2d (p1.toInt64)) (FP.l2d lb))))])) st9 ?_
          refine own_st (T' := T9) (g' := (mkF m 195 #[.val (.int p0), .val (.int p1), .val (.int p2), .val (.int p3), .val (.int ((p0 &&& (2147483647 : Int32)) % (6 : Int32))), .val (.long (p1.toInt64)), .second, .val (.long lb), .second, .val (.ref w_LESS), .val (.int (1 : Int32)), .val (.int (2 : Int32)), .val (.int (0 : Int32))] [(.int (1 : Int32))])) (fun t k => ?_) ?_
          · show Steps p.tables e below (T9.setTop (mkF m 185 #[.val (.int p0), .val (.int p1), .val (.int p2), .val (.int p3), .val (.int ((p0 &&& (2147483647 : Int32)) % (6 : Int32))), .val (.long (p1.toInt64)), .second, .val (.long lb), .second, .val (.ref w_LESS), .val (.int (1 : Int32)), .val (.int (2 : Int32)), .val (.int (0 : Int32))] [(.int (own_h0 (FP.dcmp (FP.l2d (p1.toInt64)) (FP.l2d lb))))])) t
            refine XS.iload X9.here hx rfl (hb hby at_185) rfl ?_
            show Steps p.tables e below (T9.setTop (mkF m 187 #[.val (.int p0), .val (.int p1), .val (.int p2), .val (.int p3), .val (.int ((p0 &&& (2147483647 : Int32)) % (6 : Int32))), .val (.long (p1.toInt64)), .second, .val (.long lb), .second, .val (.ref w_LESS), .val (.int (1 : Int32)), .val (.int (2 : Int32)), .val (.int (0 : Int32))] [(.int (0 : Int32)), (.int (own_h0 (FP.dcmp (FP.l2d (p1.toInt64)) (FP.l2d lb))))])) t
            refine XS.icmpNo X9.here hx rfl (hb hby at_187) rfl (teq ((congrArg own_h0 (own_gt (own_b2 p1) hlb hc135_3 hc147_6)).trans (by decide) : (own_h0 (FP.dcmp (FP.l2d (p1.toInt64)) (FP.l2d lb))) = (0 : Int32))).2 ?_
            show Steps p.tables e below (T9.setTop (mkF m 190 #[.val (.int p0), .val (.int p1), .val (.int p2), .val (.int p3), .val (.int ((p0 &&& (2147483647 : Int32)) % (6 : Int32))), .val (.long (p1.toInt64)), .second, .val (.long lb), .second, .val (.ref w_LESS), .val (.int (1 : Int32)), .val (.int (2 : Int32)), .val (.int (0 : Int32))] [])) t
            refine XS.iconst X9.here hx rfl (hb hby at_190) ?_
            show Steps p.tables e below (T9.setTop (mkF m 191 #[.val (.int p0), .val (.int p1), .val (.int p2), .val (.int p3), .val (.int ((p0 &&& (2147483647 : Int32)) % (6 : Int32))), .val (.long (p1.toInt64)), .second, .val (.long lb), .second, .val (.ref w_LESS), .val (.int (1 : Int32)), .val (.int (2 : Int32)), .val (.int (0 : Int32))] [(.int (1 : Int32))])) t
            refine XS.goto X9.here hx rfl (pc0 := 191) (pc' := 195) rfl (hb hby at_191) (by decide) (by decide) ?_
            exact k
          refine own_retZ X9 hx hlk Bd.returns (hb hby at_195) rfl (by decide) (by decide) ?_
          show Q0 Z p0 p1 p2 p3 w_LESS w_LESS_OR_EQUAL w_GREATER w_GREATER_OR_EQUAL w_EQUAL w_NOT_EQUAL h0 n0 (some (.int (1 : Int32))) T9.heap _
          rw [(e9 : T9.heap = h0)]
          exact ⟨rfl, n10⟩
    · refine own_st (T' := s₁) (g' := (mkF m 56 #[.val (.int p0), .val (.int p1), .val (.int p2), .val (.int p3), .val (.int ((p0 &&& (2147483647 : Int32)) % (6 : Int32))), .val (.long (p1.toInt64)), .second, .val (.long lb), .second, .unset, .unset, .unset, .unset] [(.int (1 : Int32)), (.int ((p0 &&& (2147483647 : Int32)) % (6 : Int32)))])) (fun t k => ?_) ?_
      · show Steps p.tables e below (s₁.setTop (mkF m 39 #[.val (.int p0), .val (.int p1), .val (.int p2), .val (.int p3), .val (.int ((p0 &&& (2147483647 : Int32)) % (6 : Int32))), .val (.long (p1.toInt64)), .second, .val (.long lb), .second, .unset, .unset, .unset, .unset] [(.int ((p0 &&& (2147483647 : Int32)) % (6 : Int32)))])) t
        refine XS.ifYes X0.here hx rfl (pc0 := 39) (pc' := 53) rfl (hb hby at_39) rfl ((if0 _ _).trans (feq hc39_1).2) (by decide) (by decide) ?_
        show Steps p.tables e below (s₁.setTop (mkF m 53 #[.val (.int p0), .val (.int p1), .val (.int p2), .val (.int p3), .val (.int ((p0 &&& (2147483647 : Int32)) % (6 : Int32))), .val (.long (p1.toInt64)), .second, .val (.long lb), .second, .unset, .unset, .unset, .unset] [])) t
        refine XS.iload X0.here hx rfl (hb hby at_53) rfl ?_
        show Steps p.tables e below (s₁.setTop (mkF m 55 #[.val (.int p0), .val (.int p1), .val (.int p2), .val (.int p3), .val (.int ((p0 &&& (2147483647 : Int32)) % (6 : Int32))), .val (.long (p1.toInt64)), .second, .val (.long lb), .second, .unset, .unset, .unset, .unset] [(.int ((p0 &&& (2147483647 : Int32)) % (6 : Int32)))])) t
        refine XS.iconst X0.here hx rfl (hb hby at_55) ?_
        exact k
      by_cases hc56_11 : ((p0 &&& (2147483647 : Int32)) % (6 : Int32)) = (1 : Int32)
      · refine own_st (T' := s₁) (g' := (mkF m 59 #[.val (.int p0), .val (.int p1), .val (.int p2), .val (.int p3), .val (.int ((p0 &&& (2147483647 : Int32)) % (6 : Int32))), .val (.long (p1.toInt64)), .second, .val (.long lb), .second, .unset, .unset, .unset, .unset] [])) (fun t k => ?_) ?_
        · show Steps p.tables e below (s₁.setTop (mkF m 56 #[.val (.int p0), .val (.int p1), .val (.int p2), .val (.int p3), .val (.int ((p0 &&& (2147483647 : Int32)) % (6 : Int32))), .val (.long (p1.toInt64)), .second, .val (.long lb), .second, .unset, .unset, .unset, .unset] [(.int (1 : Int32)), (.int ((p0 &&& (2147483647 : Int32)) % (6 : Int32)))])) t
          refine XS.icmpNo X0.here hx rfl (hb hby at_56) rfl (teq hc56_11).2 ?_
          exact k
        obtain ⟨T12, X12, e12, st12⟩ := getS2 X0 hx hZ hown (host := "") (Or.inl (hw _ (List.mem_of_getElem? (i := 18) rfl))) Via.refl e0 S_LESS_OR_EQUAL (g := (mkF m 59 #[.val (.int p0), .val (.int p1), .val (.int p2), .val (.int p3), .val (.int ((p0 &&& (2147483647 : Int32)) % (6 : Int32))), .val (.long (p1.toInt64)), .second, .val (.long lb), .second, .unset, .unset, .unset, .unset] [])) rfl (hb hby at_59)
        refine own_st (T' := T12) (g' := (mkF m 62 #[.val (.int p0), .val (.int p1), .val (.int p2), .val (.int p3), .val (.int ((p0 &&& (2147483647 : Int32)) % (6 : Int32))), .val (.long (p1.toInt64)), .second, .val (.long lb), .second, .unset, .unset, .unset, .unset] [(.ref w_LESS_OR_EQUAL)])) st12 ?_
        refine own_st (T' := T12) (g' := (mkF m 135 #[.val (.int p0), .val (.int p1), .val (.int p2), .val (.int p3), .val (.int ((p0 &&& (2147483647 : Int32)) % (6 : Int32))), .val (.long (p1.toInt64)), .second, .val (.long lb), .second, .val (.ref w_LESS_OR_EQUAL), .val (.int (3 : Int32)), .unset, .unset] [(.int (lcmpW (p1.toInt64) lb))])) (fun t k => ?_) ?_
        · show Steps p.tables e below (T12.setTop (mkF m 62 #[.val (.int p0), .val (.int p1), .val (.int p2), .val (.int p3), .val (.int ((p0 &&& (2147483647 : Int32)) % (6 : Int32))), .val (.long (p1.toInt64)), .second, .val (.long lb), .second, .unset, .unset, .unset, .unset] [(.ref w_LESS_OR_EQUAL)])) t
          refine XS.astore X12.here hx rfl (hb hby at_62) rfl rfl (l' := #[.val (.int p0), .val (.int p1), .val (.int p2), .val (.int p3), .val (.int ((p0 &&& (2147483647 : Int32)) % (6 : Int32))), .val (.long (p1.toInt64)), .second, .val (.long lb), .second, .val (.ref w_LESS_OR_EQUAL), .unset, .unset, .unset]) rfl ?_
          show Steps p.tables e below (T12.setTop (mkF m 64 #[.val (.int p0), .val (.int p1), .val (.int p2), .val (.int p3), .val (.int ((p0 &&& (2147483647 : Int32)) % (6 : Int32))), .val (.long (p1.toInt64)), .second, .val (.long lb), .second, .val (.ref w_LESS_OR_EQUAL), .unset, .unset, .unset] [])) t
          refine XS.iconst X12.here hx rfl (hb hby at_64) ?_
          show Steps p.tables e below (T12.setTop (mkF m 65 #[.val (.int p0), .val (.int p1), .val (.int p2), .val (.int p3), .val (.int ((p0 &&& (2147483647 : Int32)) % (6 : Int32))), .val (.long (p1.toInt64)), .second, .val (.long lb), .second, .val (.ref w_LESS_OR_EQUAL), .unset, .unset, .unset] [(.int (3 : Int32))])) t
          refine XS.istore X12.here hx rfl (hb hby at_65) rfl (l' := #[.val (.int p0), .val (.int p1), .val (.int p2), .val (.int p3), .val (.int ((p0 &&& (2147483647 : Int32)) % (6 : Int32))), .val (.long (p1.toInt64)), .second, .val (.long lb), .second, .val (.ref w_LESS_OR_EQUAL), .val (.int (3 : Int32)), .unset, .unset]) rfl ?_
          show Steps p.tables e below (T12.setTop (mkF m 67 #[.val (.int p0), .val (.int p1), .val (.int p2), .val (.int p3), .val (.int ((p0 &&& (2147483647 : Int32)) % (6 : Int32))), .val (.long (p1.toInt64)), .second, .val (.long lb), .second, .val (.ref w_LESS_OR_EQUAL), .val (.int (3 : Int32)), .unset, .unset] [])) t
          refine XS.goto X12.here hx rfl (pc0 := 67) (pc' := 130) rfl (hb hby at_67) (by decide) (by decide) ?_
          show Steps p.tables e below (T12.setTop (mkF m 130 #[.val (.int p0), .val (.int p1), .val (.int p2), .val (.int p3), .val (.int ((p0 &&& (2147483647 : Int32)) % (6 : Int32))), .val (.long (p1.toInt64)), .second, .val (.long lb), .second, .val (.ref w_LESS_OR_EQUAL), .val (.int (3 : Int32)), .unset, .unset] [])) t
          refine XS.lload X12.here hx rfl (hb hby at_130) rfl ?_
          show Steps p.tables e below (T12.setTop (mkF m 132 #[.val (.int p0), .val (.int p1), .val (.int p2), .val (.int p3), .val (.int ((p0 &&& (2147483647 : Int32)) % (6 : Int32))), .val (.long (p1.toInt64)), .second, .val (.long lb), .second, .val (.ref w_LESS_OR_EQUAL), .val (.int (3 : Int32)), .unset, .unset] [(.long (p1.toInt64))])) t
          refine XS.lload X12.here hx rfl (hb hby at_132) rfl ?_
          show Steps p.tables e below (T12.setTop (mkF m 134 #[.val (.int p0), .val (.int p1), .val (.int p2), .val (.int p3), .val (.int ((p0 &&& (2147483647 : Int32)) % (6 : Int32))), .val (.long (p1.toInt64)), .second, .val (.long lb), .second, .val (.ref w_LESS_OR_EQUAL), .val (.int (3 : Int32)), .unset, .unset] [(.long lb), (.long (p1.toInt64))])) t
          refine XS.lcmp X12.here hx rfl (hb hby at_134) rfl ?_
          exact k
        by_cases hc135_13 : (p1.toInt64) < lb
        · refine own_st (T' := T12) (g' := (mkF m 182 #[.val (.int p0), .val (.int p1), .val (.int p2), .val (.int p3), .val (.int ((p0 &&& (2147483647 : Int32)) % (6 : Int32))), .val (.long (p1.toInt64)), .second, .val (.long lb), .second, .val (.ref w_LESS_OR_EQUAL), .val (.int (3 : Int32)), .val (.int (0 : Int32)), .val (.int (1 : Int32))] [(.double (FP.l2d lb)), (.double (FP.l2d (p1.toInt64))), (.ref w_LESS_OR_EQUAL)])) (fun t k => ?_) ?_
          · show Steps p.tables e below (T12.setTop (mkF m 135 #[.val (.int p0), .val (.int p1), .val (.int p2), .val (.int p3), .val (.int ((p0 &&& (2147483647 : Int32)) % (6 : Int32))), .val (.long (p1.toInt64)), .second, .val (.long lb), .second, .val (.ref w_LESS_OR_EQUAL), .val (.int (3 : Int32)), .unset, .unset] [(.int (lcmpW (p1.toInt64) lb))])) t
            refine XS.ifNo X12.here hx rfl (hb hby at_135) rfl ((if0 _ _).trans (tlt ((lw_lt (p1.toInt64) lb).mpr hc135_13)).2.1) ?_
            show Steps p.tables e below (T12.setTop (mkF m 138 #[.val (.int p0), .val (.int p1), .val (.int p2), .val (.int p3), .val (.int ((p0 &&& (2147483647 : Int32)) % (6 : Int32))), .val (.long (p1.toInt64)), .second, .val (.long lb), .second, .val (.ref w_LESS_OR_EQUAL), .val (.int (3 : Int32)), .unset, .unset] [])) t
            refine XS.iconst X12.here hx rfl (hb hby at_138) ?_
            show Steps p.tables e below (T12.setTop (mkF m 139 #[.val (.int p0), .val (.int p1), .val (.int p2), .val (.int p3), .val (.int ((p0 &&& (2147483647 : Int32)) % (6 : Int32))), .val (.long (p1.toInt64)), .second, .val (.long lb), .second, .val (.ref w_LESS_OR_EQUAL), .val (.int (3 : Int32)), .unset, .unset] [(.int (0 : Int32))])) t
            refine XS.goto X12.here hx rfl (pc0 := 139) (pc' := 155) rfl (hb hby at_139) (by decide) (by decide) ?_
            show Steps p.tables e below (T12.setTop (mkF m 155 #[.val (.int p0), .val (.int p1), .val (.int p2), .val (.int p3), .val (.int ((p0 &&& (2147483647 : Int32)) % (6 : Int32))), .val (.long (p1.toInt64)), .second, .val (.long lb), .second, .val (.ref w_LESS_OR_EQUAL), .val (.int (3 : Int32)), .unset, .unset] [(.int (0 : Int32))])) t
            refine XS.istore X12.here hx rfl (hb hby at_155) rfl (l' := #[.val (.int p0), .val (.int p1), .val (.int p2), .val (.int p3), .val (.int ((p0 &&& (2147483647 : Int32)) % (6 : Int32))), .val (.long (p1.toInt64)), .second, .val (.long lb), .second, .val (.ref w_LESS_OR_EQUAL), .val (.int (3 : Int32)), .val (.int (0 : Int32)), .unset]) rfl ?_
            show Steps p.tables e below (T12.setTop (mkF m 157 #[.val (.int p0), .val (.int p1), .val (.int p2), .val (.int p3), .val (.int ((p0 &&& (2147483647 : Int32)) % (6 : Int32))), .val (.long (p1.toInt64)), .second, .val (.long lb), .second, .val (.ref w_LESS_OR_EQUAL), .val (.int (3 : Int32)), .val (.int (0 : Int32)), .unset] [])) t
            refine XS.iload X12.here hx rfl (hb hby at_157) rfl ?_
            show Steps p.tables e below (T12.setTop (mkF m 159 #[.val (.int p0), .val (.int p1), .val (.int p2), .val (.int p3), .val (.int ((p0 &&& (2147483647 : Int32)) % (6 : Int32))), .val (.long (p1.toInt64)), .second, .val (.long lb), .second, .val (.ref w_LESS_OR_EQUAL), .val (.int (3 : Int32)), .val (.int (0 : Int32)), .unset] [(.int (3 : Int32))])) t
            refine XS.iload X12.here hx rfl (hb hby at_159) rfl ?_
            show Steps p.tables e below (T12.setTop (mkF m 161 #[.val (.int p0), .val (.int p1), .val (.int p2), .val (.int p3), .val (.int ((p0 &&& (2147483647 : Int32)) % (6 : Int32))), .val (.long (p1.toInt64)), .second, .val (.long lb), .second, .val (.ref w_LESS_OR_EQUAL), .val (.int (3 : Int32)), .val (.int (0 : Int32)), .unset] [(.int (0 : Int32)), (.int (3 : Int32))])) t
            refine XS.ishr X12.here hx rfl (hb hby at_161) rfl ?_
            show Steps p.tables e below (T12.setTop (mkF m 162 #[.val (.int p0), .val (.int p1), .val (.int p2), .val (.int p3), .val (.int ((p0 &&& (2147483647 : Int32)) % (6 : Int32))), .val (.long (p1.toInt64)), .second, .val (.long lb), .second, .val (.ref w_LESS_OR_EQUAL), .val (.int (3 : Int32)), .val (.int (0 : Int32)), .unset] [(.int (3 : Int32))])) t
            refine XS.iconst X12.here hx rfl (hb hby at_162) ?_
            show Steps p.tables e below (T12.setTop (mkF m 163 #[.val (.int p0), .val (.int p1), .val (.int p2), .val (.int p3), .val (.int ((p0 &&& (2147483647 : Int32)) % (6 : Int32))), .val (.long (p1.toInt64)), .second, .val (.long lb), .second, .val (.ref w_LESS_OR_EQUAL), .val (.int (3 : Int32)), .val (.int (0 : Int32)), .unset] [(.int (1 : Int32)), (.int (3 : Int32))])) t
            refine XS.iand X12.here hx rfl (hb hby at_163) rfl ?_
            show Steps p.tables e below (T12.setTop (mkF m 164 #[.val (.int p0), .val (.int p1), .val (.int p2), .val (.int p3), .val (.int ((p0 &&& (2147483647 : Int32)) % (6 : Int32))), .val (.long (p1.toInt64)), .second, .val (.long lb), .second, .val (.ref w_LESS_OR_EQUAL), .val (.int (3 : Int32)), .val (.int (0 : Int32)), .unset] [(.int (1 : Int32))])) t
            refine XS.ifNo X12.here hx rfl (hb hby at_164) rfl (by decide) ?_
            show Steps p.tables e below (T12.setTop (mkF m 167 #[.val (.int p0), .val (.int p1), .val (.int p2), .val (.int p3), .val (.int ((p0 &&& (2147483647 : Int32)) % (6 : Int32))), .val (.long (p1.toInt64)), .second, .val (.long lb), .second, .val (.ref w_LESS_OR_EQUAL), .val (.int (3 : Int32)), .val (.int (0 : Int32)), .unset] [])) t
            refine XS.iconst X12.here hx rfl (hb hby at_167) ?_
            show Steps p.tables e below (T12.setTop (mkF m 168 #[.val (.int p0), .val (.int p1), .val (.int p2), .val (.int p3), .val (.int ((p0 &&& (2147483647 : Int32)) % (6 : Int32))), .val (.long (p1.toInt64)), .second, .val (.long lb), .second, .val (.ref w_LESS_OR_EQUAL), .val (.int (3 : Int32)), .val (.int (0 : Int32)), .unset] [(.int (1 : Int32))])) t
            refine XS.goto X12.here hx rfl (pc0 := 168) (pc' := 172) rfl (hb hby at_168) (by decide) (by decide) ?_
            show Steps p.tables e below (T12.setTop (mkF m 172 #[.val (.int p0), .val (.int p1), .val (.int p2), .val (.int p3), .val (.int ((p0 &&& (2147483647 : Int32)) % (6 : Int32))), .val (.long (p1.toInt64)), .second, .val (.long lb), .second, .val (.ref w_LESS_OR_EQUAL), .val (.int (3 : Int32)), .val (.int (0 : Int32)), .unset] [(.int (1 : Int32))])) t
            refine XS.istore X12.here hx rfl (hb hby at_172) rfl (l' := #[.val (.int p0), .val (.int p1), .val (.int p2), .val (.int p3), .val (.int ((p0 &&& (2147483647 : Int32)) % (6 : Int32))), .val (.long (p1.toInt64)), .second, .val (.long lb), .second, .val (.ref w_LESS_OR_EQUAL), .val (.int (3 : Int32)), .val (.int (0 : Int32)), .val (.int (1 : Int32))]) rfl ?_
            show Steps p.tables e below (T12.setTop (mkF m 174 #[.val (.int p0), .val (.int p1), .val (.int p2), .val (.int p3), .val (.int ((p0 &&& (2147483647 : Int32)) % (6 : Int32))), .val (.long (p1.toInt64)), .second, .val (.long lb), .second, .val (.ref w_LESS_OR_EQUAL), .val (.int (3 : Int32)), .val (.int (0 : Int32)), .val (.int (1 : Int32))] [])) t
            refine XS.aload X12.here hx rfl (hb hby at_174) rfl rfl ?_
            show Steps p.tables e below (T12.setTop (mkF m 176 #[.val (.int p0), .val (.int p1), .val (.int p2), .val (.int p3), .val (.int ((p0 &&& (2147483647 : Int32)) % (6 : Int32))), .val (.long (p1.toInt64)), .second, .val (.long lb), .second, .val (.ref w_LESS_OR_EQUAL), .val (.int (3 : Int32)), .val (.int (0 : Int32)), .val (.int (1 : Int32))] [(.ref w_LESS_OR_EQUAL)])) t
            refine XS.lload X12.here hx rfl (hb hby at_176) rfl ?_
            show Steps p.tables e below (T12.setTop (mkF m 178 #[.val (.int p0), .val (.int p1), .val (.int p2), .val (.int p3), .val (.int ((p0 &&& (2147483647 : Int32)) % (6 : Int32))), .val (.long (p1.toInt64)), .second, .val (.long lb), .second, .val (.ref w_LESS_OR_EQUAL), .val (.int (3 : Int32)), .val (.int (0 : Int32)), .val (.int (1 : Int32))] [(.long (p1.toInt64)), (.ref w_LESS_OR_EQUAL)])) t
            refine XS.l2dS X12.here hx rfl (hb hby at_178) rfl rfl ?_
            show Steps p.tables e below (T12.setTop (mkF m 179 #[.val (.int p0), .val (.int p1), .val (.int p2), .val (.int p3), .val (.int ((p0 &&& (2147483647 : Int32)) % (6 : Int32))), .val (.long (p1.toInt64)), .second, .val (.long lb), .second, .val (.ref w_LESS_OR_EQUAL), .val (.int (3 : Int32)), .val (.int (0 : Int32)), .val (.int (1 : Int32))] [(.double (FP.l2d (p1.toInt64))), (.ref w_LESS_OR_EQUAL)])) t
            refine XS.lload X12.here hx rfl (hb hby at_179) rfl ?_
            show Steps p.tables e below (T12.setTop (mkF m 181 #[.val (.int p0), .val (.int p1), .val (.int p2), .val (.int p3), .val (.int ((p0 &&& (2147483647 : Int32)) % (6 : Int32))), .val (.long (p1.toInt64)), .second, .val (.long lb), .second, .val (.ref w_LESS_OR_EQUAL), .val (.int (3 : Int32)), .val (.int (0 : Int32)), .val (.int (1 : Int32))] [(.long lb), (.double (FP.l2d (p1.toInt64))), (.ref w_LESS_OR_EQUAL)])) t
            refine XS.l2dS X12.here hx rfl (hb hby at_181) rfl rfl ?_
            exact k
          obtain ⟨cq14, kq14, qa14, qb14, qc14⟩ := isOf hZ e12 E_w_LESS_OR_EQUAL
          obtain ⟨_, _, ⟨T14, L14, k14, n14⟩, -, X14, ⟨Lc14, hQ14, l14, y14, z14⟩, st14⟩ := X12.virtualBack hx (y := (⟨"com/example/meshwatch/meshwatch/Relation", "holds", "(DD)Z"⟩ : MethodName)) (z := (⟨"com/example/meshwatch/meshwatch/Relation", "holds", "(DD)Z"⟩ : MethodName)) hown (mvT hZ (hw _ (List.mem_of_getElem? (i := 4) rfl))) (mvT hZ (hw _ (List.mem_of_getElem? (i := 5) rfl))) (notFace_of_selects (args := #[]) (mvT hZ (hw _ (List.mem_of_getElem? (i := 7) rfl)))) (mvT hZ (hw _ (List.mem_of_getElem? (i := 7) rfl))) (mvT hZ (hw _ (List.mem_of_getElem? (i := 6) rfl))) (by decide) (backOf (W := 0) (rmh1 l Z ar hw [] w_LESS_OR_EQUAL ((FP.l2d (p1.toInt64))) ((FP.l2d lb)) h0 n0 Z0 E_w_LESS_OR_EQUAL F_ordinal_w_LESS_OR_EQUAL) hZ (hw _ (List.mem_of_getElem? (i := 8) rfl)) (hw _ (List.mem_of_getElem? (i := 2) rfl)) (by decide) (by decide)) qa14 qc14 (g := (mkF m 182 #[.val (.int p0), .val (.int p1), .val (.int p2), .val (.int p3), .val (.int ((p0 &&& (2147483647 : Int32)) % (6 : Int32))), .val (.long (p1.toInt64)), .second, .val (.long lb), .second, .val (.ref w_LESS_OR_EQUAL), .val (.int (3 : Int32)), .val (.int (0 : Int32)), .val (.int (1 : Int32))] [(.double (FP.l2d lb)), (.double (FP.l2d (p1.toInt64))), (.ref w_LESS_OR_EQUAL)])) rfl (by rw [hml]; rfl) (Steps.refl _) (argsL := [(.double (FP.l2d (p1.toInt64))), (.double (FP.l2d lb))]) (rest := []) (lenOf pd0_0 rfl) rfl (by show 2 * 0 + _ ≤ _; exact Nat.le_of_eq rfl) (hb hby at_182) (fun _ _ => ⟨rfl, e12, (by decide : 0 + 0 ≤ _), (by decide : 0 + 0 ≤ _)⟩)
          dsimp only [Pt.U, Pt.locs, Pt.cells, Pt.slots] at X14 l14 y14 z14 st14 hQ14
          subst l14 y14 z14
          obtain ⟨rfl, N14q, e14⟩ := hQ14
          have n15 := Fr.app N0 N14q
          refine own_tr (T' := T14) (g' := (mkF m 185 #[.val (.int p0), .val (.int p1), .val (.int p2), .val (.int p3), .val (.int ((p0 &&& (2147483647 : Int32)) % (6 : Int32))), .val (.long (p1.toInt64)), .second, .val (.long lb), .second, .val (.ref w_LESS_OR_EQUAL), .val (.int (3 : Int32)), .val (.int (0 : Int32)), .val (.int (1 : Int32))] [(.int (own_h1 (FP.dcmp (FP.l2d (p1.toInt64)) (FP.l2d lb))))])) st14 ?_
          refine own_st (T' := T14) (g' := (mkF m 195 #[.val (.int p0), .val (.int p1), .val (.int p2), .val (.int p3), .val (.int ((p0 &&& (2147483647 : Int32)) % (6 : Int32))), .val (.long (p1.toInt64)), .second, .val (.long lb), .second, .val (.ref w_LESS_OR_EQUAL), .val (.int (3 : Int32)), .val (.int (0 : Int32)), .val (.int (1 : Int32))] [(.int (1 : Int32))])) (fun t k => ?_) ?_
          · show Steps p.tables e below (T14.setTop (mkF m 185 #[.val (.int p0), .val (.int p1), .val (.int p2), .val (.int p3), .val (.int ((p0 &&& (2147483647 : Int32)) % (6 : Int32))), .val (.long (p1.toInt64)), .second, .val (.long lb), .second, .val (.ref w_LESS_OR_EQUAL), .val (.int (3 : Int32)), .val (.int (0 : Int32)), .val (.int (1 : Int32))] [(.int (own_h1 (FP.dcmp (FP.l2d (p1.toInt64)) (FP.l2d lb))))])) t
            refine XS.iload X14.here hx rfl (hb hby at_185) rfl ?_
            show Steps p.tables e below (T14.setTop (mkF m 187 #[.val (.int p0), .val (.int p1), .val (.int p2), .val (.int p3), .val (.int ((p0 &&& (2147483647 : Int32)) % (6 : Int32))), .val (.long (p1.toInt64)), .second, .val (.long lb), .second, .val (.ref w_LESS_OR_EQUAL), .val (.int (3 : Int32)), .val (.int (0 : Int32)), .val (.int (1 : Int32))] [(.int (1 : Int32)), (.int (own_h1 (FP.dcmp (FP.l2d (p1.toInt64)) (FP.l2d lb))))])) t
            refine XS.icmpNo X14.here hx rfl (hb hby at_187) rfl (teq ((congrArg own_h1 (own_lt (own_b2 p1) hlb hc135_13)).trans (by decide) : (own_h1 (FP.dcmp (FP.l2d (p1.toInt64)) (FP.l2d lb))) = (1 : Int32))).2 ?_
            show Steps p.tables e below (T14.setTop (mkF m 190 #[.val (.int p0), .val (.int p1), .val (.int p2), .val (.int p3), .val (.int ((p0 &&& (2147483647 : Int32)) % (6 : Int32))), .val (.long (p1.toInt64)), .second, .val (.long lb), .second, .val (.ref w_LESS_OR_EQUAL), .val (.int (3 : Int32)), .val (.int (0 : Int32)), .val (.int (1 : Int32))] [])) t
            refine XS.iconst X14.here hx rfl (hb hby at_190) ?_
            show Steps p.tables e below (T14.setTop (mkF m 191 #[.val (.int p0), .val (.int p1), .val (.int p2), .val (.int p3), .val (.int ((p0 &&& (2147483647 : Int32)) % (6 : Int32))), .val (.long (p1.toInt64)), .second, .val (.long lb), .second, .val (.ref w_LESS_OR_EQUAL), .val (.int (3 : Int32)), .val (.int (0 : Int32)), .val (.int (1 : Int32))] [(.int (1 : Int32))])) t
            refine XS.goto X14.here hx rfl (pc0 := 191) (pc' := 195) rfl (hb hby at_191) (by decide) (by decide) ?_
            exact k
          refine own_retZ X14 hx hlk Bd.returns (hb hby at_195) rfl (by decide) (by decide) ?_
          show Q0 Z p0 p1 p2 p3 w_LESS w_LESS_OR_EQUAL w_GREATER w_GREATER_OR_EQUAL w_EQUAL w_NOT_EQUAL h0 n0 (some (.int (1 : Int32))) T14.heap _
          rw [(e14 : T14.heap = h0)]
          exact ⟨rfl, n15⟩
        · refine own_st (T' := T12) (g' := (mkF m 147 #[.val (.int p0), .val (.int p1), .val (.int p2), .val (.int p3), .val (.int ((p0 &&& (2147483647 : Int32)) % (6 : Int32))), .val (.long (p1.toInt64)), .second, .val (.long lb), .second, .val (.ref w_LESS_OR_EQUAL), .val (.int (3 : Int32)), .unset, .unset] [(.int (lcmpW (p1.toInt64) lb))])) (fun t k => ?_) ?_
          · show Steps p.tables e below (T12.setTop (mkF m 135 #[.val (.int p0), .val (.int p1), .val (.int p2), .val (.int p3), .val (.int ((p0 &&& (2147483647 : Int32)) % (6 : Int32))), .val (.long (p1.toInt64)), .second, .val (.long lb), .second, .val (.ref w_LESS_OR_EQUAL), .val (.int (3 : Int32)), .unset, .unset] [(.int (lcmpW (p1.toInt64) lb))])) t
            refine XS.ifYes X12.here hx rfl (pc0 := 135) (pc' := 142) rfl (hb hby at_135) rfl ((if0 _ _).trans (flt (fun q => hc135_13 ((lw_lt (p1.toInt64) lb).mp q))).2.1) (by decide) (by decide) ?_
            show Steps p.tables e below (T12.setTop (mkF m 142 #[.val (.int p0), .val (.int p1), .val (.int p2), .val (.int p3), .val (.int ((p0 &&& (2147483647 : Int32)) % (6 : Int32))), .val (.long (p1.toInt64)), .second, .val (.long lb), .second, .val (.ref w_LESS_OR_EQUAL), .val (.int (3 : Int32)), .unset, .unset] [])) t
            refine XS.lload X12.here hx rfl (hb hby at_142) rfl ?_
            show Steps p.tables e below (T12.setTop (mkF m 144 #[.val (.int p0), .val (.int p1), .val (.int p2), .val (.int p3), .val (.int ((p0 &&& (2147483647 : Int32)) % (6 : Int32))), .val (.long (p1.toInt64)), .second, .val (.long lb), .second, .val (.ref w_LESS_OR_EQUAL), .val (.int (3 : Int32)), .unset, .unset] [(.long (p1.toInt64))])) t
            refine XS.lload X12.here hx rfl (hb hby at_144) rfl ?_
            show Steps p.tables e below (T12.setTop (mkF m 146 #[.val (.int p0), .val (.int p1), .val (.int p2), .val (.int p3), .val (.int ((p0 &&& (2147483647 : Int32)) % (6 : Int32))), .val (.long (p1.toInt64)), .second, .val (.long lb), .second, .val (.ref w_LESS_OR_EQUAL), .val (.int (3 : Int32)), .unset, .unset] [(.long lb), (.long (p1.toInt64))])) t
            refine XS.lcmp X12.here hx rfl (hb hby at_146) rfl ?_
            exact k
          by_cases hc147_16 : (p1.toInt64) = lb
          · refine own_st (T' := T12) (g' := (mkF m 182 #[.val (.int p0), .val (.int p1), .val (.int p2), .val (.int p3), .val (.int ((p0 &&& (2147483647 : Int32)) % (6 : Int32))), .val (.long (p1.toInt64)), .second, .val (.long lb), .second, .val (.ref w_LESS_OR_EQUAL), .val (.int (3 : Int32)), .val (.int (1 : Int32)), .val (.int (1 : Int32))] [(.double (FP.l2d lb)), (.double (FP.l2d (p1.toInt64))), (.ref w_LESS_OR_EQUAL)])) (fun t k => ?_) ?_
            · show Steps p.tables e below (T12.setTop (mkF m 147 #[.val (.int p0), .val (.int p1), .val (.int p2), .val (.int p3), .val (.int ((p0 &&& (2147483647 : Int32)) % (6 : Int32))), .val (.long (p1.toInt64)), .second, .val (.long lb), .second, .val (.ref w_LESS_OR_EQUAL), .val (.int (3 : Int32)), .unset, .unset] [(.int (lcmpW (p1.toInt64) lb))])) t
              refine XS.ifNo X12.here hx rfl (hb hby at_147) rfl ((if0 _ _).trans (teq ((lw_eq (p1.toInt64) lb).mpr hc147_16)).2) ?_
              show Steps p.tables e below (T12.setTop (mkF m 150 #[.val (.int p0), .val (.int p1), .val (.int p2), .val (.int p3), .val (.int ((p0 &&& (2147483647 : Int32)) % (6 : Int32))), .val (.long (p1.toInt64)), .second, .val (.long lb), .second, .val (.ref w_LESS_OR_EQUAL), .val (.int (3 : Int32)), .unset, .unset] [])) t
              refine XS.iconst X12.here hx rfl (hb hby at_150) ?_
              show Steps p.tables e below (T12.setTop (mkF m 151 #[.val (.int p0), .val (.int p1), .val (.int p2), .val (.int p3), .val (.int ((p0 &&& (2147483647 : Int32)) % (6 : Int32))), .val (.long (p1.toInt64)), .second, .val (.long lb), .second, .val (.ref w_LESS_OR_EQUAL), .val (.int (3 : Int32)), .unset, .unset] [(.int (1 : Int32))])) t
              refine XS.goto X12.here hx rfl (pc0 := 151) (pc' := 155) rfl (hb hby at_151) (by decide) (by decide) ?_
              show Steps p.tables e below (T12.setTop (mkF m 155 #[.val (.int p0), .val (.int p1), .val (.int p2), .val (.int p3), .val (.int ((p0 &&& (2147483647 : Int32)) % (6 : Int32))), .val (.long (p1.toInt64)), .second, .val (.long lb), .second, .val (.ref w_LESS_OR_EQUAL), .val (.int (3 : Int32)), .unset, .unset] [(.int (1 : Int32))])) t
              refine XS.istore X12.here hx rfl (hb hby at_155) rfl (l' := #[.val (.int p0), .val (.int p1), .val (.int p2), .val (.int p3), .val (.int ((p0 &&& (2147483647 : Int32)) % (6 : Int32))), .val (.long (p1.toInt64)), .second, .val (.long lb), .second, .val (.ref w_LESS_OR_EQUAL), .val (.int (3 : Int32)), .val (.int (1 : Int32)), .unset]) rfl ?_
              show Steps p.tables e below (T12.setTop (mkF m 157 #[.val (.int p0), .val (.int p1), .val (.int p2), .val (.int p3), .val (.int ((p0 &&& (2147483647 : Int32)) % (6 : Int32))), .val (.long (p1.toInt64)), .second, .val (.long lb), .second, .val (.ref w_LESS_OR_EQUAL), .val (.int (3 : Int32)), .val (.int (1 : Int32)), .unset] [])) t
              refine XS.iload X12.here hx rfl (hb hby at_157) rfl ?_
              show Steps p.tables e below (T12.setTop (mkF m 159 #[.val (.int p0), .val (.int p1), .val (.int p2), .val (.int p3), .val (.int ((p0 &&& (2147483647 : Int32)) % (6 : Int32))), .val (.long (p1.toInt64)), .second, .val (.long lb), .second, .val (.ref w_LESS_OR_EQUAL), .val (.int (3 : Int32)), .val (.int (1 : Int32)), .unset] [(.int (3 : Int32))])) t
              refine XS.iload X12.here hx rfl (hb hby at_159) rfl ?_
              show Steps p.tables e below (T12.setTop (mkF m 161 #[.val (.int p0), .val (.int p1), .val (.int p2), .val (.int p3), .val (.int ((p0 &&& (2147483647 : Int32)) % (6 : Int32))), .val (.long (p1.toInt64)), .second, .val (.long lb), .second, .val (.ref w_LESS_OR_EQUAL), .val (.int (3 : Int32)), .val (.int (1 : Int32)), .unset] [(.int (1 : Int32)), (.int (3 : Int32))])) t
              refine XS.ishr X12.here hx rfl (hb hby at_161) rfl ?_
              show Steps p.tables e below (T12.setTop (mkF m 162 #[.val (.int p0), .val (.int p1), .val (.int p2), .val (.int p3), .val (.int ((p0 &&& (2147483647 : Int32)) % (6 : Int32))), .val (.long (p1.toInt64)), .second, .val (.long lb), .second, .val (.ref w_LESS_OR_EQUAL), .val (.int (3 : Int32)), .val (.int (1 : Int32)), .unset] [(.int (1 : Int32))])) t
              refine XS.iconst X12.here hx rfl (hb hby at_162) ?_
              show Steps p.tables e below (T12.setTop (mkF m 163 #[.val (.int p0), .val (.int p1), .val (.int p2), .val (.int p3), .val (.int ((p0 &&& (2147483647 : Int32)) % (6 : Int32))), .val (.long (p1.toInt64)), .second, .val (.long lb), .second, .val (.ref w_LESS_OR_EQUAL), .val (.int (3 : Int32)), .val (.int (1 : Int32)), .unset] [(.int (1 : Int32)), (.int (1 : Int32))])) t
              refine XS.iand X12.here hx rfl (hb hby at_163) rfl ?_
              show Steps p.tables e below (T12.setTop (mkF m 164 #[.val (.int p0), .val (.int p1), .val (.int p2), .val (.int p3), .val (.int ((p0 &&& (2147483647 : Int32)) % (6 : Int32))), .val (.long (p1.toInt64)), .second, .val (.long lb), .second, .val (.ref w_LESS_OR_EQUAL), .val (.int (3 : Int32)), .val (.int (1 : Int32)), .unset] [(.int (1 : Int32))])) t
              refine XS.ifNo X12.here hx rfl (hb hby at_164) rfl (by decide) ?_
              show Steps p.tables e below (T12.setTop (mkF m 167 #[.val (.int p0), .val (.int p1), .val (.int p2), .val (.int p3), .val (.int ((p0 &&& (2147483647 : Int32)) % (6 : Int32))), .val (.long (p1.toInt64)), .second, .val (.long lb), .second, .val (.ref w_LESS_OR_EQUAL), .val (.int (3 : Int32)), .val (.int (1 : Int32)), .unset] [])) t
              refine XS.iconst X12.here hx rfl (hb hby at_167) ?_
              show Steps p.tables e below (T12.setTop (mkF m 168 #[.val (.int p0), .val (.int p1), .val (.int p2), .val (.int p3), .val (.int ((p0 &&& (2147483647 : Int32)) % (6 : Int32))), .val (.long (p1.toInt64)), .second, .val (.long lb), .second, .val (.ref w_LESS_OR_EQUAL), .val (.int (3 : Int32)), .val (.int (1 : Int32)), .unset] [(.int (1 : Int32))])) t
              refine XS.goto X12.here hx rfl (pc0 := 168) (pc' := 172) rfl (hb hby at_168) (by decide) (by decide) ?_
              show Steps p.tables e below (T12.setTop (mkF m 172 #[.val (.int p0), .val (.int p1), .val (.int p2), .val (.int p3), .val (.int ((p0 &&& (2147483647 : Int32)) % (6 : Int32))), .val (.long (p1.toInt64)), .second, .val (.long lb), .second, .val (.ref w_LESS_OR_EQUAL), .val (.int (3 : Int32)), .val (.int (1 : Int32)), .unset] [(.int (1 : Int32))])) t
              refine XS.istore X12.here hx rfl (hb hby at_172) rfl (l' := #[.val (.int p0), .val (.int p1), .val (.int p2), .val (.int p3), .val (.int ((p0 &&& (2147483647 : Int32)) % (6 : Int32))), .val (.long (p1.toInt64)), .second, .val (.long lb), .second, .val (.ref w_LESS_OR_EQUAL), .val (.int (3 : Int32)), .val (.int (1 : Int32)), .val (.int (1 : Int32))]) rfl ?_
              show Steps p.tables e below (T12.setTop (mkF m 174 #[.val (.int p0), .val (.int p1), .val (.int p2), .val (.int p3), .val (.int ((p0 &&& (2147483647 : Int32)) % (6 : Int32))), .val (.long (p1.toInt64)), .second, .val (.long lb), .second, .val (.ref w_LESS_OR_EQUAL), .val (.int (3 : Int32)), .val (.int (1 : Int32)), .val (.int (1 : Int32))] [])) t
              refine XS.aload X12.here hx rfl (hb hby at_174) rfl rfl ?_
              show Steps p.tables e below (T12.setTop (mkF m 176 #[.val (.int p0), .val (.int p1), .val (.int p2), .val (.int p3), .val (.int ((p0 &&& (2147483647 : Int32)) % (6 : Int32))), .val (.long (p1.toInt64)), .second, .val (.long lb), .second, .val (.ref w_LESS_OR_EQUAL), .val (.int (3 : Int32)), .val (.int (1 : Int32)), .val (.int (1 : Int32))] [(.ref w_LESS_OR_EQUAL)])) t
              refine XS.lload X12.here hx rfl (hb hby at_176) rfl ?_
              show Steps p.tables e below (T12.setTop (mkF m 178 #[.val (.int p0), .val (.int p1), .val (.int p2), .val (.int p3), .val (.int ((p0 &&& (2147483647 : Int32)) % (6 : Int32))), .val (.long (p1.toInt64)), .second, .val (.long lb), .second, .val (.ref w_LESS_OR_EQUAL), .val (.int (3 : Int32)), .val (.int (1 : Int32)), .val (.int (1 : Int32))] [(.long (p1.toInt64)), (.ref w_LESS_OR_EQUAL)])) t
              refine XS.l2dS X12.here hx rfl (hb hby at_178) rfl rfl ?_
              show Steps p.tables e below (T12.setTop (mkF m 179 #[.val (.int p0), .val (.int p1), .val (.int p2), .val (.int p3), .val (.int ((p0 &&& (2147483647 : Int32)) % (6 : Int32))), .val (.long (p1.toInt64)), .second, .val (.long lb), .second, .val (.ref w_LESS_OR_EQUAL), .val (.int (3 : Int32)), .val (.int (1 : Int32)), .val (.int (1 : Int32))] [(.double (FP.l2d (p1.toInt64))), (.ref w_LESS_OR_EQUAL)])) t
              refine XS.lload X12.here hx rfl (hb hby at_179) rfl ?_
              show Steps p.tables e below (T12.setTop (mkF m 181 #[.val (.int p0), .val (.int p1), .val (.int p2), .val (.int p3), .val (.int ((p0 &&& (2147483647 : Int32)) % (6 : Int32))), .val (.long (p1.toInt64)), .second, .val (.long lb), .second, .val (.ref w_LESS_OR_EQUAL), .val (.int (3 : Int32)), .val (.int (1 : Int32)), .val (.int (1 : Int32))] [(.long lb), (.double (FP.l2d (p1.toInt64))), (.ref w_LESS_OR_EQUAL)])) t
              refine XS.l2dS X12.here hx rfl (hb hby at_181) rfl rfl ?_
              exact k
            obtain ⟨cq17, kq17, qa17, qb17, qc17⟩ := isOf hZ e12 E_w_LESS_OR_EQUAL
            obtain ⟨_, _, ⟨T17, L17, k17, n17⟩, -, X17, ⟨Lc17, hQ17, l17, y17, z17⟩, st17⟩ := X12.virtualBack hx (y := (⟨"com/example/meshwatch/meshwatch/Relation", "holds", "(DD)Z"⟩ : MethodName)) (z := (⟨"com/example/meshwatch/meshwatch/Relation", "holds", "(DD)Z"⟩ : MethodName)) hown (mvT hZ (hw _ (List.mem_of_getElem? (i := 4) rfl))) (mvT hZ (hw _ (List.mem_of_getElem? (i := 5) rfl))) (notFace_of_selects (args := #[]) (mvT hZ (hw _ (List.mem_of_getElem? (i := 7) rfl)))) (mvT hZ (hw _ (List.mem_of_getElem? (i := 7) rfl))) (mvT hZ (hw _ (List.mem_of_getElem? (i := 6) rfl))) (by decide) (backOf (W := 0) (rmh1 l Z ar hw [] w_LESS_OR_EQUAL ((FP.l2d (p1.toInt64))) ((FP.l2d lb)) h0 n0 Z0 E_w_LESS_OR_EQUAL F_ordinal_w_LESS_OR_EQUAL) hZ (hw _ (List.mem_of_getElem? (i := 8) rfl)) (hw _ (List.mem_of_getElem? (i := 2) rfl)) (by decide) (by decide)) qa17 qc17 (g := (mkF m 182 #[.val (.int p0), .val (.int p1), .val (.int p2), .val (.int p3), .val (.int ((p0 &&& (2147483647 : Int32)) % (6 : Int32))), .val (.long (p1.toInt64)), .second, .val (.long lb), .second, .val (.ref w_LESS_OR_EQUAL), .val (.int (3 : Int32)), .val (.int (1 : Int32)), .val (.int (1 : Int32))] [(.double (FP.l2d lb)), (.double (FP.l2d (p1.toInt64))), (.ref w_LESS_OR_EQUAL)])) rfl (by rw [hml]; rfl) (Steps.refl _) (argsL := [(.double (FP.l2d (p1.toInt64))), (.double (FP.l2d lb))]) (rest := []) (lenOf pd0_0 rfl) rfl (by show 2 * 0 + _ ≤ _; exact Nat.le_of_eq rfl) (hb hby at_182) (fun _ _ => ⟨rfl, e12, (by decide : 0 + 0 ≤ _), (by decide : 0 + 0 ≤ _)⟩)
            dsimp only [Pt.U, Pt.locs, Pt.cells, Pt.slots] at X17 l17 y17 z17 st17 hQ17
            subst l17 y17 z17
            obtain ⟨rfl, N17q, e17⟩ := hQ17
            have n18 := Fr.app N0 N17q
            refine own_tr (T' := T17) (g' := (mkF m 185 #[.val (.int p0), .val (.int p1), .val (.int p2), .val (.int p3), .val (.int ((p0 &&& (2147483647 : Int32)) % (6 : Int32))), .val (.long (p1.toInt64)), .second, .val (.long lb), .second, .val (.ref w_LESS_OR_EQUAL), .val (.int (3 : Int32)), .val (.int (1 : Int32)), .val (.int (1 : Int32))] [(.int (own_h1 (FP.dcmp (FP.l2d (p1.toInt64)) (FP.l2d lb))))])) st17 ?_
            refine own_st (T' := T17) (g' := (mkF m 195 #[.val (.int p0), .val (.int p1), .val (.int p2), .val (.int p3), .val (.int ((p0 &&& (2147483647 : Int32)) % (6 : Int32))), .val (.long (p1.toInt64)), .second, .val (.long lb), .second, .val (.ref w_LESS_OR_EQUAL), .val (.int (3 : Int32)), .val (.int (1 : Int32)), .val (.int (1 : Int32))] [(.int (1 : Int32))])) (fun t k => ?_) ?_
            · show Steps p.tables e below (T17.setTop (mkF m 185 #[.val (.int p0), .val (.int p1), .val (.int p2), .val (.int p3), .val (.int ((p0 &&& (2147483647 : Int32)) % (6 : Int32))), .val (.long (p1.toInt64)), .second, .val (.long lb), .second, .val (.ref w_LESS_OR_EQUAL), .val (.int (3 : Int32)), .val (.int (1 : Int32)), .val (.int (1 : Int32))] [(.int (own_h1 (FP.dcmp (FP.l2d (p1.toInt64)) (FP.l2d lb))))])) t
              refine XS.iload X17.here hx rfl (hb hby at_185) rfl ?_
              show Steps p.tables e below (T17.setTop (mkF m 187 #[.val (.int p0), .val (.int p1), .val (.int p2), .val (.int p3), .val (.int ((p0 &&& (2147483647 : Int32)) % (6 : Int32))), .val (.long (p1.toInt64)), .second, .val (.long lb), .second, .val (.ref w_LESS_OR_EQUAL), .val (.int (3 : Int32)), .val (.int (1 : Int32)), .val (.int (1 : Int32))] [(.int (1 : Int32)), (.int (own_h1 (FP.dcmp (FP.l2d (p1.toInt64)) (FP.l2d lb))))])) t
              refine XS.icmpNo X17.here hx rfl (hb hby at_187) rfl (teq ((congrArg own_h1 (own_eq (own_b2 p1) hlb hc147_16)).trans (by decide) : (own_h1 (FP.dcmp (FP.l2d (p1.toInt64)) (FP.l2d lb))) = (1 : Int32))).2 ?_
              show Steps p.tables e below (T17.setTop (mkF m 190 #[.val (.int p0), .val (.int p1), .val (.int p2), .val (.int p3), .val (.int ((p0 &&& (2147483647 : Int32)) % (6 : Int32))), .val (.long (p1.toInt64)), .second, .val (.long lb), .second, .val (.ref w_LESS_OR_EQUAL), .val (.int (3 : Int32)), .val (.int (1 : Int32)), .val (.int (1 : Int32))] [])) t
              refine XS.iconst X17.here hx rfl (hb hby at_190) ?_
              show Steps p.tables e below (T17.setTop (mkF m 191 #[.val (.int p0), .val (.int p1), .val (.int p2), .val (.int p3), .val (.int ((p0 &&& (2147483647 : Int32)) % (6 : Int32))), .val (.long (p1.toInt64)), .second, .val (.long lb), .second, .val (.ref w_LESS_OR_EQUAL), .val (.int (3 : Int32)), .val (.int (1 : Int32)), .val (.int (1 : Int32))] [(.int (1 : Int32))])) t
              refine XS.goto X17.here hx rfl (pc0 := 191) (pc' := 195) rfl (hb hby at_191) (by decide) (by decide) ?_
              exact k
            refine own_retZ X17 hx hlk Bd.returns (hb hby at_195) rfl (by decide) (by decide) ?_
            show Q0 Z p0 p1 p2 p3 w_LESS w_LESS_OR_EQUAL w_GREATER w_GREATER_OR_EQUAL w_EQUAL w_NOT_EQUAL h0 n0 (some (.int (1 : Int32))) T17.heap _
            rw [(e17 : T17.heap = h0)]
            exact ⟨rfl, n18⟩
          · refine own_st (T' := T12) (g' := (mkF m 182 #[.val (.int p0), .val (.int p1), .val (.int p2), .val (.int p3), .val (.int ((p0 &&& (2147483647 : Int32)) % (6 : Int32))), .val (.long (p1.toInt64)), .second, .val (.long lb), .second, .val (.ref w_LESS_OR_EQUAL), .val (.int (3 : Int32)), .val (.int (2 : Int32)), .val (.int (0 : Int32))] [(.double (FP.l2d lb)), (.double (FP.l2d (p1.toInt64))), (.ref w_LESS_OR_EQUAL)])) (fun t k => ?_) ?_
            · show Steps p.tables e below (T12.setTop (mkF m 147 #[.val (.int p0), .val (.int p1), .val (.int p2), .val (.int p3), .val (.int ((p0 &&& (2147483647 : Int32)) % (6 : Int32))), .val (.long (p1.toInt64)), .second, .val (.long lb), .second, .val (.ref w_LESS_OR_EQUAL), .val (.int (3 : Int32)), .unset, .unset] [(.int (lcmpW (p1.toInt64) lb))])) t
              refine XS.ifYes X12.here hx rfl (pc0 := 147) (pc' := 154) rfl (hb hby at_147) rfl ((if0 _ _).trans (feq (fun q => hc147_16 ((lw_eq (p1.toInt64) lb).mp q))).2) (by decide) (by decide) ?_
              show Steps p.tables e below (T12.setTop (mkF m 154 #[.val (.int p0), .val (.int p1), .val (.int p2), .val (.int p3), .val (.int ((p0 &&& (2147483647 : Int32)) % (6 : Int32))), .val (.long (p1.toInt64)), .second, .val (.long lb), .second, .val (.ref w_LESS_OR_EQUAL), .val (.int (3 : Int32)), .unset, .unset] [])) t
              refine XS.iconst X12.here hx rfl (hb hby at_154) ?_
              show Steps p.tables e below (T12.setTop (mkF m 155 #[.val (.int p0), .val (.int p1), .val (.int p2), .val (.int p3), .val (.int ((p0 &&& (2147483647 : Int32)) % (6 : Int32))), .val (.long (p1.toInt64)), .second, .val (.long lb), .second, .val (.ref w_LESS_OR_EQUAL), .val (.int (3 : Int32)), .unset, .unset] [(.int (2 : Int32))])) t
              refine XS.istore X12.here hx rfl (hb hby at_155) rfl (l' := #[.val (.int p0), .val (.int p1), .val (.int p2), .val (.int p3), .val (.int ((p0 &&& (2147483647 : Int32)) % (6 : Int32))), .val (.long (p1.toInt64)), .second, .val (.long lb), .second, .val (.ref w_LESS_OR_EQUAL), .val (.int (3 : Int32)), .val (.int (2 : Int32)), .unset]) rfl ?_
              show Steps p.tables e below (T12.setTop (mkF m 157 #[.val (.int p0), .val (.int p1), .val (.int p2), .val (.int p3), .val (.int ((p0 &&& (2147483647 : Int32)) % (6 : Int32))), .val (.long (p1.toInt64)), .second, .val (.long lb), .second, .val (.ref w_LESS_OR_EQUAL), .val (.int (3 : Int32)), .val (.int (2 : Int32)), .unset] [])) t
              refine XS.iload X12.here hx rfl (hb hby at_157) rfl ?_
              show Steps p.tables e below (T12.setTop (mkF m 159 #[.val (.int p0), .val (.int p1), .val (.int p2), .val (.int p3), .val (.int ((p0 &&& (2147483647 : Int32)) % (6 : Int32))), .val (.long (p1.toInt64)), .second, .val (.long lb), .second, .val (.ref w_LESS_OR_EQUAL), .val (.int (3 : Int32)), .val (.int (2 : Int32)), .unset] [(.int (3 : Int32))])) t
              refine XS.iload X12.here hx rfl (hb hby at_159) rfl ?_
              show Steps p.tables e below (T12.setTop (mkF m 161 #[.val (.int p0), .val (.int p1), .val (.int p2), .val (.int p3), .val (.int ((p0 &&& (2147483647 : Int32)) % (6 : Int32))), .val (.long (p1.toInt64)), .second, .val (.long lb), .second, .val (.ref w_LESS_OR_EQUAL), .val (.int (3 : Int32)), .val (.int (2 : Int32)), .unset] [(.int (2 : Int32)), (.int (3 : Int32))])) t
              refine XS.ishr X12.here hx rfl (hb hby at_161) rfl ?_
              show Steps p.tables e below (T12.setTop (mkF m 162 #[.val (.int p0), .val (.int p1), .val (.int p2), .val (.int p3), .val (.int ((p0 &&& (2147483647 : Int32)) % (6 : Int32))), .val (.long (p1.toInt64)), .second, .val (.long lb), .second, .val (.ref w_LESS_OR_EQUAL), .val (.int (3 : Int32)), .val (.int (2 : Int32)), .unset] [(.int (0 : Int32))])) t
              refine XS.iconst X12.here hx rfl (hb hby at_162) ?_
              show Steps p.tables e below (T12.setTop (mkF m 163 #[.val (.int p0), .val (.int p1), .val (.int p2), .val (.int p3), .val (.int ((p0 &&& (2147483647 : Int32)) % (6 : Int32))), .val (.long (p1.toInt64)), .second, .val (.long lb), .second, .val (.ref w_LESS_OR_EQUAL), .val (.int (3 : Int32)), .val (.int (2 : Int32)), .unset] [(.int (1 : Int32)), (.int (0 : Int32))])) t
              refine XS.iand X12.here hx rfl (hb hby at_163) rfl ?_
              show Steps p.tables e below (T12.setTop (mkF m 164 #[.val (.int p0), .val (.int p1), .val (.int p2), .val (.int p3), .val (.int ((p0 &&& (2147483647 : Int32)) % (6 : Int32))), .val (.long (p1.toInt64)), .second, .val (.long lb), .second, .val (.ref w_LESS_OR_EQUAL), .val (.int (3 : Int32)), .val (.int (2 : Int32)), .unset] [(.int (0 : Int32))])) t
              refine XS.ifYes X12.here hx rfl (pc0 := 164) (pc' := 171) rfl (hb hby at_164) rfl (by decide) (by decide) (by decide) ?_
              show Steps p.tables e below (T12.setTop (mkF m 171 #[.val (.int p0), .val (.int p1), .val (.int p2), .val (.int p3), .val (.int ((p0 &&& (2147483647 : Int32)) % (6 : Int32))), .val (.long (p1.toInt64)), .second, .val (.long lb), .second, .val (.ref w_LESS_OR_EQUAL), .val (.int (3 : Int32)), .val (.int (2 : Int32)), .unset] [])) t
              refine XS.iconst X12.here hx rfl (hb hby at_171) ?_
              show Steps p.tables e below (T12.setTop (mkF m 172 #[.val (.int p0), .val (.int p1), .val (.int p2), .val (.int p3), .val (.int ((p0 &&& (2147483647 : Int32)) % (6 : Int32))), .val (.long (p1.toInt64)), .second, .val (.long lb), .second, .val (.ref w_LESS_OR_EQUAL), .val (.int (3 : Int32)), .val (.int (2 : Int32)), .unset] [(.int (0 : Int32))])) t
              refine XS.istore X12.here hx rfl (hb hby at_172) rfl (l' := #[.val (.int p0), .val (.int p1), .val (.int p2), .val (.int p3), .val (.int ((p0 &&& (2147483647 : Int32)) % (6 : Int32))), .val (.long (p1.toInt64)), .second, .val (.long lb), .second, .val (.ref w_LESS_OR_EQUAL), .val (.int (3 : Int32)), .val (.int (2 : Int32)), .val (.int (0 : Int32))]) rfl ?_
              show Steps p.tables e below (T12.setTop (mkF m 174 #[.val (.int p0), .val (.int p1), .val (.int p2), .val (.int p3), .val (.int ((p0 &&& (2147483647 : Int32)) % (6 : Int32))), .val (.long (p1.toInt64)), .second, .val (.long lb), .second, .val (.ref w_LESS_OR_EQUAL), .val (.int (3 : Int32)), .val (.int (2 : Int32)), .val (.int (0 : Int32))] [])) t
              refine XS.aload X12.here hx rfl (hb hby at_174) rfl rfl ?_
              show Steps p.tables e below (T12.setTop (mkF m 176 #[.val (.int p0), .val (.int p1), .val (.int p2), .val (.int p3), .val (.int ((p0 &&& (2147483647 : Int32)) % (6 : Int32))), .val (.long (p1.toInt64)), .second, .val (.long lb), .second, .val (.ref w_LESS_OR_EQUAL), .val (.int (3 : Int32)), .val (.int (2 : Int32)), .val (.int (0 : Int32))] [(.ref w_LESS_OR_EQUAL)])) t
              refine XS.lload X12.here hx rfl (hb hby at_176) rfl ?_
              show Steps p.tables e below (T12.setTop (mkF m 178 #[.val (.int p0), .val (.int p1), .val (.int p2), .val (.int p3), .val (.int ((p0 &&& (2147483647 : Int32)) % (6 : Int32))), .val (.long (p1.toInt64)), .second, .val (.long lb), .second, .val (.ref w_LESS_OR_EQUAL), .val (.int (3 : Int32)), .val (.int (2 : Int32)), .val (.int (0 : Int32))] [(.long (p1.toInt64)), (.ref w_LESS_OR_EQUAL)])) t
              refine XS.l2dS X12.here hx rfl (hb hby at_178) rfl rfl ?_
              show Steps p.tables e below (T12.setTop (mkF m 179 #[.val (.int p0), .val (.int p1), .val (.int p2), .val (.int p3), .val (.int ((p0 &&& (2147483647 : Int32)) % (6 : Int32))), .val (.long (p1.toInt64)), .second, .val (.long lb), .second, .val (.ref w_LESS_OR_EQUAL), .val (.int (3 : Int32)), .val (.int (2 : Int32)), .val (.int (0 : Int32))] [(.double (FP.l2d (p1.toInt64))), (.ref w_LESS_OR_EQUAL)])) t
              refine XS.lload X12.here hx rfl (hb hby at_179) rfl ?_
              show Steps p.tables e below (T12.setTop (mkF m 181 #[.val (.int p0), .val (.int p1), .val (.int p2), .val (.int p3), .val (.int ((p0 &&& (2147483647 : Int32)) % (6 : Int32))), .val (.long (p1.toInt64)), .second, .val (.long lb), .second, .val (.ref w_LESS_OR_EQUAL), .val (.int (3 : Int32)), .val (.int (2 : Int32)), .val (.int (0 : Int32))] [(.long lb), (.double (FP.l2d (p1.toInt64))), (.ref w_LESS_OR_EQUAL)])) t
              refine XS.l2dS X12.here hx rfl (hb hby at_181) rfl rfl ?_
              exact k
            obtain ⟨cq19, kq19, qa19, qb19, qc19⟩ := isOf hZ e12 E_w_LESS_OR_EQUAL
            obtain ⟨_, _, ⟨T19, L19, k19, n19⟩, -, X19, ⟨Lc19, hQ19, l19, y19, z19⟩, st19⟩ := X12.virtualBack hx (y := (⟨"com/example/meshwatch/meshwatch/Relation", "holds", "(DD)Z"⟩ : MethodName)) (z := (⟨"com/example/meshwatch/meshwatch/Relation", "holds", "(DD)Z"⟩ : MethodName)) hown (mvT hZ (hw _ (List.mem_of_getElem? (i := 4) rfl))) (mvT hZ (hw _ (List.mem_of_getElem? (i := 5) rfl))) (notFace_of_selects (args := #[]) (mvT hZ (hw _ (List.mem_of_getElem? (i := 7) rfl)))) (mvT hZ (hw _ (List.mem_of_getElem? (i := 7) rfl))) (mvT hZ (hw _ (List.mem_of_getElem? (i := 6) rfl))) (by decide) (backOf (W := 0) (rmh1 l Z ar hw [] w_LESS_OR_EQUAL ((FP.l2d (p1.toInt64))) ((FP.l2d lb)) h0 n0 Z0 E_w_LESS_OR_EQUAL F_ordinal_w_LESS_OR_EQUAL) hZ (hw _ (List.mem_of_getElem? (i := 8) rfl)) (hw _ (List.mem_of_getElem? (i := 2) rfl)) (by decide) (by decide)) qa19 qc19 (g := (mkF m 182 #[.val (.int p0), .val (.int p1), .val (.int p2), .val (.int p3), .val (.int ((p0 &&& (2147483647 : Int32)) % (6 : Int32))), .val (.long (p1.toInt64)), .second, .val (.long lb), .second, .val (.ref w_LESS_OR_EQUAL), .val (.int (3 : Int32)), .val (.int (2 : Int32)), .val (.int (0 : Int32))] [(.double (FP.l2d lb)), (.double (FP.l2d (p1.toInt64))), (.ref w_LESS_OR_EQUAL)])) rfl (by rw [hml]; rfl) (Steps.refl _) (argsL := [(.double (FP.l2d (p1.toInt64))), (.double (FP.l2d lb))]) (rest := []) (lenOf pd0_0 rfl) rfl (by show 2 * 0 + _ ≤ _; exact Nat.le_of_eq rfl) (hb hby at_182) (fun _ _ => ⟨rfl, e12, (by decide : 0 + 0 ≤ _), (by decide : 0 + 0 ≤ _)⟩)
            dsimp only [Pt.U, Pt.locs, Pt.cells, Pt.slots] at X19 l19 y19 z19 st19 hQ19
            subst l19 y19 z19
            obtain ⟨rfl, N19q, e19⟩ := hQ19
            have n20 := Fr.app N0 N19q
            refine own_tr (T' := T19) (g' := (mkF m 185 #[.val (.int p0), .val (.int p1), .val (.int p2), .val (.int p3), .val (.int ((p0 &&& (2147483647 : Int32)) % (6 : Int32))), .val (.long (p1.toInt64)), .second, .val (.long lb), .second, .val (.ref w_LESS_OR_EQUAL), .val (.int (3 : Int32)), .val (.int (2 : Int32)), .val (.int (0 : Int32))] [(.int (own_h1 (FP.dcmp (FP.l2d (p1.toInt64)) (FP.l2d lb))))])) st19 ?_
            refine own_st (T' := T19) (g' := (mkF m 195 #[.val (.int p0), .val (.int p1), .val (.int p2), .val (.int p3), .val (.int ((p0 &&& (2147483647 : Int32)) % (6 : Int32))), .val (.long (p1.toInt64)), .second, .val (.long lb), .second, .val (.ref w_LESS_OR_EQUAL), .val (.int (3 : Int32)), .val (.int (2 : Int32)), .val (.int (0 : Int32))] [(.int (1 : Int32))])) (fun t k => ?_) ?_
            · show Steps p.tables e below (T19.setTop (mkF m 185 #[.val (.int p0), .val (.int p1), .val (.int p2), .val (.int p3), .val (.int ((p0 &&& (2147483647 : Int32)) % (6 : Int32))), .val (.long (p1.toInt64)), .second, .val (.long lb), .second, .val (.ref w_LESS_OR_EQUAL), .val (.int (3 : Int32)), .val (.int (2 : Int32)), .val (.int (0 : Int32))] [(.int (own_h1 (FP.dcmp (FP.l2d (p1.toInt64)) (FP.l2d lb))))])) t
              refine XS.iload X19.here hx rfl (hb hby at_185) rfl ?_
              show Steps p.tables e below (T19.setTop (mkF m 187 #[.val (.int p0), .val (.int p1), .val (.int p2), .val (.int p3), .val (.int ((p0 &&& (2147483647 : Int32)) % (6 : Int32))), .val (.long (p1.toInt64)), .second, .val (.long lb), .second, .val (.ref w_LESS_OR_EQUAL), .val (.int (3 : Int32)), .val (.int (2 : Int32)), .val (.int (0 : Int32))] [(.int (0 : Int32)), (.int (own_h1 (FP.dcmp (FP.l2d (p1.toInt64)) (FP.l2d lb))))])) t
              refine XS.icmpNo X19.here hx rfl (hb hby at_187) rfl (teq ((congrArg own_h1 (own_gt (own_b2 p1) hlb hc135_13 hc147_16)).trans (by decide) : (own_h1 (FP.dcmp (FP.l2d (p1.toInt64)) (FP.l2d lb))) = (0 : Int32))).2 ?_
              show Steps p.tables e below (T19.setTop (mkF m 190 #[.val (.int p0), .val (.int p1), .val (.int p2), .val (.int p3), .val (.int ((p0 &&& (2147483647 : Int32)) % (6 : Int32))), .val (.long (p1.toInt64)), .second, .val (.long lb), .second, .val (.ref w_LESS_OR_EQUAL), .val (.int (3 : Int32)), .val (.int (2 : Int32)), .val (.int (0 : Int32))] [])) t
              refine XS.iconst X19.here hx rfl (hb hby at_190) ?_
              show Steps p.tables e below (T19.setTop (mkF m 191 #[.val (.int p0), .val (.int p1), .val (.int p2), .val (.int p3), .val (.int ((p0 &&& (2147483647 : Int32)) % (6 : Int32))), .val (.long (p1.toInt64)), .second, .val (.long lb), .second, .val (.ref w_LESS_OR_EQUAL), .val (.int (3 : Int32)), .val (.int (2 : Int32)), .val (.int (0 : Int32))] [(.int (1 : Int32))])) t
              refine XS.goto X19.here hx rfl (pc0 := 191) (pc' := 195) rfl (hb hby at_191) (by decide) (by decide) ?_
              exact k
            refine own_retZ X19 hx hlk Bd.returns (hb hby at_195) rfl (by decide) (by decide) ?_
            show Q0 Z p0 p1 p2 p3 w_LESS w_LESS_OR_EQUAL w_GREATER w_GREATER_OR_EQUAL w_EQUAL w_NOT_EQUAL h0 n0 (some (.int (1 : Int32))) T19.heap _
            rw [(e19 : T19.heap = h0)]
            exact ⟨rfl, n20⟩
      · refine own_st (T' := s₁) (g' := (mkF m 73 #[.val (.int p0), .val (.int p1), .val (.int p2), .val (.int p3), .val (.int ((p0 &&& (2147483647 : Int32)) % (6 : Int32))), .val (.long (p1.toInt64)), .second, .val (.long lb), .second, .unset, .unset, .unset, .unset] [(.int (2 : Int32)), (.int ((p0 &&& (2147483647 : Int32)) % (6 : Int32)))])) (fun t k => ?_) ?_
        · show Steps p.tables e below (s₁.setTop (mkF m 56 #[.val (.int p0), .val (.int p1), .val (.int p2), .val (.int p3), .val (.int ((p0 &&& (2147483647 : Int32)) % (6 : Int32))), .val (.long (p1.toInt64)), .second, .val (.long lb), .second, .unset, .unset, .unset, .unset] [(.int (1 : Int32)), (.int ((p0 &&& (2147483647 : Int32)) % (6 : Int32)))])) t
          refine XS.icmpYes X0.here hx rfl (pc0 := 56) (pc' := 70) rfl (hb hby at_56) rfl (feq hc56_11).2 (by decide) (by decide) ?_
          show Steps p.tables e below (s₁.setTop (mkF m 70 #[.val (.int p0), .val (.int p1), .val (.int p2), .val (.int p3), .val (.int ((p0 &&& (2147483647 : Int32)) % (6 : Int32))), .val (.long (p1.toInt64)), .second, .val (.long lb), .second, .unset, .unset, .unset, .unset] [])) t
          refine XS.iload X0.here hx rfl (hb hby at_70) rfl ?_
          show Steps p.tables e below (s₁.setTop (mkF m 72 #[.val (.int p0), .val (.int p1), .val (.int p2), .val (.int p3), .val (.int ((p0 &&& (2147483647 : Int32)) % (6 : Int32))), .val (.long (p1.toInt64)), .second, .val (.long lb), .second, .unset, .unset, .unset, .unset] [(.int ((p0 &&& (2147483647 : Int32)) % (6 : Int32)))])) t
          refine XS.iconst X0.here hx rfl (hb hby at_72) ?_
          exact k
        by_cases hc73_21 : ((p0 &&& (2147483647 : Int32)) % (6 : Int32)) = (2 : Int32)
        · refine own_st (T' := s₁) (g' := (mkF m 76 #[.val (.int p0), .val (.int p1), .val (.int p2), .val (.int p3), .val (.int ((p0 &&& (2147483647 : Int32)) % (6 : Int32))), .val (.long (p1.toInt64)), .second, .val (.long lb), .second, .unset, .unset, .unset, .unset] [])) (fun t k => ?_) ?_
          · show Steps p.tables e below (s₁.setTop (mkF m 73 #[.val (.int p0), .val (.int p1), .val (.int p2), .val (.int p3), .val (.int ((p0 &&& (2147483647 : Int32)) % (6 : Int32))), .val (.long (p1.toInt64)), .second, .val (.long lb), .second, .unset, .unset, .unset, .unset] [(.int (2 : Int32)), (.int ((p0 &&& (2147483647 : Int32)) % (6 : Int32)))])) t
            refine XS.icmpNo X0.here hx rfl (hb hby at_73) rfl (teq hc73_21).2 ?_
            exact k
          obtain ⟨T22, X22, e22, st22⟩ := getS2 X0 hx hZ hown (host := "") (Or.inl (hw _ (List.mem_of_getElem? (i := 26) rfl))) Via.refl e0 S_GREATER (g := (mkF m 76 #[.val (.int p0), .val (.int p1), .val (.int p2), .val (.int p3), .val (.int ((p0 &&& (2147483647 : Int32)) % (6 : Int32))), .val (.long (p1.toInt64)), .second, .val (.long lb), .second, .unset, .unset, .unset, .unset] [])) rfl (hb hby at_76)
          refine own_st (T' := T22) (g' := (mkF m 79 #[.val (.int p0), .val (.int p1), .val (.int p2), .val (.int p3), .val (.int ((p0 &&& (2147483647 : Int32)) % (6 : Int32))), .val (.long (p1.toInt64)), .second, .val (.long lb), .second, .unset, .unset, .unset, .unset] [(.ref w_GREATER)])) st22 ?_
          refine own_st (T' := T22) (g' := (mkF m 135 #[.val (.int p0), .val (.int p1), .val (.int p2), .val (.int p3), .val (.int ((p0 &&& (2147483647 : Int32)) % (6 : Int32))), .val (.long (p1.toInt64)), .second, .val (.long lb), .second, .val (.ref w_GREATER), .val (.int (4 : Int32)), .unset, .unset] [(.int (lcmpW (p1.toInt64) lb))])) (fun t k => ?_) ?_
          · show Steps p.tables e below (T22.setTop (mkF m 79 #[.val (.int p0), .val (.int p1), .val (.int p2), .val (.int p3), .val (.int ((p0 &&& (2147483647 : Int32)) % (6 : Int32))), .val (.long (p1.toInt64)), .second, .val (.long lb), .second, .unset, .unset, .unset, .unset] [(.ref w_GREATER)])) t
            refine XS.astore X22.here hx rfl (hb hby at_79) rfl rfl (l' := #[.val (.int p0), .val (.int p1), .val (.int p2), .val (.int p3), .val (.int ((p0 &&& (2147483647 : Int32)) % (6 : Int32))), .val (.long (p1.toInt64)), .second, .val (.long lb), .second, .val (.ref w_GREATER), .unset, .unset, .unset]) rfl ?_
            show Steps p.tables e below (T22.setTop (mkF m 81 #[.val (.int p0), .val (.int p1), .val (.int p2), .val (.int p3), .val (.int ((p0 &&& (2147483647 : Int32)) % (6 : Int32))), .val (.long (p1.toInt64)), .second, .val (.long lb), .second, .val (.ref w_GREATER), .unset, .unset, .unset] [])) t
            refine XS.iconst X22.here hx rfl (hb hby at_81) ?_
            show Steps p.tables e below (T22.setTop (mkF m 82 #[.val (.int p0), .val (.int p1), .val (.int p2), .val (.int p3), .val (.int ((p0 &&& (2147483647 : Int32)) % (6 : Int32))), .val (.long (p1.toInt64)), .second, .val (.long lb), .second, .val (.ref w_GREATER), .unset, .unset, .unset] [(.int (4 : Int32))])) t
            refine XS.istore X22.here hx rfl (hb hby at_82) rfl (l' := #[.val (.int p0), .val (.int p1), .val (.int p2), .val (.int p3), .val (.int ((p0 &&& (2147483647 : Int32)) % (6 : Int32))), .val (.long (p1.toInt64)), .second, .val (.long lb), .second, .val (.ref w_GREATER), .val (.int (4 : Int32)), .unset, .unset]) rfl ?_
            show Steps p.tables e below (T22.setTop (mkF m 84 #[.val (.int p0), .val (.int p1), .val (.int p2), .val (.int p3), .val (.int ((p0 &&& (2147483647 : Int32)) % (6 : Int32))), .val (.long (p1.toInt64)), .second, .val (.long lb), .second, .val (.ref w_GREATER), .val (.int (4 : Int32)), .unset, .unset] [])) t
            refine XS.goto X22.here hx rfl (pc0 := 84) (pc' := 130) rfl (hb hby at_84) (by decide) (by decide) ?_
            show Steps p.tables e below (T22.setTop (mkF m 130 #[.val (.int p0), .val (.int p1), .val (.int p2), .val (.int p3), .val (.int ((p0 &&& (2147483647 : Int32)) % (6 : Int32))), .val (.long (p1.toInt64)), .second, .val (.long lb), .second, .val (.ref w_GREATER), .val (.int (4 : Int32)), .unset, .unset] [])) t
            refine XS.lload X22.here hx rfl (hb hby at_130) rfl ?_
            show Steps p.tables e below (T22.setTop (mkF m 132 #[.val (.int p0), .val (.int p1), .val (.int p2), .val (.int p3), .val (.int ((p0 &&& (2147483647 : Int32)) % (6 : Int32))), .val (.long (p1.toInt64)), .second, .val (.long lb), .second, .val (.ref w_GREATER), .val (.int (4 : Int32)), .unset, .unset] [(.long (p1.toInt64))])) t
            refine XS.lload X22.here hx rfl (hb hby at_132) rfl ?_
            show Steps p.tables e below (T22.setTop (mkF m 134 #[.val (.int p0), .val (.int p1), .val (.int p2), .val (.int p3), .val (.int ((p0 &&& (2147483647 : Int32)) % (6 : Int32))), .val (.long (p1.toInt64)), .second, .val (.long lb), .second, .val (.ref w_GREATER), .val (.int (4 : Int32)), .unset, .unset] [(.long lb), (.long (p1.toInt64))])) t
            refine XS.lcmp X22.here hx rfl (hb hby at_134) rfl ?_
            exact k
          by_cases hc135_23 : (p1.toInt64) < lb
          · refine own_st (T' := T22) (g' := (mkF m 182 #[.val (.int p0), .val (.int p1), .val (.int p2), .val (.int p3), .val (.int ((p0 &&& (2147483647 : Int32)) % (6 : Int32))), .val (.long (p1.toInt64)), .second, .val (.long lb), .second, .val (.ref w_GREATER), .val (.int (4 : Int32)), .val (.int (0 : Int32)), .val (.int (0 : Int32))] [(.double (FP.l2d lb)), (.double (FP.l2d (p1.toInt64))), (.ref w_GREATER)])) (fun t k => ?_) ?_
            · show Steps p.tables e below (T22.setTop (mkF m 135 #[.val (.int p0), .val (.int p1), .val (.int p2), .val (.int p3), .val (.int ((p0 &&& (2147483647 : Int32)) % (6 : Int32))), .val (.long (p1.toInt64)), .second, .val (.long lb), .second, .val (.ref w_GREATER), .val (.int (4 : Int32)), .unset, .unset] [(.int (lcmpW (p1.toInt64) lb))])) t
              refine XS.ifNo X22.here hx rfl (hb hby at_135) rfl ((if0 _ _).trans (tlt ((lw_lt (p1.toInt64) lb).mpr hc135_23)).2.1) ?_
              show Steps p.tables e below (T22.setTop (mkF m 138 #[.val (.int p0), .val (.int p1), .val (.int p2), .val (.int p3), .val (.int ((p0 &&& (2147483647 : Int32)) % (6 : Int32))), .val (.long (p1.toInt64)), .second, .val (.long lb), .second, .val (.ref w_GREATER), .val (.int (4 : Int32)), .unset, .unset] [])) t
              refine XS.iconst X22.here hx rfl (hb hby at_138) ?_
              show Steps p.tables e below (T22.setTop (mkF m 139 #[.val (.int p0), .val (.int p1), .val (.int p2), .val (.int p3), .val (.int ((p0 &&& (2147483647 : Int32)) % (6 : Int32))), .val (.long (p1.toInt64)), .second, .val (.long lb), .second, .val (.ref w_GREATER), .val (.int (4 : Int32)), .unset, .unset] [(.int (0 : Int32))])) t
              refine XS.goto X22.here hx rfl (pc0 := 139) (pc' := 155) rfl (hb hby at_139) (by decide) (by decide) ?_
              show Steps p.tables e below (T22.setTop (mkF m 155 #[.val (.int p0), .val (.int p1), .val (.int p2), .val (.int p3), .val (.int ((p0 &&& (2147483647 : Int32)) % (6 : Int32))), .val (.long (p1.toInt64)), .second, .val (.long lb), .second, .val (.ref w_GREATER), .val (.int (4 : Int32)), .unset, .unset] [(.int (0 : Int32))])) t
              refine XS.istore X22.here hx rfl (hb hby at_155) rfl (l' := #[.val (.int p0), .val (.int p1), .val (.int p2), .val (.int p3), .val (.int ((p0 &&& (2147483647 : Int32)) % (6 : Int32))), .val (.long (p1.toInt64)), .second, .val (.long lb), .second, .val (.ref w_GREATER), .val (.int (4 : Int32)), .val (.int (0 : Int32)), .unset]) rfl ?_
              show Steps p.tables e below (T22.setTop (mkF m 157 #[.val (.int p0), .val (.int p1), .val (.int p2), .val (.int p3), .val (.int ((p0 &&& (2147483647 : Int32)) % (6 : Int32))), .val (.long (p1.toInt64)), .second, .val (.long lb), .second, .val (.ref w_GREATER), .val (.int (4 : Int32)), .val (.int (0 : Int32)), .unset] [])) t
              refine XS.iload X22.here hx rfl (hb hby at_157) rfl ?_
              show Steps p.tables e below (T22.setTop (mkF m 159 #[.val (.int p0), .val (.int p1), .val (.int p2), .val (.int p3), .val (.int ((p0 &&& (2147483647 : Int32)) % (6 : Int32))), .val (.long (p1.toInt64)), .second, .val (.long lb), .second, .val (.ref w_GREATER), .val (.int (4 : Int32)), .val (.int (0 : Int32)), .unset] [(.int (4 : Int32))])) t
              refine XS.iload X22.here hx rfl (hb hby at_159) rfl ?_
              show Steps p.tables e below (T22.setTop (mkF m 161 #[.val (.int p0), .val (.int p1), .val (.int p2), .val (.int p3), .val (.int ((p0 &&& (2147483647 : Int32)) % (6 : Int32))), .val (.long (p1.toInt64)), .second, .val (.long lb), .second, .val (.ref w_GREATER), .val (.int (4 : Int32)), .val (.int (0 : Int32)), .unset] [(.int (0 : Int32)), (.int (4 : Int32))])) t
              refine XS.ishr X22.here hx rfl (hb hby at_161) rfl ?_
              show Steps p.tables e below (T22.setTop (mkF m 162 #[.val (.int p0), .val (.int p1), .val (.int p2), .val (.int p3), .val (.int ((p0 &&& (2147483647 : Int32)) % (6 : Int32))), .val (.long (p1.toInt64)), .second, .val (.long lb), .second, .val (.ref w_GREATER), .val (.int (4 : Int32)), .val (.int (0 : Int32)), .unset] [(.int (4 : Int32))])) t
              refine XS.iconst X22.here hx rfl (hb hby at_162) ?_
              show Steps p.tables e below (T22.setTop (mkF m 163 #[.val (.int p0), .val (.int p1), .val (.int p2), .val (.int p3), .val (.int ((p0 &&& (2147483647 : Int32)) % (6 : Int32))), .val (.long (p1.toInt64)), .second, .val (.long lb), .second, .val (.ref w_GREATER), .val (.int (4 : Int32)), .val (.int (0 : Int32)), .unset] [(.int (1 : Int32)), (.int (4 : Int32))])) t
              refine XS.iand X22.here hx rfl (hb hby at_163) rfl ?_
              show Steps p.tables e below (T22.setTop (mkF m 164 #[.val (.int p0), .val (.int p1), .val (.int p2), .val (.int p3), .val (.int ((p0 &&& (2147483647 : Int32)) % (6 : Int32))), .val (.long (p1.toInt64)), .second, .val (.long lb), .second, .val (.ref w_GREATER), .val (.int (4 : Int32)), .val (.int (0 : Int32)), .unset] [(.int (0 : Int32))])) t
              refine XS.ifYes X22.here hx rfl (pc0 := 164) (pc' := 171) rfl (hb hby at_164) rfl (by decide) (by decide) (by decide) ?_
              show Steps p.tables e below (T22.setTop (mkF m 171 #[.val (.int p0), .val (.int p1), .val (.int p2), .val (.int p3), .val (.int ((p0 &&& (2147483647 : Int32)) % (6 : Int32))), .val (.long (p1.toInt64)), .second, .val (.long lb), .second, .val (.ref w_GREATER), .val (.int (4 : Int32)), .val (.int (0 : Int32)), .unset] [])) t
              refine XS.iconst X22.here hx rfl (hb hby at_171) ?_
              show Steps p.tables e below (T22.setTop (mkF m 172 #[.val (.int p0), .val (.int p1), .val (.int p2), .val (.int p3), .val (.int ((p0 &&& (2147483647 : Int32)) % (6 : Int32))), .val (.long (p1.toInt64)), .second, .val (.long lb), .second, .val (.ref w_GREATER), .val (.int (4 : Int32)), .val (.int (0 : Int32)), .unset] [(.int (0 : Int32))])) t
              refine XS.istore X22.here hx rfl (hb hby at_172) rfl (l' := #[.val (.int p0), .val (.int p1), .val (.int p2), .val (.int p3), .val (.int ((p0 &&& (2147483647 : Int32)) % (6 : Int32))), .val (.long (p1.toInt64)), .second, .val (.long lb), .second, .val (.ref w_GREATER), .val (.int (4 : Int32)), .val (.int (0 : Int32)), .val (.int (0 : Int32))]) rfl ?_
              show Steps p.tables e below (T22.setTop (mkF m 174 #[.val (.int p0), .val (.int p1), .val (.int p2), .val (.int p3), .val (.int ((p0 &&& (2147483647 : Int32)) % (6 : Int32))), .val (.long (p1.toInt64)), .second, .val (.long lb), .second, .val (.ref w_GREATER), .val (.int (4 : Int32)), .val (.int (0 : Int32)), .val (.int (0 : Int32))] [])) t
              refine XS.aload X22.here hx rfl (hb hby at_174) rfl rfl ?_
              show Steps p.tables e below (T22.setTop (mkF m 176 #[.val (.int p0), .val (.int p1), .val (.int p2), .val (.int p3), .val (.int ((p0 &&& (2147483647 : Int32)) % (6 : Int32))), .val (.long (p1.toInt64)), .second, .val (.long lb), .second, .val (.ref w_GREATER), .val (.int (4 : Int32)), .val (.int (0 : Int32)), .val (.int (0 : Int32))] [(.ref w_GREATER)])) t
              refine XS.lload X22.here hx rfl (hb hby at_176) rfl ?_
              show Steps p.tables e below (T22.setTop (mkF m 178 #[.val (.int p0), .val (.int p1), .val (.int p2), .val (.int p3), .val (.int ((p0 &&& (2147483647 : Int32)) % (6 : Int32))), .val (.long (p1.toInt64)), .second, .val (.long lb), .second, .val (.ref w_GREATER), .val (.int (4 : Int32)), .val (.int (0 : Int32)), .val (.int (0 : Int32))] [(.long (p1.toInt64)), (.ref w_GREATER)])) t
              refine XS.l2dS X22.here hx rfl (hb hby at_178) rfl rfl ?_
              show Steps p.tables e below (T22.setTop (mkF m 179 #[.val (.int p0), .val (.int p1), .val (.int p2), .val (.int p3), .val (.int ((p0 &&& (2147483647 : Int32)) % (6 : Int32))), .val (.long (p1.toInt64)), .second, .val (.long lb), .second, .val (.ref w_GREATER), .val (.int (4 : Int32)), .val (.int (0 : Int32)), .val (.int (0 : Int32))] [(.double (FP.l2d (p1.toInt64))), (.ref w_GREATER)])) t
              refine XS.lload X22.here hx rfl (hb hby at_179) rfl ?_
              show Steps p.tables e below (T22.setTop (mkF m 181 #[.val (.int p0), .val (.int p1), .val (.int p2), .val (.int p3), .val (.int ((p0 &&& (2147483647 : Int32)) % (6 : Int32))), .val (.long (p1.toInt64)), .second, .val (.long lb), .second, .val (.ref w_GREATER), .val (.int (4 : Int32)), .val (.int (0 : Int32)), .val (.int (0 : Int32))] [(.long lb), (.double (FP.l2d (p1.toInt64))), (.ref w_GREATER)])) t
              refine XS.l2dS X22.here hx rfl (hb hby at_181) rfl rfl ?_
              exact k
            obtain ⟨cq24, kq24, qa24, qb24, qc24⟩ := isOf hZ e22 E_w_GREATER
            obtain ⟨_, _, ⟨T24, L24, k24, n24⟩, -, X24, ⟨Lc24, hQ24, l24, y24, z24⟩, st24⟩ := X22.virtualBack hx (y := (⟨"com/example/meshwatch/meshwatch/Relation", "holds", "(DD)Z"⟩ : MethodName)) (z := (⟨"com/example/meshwatch/meshwatch/Relation", "holds", "(DD)Z"⟩ : MethodName)) hown (mvT hZ (hw _ (List.mem_of_getElem? (i := 4) rfl))) (mvT hZ (hw _ (List.mem_of_getElem? (i := 5) rfl))) (notFace_of_selects (args := #[]) (mvT hZ (hw _ (List.mem_of_getElem? (i := 7) rfl)))) (mvT hZ (hw _ (List.mem_of_getElem? (i := 7) rfl))) (mvT hZ (hw _ (List.mem_of_getElem? (i := 6) rfl))) (by decide) (backOf (W := 0) (rmh2 l Z ar hw [] w_GREATER ((FP.l2d (p1.toInt64))) ((FP.l2d lb)) h0 n0 Z0 E_w_GREATER F_ordinal_w_GREATER) hZ (hw _ (List.mem_of_getElem? (i := 8) rfl)) (hw _ (List.mem_of_getElem? (i := 2) rfl)) (by decide) (by decide)) qa24 qc24 (g := (mkF m 182 #[.val (.int p0), .val (.int p1), .val (.int p2), .val (.int p3), .val (.int ((p0 &&& (2147483647 : Int32)) % (6 : Int32))), .val (.long (p1.toInt64)), .second, .val (.long lb), .second, .val (.ref w_GREATER), .val (.int (4 : Int32)), .val (.int (0 : Int32)), .val (.int (0 : Int32))] [(.double (FP.l2d lb)), (.double (FP.l2d (p1.toInt64))), (.ref w_GREATER)])) rfl (by rw [hml]; rfl) (Steps.refl _) (argsL := [(.double (FP.l2d (p1.toInt64))), (.double (FP.l2d lb))]) (rest := []) (lenOf pd0_0 rfl) rfl (by show 2 * 0 + _ ≤ _; exact Nat.le_of_eq rfl) (hb hby at_182) (fun _ _ => ⟨rfl, e22, (by decide : 0 + 0 ≤ _), (by decide : 0 + 0 ≤ _)⟩)
            dsimp only [Pt.U, Pt.locs, Pt.cells, Pt.slots] at X24 l24 y24 z24 st24 hQ24
            subst l24 y24 z24
            obtain ⟨rfl, N24q, e24⟩ := hQ24
            have n25 := Fr.app N0 N24q
            refine own_tr (T' := T24) (g' := (mkF m 185 #[.val (.int p0), .val (.int p1), .val (.int p2), .val (.int p3), .val (.int ((p0 &&& (2147483647 : Int32)) % (6 : Int32))), .val (.long (p1.toInt64)), .second, .val (.long lb), .second, .val (.ref w_GREATER), .val (.int (4 : Int32)), .val (.int (0 : Int32)), .val (.int (0 : Int32))] [(.int (own_h2 (FP.dcmp (FP.l2d (p1.toInt64)) (FP.l2d lb))))])) st24 ?_
            refine own_st (T' := T24) (g' := (mkF m 195 #[.val (.int p0), .val (.int p1), .val (.int p2), .val (.int p3), .val (.int ((p0 &&& (2147483647 : Int32)) % (6 : Int32))), .val (.long (p1.toInt64)), .second, .val (.long lb), .second, .val (.ref w_GREATER), .val (.int (4 : Int32)), .val (.int (0 : Int32)), .val (.int (0 : Int32))] [(.int (1 : Int32))])) (fun t k => ?_) ?_
            · show Steps p.tables e below (T24.setTop (mkF m 185 #[.val (.int p0), .val (.int p1), .val (.int p2), .val (.int p3), .val (.int ((p0 &&& (2147483647 : Int32)) % (6 : Int32))), .val (.long (p1.toInt64)), .second, .val (.long lb), .second, .val (.ref w_GREATER), .val (.int (4 : Int32)), .val (.int (0 : Int32)), .val (.int (0 : Int32))] [(.int (own_h2 (FP.dcmp (FP.l2d (p1.toInt64)) (FP.l2d lb))))])) t
              refine XS.iload X24.here hx rfl (hb hby at_185) rfl ?_
              show Steps p.tables e below (T24.setTop (mkF m 187 #[.val (.int p0), .val (.int p1), .val (.int p2), .val (.int p3), .val (.int ((p0 &&& (2147483647 : Int32)) % (6 : Int32))), .val (.long (p1.toInt64)), .second, .val (.long lb), .second, .val (.ref w_GREATER), .val (.int (4 : Int32)), .val (.int (0 : Int32)), .val (.int (0 : Int32))] [(.int (0 : Int32)), (.int (own_h2 (FP.dcmp (FP.l2d (p1.toInt64)) (FP.l2d lb))))])) t
              refine XS.icmpNo X24.here hx rfl (hb hby at_187) rfl (teq ((congrArg own_h2 (own_lt (own_b2 p1) hlb hc135_23)).trans (by decide) : (own_h2 (FP.dcmp (FP.l2d (p1.toInt64)) (FP.l2d lb))) = (0 : Int32))).2 ?_
              show Steps p.tables e below (T24.setTop (mkF m 190 #[.val (.int p0), .val (.int p1), .val (.int p2), .val (.int p3), .val (.int ((p0 &&& (2147483647 : Int32)) % (6 : Int32))), .val (.long (p1.toInt64)), .second, .val (.long lb), .second, .val (.ref w_GREATER), .val (.int (4 : Int32)), .val (.int (0 : Int32)), .val (.int (0 : Int32))] [])) t
              refine XS.iconst X24.here hx rfl (hb hby at_190) ?_
              show Steps p.tables e below (T24.setTop (mkF m 191 #[.val (.int p0), .val (.int p1), .val (.int p2), .val (.int p3), .val (.int ((p0 &&& (2147483647 : Int32)) % (6 : Int32))), .val (.long (p1.toInt64)), .second, .val (.long lb), .second, .val (.ref w_GREATER), .val (.int (4 : Int32)), .val (.int (0 : Int32)), .val (.int (0 : Int32))] [(.int (1 : Int32))])) t
              refine XS.goto X24.here hx rfl (pc0 := 191) (pc' := 195) rfl (hb hby at_191) (by decide) (by decide) ?_
              exact k
            refine own_retZ X24 hx hlk Bd.returns (hb hby at_195) rfl (by decide) (by decide) ?_
            show Q0 Z p0 p1 p2 p3 w_LESS w_LESS_OR_EQUAL w_GREATER w_GREATER_OR_EQUAL w_EQUAL w_NOT_EQUAL h0 n0 (some (.int (1 : Int32))) T24.heap _
            rw [(e24 : T24.heap = h0)]
            exact ⟨rfl, n25⟩
          · refine own_st (T' := T22) (g' := (mkF m 147 #[.val (.int p0), .val (.int p1), .val (.int p2), .val (.int p3), .val (.int ((p0 &&& (2147483647 : Int32)) % (6 : Int32))), .val (.long (p1.toInt64)), .second, .val (.long lb), .second, .val (.ref w_GREATER), .val (.int (4 : Int32)), .unset, .unset] [(.int (lcmpW (p1.toInt64) lb))])) (fun t k => ?_) ?_
            · show Steps p.tables e below (T22.setTop (mkF m 135 #[.val (.int p0), .val (.int p1), .val (.int p2), .val (.int p3), .val (.int ((p0 &&& (2147483647 : Int32)) % (6 : Int32))), .val (.long (p1.toInt64)), .second, .val (.long lb), .second, .val (.ref w_GREATER), .val (.int (4 : Int32)), .unset, .unset] [(.int (lcmpW (p1.toInt64) lb))])) t
              refine XS.ifYes X22.here hx rfl (pc0 := 135) (pc' := 142) rfl (hb hby at_135) rfl ((if0 _ _).trans (flt (fun q => hc135_23 ((lw_lt (p1.toInt64) lb).mp q))).2.1) (by decide) (by decide) ?_
              show Steps p.tables e below (T22.setTop (mkF m 142 #[.val (.int p0), .val (.int p1), .val (.int p2), .val (.int p3), .val (.int ((p0 &&& (2147483647 : Int32)) % (6 : Int32))), .val (.long (p1.toInt64)), .second, .val (.long lb), .second, .val (.ref w_GREATER), .val (.int (4 : Int32)), .unset, .unset] [])) t
              refine XS.lload X22.here hx rfl (hb hby at_142) rfl ?_
              show Steps p.tables e below (T22.setTop (mkF m 144 #[.val (.int p0), .val (.int p1), .val (.int p2), .val (.int p3), .val (.int ((p0 &&& (2147483647 : Int32)) % (6 : Int32))), .val (.long (p1.toInt64)), .second, .val (.long lb), .second, .val (.ref w_GREATER), .val (.int (4 : Int32)), .unset, .unset] [(.long (p1.toInt64))])) t
              refine XS.lload X22.here hx rfl (hb hby at_144) rfl ?_
              show Steps p.tables e below (T22.setTop (mkF m 146 #[.val (.int p0), .val (.int p1), .val (.int p2), .val (.int p3), .val (.int ((p0 &&& (2147483647 : Int32)) % (6 : Int32))), .val (.long (p1.toInt64)), .second, .val (.long lb), .second, .val (.ref w_GREATER), .val (.int (4 : Int32)), .unset, .unset] [(.long lb), (.long (p1.toInt64))])) t
              refine XS.lcmp X22.here hx rfl (hb hby at_146) rfl ?_
              exact k
            by_cases hc147_26 : (p1.toInt64) = lb
            · refine own_st (T' := T22) (g' := (mkF m 182 #[.val (.int p0), .val (.int p1), .val (.int p2), .val (.int p3), .val (.int ((p0 &&& (2147483647 : Int32)) % (6 : Int32))), .val (.long (p1.toInt64)), .second, .val (.long lb), .second, .val (.ref w_GREATER), .val (.int (4 : Int32)), .val (.int (1 : Int32)), .val (.int (0 : Int32))] [(.double (FP.l2d lb)), (.double (FP.l2d (p1.toInt64))), (.ref w_GREATER)])) (fun t k => ?_) ?_
              · show Steps p.tables e below (T22.setTop (mkF m 147 #[.val (.int p0), .val (.int p1), .val (.int p2), .val (.int p3), .val (.int ((p0 &&& (2147483647 : Int32)) % (6 : Int32))), .val (.long (p1.toInt64)), .second, .val (.long lb), .second, .val (.ref w_GREATER), .val (.int (4 : Int32)), .unset, .unset] [(.int (lcmpW (p1.toInt64) lb))])) t
                refine XS.ifNo X22.here hx rfl (hb hby at_147) rfl ((if0 _ _).trans (teq ((lw_eq (p1.toInt64) lb).mpr hc147_26)).2) ?_
                show Steps p.tables e below (T22.setTop (mkF m 150 #[.val (.int p0), .val (.int p1), .val (.int p2), .val (.int p3), .val (.int ((p0 &&& (2147483647 : Int32)) % (6 : Int32))), .val (.long (p1.toInt64)), .second, .val (.long lb), .second, .val (.ref w_GREATER), .val (.int (4 : Int32)), .unset, .unset] [])) t
                refine XS.iconst X22.here hx rfl (hb hby at_150) ?_
                show Steps p.tables e below (T22.setTop (mkF m 151 #[.val (.int p0), .val (.int p1), .val (.int p2), .val (.int p3), .val (.int ((p0 &&& (2147483647 : Int32)) % (6 : Int32))), .val (.long (p1.toInt64)), .second, .val (.long lb), .second, .val (.ref w_GREATER), .val (.int (4 : Int32)), .unset, .unset] [(.int (1 : Int32))])) t
                refine XS.goto X22.here hx rfl (pc0 := 151) (pc' := 155) rfl (hb hby at_151) (by decide) (by decide) ?_
                show Steps p.tables e below (T22.setTop (mkF m 155 #[.val (.int p0), .val (.int p1), .val (.int p2), .val (.int p3), .val (.int ((p0 &&& (2147483647 : Int32)) % (6 : Int32))), .val (.long (p1.toInt64)), .second, .val (.long lb), .second, .val (.ref w_GREATER), .val (.int (4 : Int32)), .unset, .unset] [(.int (1 : Int32))])) t
                refine XS.istore X22.here hx rfl (hb hby at_155) rfl (l' := #[.val (.int p0), .val (.int p1), .val (.int p2), .val (.int p3), .val (.int ((p0 &&& (2147483647 : Int32)) % (6 : Int32))), .val (.long (p1.toInt64)), .second, .val (.long lb), .second, .val (.ref w_GREATER), .val (.int (4 : Int32)), .val (.int (1 : Int32)), .unset]) rfl ?_
                show Steps p.tables e below (T22.setTop (mkF m 157 #[.val (.int p0), .val (.int p1), .val (.int p2), .val (.int p3), .val (.int ((p0 &&& (2147483647 : Int32)) % (6 : Int32))), .val (.long (p1.toInt64)), .second, .val (.long lb), .second, .val (.ref w_GREATER), .val (.int (4 : Int32)), .val (.int (1 : Int32)), .unset] [])) t
                refine XS.iload X22.here hx rfl (hb hby at_157) rfl ?_
                show Steps p.tables e below (T22.setTop (mkF m 159 #[.val (.int p0), .val (.int p1), .val (.int p2), .val (.int p3), .val (.int ((p0 &&& (2147483647 : Int32)) % (6 : Int32))), .val (.long (p1.toInt64)), .second, .val (.long lb), .second, .val (.ref w_GREATER), .val (.int (4 : Int32)), .val (.int (1 : Int32)), .unset] [(.int (4 : Int32))])) t
                refine XS.iload X22.here hx rfl (hb hby at_159) rfl ?_
                show Steps p.tables e below (T22.setTop (mkF m 161 #[.val (.int p0), .val (.int p1), .val (.int p2), .val (.int p3), .val (.int ((p0 &&& (2147483647 : Int32)) % (6 : Int32))), .val (.long (p1.toInt64)), .second, .val (.long lb), .second, .val (.ref w_GREATER), .val (.int (4 : Int32)), .val (.int (1 : Int32)), .unset] [(.int (1 : Int32)), (.int (4 : Int32))])) t
                refine XS.ishr X22.here hx rfl (hb hby at_161) rfl ?_
                show Steps p.tables e below (T22.setTop (mkF m 162 #[.val (.int p0), .val (.int p1), .val (.int p2), .val (.int p3), .val (.int ((p0 &&& (2147483647 : Int32)) % (6 : Int32))), .val (.long (p1.toInt64)), .second, .val (.long lb), .second, .val (.ref w_GREATER), .val (.int (4 : Int32)), .val (.int (1 : Int32)), .unset] [(.int (2 : Int32))])) t
                refine XS.iconst X22.here hx rfl (hb hby at_162) ?_
                show Steps p.tables e below (T22.setTop (mkF m 163 #[.val (.int p0), .val (.int p1), .val (.int p2), .val (.int p3), .val (.int ((p0 &&& (2147483647 : Int32)) % (6 : Int32))), .val (.long (p1.toInt64)), .second, .val (.long lb), .second, .val (.ref w_GREATER), .val (.int (4 : Int32)), .val (.int (1 : Int32)), .unset] [(.int (1 : Int32)), (.int (2 : Int32))])) t
                refine XS.iand X22.here hx rfl (hb hby at_163) rfl ?_
                show Steps p.tables e below (T22.setTop (mkF m 164 #[.val (.int p0), .val (.int p1), .val (.int p2), .val (.int p3), .val (.int ((p0 &&& (2147483647 : Int32)) % (6 : Int32))), .val (.long (p1.toInt64)), .second, .val (.long lb), .second, .val (.ref w_GREATER), .val (.int (4 : Int32)), .val (.int (1 : Int32)), .unset] [(.int (0 : Int32))])) t
                refine XS.ifYes X22.here hx rfl (pc0 := 164) (pc' := 171) rfl (hb hby at_164) rfl (by decide) (by decide) (by decide) ?_
                show Steps p.tables e below (T22.setTop (mkF m 171 #[.val (.int p0), .val (.int p1), .val (.int p2), .val (.int p3), .val (.int ((p0 &&& (2147483647 : Int32)) % (6 : Int32))), .val (.long (p1.toInt64)), .second, .val (.long lb), .second, .val (.ref w_GREATER), .val (.int (4 : Int32)), .val (.int (1 : Int32)), .unset] [])) t
                refine XS.iconst X22.here hx rfl (hb hby at_171) ?_
                show Steps p.tables e below (T22.setTop (mkF m 172 #[.val (.int p0), .val (.int p1), .val (.int p2), .val (.int p3), .val (.int ((p0 &&& (2147483647 : Int32)) % (6 : Int32))), .val (.long (p1.toInt64)), .second, .val (.long lb), .second, .val (.ref w_GREATER), .val (.int (4 : Int32)), .val (.int (1 : Int32)), .unset] [(.int (0 : Int32))])) t
                refine XS.istore X22.here hx rfl (hb hby at_172) rfl (l' := #[.val (.int p0), .val (.int p1), .val (.int p2), .val (.int p3), .val (.int ((p0 &&& (2147483647 : Int32)) % (6 : Int32))), .val (.long (p1.toInt64)), .second, .val (.long lb), .second, .val (.ref w_GREATER), .val (.int (4 : Int32)), .val (.int (1 : Int32)), .val (.int (0 : Int32))]) rfl ?_
                show Steps p.tables e below (T22.setTop (mkF m 174 #[.val (.int p0), .val (.int p1), .val (.int p2), .val (.int p3), .val (.int ((p0 &&& (2147483647 : Int32)) % (6 : Int32))), .val (.long (p1.toInt64)), .second, .val (.long lb), .second, .val (.ref w_GREATER), .val (.int (4 : Int32)), .val (.int (1 : Int32)), .val (.int (0 : Int32))] [])) t
                refine XS.aload X22.here hx rfl (hb hby at_174) rfl rfl ?_
                show Steps p.tables e below (T22.setTop (mkF m 176 #[.val (.int p0), .val (.int p1), .val (.int p2), .val (.int p3), .val (.int ((p0 &&& (2147483647 : Int32)) % (6 : Int32))), .val (.long (p1.toInt64)), .second, .val (.long lb), .second, .val (.ref w_GREATER), .val (.int (4 : Int32)), .val (.int (1 : Int32)), .val (.int (0 : Int32))] [(.ref w_GREATER)])) t
                refine XS.lload X22.here hx rfl (hb hby at_176) rfl ?_
                show Steps p.tables e below (T22.setTop (mkF m 178 #[.val (.int p0), .val (.int p1), .val (.int p2), .val (.int p3), .val (.int ((p0 &&& (2147483647 : Int32)) % (6 : Int32))), .val (.long (p1.toInt64)), .second, .val (.long lb), .second, .val (.ref w_GREATER), .val (.int (4 : Int32)), .val (.int (1 : Int32)), .val (.int (0 : Int32))] [(.long (p1.toInt64)), (.ref w_GREATER)])) t
                refine XS.l2dS X22.here hx rfl (hb hby at_178) rfl rfl ?_
                show Steps p.tables e below (T22.setTop (mkF m 179 #[.val (.int p0), .val (.int p1), .val (.int p2), .val (.int p3), .val (.int ((p0 &&& (2147483647 : Int32)) % (6 : Int32))), .val (.long (p1.toInt64)), .second, .val (.long lb), .second, .val (.ref w_GREATER), .val (.int (4 : Int32)), .val (.int (1 : Int32)), .val (.int (0 : Int32))] [(.double (FP.l2d (p1.toInt64))), (.ref w_GREATER)])) t
                refine XS.lload X22.here hx rfl (hb hby at_179) rfl ?_
                show Steps p.tables e below (T22.setTop (mkF m 181 #[.val (.int p0), .val (.int p1), .val (.int p2), .val (.int p3), .val (.int ((p0 &&& (2147483647 : Int32)) % (6 : Int32))), .val (.long (p1.toInt64)), .second, .val (.long lb), .second, .val (.ref w_GREATER), .val (.int (4 : Int32)), .val (.int (1 : Int32)), .val (.int (0 : Int32))] [(.long lb), (.double (FP.l2d (p1.toInt64))), (.ref w_GREATER)])) t
                refine XS.l2dS X22.here hx rfl (hb hby at_181) rfl rfl ?_
                exact k
              obtain ⟨cq27, kq27, qa27, qb27, qc27⟩ := isOf hZ e22 E_w_GREATER
              obtain ⟨_, _, ⟨T27, L27, k27, n27⟩, -, X27, ⟨Lc27, hQ27, l27, y27, z27⟩, st27⟩ := X22.virtualBack hx (y := (⟨"com/example/meshwatch/meshwatch/Relation", "holds", "(DD)Z"⟩ : MethodName)) (z := (⟨"com/example/meshwatch/meshwatch/Relation", "holds", "(DD)Z"⟩ : MethodName)) hown (mvT hZ (hw _ (List.mem_of_getElem? (i := 4) rfl))) (mvT hZ (hw _ (List.mem_of_getElem? (i := 5) rfl))) (notFace_of_selects (args := #[]) (mvT hZ (hw _ (List.mem_of_getElem? (i := 7) rfl)))) (mvT hZ (hw _ (List.mem_of_getElem? (i := 7) rfl))) (mvT hZ (hw _ (List.mem_of_getElem? (i := 6) rfl))) (by decide) (backOf (W := 0) (rmh2 l Z ar hw [] w_GREATER ((FP.l2d (p1.toInt64))) ((FP.l2d lb)) h0 n0 Z0 E_w_GREATER F_ordinal_w_GREATER) hZ (hw _ (List.mem_of_getElem? (i := 8) rfl)) (hw _ (List.mem_of_getElem? (i := 2) rfl)) (by decide) (by decide)) qa27 qc27 (g := (mkF m 182 #[.val (.int p0), .val (.int p1), .val (.int p2), .val (.int p3), .val (.int ((p0 &&& (2147483647 : Int32)) % (6 : Int32))), .val (.long (p1.toInt64)), .second, .val (.long lb), .second, .val (.ref w_GREATER), .val (.int (4 : Int32)), .val (.int (1 : Int32)), .val (.int (0 : Int32))] [(.double (FP.l2d lb)), (.double (FP.l2d (p1.toInt64))), (.ref w_GREATER)])) rfl (by rw [hml]; rfl) (Steps.refl _) (argsL := [(.double (FP.l2d (p1.toInt64))), (.double (FP.l2d lb))]) (rest := []) (lenOf pd0_0 rfl) rfl (by show 2 * 0 + _ ≤ _; exact Nat.le_of_eq rfl) (hb hby at_182) (fun _ _ => ⟨rfl, e22, (by decide : 0 + 0 ≤ _), (by decide : 0 + 0 ≤ _)⟩)
              dsimp only [Pt.U, Pt.locs, Pt.cells, Pt.slots] at X27 l27 y27 z27 st27 hQ27
              subst l27 y27 z27
              obtain ⟨rfl, N27q, e27⟩ := hQ27
              have n28 := Fr.app N0 N27q
              refine own_tr (T' := T27) (g' := (mkF m 185 #[.val (.int p0), .val (.int p1), .val (.int p2), .val (.int p3), .val (.int ((p0 &&& (2147483647 : Int32)) % (6 : Int32))), .val (.long (p1.toInt64)), .second, .val (.long lb), .second, .val (.ref w_GREATER), .val (.int (4 : Int32)), .val (.int (1 : Int32)), .val (.int (0 : Int32))] [(.int (own_h2 (FP.dcmp (FP.l2d (p1.toInt64)) (FP.l2d lb))))])) st27 ?_
              refine own_st (T' := T27) (g' := (mkF m 195 #[.val (.int p0), .val (.int p1), .val (.int p2), .val (.int p3), .val (.int ((p0 &&& (2147483647 : Int32)) % (6 : Int32))), .val (.long (p1.toInt64)), .second, .val (.long lb), .second, .val (.ref w_GREATER), .val (.int (4 : Int32)), .val (.int (1 : Int32)), .val (.int (0 : Int32))] [(.int (1 : Int32))])) (fun t k => ?_) ?_
              · show Steps p.tables e below (T27.setTop (mkF m 185 #[.val (.int p0), .val (.int p1), .val (.int p2), .val (.int p3), .val (.int ((p0 &&& (2147483647 : Int32)) % (6 : Int32))), .val (.long (p1.toInt64)), .second, .val (.long lb), .second, .val (.ref w_GREATER), .val (.int (4 : Int32)), .val (.int (1 : Int32)), .val (.int (0 : Int32))] [(.int (own_h2 (FP.dcmp (FP.l2d (p1.toInt64)) (FP.l2d lb))))])) t
                refine XS.iload X27.here hx rfl (hb hby at_185) rfl ?_
                show Steps p.tables e below (T27.setTop (mkF m 187 #[.val (.int p0), .val (.int p1), .val (.int p2), .val (.int p3), .val (.int ((p0 &&& (2147483647 : Int32)) % (6 : Int32))), .val (.long (p1.toInt64)), .second, .val (.long lb), .second, .val (.ref w_GREATER), .val (.int (4 : Int32)), .val (.int (1 : Int32)), .val (.int (0 : Int32))] [(.int (0 : Int32)), (.int (own_h2 (FP.dcmp (FP.l2d (p1.toInt64)) (FP.l2d lb))))])) t
                refine XS.icmpNo X27.here hx rfl (hb hby at_187) rfl (teq ((congrArg own_h2 (own_eq (own_b2 p1) hlb hc147_26)).trans (by decide) : (own_h2 (FP.dcmp (FP.l2d (p1.toInt64)) (FP.l2d lb))) = (0 : Int32))).2 ?_
                show Steps p.tables e below (T27.setTop (mkF m 190 #[.val (.int p0), .val (.int p1), .val (.int p2), .val (.int p3), .val (.int ((p0 &&& (2147483647 : Int32)) % (6 : Int32))), .val (.long (p1.toInt64)), .second, .val (.long lb), .second, .val (.ref w_GREATER), .val (.int (4 : Int32)), .val (.int (1 : Int32)), .val (.int (0 : Int32))] [])) t
                refine XS.iconst X27.here hx rfl (hb hby at_190) ?_
                show Steps p.tables e below (T27.setTop (mkF m 191 #[.val (.int p0), .val (.int p1), .val (.int p2), .val (.int p3), .val (.int ((p0 &&& (2147483647 : Int32)) % (6 : Int32))), .val (.long (p1.toInt64)), .second, .val (.long lb), .second, .val (.ref w_GREATER), .val (.int (4 : Int32)), .val (.int (1 : Int32)), .val (.int (0 : Int32))] [(.int (1 : Int32))])) t
                refine XS.goto X27.here hx rfl (pc0 := 191) (pc' := 195) rfl (hb hby at_191) (by decide) (by decide) ?_
                exact k
              refine own_retZ X27 hx hlk Bd.returns (hb hby at_195) rfl (by decide) (by decide) ?_
              show Q0 Z p0 p1 p2 p3 w_LESS w_LESS_OR_EQUAL w_GREATER w_GREATER_OR_EQUAL w_EQUAL w_NOT_EQUAL h0 n0 (some (.int (1 : Int32))) T27.heap _
              rw [(e27 : T27.heap = h0)]
              exact ⟨rfl, n28⟩
            · refine own_st (T' := T22) (g' := (mkF m 182 #[.val (.int p0), .val (.int p1), .val (.int p2), .val (.int p3), .val (.int ((p0 &&& (2147483647 : Int32)) % (6 : Int32))), .val (.long (p1.toInt64)), .second, .val (.long lb), .second, .val (.ref w_GREATER), .val (.int (4 : Int32)), .val (.int (2 : Int32)), .val (.int (1 : Int32))] [(.double (FP.l2d lb)), (.double (FP.l2d (p1.toInt64))), (.ref w_GREATER)])) (fun t k => ?_) ?_
              · show Steps p.tables e below (T22.setTop (mkF m 147 #[.val (.int p0), .val (.int p1), .val (.int p2), .val (.int p3), .val (.int ((p0 &&& (2147483647 : Int32)) % (6 : Int32))), .val (.long (p1.toInt64)), .second, .val (.long lb), .second, .val (.ref w_GREATER), .val (.int (4 : Int32)), .unset, .unset] [(.int (lcmpW (p1.toInt64) lb))])) t
                refine XS.ifYes X22.here hx rfl (pc0 := 147) (pc' := 154) rfl (hb hby at_147) rfl ((if0 _ _).trans (feq (fun q => hc147_26 ((lw_eq (p1.toInt64) lb).mp q))).2) (by decide) (by decide) ?_
                show Steps p.tables e below (T22.setTop (mkF m 154 #[.val (.int p0), .val (.int p1), .val (.int p2), .val (.int p3), .val (.int ((p0 &&& (2147483647 : Int32)) % (6 : Int32))), .val (.long (p1.toInt64)), .second, .val (.long lb), .second, .val (.ref w_GREATER), .val (.int (4 : Int32)), .unset, .unset] [])) t
                refine XS.iconst X22.here hx rfl (hb hby at_154) ?_
                show Steps p.tables e below (T22.setTop (mkF m 155 #[.val (.int p0), .val (.int p1), .val (.int p2), .val (.int p3), .val (.int ((p0 &&& (2147483647 : Int32)) % (6 : Int32))), .val (.long (p1.toInt64)), .second, .val (.long lb), .second, .val (.ref w_GREATER), .val (.int (4 : Int32)), .unset, .unset] [(.int (2 : Int32))])) t
                refine XS.istore X22.here hx rfl (hb hby at_155) rfl (l' := #[.val (.int p0), .val (.int p1), .val (.int p2), .val (.int p3), .val (.int ((p0 &&& (2147483647 : Int32)) % (6 : Int32))), .val (.long (p1.toInt64)), .second, .val (.long lb), .second, .val (.ref w_GREATER), .val (.int (4 : Int32)), .val (.int (2 : Int32)), .unset]) rfl ?_
                show Steps p.tables e below (T22.setTop (mkF m 157 #[.val (.int p0), .val (.int p1), .val (.int p2), .val (.int p3), .val (.int ((p0 &&& (2147483647 : Int32)) % (6 : Int32))), .val (.long (p1.toInt64)), .second, .val (.long lb), .second, .val (.ref w_GREATER), .val (.int (4 : Int32)), .val (.int (2 : Int32)), .unset] [])) t
                refine XS.iload X22.here hx rfl (hb hby at_157) rfl ?_
                show Steps p.tables e below (T22.setTop (mkF m 159 #[.val (.int p0), .val (.int p1), .val (.int p2), .val (.int p3), .val (.int ((p0 &&& (2147483647 : Int32)) % (6 : Int32))), .val (.long (p1.toInt64)), .second, .val (.long lb), .second, .val (.ref w_GREATER), .val (.int (4 : Int32)), .val (.int (2 : Int32)), .unset] [(.int (4 : Int32))])) t
                refine XS.iload X22.here hx rfl (hb hby at_159) rfl ?_
                show Steps p.tables e below (T22.setTop (mkF m 161 #[.val (.int p0), .val (.int p1), .val (.int p2), .val (.int p3), .val (.int ((p0 &&& (2147483647 : Int32)) % (6 : Int32))), .val (.long (p1.toInt64)), .second, .val (.long lb), .second, .val (.ref w_GREATER), .val (.int (4 : Int32)), .val (.int (2 : Int32)), .unset] [(.int (2 : Int32)), (.int (4 : Int32))])) t
                refine XS.ishr X22.here hx rfl (hb hby at_161) rfl ?_
                show Steps p.tables e below (T22.setTop (mkF m 162 #[.val (.int p0), .val (.int p1), .val (.int p2), .val (.int p3), .val (.int ((p0 &&& (2147483647 : Int32)) % (6 : Int32))), .val (.long (p1.toInt64)), .second, .val (.long lb), .second, .val (.ref w_GREATER), .val (.int (4 : Int32)), .val (.int (2 : Int32)), .unset] [(.int (1 : Int32))])) t
                refine XS.iconst X22.here hx rfl (hb hby at_162) ?_
                show Steps p.tables e below (T22.setTop (mkF m 163 #[.val (.int p0), .val (.int p1), .val (.int p2), .val (.int p3), .val (.int ((p0 &&& (2147483647 : Int32)) % (6 : Int32))), .val (.long (p1.toInt64)), .second, .val (.long lb), .second, .val (.ref w_GREATER), .val (.int (4 : Int32)), .val (.int (2 : Int32)), .unset] [(.int (1 : Int32)), (.int (1 : Int32))])) t
                refine XS.iand X22.here hx rfl (hb hby at_163) rfl ?_
                show Steps p.tables e below (T22.setTop (mkF m 164 #[.val (.int p0), .val (.int p1), .val (.int p2), .val (.int p3), .val (.int ((p0 &&& (2147483647 : Int32)) % (6 : Int32))), .val (.long (p1.toInt64)), .second, .val (.long lb), .second, .val (.ref w_GREATER), .val (.int (4 : Int32)), .val (.int (2 : Int32)), .unset] [(.int (1 : Int32))])) t
                refine XS.ifNo X22.here hx rfl (hb hby at_164) rfl (by decide) ?_
                show Steps p.tables e below (T22.setTop (mkF m 167 #[.val (.int p0), .val (.int p1), .val (.int p2), .val (.int p3), .val (.int ((p0 &&& (2147483647 : Int32)) % (6 : Int32))), .val (.long (p1.toInt64)), .second, .val (.long lb), .second, .val (.ref w_GREATER), .val (.int (4 : Int32)), .val (.int (2 : Int32)), .unset] [])) t
                refine XS.iconst X22.here hx rfl (hb hby at_167) ?_
                show Steps p.tables e below (T22.setTop (mkF m 168 #[.val (.int p0), .val (.int p1), .val (.int p2), .val (.int p3), .val (.int ((p0 &&& (2147483647 : Int32)) % (6 : Int32))), .val (.long (p1.toInt64)), .second, .val (.long lb), .second, .val (.ref w_GREATER), .val (.int (4 : Int32)), .val (.int (2 : Int32)), .unset] [(.int (1 : Int32))])) t
                refine XS.goto X22.here hx rfl (pc0 := 168) (pc' := 172) rfl (hb hby at_168) (by decide) (by decide) ?_
                show Steps p.tables e below (T22.setTop (mkF m 172 #[.val (.int p0), .val (.int p1), .val (.int p2), .val (.int p3), .val (.int ((p0 &&& (2147483647 : Int32)) % (6 : Int32))), .val (.long (p1.toInt64)), .second, .val (.long lb), .second, .val (.ref w_GREATER), .val (.int (4 : Int32)), .val (.int (2 : Int32)), .unset] [(.int (1 : Int32))])) t
                refine XS.istore X22.here hx rfl (hb hby at_172) rfl (l' := #[.val (.int p0), .val (.int p1), .val (.int p2), .val (.int p3), .val (.int ((p0 &&& (2147483647 : Int32)) % (6 : Int32))), .val (.long (p1.toInt64)), .second, .val (.long lb), .second, .val (.ref w_GREATER), .val (.int (4 : Int32)), .val (.int (2 : Int32)), .val (.int (1 : Int32))]) rfl ?_
                show Steps p.tables e below (T22.setTop (mkF m 174 #[.val (.int p0), .val (.int p1), .val (.int p2), .val (.int p3), .val (.int ((p0 &&& (2147483647 : Int32)) % (6 : Int32))), .val (.long (p1.toInt64)), .second, .val (.long lb), .second, .val (.ref w_GREATER), .val (.int (4 : Int32)), .val (.int (2 : Int32)), .val (.int (1 : Int32))] [])) t
                refine XS.aload X22.here hx rfl (hb hby at_174) rfl rfl ?_
                show Steps p.tables e below (T22.setTop (mkF m 176 #[.val (.int p0), .val (.int p1), .val (.int p2), .val (.int p3), .val (.int ((p0 &&& (2147483647 : Int32)) % (6 : Int32))), .val (.long (p1.toInt64)), .second, .val (.long lb), .second, .val (.ref w_GREATER), .val (.int (4 : Int32)), .val (.int (2 : Int32)), .val (.int (1 : Int32))] [(.ref w_GREATER)])) t
                refine XS.lload X22.here hx rfl (hb hby at_176) rfl ?_
                show Steps p.tables e below (T22.setTop (mkF m 178 #[.val (.int p0), .val (.int p1), .val (.int p2), .val (.int p3), .val (.int ((p0 &&& (2147483647 : Int32)) % (6 : Int32))), .val (.long (p1.toInt64)), .second, .val (.long lb), .second, .val (.ref w_GREATER), .val (.int (4 : Int32)), .val (.int (2 : Int32)), .val (.int (1 : Int32))] [(.long (p1.toInt64)), (.ref w_GREATER)])) t
                refine XS.l2dS X22.here hx rfl (hb hby at_178) rfl rfl ?_
                show Steps p.tables e below (T22.setTop (mkF m 179 #[.val (.int p0), .val (.int p1), .val (.int p2), .val (.int p3), .val (.int ((p0 &&& (2147483647 : Int32)) % (6 : Int32))), .val (.long (p1.toInt64)), .second, .val (.long lb), .second, .val (.ref w_GREATER), .val (.int (4 : Int32)), .val (.int (2 : Int32)), .val (.int (1 : Int32))] [(.double (FP.l2d (p1.toInt64))), (.ref w_GREATER)])) t
                refine XS.lload X22.here hx rfl (hb hby at_179) rfl ?_
                show Steps p.tables e below (T22.setTop (mkF m 181 #[.val (.int p0), .val (.int p1), .val (.int p2), .val (.int p3), .val (.int ((p0 &&& (2147483647 : Int32)) % (6 : Int32))), .val (.long (p1.toInt64)), .second, .val (.long lb), .second, .val (.ref w_GREATER), .val (.int (4 : Int32)), .val (.int (2 : Int32)), .val (.int (1 : Int32))] [(.long lb), (.double (FP.l2d (p1.toInt64))), (.ref w_GREATER)])) t
                refine XS.l2dS X22.here hx rfl (hb hby at_181) rfl rfl ?_
                exact k
              obtain ⟨cq29, kq29, qa29, qb29, qc29⟩ := isOf hZ e22 E_w_GREATER
              obtain ⟨_, _, ⟨T29, L29, k29, n29⟩, -, X29, ⟨Lc29, hQ29, l29, y29, z29⟩, st29⟩ := X22.virtualBack hx (y := (⟨"com/example/meshwatch/meshwatch/Relation", "holds", "(DD)Z"⟩ : MethodName)) (z := (⟨"com/example/meshwatch/meshwatch/Relation", "holds", "(DD)Z"⟩ : MethodName)) hown (mvT hZ (hw _ (List.mem_of_getElem? (i := 4) rfl))) (mvT hZ (hw _ (List.mem_of_getElem? (i := 5) rfl))) (notFace_of_selects (args := #[]) (mvT hZ (hw _ (List.mem_of_getElem? (i := 7) rfl)))) (mvT hZ (hw _ (List.mem_of_getElem? (i := 7) rfl))) (mvT hZ (hw _ (List.mem_of_getElem? (i := 6) rfl))) (by decide) (backOf (W := 0) (rmh2 l Z ar hw [] w_GREATER ((FP.l2d (p1.toInt64))) ((FP.l2d lb)) h0 n0 Z0 E_w_GREATER F_ordinal_w_GREATER) hZ (hw _ (List.mem_of_getElem? (i := 8) rfl)) (hw _ (List.mem_of_getElem? (i := 2) rfl)) (by decide) (by decide)) qa29 qc29 (g := (mkF m 182 #[.val (.int p0), .val (.int p1), .val (.int p2), .val (.int p3), .val (.int ((p0 &&& (2147483647 : Int32)) % (6 : Int32))), .val (.long (p1.toInt64)), .second, .val (.long lb), .second, .val (.ref w_GREATER), .val (.int (4 : Int32)), .val (.int (2 : Int32)), .val (.int (1 : Int32))] [(.double (FP.l2d lb)), (.double (FP.l2d (p1.toInt64))), (.ref w_GREATER)])) rfl (by rw [hml]; rfl) (Steps.refl _) (argsL := [(.double (FP.l2d (p1.toInt64))), (.double (FP.l2d lb))]) (rest := []) (lenOf pd0_0 rfl) rfl (by show 2 * 0 + _ ≤ _; exact Nat.le_of_eq rfl) (hb hby at_182) (fun _ _ => ⟨rfl, e22, (by decide : 0 + 0 ≤ _), (by decide : 0 + 0 ≤ _)⟩)
              dsimp only [Pt.U, Pt.locs, Pt.cells, Pt.slots] at X29 l29 y29 z29 st29 hQ29
              subst l29 y29 z29
              obtain ⟨rfl, N29q, e29⟩ := hQ29
              have n30 := Fr.app N0 N29q
              refine own_tr (T' := T29) (g' := (mkF m 185 #[.val (.int p0), .val (.int p1), .val (.int p2), .val (.int p3), .val (.int ((p0 &&& (2147483647 : Int32)) % (6 : Int32))), .val (.long (p1.toInt64)), .second, .val (.long lb), .second, .val (.ref w_GREATER), .val (.int (4 : Int32)), .val (.int (2 : Int32)), .val (.int (1 : Int32))] [(.int (own_h2 (FP.dcmp (FP.l2d (p1.toInt64)) (FP.l2d lb))))])) st29 ?_
              refine own_st (T' := T29) (g' := (mkF m 195 #[.val (.int p0), .val (.int p1), .val (.int p2), .val (.int p3), .val (.int ((p0 &&& (2147483647 : Int32)) % (6 : Int32))), .val (.long (p1.toInt64)), .second, .val (.long lb), .second, .val (.ref w_GREATER), .val (.int (4 : Int32)), .val (.int (2 : Int32)), .val (.int (1 : Int32))] [(.int (1 : Int32))])) (fun t k => ?_) ?_
              · show Steps p.tables e below (T29.setTop (mkF m 185 #[.val (.int p0), .val (.int p1), .val (.int p2), .val (.int p3), .val (.int ((p0 &&& (2147483647 : Int32)) % (6 : Int32))), .val (.long (p1.toInt64)), .second, .val (.long lb), .second, .val (.ref w_GREATER), .val (.int (4 : Int32)), .val (.int (2 : Int32)), .val (.int (1 : Int32))] [(.int (own_h2 (FP.dcmp (FP.l2d (p1.toInt64)) (FP.l2d lb))))])) t
                refine XS.iload X29.here hx rfl (hb hby at_185) rfl ?_
                show Steps p.tables e below (T29.setTop (mkF m 187 #[.val (.int p0), .val (.int p1), .val (.int p2), .val (.int p3), .val (.int ((p0 &&& (2147483647 : Int32)) % (6 : Int32))), .val (.long (p1.toInt64)), .second, .val (.long lb), .second, .val (.ref w_GREATER), .val (.int (4 : Int32)), .val (.int (2 : Int32)), .val (.int (1 : Int32))] [(.int (1 : Int32)), (.int (own_h2 (FP.dcmp (FP.l2d (p1.toInt64)) (FP.l2d lb))))])) t
                refine XS.icmpNo X29.here hx rfl (hb hby at_187) rfl (teq ((congrArg own_h2 (own_gt (own_b2 p1) hlb hc135_23 hc147_26)).trans (by decide) : (own_h2 (FP.dcmp (FP.l2d (p1.toInt64)) (FP.l2d lb))) = (1 : Int32))).2 ?_
                show Steps p.tables e below (T29.setTop (mkF m 190 #[.val (.int p0), .val (.int p1), .val (.int p2), .val (.int p3), .val (.int ((p0 &&& (2147483647 : Int32)) % (6 : Int32))), .val (.long (p1.toInt64)), .second, .val (.long lb), .second, .val (.ref w_GREATER), .val (.int (4 : Int32)), .val (.int (2 : Int32)), .val (.int (1 : Int32))] [])) t
                refine XS.iconst X29.here hx rfl (hb hby at_190) ?_
                show Steps p.tables e below (T29.setTop (mkF m 191 #[.val (.int p0), .val (.int p1), .val (.int p2), .val (.int p3), .val (.int ((p0 &&& (2147483647 : Int32)) % (6 : Int32))), .val (.long (p1.toInt64)), .second, .val (.long lb), .second, .val (.ref w_GREATER), .val (.int (4 : Int32)), .val (.int (2 : Int32)), .val (.int (1 : Int32))] [(.int (1 : Int32))])) t
                refine XS.goto X29.here hx rfl (pc0 := 191) (pc' := 195) rfl (hb hby at_191) (by decide) (by decide) ?_
                exact k
              refine own_retZ X29 hx hlk Bd.returns (hb hby at_195) rfl (by decide) (by decide) ?_
              show Q0 Z p0 p1 p2 p3 w_LESS w_LESS_OR_EQUAL w_GREATER w_GREATER_OR_EQUAL w_EQUAL w_NOT_EQUAL h0 n0 (some (.int (1 : Int32))) T29.heap _
              rw [(e29 : T29.heap = h0)]
              exact ⟨rfl, n30⟩
        · refine own_st (T' := s₁) (g' := (mkF m 90 #[.val (.int p0), .val (.int p1), .val (.int p2), .val (.int p3), .val (.int ((p0 &&& (2147483647 : Int32)) % (6 : Int32))), .val (.long (p1.toInt64)), .second, .val (.long lb), .second, .unset, .unset, .unset, .unset] [(.int (3 : Int32)), (.int ((p0 &&& (2147483647 : Int32)) % (6 : Int32)))])) (fun t k => ?_) ?_
          · show Steps p.tables e below (s₁.setTop (mkF m 73 #[.val (.int p0), .val (.int p1), .val (.int p2), .val (.int p3), .val (.int ((p0 &&& (2147483647 : Int32)) % (6 : Int32))), .val (.long (p1.toInt64)), .second, .val (.long lb), .second, .unset, .unset, .unset, .unset] [(.int (2 : Int32)), (.int ((p0 &&& (2147483647 : Int32)) % (6 : Int32)))])) t
            refine XS.icmpYes X0.here hx rfl (pc0 := 73) (pc' := 87) rfl (hb hby at_73) rfl (feq hc73_21).2 (by decide) (by decide) ?_
            show Steps p.tables e below (s₁.setTop (mkF m 87 #[.val (.int p0), .val (.int p1), .val (.int p2), .val (.int p3), .val (.int ((p0 &&& (2147483647 : Int32)) % (6 : Int32))), .val (.long (p1.toInt64)), .second, .val (.long lb), .second, .unset, .unset, .unset, .unset] [])) t
            refine XS.iload X0.here hx rfl (hb hby at_87) rfl ?_
            show Steps p.tables e below (s₁.setTop (mkF m 89 #[.val (.int p0), .val (.int p1), .val (.int p2), .val (.int p3), .val (.int ((p0 &&& (2147483647 : Int32)) % (6 : Int32))), .val (.long (p1.toInt64)), .second, .val (.long lb), .second, .unset, .unset, .unset, .unset] [(.int ((p0 &&& (2147483647 : Int32)) % (6 : Int32)))])) t
            refine XS.iconst X0.here hx rfl (hb hby at_89) ?_
            exact k
          by_cases hc90_31 : ((p0 &&& (2147483647 : Int32)) % (6 : Int32)) = (3 : Int32)
          · refine own_st (T' := s₁) (g' := (mkF m 93 #[.val (.int p0), .val (.int p1), .val (.int p2), .val (.int p3), .val (.int ((p0 &&& (2147483647 : Int32)) % (6 : Int32))), .val (.long (p1.toInt64)), .second, .val (.long lb), .second, .unset, .unset, .unset, .unset] [])) (fun t k => ?_) ?_
            · show Steps p.tables e below (s₁.setTop (mkF m 90 #[.val (.int p0), .val (.int p1), .val (.int p2), .val (.int p3), .val (.int ((p0 &&& (2147483647 : Int32)) % (6 : Int32))), .val (.long (p1.toInt64)), .second, .val (.long lb), .second, .unset, .unset, .unset, .unset] [(.int (3 : Int32)), (.int ((p0 &&& (2147483647 : Int32)) % (6 : Int32)))])) t
              refine XS.icmpNo X0.here hx rfl (hb hby at_90) rfl (teq hc90_31).2 ?_
              exact k
            obtain ⟨T32, X32, e32, st32⟩ := getS2 X0 hx hZ hown (host := "") (Or.inl (hw _ (List.mem_of_getElem? (i := 22) rfl))) Via.refl e0 S_GREATER_OR_EQUAL (g := (mkF m 93 #[.val (.int p0), .val (.int p1), .val (.int p2), .val (.int p3), .val (.int ((p0 &&& (2147483647 : Int32)) % (6 : Int32))), .val (.long (p1.toInt64)), .second, .val (.long lb), .second, .unset, .unset, .unset, .unset] [])) rfl (hb hby at_93)
            refine own_st (T' := T32) (g' := (mkF m 96 #[.val (.int p0), .val (.int p1), .val (.int p2), .val (.int p3), .val (.int ((p0 &&& (2147483647 : Int32)) % (6 : Int32))), .val (.long (p1.toInt64)), .second, .val (.long lb), .second, .unset, .unset, .unset, .unset] [(.ref w_GREATER_OR_EQUAL)])) st32 ?_
            refine own_st (T' := T32) (g' := (mkF m 135 #[.val (.int p0), .val (.int p1), .val (.int p2), .val (.int p3), .val (.int ((p0 &&& (2147483647 : Int32)) % (6 : Int32))), .val (.long (p1.toInt64)), .second, .val (.long lb), .second, .val (.ref w_GREATER_OR_EQUAL), .val (.int (6 : Int32)), .unset, .unset] [(.int (lcmpW (p1.toInt64) lb))])) (fun t k => ?_) ?_
            · show Steps p.tables e below (T32.setTop (mkF m 96 #[.val (.int p0), .val (.int p1), .val (.int p2), .val (.int p3), .val (.int ((p0 &&& (2147483647 : Int32)) % (6 : Int32))), .val (.long (p1.toInt64)), .second, .val (.long lb), .second, .unset, .unset, .unset, .unset] [(.ref w_GREATER_OR_EQUAL)])) t
              refine XS.astore X32.here hx rfl (hb hby at_96) rfl rfl (l' := #[.val (.int p0), .val (.int p1), .val (.int p2), .val (.int p3), .val (.int ((p0 &&& (2147483647 : Int32)) % (6 : Int32))), .val (.long (p1.toInt64)), .second, .val (.long lb), .second, .val (.ref w_GREATER_OR_EQUAL), .unset, .unset, .unset]) rfl ?_
              show Steps p.tables e below (T32.setTop (mkF m 98 #[.val (.int p0), .val (.int p1), .val (.int p2), .val (.int p3), .val (.int ((p0 &&& (2147483647 : Int32)) % (6 : Int32))), .val (.long (p1.toInt64)), .second, .val (.long lb), .second, .val (.ref w_GREATER_OR_EQUAL), .unset, .unset, .unset] [])) t
              refine XS.bipush X32.here hx rfl (hb hby at_98) ?_
              show Steps p.tables e below (T32.setTop (mkF m 100 #[.val (.int p0), .val (.int p1), .val (.int p2), .val (.int p3), .val (.int ((p0 &&& (2147483647 : Int32)) % (6 : Int32))), .val (.long (p1.toInt64)), .second, .val (.long lb), .second, .val (.ref w_GREATER_OR_EQUAL), .unset, .unset, .unset] [(.int (6 : Int32))])) t
              refine XS.istore X32.here hx rfl (hb hby at_100) rfl (l' := #[.val (.int p0), .val (.int p1), .val (.int p2), .val (.int p3), .val (.int ((p0 &&& (2147483647 : Int32)) % (6 : Int32))), .val (.long (p1.toInt64)), .second, .val (.long lb), .second, .val (.ref w_GREATER_OR_EQUAL), .val (.int (6 : Int32)), .unset, .unset]) rfl ?_
              show Steps p.tables e below (T32.setTop (mkF m 102 #[.val (.int p0), .val (.int p1), .val (.int p2), .val (.int p3), .val (.int ((p0 &&& (2147483647 : Int32)) % (6 : Int32))), .val (.long (p1.toInt64)), .second, .val (.long lb), .second, .val (.ref w_GREATER_OR_EQUAL), .val (.int (6 : Int32)), .unset, .unset] [])) t
              refine XS.goto X32.here hx rfl (pc0 := 102) (pc' := 130) rfl (hb hby at_102) (by decide) (by decide) ?_
              show Steps p.tables e below (T32.setTop (mkF m 130 #[.val (.int p0), .val (.int p1), .val (.int p2), .val (.int p3), .val (.int ((p0 &&& (2147483647 : Int32)) % (6 : Int32))), .val (.long (p1.toInt64)), .second, .val (.long lb), .second, .val (.ref w_GREATER_OR_EQUAL), .val (.int (6 : Int32)), .unset, .unset] [])) t
              refine XS.lload X32.here hx rfl (hb hby at_130) rfl ?_
              show Steps p.tables e below (T32.setTop (mkF m 132 #[.val (.int p0), .val (.int p1), .val (.int p2), .val (.int p3), .val (.int ((p0 &&& (2147483647 : Int32)) % (6 : Int32))), .val (.long (p1.toInt64)), .second, .val (.long lb), .second, .val (.ref w_GREATER_OR_EQUAL), .val (.int (6 : Int32)), .unset, .unset] [(.long (p1.toInt64))])) t
              refine XS.lload X32.here hx rfl (hb hby at_132) rfl ?_
              show Steps p.tables e below (T32.setTop (mkF m 134 #[.val (.int p0), .val (.int p1), .val (.int p2), .val (.int p3), .val (.int ((p0 &&& (2147483647 : Int32)) % (6 : Int32))), .val (.long (p1.toInt64)), .second, .val (.long lb), .second, .val (.ref w_GREATER_OR_EQUAL), .val (.int (6 : Int32)), .unset, .unset] [(.long lb), (.long (p1.toInt64))])) t
              refine XS.lcmp X32.here hx rfl (hb hby at_134) rfl ?_
              exact k
            by_cases hc135_33 : (p1.toInt64) < lb
            · refine own_st (T' := T32) (g' := (mkF m 182 #[.val (.int p0), .val (.int p1), .val (.int p2), .val (.int p3), .val (.int ((p0 &&& (2147483647 : Int32)) % (6 : Int32))), .val (.long (p1.toInt64)), .second, .val (.long lb), .second, .val (.ref w_GREATER_OR_EQUAL), .val (.int (6 : Int32)), .val (.int (0 : Int32)), .val (.int (0 : Int32))] [(.double (FP.l2d lb)), (.double (FP.l2d (p1.toInt64))), (.ref w_GREATER_OR_EQUAL)])) (fun t k => ?_) ?_
              · show Steps p.tables e below (T32.setTop (mkF m 135 #[.val (.int p0), .val (.int p1), .val (.int p2), .val (.int p3), .val (.int ((p0 &&& (2147483647 : Int32)) % (6 : Int32))), .val (.long (p1.toInt64)), .second, .val (.long lb), .second, .val (.ref w_GREATER_OR_EQUAL), .val (.int (6 : Int32)), .unset, .unset] [(.int (lcmpW (p1.toInt64) lb))])) t
                refine XS.ifNo X32.here hx rfl (hb hby at_135) rfl ((if0 _ _).trans (tlt ((lw_lt (p1.toInt64) lb).mpr hc135_33)).2.1) ?_
                show Steps p.tables e below (T32.setTop (mkF m 138 #[.val (.int p0), .val (.int p1), .val (.int p2), .val (.int p3), .val (.int ((p0 &&& (2147483647 : Int32)) % (6 : Int32))), .val (.long (p1.toInt64)), .second, .val (.long lb), .second, .val (.ref w_GREATER_OR_EQUAL), .val (.int (6 : Int32)), .unset, .unset] [])) t
                refine XS.iconst X32.here hx rfl (hb hby at_138) ?_
                show Steps p.tables e below (T32.setTop (mkF m 139 #[.val (.int p0), .val (.int p1), .val (.int p2), .val (.int p3), .val (.int ((p0 &&& (2147483647 : Int32)) % (6 : Int32))), .val (.long (p1.toInt64)), .second, .val (.long lb), .second, .val (.ref w_GREATER_OR_EQUAL), .val (.int (6 : Int32)), .unset, .unset] [(.int (0 : Int32))])) t
                refine XS.goto X32.here hx rfl (pc0 := 139) (pc' := 155) rfl (hb hby at_139) (by decide) (by decide) ?_
                show Steps p.tables e below (T32.setTop (mkF m 155 #[.val (.int p0), .val (.int p1), .val (.int p2), .val (.int p3), .val (.int ((p0 &&& (2147483647 : Int32)) % (6 : Int32))), .val (.long (p1.toInt64)), .second, .val (.long lb), .second, .val (.ref w_GREATER_OR_EQUAL), .val (.int (6 : Int32)), .unset, .unset] [(.int (0 : Int32))])) t
                refine XS.istore X32.here hx rfl (hb hby at_155) rfl (l' := #[.val (.int p0), .val (.int p1), .val (.int p2), .val (.int p3), .val (.int ((p0 &&& (2147483647 : Int32)) % (6 : Int32))), .val (.long (p1.toInt64)), .second, .val (.long lb), .second, .val (.ref w_GREATER_OR_EQUAL), .val (.int (6 : Int32)), .val (.int (0 : Int32)), .unset]) rfl ?_
                show Steps p.tables e below (T32.setTop (mkF m 157 #[.val (.int p0), .val (.int p1), .val (.int p2), .val (.int p3), .val (.int ((p0 &&& (2147483647 : Int32)) % (6 : Int32))), .val (.long (p1.toInt64)), .second, .val (.long lb), .second, .val (.ref w_GREATER_OR_EQUAL), .val (.int (6 : Int32)), .val (.int (0 : Int32)), .unset] [])) t
                refine XS.iload X32.here hx rfl (hb hby at_157) rfl ?_
                show Steps p.tables e below (T32.setTop (mkF m 159 #[.val (.int p0), .val (.int p1), .val (.int p2), .val (.int p3), .val (.int ((p0 &&& (2147483647 : Int32)) % (6 : Int32))), .val (.long (p1.toInt64)), .second, .val (.long lb), .second, .val (.ref w_GREATER_OR_EQUAL), .val (.int (6 : Int32)), .val (.int (0 : Int32)), .unset] [(.int (6 : Int32))])) t
                refine XS.iload X32.here hx rfl (hb hby at_159) rfl ?_
                show Steps p.tables e below (T32.setTop (mkF m 161 #[.val (.int p0), .val (.int p1), .val (.int p2), .val (.int p3), .val (.int ((p0 &&& (2147483647 : Int32)) % (6 : Int32))), .val (.long (p1.toInt64)), .second, .val (.long lb), .second, .val (.ref w_GREATER_OR_EQUAL), .val (.int (6 : Int32)), .val (.int (0 : Int32)), .unset] [(.int (0 : Int32)), (.int (6 : Int32))])) t
                refine XS.ishr X32.here hx rfl (hb hby at_161) rfl ?_
                show Steps p.tables e below (T32.setTop (mkF m 162 #[.val (.int p0), .val (.int p1), .val (.int p2), .val (.int p3), .val (.int ((p0 &&& (2147483647 : Int32)) % (6 : Int32))), .val (.long (p1.toInt64)), .second, .val (.long lb), .second, .val (.ref w_GREATER_OR_EQUAL), .val (.int (6 : Int32)), .val (.int (0 : Int32)), .unset] [(.int (6 : Int32))])) t
                refine XS.iconst X32.here hx rfl (hb hby at_162) ?_
                show Steps p.tables e below (T32.setTop (mkF m 163 #[.val (.int p0), .val (.int p1), .val (.int p2), .val (.int p3), .val (.int ((p0 &&& (2147483647 : Int32)) % (6 : Int32))), .val (.long (p1.toInt64)), .second, .val (.long lb), .second, .val (.ref w_GREATER_OR_EQUAL), .val (.int (6 : Int32)), .val (.int (0 : Int32)), .unset] [(.int (1 : Int32)), (.int (6 : Int32))])) t
                refine XS.iand X32.here hx rfl (hb hby at_163) rfl ?_
                show Steps p.tables e below (T32.setTop (mkF m 164 #[.val (.int p0), .val (.int p1), .val (.int p2), .val (.int p3), .val (.int ((p0 &&& (2147483647 : Int32)) % (6 : Int32))), .val (.long (p1.toInt64)), .second, .val (.long lb), .second, .val (.ref w_GREATER_OR_EQUAL), .val (.int (6 : Int32)), .val (.int (0 : Int32)), .unset] [(.int (0 : Int32))])) t
                refine XS.ifYes X32.here hx rfl (pc0 := 164) (pc' := 171) rfl (hb hby at_164) rfl (by decide) (by decide) (by decide) ?_
                show Steps p.tables e below (T32.setTop (mkF m 171 #[.val (.int p0), .val (.int p1), .val (.int p2), .val (.int p3), .val (.int ((p0 &&& (2147483647 : Int32)) % (6 : Int32))), .val (.long (p1.toInt64)), .second, .val (.long lb), .second, .val (.ref w_GREATER_OR_EQUAL), .val (.int (6 : Int32)), .val (.int (0 : Int32)), .unset] [])) t
                refine XS.iconst X32.here hx rfl (hb hby at_171) ?_
                show Steps p.tables e below (T32.setTop (mkF m 172 #[.val (.int p0), .val (.int p1), .val (.int p2), .val (.int p3), .val (.int ((p0 &&& (2147483647 : Int32)) % (6 : Int32))), .val (.long (p1.toInt64)), .second, .val (.long lb), .second, .val (.ref w_GREATER_OR_EQUAL), .val (.int (6 : Int32)), .val (.int (0 : Int32)), .unset] [(.int (0 : Int32))])) t
                refine XS.istore X32.here hx rfl (hb hby at_172) rfl (l' := #[.val (.int p0), .val (.int p1), .val (.int p2), .val (.int p3), .val (.int ((p0 &&& (2147483647 : Int32)) % (6 : Int32))), .val (.long (p1.toInt64)), .second, .val (.long lb), .second, .val (.ref w_GREATER_OR_EQUAL), .val (.int (6 : Int32)), .val (.int (0 : Int32)), .val (.int (0 : Int32))]) rfl ?_
                show Steps p.tables e below (T32.setTop (mkF m 174 #[.val (.int p0), .val (.int p1), .val (.int p2), .val (.int p3), .val (.int ((p0 &&& (2147483647 : Int32)) % (6 : Int32))), .val (.long (p1.toInt64)), .second, .val (.long lb), .second, .val (.ref w_GREATER_OR_EQUAL), .val (.int (6 : Int32)), .val (.int (0 : Int32)), .val (.int (0 : Int32))] [])) t
                refine XS.aload X32.here hx rfl (hb hby at_174) rfl rfl ?_
                show Steps p.tables e below (T32.setTop (mkF m 176 #[.val (.int p0), .val (.int p1), .val (.int p2), .val (.int p3), .val (.int ((p0 &&& (2147483647 : Int32)) % (6 : Int32))), .val (.long (p1.toInt64)), .second, .val (.long lb), .second, .val (.ref w_GREATER_OR_EQUAL), .val (.int (6 : Int32)), .val (.int (0 : Int32)), .val (.int (0 : Int32))] [(.ref w_GREATER_OR_EQUAL)])) t
                refine XS.lload X32.here hx rfl (hb hby at_176) rfl ?_
                show Steps p.tables e below (T32.setTop (mkF m 178 #[.val (.int p0), .val (.int p1), .val (.int p2), .val (.int p3), .val (.int ((p0 &&& (2147483647 : Int32)) % (6 : Int32))), .val (.long (p1.toInt64)), .second, .val (.long lb), .second, .val (.ref w_GREATER_OR_EQUAL), .val (.int (6 : Int32)), .val (.int (0 : Int32)), .val (.int (0 : Int32))] [(.long (p1.toInt64)), (.ref w_GREATER_OR_EQUAL)])) t
                refine XS.l2dS X32.here hx rfl (hb hby at_178) rfl rfl ?_
                show Steps p.tables e below (T32.setTop (mkF m 179 #[.val (.int p0), .val (.int p1), .val (.int p2), .val (.int p3), .val (.int ((p0 &&& (2147483647 : Int32)) % (6 : Int32))), .val (.long (p1.toInt64)), .second, .val (.long lb), .second, .val (.ref w_GREATER_OR_EQUAL), .val (.int (6 : Int32)), .val (.int (0 : Int32)), .val (.int (0 : Int32))] [(.double (FP.l2d (p1.toInt64))), (.ref w_GREATER_OR_EQUAL)])) t
                refine XS.lload X32.here hx rfl (hb hby at_179) rfl ?_
                show Steps p.tables e below (T32.setTop (mkF m 181 #[.val (.int p0), .val (.int p1), .val (.int p2), .val (.int p3), .val (.int ((p0 &&& (2147483647 : Int32)) % (6 : Int32))), .val (.long (p1.toInt64)), .second, .val (.long lb), .second, .val (.ref w_GREATER_OR_EQUAL), .val (.int (6 : Int32)), .val (.int (0 : Int32)), .val (.int (0 : Int32))] [(.long lb), (.double (FP.l2d (p1.toInt64))), (.ref w_GREATER_OR_EQUAL)])) t
                refine XS.l2dS X32.here hx rfl (hb hby at_181) rfl rfl ?_
                exact k
              obtain ⟨cq34, kq34, qa34, qb34, qc34⟩ := isOf hZ e32 E_w_GREATER_OR_EQUAL
              obtain ⟨_, _, ⟨T34, L34, k34, n34⟩, -, X34, ⟨Lc34, hQ34, l34, y34, z34⟩, st34⟩ := X32.virtualBack hx (y := (⟨"com/example/meshwatch/meshwatch/Relation", "holds", "(DD)Z"⟩ : MethodName)) (z := (⟨"com/example/meshwatch/meshwatch/Relation", "holds", "(DD)Z"⟩ : MethodName)) hown (mvT hZ (hw _ (List.mem_of_getElem? (i := 4) rfl))) (mvT hZ (hw _ (List.mem_of_getElem? (i := 5) rfl))) (notFace_of_selects (args := #[]) (mvT hZ (hw _ (List.mem_of_getElem? (i := 7) rfl)))) (mvT hZ (hw _ (List.mem_of_getElem? (i := 7) rfl))) (mvT hZ (hw _ (List.mem_of_getElem? (i := 6) rfl))) (by decide) (backOf (W := 0) (rmh3 l Z ar hw [] w_GREATER_OR_EQUAL ((FP.l2d (p1.toInt64))) ((FP.l2d lb)) h0 n0 Z0 E_w_GREATER_OR_EQUAL F_ordinal_w_GREATER_OR_EQUAL) hZ (hw _ (List.mem_of_getElem? (i := 8) rfl)) (hw _ (List.mem_of_getElem? (i := 2) rfl)) (by decide) (by decide)) qa34 qc34 (g := (mkF m 182 #[.val (.int p0), .val (.int p1), .val (.int p2), .val (.int p3), .val (.int ((p0 &&& (2147483647 : Int32)) % (6 : Int32))), .val (.long (p1.toInt64)), .second, .val (.long lb), .second, .val (.ref w_GREATER_OR_EQUAL), .val (.int (6 : Int32)), .val (.int (0 : Int32)), .val (.int (0 : Int32))] [(.double (FP.l2d lb)), (.double (FP.l2d (p1.toInt64))), (.ref w_GREATER_OR_EQUAL)])) rfl (by rw [hml]; rfl) (Steps.refl _) (argsL := [(.double (FP.l2d (p1.toInt64))), (.double (FP.l2d lb))]) (rest := []) (lenOf pd0_0 rfl) rfl (by show 2 * 0 + _ ≤ _; exact Nat.le_of_eq rfl) (hb hby at_182) (fun _ _ => ⟨rfl, e32, (by decide : 0 + 0 ≤ _), (by decide : 0 + 0 ≤ _)⟩)
              dsimp only [Pt.U, Pt.locs, Pt.cells, Pt.slots] at X34 l34 y34 z34 st34 hQ34
              subst l34 y34 z34
              obtain ⟨rfl, N34q, e34⟩ := hQ34
              have n35 := Fr.app N0 N34q
              refine own_tr (T' := T34) (g' := (mkF m 185 #[.val (.int p0), .val (.int p1), .val (.int p2), .val (.int p3), .val (.int ((p0 &&& (2147483647 : Int32)) % (6 : Int32))), .val (.long (p1.toInt64)), .second, .val (.long lb), .second, .val (.ref w_GREATER_OR_EQUAL), .val (.int (6 : Int32)), .val (.int (0 : Int32)), .val (.int (0 : Int32))] [(.int (own_h3 (FP.dcmp (FP.l2d (p1.toInt64)) (FP.l2d lb))))])) st34 ?_
              refine own_st (T' := T34) (g' := (mkF m 195 #[.val (.int p0), .val (.int p1), .val (.int p2), .val (.int p3), .val (.int ((p0 &&& (2147483647 : Int32)) % (6 : Int32))), .val (.long (p1.toInt64)), .second, .val (.long lb), .second, .val (.ref w_GREATER_OR_EQUAL), .val (.int (6 : Int32)), .val (.int (0 : Int32)), .val (.int (0 : Int32))] [(.int (1 : Int32))])) (fun t k => ?_) ?_
              · show Steps p.tables e below (T34.setTop (mkF m 185 #[.val (.int p0), .val (.int p1), .val (.int p2), .val (.int p3), .val (.int ((p0 &&& (2147483647 : Int32)) % (6 : Int32))), .val (.long (p1.toInt64)), .second, .val (.long lb), .second, .val (.ref w_GREATER_OR_EQUAL), .val (.int (6 : Int32)), .val (.int (0 : Int32)), .val (.int (0 : Int32))] [(.int (own_h3 (FP.dcmp (FP.l2d (p1.toInt64)) (FP.l2d lb))))])) t
                refine XS.iload X34.here hx rfl (hb hby at_185) rfl ?_
                show Steps p.tables e below (T34.setTop (mkF m 187 #[.val (.int p0), .val (.int p1), .val (.int p2), .val (.int p3), .val (.int ((p0 &&& (2147483647 : Int32)) % (6 : Int32))), .val (.long (p1.toInt64)), .second, .val (.long lb), .second, .val (.ref w_GREATER_OR_EQUAL), .val (.int (6 : Int32)), .val (.int (0 : Int32)), .val (.int (0 : Int32))] [(.int (0 : Int32)), (.int (own_h3 (FP.dcmp (FP.l2d (p1.toInt64)) (FP.l2d lb))))])) t
                refine XS.icmpNo X34.here hx rfl (hb hby at_187) rfl (teq ((congrArg own_h3 (own_lt (own_b2 p1) hlb hc135_33)).trans (by decide) : (own_h3 (FP.dcmp (FP.l2d (p1.toInt64)) (FP.l2d lb))) = (0 : Int32))).2 ?_
                show Steps p.tables e below (T34.setTop (mkF m 190 #[.val (.int p0), .val (.int p1), .val (.int p2), .val (.int p3), .val (.int ((p0 &&& (2147483647 : Int32)) % (6 : Int32))), .val (.long (p1.toInt64)), .second, .val (.long lb), .second, .val (.ref w_GREATER_OR_EQUAL), .val (.int (6 : Int32)), .val (.int (0 : Int32)), .val (.int (0 : Int32))] [])) t
                refine XS.iconst X34.here hx rfl (hb hby at_190) ?_
                show Steps p.tables e below (T34.setTop (mkF m 191 #[.val (.int p0), .val (.int p1), .val (.int p2), .val (.int p3), .val (.int ((p0 &&& (2147483647 : Int32)) % (6 : Int32))), .val (.long (p1.toInt64)), .second, .val (.long lb), .second, .val (.ref w_GREATER_OR_EQUAL), .val (.int (6 : Int32)), .val (.int (0 : Int32)), .val (.int (0 : Int32))] [(.int (1 : Int32))])) t
                refine XS.goto X34.here hx rfl (pc0 := 191) (pc' := 195) rfl (hb hby at_191) (by decide) (by decide) ?_
                exact k
              refine own_retZ X34 hx hlk Bd.returns (hb hby at_195) rfl (by decide) (by decide) ?_
              show Q0 Z p0 p1 p2 p3 w_LESS w_LESS_OR_EQUAL w_GREATER w_GREATER_OR_EQUAL w_EQUAL w_NOT_EQUAL h0 n0 (some (.int (1 : Int32))) T34.heap _
              rw [(e34 : T34.heap = h0)]
              exact ⟨rfl, n35⟩
            · refine own_st (T' := T32) (g' := (mkF m 147 #[.val (.int p0), .val (.int p1), .val (.int p2), .val (.int p3), .val (.int ((p0 &&& (2147483647 : Int32)) % (6 : Int32))), .val (.long (p1.toInt64)), .second, .val (.long lb), .second, .val (.ref w_GREATER_OR_EQUAL), .val (.int (6 : Int32)), .unset, .unset] [(.int (lcmpW (p1.toInt64) lb))])) (fun t k => ?_) ?_
              · show Steps p.tables e below (T32.setTop (mkF m 135 #[.val (.int p0), .val (.int p1), .val (.int p2), .val (.int p3), .val (.int ((p0 &&& (2147483647 : Int32)) % (6 : Int32))), .val (.long (p1.toInt64)), .second, .val (.long lb), .second, .val (.ref w_GREATER_OR_EQUAL), .val (.int (6 : Int32)), .unset, .unset] [(.int (lcmpW (p1.toInt64) lb))])) t
                refine XS.ifYes X32.here hx rfl (pc0 := 135) (pc' := 142) rfl (hb hby at_135) rfl ((if0 _ _).trans (flt (fun q => hc135_33 ((lw_lt (p1.toInt64) lb).mp q))).2.1) (by decide) (by decide) ?_
                show Steps p.tables e below (T32.setTop (mkF m 142 #[.val (.int p0), .val (.int p1), .val (.int p2), .val (.int p3), .val (.int ((p0 &&& (2147483647 : Int32)) % (6 : Int32))), .val (.long (p1.toInt64)), .second, .val (.long lb), .second, .val (.ref w_GREATER_OR_EQUAL), .val (.int (6 : Int32)), .unset, .unset] [])) t
                refine XS.lload X32.here hx rfl (hb hby at_142) rfl ?_
                show Steps p.tables e below (T32.setTop (mkF m 144 #[.val (.int p0), .val (.int p1), .val (.int p2), .val (.int p3), .val (.int ((p0 &&& (2147483647 : Int32)) % (6 : Int32))), .val (.long (p1.toInt64)), .second, .val (.long lb), .second, .val (.ref w_GREATER_OR_EQUAL), .val (.int (6 : Int32)), .unset, .unset] [(.long (p1.toInt64))])) t
                refine XS.lload X32.here hx rfl (hb hby at_144) rfl ?_
                show Steps p.tables e below (T32.setTop (mkF m 146 #[.val (.int p0), .val (.int p1), .val (.int p2), .val (.int p3), .val (.int ((p0 &&& (2147483647 : Int32)) % (6 : Int32))), .val (.long (p1.toInt64)), .second, .val (.long lb), .second, .val (.ref w_GREATER_OR_EQUAL), .val (.int (6 : Int32)), .unset, .unset] [(.long lb), (.long (p1.toInt64))])) t
                refine XS.lcmp X32.here hx rfl (hb hby at_146) rfl ?_
                exact k
              by_cases hc147_36 : (p1.toInt64) = lb
              · refine own_st (T' := T32) (g' := (mkF m 182 #[.val (.int p0), .val (.int p1), .val (.int p2), .val (.int p3), .val (.int ((p0 &&& (2147483647 : Int32)) % (6 : Int32))), .val (.long (p1.toInt64)), .second, .val (.long lb), .second, .val (.ref w_GREATER_OR_EQUAL), .val (.int (6 : Int32)), .val (.int (1 : Int32)), .val (.int (1 : Int32))] [(.double (FP.l2d lb)), (.double (FP.l2d (p1.toInt64))), (.ref w_GREATER_OR_EQUAL)])) (fun t k => ?_) ?_
                · show Steps p.tables e below (T32.setTop (mkF m 147 #[.val (.int p0), .val (.int p1), .val (.int p2), .val (.int p3), .val (.int ((p0 &&& (2147483647 : Int32)) % (6 : Int32))), .val (.long (p1.toInt64)), .second, .val (.long lb), .second, .val (.ref w_GREATER_OR_EQUAL), .val (.int (6 : Int32)), .unset, .unset] [(.int (lcmpW (p1.toInt64) lb))])) t
                  refine XS.ifNo X32.here hx rfl (hb hby at_147) rfl ((if0 _ _).trans (teq ((lw_eq (p1.toInt64) lb).mpr hc147_36)).2) ?_
                  show Steps p.tables e below (T32.setTop (mkF m 150 #[.val (.int p0), .val (.int p1), .val (.int p2), .val (.int p3), .val (.int ((p0 &&& (2147483647 : Int32)) % (6 : Int32))), .val (.long (p1.toInt64)), .second, .val (.long lb), .second, .val (.ref w_GREATER_OR_EQUAL), .val (.int (6 : Int32)), .unset, .unset] [])) t
                  refine XS.iconst X32.here hx rfl (hb hby at_150) ?_
                  show Steps p.tables e below (T32.setTop (mkF m 151 #[.val (.int p0), .val (.int p1), .val (.int p2), .val (.int p3), .val (.int ((p0 &&& (2147483647 : Int32)) % (6 : Int32))), .val (.long (p1.toInt64)), .second, .val (.long lb), .second, .val (.ref w_GREATER_OR_EQUAL), .val (.int (6 : Int32)), .unset, .unset] [(.int (1 : Int32))])) t
                  refine XS.goto X32.here hx rfl (pc0 := 151) (pc' := 155) rfl (hb hby at_151) (by decide) (by decide) ?_
                  show Steps p.tables e below (T32.setTop (mkF m 155 #[.val (.int p0), .val (.int p1), .val (.int p2), .val (.int p3), .val (.int ((p0 &&& (2147483647 : Int32)) % (6 : Int32))), .val (.long (p1.toInt64)), .second, .val (.long lb), .second, .val (.ref w_GREATER_OR_EQUAL), .val (.int (6 : Int32)), .unset, .unset] [(.int (1 : Int32))])) t
                  refine XS.istore X32.here hx rfl (hb hby at_155) rfl (l' := #[.val (.int p0), .val (.int p1), .val (.int p2), .val (.int p3), .val (.int ((p0 &&& (2147483647 : Int32)) % (6 : Int32))), .val (.long (p1.toInt64)), .second, .val (.long lb), .second, .val (.ref w_GREATER_OR_EQUAL), .val (.int (6 : Int32)), .val (.int (1 : Int32)), .unset]) rfl ?_
                  show Steps p.tables e below (T32.setTop (mkF m 157 #[.val (.int p0), .val (.int p1), .val (.int p2), .val (.int p3), .val (.int ((p0 &&& (2147483647 : Int32)) % (6 : Int32))), .val (.long (p1.toInt64)), .second, .val (.long lb), .second, .val (.ref w_GREATER_OR_EQUAL), .val (.int (6 : Int32)), .val (.int (1 : Int32)), .unset] [])) t
                  refine XS.iload X32.here hx rfl (hb hby at_157) rfl ?_
                  show Steps p.tables e below (T32.setTop (mkF m 159 #[.val (.int p0), .val (.int p1), .val (.int p2), .val (.int p3), .val (.int ((p0 &&& (2147483647 : Int32)) % (6 : Int32))), .val (.long (p1.toInt64)), .second, .val (.long lb), .second, .val (.ref w_GREATER_OR_EQUAL), .val (.int (6 : Int32)), .val (.int (1 : Int32)), .unset] [(.int (6 : Int32))])) t
                  refine XS.iload X32.here hx rfl (hb hby at_159) rfl ?_
                  show Steps p.tables e below (T32.setTop (mkF m 161 #[.val (.int p0), .val (.int p1), .val (.int p2), .val (.int p3), .val (.int ((p0 &&& (2147483647 : Int32)) % (6 : Int32))), .val (.long (p1.toInt64)), .second, .val (.long lb), .second, .val (.ref w_GREATER_OR_EQUAL), .val (.int (6 : Int32)), .val (.int (1 : Int32)), .unset] [(.int (1 : Int32)), (.int (6 : Int32))])) t
                  refine XS.ishr X32.here hx rfl (hb hby at_161) rfl ?_
                  show Steps p.tables e below (T32.setTop (mkF m 162 #[.val (.int p0), .val (.int p1), .val (.int p2), .val (.int p3), .val (.int ((p0 &&& (2147483647 : Int32)) % (6 : Int32))), .val (.long (p1.toInt64)), .second, .val (.long lb), .second, .val (.ref w_GREATER_OR_EQUAL), .val (.int (6 : Int32)), .val (.int (1 : Int32)), .unset] [(.int (3 : Int32))])) t
                  refine XS.iconst X32.here hx rfl (hb hby at_162) ?_
                  show Steps p.tables e below (T32.setTop (mkF m 163 #[.val (.int p0), .val (.int p1), .val (.int p2), .val (.int p3), .val (.int ((p0 &&& (2147483647 : Int32)) % (6 : Int32))), .val (.long (p1.toInt64)), .second, .val (.long lb), .second, .val (.ref w_GREATER_OR_EQUAL), .val (.int (6 : Int32)), .val (.int (1 : Int32)), .unset] [(.int (1 : Int32)), (.int (3 : Int32))])) t
                  refine XS.iand X32.here hx rfl (hb hby at_163) rfl ?_
                  show Steps p.tables e below (T32.setTop (mkF m 164 #[.val (.int p0), .val (.int p1), .val (.int p2), .val (.int p3), .val (.int ((p0 &&& (2147483647 : Int32)) % (6 : Int32))), .val (.long (p1.toInt64)), .second, .val (.long lb), .second, .val (.ref w_GREATER_OR_EQUAL), .val (.int (6 : Int32)), .val (.int (1 : Int32)), .unset] [(.int (1 : Int32))])) t
                  refine XS.ifNo X32.here hx rfl (hb hby at_164) rfl (by decide) ?_
                  show Steps p.tables e below (T32.setTop (mkF m 167 #[.val (.int p0), .val (.int p1), .val (.int p2), .val (.int p3), .val (.int ((p0 &&& (2147483647 : Int32)) % (6 : Int32))), .val (.long (p1.toInt64)), .second, .val (.long lb), .second, .val (.ref w_GREATER_OR_EQUAL), .val (.int (6 : Int32)), .val (.int (1 : Int32)), .unset] [])) t
                  refine XS.iconst X32.here hx rfl (hb hby at_167) ?_
                  show Steps p.tables e below (T32.setTop (mkF m 168 #[.val (.int p0), .val (.int p1), .val (.int p2), .val (.int p3), .val (.int ((p0 &&& (2147483647 : Int32)) % (6 : Int32))), .val (.long (p1.toInt64)), .second, .val (.long lb), .second, .val (.ref w_GREATER_OR_EQUAL), .val (.int (6 : Int32)), .val (.int (1 : Int32)), .unset] [(.int (1 : Int32))])) t
                  refine XS.goto X32.here hx rfl (pc0 := 168) (pc' := 172) rfl (hb hby at_168) (by decide) (by decide) ?_
                  show Steps p.tables e below (T32.setTop (mkF m 172 #[.val (.int p0), .val (.int p1), .val (.int p2), .val (.int p3), .val (.int ((p0 &&& (2147483647 : Int32)) % (6 : Int32))), .val (.long (p1.toInt64)), .second, .val (.long lb), .second, .val (.ref w_GREATER_OR_EQUAL), .val (.int (6 : Int32)), .val (.int (1 : Int32)), .unset] [(.int (1 : Int32))])) t
                  refine XS.istore X32.here hx rfl (hb hby at_172) rfl (l' := #[.val (.int p0), .val (.int p1), .val (.int p2), .val (.int p3), .val (.int ((p0 &&& (2147483647 : Int32)) % (6 : Int32))), .val (.long (p1.toInt64)), .second, .val (.long lb), .second, .val (.ref w_GREATER_OR_EQUAL), .val (.int (6 : Int32)), .val (.int (1 : Int32)), .val (.int (1 : Int32))]) rfl ?_
                  show Steps p.tables e below (T32.setTop (mkF m 174 #[.val (.int p0), .val (.int p1), .val (.int p2), .val (.int p3), .val (.int ((p0 &&& (2147483647 : Int32)) % (6 : Int32))), .val (.long (p1.toInt64)), .second, .val (.long lb), .second, .val (.ref w_GREATER_OR_EQUAL), .val (.int (6 : Int32)), .val (.int (1 : Int32)), .val (.int (1 : Int32))] [])) t
                  refine XS.aload X32.here hx rfl (hb hby at_174) rfl rfl ?_
                  show Steps p.tables e below (T32.setTop (mkF m 176 #[.val (.int p0), .val (.int p1), .val (.int p2), .val (.int p3), .val (.int ((p0 &&& (2147483647 : Int32)) % (6 : Int32))), .val (.long (p1.toInt64)), .second, .val (.long lb), .second, .val (.ref w_GREATER_OR_EQUAL), .val (.int (6 : Int32)), .val (.int (1 : Int32)), .val (.int (1 : Int32))] [(.ref w_GREATER_OR_EQUAL)])) t
                  refine XS.lload X32.here hx rfl (hb hby at_176) rfl ?_
                  show Steps p.tables e below (T32.setTop (mkF m 178 #[.val (.int p0), .val (.int p1), .val (.int p2), .val (.int p3), .val (.int ((p0 &&& (2147483647 : Int32)) % (6 : Int32))), .val (.long (p1.toInt64)), .second, .val (.long lb), .second, .val (.ref w_GREATER_OR_EQUAL), .val (.int (6 : Int32)), .val (.int (1 : Int32)), .val (.int (1 : Int32))] [(.long (p1.toInt64)), (.ref w_GREATER_OR_EQUAL)])) t
                  refine XS.l2dS X32.here hx rfl (hb hby at_178) rfl rfl ?_
                  show Steps p.tables e below (T32.setTop (mkF m 179 #[.val (.int p0), .val (.int p1), .val (.int p2), .val (.int p3), .val (.int ((p0 &&& (2147483647 : Int32)) % (6 : Int32))), .val (.long (p1.toInt64)), .second, .val (.long lb), .second, .val (.ref w_GREATER_OR_EQUAL), .val (.int (6 : Int32)), .val (.int (1 : Int32)), .val (.int (1 : Int32))] [(.double (FP.l2d (p1.toInt64))), (.ref w_GREATER_OR_EQUAL)])) t
                  refine XS.lload X32.here hx rfl (hb hby at_179) rfl ?_
                  show Steps p.tables e below (T32.setTop (mkF m 181 #[.val (.int p0), .val (.int p1), .val (.int p2), .val (.int p3), .val (.int ((p0 &&& (2147483647 : Int32)) % (6 : Int32))), .val (.long (p1.toInt64)), .second, .val (.long lb), .second, .val (.ref w_GREATER_OR_EQUAL), .val (.int (6 : Int32)), .val (.int (1 : Int32)), .val (.int (1 : Int32))] [(.long lb), (.double (FP.l2d (p1.toInt64))), (.ref w_GREATER_OR_EQUAL)])) t
                  refine XS.l2dS X32.here hx rfl (hb hby at_181) rfl rfl ?_
                  exact k
                obtain ⟨cq37, kq37, qa37, qb37, qc37⟩ := isOf hZ e32 E_w_GREATER_OR_EQUAL
                obtain ⟨_, _, ⟨T37, L37, k37, n37⟩, -, X37, ⟨Lc37, hQ37, l37, y37, z37⟩, st37⟩ := X32.virtualBack hx (y := (⟨"com/example/meshwatch/meshwatch/Relation", "holds", "(DD)Z"⟩ : MethodName)) (z := (⟨"com/example/meshwatch/meshwatch/Relation", "holds", "(DD)Z"⟩ : MethodName)) hown (mvT hZ (hw _ (List.mem_of_getElem? (i := 4) rfl))) (mvT hZ (hw _ (List.mem_of_getElem? (i := 5) rfl))) (notFace_of_selects (args := #[]) (mvT hZ (hw _ (List.mem_of_getElem? (i := 7) rfl)))) (mvT hZ (hw _ (List.mem_of_getElem? (i := 7) rfl))) (mvT hZ (hw _ (List.mem_of_getElem? (i := 6) rfl))) (by decide) (backOf (W := 0) (rmh3 l Z ar hw [] w_GREATER_OR_EQUAL ((FP.l2d (p1.toInt64))) ((FP.l2d lb)) h0 n0 Z0 E_w_GREATER_OR_EQUAL F_ordinal_w_GREATER_OR_EQUAL) hZ (hw _ (List.mem_of_getElem? (i := 8) rfl)) (hw _ (List.mem_of_getElem? (i := 2) rfl)) (by decide) (by decide)) qa37 qc37 (g := (mkF m 182 #[.val (.int p0), .val (.int p1), .val (.int p2), .val (.int p3), .val (.int ((p0 &&& (2147483647 : Int32)) % (6 : Int32))), .val (.long (p1.toInt64)), .second, .val (.long lb), .second, .val (.ref w_GREATER_OR_EQUAL), .val (.int (6 : Int32)), .val (.int (1 : Int32)), .val (.int (1 : Int32))] [(.double (FP.l2d lb)), (.double (FP.l2d (p1.toInt64))), (.ref w_GREATER_OR_EQUAL)])) rfl (by rw [hml]; rfl) (Steps.refl _) (argsL := [(.double (FP.l2d (p1.toInt64))), (.double (FP.l2d lb))]) (rest := []) (lenOf pd0_0 rfl) rfl (by show 2 * 0 + _ ≤ _; exact Nat.le_of_eq rfl) (hb hby at_182) (fun _ _ => ⟨rfl, e32, (by decide : 0 + 0 ≤ _), (by decide : 0 + 0 ≤ _)⟩)
                dsimp only [Pt.U, Pt.locs, Pt.cells, Pt.slots] at X37 l37 y37 z37 st37 hQ37
                subst l37 y37 z37
                obtain ⟨rfl, N37q, e37⟩ := hQ37
                have n38 := Fr.app N0 N37q
                refine own_tr (T' := T37) (g' := (mkF m 185 #[.val (.int p0), .val (.int p1), .val (.int p2), .val (.int p3), .val (.int ((p0 &&& (2147483647 : Int32)) % (6 : Int32))), .val (.long (p1.toInt64)), .second, .val (.long lb), .second, .val (.ref w_GREATER_OR_EQUAL), .val (.int (6 : Int32)), .val (.int (1 : Int32)), .val (.int (1 : Int32))] [(.int (own_h3 (FP.dcmp (FP.l2d (p1.toInt64)) (FP.l2d lb))))])) st37 ?_
                refine own_st (T' := T37) (g' := (mkF m 195 #[.val (.int p0), .val (.int p1), .val (.int p2), .val (.int p3), .val (.int ((p0 &&& (2147483647 : Int32)) % (6 : Int32))), .val (.long (p1.toInt64)), .second, .val (.long lb), .second, .val (.ref w_GREATER_OR_EQUAL), .val (.int (6 : Int32)), .val (.int (1 : Int32)), .val (.int (1 : Int32))] [(.int (1 : Int32))])) (fun t k => ?_) ?_
                · show Steps p.tables e below (T37.setTop (mkF m 185 #[.val (.int p0), .val (.int p1), .val (.int p2), .val (.int p3), .val (.int ((p0 &&& (2147483647 : Int32)) % (6 : Int32))), .val (.long (p1.toInt64)), .second, .val (.long lb), .second, .val (.ref w_GREATER_OR_EQUAL), .val (.int (6 : Int32)), .val (.int (1 : Int32)), .val (.int (1 : Int32))] [(.int (own_h3 (FP.dcmp (FP.l2d (p1.toInt64)) (FP.l2d lb))))])) t
                  refine XS.iload X37.here hx rfl (hb hby at_185) rfl ?_
                  show Steps p.tables e below (T37.setTop (mkF m 187 #[.val (.int p0), .val (.int p1), .val (.int p2), .val (.int p3), .val (.int ((p0 &&& (2147483647 : Int32)) % (6 : Int32))), .val (.long (p1.toInt64)), .second, .val (.long lb), .second, .val (.ref w_GREATER_OR_EQUAL), .val (.int (6 : Int32)), .val (.int (1 : Int32)), .val (.int (1 : Int32))] [(.int (1 : Int32)), (.int (own_h3 (FP.dcmp (FP.l2d (p1.toInt64)) (FP.l2d lb))))])) t
                  refine XS.icmpNo X37.here hx rfl (hb hby at_187) rfl (teq ((congrArg own_h3 (own_eq (own_b2 p1) hlb hc147_36)).trans (by decide) : (own_h3 (FP.dcmp (FP.l2d (p1.toInt64)) (FP.l2d lb))) = (1 : Int32))).2 ?_
                  show Steps p.tables e below (T37.setTop (mkF m 190 #[.val (.int p0), .val (.int p1), .val (.int p2), .val (.int p3), .val (.int ((p0 &&& (2147483647 : Int32)) % (6 : Int32))), .val (.long (p1.toInt64)), .second, .val (.long lb), .second, .val (.ref w_GREATER_OR_EQUAL), .val (.int (6 : Int32)), .val (.int (1 : Int32)), .val (.int (1 : Int32))] [])) t
                  refine XS.iconst X37.here hx rfl (hb hby at_190) ?_
                  show Steps p.tables e below (T37.setTop (mkF m 191 #[.val (.int p0), .val (.int p1), .val (.int p2), .val (.int p3), .val (.int ((p0 &&& (2147483647 : Int32)) % (6 : Int32))), .val (.long (p1.toInt64)), .second, .val (.long lb), .second, .val (.ref w_GREATER_OR_EQUAL), .val (.int (6 : Int32)), .val (.int (1 : Int32)), .val (.int (1 : Int32))] [(.int (1 : Int32))])) t
                  refine XS.goto X37.here hx rfl (pc0 := 191) (pc' := 195) rfl (hb hby at_191) (by decide) (by decide) ?_
                  exact k
                refine own_retZ X37 hx hlk Bd.returns (hb hby at_195) rfl (by decide) (by decide) ?_
                show Q0 Z p0 p1 p2 p3 w_LESS w_LESS_OR_EQUAL w_GREATER w_GREATER_OR_EQUAL w_EQUAL w_NOT_EQUAL h0 n0 (some (.int (1 : Int32))) T37.heap _
                rw [(e37 : T37.heap = h0)]
                exact ⟨rfl, n38⟩
              · refine own_st (T' := T32) (g' := (mkF m 182 #[.val (.int p0), .val (.int p1), .val (.int p2), .val (.int p3), .val (.int ((p0 &&& (2147483647 : Int32)) % (6 : Int32))), .val (.long (p1.toInt64)), .second, .val (.long lb), .second, .val (.ref w_GREATER_OR_EQUAL), .val (.int (6 : Int32)), .val (.int (2 : Int32)), .val (.int (1 : Int32))] [(.double (FP.l2d lb)), (.double (FP.l2d (p1.toInt64))), (.ref w_GREATER_OR_EQUAL)])) (fun t k => ?_) ?_
                · show Steps p.tables e below (T32.setTop (mkF m 147 #[.val (.int p0), .val (.int p1), .val (.int p2), .val (.int p3), .val (.int ((p0 &&& (2147483647 : Int32)) % (6 : Int32))), .val (.long (p1.toInt64)), .second, .val (.long lb), .second, .val (.ref w_GREATER_OR_EQUAL), .val (.int (6 : Int32)), .unset, .unset] [(.int (lcmpW (p1.toInt64) lb))])) t
                  refine XS.ifYes X32.here hx rfl (pc0 := 147) (pc' := 154) rfl (hb hby at_147) rfl ((if0 _ _).trans (feq (fun q => hc147_36 ((lw_eq (p1.toInt64) lb).mp q))).2) (by decide) (by decide) ?_
                  show Steps p.tables e below (T32.setTop (mkF m 154 #[.val (.int p0), .val (.int p1), .val (.int p2), .val (.int p3), .val (.int ((p0 &&& (2147483647 : Int32)) % (6 : Int32))), .val (.long (p1.toInt64)), .second, .val (.long lb), .second, .val (.ref w_GREATER_OR_EQUAL), .val (.int (6 : Int32)), .unset, .unset] [])) t
                  refine XS.iconst X32.here hx rfl (hb hby at_154) ?_
                  show Steps p.tables e below (T32.setTop (mkF m 155 #[.val (.int p0), .val (.int p1), .val (.int p2), .val (.int p3), .val (.int ((p0 &&& (2147483647 : Int32)) % (6 : Int32))), .val (.long (p1.toInt64)), .second, .val (.long lb), .second, .val (.ref w_GREATER_OR_EQUAL), .val (.int (6 : Int32)), .unset, .unset] [(.int (2 : Int32))])) t
                  refine XS.istore X32.here hx rfl (hb hby at_155) rfl (l' := #[.val (.int p0), .val (.int p1), .val (.int p2), .val (.int p3), .val (.int ((p0 &&& (2147483647 : Int32)) % (6 : Int32))), .val (.long (p1.toInt64)), .second, .val (.long lb), .second, .val (.ref w_GREATER_OR_EQUAL), .val (.int (6 : Int32)), .val (.int (2 : Int32)), .unset]) rfl ?_
                  show Steps p.tables e below (T32.setTop (mkF m 157 #[.val (.int p0), .val (.int p1), .val (.int p2), .val (.int p3), .val (.int ((p0 &&& (2147483647 : Int32)) % (6 : Int32))), .val (.long (p1.toInt64)), .second, .val (.long lb), .second, .val (.ref w_GREATER_OR_EQUAL), .val (.int (6 : Int32)), .val (.int (2 : Int32)), .unset] [])) t
                  refine XS.iload X32.here hx rfl (hb hby at_157) rfl ?_
                  show Steps p.tables e below (T32.setTop (mkF m 159 #[.val (.int p0), .val (.int p1), .val (.int p2), .val (.int p3), .val (.int ((p0 &&& (2147483647 : Int32)) % (6 : Int32))), .val (.long (p1.toInt64)), .second, .val (.long lb), .second, .val (.ref w_GREATER_OR_EQUAL), .val (.int (6 : Int32)), .val (.int (2 : Int32)), .unset] [(.int (6 : Int32))])) t
                  refine XS.iload X32.here hx rfl (hb hby at_159) rfl ?_
                  show Steps p.tables e below (T32.setTop (mkF m 161 #[.val (.int p0), .val (.int p1), .val (.int p2), .val (.int p3), .val (.int ((p0 &&& (2147483647 : Int32)) % (6 : Int32))), .val (.long (p1.toInt64)), .second, .val (.long lb), .second, .val (.ref w_GREATER_OR_EQUAL), .val (.int (6 : Int32)), .val (.int (2 : Int32)), .unset] [(.int (2 : Int32)), (.int (6 : Int32))])) t
                  refine XS.ishr X32.here hx rfl (hb hby at_161) rfl ?_
                  show Steps p.tables e below (T32.setTop (mkF m 162 #[.val (.int p0), .val (.int p1), .val (.int p2), .val (.int p3), .val (.int ((p0 &&& (2147483647 : Int32)) % (6 : Int32))), .val (.long (p1.toInt64)), .second, .val (.long lb), .second, .val (.ref w_GREATER_OR_EQUAL), .val (.int (6 : Int32)), .val (.int (2 : Int32)), .unset] [(.int (1 : Int32))])) t
                  refine XS.iconst X32.here hx rfl (hb hby at_162) ?_
                  show Steps p.tables e below (T32.setTop (mkF m 163 #[.val (.int p0), .val (.int p1), .val (.int p2), .val (.int p3), .val (.int ((p0 &&& (2147483647 : Int32)) % (6 : Int32))), .val (.long (p1.toInt64)), .second, .val (.long lb), .second, .val (.ref w_GREATER_OR_EQUAL), .val (.int (6 : Int32)), .val (.int (2 : Int32)), .unset] [(.int (1 : Int32)), (.int (1 : Int32))])) t
                  refine XS.iand X32.here hx rfl (hb hby at_163) rfl ?_
                  show Steps p.tables e below (T32.setTop (mkF m 164 #[.val (.int p0), .val (.int p1), .val (.int p2), .val (.int p3), .val (.int ((p0 &&& (2147483647 : Int32)) % (6 : Int32))), .val (.long (p1.toInt64)), .second, .val (.long lb), .second, .val (.ref w_GREATER_OR_EQUAL), .val (.int (6 : Int32)), .val (.int (2 : Int32)), .unset] [(.int (1 : Int32))])) t
                  refine XS.ifNo X32.here hx rfl (hb hby at_164) rfl (by decide) ?_
                  show Steps p.tables e below (T32.setTop (mkF m 167 #[.val (.int p0), .val (.int p1), .val (.int p2), .val (.int p3), .val (.int ((p0 &&& (2147483647 : Int32)) % (6 : Int32))), .val (.long (p1.toInt64)), .second, .val (.long lb), .second, .val (.ref w_GREATER_OR_EQUAL), .val (.int (6 : Int32)), .val (.int (2 : Int32)), .unset] [])) t
                  refine XS.iconst X32.here hx rfl (hb hby at_167) ?_
                  show Steps p.tables e below (T32.setTop (mkF m 168 #[.val (.int p0), .val (.int p1), .val (.int p2), .val (.int p3), .val (.int ((p0 &&& (2147483647 : Int32)) % (6 : Int32))), .val (.long (p1.toInt64)), .second, .val (.long lb), .second, .val (.ref w_GREATER_OR_EQUAL), .val (.int (6 : Int32)), .val (.int (2 : Int32)), .unset] [(.int (1 : Int32))])) t
                  refine XS.goto X32.here hx rfl (pc0 := 168) (pc' := 172) rfl (hb hby at_168) (by decide) (by decide) ?_
                  show Steps p.tables e below (T32.setTop (mkF m 172 #[.val (.int p0), .val (.int p1), .val (.int p2), .val (.int p3), .val (.int ((p0 &&& (2147483647 : Int32)) % (6 : Int32))), .val (.long (p1.toInt64)), .second, .val (.long lb), .second, .val (.ref w_GREATER_OR_EQUAL), .val (.int (6 : Int32)), .val (.int (2 : Int32)), .unset] [(.int (1 : Int32))])) t
                  refine XS.istore X32.here hx rfl (hb hby at_172) rfl (l' := #[.val (.int p0), .val (.int p1), .val (.int p2), .val (.int p3), .val (.int ((p0 &&& (2147483647 : Int32)) % (6 : Int32))), .val (.long (p1.toInt64)), .second, .val (.long lb), .second, .val (.ref w_GREATER_OR_EQUAL), .val (.int (6 : Int32)), .val (.int (2 : Int32)), .val (.int (1 : Int32))]) rfl ?_
                  show Steps p.tables e below (T32.setTop (mkF m 174 #[.val (.int p0), .val (.int p1), .val (.int p2), .val (.int p3), .val (.int ((p0 &&& (2147483647 : Int32)) % (6 : Int32))), .val (.long (p1.toInt64)), .second, .val (.long lb), .second, .val (.ref w_GREATER_OR_EQUAL), .val (.int (6 : Int32)), .val (.int (2 : Int32)), .val (.int (1 : Int32))] [])) t
                  refine XS.aload X32.here hx rfl (hb hby at_174) rfl rfl ?_
                  show Steps p.tables e below (T32.setTop (mkF m 176 #[.val (.int p0), .val (.int p1), .val (.int p2), .val (.int p3), .val (.int ((p0 &&& (2147483647 : Int32)) % (6 : Int32))), .val (.long (p1.toInt64)), .second, .val (.long lb), .second, .val (.ref w_GREATER_OR_EQUAL), .val (.int (6 : Int32)), .val (.int (2 : Int32)), .val (.int (1 : Int32))] [(.ref w_GREATER_OR_EQUAL)])) t
                  refine XS.lload X32.here hx rfl (hb hby at_176) rfl ?_
                  show Steps p.tables e below (T32.setTop (mkF m 178 #[.val (.int p0), .val (.int p1), .val (.int p2), .val (.int p3), .val (.int ((p0 &&& (2147483647 : Int32)) % (6 : Int32))), .val (.long (p1.toInt64)), .second, .val (.long lb), .second, .val (.ref w_GREATER_OR_EQUAL), .val (.int (6 : Int32)), .val (.int (2 : Int32)), .val (.int (1 : Int32))] [(.long (p1.toInt64)), (.ref w_GREATER_OR_EQUAL)])) t
                  refine XS.l2dS X32.here hx rfl (hb hby at_178) rfl rfl ?_
                  show Steps p.tables e below (T32.setTop (mkF m 179 #[.val (.int p0), .val (.int p1), .val (.int p2), .val (.int p3), .val (.int ((p0 &&& (2147483647 : Int32)) % (6 : Int32))), .val (.long (p1.toInt64)), .second, .val (.long lb), .second, .val (.ref w_GREATER_OR_EQUAL), .val (.int (6 : Int32)), .val (.int (2 : Int32)), .val (.int (1 : Int32))] [(.double (FP.l2d (p1.toInt64))), (.ref w_GREATER_OR_EQUAL)])) t
                  refine XS.lload X32.here hx rfl (hb hby at_179) rfl ?_
                  show Steps p.tables e below (T32.setTop (mkF m 181 #[.val (.int p0), .val (.int p1), .val (.int p2), .val (.int p3), .val (.int ((p0 &&& (2147483647 : Int32)) % (6 : Int32))), .val (.long (p1.toInt64)), .second, .val (.long lb), .second, .val (.ref w_GREATER_OR_EQUAL), .val (.int (6 : Int32)), .val (.int (2 : Int32)), .val (.int (1 : Int32))] [(.long lb), (.double (FP.l2d (p1.toInt64))), (.ref w_GREATER_OR_EQUAL)])) t
                  refine XS.l2dS X32.here hx rfl (hb hby at_181) rfl rfl ?_
                  exact k
                obtain ⟨cq39, kq39, qa39, qb39, qc39⟩ := isOf hZ e32 E_w_GREATER_OR_EQUAL
                obtain ⟨_, _, ⟨T39, L39, k39, n39⟩, -, X39, ⟨Lc39, hQ39, l39, y39, z39⟩, st39⟩ := X32.virtualBack hx (y := (⟨"com/example/meshwatch/meshwatch/Relation", "holds", "(DD)Z"⟩ : MethodName)) (z := (⟨"com/example/meshwatch/meshwatch/Relation", "holds", "(DD)Z"⟩ : MethodName)) hown (mvT hZ (hw _ (List.mem_of_getElem? (i := 4) rfl))) (mvT hZ (hw _ (List.mem_of_getElem? (i := 5) rfl))) (notFace_of_selects (args := #[]) (mvT hZ (hw _ (List.mem_of_getElem? (i := 7) rfl)))) (mvT hZ (hw _ (List.mem_of_getElem? (i := 7) rfl))) (mvT hZ (hw _ (List.mem_of_getElem? (i := 6) rfl))) (by decide) (backOf (W := 0) (rmh3 l Z ar hw [] w_GREATER_OR_EQUAL ((FP.l2d (p1.toInt64))) ((FP.l2d lb)) h0 n0 Z0 E_w_GREATER_OR_EQUAL F_ordinal_w_GREATER_OR_EQUAL) hZ (hw _ (List.mem_of_getElem? (i := 8) rfl)) (hw _ (List.mem_of_getElem? (i := 2) rfl)) (by decide) (by decide)) qa39 qc39 (g := (mkF m 182 #[.val (.int p0), .val (.int p1), .val (.int p2), .val (.int p3), .val (.int ((p0 &&& (2147483647 : Int32)) % (6 : Int32))), .val (.long (p1.toInt64)), .second, .val (.long lb), .second, .val (.ref w_GREATER_OR_EQUAL), .val (.int (6 : Int32)), .val (.int (2 : Int32)), .val (.int (1 : Int32))] [(.double (FP.l2d lb)), (.double (FP.l2d (p1.toInt64))), (.ref w_GREATER_OR_EQUAL)])) rfl (by rw [hml]; rfl) (Steps.refl _) (argsL := [(.double (FP.l2d (p1.toInt64))), (.double (FP.l2d lb))]) (rest := []) (lenOf pd0_0 rfl) rfl (by show 2 * 0 + _ ≤ _; exact Nat.le_of_eq rfl) (hb hby at_182) (fun _ _ => ⟨rfl, e32, (by decide : 0 + 0 ≤ _), (by decide : 0 + 0 ≤ _)⟩)
                dsimp only [Pt.U, Pt.locs, Pt.cells, Pt.slots] at X39 l39 y39 z39 st39 hQ39
                subst l39 y39 z39
                obtain ⟨rfl, N39q, e39⟩ := hQ39
                have n40 := Fr.app N0 N39q
                refine own_tr (T' := T39) (g' := (mkF m 185 #[.val (.int p0), .val (.int p1), .val (.int p2), .val (.int p3), .val (.int ((p0 &&& (2147483647 : Int32)) % (6 : Int32))), .val (.long (p1.toInt64)), .second, .val (.long lb), .second, .val (.ref w_GREATER_OR_EQUAL), .val (.int (6 : Int32)), .val (.int (2 : Int32)), .val (.int (1 : Int32))] [(.int (own_h3 (FP.dcmp (FP.l2d (p1.toInt64)) (FP.l2d lb))))])) st39 ?_
                refine own_st (T' := T39) (g' := (mkF m 195 #[.val (.int p0), .val (.int p1), .val (.int p2), .val (.int p3), .val (.int ((p0 &&& (2147483647 : Int32)) % (6 : Int32))), .val (.long (p1.toInt64)), .second, .val (.long lb), .second, .val (.ref w_GREATER_OR_EQUAL), .val (.int (6 : Int32)), .val (.int (2 : Int32)), .val (.int (1 : Int32))] [(.int (1 : Int32))])) (fun t k => ?_) ?_
                · show Steps p.tables e below (T39.setTop (mkF m 185 #[.val (.int p0), .val (.int p1), .val (.int p2), .val (.int p3), .val (.int ((p0 &&& (2147483647 : Int32)) % (6 : Int32))), .val (.long (p1.toInt64)), .second, .val (.long lb), .second, .val (.ref w_GREATER_OR_EQUAL), .val (.int (6 : Int32)), .val (.int (2 : Int32)), .val (.int (1 : Int32))] [(.int (own_h3 (FP.dcmp (FP.l2d (p1.toInt64)) (FP.l2d lb))))])) t
                  refine XS.iload X39.here hx rfl (hb hby at_185) rfl ?_
                  show Steps p.tables e below (T39.setTop (mkF m 187 #[.val (.int p0), .val (.int p1), .val (.int p2), .val (.int p3), .val (.int ((p0 &&& (2147483647 : Int32)) % (6 : Int32))), .val (.long (p1.toInt64)), .second, .val (.long lb), .second, .val (.ref w_GREATER_OR_EQUAL), .val (.int (6 : Int32)), .val (.int (2 : Int32)), .val (.int (1 : Int32))] [(.int (1 : Int32)), (.int (own_h3 (FP.dcmp (FP.l2d (p1.toInt64)) (FP.l2d lb))))])) t
                  refine XS.icmpNo X39.here hx rfl (hb hby at_187) rfl (teq ((congrArg own_h3 (own_gt (own_b2 p1) hlb hc135_33 hc147_36)).trans (by decide) : (own_h3 (FP.dcmp (FP.l2d (p1.toInt64)) (FP.l2d lb))) = (1 : Int32))).2 ?_
                  show Steps p.tables e below (T39.setTop (mkF m 190 #[.val (.int p0), .val (.int p1), .val (.int p2), .val (.int p3), .val (.int ((p0 &&& (2147483647 : Int32)) % (6 : Int32))), .val (.long (p1.toInt64)), .second, .val (.long lb), .second, .val (.ref w_GREATER_OR_EQUAL), .val (.int (6 : Int32)), .val (.int (2 : Int32)), .val (.int (1 : Int32))] [])) t
                  refine XS.iconst X39.here hx rfl (hb hby at_190) ?_
                  show Steps p.tables e below (T39.setTop (mkF m 191 #[.val (.int p0), .val (.int p1), .val (.int p2), .val (.int p3), .val (.int ((p0 &&& (2147483647 : Int32)) % (6 : Int32))), .val (.long (p1.toInt64)), .second, .val (.long lb), .second, .val (.ref w_GREATER_OR_EQUAL), .val (.int (6 : Int32)), .val (.int (2 : Int32)), .val (.int (1 : Int32))] [(.int (1 : Int32))])) t
                  refine XS.goto X39.here hx rfl (pc0 := 191) (pc' := 195) rfl (hb hby at_191) (by decide) (by decide) ?_
                  exact k
                refine own_retZ X39 hx hlk Bd.returns (hb hby at_195) rfl (by decide) (by decide) ?_
                show Q0 Z p0 p1 p2 p3 w_LESS w_LESS_OR_EQUAL w_GREATER w_GREATER_OR_EQUAL w_EQUAL w_NOT_EQUAL h0 n0 (some (.int (1 : Int32))) T39.heap _
                rw [(e39 : T39.heap = h0)]
                exact ⟨rfl, n40⟩
          · refine own_st (T' := s₁) (g' := (mkF m 108 #[.val (.int p0), .val (.int p1), .val (.int p2), .val (.int p3), .val (.int ((p0 &&& (2147483647 : Int32)) % (6 : Int32))), .val (.long (p1.toInt64)), .second, .val (.long lb), .second, .unset, .unset, .unset, .unset] [(.int (4 : Int32)), (.int ((p0 &&& (2147483647 : Int32)) % (6 : Int32)))])) (fun t k => ?_) ?_
            · show Steps p.tables e below (s₁.setTop (mkF m 90 #[.val (.int p0), .val (.int p1), .val (.int p2), .val (.int p3), .val (.int ((p0 &&& (2147483647 : Int32)) % (6 : Int32))), .val (.long (p1.toInt64)), .second, .val (.long lb), .second, .unset, .unset, .unset, .unset] [(.int (3 : Int32)), (.int ((p0 &&& (2147483647 : Int32)) % (6 : Int32)))])) t
              refine XS.icmpYes X0.here hx rfl (pc0 := 90) (pc' := 105) rfl (hb hby at_90) rfl (feq hc90_31).2 (by decide) (by decide) ?_
              show Steps p.tables e below (s₁.setTop (mkF m 105 #[.val (.int p0), .val (.int p1), .val (.int p2), .val (.int p3), .val (.int ((p0 &&& (2147483647 : Int32)) % (6 : Int32))), .val (.long (p1.toInt64)), .second, .val (.long lb), .second, .unset, .unset, .unset, .unset] [])) t
              refine XS.iload X0.here hx rfl (hb hby at_105) rfl ?_
              show Steps p.tables e below (s₁.setTop (mkF m 107 #[.val (.int p0), .val (.int p1), .val (.int p2), .val (.int p3), .val (.int ((p0 &&& (2147483647 : Int32)) % (6 : Int32))), .val (.long (p1.toInt64)), .second, .val (.long lb), .second, .unset, .unset, .unset, .unset] [(.int ((p0 &&& (2147483647 : Int32)) % (6 : Int32)))])) t
              refine XS.iconst X0.here hx rfl (hb hby at_107) ?_
              exact k
            by_cases hc108_41 : ((p0 &&& (2147483647 : Int32)) % (6 : Int32)) = (4 : Int32)
            · refine own_st (T' := s₁) (g' := (mkF m 111 #[.val (.int p0), .val (.int p1), .val (.int p2), .val (.int p3), .val (.int ((p0 &&& (2147483647 : Int32)) % (6 : Int32))), .val (.long (p1.toInt64)), .second, .val (.long lb), .second, .unset, .unset, .unset, .unset] [])) (fun t k => ?_) ?_
              · show Steps p.tables e below (s₁.setTop (mkF m 108 #[.val (.int p0), .val (.int p1), .val (.int p2), .val (.int p3), .val (.int ((p0 &&& (2147483647 : Int32)) % (6 : Int32))), .val (.long (p1.toInt64)), .second, .val (.long lb), .second, .unset, .unset, .unset, .unset] [(.int (4 : Int32)), (.int ((p0 &&& (2147483647 : Int32)) % (6 : Int32)))])) t
                refine XS.icmpNo X0.here hx rfl (hb hby at_108) rfl (teq hc108_41).2 ?_
                exact k
              obtain ⟨T42, X42, e42, st42⟩ := getS2 X0 hx hZ hown (host := "") (Or.inl (hw _ (List.mem_of_getElem? (i := 20) rfl))) Via.refl e0 S_EQUAL (g := (mkF m 111 #[.val (.int p0), .val (.int p1), .val (.int p2), .val (.int p3), .val (.int ((p0 &&& (2147483647 : Int32)) % (6 : Int32))), .val (.long (p1.toInt64)), .second, .val (.long lb), .second, .unset, .unset, .unset, .unset] [])) rfl (hb hby at_111)
              refine own_st (T' := T42) (g' := (mkF m 114 #[.val (.int p0), .val (.int p1), .val (.int p2), .val (.int p3), .val (.int ((p0 &&& (2147483647 : Int32)) % (6 : Int32))), .val (.long (p1.toInt64)), .second, .val (.long lb), .second, .unset, .unset, .unset, .unset] [(.ref w_EQUAL)])) st42 ?_
              refine own_st (T' := T42) (g' := (mkF m 135 #[.val (.int p0), .val (.int p1), .val (.int p2), .val (.int p3), .val (.int ((p0 &&& (2147483647 : Int32)) % (6 : Int32))), .val (.long (p1.toInt64)), .second, .val (.long lb), .second, .val (.ref w_EQUAL), .val (.int (2 : Int32)), .unset, .unset] [(.int (lcmpW (p1.toInt64) lb))])) (fun t k => ?_) ?_
              · show Steps p.tables e below (T42.setTop (mkF m 114 #[.val (.int p0), .val (.int p1), .val (.int p2), .val (.int p3), .val (.int ((p0 &&& (2147483647 : Int32)) % (6 : Int32))), .val (.long (p1.toInt64)), .second, .val (.long lb), .second, .unset, .unset, .unset, .unset] [(.ref w_EQUAL)])) t
                refine XS.astore X42.here hx rfl (hb hby at_114) rfl rfl (l' := #[.val (.int p0), .val (.int p1), .val (.int p2), .val (.int p3), .val (.int ((p0 &&& (2147483647 : Int32)) % (6 : Int32))), .val (.long (p1.toInt64)), .second, .val (.long lb), .second, .val (.ref w_EQUAL), .unset, .unset, .unset]) rfl ?_
                show Steps p.tables e below (T42.setTop (mkF m 116 #[.val (.int p0), .val (.int p1), .val (.int p2), .val (.int p3), .val (.int ((p0 &&& (2147483647 : Int32)) % (6 : Int32))), .val (.long (p1.toInt64)), .second, .val (.long lb), .second, .val (.ref w_EQUAL), .unset, .unset, .unset] [])) t
                refine XS.iconst X42.here hx rfl (hb hby at_116) ?_
                show Steps p.tables e below (T42.setTop (mkF m 117 #[.val (.int p0), .val (.int p1), .val (.int p2), .val (.int p3), .val (.int ((p0 &&& (2147483647 : Int32)) % (6 : Int32))), .val (.long (p1.toInt64)), .second, .val (.long lb), .second, .val (.ref w_EQUAL), .unset, .unset, .unset] [(.int (2 : Int32))])) t
                refine XS.istore X42.here hx rfl (hb hby at_117) rfl (l' := #[.val (.int p0), .val (.int p1), .val (.int p2), .val (.int p3), .val (.int ((p0 &&& (2147483647 : Int32)) % (6 : Int32))), .val (.long (p1.toInt64)), .second, .val (.long lb), .second, .val (.ref w_EQUAL), .val (.int (2 : Int32)), .unset, .unset]) rfl ?_
                show Steps p.tables e below (T42.setTop (mkF m 119 #[.val (.int p0), .val (.int p1), .val (.int p2), .val (.int p3), .val (.int ((p0 &&& (2147483647 : Int32)) % (6 : Int32))), .val (.long (p1.toInt64)), .second, .val (.long lb), .second, .val (.ref w_EQUAL), .val (.int (2 : Int32)), .unset, .unset] [])) t
                refine XS.goto X42.here hx rfl (pc0 := 119) (pc' := 130) rfl (hb hby at_119) (by decide) (by decide) ?_
                show Steps p.tables e below (T42.setTop (mkF m 130 #[.val (.int p0), .val (.int p1), .val (.int p2), .val (.int p3), .val (.int ((p0 &&& (2147483647 : Int32)) % (6 : Int32))), .val (.long (p1.toInt64)), .second, .val (.long lb), .second, .val (.ref w_EQUAL), .val (.int (2 : Int32)), .unset, .unset] [])) t
                refine XS.lload X42.here hx rfl (hb hby at_130) rfl ?_
                show Steps p.tables e below (T42.setTop (mkF m 132 #[.val (.int p0), .val (.int p1), .val (.int p2), .val (.int p3), .val (.int ((p0 &&& (2147483647 : Int32)) % (6 : Int32))), .val (.long (p1.toInt64)), .second, .val (.long lb), .second, .val (.ref w_EQUAL), .val (.int (2 : Int32)), .unset, .unset] [(.long (p1.toInt64))])) t
                refine XS.lload X42.here hx rfl (hb hby at_132) rfl ?_
                show Steps p.tables e below (T42.setTop (mkF m 134 #[.val (.int p0), .val (.int p1), .val (.int p2), .val (.int p3), .val (.int ((p0 &&& (2147483647 : Int32)) % (6 : Int32))), .val (.long (p1.toInt64)), .second, .val (.long lb), .second, .val (.ref w_EQUAL), .val (.int (2 : Int32)), .unset, .unset] [(.long lb), (.long (p1.toInt64))])) t
                refine XS.lcmp X42.here hx rfl (hb hby at_134) rfl ?_
                exact k
              by_cases hc135_43 : (p1.toInt64) < lb
              · refine own_st (T' := T42) (g' := (mkF m 182 #[.val (.int p0), .val (.int p1), .val (.int p2), .val (.int p3), .val (.int ((p0 &&& (2147483647 : Int32)) % (6 : Int32))), .val (.long (p1.toInt64)), .second, .val (.long lb), .second, .val (.ref w_EQUAL), .val (.int (2 : Int32)), .val (.int (0 : Int32)), .val (.int (0 : Int32))] [(.double (FP.l2d lb)), (.double (FP.l2d (p1.toInt64))), (.ref w_EQUAL)])) (fun t k => ?_) ?_
                · show Steps p.tables e below (T42.setTop (mkF m 135 #[.val (.int p0), .val (.int p1), .val (.int p2), .val (.int p3), .val (.int ((p0 &&& (2147483647 : Int32)) % (6 : Int32))), .val (.long (p1.toInt64)), .second, .val (.long lb), .second, .val (.ref w_EQUAL), .val (.int (2 : Int32)), .unset, .unset] [(.int (lcmpW (p1.toInt64) lb))])) t
                  refine XS.ifNo X42.here hx rfl (hb hby at_135) rfl ((if0 _ _).trans (tlt ((lw_lt (p1.toInt64) lb).mpr hc135_43)).2.1) ?_
                  show Steps p.tables e below (T42.setTop (mkF m 138 #[.val (.int p0), .val (.int p1), .val (.int p2), .val (.int p3), .val (.int ((p0 &&& (2147483647 : Int32)) % (6 : Int32))), .val (.long (p1.toInt64)), .second, .val (.long lb), .second, .val (.ref w_EQUAL), .val (.int (2 : Int32)), .unset, .unset] [])) t
                  refine XS.iconst X42.here hx rfl (hb hby at_138) ?_
                  show Steps p.tables e below (T42.setTop (mkF m 139 #[.val (.int p0), .val (.int p1), .val (.int p2), .val (.int p3), .val (.int ((p0 &&& (2147483647 : Int32)) % (6 : Int32))), .val (.long (p1.toInt64)), .second, .val (.long lb), .second, .val (.ref w_EQUAL), .val (.int (2 : Int32)), .unset, .unset] [(.int (0 : Int32))])) t
                  refine XS.goto X42.here hx rfl (pc0 := 139) (pc' := 155) rfl (hb hby at_139) (by decide) (by decide) ?_
                  show Steps p.tables e below (T42.setTop (mkF m 155 #[.val (.int p0), .val (.int p1), .val (.int p2), .val (.int p3), .val (.int ((p0 &&& (2147483647 : Int32)) % (6 : Int32))), .val (.long (p1.toInt64)), .second, .val (.long lb), .second, .val (.ref w_EQUAL), .val (.int (2 : Int32)), .unset, .unset] [(.int (0 : Int32))])) t
                  refine XS.istore X42.here hx rfl (hb hby at_155) rfl (l' := #[.val (.int p0), .val (.int p1), .val (.int p2), .val (.int p3), .val (.int ((p0 &&& (2147483647 : Int32)) % (6 : Int32))), .val (.long (p1.toInt64)), .second, .val (.long lb), .second, .val (.ref w_EQUAL), .val (.int (2 : Int32)), .val (.int (0 : Int32)), .unset]) rfl ?_
                  show Steps p.tables e below (T42.setTop (mkF m 157 #[.val (.int p0), .val (.int p1), .val (.int p2), .val (.int p3), .val (.int ((p0 &&& (2147483647 : Int32)) % (6 : Int32))), .val (.long (p1.toInt64)), .second, .val (.long lb), .second, .val (.ref w_EQUAL), .val (.int (2 : Int32)), .val (.int (0 : Int32)), .unset] [])) t
                  refine XS.iload X42.here hx rfl (hb hby at_157) rfl ?_
                  show Steps p.tables e below (T42.setTop (mkF m 159 #[.val (.int p0), .val (.int p1), .val (.int p2), .val (.int p3), .val (.int ((p0 &&& (2147483647 : Int32)) % (6 : Int32))), .val (.long (p1.toInt64)), .second, .val (.long lb), .second, .val (.ref w_EQUAL), .val (.int (2 : Int32)), .val (.int (0 : Int32)), .unset] [(.int (2 : Int32))])) t
                  refine XS.iload X42.here hx rfl (hb hby at_159) rfl ?_
                  show Steps p.tables e below (T42.setTop (mkF m 161 #[.val (.int p0), .val (.int p1), .val (.int p2), .val (.int p3), .val (.int ((p0 &&& (2147483647 : Int32)) % (6 : Int32))), .val (.long (p1.toInt64)), .second, .val (.long lb), .second, .val (.ref w_EQUAL), .val (.int (2 : Int32)), .val (.int (0 : Int32)), .unset] [(.int (0 : Int32)), (.int (2 : Int32))])) t
                  refine XS.ishr X42.here hx rfl (hb hby at_161) rfl ?_
                  show Steps p.tables e below (T42.setTop (mkF m 162 #[.val (.int p0), .val (.int p1), .val (.int p2), .val (.int p3), .val (.int ((p0 &&& (2147483647 : Int32)) % (6 : Int32))), .val (.long (p1.toInt64)), .second, .val (.long lb), .second, .val (.ref w_EQUAL), .val (.int (2 : Int32)), .val (.int (0 : Int32)), .unset] [(.int (2 : Int32))])) t
                  refine XS.iconst X42.here hx rfl (hb hby at_162) ?_
                  show Steps p.tables e below (T42.setTop (mkF m 163 #[.val (.int p0), .val (.int p1), .val (.int p2), .val (.int p3), .val (.int ((p0 &&& (2147483647 : Int32)) % (6 : Int32))), .val (.long (p1.toInt64)), .second, .val (.long lb), .second, .val (.ref w_EQUAL), .val (.int (2 : Int32)), .val (.int (0 : Int32)), .unset] [(.int (1 : Int32)), (.int (2 : Int32))])) t
                  refine XS.iand X42.here hx rfl (hb hby at_163) rfl ?_
                  show Steps p.tables e below (T42.setTop (mkF m 164 #[.val (.int p0), .val (.int p1), .val (.int p2), .val (.int p3), .val (.int ((p0 &&& (2147483647 : Int32)) % (6 : Int32))), .val (.long (p1.toInt64)), .second, .val (.long lb), .second, .val (.ref w_EQUAL), .val (.int (2 : Int32)), .val (.int (0 : Int32)), .unset] [(.int (0 : Int32))])) t
                  refine XS.ifYes X42.here hx rfl (pc0 := 164) (pc' := 171) rfl (hb hby at_164) rfl (by decide) (by decide) (by decide) ?_
                  show Steps p.tables e below (T42.setTop (mkF m 171 #[.val (.int p0), .val (.int p1), .val (.int p2), .val (.int p3), .val (.int ((p0 &&& (2147483647 : Int32)) % (6 : Int32))), .val (.long (p1.toInt64)), .second, .val (.long lb), .second, .val (.ref w_EQUAL), .val (.int (2 : Int32)), .val (.int (0 : Int32)), .unset] [])) t
                  refine XS.iconst X42.here hx rfl (hb hby at_171) ?_
                  show Steps p.tables e below (T42.setTop (mkF m 172 #[.val (.int p0), .val (.int p1), .val (.int p2), .val (.int p3), .val (.int ((p0 &&& (2147483647 : Int32)) % (6 : Int32))), .val (.long (p1.toInt64)), .second, .val (.long lb), .second, .val (.ref w_EQUAL), .val (.int (2 : Int32)), .val (.int (0 : Int32)), .unset] [(.int (0 : Int32))])) t
                  refine XS.istore X42.here hx rfl (hb hby at_172) rfl (l' := #[.val (.int p0), .val (.int p1), .val (.int p2), .val (.int p3), .val (.int ((p0 &&& (2147483647 : Int32)) % (6 : Int32))), .val (.long (p1.toInt64)), .second, .val (.long lb), .second, .val (.ref w_EQUAL), .val (.int (2 : Int32)), .val (.int (0 : Int32)), .val (.int (0 : Int32))]) rfl ?_
                  show Steps p.tables e below (T42.setTop (mkF m 174 #[.val (.int p0), .val (.int p1), .val (.int p2), .val (.int p3), .val (.int ((p0 &&& (2147483647 : Int32)) % (6 : Int32))), .val (.long (p1.toInt64)), .second, .val (.long lb), .second, .val (.ref w_EQUAL), .val (.int (2 : Int32)), .val (.int (0 : Int32)), .val (.int (0 : Int32))] [])) t
                  refine XS.aload X42.here hx rfl (hb hby at_174) rfl rfl ?_
                  show Steps p.tables e below (T42.setTop (mkF m 176 #[.val (.int p0), .val (.int p1), .val (.int p2), .val (.int p3), .val (.int ((p0 &&& (2147483647 : Int32)) % (6 : Int32))), .val (.long (p1.toInt64)), .second, .val (.long lb), .second, .val (.ref w_EQUAL), .val (.int (2 : Int32)), .val (.int (0 : Int32)), .val (.int (0 : Int32))] [(.ref w_EQUAL)])) t
                  refine XS.lload X42.here hx rfl (hb hby at_176) rfl ?_
                  show Steps p.tables e below (T42.setTop (mkF m 178 #[.val (.int p0), .val (.int p1), .val (.int p2), .val (.int p3), .val (.int ((p0 &&& (2147483647 : Int32)) % (6 : Int32))), .val (.long (p1.toInt64)), .second, .val (.long lb), .second, .val (.ref w_EQUAL), .val (.int (2 : Int32)), .val (.int (0 : Int32)), .val (.int (0 : Int32))] [(.long (p1.toInt64)), (.ref w_EQUAL)])) t
                  refine XS.l2dS X42.here hx rfl (hb hby at_178) rfl rfl ?_
                  show Steps p.tables e below (T42.setTop (mkF m 179 #[.val (.int p0), .val (.int p1), .val (.int p2), .val (.int p3), .val (.int ((p0 &&& (2147483647 : Int32)) % (6 : Int32))), .val (.long (p1.toInt64)), .second, .val (.long lb), .second, .val (.ref w_EQUAL), .val (.int (2 : Int32)), .val (.int (0 : Int32)), .val (.int (0 : Int32))] [(.double (FP.l2d (p1.toInt64))), (.ref w_EQUAL)])) t
                  refine XS.lload X42.here hx rfl (hb hby at_179) rfl ?_
                  show Steps p.tables e below (T42.setTop (mkF m 181 #[.val (.int p0), .val (.int p1), .val (.int p2), .val (.int p3), .val (.int ((p0 &&& (2147483647 : Int32)) % (6 : Int32))), .val (.long (p1.toInt64)), .second, .val (.long lb), .second, .val (.ref w_EQUAL), .val (.int (2 : Int32)), .val (.int (0 : Int32)), .val (.int (0 : Int32))] [(.long lb), (.double (FP.l2d (p1.toInt64))), (.ref w_EQUAL)])) t
                  refine XS.l2dS X42.here hx rfl (hb hby at_181) rfl rfl ?_
                  exact k
                obtain ⟨cq44, kq44, qa44, qb44, qc44⟩ := isOf hZ e42 E_w_EQUAL
                obtain ⟨_, _, ⟨T44, L44, k44, n44⟩, -, X44, ⟨Lc44, hQ44, l44, y44, z44⟩, st44⟩ := X42.virtualBack hx (y := (⟨"com/example/meshwatch/meshwatch/Relation", "holds", "(DD)Z"⟩ : MethodName)) (z := (⟨"com/example/meshwatch/meshwatch/Relation", "holds", "(DD)Z"⟩ : MethodName)) hown (mvT hZ (hw _ (List.mem_of_getElem? (i := 4) rfl))) (mvT hZ (hw _ (List.mem_of_getElem? (i := 5) rfl))) (notFace_of_selects (args := #[]) (mvT hZ (hw _ (List.mem_of_getElem? (i := 7) rfl)))) (mvT hZ (hw _ (List.mem_of_getElem? (i := 7) rfl))) (mvT hZ (hw _ (List.mem_of_getElem? (i := 6) rfl))) (by decide) (backOf (W := 0) (rmh4 l Z ar hw [] w_EQUAL ((FP.l2d (p1.toInt64))) ((FP.l2d lb)) h0 n0 Z0 E_w_EQUAL F_ordinal_w_EQUAL) hZ (hw _ (List.mem_of_getElem? (i := 8) rfl)) (hw _ (List.mem_of_getElem? (i := 2) rfl)) (by decide) (by decide)) qa44 qc44 (g := (mkF m 182 #[.val (.int p0), .val (.int p1), .val (.int p2), .val (.int p3), .val (.int ((p0 &&& (2147483647 : Int32)) % (6 : Int32))), .val (.long (p1.toInt64)), .second, .val (.long lb), .second, .val (.ref w_EQUAL), .val (.int (2 : Int32)), .val (.int (0 : Int32)), .val (.int (0 : Int32))] [(.double (FP.l2d lb)), (.double (FP.l2d (p1.toInt64))), (.ref w_EQUAL)])) rfl (by rw [hml]; rfl) (Steps.refl _) (argsL := [(.double (FP.l2d (p1.toInt64))), (.double (FP.l2d lb))]) (rest := []) (lenOf pd0_0 rfl) rfl (by show 2 * 0 + _ ≤ _; exact Nat.le_of_eq rfl) (hb hby at_182) (fun _ _ => ⟨rfl, e42, (by decide : 0 + 0 ≤ _), (by decide : 0 + 0 ≤ _)⟩)
                dsimp only [Pt.U, Pt.locs, Pt.cells, Pt.slots] at X44 l44 y44 z44 st44 hQ44
                subst l44 y44 z44
                obtain ⟨rfl, N44q, e44⟩ := hQ44
                have n45 := Fr.app N0 N44q
                refine own_tr (T' := T44) (g' := (mkF m 185 #[.val (.int p0), .val (.int p1), .val (.int p2), .val (.int p3), .val (.int ((p0 &&& (2147483647 : Int32)) % (6 : Int32))), .val (.long (p1.toInt64)), .second, .val (.long lb), .second, .val (.ref w_EQUAL), .val (.int (2 : Int32)), .val (.int (0 : Int32)), .val (.int (0 : Int32))] [(.int (own_h4 (FP.dcmp (FP.l2d (p1.toInt64)) (FP.l2d lb))))])) st44 ?_
                refine own_st (T' := T44) (g' := (mkF m 195 #[.val (.int p0), .val (.int p1), .val (.int p2), .val (.int p3), .val (.int ((p0 &&& (2147483647 : Int32)) % (6 : Int32))), .val (.long (p1.toInt64)), .second, .val (.long lb), .second, .val (.ref w_EQUAL), .val (.int (2 : Int32)), .val (.int (0 : Int32)), .val (.int (0 : Int32))] [(.int (1 : Int32))])) (fun t k => ?_) ?_
                · show Steps p.tables e below (T44.setTop (mkF m 185 #[.val (.int p0), .val (.int p1), .val (.int p2), .val (.int p3), .val (.int ((p0 &&& (2147483647 : Int32)) % (6 : Int32))), .val (.long (p1.toInt64)), .second, .val (.long lb), .second, .val (.ref w_EQUAL), .val (.int (2 : Int32)), .val (.int (0 : Int32)), .val (.int (0 : Int32))] [(.int (own_h4 (FP.dcmp (FP.l2d (p1.toInt64)) (FP.l2d lb))))])) t
                  refine XS.iload X44.here hx rfl (hb hby at_185) rfl ?_
                  show Steps p.tables e below (T44.setTop (mkF m 187 #[.val (.int p0), .val (.int p1), .val (.int p2), .val (.int p3), .val (.int ((p0 &&& (2147483647 : Int32)) % (6 : Int32))), .val (.long (p1.toInt64)), .second, .val (.long lb), .second, .val (.ref w_EQUAL), .val (.int (2 : Int32)), .val (.int (0 : Int32)), .val (.int (0 : Int32))] [(.int (0 : Int32)), (.int (own_h4 (FP.dcmp (FP.l2d (p1.toInt64)) (FP.l2d lb))))])) t
                  refine XS.icmpNo X44.here hx rfl (hb hby at_187) rfl (teq ((congrArg own_h4 (own_lt (own_b2 p1) hlb hc135_43)).trans (by decide) : (own_h4 (FP.dcmp (FP.l2d (p1.toInt64)) (FP.l2d lb))) = (0 : Int32))).2 ?_
                  show Steps p.tables e below (T44.setTop (mkF m 190 #[.val (.int p0), .val (.int p1), .val (.int p2), .val (.int p3), .val (.int ((p0 &&& (2147483647 : Int32)) % (6 : Int32))), .val (.long (p1.toInt64)), .second, .val (.long lb), .second, .val (.ref w_EQUAL), .val (.int (2 : Int32)), .val (.int (0 : Int32)), .val (.int (0 : Int32))] [])) t
                  refine XS.iconst X44.here hx rfl (hb hby at_190) ?_
                  show Steps p.tables e below (T44.setTop (mkF m 191 #[.val (.int p0), .val (.int p1), .val (.int p2), .val (.int p3), .val (.int ((p0 &&& (2147483647 : Int32)) % (6 : Int32))), .val (.long (p1.toInt64)), .second, .val (.long lb), .second, .val (.ref w_EQUAL), .val (.int (2 : Int32)), .val (.int (0 : Int32)), .val (.int (0 : Int32))] [(.int (1 : Int32))])) t
                  refine XS.goto X44.here hx rfl (pc0 := 191) (pc' := 195) rfl (hb hby at_191) (by decide) (by decide) ?_
                  exact k
                refine own_retZ X44 hx hlk Bd.returns (hb hby at_195) rfl (by decide) (by decide) ?_
                show Q0 Z p0 p1 p2 p3 w_LESS w_LESS_OR_EQUAL w_GREATER w_GREATER_OR_EQUAL w_EQUAL w_NOT_EQUAL h0 n0 (some (.int (1 : Int32))) T44.heap _
                rw [(e44 : T44.heap = h0)]
                exact ⟨rfl, n45⟩
              · refine own_st (T' := T42) (g' := (mkF m 147 #[.val (.int p0), .val (.int p1), .val (.int p2), .val (.int p3), .val (.int ((p0 &&& (2147483647 : Int32)) % (6 : Int32))), .val (.long (p1.toInt64)), .second, .val (.long lb), .second, .val (.ref w_EQUAL), .val (.int (2 : Int32)), .unset, .unset] [(.int (lcmpW (p1.toInt64) lb))])) (fun t k => ?_) ?_
                · show Steps p.tables e below (T42.setTop (mkF m 135 #[.val (.int p0), .val (.int p1), .val (.int p2), .val (.int p3), .val (.int ((p0 &&& (2147483647 : Int32)) % (6 : Int32))), .val (.long (p1.toInt64)), .second, .val (.long lb), .second, .val (.ref w_EQUAL), .val (.int (2 : Int32)), .unset, .unset] [(.int (lcmpW (p1.toInt64) lb))])) t
                  refine XS.ifYes X42.here hx rfl (pc0 := 135) (pc' := 142) rfl (hb hby at_135) rfl ((if0 _ _).trans (flt (fun q => hc135_43 ((lw_lt (p1.toInt64) lb).mp q))).2.1) (by decide) (by decide) ?_
                  show Steps p.tables e below (T42.setTop (mkF m 142 #[.val (.int p0), .val (.int p1), .val (.int p2), .val (.int p3), .val (.int ((p0 &&& (2147483647 : Int32)) % (6 : Int32))), .val (.long (p1.toInt64)), .second, .val (.long lb), .second, .val (.ref w_EQUAL), .val (.int (2 : Int32)), .unset, .unset] [])) t
                  refine XS.lload X42.here hx rfl (hb hby at_142) rfl ?_
                  show Steps p.tables e below (T42.setTop (mkF m 144 #[.val (.int p0), .val (.int p1), .val (.int p2), .val (.int p3), .val (.int ((p0 &&& (2147483647 : Int32)) % (6 : Int32))), .val (.long (p1.toInt64)), .second, .val (.long lb), .second, .val (.ref w_EQUAL), .val (.int (2 : Int32)), .unset, .unset] [(.long (p1.toInt64))])) t
                  refine XS.lload X42.here hx rfl (hb hby at_144) rfl ?_
                  show Steps p.tables e below (T42.setTop (mkF m 146 #[.val (.int p0), .val (.int p1), .val (.int p2), .val (.int p3), .val (.int ((p0 &&& (2147483647 : Int32)) % (6 : Int32))), .val (.long (p1.toInt64)), .second, .val (.long lb), .second, .val (.ref w_EQUAL), .val (.int (2 : Int32)), .unset, .unset] [(.long lb), (.long (p1.toInt64))])) t
                  refine XS.lcmp X42.here hx rfl (hb hby at_146) rfl ?_
                  exact k
                by_cases hc147_46 : (p1.toInt64) = lb
                · refine own_st (T' := T42) (g' := (mkF m 182 #[.val (.int p0), .val (.int p1), .val (.int p2), .val (.int p3), .val (.int ((p0 &&& (2147483647 : Int32)) % (6 : Int32))), .val (.long (p1.toInt64)), .second, .val (.long lb), .second, .val (.ref w_EQUAL), .val (.int (2 : Int32)), .val (.int (1 : Int32)), .val (.int (1 : Int32))] [(.double (FP.l2d lb)), (.double (FP.l2d (p1.toInt64))), (.ref w_EQUAL)])) (fun t k => ?_) ?_
                  · show Steps p.tables e below (T42.setTop (mkF m 147 #[.val (.int p0), .val (.int p1), .val (.int p2), .val (.int p3), .val (.int ((p0 &&& (2147483647 : Int32)) % (6 : Int32))), .val (.long (p1.toInt64)), .second, .val (.long lb), .second, .val (.ref w_EQUAL), .val (.int (2 : Int32)), .unset, .unset] [(.int (lcmpW (p1.toInt64) lb))])) t
                    refine XS.ifNo X42.here hx rfl (hb hby at_147) rfl ((if0 _ _).trans (teq ((lw_eq (p1.toInt64) lb).mpr hc147_46)).2) ?_
                    show Steps p.tables e below (T42.setTop (mkF m 150 #[.val (.int p0), .val (.int p1), .val (.int p2), .val (.int p3), .val (.int ((p0 &&& (2147483647 : Int32)) % (6 : Int32))), .val (.long (p1.toInt64)), .second, .val (.long lb), .second, .val (.ref w_EQUAL), .val (.int (2 : Int32)), .unset, .unset] [])) t
                    refine XS.iconst X42.here hx rfl (hb hby at_150) ?_
                    show Steps p.tables e below (T42.setTop (mkF m 151 #[.val (.int p0), .val (.int p1), .val (.int p2), .val (.int p3), .val (.int ((p0 &&& (2147483647 : Int32)) % (6 : Int32))), .val (.long (p1.toInt64)), .second, .val (.long lb), .second, .val (.ref w_EQUAL), .val (.int (2 : Int32)), .unset, .unset] [(.int (1 : Int32))])) t
                    refine XS.goto X42.here hx rfl (pc0 := 151) (pc' := 155) rfl (hb hby at_151) (by decide) (by decide) ?_
                    show Steps p.tables e below (T42.setTop (mkF m 155 #[.val (.int p0), .val (.int p1), .val (.int p2), .val (.int p3), .val (.int ((p0 &&& (2147483647 : Int32)) % (6 : Int32))), .val (.long (p1.toInt64)), .second, .val (.long lb), .second, .val (.ref w_EQUAL), .val (.int (2 : Int32)), .unset, .unset] [(.int (1 : Int32))])) t
                    refine XS.istore X42.here hx rfl (hb hby at_155) rfl (l' := #[.val (.int p0), .val (.int p1), .val (.int p2), .val (.int p3), .val (.int ((p0 &&& (2147483647 : Int32)) % (6 : Int32))), .val (.long (p1.toInt64)), .second, .val (.long lb), .second, .val (.ref w_EQUAL), .val (.int (2 : Int32)), .val (.int (1 : Int32)), .unset]) rfl ?_
                    show Steps p.tables e below (T42.setTop (mkF m 157 #[.val (.int p0), .val (.int p1), .val (.int p2), .val (.int p3), .val (.int ((p0 &&& (2147483647 : Int32)) % (6 : Int32))), .val (.long (p1.toInt64)), .second, .val (.long lb), .second, .val (.ref w_EQUAL), .val (.int (2 : Int32)), .val (.int (1 : Int32)), .unset] [])) t
                    refine XS.iload X42.here hx rfl (hb hby at_157) rfl ?_
                    show Steps p.tables e below (T42.setTop (mkF m 159 #[.val (.int p0), .val (.int p1), .val (.int p2), .val (.int p3), .val (.int ((p0 &&& (2147483647 : Int32)) % (6 : Int32))), .val (.long (p1.toInt64)), .second, .val (.long lb), .second, .val (.ref w_EQUAL), .val (.int (2 : Int32)), .val (.int (1 : Int32)), .unset] [(.int (2 : Int32))])) t
                    refine XS.iload X42.here hx rfl (hb hby at_159) rfl ?_
                    show Steps p.tables e below (T42.setTop (mkF m 161 #[.val (.int p0), .val (.int p1), .val (.int p2), .val (.int p3), .val (.int ((p0 &&& (2147483647 : Int32)) % (6 : Int32))), .val (.long (p1.toInt64)), .second, .val (.long lb), .second, .val (.ref w_EQUAL), .val (.int (2 : Int32)), .val (.int (1 : Int32)), .unset] [(.int (1 : Int32)), (.int (2 : Int32))])) t
                    refine XS.ishr X42.here hx rfl (hb hby at_161) rfl ?_
                    show Steps p.tables e below (T42.setTop (mkF m 162 #[.val (.int p0), .val (.int p1), .val (.int p2), .val (.int p3), .val (.int ((p0 &&& (2147483647 : Int32)) % (6 : Int32))), .val (.long (p1.toInt64)), .second, .val (.long lb), .second, .val (.ref w_EQUAL), .val (.int (2 : Int32)), .val (.int (1 : Int32)), .unset] [(.int (1 : Int32))])) t
                    refine XS.iconst X42.here hx rfl (hb hby at_162) ?_
                    show Steps p.tables e below (T42.setTop (mkF m 163 #[.val (.int p0), .val (.int p1), .val (.int p2), .val (.int p3), .val (.int ((p0 &&& (2147483647 : Int32)) % (6 : Int32))), .val (.long (p1.toInt64)), .second, .val (.long lb), .second, .val (.ref w_EQUAL), .val (.int (2 : Int32)), .val (.int (1 : Int32)), .unset] [(.int (1 : Int32)), (.int (1 : Int32))])) t
                    refine XS.iand X42.here hx rfl (hb hby at_163) rfl ?_
                    show Steps p.tables e below (T42.setTop (mkF m 164 #[.val (.int p0), .val (.int p1), .val (.int p2), .val (.int p3), .val (.int ((p0 &&& (2147483647 : Int32)) % (6 : Int32))), .val (.long (p1.toInt64)), .second, .val (.long lb), .second, .val (.ref w_EQUAL), .val (.int (2 : Int32)), .val (.int (1 : Int32)), .unset] [(.int (1 : Int32))])) t
                    refine XS.ifNo X42.here hx rfl (hb hby at_164) rfl (by decide) ?_
                    show Steps p.tables e below (T42.setTop (mkF m 167 #[.val (.int p0), .val (.int p1), .val (.int p2), .val (.int p3), .val (.int ((p0 &&& (2147483647 : Int32)) % (6 : Int32))), .val (.long (p1.toInt64)), .second, .val (.long lb), .second, .val (.ref w_EQUAL), .val (.int (2 : Int32)), .val (.int (1 : Int32)), .unset] [])) t
                    refine XS.iconst X42.here hx rfl (hb hby at_167) ?_
                    show Steps p.tables e below (T42.setTop (mkF m 168 #[.val (.int p0), .val (.int p1), .val (.int p2), .val (.int p3), .val (.int ((p0 &&& (2147483647 : Int32)) % (6 : Int32))), .val (.long (p1.toInt64)), .second, .val (.long lb), .second, .val (.ref w_EQUAL), .val (.int (2 : Int32)), .val (.int (1 : Int32)), .unset] [(.int (1 : Int32))])) t
                    refine XS.goto X42.here hx rfl (pc0 := 168) (pc' := 172) rfl (hb hby at_168) (by decide) (by decide) ?_
                    show Steps p.tables e below (T42.setTop (mkF m 172 #[.val (.int p0), .val (.int p1), .val (.int p2), .val (.int p3), .val (.int ((p0 &&& (2147483647 : Int32)) % (6 : Int32))), .val (.long (p1.toInt64)), .second, .val (.long lb), .second, .val (.ref w_EQUAL), .val (.int (2 : Int32)), .val (.int (1 : Int32)), .unset] [(.int (1 : Int32))])) t
                    refine XS.istore X42.here hx rfl (hb hby at_172) rfl (l' := #[.val (.int p0), .val (.int p1), .val (.int p2), .val (.int p3), .val (.int ((p0 &&& (2147483647 : Int32)) % (6 : Int32))), .val (.long (p1.toInt64)), .second, .val (.long lb), .second, .val (.ref w_EQUAL), .val (.int (2 : Int32)), .val (.int (1 : Int32)), .val (.int (1 : Int32))]) rfl ?_
                    show Steps p.tables e below (T42.setTop (mkF m 174 #[.val (.int p0), .val (.int p1), .val (.int p2), .val (.int p3), .val (.int ((p0 &&& (2147483647 : Int32)) % (6 : Int32))), .val (.long (p1.toInt64)), .second, .val (.long lb), .second, .val (.ref w_EQUAL), .val (.int (2 : Int32)), .val (.int (1 : Int32)), .val (.int (1 : Int32))] [])) t
                    refine XS.aload X42.here hx rfl (hb hby at_174) rfl rfl ?_
                    show Steps p.tables e below (T42.setTop (mkF m 176 #[.val (.int p0), .val (.int p1), .val (.int p2), .val (.int p3), .val (.int ((p0 &&& (2147483647 : Int32)) % (6 : Int32))), .val (.long (p1.toInt64)), .second, .val (.long lb), .second, .val (.ref w_EQUAL), .val (.int (2 : Int32)), .val (.int (1 : Int32)), .val (.int (1 : Int32))] [(.ref w_EQUAL)])) t
                    refine XS.lload X42.here hx rfl (hb hby at_176) rfl ?_
                    show Steps p.tables e below (T42.setTop (mkF m 178 #[.val (.int p0), .val (.int p1), .val (.int p2), .val (.int p3), .val (.int ((p0 &&& (2147483647 : Int32)) % (6 : Int32))), .val (.long (p1.toInt64)), .second, .val (.long lb), .second, .val (.ref w_EQUAL), .val (.int (2 : Int32)), .val (.int (1 : Int32)), .val (.int (1 : Int32))] [(.long (p1.toInt64)), (.ref w_EQUAL)])) t
                    refine XS.l2dS X42.here hx rfl (hb hby at_178) rfl rfl ?_
                    show Steps p.tables e below (T42.setTop (mkF m 179 #[.val (.int p0), .val (.int p1), .val (.int p2), .val (.int p3), .val (.int ((p0 &&& (2147483647 : Int32)) % (6 : Int32))), .val (.long (p1.toInt64)), .second, .val (.long lb), .second, .val (.ref w_EQUAL), .val (.int (2 : Int32)), .val (.int (1 : Int32)), .val (.int (1 : Int32))] [(.double (FP.l2d (p1.toInt64))), (.ref w_EQUAL)])) t
                    refine XS.lload X42.here hx rfl (hb hby at_179) rfl ?_
                    show Steps p.tables e below (T42.setTop (mkF m 181 #[.val (.int p0), .val (.int p1), .val (.int p2), .val (.int p3), .val (.int ((p0 &&& (2147483647 : Int32)) % (6 : Int32))), .val (.long (p1.toInt64)), .second, .val (.long lb), .second, .val (.ref w_EQUAL), .val (.int (2 : Int32)), .val (.int (1 : Int32)), .val (.int (1 : Int32))] [(.long lb), (.double (FP.l2d (p1.toInt64))), (.ref w_EQUAL)])) t
                    refine XS.l2dS X42.here hx rfl (hb hby at_181) rfl rfl ?_
                    exact k
                  obtain ⟨cq47, kq47, qa47, qb47, qc47⟩ := isOf hZ e42 E_w_EQUAL
                  obtain ⟨_, _, ⟨T47, L47, k47, n47⟩, -, X47, ⟨Lc47, hQ47, l47, y47, z47⟩, st47⟩ := X42.virtualBack hx (y := (⟨"com/example/meshwatch/meshwatch/Relation", "holds", "(DD)Z"⟩ : MethodName)) (z := (⟨"com/example/meshwatch/meshwatch/Relation", "holds", "(DD)Z"⟩ : MethodName)) hown (mvT hZ (hw _ (List.mem_of_getElem? (i := 4) rfl))) (mvT hZ (hw _ (List.mem_of_getElem? (i := 5) rfl))) (notFace_of_selects (args := #[]) (mvT hZ (hw _ (List.mem_of_getElem? (i := 7) rfl)))) (mvT hZ (hw _ (List.mem_of_getElem? (i := 7) rfl))) (mvT hZ (hw _ (List.mem_of_getElem? (i := 6) rfl))) (by decide) (backOf (W := 0) (rmh4 l Z ar hw [] w_EQUAL ((FP.l2d (p1.toInt64))) ((FP.l2d lb)) h0 n0 Z0 E_w_EQUAL F_ordinal_w_EQUAL) hZ (hw _ (List.mem_of_getElem? (i := 8) rfl)) (hw _ (List.mem_of_getElem? (i := 2) rfl)) (by decide) (by decide)) qa47 qc47 (g := (mkF m 182 #[.val (.int p0), .val (.int p1), .val (.int p2), .val (.int p3), .val (.int ((p0 &&& (2147483647 : Int32)) % (6 : Int32))), .val (.long (p1.toInt64)), .second, .val (.long lb), .second, .val (.ref w_EQUAL), .val (.int (2 : Int32)), .val (.int (1 : Int32)), .val (.int (1 : Int32))] [(.double (FP.l2d lb)), (.double (FP.l2d (p1.toInt64))), (.ref w_EQUAL)])) rfl (by rw [hml]; rfl) (Steps.refl _) (argsL := [(.double (FP.l2d (p1.toInt64))), (.double (FP.l2d lb))]) (rest := []) (lenOf pd0_0 rfl) rfl (by show 2 * 0 + _ ≤ _; exact Nat.le_of_eq rfl) (hb hby at_182) (fun _ _ => ⟨rfl, e42, (by decide : 0 + 0 ≤ _), (by decide : 0 + 0 ≤ _)⟩)
                  dsimp only [Pt.U, Pt.locs, Pt.cells, Pt.slots] at X47 l47 y47 z47 st47 hQ47
                  subst l47 y47 z47
                  obtain ⟨rfl, N47q, e47⟩ := hQ47
                  have n48 := Fr.app N0 N47q
                  refine own_tr (T' := T47) (g' := (mkF m 185 #[.val (.int p0), .val (.int p1), .val (.int p2), .val (.int p3), .val (.int ((p0 &&& (2147483647 : Int32)) % (6 : Int32))), .val (.long (p1.toInt64)), .second, .val (.long lb), .second, .val (.ref w_EQUAL), .val (.int (2 : Int32)), .val (.int (1 : Int32)), .val (.int (1 : Int32))] [(.int (own_h4 (FP.dcmp (FP.l2d (p1.toInt64)) (FP.l2d lb))))])) st47 ?_
                  refine own_st (T' := T47) (g' := (mkF m 195 #[.val (.int p0), .val (.int p1), .val (.int p2), .val (.int p3), .val (.int ((p0 &&& (2147483647 : Int32)) % (6 : Int32))), .val (.long (p1.toInt64)), .second, .val (.long lb), .second, .val (.ref w_EQUAL), .val (.int (2 : Int32)), .val (.int (1 : Int32)), .val (.int (1 : Int32))] [(.int (1 : Int32))])) (fun t k => ?_) ?_
                  · show Steps p.tables e below (T47.setTop (mkF m 185 #[.val (.int p0), .val (.int p1), .val (.int p2), .val (.int p3), .val (.int ((p0 &&& (2147483647 : Int32)) % (6 : Int32))), .val (.long (p1.toInt64)), .second, .val (.long lb), .second, .val (.ref w_EQUAL), .val (.int (2 : Int32)), .val (.int (1 : Int32)), .val (.int (1 : Int32))] [(.int (own_h4 (FP.dcmp (FP.l2d (p1.toInt64)) (FP.l2d lb))))])) t
                    refine XS.iload X47.here hx rfl (hb hby at_185) rfl ?_
                    show Steps p.tables e below (T47.setTop (mkF m 187 #[.val (.int p0), .val (.int p1), .val (.int p2), .val (.int p3), .val (.int ((p0 &&& (2147483647 : Int32)) % (6 : Int32))), .val (.long (p1.toInt64)), .second, .val (.long lb), .second, .val (.ref w_EQUAL), .val (.int (2 : Int32)), .val (.int (1 : Int32)), .val (.int (1 : Int32))] [(.int (1 : Int32)), (.int (own_h4 (FP.dcmp (FP.l2d (p1.toInt64)) (FP.l2d lb))))])) t
                    refine XS.icmpNo X47.here hx rfl (hb hby at_187) rfl (teq ((congrArg own_h4 (own_eq (own_b2 p1) hlb hc147_46)).trans (by decide) : (own_h4 (FP.dcmp (FP.l2d (p1.toInt64)) (FP.l2d lb))) = (1 : Int32))).2 ?_
                    show Steps p.tables e below (T47.setTop (mkF m 190 #[.val (.int p0), .val (.int p1), .val (.int p2), .val (.int p3), .val (.int ((p0 &&& (2147483647 : Int32)) % (6 : Int32))), .val (.long (p1.toInt64)), .second, .val (.long lb), .second, .val (.ref w_EQUAL), .val (.int (2 : Int32)), .val (.int (1 : Int32)), .val (.int (1 : Int32))] [])) t
                    refine XS.iconst X47.here hx rfl (hb hby at_190) ?_
                    show Steps p.tables e below (T47.setTop (mkF m 191 #[.val (.int p0), .val (.int p1), .val (.int p2), .val (.int p3), .val (.int ((p0 &&& (2147483647 : Int32)) % (6 : Int32))), .val (.long (p1.toInt64)), .second, .val (.long lb), .second, .val (.ref w_EQUAL), .val (.int (2 : Int32)), .val (.int (1 : Int32)), .val (.int (1 : Int32))] [(.int (1 : Int32))])) t
                    refine XS.goto X47.here hx rfl (pc0 := 191) (pc' := 195) rfl (hb hby at_191) (by decide) (by decide) ?_
                    exact k
                  refine own_retZ X47 hx hlk Bd.returns (hb hby at_195) rfl (by decide) (by decide) ?_
                  show Q0 Z p0 p1 p2 p3 w_LESS w_LESS_OR_EQUAL w_GREATER w_GREATER_OR_EQUAL w_EQUAL w_NOT_EQUAL h0 n0 (some (.int (1 : Int32))) T47.heap _
                  rw [(e47 : T47.heap = h0)]
                  exact ⟨rfl, n48⟩
                · refine own_st (T' := T42) (g' := (mkF m 182 #[.val (.int p0), .val (.int p1), .val (.int p2), .val (.int p3), .val (.int ((p0 &&& (2147483647 : Int32)) % (6 : Int32))), .val (.long (p1.toInt64)), .second, .val (.long lb), .second, .val (.ref w_EQUAL), .val (.int (2 : Int32)), .val (.int (2 : Int32)), .val (.int (0 : Int32))] [(.double (FP.l2d lb)), (.double (FP.l2d (p1.toInt64))), (.ref w_EQUAL)])) (fun t k => ?_) ?_
                  · show Steps p.tables e below (T42.setTop (mkF m 147 #[.val (.int p0), .val (.int p1), .val (.int p2), .val (.int p3), .val (.int ((p0 &&& (2147483647 : Int32)) % (6 : Int32))), .val (.long (p1.toInt64)), .second, .val (.long lb), .second, .val (.ref w_EQUAL), .val (.int (2 : Int32)), .unset, .unset] [(.int (lcmpW (p1.toInt64) lb))])) t
                    refine XS.ifYes X42.here hx rfl (pc0 := 147) (pc' := 154) rfl (hb hby at_147) rfl ((if0 _ _).trans (feq (fun q => hc147_46 ((lw_eq (p1.toInt64) lb).mp q))).2) (by decide) (by decide) ?_
                    show Steps p.tables e below (T42.setTop (mkF m 154 #[.val (.int p0), .val (.int p1), .val (.int p2), .val (.int p3), .val (.int ((p0 &&& (2147483647 : Int32)) % (6 : Int32))), .val (.long (p1.toInt64)), .second, .val (.long lb), .second, .val (.ref w_EQUAL), .val (.int (2 : Int32)), .unset, .unset] [])) t
                    refine XS.iconst X42.here hx rfl (hb hby at_154) ?_
                    show Steps p.tables e below (T42.setTop (mkF m 155 #[.val (.int p0), .val (.int p1), .val (.int p2), .val (.int p3), .val (.int ((p0 &&& (2147483647 : Int32)) % (6 : Int32))), .val (.long (p1.toInt64)), .second, .val (.long lb), .second, .val (.ref w_EQUAL), .val (.int (2 : Int32)), .unset, .unset] [(.int (2 : Int32))])) t
                    refine XS.istore X42.here hx rfl (hb hby at_155) rfl (l' := #[.val (.int p0), .val (.int p1), .val (.int p2), .val (.int p3), .val (.int ((p0 &&& (2147483647 : Int32)) % (6 : Int32))), .val (.long (p1.toInt64)), .second, .val (.long lb), .second, .val (.ref w_EQUAL), .val (.int (2 : Int32)), .val (.int (2 : Int32)), .unset]) rfl ?_
                    show Steps p.tables e below (T42.setTop (mkF m 157 #[.val (.int p0), .val (.int p1), .val (.int p2), .val (.int p3), .val (.int ((p0 &&& (2147483647 : Int32)) % (6 : Int32))), .val (.long (p1.toInt64)), .second, .val (.long lb), .second, .val (.ref w_EQUAL), .val (.int (2 : Int32)), .val (.int (2 : Int32)), .unset] [])) t
                    refine XS.iload X42.here hx rfl (hb hby at_157) rfl ?_
                    show Steps p.tables e below (T42.setTop (mkF m 159 #[.val (.int p0), .val (.int p1), .val (.int p2), .val (.int p3), .val (.int ((p0 &&& (2147483647 : Int32)) % (6 : Int32))), .val (.long (p1.toInt64)), .second, .val (.long lb), .second, .val (.ref w_EQUAL), .val (.int (2 : Int32)), .val (.int (2 : Int32)), .unset] [(.int (2 : Int32))])) t
                    refine XS.iload X42.here hx rfl (hb hby at_159) rfl ?_
                    show Steps p.tables e below (T42.setTop (mkF m 161 #[.val (.int p0), .val (.int p1), .val (.int p2), .val (.int p3), .val (.int ((p0 &&& (2147483647 : Int32)) % (6 : Int32))), .val (.long (p1.toInt64)), .second, .val (.long lb), .second, .val (.ref w_EQUAL), .val (.int (2 : Int32)), .val (.int (2 : Int32)), .unset] [(.int (2 : Int32)), (.int (2 : Int32))])) t
                    refine XS.ishr X42.here hx rfl (hb hby at_161) rfl ?_
                    show Steps p.tables e below (T42.setTop (mkF m 162 #[.val (.int p0), .val (.int p1), .val (.int p2), .val (.int p3), .val (.int ((p0 &&& (2147483647 : Int32)) % (6 : Int32))), .val (.long (p1.toInt64)), .second, .val (.long lb), .second, .val (.ref w_EQUAL), .val (.int (2 : Int32)), .val (.int (2 : Int32)), .unset] [(.int (0 : Int32))])) t
                    refine XS.iconst X42.here hx rfl (hb hby at_162) ?_
                    show Steps p.tables e below (T42.setTop (mkF m 163 #[.val (.int p0), .val (.int p1), .val (.int p2), .val (.int p3), .val (.int ((p0 &&& (2147483647 : Int32)) % (6 : Int32))), .val (.long (p1.toInt64)), .second, .val (.long lb), .second, .val (.ref w_EQUAL), .val (.int (2 : Int32)), .val (.int (2 : Int32)), .unset] [(.int (1 : Int32)), (.int (0 : Int32))])) t
                    refine XS.iand X42.here hx rfl (hb hby at_163) rfl ?_
                    show Steps p.tables e below (T42.setTop (mkF m 164 #[.val (.int p0), .val (.int p1), .val (.int p2), .val (.int p3), .val (.int ((p0 &&& (2147483647 : Int32)) % (6 : Int32))), .val (.long (p1.toInt64)), .second, .val (.long lb), .second, .val (.ref w_EQUAL), .val (.int (2 : Int32)), .val (.int (2 : Int32)), .unset] [(.int (0 : Int32))])) t
                    refine XS.ifYes X42.here hx rfl (pc0 := 164) (pc' := 171) rfl (hb hby at_164) rfl (by decide) (by decide) (by decide) ?_
                    show Steps p.tables e below (T42.setTop (mkF m 171 #[.val (.int p0), .val (.int p1), .val (.int p2), .val (.int p3), .val (.int ((p0 &&& (2147483647 : Int32)) % (6 : Int32))), .val (.long (p1.toInt64)), .second, .val (.long lb), .second, .val (.ref w_EQUAL), .val (.int (2 : Int32)), .val (.int (2 : Int32)), .unset] [])) t
                    refine XS.iconst X42.here hx rfl (hb hby at_171) ?_
                    show Steps p.tables e below (T42.setTop (mkF m 172 #[.val (.int p0), .val (.int p1), .val (.int p2), .val (.int p3), .val (.int ((p0 &&& (2147483647 : Int32)) % (6 : Int32))), .val (.long (p1.toInt64)), .second, .val (.long lb), .second, .val (.ref w_EQUAL), .val (.int (2 : Int32)), .val (.int (2 : Int32)), .unset] [(.int (0 : Int32))])) t
                    refine XS.istore X42.here hx rfl (hb hby at_172) rfl (l' := #[.val (.int p0), .val (.int p1), .val (.int p2), .val (.int p3), .val (.int ((p0 &&& (2147483647 : Int32)) % (6 : Int32))), .val (.long (p1.toInt64)), .second, .val (.long lb), .second, .val (.ref w_EQUAL), .val (.int (2 : Int32)), .val (.int (2 : Int32)), .val (.int (0 : Int32))]) rfl ?_
                    show Steps p.tables e below (T42.setTop (mkF m 174 #[.val (.int p0), .val (.int p1), .val (.int p2), .val (.int p3), .val (.int ((p0 &&& (2147483647 : Int32)) % (6 : Int32))), .val (.long (p1.toInt64)), .second, .val (.long lb), .second, .val (.ref w_EQUAL), .val (.int (2 : Int32)), .val (.int (2 : Int32)), .val (.int (0 : Int32))] [])) t
                    refine XS.aload X42.here hx rfl (hb hby at_174) rfl rfl ?_
                    show Steps p.tables e below (T42.setTop (mkF m 176 #[.val (.int p0), .val (.int p1), .val (.int p2), .val (.int p3), .val (.int ((p0 &&& (2147483647 : Int32)) % (6 : Int32))), .val (.long (p1.toInt64)), .second, .val (.long lb), .second, .val (.ref w_EQUAL), .val (.int (2 : Int32)), .val (.int (2 : Int32)), .val (.int (0 : Int32))] [(.ref w_EQUAL)])) t
                    refine XS.lload X42.here hx rfl (hb hby at_176) rfl ?_
                    show Steps p.tables e below (T42.setTop (mkF m 178 #[.val (.int p0), .val (.int p1), .val (.int p2), .val (.int p3), .val (.int ((p0 &&& (2147483647 : Int32)) % (6 : Int32))), .val (.long (p1.toInt64)), .second, .val (.long lb), .second, .val (.ref w_EQUAL), .val (.int (2 : Int32)), .val (.int (2 : Int32)), .val (.int (0 : Int32))] [(.long (p1.toInt64)), (.ref w_EQUAL)])) t
                    refine XS.l2dS X42.here hx rfl (hb hby at_178) rfl rfl ?_
                    show Steps p.tables e below (T42.setTop (mkF m 179 #[.val (.int p0), .val (.int p1), .val (.int p2), .val (.int p3), .val (.int ((p0 &&& (2147483647 : Int32)) % (6 : Int32))), .val (.long (p1.toInt64)), .second, .val (.long lb), .second, .val (.ref w_EQUAL), .val (.int (2 : Int32)), .val (.int (2 : Int32)), .val (.int (0 : Int32))] [(.double (FP.l2d (p1.toInt64))), (.ref w_EQUAL)])) t
                    refine XS.lload X42.here hx rfl (hb hby at_179) rfl ?_
                    show Steps p.tables e below (T42.setTop (mkF m 181 #[.val (.int p0), .val (.int p1), .val (.int p2), .val (.int p3), .val (.int ((p0 &&& (2147483647 : Int32)) % (6 : Int32))), .val (.long (p1.toInt64)), .second, .val (.long lb), .second, .val (.ref w_EQUAL), .val (.int (2 : Int32)), .val (.int (2 : Int32)), .val (.int (0 : Int32))] [(.long lb), (.double (FP.l2d (p1.toInt64))), (.ref w_EQUAL)])) t
                    refine XS.l2dS X42.here hx rfl (hb hby at_181) rfl rfl ?_
                    exact k
                  obtain ⟨cq49, kq49, qa49, qb49, qc49⟩ := isOf hZ e42 E_w_EQUAL
                  obtain ⟨_, _, ⟨T49, L49, k49, n49⟩, -, X49, ⟨Lc49, hQ49, l49, y49, z49⟩, st49⟩ := X42.virtualBack hx (y := (⟨"com/example/meshwatch/meshwatch/Relation", "holds", "(DD)Z"⟩ : MethodName)) (z := (⟨"com/example/meshwatch/meshwatch/Relation", "holds", "(DD)Z"⟩ : MethodName)) hown (mvT hZ (hw _ (List.mem_of_getElem? (i := 4) rfl))) (mvT hZ (hw _ (List.mem_of_getElem? (i := 5) rfl))) (notFace_of_selects (args := #[]) (mvT hZ (hw _ (List.mem_of_getElem? (i := 7) rfl)))) (mvT hZ (hw _ (List.mem_of_getElem? (i := 7) rfl))) (mvT hZ (hw _ (List.mem_of_getElem? (i := 6) rfl))) (by decide) (backOf (W := 0) (rmh4 l Z ar hw [] w_EQUAL ((FP.l2d (p1.toInt64))) ((FP.l2d lb)) h0 n0 Z0 E_w_EQUAL F_ordinal_w_EQUAL) hZ (hw _ (List.mem_of_getElem? (i := 8) rfl)) (hw _ (List.mem_of_getElem? (i := 2) rfl)) (by decide) (by decide)) qa49 qc49 (g := (mkF m 182 #[.val (.int p0), .val (.int p1), .val (.int p2), .val (.int p3), .val (.int ((p0 &&& (2147483647 : Int32)) % (6 : Int32))), .val (.long (p1.toInt64)), .second, .val (.long lb), .second, .val (.ref w_EQUAL), .val (.int (2 : Int32)), .val (.int (2 : Int32)), .val (.int (0 : Int32))] [(.double (FP.l2d lb)), (.double (FP.l2d (p1.toInt64))), (.ref w_EQUAL)])) rfl (by rw [hml]; rfl) (Steps.refl _) (argsL := [(.double (FP.l2d (p1.toInt64))), (.double (FP.l2d lb))]) (rest := []) (lenOf pd0_0 rfl) rfl (by show 2 * 0 + _ ≤ _; exact Nat.le_of_eq rfl) (hb hby at_182) (fun _ _ => ⟨rfl, e42, (by decide : 0 + 0 ≤ _), (by decide : 0 + 0 ≤ _)⟩)
                  dsimp only [Pt.U, Pt.locs, Pt.cells, Pt.slots] at X49 l49 y49 z49 st49 hQ49
                  subst l49 y49 z49
                  obtain ⟨rfl, N49q, e49⟩ := hQ49
                  have n50 := Fr.app N0 N49q
                  refine own_tr (T' := T49) (g' := (mkF m 185 #[.val (.int p0), .val (.int p1), .val (.int p2), .val (.int p3), .val (.int ((p0 &&& (2147483647 : Int32)) % (6 : Int32))), .val (.long (p1.toInt64)), .second, .val (.long lb), .second, .val (.ref w_EQUAL), .val (.int (2 : Int32)), .val (.int (2 : Int32)), .val (.int (0 : Int32))] [(.int (own_h4 (FP.dcmp (FP.l2d (p1.toInt64)) (FP.l2d lb))))])) st49 ?_
                  refine own_st (T' := T49) (g' := (mkF m 195 #[.val (.int p0), .val (.int p1), .val (.int p2), .val (.int p3), .val (.int ((p0 &&& (2147483647 : Int32)) % (6 : Int32))), .val (.long (p1.toInt64)), .second, .val (.long lb), .second, .val (.ref w_EQUAL), .val (.int (2 : Int32)), .val (.int (2 : Int32)), .val (.int (0 : Int32))] [(.int (1 : Int32))])) (fun t k => ?_) ?_
                  · show Steps p.tables e below (T49.setTop (mkF m 185 #[.val (.int p0), .val (.int p1), .val (.int p2), .val (.int p3), .val (.int ((p0 &&& (2147483647 : Int32)) % (6 : Int32))), .val (.long (p1.toInt64)), .second, .val (.long lb), .second, .val (.ref w_EQUAL), .val (.int (2 : Int32)), .val (.int (2 : Int32)), .val (.int (0 : Int32))] [(.int (own_h4 (FP.dcmp (FP.l2d (p1.toInt64)) (FP.l2d lb))))])) t
                    refine XS.iload X49.here hx rfl (hb hby at_185) rfl ?_
                    show Steps p.tables e below (T49.setTop (mkF m 187 #[.val (.int p0), .val (.int p1), .val (.int p2), .val (.int p3), .val (.int ((p0 &&& (2147483647 : Int32)) % (6 : Int32))), .val (.long (p1.toInt64)), .second, .val (.long lb), .second, .val (.ref w_EQUAL), .val (.int (2 : Int32)), .val (.int (2 : Int32)), .val (.int (0 : Int32))] [(.int (0 : Int32)), (.int (own_h4 (FP.dcmp (FP.l2d (p1.toInt64)) (FP.l2d lb))))])) t
                    refine XS.icmpNo X49.here hx rfl (hb hby at_187) rfl (teq ((congrArg own_h4 (own_gt (own_b2 p1) hlb hc135_43 hc147_46)).trans (by decide) : (own_h4 (FP.dcmp (FP.l2d (p1.toInt64)) (FP.l2d lb))) = (0 : Int32))).2 ?_
                    show Steps p.tables e below (T49.setTop (mkF m 190 #[.val (.int p0), .val (.int p1), .val (.int p2), .val (.int p3), .val (.int ((p0 &&& (2147483647 : Int32)) % (6 : Int32))), .val (.long (p1.toInt64)), .second, .val (.long lb), .second, .val (.ref w_EQUAL), .val (.int (2 : Int32)), .val (.int (2 : Int32)), .val (.int (0 : Int32))] [])) t
                    refine XS.iconst X49.here hx rfl (hb hby at_190) ?_
                    show Steps p.tables e below (T49.setTop (mkF m 191 #[.val (.int p0), .val (.int p1), .val (.int p2), .val (.int p3), .val (.int ((p0 &&& (2147483647 : Int32)) % (6 : Int32))), .val (.long (p1.toInt64)), .second, .val (.long lb), .second, .val (.ref w_EQUAL), .val (.int (2 : Int32)), .val (.int (2 : Int32)), .val (.int (0 : Int32))] [(.int (1 : Int32))])) t
                    refine XS.goto X49.here hx rfl (pc0 := 191) (pc' := 195) rfl (hb hby at_191) (by decide) (by decide) ?_
                    exact k
                  refine own_retZ X49 hx hlk Bd.returns (hb hby at_195) rfl (by decide) (by decide) ?_
                  show Q0 Z p0 p1 p2 p3 w_LESS w_LESS_OR_EQUAL w_GREATER w_GREATER_OR_EQUAL w_EQUAL w_NOT_EQUAL h0 n0 (some (.int (1 : Int32))) T49.heap _
                  rw [(e49 : T49.heap = h0)]
                  exact ⟨rfl, n50⟩
            · refine own_st (T' := s₁) (g' := (mkF m 122 #[.val (.int p0), .val (.int p1), .val (.int p2), .val (.int p3), .val (.int ((p0 &&& (2147483647 : Int32)) % (6 : Int32))), .val (.long (p1.toInt64)), .second, .val (.long lb), .second, .unset, .unset, .unset, .unset] [])) (fun t k => ?_) ?_
              · show Steps p.tables e below (s₁.setTop (mkF m 108 #[.val (.int p0), .val (.int p1), .val (.int p2), .val (.int p3), .val (.int ((p0 &&& (2147483647 : Int32)) % (6 : Int32))), .val (.long (p1.toInt64)), .second, .val (.long lb), .second, .unset, .unset, .unset, .unset] [(.int (4 : Int32)), (.int ((p0 &&& (2147483647 : Int32)) % (6 : Int32)))])) t
                refine XS.icmpYes X0.here hx rfl (pc0 := 108) (pc' := 122) rfl (hb hby at_108) rfl (feq hc108_41).2 (by decide) (by decide) ?_
                exact k
              obtain ⟨T51, X51, e51, st51⟩ := getS2 X0 hx hZ hown (host := "") (Or.inl (hw _ (List.mem_of_getElem? (i := 24) rfl))) Via.refl e0 S_NOT_EQUAL (g := (mkF m 122 #[.val (.int p0), .val (.int p1), .val (.int p2), .val (.int p3), .val (.int ((p0 &&& (2147483647 : Int32)) % (6 : Int32))), .val (.long (p1.toInt64)), .second, .val (.long lb), .second, .unset, .unset, .unset, .unset] [])) rfl (hb hby at_122)
              refine own_st (T' := T51) (g' := (mkF m 125 #[.val (.int p0), .val (.int p1), .val (.int p2), .val (.int p3), .val (.int ((p0 &&& (2147483647 : Int32)) % (6 : Int32))), .val (.long (p1.toInt64)), .second, .val (.long lb), .second, .unset, .unset, .unset, .unset] [(.ref w_NOT_EQUAL)])) st51 ?_
              refine own_st (T' := T51) (g' := (mkF m 135 #[.val (.int p0), .val (.int p1), .val (.int p2), .val (.int p3), .val (.int ((p0 &&& (2147483647 : Int32)) % (6 : Int32))), .val (.long (p1.toInt64)), .second, .val (.long lb), .second, .val (.ref w_NOT_EQUAL), .val (.int (5 : Int32)), .unset, .unset] [(.int (lcmpW (p1.toInt64) lb))])) (fun t k => ?_) ?_
              · show Steps p.tables e below (T51.setTop (mkF m 125 #[.val (.int p0), .val (.int p1), .val (.int p2), .val (.int p3), .val (.int ((p0 &&& (2147483647 : Int32)) % (6 : Int32))), .val (.long (p1.toInt64)), .second, .val (.long lb), .second, .unset, .unset, .unset, .unset] [(.ref w_NOT_EQUAL)])) t
                refine XS.astore X51.here hx rfl (hb hby at_125) rfl rfl (l' := #[.val (.int p0), .val (.int p1), .val (.int p2), .val (.int p3), .val (.int ((p0 &&& (2147483647 : Int32)) % (6 : Int32))), .val (.long (p1.toInt64)), .second, .val (.long lb), .second, .val (.ref w_NOT_EQUAL), .unset, .unset, .unset]) rfl ?_
                show Steps p.tables e below (T51.setTop (mkF m 127 #[.val (.int p0), .val (.int p1), .val (.int p2), .val (.int p3), .val (.int ((p0 &&& (2147483647 : Int32)) % (6 : Int32))), .val (.long (p1.toInt64)), .second, .val (.long lb), .second, .val (.ref w_NOT_EQUAL), .unset, .unset, .unset] [])) t
                refine XS.iconst X51.here hx rfl (hb hby at_127) ?_
                show Steps p.tables e below (T51.setTop (mkF m 128 #[.val (.int p0), .val (.int p1), .val (.int p2), .val (.int p3), .val (.int ((p0 &&& (2147483647 : Int32)) % (6 : Int32))), .val (.long (p1.toInt64)), .second, .val (.long lb), .second, .val (.ref w_NOT_EQUAL), .unset, .unset, .unset] [(.int (5 : Int32))])) t
                refine XS.istore X51.here hx rfl (hb hby at_128) rfl (l' := #[.val (.int p0), .val (.int p1), .val (.int p2), .val (.int p3), .val (.int ((p0 &&& (2147483647 : Int32)) % (6 : Int32))), .val (.long (p1.toInt64)), .second, .val (.long lb), .second, .val (.ref w_NOT_EQUAL), .val (.int (5 : Int32)), .unset, .unset]) rfl ?_
                show Steps p.tables e below (T51.setTop (mkF m 130 #[.val (.int p0), .val (.int p1), .val (.int p2), .val (.int p3), .val (.int ((p0 &&& (2147483647 : Int32)) % (6 : Int32))), .val (.long (p1.toInt64)), .second, .val (.long lb), .second, .val (.ref w_NOT_EQUAL), .val (.int (5 : Int32)), .unset, .unset] [])) t
                refine XS.lload X51.here hx rfl (hb hby at_130) rfl ?_
                show Steps p.tables e below (T51.setTop (mkF m 132 #[.val (.int p0), .val (.int p1), .val (.int p2), .val (.int p3), .val (.int ((p0 &&& (2147483647 : Int32)) % (6 : Int32))), .val (.long (p1.toInt64)), .second, .val (.long lb), .second, .val (.ref w_NOT_EQUAL), .val (.int (5 : Int32)), .unset, .unset] [(.long (p1.toInt64))])) t
                refine XS.lload X51.here hx rfl (hb hby at_132) rfl ?_
                show Steps p.tables e below (T51.setTop (mkF m 134 #[.val (.int p0), .val (.int p1), .val (.int p2), .val (.int p3), .val (.int ((p0 &&& (2147483647 : Int32)) % (6 : Int32))), .val (.long (p1.toInt64)), .second, .val (.long lb), .second, .val (.ref w_NOT_EQUAL), .val (.int (5 : Int32)), .unset, .unset] [(.long lb), (.long (p1.toInt64))])) t
                refine XS.lcmp X51.here hx rfl (hb hby at_134) rfl ?_
                exact k
              by_cases hc135_52 : (p1.toInt64) < lb
              · refine own_st (T' := T51) (g' := (mkF m 182 #[.val (.int p0), .val (.int p1), .val (.int p2), .val (.int p3), .val (.int ((p0 &&& (2147483647 : Int32)) % (6 : Int32))), .val (.long (p1.toInt64)), .second, .val (.long lb), .second, .val (.ref w_NOT_EQUAL), .val (.int (5 : Int32)), .val (.int (0 : Int32)), .val (.int (1 : Int32))] [(.double (FP.l2d lb)), (.double (FP.l2d (p1.toInt64))), (.ref w_NOT_EQUAL)])) (fun t k => ?_) ?_
                · show Steps p.tables e below (T51.setTop (mkF m 135 #[.val (.int p0), .val (.int p1), .val (.int p2), .val (.int p3), .val (.int ((p0 &&& (2147483647 : Int32)) % (6 : Int32))), .val (.long (p1.toInt64)), .second, .val (.long lb), .second, .val (.ref w_NOT_EQUAL), .val (.int (5 : Int32)), .unset, .unset] [(.int (lcmpW (p1.toInt64) lb))])) t
                  refine XS.ifNo X51.here hx rfl (hb hby at_135) rfl ((if0 _ _).trans (tlt ((lw_lt (p1.toInt64) lb).mpr hc135_52)).2.1) ?_
                  show Steps p.tables e below (T51.setTop (mkF m 138 #[.val (.int p0), .val (.int p1), .val (.int p2), .val (.int p3), .val (.int ((p0 &&& (2147483647 : Int32)) % (6 : Int32))), .val (.long (p1.toInt64)), .second, .val (.long lb), .second, .val (.ref w_NOT_EQUAL), .val (.int (5 : Int32)), .unset, .unset] [])) t
                  refine XS.iconst X51.here hx rfl (hb hby at_138) ?_
                  show Steps p.tables e below (T51.setTop (mkF m 139 #[.val (.int p0), .val (.int p1), .val (.int p2), .val (.int p3), .val (.int ((p0 &&& (2147483647 : Int32)) % (6 : Int32))), .val (.long (p1.toInt64)), .second, .val (.long lb), .second, .val (.ref w_NOT_EQUAL), .val (.int (5 : Int32)), .unset, .unset] [(.int (0 : Int32))])) t
                  refine XS.goto X51.here hx rfl (pc0 := 139) (pc' := 155) rfl (hb hby at_139) (by decide) (by decide) ?_
                  show Steps p.tables e below (T51.setTop (mkF m 155 #[.val (.int p0), .val (.int p1), .val (.int p2), .val (.int p3), .val (.int ((p0 &&& (2147483647 : Int32)) % (6 : Int32))), .val (.long (p1.toInt64)), .second, .val (.long lb), .second, .val (.ref w_NOT_EQUAL), .val (.int (5 : Int32)), .unset, .unset] [(.int (0 : Int32))])) t
                  refine XS.istore X51.here hx rfl (hb hby at_155) rfl (l' := #[.val (.int p0), .val (.int p1), .val (.int p2), .val (.int p3), .val (.int ((p0 &&& (2147483647 : Int32)) % (6 : Int32))), .val (.long (p1.toInt64)), .second, .val (.long lb), .second, .val (.ref w_NOT_EQUAL), .val (.int (5 : Int32)), .val (.int (0 : Int32)), .unset]) rfl ?_
                  show Steps p.tables e below (T51.setTop (mkF m 157 #[.val (.int p0), .val (.int p1), .val (.int p2), .val (.int p3), .val (.int ((p0 &&& (2147483647 : Int32)) % (6 : Int32))), .val (.long (p1.toInt64)), .second, .val (.long lb), .second, .val (.ref w_NOT_EQUAL), .val (.int (5 : Int32)), .val (.int (0 : Int32)), .unset] [])) t
                  refine XS.iload X51.here hx rfl (hb hby at_157) rfl ?_
                  show Steps p.tables e below (T51.setTop (mkF m 159 #[.val (.int p0), .val (.int p1), .val (.int p2), .val (.int p3), .val (.int ((p0 &&& (2147483647 : Int32)) % (6 : Int32))), .val (.long (p1.toInt64)), .second, .val (.long lb), .second, .val (.ref w_NOT_EQUAL), .val (.int (5 : Int32)), .val (.int (0 : Int32)), .unset] [(.int (5 : Int32))])) t
                  refine XS.iload X51.here hx rfl (hb hby at_159) rfl ?_
                  show Steps p.tables e below (T51.setTop (mkF m 161 #[.val (.int p0), .val (.int p1), .val (.int p2), .val (.int p3), .val (.int ((p0 &&& (2147483647 : Int32)) % (6 : Int32))), .val (.long (p1.toInt64)), .second, .val (.long lb), .second, .val (.ref w_NOT_EQUAL), .val (.int (5 : Int32)), .val (.int (0 : Int32)), .unset] [(.int (0 : Int32)), (.int (5 : Int32))])) t
                  refine XS.ishr X51.here hx rfl (hb hby at_161) rfl ?_
                  show Steps p.tables e below (T51.setTop (mkF m 162 #[.val (.int p0), .val (.int p1), .val (.int p2), .val (.int p3), .val (.int ((p0 &&& (2147483647 : Int32)) % (6 : Int32))), .val (.long (p1.toInt64)), .second, .val (.long lb), .second, .val (.ref w_NOT_EQUAL), .val (.int (5 : Int32)), .val (.int (0 : Int32)), .unset] [(.int (5 : Int32))])) t
                  refine XS.iconst X51.here hx rfl (hb hby at_162) ?_
                  show Steps p.tables e below (T51.setTop (mkF m 163 #[.val (.int p0), .val (.int p1), .val (.int p2), .val (.int p3), .val (.int ((p0 &&& (2147483647 : Int32)) % (6 : Int32))), .val (.long (p1.toInt64)), .second, .val (.long lb), .second, .val (.ref w_NOT_EQUAL), .val (.int (5 : Int32)), .val (.int (0 : Int32)), .unset] [(.int (1 : Int32)), (.int (5 : Int32))])) t
                  refine XS.iand X51.here hx rfl (hb hby at_163) rfl ?_
                  show Steps p.tables e below (T51.setTop (mkF m 164 #[.val (.int p0), .val (.int p1), .val (.int p2), .val (.int p3), .val (.int ((p0 &&& (2147483647 : Int32)) % (6 : Int32))), .val (.long (p1.toInt64)), .second, .val (.long lb), .second, .val (.ref w_NOT_EQUAL), .val (.int (5 : Int32)), .val (.int (0 : Int32)), .unset] [(.int (1 : Int32))])) t
                  refine XS.ifNo X51.here hx rfl (hb hby at_164) rfl (by decide) ?_
                  show Steps p.tables e below (T51.setTop (mkF m 167 #[.val (.int p0), .val (.int p1), .val (.int p2), .val (.int p3), .val (.int ((p0 &&& (2147483647 : Int32)) % (6 : Int32))), .val (.long (p1.toInt64)), .second, .val (.long lb), .second, .val (.ref w_NOT_EQUAL), .val (.int (5 : Int32)), .val (.int (0 : Int32)), .unset] [])) t
                  refine XS.iconst X51.here hx rfl (hb hby at_167) ?_
                  show Steps p.tables e below (T51.setTop (mkF m 168 #[.val (.int p0), .val (.int p1), .val (.int p2), .val (.int p3), .val (.int ((p0 &&& (2147483647 : Int32)) % (6 : Int32))), .val (.long (p1.toInt64)), .second, .val (.long lb), .second, .val (.ref w_NOT_EQUAL), .val (.int (5 : Int32)), .val (.int (0 : Int32)), .unset] [(.int (1 : Int32))])) t
                  refine XS.goto X51.here hx rfl (pc0 := 168) (pc' := 172) rfl (hb hby at_168) (by decide) (by decide) ?_
                  show Steps p.tables e below (T51.setTop (mkF m 172 #[.val (.int p0), .val (.int p1), .val (.int p2), .val (.int p3), .val (.int ((p0 &&& (2147483647 : Int32)) % (6 : Int32))), .val (.long (p1.toInt64)), .second, .val (.long lb), .second, .val (.ref w_NOT_EQUAL), .val (.int (5 : Int32)), .val (.int (0 : Int32)), .unset] [(.int (1 : Int32))])) t
                  refine XS.istore X51.here hx rfl (hb hby at_172) rfl (l' := #[.val (.int p0), .val (.int p1), .val (.int p2), .val (.int p3), .val (.int ((p0 &&& (2147483647 : Int32)) % (6 : Int32))), .val (.long (p1.toInt64)), .second, .val (.long lb), .second, .val (.ref w_NOT_EQUAL), .val (.int (5 : Int32)), .val (.int (0 : Int32)), .val (.int (1 : Int32))]) rfl ?_
                  show Steps p.tables e below (T51.setTop (mkF m 174 #[.val (.int p0), .val (.int p1), .val (.int p2), .val (.int p3), .val (.int ((p0 &&& (2147483647 : Int32)) % (6 : Int32))), .val (.long (p1.toInt64)), .second, .val (.long lb), .second, .val (.ref w_NOT_EQUAL), .val (.int (5 : Int32)), .val (.int (0 : Int32)), .val (.int (1 : Int32))] [])) t
                  refine XS.aload X51.here hx rfl (hb hby at_174) rfl rfl ?_
                  show Steps p.tables e below (T51.setTop (mkF m 176 #[.val (.int p0), .val (.int p1), .val (.int p2), .val (.int p3), .val (.int ((p0 &&& (2147483647 : Int32)) % (6 : Int32))), .val (.long (p1.toInt64)), .second, .val (.long lb), .second, .val (.ref w_NOT_EQUAL), .val (.int (5 : Int32)), .val (.int (0 : Int32)), .val (.int (1 : Int32))] [(.ref w_NOT_EQUAL)])) t
                  refine XS.lload X51.here hx rfl (hb hby at_176) rfl ?_
                  show Steps p.tables e below (T51.setTop (mkF m 178 #[.val (.int p0), .val (.int p1), .val (.int p2), .val (.int p3), .val (.int ((p0 &&& (2147483647 : Int32)) % (6 : Int32))), .val (.long (p1.toInt64)), .second, .val (.long lb), .second, .val (.ref w_NOT_EQUAL), .val (.int (5 : Int32)), .val (.int (0 : Int32)), .val (.int (1 : Int32))] [(.long (p1.toInt64)), (.ref w_NOT_EQUAL)])) t
                  refine XS.l2dS X51.here hx rfl (hb hby at_178) rfl rfl ?_
                  show Steps p.tables e below (T51.setTop (mkF m 179 #[.val (.int p0), .val (.int p1), .val (.int p2), .val (.int p3), .val (.int ((p0 &&& (2147483647 : Int32)) % (6 : Int32))), .val (.long (p1.toInt64)), .second, .val (.long lb), .second, .val (.ref w_NOT_EQUAL), .val (.int (5 : Int32)), .val (.int (0 : Int32)), .val (.int (1 : Int32))] [(.double (FP.l2d (p1.toInt64))), (.ref w_NOT_EQUAL)])) t
                  refine XS.lload X51.here hx rfl (hb hby at_179) rfl ?_
                  show Steps p.tables e below (T51.setTop (mkF m 181 #[.val (.int p0), .val (.int p1), .val (.int p2), .val (.int p3), .val (.int ((p0 &&& (2147483647 : Int32)) % (6 : Int32))), .val (.long (p1.toInt64)), .second, .val (.long lb), .second, .val (.ref w_NOT_EQUAL), .val (.int (5 : Int32)), .val (.int (0 : Int32)), .val (.int (1 : Int32))] [(.long lb), (.double (FP.l2d (p1.toInt64))), (.ref w_NOT_EQUAL)])) t
                  refine XS.l2dS X51.here hx rfl (hb hby at_181) rfl rfl ?_
                  exact k
                obtain ⟨cq53, kq53, qa53, qb53, qc53⟩ := isOf hZ e51 E_w_NOT_EQUAL
                obtain ⟨_, _, ⟨T53, L53, k53, n53⟩, -, X53, ⟨Lc53, hQ53, l53, y53, z53⟩, st53⟩ := X51.virtualBack hx (y := (⟨"com/example/meshwatch/meshwatch/Relation", "holds", "(DD)Z"⟩ : MethodName)) (z := (⟨"com/example/meshwatch/meshwatch/Relation", "holds", "(DD)Z"⟩ : MethodName)) hown (mvT hZ (hw _ (List.mem_of_getElem? (i := 4) rfl))) (mvT hZ (hw _ (List.mem_of_getElem? (i := 5) rfl))) (notFace_of_selects (args := #[]) (mvT hZ (hw _ (List.mem_of_getElem? (i := 7) rfl)))) (mvT hZ (hw _ (List.mem_of_getElem? (i := 7) rfl))) (mvT hZ (hw _ (List.mem_of_getElem? (i := 6) rfl))) (by decide) (backOf (W := 0) (rmh5 l Z ar hw [] w_NOT_EQUAL ((FP.l2d (p1.toInt64))) ((FP.l2d lb)) h0 n0 Z0 E_w_NOT_EQUAL F_ordinal_w_NOT_EQUAL) hZ (hw _ (List.mem_of_getElem? (i := 8) rfl)) (hw _ (List.mem_of_getElem? (i := 2) rfl)) (by decide) (by decide)) qa53 qc53 (g := (mkF m 182 #[.val (.int p0), .val (.int p1), .val (.int p2), .val (.int p3), .val (.int ((p0 &&& (2147483647 : Int32)) % (6 : Int32))), .val (.long (p1.toInt64)), .second, .val (.long lb), .second, .val (.ref w_NOT_EQUAL), .val (.int (5 : Int32)), .val (.int (0 : Int32)), .val (.int (1 : Int32))] [(.double (FP.l2d lb)), (.double (FP.l2d (p1.toInt64))), (.ref w_NOT_EQUAL)])) rfl (by rw [hml]; rfl) (Steps.refl _) (argsL := [(.double (FP.l2d (p1.toInt64))), (.double (FP.l2d lb))]) (rest := []) (lenOf pd0_0 rfl) rfl (by show 2 * 0 + _ ≤ _; exact Nat.le_of_eq rfl) (hb hby at_182) (fun _ _ => ⟨rfl, e51, (by decide : 0 + 0 ≤ _), (by decide : 0 + 0 ≤ _)⟩)
                dsimp only [Pt.U, Pt.locs, Pt.cells, Pt.slots] at X53 l53 y53 z53 st53 hQ53
                subst l53 y53 z53
                obtain ⟨rfl, N53q, e53⟩ := hQ53
                have n54 := Fr.app N0 N53q
                refine own_tr (T' := T53) (g' := (mkF m 185 #[.val (.int p0), .val (.int p1), .val (.int p2), .val (.int p3), .val (.int ((p0 &&& (2147483647 : Int32)) % (6 : Int32))), .val (.long (p1.toInt64)), .second, .val (.long lb), .second, .val (.ref w_NOT_EQUAL), .val (.int (5 : Int32)), .val (.int (0 : Int32)), .val (.int (1 : Int32))] [(.int (own_h5 (FP.dcmp (FP.l2d (p1.toInt64)) (FP.l2d lb))))])) st53 ?_
                refine own_st (T' := T53) (g' := (mkF m 195 #[.val (.int p0), .val (.int p1), .val (.int p2), .val (.int p3), .val (.int ((p0 &&& (2147483647 : Int32)) % (6 : Int32))), .val (.long (p1.toInt64)), .second, .val (.long lb), .second, .val (.ref w_NOT_EQUAL), .val (.int (5 : Int32)), .val (.int (0 : Int32)), .val (.int (1 : Int32))] [(.int (1 : Int32))])) (fun t k => ?_) ?_
                · show Steps p.tables e below (T53.setTop (mkF m 185 #[.val (.int p0), .val (.int p1), .val (.int p2), .val (.int p3), .val (.int ((p0 &&& (2147483647 : Int32)) % (6 : Int32))), .val (.long (p1.toInt64)), .second, .val (.long lb), .second, .val (.ref w_NOT_EQUAL), .val (.int (5 : Int32)), .val (.int (0 : Int32)), .val (.int (1 : Int32))] [(.int (own_h5 (FP.dcmp (FP.l2d (p1.toInt64)) (FP.l2d lb))))])) t
                  refine XS.iload X53.here hx rfl (hb hby at_185) rfl ?_
                  show Steps p.tables e below (T53.setTop (mkF m 187 #[.val (.int p0), .val (.int p1), .val (.int p2), .val (.int p3), .val (.int ((p0 &&& (2147483647 : Int32)) % (6 : Int32))), .val (.long (p1.toInt64)), .second, .val (.long lb), .second, .val (.ref w_NOT_EQUAL), .val (.int (5 : Int32)), .val (.int (0 : Int32)), .val (.int (1 : Int32))] [(.int (1 : Int32)), (.int (own_h5 (FP.dcmp (FP.l2d (p1.toInt64)) (FP.l2d lb))))])) t
                  refine XS.icmpNo X53.here hx rfl (hb hby at_187) rfl (teq ((congrArg own_h5 (own_lt (own_b2 p1) hlb hc135_52)).trans (by decide) : (own_h5 (FP.dcmp (FP.l2d (p1.toInt64)) (FP.l2d lb))) = (1 : Int32))).2 ?_
                  show Steps p.tables e below (T53.setTop (mkF m 190 #[.val (.int p0), .val (.int p1), .val (.int p2), .val (.int p3), .val (.int ((p0 &&& (2147483647 : Int32)) % (6 : Int32))), .val (.long (p1.toInt64)), .second, .val (.long lb), .second, .val (.ref w_NOT_EQUAL), .val (.int (5 : Int32)), .val (.int (0 : Int32)), .val (.int (1 : Int32))] [])) t
                  refine XS.iconst X53.here hx rfl (hb hby at_190) ?_
                  show Steps p.tables e below (T53.setTop (mkF m 191 #[.val (.int p0), .val (.int p1), .val (.int p2), .val (.int p3), .val (.int ((p0 &&& (2147483647 : Int32)) % (6 : Int32))), .val (.long (p1.toInt64)), .second, .val (.long lb), .second, .val (.ref w_NOT_EQUAL), .val (.int (5 : Int32)), .val (.int (0 : Int32)), .val (.int (1 : Int32))] [(.int (1 : Int32))])) t
                  refine XS.goto X53.here hx rfl (pc0 := 191) (pc' := 195) rfl (hb hby at_191) (by decide) (by decide) ?_
                  exact k
                refine own_retZ X53 hx hlk Bd.returns (hb hby at_195) rfl (by decide) (by decide) ?_
                show Q0 Z p0 p1 p2 p3 w_LESS w_LESS_OR_EQUAL w_GREATER w_GREATER_OR_EQUAL w_EQUAL w_NOT_EQUAL h0 n0 (some (.int (1 : Int32))) T53.heap _
                rw [(e53 : T53.heap = h0)]
                exact ⟨rfl, n54⟩
              · refine own_st (T' := T51) (g' := (mkF m 147 #[.val (.int p0), .val (.int p1), .val (.int p2), .val (.int p3), .val (.int ((p0 &&& (2147483647 : Int32)) % (6 : Int32))), .val (.long (p1.toInt64)), .second, .val (.long lb), .second, .val (.ref w_NOT_EQUAL), .val (.int (5 : Int32)), .unset, .unset] [(.int (lcmpW (p1.toInt64) lb))])) (fun t k => ?_) ?_
                · show Steps p.tables e below (T51.setTop (mkF m 135 #[.val (.int p0), .val (.int p1), .val (.int p2), .val (.int p3), .val (.int ((p0 &&& (2147483647 : Int32)) % (6 : Int32))), .val (.long (p1.toInt64)), .second, .val (.long lb), .second, .val (.ref w_NOT_EQUAL), .val (.int (5 : Int32)), .unset, .unset] [(.int (lcmpW (p1.toInt64) lb))])) t
                  refine XS.ifYes X51.here hx rfl (pc0 := 135) (pc' := 142) rfl (hb hby at_135) rfl ((if0 _ _).trans (flt (fun q => hc135_52 ((lw_lt (p1.toInt64) lb).mp q))).2.1) (by decide) (by decide) ?_
                  show Steps p.tables e below (T51.setTop (mkF m 142 #[.val (.int p0), .val (.int p1), .val (.int p2), .val (.int p3), .val (.int ((p0 &&& (2147483647 : Int32)) % (6 : Int32))), .val (.long (p1.toInt64)), .second, .val (.long lb), .second, .val (.ref w_NOT_EQUAL), .val (.int (5 : Int32)), .unset, .unset] [])) t
                  refine XS.lload X51.here hx rfl (hb hby at_142) rfl ?_
                  show Steps p.tables e below (T51.setTop (mkF m 144 #[.val (.int p0), .val (.int p1), .val (.int p2), .val (.int p3), .val (.int ((p0 &&& (2147483647 : Int32)) % (6 : Int32))), .val (.long (p1.toInt64)), .second, .val (.long lb), .second, .val (.ref w_NOT_EQUAL), .val (.int (5 : Int32)), .unset, .unset] [(.long (p1.toInt64))])) t
                  refine XS.lload X51.here hx rfl (hb hby at_144) rfl ?_
                  show Steps p.tables e below (T51.setTop (mkF m 146 #[.val (.int p0), .val (.int p1), .val (.int p2), .val (.int p3), .val (.int ((p0 &&& (2147483647 : Int32)) % (6 : Int32))), .val (.long (p1.toInt64)), .second, .val (.long lb), .second, .val (.ref w_NOT_EQUAL), .val (.int (5 : Int32)), .unset, .unset] [(.long lb), (.long (p1.toInt64))])) t
                  refine XS.lcmp X51.here hx rfl (hb hby at_146) rfl ?_
                  exact k
                by_cases hc147_55 : (p1.toInt64) = lb
                · refine own_st (T' := T51) (g' := (mkF m 182 #[.val (.int p0), .val (.int p1), .val (.int p2), .val (.int p3), .val (.int ((p0 &&& (2147483647 : Int32)) % (6 : Int32))), .val (.long (p1.toInt64)), .second, .val (.long lb), .second, .val (.ref w_NOT_EQUAL), .val (.int (5 : Int32)), .val (.int (1 : Int32)), .val (.int (0 : Int32))] [(.double (FP.l2d lb)), (.double (FP.l2d (p1.toInt64))), (.ref w_NOT_EQUAL)])) (fun t k => ?_) ?_
                  · show Steps p.tables e below (T51.setTop (mkF m 147 #[.val (.int p0), .val (.int p1), .val (.int p2), .val (.int p3), .val (.int ((p0 &&& (2147483647 : Int32)) % (6 : Int32))), .val (.long (p1.toInt64)), .second, .val (.long lb), .second, .val (.ref w_NOT_EQUAL), .val (.int (5 : Int32)), .unset, .unset] [(.int (lcmpW (p1.toInt64) lb))])) t
                    refine XS.ifNo X51.here hx rfl (hb hby at_147) rfl ((if0 _ _).trans (teq ((lw_eq (p1.toInt64) lb).mpr hc147_55)).2) ?_
                    show Steps p.tables e below (T51.setTop (mkF m 150 #[.val (.int p0), .val (.int p1), .val (.int p2), .val (.int p3), .val (.int ((p0 &&& (2147483647 : Int32)) % (6 : Int32))), .val (.long (p1.toInt64)), .second, .val (.long lb), .second, .val (.ref w_NOT_EQUAL), .val (.int (5 : Int32)), .unset, .unset] [])) t
                    refine XS.iconst X51.here hx rfl (hb hby at_150) ?_
                    show Steps p.tables e below (T51.setTop (mkF m 151 #[.val (.int p0), .val (.int p1), .val (.int p2), .val (.int p3), .val (.int ((p0 &&& (2147483647 : Int32)) % (6 : Int32))), .val (.long (p1.toInt64)), .second, .val (.long lb), .second, .val (.ref w_NOT_EQUAL), .val (.int (5 : Int32)), .unset, .unset] [(.int (1 : Int32))])) t
                    refine XS.goto X51.here hx rfl (pc0 := 151) (pc' := 155) rfl (hb hby at_151) (by decide) (by decide) ?_
                    show Steps p.tables e below (T51.setTop (mkF m 155 #[.val (.int p0), .val (.int p1), .val (.int p2), .val (.int p3), .val (.int ((p0 &&& (2147483647 : Int32)) % (6 : Int32))), .val (.long (p1.toInt64)), .second, .val (.long lb), .second, .val (.ref w_NOT_EQUAL), .val (.int (5 : Int32)), .unset, .unset] [(.int (1 : Int32))])) t
                    refine XS.istore X51.here hx rfl (hb hby at_155) rfl (l' := #[.val (.int p0), .val (.int p1), .val (.int p2), .val (.int p3), .val (.int ((p0 &&& (2147483647 : Int32)) % (6 : Int32))), .val (.long (p1.toInt64)), .second, .val (.long lb), .second, .val (.ref w_NOT_EQUAL), .val (.int (5 : Int32)), .val (.int (1 : Int32)), .unset]) rfl ?_
                    show Steps p.tables e below (T51.setTop (mkF m 157 #[.val (.int p0), .val (.int p1), .val (.int p2), .val (.int p3), .val (.int ((p0 &&& (2147483647 : Int32)) % (6 : Int32))), .val (.long (p1.toInt64)), .second, .val (.long lb), .second, .val (.ref w_NOT_EQUAL), .val (.int (5 : Int32)), .val (.int (1 : Int32)), .unset] [])) t
                    refine XS.iload X51.here hx rfl (hb hby at_157) rfl ?_
                    show Steps p.tables e below (T51.setTop (mkF m 159 #[.val (.int p0), .val (.int p1), .val (.int p2), .val (.int p3), .val (.int ((p0 &&& (2147483647 : Int32)) % (6 : Int32))), .val (.long (p1.toInt64)), .second, .val (.long lb), .second, .val (.ref w_NOT_EQUAL), .val (.int (5 : Int32)), .val (.int (1 : Int32)), .unset] [(.int (5 : Int32))])) t
                    refine XS.iload X51.here hx rfl (hb hby at_159) rfl ?_
                    show Steps p.tables e below (T51.setTop (mkF m 161 #[.val (.int p0), .val (.int p1), .val (.int p2), .val (.int p3), .val (.int ((p0 &&& (2147483647 : Int32)) % (6 : Int32))), .val (.long (p1.toInt64)), .second, .val (.long lb), .second, .val (.ref w_NOT_EQUAL), .val (.int (5 : Int32)), .val (.int (1 : Int32)), .unset] [(.int (1 : Int32)), (.int (5 : Int32))])) t
                    refine XS.ishr X51.here hx rfl (hb hby at_161) rfl ?_
                    show Steps p.tables e below (T51.setTop (mkF m 162 #[.val (.int p0), .val (.int p1), .val (.int p2), .val (.int p3), .val (.int ((p0 &&& (2147483647 : Int32)) % (6 : Int32))), .val (.long (p1.toInt64)), .second, .val (.long lb), .second, .val (.ref w_NOT_EQUAL), .val (.int (5 : Int32)), .val (.int (1 : Int32)), .unset] [(.int (2 : Int32))])) t
                    refine XS.iconst X51.here hx rfl (hb hby at_162) ?_
                    show Steps p.tables e below (T51.setTop (mkF m 163 #[.val (.int p0), .val (.int p1), .val (.int p2), .val (.int p3), .val (.int ((p0 &&& (2147483647 : Int32)) % (6 : Int32))), .val (.long (p1.toInt64)), .second, .val (.long lb), .second, .val (.ref w_NOT_EQUAL), .val (.int (5 : Int32)), .val (.int (1 : Int32)), .unset] [(.int (1 : Int32)), (.int (2 : Int32))])) t
                    refine XS.iand X51.here hx rfl (hb hby at_163) rfl ?_
                    show Steps p.tables e below (T51.setTop (mkF m 164 #[.val (.int p0), .val (.int p1), .val (.int p2), .val (.int p3), .val (.int ((p0 &&& (2147483647 : Int32)) % (6 : Int32))), .val (.long (p1.toInt64)), .second, .val (.long lb), .second, .val (.ref w_NOT_EQUAL), .val (.int (5 : Int32)), .val (.int (1 : Int32)), .unset] [(.int (0 : Int32))])) t
                    refine XS.ifYes X51.here hx rfl (pc0 := 164) (pc' := 171) rfl (hb hby at_164) rfl (by decide) (by decide) (by decide) ?_
                    show Steps p.tables e below (T51.setTop (mkF m 171 #[.val (.int p0), .val (.int p1), .val (.int p2), .val (.int p3), .val (.int ((p0 &&& (2147483647 : Int32)) % (6 : Int32))), .val (.long (p1.toInt64)), .second, .val (.long lb), .second, .val (.ref w_NOT_EQUAL), .val (.int (5 : Int32)), .val (.int (1 : Int32)), .unset] [])) t
                    refine XS.iconst X51.here hx rfl (hb hby at_171) ?_
                    show Steps p.tables e below (T51.setTop (mkF m 172 #[.val (.int p0), .val (.int p1), .val (.int p2), .val (.int p3), .val (.int ((p0 &&& (2147483647 : Int32)) % (6 : Int32))), .val (.long (p1.toInt64)), .second, .val (.long lb), .second, .val (.ref w_NOT_EQUAL), .val (.int (5 : Int32)), .val (.int (1 : Int32)), .unset] [(.int (0 : Int32))])) t
                    refine XS.istore X51.here hx rfl (hb hby at_172) rfl (l' := #[.val (.int p0), .val (.int p1), .val (.int p2), .val (.int p3), .val (.int ((p0 &&& (2147483647 : Int32)) % (6 : Int32))), .val (.long (p1.toInt64)), .second, .val (.long lb), .second, .val (.ref w_NOT_EQUAL), .val (.int (5 : Int32)), .val (.int (1 : Int32)), .val (.int (0 : Int32))]) rfl ?_
                    show Steps p.tables e below (T51.setTop (mkF m 174 #[.val (.int p0), .val (.int p1), .val (.int p2), .val (.int p3), .val (.int ((p0 &&& (2147483647 : Int32)) % (6 : Int32))), .val (.long (p1.toInt64)), .second, .val (.long lb), .second, .val (.ref w_NOT_EQUAL), .val (.int (5 : Int32)), .val (.int (1 : Int32)), .val (.int (0 : Int32))] [])) t
                    refine XS.aload X51.here hx rfl (hb hby at_174) rfl rfl ?_
                    show Steps p.tables e below (T51.setTop (mkF m 176 #[.val (.int p0), .val (.int p1), .val (.int p2), .val (.int p3), .val (.int ((p0 &&& (2147483647 : Int32)) % (6 : Int32))), .val (.long (p1.toInt64)), .second, .val (.long lb), .second, .val (.ref w_NOT_EQUAL), .val (.int (5 : Int32)), .val (.int (1 : Int32)), .val (.int (0 : Int32))] [(.ref w_NOT_EQUAL)])) t
                    refine XS.lload X51.here hx rfl (hb hby at_176) rfl ?_
                    show Steps p.tables e below (T51.setTop (mkF m 178 #[.val (.int p0), .val (.int p1), .val (.int p2), .val (.int p3), .val (.int ((p0 &&& (2147483647 : Int32)) % (6 : Int32))), .val (.long (p1.toInt64)), .second, .val (.long lb), .second, .val (.ref w_NOT_EQUAL), .val (.int (5 : Int32)), .val (.int (1 : Int32)), .val (.int (0 : Int32))] [(.long (p1.toInt64)), (.ref w_NOT_EQUAL)])) t
                    refine XS.l2dS X51.here hx rfl (hb hby at_178) rfl rfl ?_
                    show Steps p.tables e below (T51.setTop (mkF m 179 #[.val (.int p0), .val (.int p1), .val (.int p2), .val (.int p3), .val (.int ((p0 &&& (2147483647 : Int32)) % (6 : Int32))), .val (.long (p1.toInt64)), .second, .val (.long lb), .second, .val (.ref w_NOT_EQUAL), .val (.int (5 : Int32)), .val (.int (1 : Int32)), .val (.int (0 : Int32))] [(.double (FP.l2d (p1.toInt64))), (.ref w_NOT_EQUAL)])) t
                    refine XS.lload X51.here hx rfl (hb hby at_179) rfl ?_
                    show Steps p.tables e below (T51.setTop (mkF m 181 #[.val (.int p0), .val (.int p1), .val (.int p2), .val (.int p3), .val (.int ((p0 &&& (2147483647 : Int32)) % (6 : Int32))), .val (.long (p1.toInt64)), .second, .val (.long lb), .second, .val (.ref w_NOT_EQUAL), .val (.int (5 : Int32)), .val (.int (1 : Int32)), .val (.int (0 : Int32))] [(.long lb), (.double (FP.l2d (p1.toInt64))), (.ref w_NOT_EQUAL)])) t
                    refine XS.l2dS X51.here hx rfl (hb hby at_181) rfl rfl ?_
                    exact k
                  obtain ⟨cq56, kq56, qa56, qb56, qc56⟩ := isOf hZ e51 E_w_NOT_EQUAL
                  obtain ⟨_, _, ⟨T56, L56, k56, n56⟩, -, X56, ⟨Lc56, hQ56, l56, y56, z56⟩, st56⟩ := X51.virtualBack hx (y := (⟨"com/example/meshwatch/meshwatch/Relation", "holds", "(DD)Z"⟩ : MethodName)) (z := (⟨"com/example/meshwatch/meshwatch/Relation", "holds", "(DD)Z"⟩ : MethodName)) hown (mvT hZ (hw _ (List.mem_of_getElem? (i := 4) rfl))) (mvT hZ (hw _ (List.mem_of_getElem? (i := 5) rfl))) (notFace_of_selects (args := #[]) (mvT hZ (hw _ (List.mem_of_getElem? (i := 7) rfl)))) (mvT hZ (hw _ (List.mem_of_getElem? (i := 7) rfl))) (mvT hZ (hw _ (List.mem_of_getElem? (i := 6) rfl))) (by decide) (backOf (W := 0) (rmh5 l Z ar hw [] w_NOT_EQUAL ((FP.l2d (p1.toInt64))) ((FP.l2d lb)) h0 n0 Z0 E_w_NOT_EQUAL F_ordinal_w_NOT_EQUAL) hZ (hw _ (List.mem_of_getElem? (i := 8) rfl)) (hw _ (List.mem_of_getElem? (i := 2) rfl)) (by decide) (by decide)) qa56 qc56 (g := (mkF m 182 #[.val (.int p0), .val (.int p1), .val (.int p2), .val (.int p3), .val (.int ((p0 &&& (2147483647 : Int32)) % (6 : Int32))), .val (.long (p1.toInt64)), .second, .val (.long lb), .second, .val (.ref w_NOT_EQUAL), .val (.int (5 : Int32)), .val (.int (1 : Int32)), .val (.int (0 : Int32))] [(.double (FP.l2d lb)), (.double (FP.l2d (p1.toInt64))), (.ref w_NOT_EQUAL)])) rfl (by rw [hml]; rfl) (Steps.refl _) (argsL := [(.double (FP.l2d (p1.toInt64))), (.double (FP.l2d lb))]) (rest := []) (lenOf pd0_0 rfl) rfl (by show 2 * 0 + _ ≤ _; exact Nat.le_of_eq rfl) (hb hby at_182) (fun _ _ => ⟨rfl, e51, (by decide : 0 + 0 ≤ _), (by decide : 0 + 0 ≤ _)⟩)
                  dsimp only [Pt.U, Pt.locs, Pt.cells, Pt.slots] at X56 l56 y56 z56 st56 hQ56
                  subst l56 y56 z56
                  obtain ⟨rfl, N56q, e56⟩ := hQ56
                  have n57 := Fr.app N0 N56q
                  refine own_tr (T' := T56) (g' := (mkF m 185 #[.val (.int p0), .val (.int p1), .val (.int p2), .val (.int p3), .val (.int ((p0 &&& (2147483647 : Int32)) % (6 : Int32))), .val (.long (p1.toInt64)), .second, .val (.long lb), .second, .val (.ref w_NOT_EQUAL), .val (.int (5 : Int32)), .val (.int (1 : Int32)), .val (.int (0 : Int32))] [(.int (own_h5 (FP.dcmp (FP.l2d (p1.toInt64)) (FP.l2d lb))))])) st56 ?_
                  refine own_st (T' := T56) (g' := (mkF m 195 #[.val (.int p0), .val (.int p1), .val (.int p2), .val (.int p3), .val (.int ((p0 &&& (2147483647 : Int32)) % (6 : Int32))), .val (.long (p1.toInt64)), .second, .val (.long lb), .second, .val (.ref w_NOT_EQUAL), .val (.int (5 : Int32)), .val (.int (1 : Int32)), .val (.int (0 : Int32))] [(.int (1 : Int32))])) (fun t k => ?_) ?_
                  · show Steps p.tables e below (T56.setTop (mkF m 185 #[.val (.int p0), .val (.int p1), .val (.int p2), .val (.int p3), .val (.int ((p0 &&& (2147483647 : Int32)) % (6 : Int32))), .val (.long (p1.toInt64)), .second, .val (.long lb), .second, .val (.ref w_NOT_EQUAL), .val (.int (5 : Int32)), .val (.int (1 : Int32)), .val (.int (0 : Int32))] [(.int (own_h5 (FP.dcmp (FP.l2d (p1.toInt64)) (FP.l2d lb))))])) t
                    refine XS.iload X56.here hx rfl (hb hby at_185) rfl ?_
                    show Steps p.tables e below (T56.setTop (mkF m 187 #[.val (.int p0), .val (.int p1), .val (.int p2), .val (.int p3), .val (.int ((p0 &&& (2147483647 : Int32)) % (6 : Int32))), .val (.long (p1.toInt64)), .second, .val (.long lb), .second, .val (.ref w_NOT_EQUAL), .val (.int (5 : Int32)), .val (.int (1 : Int32)), .val (.int (0 : Int32))] [(.int (0 : Int32)), (.int (own_h5 (FP.dcmp (FP.l2d (p1.toInt64)) (FP.l2d lb))))])) t
                    refine XS.icmpNo X56.here hx rfl (hb hby at_187) rfl (teq ((congrArg own_h5 (own_eq (own_b2 p1) hlb hc147_55)).trans (by decide) : (own_h5 (FP.dcmp (FP.l2d (p1.toInt64)) (FP.l2d lb))) = (0 : Int32))).2 ?_
                    show Steps p.tables e below (T56.setTop (mkF m 190 #[.val (.int p0), .val (.int p1), .val (.int p2), .val (.int p3), .val (.int ((p0 &&& (2147483647 : Int32)) % (6 : Int32))), .val (.long (p1.toInt64)), .second, .val (.long lb), .second, .val (.ref w_NOT_EQUAL), .val (.int (5 : Int32)), .val (.int (1 : Int32)), .val (.int (0 : Int32))] [])) t
                    refine XS.iconst X56.here hx rfl (hb hby at_190) ?_
                    show Steps p.tables e below (T56.setTop (mkF m 191 #[.val (.int p0), .val (.int p1), .val (.int p2), .val (.int p3), .val (.int ((p0 &&& (2147483647 : Int32)) % (6 : Int32))), .val (.long (p1.toInt64)), .second, .val (.long lb), .second, .val (.ref w_NOT_EQUAL), .val (.int (5 : Int32)), .val (.int (1 : Int32)), .val (.int (0 : Int32))] [(.int (1 : Int32))])) t
                    refine XS.goto X56.here hx rfl (pc0 := 191) (pc' := 195) rfl (hb hby at_191) (by decide) (by decide) ?_
                    exact k
                  refine own_retZ X56 hx hlk Bd.returns (hb hby at_195) rfl (by decide) (by decide) ?_
                  show Q0 Z p0 p1 p2 p3 w_LESS w_LESS_OR_EQUAL w_GREATER w_GREATER_OR_EQUAL w_EQUAL w_NOT_EQUAL h0 n0 (some (.int (1 : Int32))) T56.heap _
                  rw [(e56 : T56.heap = h0)]
                  exact ⟨rfl, n57⟩
                · refine own_st (T' := T51) (g' := (mkF m 182 #[.val (.int p0), .val (.int p1), .val (.int p2), .val (.int p3), .val (.int ((p0 &&& (2147483647 : Int32)) % (6 : Int32))), .val (.long (p1.toInt64)), .second, .val (.long lb), .second, .val (.ref w_NOT_EQUAL), .val (.int (5 : Int32)), .val (.int (2 : Int32)), .val (.int (1 : Int32))] [(.double (FP.l2d lb)), (.double (FP.l2d (p1.toInt64))), (.ref w_NOT_EQUAL)])) (fun t k => ?_) ?_
                  · show Steps p.tables e below (T51.setTop (mkF m 147 #[.val (.int p0), .val (.int p1), .val (.int p2), .val (.int p3), .val (.int ((p0 &&& (2147483647 : Int32)) % (6 : Int32))), .val (.long (p1.toInt64)), .second, .val (.long lb), .second, .val (.ref w_NOT_EQUAL), .val (.int (5 : Int32)), .unset, .unset] [(.int (lcmpW (p1.toInt64) lb))])) t
                    refine XS.ifYes X51.here hx rfl (pc0 := 147) (pc' := 154) rfl (hb hby at_147) rfl ((if0 _ _).trans (feq (fun q => hc147_55 ((lw_eq (p1.toInt64) lb).mp q))).2) (by decide) (by decide) ?_
                    show Steps p.tables e below (T51.setTop (mkF m 154 #[.val (.int p0), .val (.int p1), .val (.int p2), .val (.int p3), .val (.int ((p0 &&& (2147483647 : Int32)) % (6 : Int32))), .val (.long (p1.toInt64)), .second, .val (.long lb), .second, .val (.ref w_NOT_EQUAL), .val (.int (5 : Int32)), .unset, .unset] [])) t
                    refine XS.iconst X51.here hx rfl (hb hby at_154) ?_
                    show Steps p.tables e below (T51.setTop (mkF m 155 #[.val (.int p0), .val (.int p1), .val (.int p2), .val (.int p3), .val (.int ((p0 &&& (2147483647 : Int32)) % (6 : Int32))), .val (.long (p1.toInt64)), .second, .val (.long lb), .second, .val (.ref w_NOT_EQUAL), .val (.int (5 : Int32)), .unset, .unset] [(.int (2 : Int32))])) t
                    refine XS.istore X51.here hx rfl (hb hby at_155) rfl (l' := #[.val (.int p0), .val (.int p1), .val (.int p2), .val (.int p3), .val (.int ((p0 &&& (2147483647 : Int32)) % (6 : Int32))), .val (.long (p1.toInt64)), .second, .val (.long lb), .second, .val (.ref w_NOT_EQUAL), .val (.int (5 : Int32)), .val (.int (2 : Int32)), .unset]) rfl ?_
                    show Steps p.tables e below (T51.setTop (mkF m 157 #[.val (.int p0), .val (.int p1), .val (.int p2), .val (.int p3), .val (.int ((p0 &&& (2147483647 : Int32)) % (6 : Int32))), .val (.long (p1.toInt64)), .second, .val (.long lb), .second, .val (.ref w_NOT_EQUAL), .val (.int (5 : Int32)), .val (.int (2 : Int32)), .unset] [])) t
                    refine XS.iload X51.here hx rfl (hb hby at_157) rfl ?_
                    show Steps p.tables e below (T51.setTop (mkF m 159 #[.val (.int p0), .val (.int p1), .val (.int p2), .val (.int p3), .val (.int ((p0 &&& (2147483647 : Int32)) % (6 : Int32))), .val (.long (p1.toInt64)), .second, .val (.long lb), .second, .val (.ref w_NOT_EQUAL), .val (.int (5 : Int32)), .val (.int (2 : Int32)), .unset] [(.int (5 : Int32))])) t
                    refine XS.iload X51.here hx rfl (hb hby at_159) rfl ?_
                    show Steps p.tables e below (T51.setTop (mkF m 161 #[.val (.int p0), .val (.int p1), .val (.int p2), .val (.int p3), .val (.int ((p0 &&& (2147483647 : Int32)) % (6 : Int32))), .val (.long (p1.toInt64)), .second, .val (.long lb), .second, .val (.ref w_NOT_EQUAL), .val (.int (5 : Int32)), .val (.int (2 : Int32)), .unset] [(.int (2 : Int32)), (.int (5 : Int32))])) t
                    refine XS.ishr X51.here hx rfl (hb hby at_161) rfl ?_
                    show Steps p.tables e below (T51.setTop (mkF m 162 #[.val (.int p0), .val (.int p1), .val (.int p2), .val (.int p3), .val (.int ((p0 &&& (2147483647 : Int32)) % (6 : Int32))), .val (.long (p1.toInt64)), .second, .val (.long lb), .second, .val (.ref w_NOT_EQUAL), .val (.int (5 : Int32)), .val (.int (2 : Int32)), .unset] [(.int (1 : Int32))])) t
                    refine XS.iconst X51.here hx rfl (hb hby at_162) ?_
                    show Steps p.tables e below (T51.setTop (mkF m 163 #[.val (.int p0), .val (.int p1), .val (.int p2), .val (.int p3), .val (.int ((p0 &&& (2147483647 : Int32)) % (6 : Int32))), .val (.long (p1.toInt64)), .second, .val (.long lb), .second, .val (.ref w_NOT_EQUAL), .val (.int (5 : Int32)), .val (.int (2 : Int32)), .unset] [(.int (1 : Int32)), (.int (1 : Int32))])) t
                    refine XS.iand X51.here hx rfl (hb hby at_163) rfl ?_
                    show Steps p.tables e below (T51.setTop (mkF m 164 #[.val (.int p0), .val (.int p1), .val (.int p2), .val (.int p3), .val (.int ((p0 &&& (2147483647 : Int32)) % (6 : Int32))), .val (.long (p1.toInt64)), .second, .val (.long lb), .second, .val (.ref w_NOT_EQUAL), .val (.int (5 : Int32)), .val (.int (2 : Int32)), .unset] [(.int (1 : Int32))])) t
                    refine XS.ifNo X51.here hx rfl (hb hby at_164) rfl (by decide) ?_
                    show Steps p.tables e below (T51.setTop (mkF m 167 #[.val (.int p0), .val (.int p1), .val (.int p2), .val (.int p3), .val (.int ((p0 &&& (2147483647 : Int32)) % (6 : Int32))), .val (.long (p1.toInt64)), .second, .val (.long lb), .second, .val (.ref w_NOT_EQUAL), .val (.int (5 : Int32)), .val (.int (2 : Int32)), .unset] [])) t
                    refine XS.iconst X51.here hx rfl (hb hby at_167) ?_
                    show Steps p.tables e below (T51.setTop (mkF m 168 #[.val (.int p0), .val (.int p1), .val (.int p2), .val (.int p3), .val (.int ((p0 &&& (2147483647 : Int32)) % (6 : Int32))), .val (.long (p1.toInt64)), .second, .val (.long lb), .second, .val (.ref w_NOT_EQUAL), .val (.int (5 : Int32)), .val (.int (2 : Int32)), .unset] [(.int (1 : Int32))])) t
                    refine XS.goto X51.here hx rfl (pc0 := 168) (pc' := 172) rfl (hb hby at_168) (by decide) (by decide) ?_
                    show Steps p.tables e below (T51.setTop (mkF m 172 #[.val (.int p0), .val (.int p1), .val (.int p2), .val (.int p3), .val (.int ((p0 &&& (2147483647 : Int32)) % (6 : Int32))), .val (.long (p1.toInt64)), .second, .val (.long lb), .second, .val (.ref w_NOT_EQUAL), .val (.int (5 : Int32)), .val (.int (2 : Int32)), .unset] [(.int (1 : Int32))])) t
                    refine XS.istore X51.here hx rfl (hb hby at_172) rfl (l' := #[.val (.int p0), .val (.int p1), .val (.int p2), .val (.int p3), .val (.int ((p0 &&& (2147483647 : Int32)) % (6 : Int32))), .val (.long (p1.toInt64)), .second, .val (.long lb), .second, .val (.ref w_NOT_EQUAL), .val (.int (5 : Int32)), .val (.int (2 : Int32)), .val (.int (1 : Int32))]) rfl ?_
                    show Steps p.tables e below (T51.setTop (mkF m 174 #[.val (.int p0), .val (.int p1), .val (.int p2), .val (.int p3), .val (.int ((p0 &&& (2147483647 : Int32)) % (6 : Int32))), .val (.long (p1.toInt64)), .second, .val (.long lb), .second, .val (.ref w_NOT_EQUAL), .val (.int (5 : Int32)), .val (.int (2 : Int32)), .val (.int (1 : Int32))] [])) t
                    refine XS.aload X51.here hx rfl (hb hby at_174) rfl rfl ?_
                    show Steps p.tables e below (T51.setTop (mkF m 176 #[.val (.int p0), .val (.int p1), .val (.int p2), .val (.int p3), .val (.int ((p0 &&& (2147483647 : Int32)) % (6 : Int32))), .val (.long (p1.toInt64)), .second, .val (.long lb), .second, .val (.ref w_NOT_EQUAL), .val (.int (5 : Int32)), .val (.int (2 : Int32)), .val (.int (1 : Int32))] [(.ref w_NOT_EQUAL)])) t
                    refine XS.lload X51.here hx rfl (hb hby at_176) rfl ?_
                    show Steps p.tables e below (T51.setTop (mkF m 178 #[.val (.int p0), .val (.int p1), .val (.int p2), .val (.int p3), .val (.int ((p0 &&& (2147483647 : Int32)) % (6 : Int32))), .val (.long (p1.toInt64)), .second, .val (.long lb), .second, .val (.ref w_NOT_EQUAL), .val (.int (5 : Int32)), .val (.int (2 : Int32)), .val (.int (1 : Int32))] [(.long (p1.toInt64)), (.ref w_NOT_EQUAL)])) t
                    refine XS.l2dS X51.here hx rfl (hb hby at_178) rfl rfl ?_
                    show Steps p.tables e below (T51.setTop (mkF m 179 #[.val (.int p0), .val (.int p1), .val (.int p2), .val (.int p3), .val (.int ((p0 &&& (2147483647 : Int32)) % (6 : Int32))), .val (.long (p1.toInt64)), .second, .val (.long lb), .second, .val (.ref w_NOT_EQUAL), .val (.int (5 : Int32)), .val (.int (2 : Int32)), .val (.int (1 : Int32))] [(.double (FP.l2d (p1.toInt64))), (.ref w_NOT_EQUAL)])) t
                    refine XS.lload X51.here hx rfl (hb hby at_179) rfl ?_
                    show Steps p.tables e below (T51.setTop (mkF m 181 #[.val (.int p0), .val (.int p1), .val (.int p2), .val (.int p3), .val (.int ((p0 &&& (2147483647 : Int32)) % (6 : Int32))), .val (.long (p1.toInt64)), .second, .val (.long lb), .second, .val (.ref w_NOT_EQUAL), .val (.int (5 : Int32)), .val (.int (2 : Int32)), .val (.int (1 : Int32))] [(.long lb), (.double (FP.l2d (p1.toInt64))), (.ref w_NOT_EQUAL)])) t
                    refine XS.l2dS X51.here hx rfl (hb hby at_181) rfl rfl ?_
                    exact k
                  obtain ⟨cq58, kq58, qa58, qb58, qc58⟩ := isOf hZ e51 E_w_NOT_EQUAL
                  obtain ⟨_, _, ⟨T58, L58, k58, n58⟩, -, X58, ⟨Lc58, hQ58, l58, y58, z58⟩, st58⟩ := X51.virtualBack hx (y := (⟨"com/example/meshwatch/meshwatch/Relation", "holds", "(DD)Z"⟩ : MethodName)) (z := (⟨"com/example/meshwatch/meshwatch/Relation", "holds", "(DD)Z"⟩ : MethodName)) hown (mvT hZ (hw _ (List.mem_of_getElem? (i := 4) rfl))) (mvT hZ (hw _ (List.mem_of_getElem? (i := 5) rfl))) (notFace_of_selects (args := #[]) (mvT hZ (hw _ (List.mem_of_getElem? (i := 7) rfl)))) (mvT hZ (hw _ (List.mem_of_getElem? (i := 7) rfl))) (mvT hZ (hw _ (List.mem_of_getElem? (i := 6) rfl))) (by decide) (backOf (W := 0) (rmh5 l Z ar hw [] w_NOT_EQUAL ((FP.l2d (p1.toInt64))) ((FP.l2d lb)) h0 n0 Z0 E_w_NOT_EQUAL F_ordinal_w_NOT_EQUAL) hZ (hw _ (List.mem_of_getElem? (i := 8) rfl)) (hw _ (List.mem_of_getElem? (i := 2) rfl)) (by decide) (by decide)) qa58 qc58 (g := (mkF m 182 #[.val (.int p0), .val (.int p1), .val (.int p2), .val (.int p3), .val (.int ((p0 &&& (2147483647 : Int32)) % (6 : Int32))), .val (.long (p1.toInt64)), .second, .val (.long lb), .second, .val (.ref w_NOT_EQUAL), .val (.int (5 : Int32)), .val (.int (2 : Int32)), .val (.int (1 : Int32))] [(.double (FP.l2d lb)), (.double (FP.l2d (p1.toInt64))), (.ref w_NOT_EQUAL)])) rfl (by rw [hml]; rfl) (Steps.refl _) (argsL := [(.double (FP.l2d (p1.toInt64))), (.double (FP.l2d lb))]) (rest := []) (lenOf pd0_0 rfl) rfl (by show 2 * 0 + _ ≤ _; exact Nat.le_of_eq rfl) (hb hby at_182) (fun _ _ => ⟨rfl, e51, (by decide : 0 + 0 ≤ _), (by decide : 0 + 0 ≤ _)⟩)
                  dsimp only [Pt.U, Pt.locs, Pt.cells, Pt.slots] at X58 l58 y58 z58 st58 hQ58
                  subst l58 y58 z58
                  obtain ⟨rfl, N58q, e58⟩ := hQ58
                  have n59 := Fr.app N0 N58q
                  refine own_tr (T' := T58) (g' := (mkF m 185 #[.val (.int p0), .val (.int p1), .val (.int p2), .val (.int p3), .val (.int ((p0 &&& (2147483647 : Int32)) % (6 : Int32))), .val (.long (p1.toInt64)), .second, .val (.long lb), .second, .val (.ref w_NOT_EQUAL), .val (.int (5 : Int32)), .val (.int (2 : Int32)), .val (.int (1 : Int32))] [(.int (own_h5 (FP.dcmp (FP.l2d (p1.toInt64)) (FP.l2d lb))))])) st58 ?_
                  refine own_st (T' := T58) (g' := (mkF m 195 #[.val (.int p0), .val (.int p1), .val (.int p2), .val (.int p3), .val (.int ((p0 &&& (2147483647 : Int32)) % (6 : Int32))), .val (.long (p1.toInt64)), .second, .val (.long lb), .second, .val (.ref w_NOT_EQUAL), .val (.int (5 : Int32)), .val (.int (2 : Int32)), .val (.int (1 : Int32))] [(.int (1 : Int32))])) (fun t k => ?_) ?_
                  · show Steps p.tables e below (T58.setTop (mkF m 185 #[.val (.int p0), .val (.int p1), .val (.int p2), .val (.int p3), .val (.int ((p0 &&& (2147483647 : Int32)) % (6 : Int32))), .val (.long (p1.toInt64)), .second, .val (.long lb), .second, .val (.ref w_NOT_EQUAL), .val (.int (5 : Int32)), .val (.int (2 : Int32)), .val (.int (1 : Int32))] [(.int (own_h5 (FP.dcmp (FP.l2d (p1.toInt64)) (FP.l2d lb))))])) t
                    refine XS.iload X58.here hx rfl (hb hby at_185) rfl ?_
                    show Steps p.tables e below (T58.setTop (mkF m 187 #[.val (.int p0), .val (.int p1), .val (.int p2), .val (.int p3), .val (.int ((p0 &&& (2147483647 : Int32)) % (6 : Int32))), .val (.long (p1.toInt64)), .second, .val (.long lb), .second, .val (.ref w_NOT_EQUAL), .val (.int (5 : Int32)), .val (.int (2 : Int32)), .val (.int (1 : Int32))] [(.int (1 : Int32)), (.int (own_h5 (FP.dcmp (FP.l2d (p1.toInt64)) (FP.l2d lb))))])) t
                    refine XS.icmpNo X58.here hx rfl (hb hby at_187) rfl (teq ((congrArg own_h5 (own_gt (own_b2 p1) hlb hc135_52 hc147_55)).trans (by decide) : (own_h5 (FP.dcmp (FP.l2d (p1.toInt64)) (FP.l2d lb))) = (1 : Int32))).2 ?_
                    show Steps p.tables e below (T58.setTop (mkF m 190 #[.val (.int p0), .val (.int p1), .val (.int p2), .val (.int p3), .val (.int ((p0 &&& (2147483647 : Int32)) % (6 : Int32))), .val (.long (p1.toInt64)), .second, .val (.long lb), .second, .val (.ref w_NOT_EQUAL), .val (.int (5 : Int32)), .val (.int (2 : Int32)), .val (.int (1 : Int32))] [])) t
                    refine XS.iconst X58.here hx rfl (hb hby at_190) ?_
                    show Steps p.tables e below (T58.setTop (mkF m 191 #[.val (.int p0), .val (.int p1), .val (.int p2), .val (.int p3), .val (.int ((p0 &&& (2147483647 : Int32)) % (6 : Int32))), .val (.long (p1.toInt64)), .second, .val (.long lb), .second, .val (.ref w_NOT_EQUAL), .val (.int (5 : Int32)), .val (.int (2 : Int32)), .val (.int (1 : Int32))] [(.int (1 : Int32))])) t
                    refine XS.goto X58.here hx rfl (pc0 := 191) (pc' := 195) rfl (hb hby at_191) (by decide) (by decide) ?_
                    exact k
                  refine own_retZ X58 hx hlk Bd.returns (hb hby at_195) rfl (by decide) (by decide) ?_
                  show Q0 Z p0 p1 p2 p3 w_LESS w_LESS_OR_EQUAL w_GREATER w_GREATER_OR_EQUAL w_EQUAL w_NOT_EQUAL h0 n0 (some (.int (1 : Int32))) T58.heap _
                  rw [(e58 : T58.heap = h0)]
                  exact ⟨rfl, n59⟩
  by_cases hc16_60 : (p3 &&& (1 : Int32)) = (0 : Int32)
  · refine own_st (T' := s₁) (g' := (mkF m 35 #[.val (.int p0), .val (.int p1), .val (.int p2), .val (.int p3), .val (.int ((p0 &&& (2147483647 : Int32)) % (6 : Int32))), .val (.long (p1.toInt64)), .second, .unset, .unset, .unset, .unset, .unset, .unset] [(.long (p2.toInt64))])) (fun t k => ?_) ?_
    · show Steps p.tables e below (s₁.setTop (mkF m 16 #[.val (.int p0), .val (.int p1), .val (.int p2), .val (.int p3), .val (.int ((p0 &&& (2147483647 : Int32)) % (6 : Int32))), .val (.long (p1.toInt64)), .second, .unset, .unset, .unset, .unset, .unset, .unset] [(.int (p3 &&& (1 : Int32)))])) t
      refine XS.ifYes X0.here hx rfl (pc0 := 16) (pc' := 33) rfl (hb hby at_16) rfl ((if0 _ _).trans (teq hc16_60).1) (by decide) (by decide) ?_
      show Steps p.tables e below (s₁.setTop (mkF m 33 #[.val (.int p0), .val (.int p1), .val (.int p2), .val (.int p3), .val (.int ((p0 &&& (2147483647 : Int32)) % (6 : Int32))), .val (.long (p1.toInt64)), .second, .unset, .unset, .unset, .unset, .unset, .unset] [])) t
      refine XS.iloadN X0.here hx rfl (hb hby at_33) rfl ?_
      show Steps p.tables e below (s₁.setTop (mkF m 34 #[.val (.int p0), .val (.int p1), .val (.int p2), .val (.int p3), .val (.int ((p0 &&& (2147483647 : Int32)) % (6 : Int32))), .val (.long (p1.toInt64)), .second, .unset, .unset, .unset, .unset, .unset, .unset] [(.int p2)])) t
      refine XS.i2l X0.here hx rfl (hb hby at_34) rfl ?_
      exact k
    exact hJ35 _ (own_b2 p2)
  · refine own_st (T' := s₁) (g' := (mkF m 35 #[.val (.int p0), .val (.int p1), .val (.int p2), .val (.int p3), .val (.int ((p0 &&& (2147483647 : Int32)) % (6 : Int32))), .val (.long (p1.toInt64)), .second, .unset, .unset, .unset, .unset, .unset, .unset] [(.long (((p1.toInt64) + (((p3 >>> ((1 : Int32) &&& 31)) &&& (3 : Int32)).toInt64)) - (1 : Int64)))])) (fun t k => ?_) ?_
    · show Steps p.tables e below (s₁.setTop (mkF m 16 #[.val (.int p0), .val (.int p1), .val (.int p2), .val (.int p3), .val (.int ((p0 &&& (2147483647 : Int32)) % (6 : Int32))), .val (.long (p1.toInt64)), .second, .unset, .unset, .unset, .unset, .unset, .unset] [(.int (p3 &&& (1 : Int32)))])) t
      refine XS.ifNo X0.here hx rfl (hb hby at_16) rfl ((if0 _ _).trans (feq hc16_60).1) ?_
      show Steps p.tables e below (s₁.setTop (mkF m 19 #[.val (.int p0), .val (.int p1), .val (.int p2), .val (.int p3), .val (.int ((p0 &&& (2147483647 : Int32)) % (6 : Int32))), .val (.long (p1.toInt64)), .second, .unset, .unset, .unset, .unset, .unset, .unset] [])) t
      refine XS.lload X0.here hx rfl (hb hby at_19) rfl ?_
      show Steps p.tables e below (s₁.setTop (mkF m 21 #[.val (.int p0), .val (.int p1), .val (.int p2), .val (.int p3), .val (.int ((p0 &&& (2147483647 : Int32)) % (6 : Int32))), .val (.long (p1.toInt64)), .second, .unset, .unset, .unset, .unset, .unset, .unset] [(.long (p1.toInt64))])) t
      refine XS.iloadN X0.here hx rfl (hb hby at_21) rfl ?_
      show Steps p.tables e below (s₁.setTop (mkF m 22 #[.val (.int p0), .val (.int p1), .val (.int p2), .val (.int p3), .val (.int ((p0 &&& (2147483647 : Int32)) % (6 : Int32))), .val (.long (p1.toInt64)), .second, .unset, .unset, .unset, .unset, .unset, .unset] [(.int p3), (.long (p1.toInt64))])) t
      refine XS.iconst X0.here hx rfl (hb hby at_22) ?_
      show Steps p.tables e below (s₁.setTop (mkF m 23 #[.val (.int p0), .val (.int p1), .val (.int p2), .val (.int p3), .val (.int ((p0 &&& (2147483647 : Int32)) % (6 : Int32))), .val (.long (p1.toInt64)), .second, .unset, .unset, .unset, .unset, .unset, .unset] [(.int (1 : Int32)), (.int p3), (.long (p1.toInt64))])) t
      refine XS.ishr X0.here hx rfl (hb hby at_23) rfl ?_
      show Steps p.tables e below (s₁.setTop (mkF m 24 #[.val (.int p0), .val (.int p1), .val (.int p2), .val (.int p3), .val (.int ((p0 &&& (2147483647 : Int32)) % (6 : Int32))), .val (.long (p1.toInt64)), .second, .unset, .unset, .unset, .unset, .unset, .unset] [(.int (p3 >>> ((1 : Int32) &&& 31))), (.long (p1.toInt64))])) t
      refine XS.iconst X0.here hx rfl (hb hby at_24) ?_
      show Steps p.tables e below (s₁.setTop (mkF m 25 #[.val (.int p0), .val (.int p1), .val (.int p2), .val (.int p3), .val (.int ((p0 &&& (2147483647 : Int32)) % (6 : Int32))), .val (.long (p1.toInt64)), .second, .unset, .unset, .unset, .unset, .unset, .unset] [(.int (3 : Int32)), (.int (p3 >>> ((1 : Int32) &&& 31))), (.long (p1.toInt64))])) t
      refine XS.iand X0.here hx rfl (hb hby at_25) rfl ?_
      show Steps p.tables e below (s₁.setTop (mkF m 26 #[.val (.int p0), .val (.int p1), .val (.int p2), .val (.int p3), .val (.int ((p0 &&& (2147483647 : Int32)) % (6 : Int32))), .val (.long (p1.toInt64)), .second, .unset, .unset, .unset, .unset, .unset, .unset] [(.int ((p3 >>> ((1 : Int32) &&& 31)) &&& (3 : Int32))), (.long (p1.toInt64))])) t
      refine XS.i2l X0.here hx rfl (hb hby at_26) rfl ?_
      show Steps p.tables e below (s₁.setTop (mkF m 27 #[.val (.int p0), .val (.int p1), .val (.int p2), .val (.int p3), .val (.int ((p0 &&& (2147483647 : Int32)) % (6 : Int32))), .val (.long (p1.toInt64)), .second, .unset, .unset, .unset, .unset, .unset, .unset] [(.long (((p3 >>> ((1 : Int32) &&& 31)) &&& (3 : Int32)).toInt64)), (.long (p1.toInt64))])) t
      refine XS.ladd X0.here hx rfl (hb hby at_27) rfl ?_
      show Steps p.tables e below (s₁.setTop (mkF m 28 #[.val (.int p0), .val (.int p1), .val (.int p2), .val (.int p3), .val (.int ((p0 &&& (2147483647 : Int32)) % (6 : Int32))), .val (.long (p1.toInt64)), .second, .unset, .unset, .unset, .unset, .unset, .unset] [(.long ((p1.toInt64) + (((p3 >>> ((1 : Int32) &&& 31)) &&& (3 : Int32)).toInt64)))])) t
      refine XS.lconst X0.here hx rfl (hb hby at_28) ?_
      show Steps p.tables e below (s₁.setTop (mkF m 29 #[.val (.int p0), .val (.int p1), .val (.int p2), .val (.int p3), .val (.int ((p0 &&& (2147483647 : Int32)) % (6 : Int32))), .val (.long (p1.toInt64)), .second, .unset, .unset, .unset, .unset, .unset, .unset] [(.long (1 : Int64)), (.long ((p1.toInt64) + (((p3 >>> ((1 : Int32) &&& 31)) &&& (3 : Int32)).toInt64)))])) t
      refine XS.lsub X0.here hx rfl (hb hby at_29) rfl ?_
      show Steps p.tables e below (s₁.setTop (mkF m 30 #[.val (.int p0), .val (.int p1), .val (.int p2), .val (.int p3), .val (.int ((p0 &&& (2147483647 : Int32)) % (6 : Int32))), .val (.long (p1.toInt64)), .second, .unset, .unset, .unset, .unset, .unset, .unset] [(.long (((p1.toInt64) + (((p3 >>> ((1 : Int32) &&& 31)) &&& (3 : Int32)).toInt64)) - (1 : Int64)))])) t
      refine XS.goto X0.here hx rfl (pc0 := 30) (pc' := 35) rfl (hb hby at_30) (by decide) (by decide) ?_
      exact k
    exact hJ35 _ (own_b1 p1 p3)
set_option maxRecDepth 65536 in
set_option maxHeartbeats 40000000 in
theorem comes_1 {Post : Tables → Env → Array Value → State → Outcome → State → Prop} (hpost : ∀ tb e args s v u, (limb_1_1.after args s (.returned v) u = true ∧ limb_1_2.after args s (.returned v) u = true ∧ True) → FrameEnd s (.returned v) u (Jvm.fieldLocs frame_1_writes args s ++ Jvm.arrayLocs frame_1_arrays args s ++ Jvm.staticLocs frame_1_statics s) 0 0 → Post tb e args s (.returned v) u) :
    ArmFor flags0 classFile x code maxLocals ret World_1 tables_1 room_1 Calls_1 rest_1 Pre_1 Post := by
  intro l hfl _ _ p e ha hc hk s m args below hf hA hF happ hP
  obtain ⟨hcalls, hrest, hpre⟩ := hP
  obtain ⟨-, -, -, hnamed, -, -, -, hat⟩ := (Spec.applies_iff hf).mp happ
  obtain ⟨hg, hn⟩ := and_e (Cond.before_iff.mp (show (Jvm.Cond.and given_1 narrow_1).before args s = true from hpre))
  obtain ⟨g0, gg0⟩ := and_e hg
  obtain ⟨g1, gg1⟩ := and_e gg0
  obtain ⟨g2, gg2⟩ := and_e gg1
  obtain ⟨g3, gg3⟩ := and_e gg2
  obtain ⟨w0, w1, w2, w3, rfl⟩ : ∃ w0 w1 w2 w3 : Value, args = #[w0, w1, w2, w3] := by
    have hs : args.size = 4 := by simpa [Cond.value, given_1] using g0
    obtain ⟨L⟩ := args
    match L, hs with
    | [w0, w1, w2, w3], _ => exact ⟨w0, w1, w2, w3, rfl⟩
  have hw := fun d (hd : d ∈ tables_1) => atoms_spec (ws := Jvm.Cond.code x code maxLocals ret :: tables_1) hat d (List.mem_cons_of_mem _ hd)
  have hfit : Fit s := fun {y c} hc i hi => by
    obtain ⟨ha, rfl⟩ := Array.getElem?_eq_some_iff.mp hc
    have q := List.all_eq_true.mp ((Array.all_eq_true_iff_forall_mem.mp hF) _ (Array.getElem_mem ha)) i (List.mem_range.mpr hi)
    simpa [Array.getElem?_eq_getElem hi] using q
  obtain ⟨p0, ei0⟩ := is_v g1
  obtain rfl : w0 = (.int p0) := Option.some.inj ei0
  obtain ⟨p1, ei1⟩ := is_v g2
  obtain rfl : w1 = (.int p1) := Option.some.inj ei1
  obtain ⟨p2, ei2⟩ := is_v g3
  obtain rfl : w2 = (.int p2) := Option.some.inj ei2
  obtain ⟨p3, ei3⟩ := is_v gg3
  obtain rfl : w3 = (.int p3) := Option.some.inj ei3
  obtain ⟨x_LESS, r0⟩ := and_e hn
  obtain ⟨o_LESS, q0⟩ := and_e r0
  obtain ⟨x_LESS_OR_EQUAL, r1⟩ := and_e q0
  obtain ⟨o_LESS_OR_EQUAL, q1⟩ := and_e r1
  obtain ⟨x_EQUAL, r2⟩ := and_e q1
  obtain ⟨o_EQUAL, q2⟩ := and_e r2
  obtain ⟨x_GREATER_OR_EQUAL, r3⟩ := and_e q2
  obtain ⟨o_GREATER_OR_EQUAL, q3⟩ := and_e r3
  obtain ⟨x_NOT_EQUAL, r4⟩ := and_e q3
  obtain ⟨o_NOT_EQUAL, q4⟩ := and_e r4
  obtain ⟨x_GREATER, r5⟩ := and_e q4
  have o_GREATER := r5
  obtain ⟨a_LESS, e_LESS⟩ := exa_v x_LESS
  have S_LESS := Sta.start e_LESS (Or.inr ⟨(hw _ (List.mem_of_getElem? (i := 2) rfl)), (hw _ (List.mem_of_getElem? (i := 3) rfl))⟩)
  have E_LESS := Exa.start e_LESS x_LESS
  have F_LESS : Fld s s.heap a_LESS "java/lang/Enum" "ordinal" "I" (.int (0 : Int32)) := Fld.start ((fld_at e_LESS).symm.trans (eqv_i rfl o_LESS))
  obtain ⟨a_LESS_OR_EQUAL, e_LESS_OR_EQUAL⟩ := exa_v x_LESS_OR_EQUAL
  have S_LESS_OR_EQUAL := Sta.start e_LESS_OR_EQUAL (Or.inr ⟨(hw _ (List.mem_of_getElem? (i := 2) rfl)), (hw _ (List.mem_of_getElem? (i := 19) rfl))⟩)
  have E_LESS_OR_EQUAL := Exa.start e_LESS_OR_EQUAL x_LESS_OR_EQUAL
  have F_LESS_OR_EQUAL : Fld s s.heap a_LESS_OR_EQUAL "java/lang/Enum" "ordinal" "I" (.int (1 : Int32)) := Fld.start ((fld_at e_LESS_OR_EQUAL).symm.trans (eqv_i rfl o_LESS_OR_EQUAL))
  obtain ⟨a_EQUAL, e_EQUAL⟩ := exa_v x_EQUAL
  have S_EQUAL := Sta.start e_EQUAL (Or.inr ⟨(hw _ (List.mem_of_getElem? (i := 2) rfl)), (hw _ (List.mem_of_getElem? (i := 21) rfl))⟩)
  have E_EQUAL := Exa.start e_EQUAL x_EQUAL
  have F_EQUAL : Fld s s.heap a_EQUAL "java/lang/Enum" "ordinal" "I" (.int (4 : Int32)) := Fld.start ((fld_at e_EQUAL).symm.trans (eqv_i rfl o_EQUAL))
  obtain ⟨a_GREATER_OR_EQUAL, e_GREATER_OR_EQUAL⟩ := exa_v x_GREATER_OR_EQUAL
  have S_GREATER_OR_EQUAL := Sta.start e_GREATER_OR_EQUAL (Or.inr ⟨(hw _ (List.mem_of_getElem? (i := 2) rfl)), (hw _ (List.mem_of_getElem? (i := 23) rfl))⟩)
  have E_GREATER_OR_EQUAL := Exa.start e_GREATER_OR_EQUAL x_GREATER_OR_EQUAL
  have F_GREATER_OR_EQUAL : Fld s s.heap a_GREATER_OR_EQUAL "java/lang/Enum" "ordinal" "I" (.int (3 : Int32)) := Fld.start ((fld_at e_GREATER_OR_EQUAL).symm.trans (eqv_i rfl o_GREATER_OR_EQUAL))
  obtain ⟨a_NOT_EQUAL, e_NOT_EQUAL⟩ := exa_v x_NOT_EQUAL
  have S_NOT_EQUAL := Sta.start e_NOT_EQUAL (Or.inr ⟨(hw _ (List.mem_of_getElem? (i := 2) rfl)), (hw _ (List.mem_of_getElem? (i := 25) rfl))⟩)
  have E_NOT_EQUAL := Exa.start e_NOT_EQUAL x_NOT_EQUAL
  have F_NOT_EQUAL : Fld s s.heap a_NOT_EQUAL "java/lang/Enum" "ordinal" "I" (.int (5 : Int32)) := Fld.start ((fld_at e_NOT_EQUAL).symm.trans (eqv_i rfl o_NOT_EQUAL))
  obtain ⟨a_GREATER, e_GREATER⟩ := exa_v x_GREATER
  have S_GREATER := Sta.start e_GREATER (Or.inr ⟨(hw _ (List.mem_of_getElem? (i := 2) rfl)), (hw _ (List.mem_of_getElem? (i := 27) rfl))⟩)
  have E_GREATER := Exa.start e_GREATER x_GREATER
  have F_GREATER : Fld s s.heap a_GREATER "java/lang/Enum" "ordinal" "I" (.int (2 : Int32)) := Fld.start ((fld_at e_GREATER).symm.trans (eqv_i rfl o_GREATER))
  obtain ⟨n, o, h1, h2, h3, _, L, rfl, ⟨rfl, N⟩, hq⟩ := rm0 l s _ hw tables_1 p0 p1 p2 p3 a_LESS a_LESS_OR_EQUAL a_GREATER a_GREATER_OR_EQUAL a_EQUAL a_NOT_EQUAL s.heap s.heap.size (Nat.le_refl _) (S_LESS) (E_LESS) (F_LESS) (S_LESS_OR_EQUAL) (E_LESS_OR_EQUAL) (F_LESS_OR_EQUAL) (S_GREATER) (E_GREATER) (F_GREATER) (S_GREATER_OR_EQUAL) (E_GREATER_OR_EQUAL) (F_GREATER_OR_EQUAL) (S_EQUAL) (E_EQUAL) (F_EQUAL) (S_NOT_EQUAL) (E_NOT_EQUAL) (F_NOT_EQUAL) p e ha hc hk s m _ below hf ((Spec.applies_iff_loose hf).mp happ).1 ⟨rfl, State.Warmed39.refl s, rfl⟩ trivial
  refine ⟨n, _, h1, h2, h3, hpost _ _ _ _ _ _ ⟨Cond.after_iff.mpr rfl, Cond.after_iff.mpr (eq_i res_at (Term.int_eval (1)) rfl), trivial⟩ ⟨hq.1, hq.2.1, (hq.2.2.sift fun y hy => Or.inr (N y hy)).mono (by decide) (by decide)⟩⟩
theorem main_1_1 : Claimed_1_1 := comes_1 fun _ _ _ _ _ _ h hF => ⟨h.1, hF⟩
theorem main_1_2 : Claimed_1_2 := comes_1 fun _ _ _ _ _ _ h hF => ⟨h.2.1, hF⟩
end Jvm.Pilot.@@N@@
namespace Jvm.Pilot.@@N@@
open Jvm Jvm.ClassFile Sem Op Lib Jvm.Free Jvm.Stand Jvm.Pilot.@@N@@.Jvm.D
/-! MADE BY PROGRAM (witnessworld.py) out of the Statement's table words and the real class files: 12 classes; the members and pool entries that the words name. The judged class is class 1, her method 1. -/
namespace start1
open Jvm.ClassFile
def u (s : String) : CpInfo := .utf8 (stringToUtf16 s)
/-- a pool by its gaps: so many unusable entries, then the entry; so many at the end -/
def gap : Nat → List CpInfo → List CpInfo
  | 0, r => r
  | n + 1, r => .unusable :: gap n r
def poolList (es : List (Nat × CpInfo)) (last : Nat) : List CpInfo := es.foldr (fun e r => gap e.1 (e.2 :: r)) (gap last [])
def pool (es : List (Nat × CpInfo)) (last : Nat) : Array CpInfo := ⟨poolList es last⟩
def fileOf (pool : Array CpInfo) (this : Nat) (attrs : Array Attribute := #[]) (ms : Array MethodInfo := #[]) (fl : Nat := 33) (sup : Nat := 0) (ifs : Array Nat := #[]) (fds : Array FieldInfo := #[]) : ClassFile where
  minorVersion := 0
  majorVersion := 65
  constantPool := pool
  accessFlags := fl
  thisClass := this
  superClass := sup
  interfaces := ifs
  fields := fds
  methods := ms
  attributes := attrs
def plain (name : String) (sup : Option ClassId) : Class where
  name := name
  kind := .ordinary
  loader := none
  accessFlags := 33
  super := sup
  interfaces := #[]
  cf := none
  fields := #[]
  methods := #[]
  instanceTypes := #[]
  staticTypes := #[]
  resolved := #[]
  callSites := []
  init := .initialized
  statics := none
  mirror := none

def pool0 : Array CpInfo := pool [(5, u "<init>"), (0, u "()V"), (1, .class_ 10), (1, u "java/lang/Object")] 113

def k0m0 : Method := { name := "<init>", desc := "()V", sig := { parameters := [], returnType := none }, accessFlags := 1, code := none }
/-- java/lang/Object -/
def k0 : Class := { plain "java/lang/Object" none with
  accessFlags := 33
  interfaces := #[]
  cf := some (fileOf pool0 8 #[] #[{ accessFlags := 1, nameIndex := 5, descriptorIndex := 6, attributes := #[] }] 33 0 #[] #[])
  fields := #[]
  methods := #[k0m0]
  instanceTypes := #[]
  staticTypes := #[]
  resolved := Array.replicate 124 none
  statics := none }

def pool1 : Array CpInfo := pool [(2, .class_ 4), (1, u "java/lang/Object"), (0, u "<init>"), (0, u "()V"), (0, .integer 2147483647), (0, .fieldref 9 10), (0, .class_ 11), (0, .nameAndType 12 13), (0, u "com/example/meshwatch/meshwatch/Relation"), (0, u "LESS"), (0, u "Lcom/example/meshwatch/meshwatch/Relation;"), (0, .fieldref 9 15), (0, .nameAndType 16 13), (0, u "LESS_OR_EQUAL"), (0, .fieldref 9 18), (0, .nameAndType 19 13), (0, u "GREATER"), (0, .fieldref 9 21), (0, .nameAndType 22 13), (0, u "GREATER_OR_EQUAL"), (0, .fieldref 9 24), (0, .nameAndType 25 13), (0, u "EQUAL"), (0, .fieldref 9 27), (0, .nameAndType 28 13), (0, u "NOT_EQUAL"), (0, .methodref 9 30), (0, .nameAndType 31 32), (0, u "holds"), (0, u "(DD)Z"), (0, .class_ 34), (0, u "com/example/meshwatch/meshwatch/RelationHoldsPinLaw"), (2, u "law"), (0, u "(IIII)Z")] 3

def k1m0 : Method := { name := "<init>", desc := "()V", sig := { parameters := [], returnType := none }, accessFlags := 1, code := none }
def k1c1 : Code := { maxStack := 5, maxLocals := 13, code := code, exceptionTable := #[], attributes := #[] }
def k1m1 : Method := { name := "law", desc := "(IIII)Z", sig := { parameters := [.int, .int, .int, .int], returnType := some .boolean }, accessFlags := 9, code := some k1c1 }
/-- com/example/meshwatch/meshwatch/RelationHoldsPinLaw -/
def k1 : Class := { plain "com/example/meshwatch/meshwatch/RelationHoldsPinLaw" (some 0) with
  accessFlags := 49
  interfaces := #[]
  cf := some (fileOf pool1 33 #[] #[{ accessFlags := 1, nameIndex := 5, descriptorIndex := 6, attributes := #[] }, { accessFlags := 9, nameIndex := 37, descriptorIndex := 38, attributes := #[] }] 49 2 #[] #[])
  fields := #[]
  methods := #[k1m0, k1m1]
  instanceTypes := #[]
  staticTypes := #[]
  resolved := Array.replicate 42 none
  statics := none }

def pool2 : Array CpInfo := pool [(1, .class_ 2), (0, u "java/lang/constant/Constable"), (0, .class_ 4), (0, u "java/lang/Object")] 6

/-- java/lang/constant/Constable -/
def k2 : Class := { plain "java/lang/constant/Constable" (some 0) with
  accessFlags := 1537
  interfaces := #[]
  cf := some (fileOf pool2 1 #[] #[] 1537 3 #[] #[])
  fields := #[]
  methods := #[]
  instanceTypes := #[]
  staticTypes := #[]
  resolved := Array.replicate 11 none
  statics := none }

def pool3 : Array CpInfo := pool [(1, .class_ 2), (0, u "java/lang/Comparable"), (0, .class_ 4), (0, u "java/lang/Object")] 7

/-- java/lang/Comparable -/
def k3 : Class := { plain "java/lang/Comparable" (some 0) with
  accessFlags := 1537
  interfaces := #[]
  cf := some (fileOf pool3 1 #[] #[] 1537 3 #[] #[])
  fields := #[]
  methods := #[]
  instanceTypes := #[]
  staticTypes := #[]
  resolved := Array.replicate 12 none
  statics := none }

def pool4 : Array CpInfo := pool [(1, .class_ 2), (0, u "java/io/Serializable"), (0, .class_ 4), (0, u "java/lang/Object")] 2

/-- java/io/Serializable -/
def k4 : Class := { plain "java/io/Serializable" (some 0) with
  accessFlags := 1537
  interfaces := #[]
  cf := some (fileOf pool4 1 #[] #[] 1537 3 #[] #[])
  fields := #[]
  methods := #[]
  instanceTypes := #[]
  staticTypes := #[]
  resolved := Array.replicate 7 none
  statics := none }

def pool5 : Array CpInfo := pool [(2, .class_ 4), (1, u "java/lang/Enum"), (0, u "name"), (0, u "Ljava/lang/String;"), (0, .fieldref 2 8), (0, .nameAndType 9 10), (0, u "ordinal"), (0, u "I"), (1, .class_ 14), (1, u "java/lang/Object"), (4, u "hash"), (86, .class_ 108), (1, u "java/lang/Enum$EnumDesc"), (2, .class_ 112), (0, u "java/lang/constant/Constable"), (0, .class_ 114), (0, u "java/lang/Comparable"), (0, .class_ 116), (0, u "java/io/Serializable"), (9, u "()I")] 77

def k5c0 : Code := { maxStack := 1, maxLocals := 1, code := jdk_37_method_2_code, exceptionTable := #[], attributes := #[] }
def k5m0 : Method := { name := "ordinal", desc := "()I", sig := { parameters := [], returnType := some .int }, accessFlags := 17, code := some k5c0 }
/-- java/lang/Enum -/
def k5 : Class := { plain "java/lang/Enum" (some 0) with
  accessFlags := 1057
  interfaces := #[2, 3, 4]
  cf := some (fileOf pool5 2 #[.nestMembers #[106]] #[{ accessFlags := 17, nameIndex := 9, descriptorIndex := 126, attributes := #[] }] 1057 12 #[111, 113, 115] #[{ accessFlags := 18, nameIndex := 5, descriptorIndex := 6, attributes := #[] }, { accessFlags := 18, nameIndex := 9, descriptorIndex := 10, attributes := #[] }, { accessFlags := 2, nameIndex := 19, descriptorIndex := 10, attributes := #[] }])
  fields := #[{ name := "name", type := (.object "java/lang/String"), accessFlags := 18, slot := 0, constantValue := 0 }, { name := "ordinal", type := .int, accessFlags := 18, slot := 1, constantValue := 0 }, { name := "hash", type := .int, accessFlags := 2, slot := 2, constantValue := 0 }]
  methods := #[k5m0]
  instanceTypes := #[(.object "java/lang/String"), .int, .int]
  staticTypes := #[]
  resolved := Array.replicate 204 none
  statics := none }

def pool6 : Array CpInfo := pool [(1, .class_ 2), (0, u "com/example/meshwatch/meshwatch/Relation"), (2, u "LESS"), (0, u "Lcom/example/meshwatch/meshwatch/Relation;"), (2, u "LESS_OR_EQUAL"), (2, u "GREATER"), (2, u "GREATER_OR_EQUAL"), (2, u "EQUAL"), (2, u "NOT_EQUAL"), (2, u "$VALUES"), (0, u "[Lcom/example/meshwatch/meshwatch/Relation;"), (6, .class_ 34), (1, u "java/lang/Enum"), (6, .methodref 1 42), (0, .nameAndType 43 44), (0, u "ordinal"), (0, u "()I"), (19, u "holds"), (0, u "(DD)Z")] 46

def k6c0 : Code := { maxStack := 4, maxLocals := 5, code := prog_24_method_5_code, exceptionTable := #[], attributes := #[] }
def k6m0 : Method := { name := "holds", desc := "(DD)Z", sig := { parameters := [.double, .double], returnType := some .boolean }, accessFlags := 0, code := some k6c0 }
/-- com/example/meshwatch/meshwatch/Relation -/
def k6 : Class := { plain "com/example/meshwatch/meshwatch/Relation" (some 5) with
  accessFlags := 16432
  interfaces := #[]
  cf := some (fileOf pool6 1 #[] #[{ accessFlags := 0, nameIndex := 64, descriptorIndex := 65, attributes := #[] }] 16432 32 #[] #[{ accessFlags := 16409, nameIndex := 5, descriptorIndex := 6, attributes := #[] }, { accessFlags := 16409, nameIndex := 9, descriptorIndex := 6, attributes := #[] }, { accessFlags := 16409, nameIndex := 12, descriptorIndex := 6, attributes := #[] }, { accessFlags := 16409, nameIndex := 15, descriptorIndex := 6, attributes := #[] }, { accessFlags := 16409, nameIndex := 18, descriptorIndex := 6, attributes := #[] }, { accessFlags := 16409, nameIndex := 21, descriptorIndex := 6, attributes := #[] }, { accessFlags := 4122, nameIndex := 24, descriptorIndex := 25, attributes := #[] }])
  fields := #[{ name := "LESS", type := (.object "com/example/meshwatch/meshwatch/Relation"), accessFlags := 16409, slot := 0, constantValue := 0 }, { name := "LESS_OR_EQUAL", type := (.object "com/example/meshwatch/meshwatch/Relation"), accessFlags := 16409, slot := 1, constantValue := 0 }, { name := "GREATER", type := (.object "com/example/meshwatch/meshwatch/Relation"), accessFlags := 16409, slot := 2, constantValue := 0 }, { name := "GREATER_OR_EQUAL", type := (.object "com/example/meshwatch/meshwatch/Relation"), accessFlags := 16409, slot := 3, constantValue := 0 }, { name := "EQUAL", type := (.object "com/example/meshwatch/meshwatch/Relation"), accessFlags := 16409, slot := 4, constantValue := 0 }, { name := "NOT_EQUAL", type := (.object "com/example/meshwatch/meshwatch/Relation"), accessFlags := 16409, slot := 5, constantValue := 0 }, { name := "$VALUES", type := (.array (.object "com/example/meshwatch/meshwatch/Relation")), accessFlags := 4122, slot := 6, constantValue := 0 }]
  methods := #[k6m0]
  instanceTypes := #[(.object "java/lang/String"), .int, .int]
  staticTypes := #[(.object "com/example/meshwatch/meshwatch/Relation"), (.object "com/example/meshwatch/meshwatch/Relation"), (.object "com/example/meshwatch/meshwatch/Relation"), (.object "com/example/meshwatch/meshwatch/Relation"), (.object "com/example/meshwatch/meshwatch/Relation"), (.object "com/example/meshwatch/meshwatch/Relation"), (.array (.object "com/example/meshwatch/meshwatch/Relation"))]
  resolved := Array.replicate 112 none
  statics := some 0 }

def pool7 : Array CpInfo := pool [(1, u "java/lang/Cloneable"), (0, .class_ 1), (0, u "java/lang/Object"), (0, .class_ 3)] 3

/-- java/lang/Cloneable -/
def k7 : Class := { plain "java/lang/Cloneable" (some 0) with
  accessFlags := 1537
  interfaces := #[]
  cf := some (fileOf pool7 2 #[] #[] 1537 4 #[] #[])
  fields := #[]
  methods := #[]
  instanceTypes := #[]
  staticTypes := #[]
  resolved := Array.replicate 8 none
  statics := none }

/-- the primitive byte -/
def k8 : Class := { plain "byte" none with kind := .primitive 'B', accessFlags := 0x411 }
/-- [B -/
def k9 : Class := { plain "[B" (some 0) with kind := .array 8 .byte, interfaces := #[7, 4], accessFlags := 1041 }

/-- the primitive int -/
def k10 : Class := { plain "int" none with kind := .primitive 'I', accessFlags := 0x411 }
/-- [I -/
def k11 : Class := { plain "[I" (some 0) with kind := .array 10 .int, interfaces := #[7, 4], accessFlags := 1041 }

def heap : Heap := #[{ cls := 6, slots := #[.ref 1, .ref 2, .ref 3, .ref 4, .ref 5, .ref 6, .null], vm := .statics 6 },
  { cls := 6, slots := #[.null, .int 0, .int 0], vm := .none },
  { cls := 6, slots := #[.null, .int 1, .int 0], vm := .none },
  { cls := 6, slots := #[.null, .int 2, .int 0], vm := .none },
  { cls := 6, slots := #[.null, .int 3, .int 0], vm := .none },
  { cls := 6, slots := #[.null, .int 4, .int 0], vm := .none },
  { cls := 6, slots := #[.null, .int 5, .int 0], vm := .none }]
def classes : Array Class := #[k0, k1, k2, k3, k4, k5, k6, k7, k8, k9, k10, k11]
def interned : List (Array UInt16 × Addr) := []
def slotsUsed : Nat := 25
def theMethod : MethodId := ⟨1, 1⟩
def args0 : Array Value := #[.int 1, .int 1, .int 1, .int 1]
def aboutOver (below : List Frame) : State where
  vm := { classes := classes, interned := interned.toArray }
  heap := heap
  slotsUsed := slotsUsed
  threads := #[{ frames := .invoking theMethod args0 :: below }]
def below0 : List Frame := [.native { method := ⟨0, 0⟩, args := #[] }]
def about1 : State := aboutOver below0
def p0 : Program := .bare "" "" ""
def e0 : Env := launch0.env 0 0 0
theorem w_frames : about1.frames = Frame.invoking theMethod args0 :: below0 := rfl
set_option maxRecDepth 65536 in
theorem w_args : argsFit about1.vm theMethod args0 = true := by decide +kernel
set_option maxRecDepth 65536 in
theorem w_heap : heapFits about1 = true := by decide +kernel
set_option maxRecDepth 65536 in
theorem w_runnable : about1.curStatus? = some .runnable := by decide +kernel
set_option maxRecDepth 65536 in
theorem w_alone : about1.alone = true := by decide +kernel
set_option maxRecDepth 65536 in
theorem w_named : about1.methodNamed? x = some theMethod := by decide +kernel
set_option maxRecDepth 65536 in
theorem w_hears : about1.hears theMethod below0 = true := by decide +kernel
set_option maxRecDepth 65536 in
theorem w_ripe : about1.ripe theMethod args0 below0 = true := by decide +kernel
theorem w_running : about1.status = .running := rfl
set_option maxRecDepth 65536 in
theorem w_room : about1.hasRoom e0.platform room_1 = true :=
  launch0.hasRoom_least _ room_1 (by decide +kernel) (by decide +kernel) (by decide +kernel) (by decide +kernel) (by decide +kernel) (by decide +kernel)
theorem allAtoms_all (ts : List Jvm.Cond) (a : Array Jvm.Value) (st : Jvm.State) : (allAtoms ts).before a st = ts.all (fun c => c.before a st) := by
  induction ts with
  | nil => rfl
  | cons c t ih =>
    show (Jvm.Cond.and c (allAtoms t)).before a st = _
    rw [Jvm.Cond.before_and, ih, List.all_cons]
def words1 : List Jvm.Cond := Jvm.Cond.code x code maxLocals ret :: tables_1
/-- a 'code' word, met by the world's own term for the bytes: nothing is compared byte by byte -/
theorem code_word {y : MethodName} {bytes : ByteArray} {mx : Nat} {rt : Option FieldType} {a : Array Value} {s : State} {m : MethodId} {meth : Method} {c : Code} (h1 : s.methodNamed? y = some m) (h2 : s.vm.method? m = some meth) (h3 : meth.code = some c) (h4 : c.code = bytes)
    (h5 : (c.maxLocals == mx && c.exceptionTable.isEmpty && decide (c.maxStack ≤ mostOperands) && decide (meth.sig.returnType = rt) && !meth.locks && decide (parseMethodDescriptor y.desc = some meth.sig)) = true) : (Jvm.Cond.code y bytes mx rt).before a s = true := by
  simp only [Bool.and_eq_true, beq_iff_eq, Bool.not_eq_true', decide_eq_true_eq] at h5
  obtain ⟨⟨⟨⟨⟨g1, g2⟩, g3⟩, g4⟩, g5⟩, g6⟩ := h5
  simp [Cond.before, Cond.holds, Cond.value, h1, h2, h3, h4, g1, g2, g3, g4, g5, g6]
def isCode : Jvm.Cond → Bool
  | .code _ _ _ _ => true
  | _ => false
theorem all_split {L : List Jvm.Cond} {P : Jvm.Cond → Bool} (h1 : L.all (fun c => isCode c || P c) = true) (h2 : ∀ c ∈ L.filter isCode, P c = true) : L.all P = true := by
  refine List.all_eq_true.mpr fun c hc => ?_
  have h := List.all_eq_true.mp h1 c hc
  rcases Bool.eq_false_or_eq_true (isCode c) with hi | hi
  · exact h2 c (List.mem_filter.mpr ⟨hc, hi⟩)
  · simpa [hi] using h
set_option maxRecDepth 65536 in
theorem w_c0 : (Jvm.Cond.code x code maxLocals ret).before args0 about1 = true := code_word (m := ⟨1, 1⟩) (meth := k1m1) (c := k1c1) (by decide +kernel) rfl rfl rfl (by decide +kernel)
set_option maxRecDepth 65536 in
theorem w_c1 : (Jvm.Cond.code ({ cls := "com/example/meshwatch/meshwatch/Relation", name := "holds", desc := "(DD)Z" } : Jvm.MethodName) prog_24_method_5_code (5 : Nat) (Option.some Jvm.ClassFile.FieldType.boolean)).before args0 about1 = true := code_word (m := ⟨6, 0⟩) (meth := k6m0) (c := k6c0) (by decide +kernel) rfl rfl rfl (by decide +kernel)
set_option maxRecDepth 65536 in
theorem w_c2 : (Jvm.Cond.code ({ cls := "java/lang/Enum", name := "ordinal", desc := "()I" } : Jvm.MethodName) jdk_37_method_2_code (1 : Nat) (Option.some Jvm.ClassFile.FieldType.int)).before args0 about1 = true := code_word (m := ⟨5, 0⟩) (meth := k5m0) (c := k5c0) (by decide +kernel) rfl rfl rfl (by decide +kernel)
def codes1 : List Jvm.Cond := [Jvm.Cond.code x code maxLocals ret, Jvm.Cond.code ({ cls := "com/example/meshwatch/meshwatch/Relation", name := "holds", desc := "(DD)Z" } : Jvm.MethodName) prog_24_method_5_code (5 : Nat) (Option.some Jvm.ClassFile.FieldType.boolean), Jvm.Cond.code ({ cls := "java/lang/Enum", name := "ordinal", desc := "()I" } : Jvm.MethodName) jdk_37_method_2_code (1 : Nat) (Option.some Jvm.ClassFile.FieldType.int)]
set_option maxRecDepth 65536 in
theorem codes_eq : words1.filter isCode = codes1 := rfl
theorem w_codes : ∀ c ∈ words1.filter isCode, c.before args0 about1 = true := by
  rw [codes_eq]
  intro c hc
  simp only [codes1, List.mem_cons, List.not_mem_nil, or_false] at hc
  rcases hc with rfl | rfl | rfl
  · exact w_c0
  · exact w_c1
  · exact w_c2
set_option maxRecDepth 65536 in
theorem w_t1 : (words1.take 24).all (fun c => isCode c || c.before args0 about1) = true := by decide +kernel
set_option maxRecDepth 65536 in
theorem w_t2 : (words1.drop 24).all (fun c => isCode c || c.before args0 about1) = true := by decide +kernel
theorem w_tables : (allAtoms (Jvm.Cond.code x code maxLocals ret :: tables_1)).before args0 about1 = true := by
  rw [allAtoms_all]
  show words1.all (fun c => c.before args0 about1) = true
  refine all_split ?_ w_codes
  rw [← List.take_append_drop 24 words1, List.all_append, w_t1, w_t2]
  rfl
set_option maxRecDepth 65536 in
theorem w_case : (Jvm.Cond.and given_1 narrow_1).before args0 about1 = true := by decide +kernel
theorem w_applies : (headSpec (Jvm.Cond.code x code maxLocals ret :: tables_1) room_1).applies x e0.platform about1 = true :=
  (Spec.applies_iff w_frames).mpr ⟨w_running, w_runnable, w_alone, w_named, w_hears, w_ripe, w_room, w_tables⟩
theorem atStart : AtStart classFile x code maxLocals ret World_1 tables_1 room_1 Calls_1 rest_1 Pre_1 launch0 p0 e0 about1 theMethod args0 below0 :=
  ⟨lists_1, trivial, launch0.admits_env _ _ _, launch0.least_env, fairChoices_fair.cas, fairChoices_fair.clock, w_frames, w_args, w_heap, w_applies, trivial, trivial, w_case⟩
end start1
theorem witness_1 : WitnessClaimed_1 := ⟨start1.p0, start1.e0, start1.about1, start1.theMethod, start1.args0, start1.below0, start1.atStart⟩
end Jvm.Pilot.@@N@@
