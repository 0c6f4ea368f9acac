import JvmDerived
import JvmDerived.Pilot.@@N@@Statement
import JvmDerived.Pilot.@@N@@Code
set_option linter.unusedVariables false
set_option linter.unusedSimpArgs false
namespace Jvm.Pilot.@@N@@
open Jvm Jvm.ClassFile Sem Op Lib Jvm.Free Jvm.Stand Jvm.LawKit Jvm.RoadKit Bundle Jvm.Pilot.@@N@@.Jvm.D
section OwnWalk
variable {p : Program} {l : Launch} {e : Env} {R : Room} {s : State} {m : MethodId} {args : Array Value} {below : List Frame} {meth : Method} {c : Code} {T T' : State} {locs : List Loc} {cells slots kc ks : Nat} {g g' : JFrame} {Q : Option Value → Heap → List Loc → Prop}
/-- from here the run comes to its end, and the end is as Q says -/
def own_G (p : Program) (e : Env) (below : List Frame) (s : State) (Q : Option Value → Heap → List Loc → Prop) (kc ks : Nat) (T : State) (g : JFrame) : Prop :=
  ∃ s₂ o, Steps p.tables e below (T.setTop g) s₂ ∧ s₂.status = .running ∧ Ended s₂ below o ∧ ∃ v L, o = .returned v ∧ Q v s₂.heap L ∧ FrameEnd s o s₂ L kc ks
theorem own_enter (q : g = g') (k : own_G p e below s Q kc ks T g') : own_G p e below s Q kc ks T g := q ▸ k
theorem own_st (st : ∀ t, Steps p.tables e below (T'.setTop g') t → Steps p.tables e below (T.setTop g) t) (k : own_G p e below s Q kc ks T' g') : own_G p e below s Q kc ks T g := by
  obtain ⟨s₂, o, h1, h2⟩ := k
  exact ⟨s₂, o, st _ h1, h2⟩
theorem own_tr (st : Steps p.tables e below (T.setTop g) (T'.setTop g')) (k : own_G p e below s Q kc ks T' g') : own_G p e below s Q kc ks T g := own_st (fun _ h => st.trans h) k
theorem own_ret (X : Stand p l e R s m args below meth c T locs cells slots) (hx : p.tables.exec = Jvm.exec) (hlk : meth.locks = false) {pc : Nat} {Ls : Array Slot} {w : Value} {t : FieldType} {i : Instr} {rest : List Value} (hret : meth.sig.returnType = some t) (hn : narrow t w = w)
    (hi : (i = .ireturn ∧ (t = .int ∨ t = .boolean ∨ t = .byte ∨ t = .char ∨ t = .short) ∧ ∃ z, w = .int z) ∨ (i = .lreturn ∧ t = .long ∧ ∃ z, w = .long z) ∨ (i = .dreturn ∧ t = .double ∧ ∃ z, w = .double z) ∨ (i = .freturn ∧ t = .float ∧ ∃ z, w = .float z) ∨ (i = .areturn ∧ t.isReference = true ∧ w.isRef = true))
    (hd : decode c.code pc = .ok (i, 1)) (hc : cells ≤ kc) (hs : slots ≤ ks) (hQ : Q (some w) T.heap locs) : own_G p e below s Q kc ks T (mkF m pc Ls (w :: rest)) := by
  obtain ⟨fs, hr, hrun, hended, hW, hsame⟩ := X.leave (v := some w) (fun h => by rw [hret] at h; cases h) hlk
  exact ⟨_, _, retOut X hx hret hn hi hd hr, hrun, hended, _, _, rfl, hQ, ⟨_, rfl⟩, hW, hsame.mono hc hs⟩
theorem own_retI (X : Stand p l e R s m args below meth c T locs cells slots) (hx : p.tables.exec = Jvm.exec) (hlk : meth.locks = false) {pc : Nat} {Ls : Array Slot} {z : Int32} {rest : List Value} (hret : meth.sig.returnType = some .int)
    (hd : decode c.code pc = .ok (.ireturn, 1)) (hc : cells ≤ kc) (hs : slots ≤ ks) (hQ : Q (some (.int z)) T.heap locs) : own_G p e below s Q kc ks T (mkF m pc Ls (.int z :: rest)) :=
  own_ret X hx hlk hret rfl (Or.inl ⟨rfl, Or.inl rfl, z, rfl⟩) hd hc hs hQ
theorem own_retZ (X : Stand p l e R s m args below meth c T locs cells slots) (hx : p.tables.exec = Jvm.exec) (hlk : meth.locks = false) {pc : Nat} {Ls : Array Slot} {z : Int32} {rest : List Value} (hret : meth.sig.returnType = some .boolean)
    (hd : decode c.code pc = .ok (.ireturn, 1)) (hn : narrow .boolean (.int z) = .int z) (hc : cells ≤ kc) (hs : slots ≤ ks) (hQ : Q (some (.int z)) T.heap locs) : own_G p e below s Q kc ks T (mkF m pc Ls (.int z :: rest)) :=
  own_ret X hx hlk hret hn (Or.inl ⟨rfl, Or.inr (Or.inl rfl), z, rfl⟩) hd hc hs hQ
theorem own_retJ (X : Stand p l e R s m args below meth c T locs cells slots) (hx : p.tables.exec = Jvm.exec) (hlk : meth.locks = false) {pc : Nat} {Ls : Array Slot} {z : Int64} {rest : List Value} (hret : meth.sig.returnType = some .long)
    (hd : decode c.code pc = .ok (.lreturn, 1)) (hc : cells ≤ kc) (hs : slots ≤ ks) (hQ : Q (some (.long z)) T.heap locs) : own_G p e below s Q kc ks T (mkF m pc Ls (.long z :: rest)) :=
  own_ret X hx hlk hret rfl (Or.inr (Or.inl ⟨rfl, rfl, z, rfl⟩)) hd hc hs hQ
theorem own_retD (X : Stand p l e R s m args below meth c T locs cells slots) (hx : p.tables.exec = Jvm.exec) (hlk : meth.locks = false) {pc : Nat} {Ls : Array Slot} {z : UInt64} {rest : List Value} (hret : meth.sig.returnType = some .double)
    (hd : decode c.code pc = .ok (.dreturn, 1)) (hc : cells ≤ kc) (hs : slots ≤ ks) (hQ : Q (some (.double z)) T.heap locs) : own_G p e below s Q kc ks T (mkF m pc Ls (.double z :: rest)) :=
  own_ret X hx hlk hret rfl (Or.inr (Or.inr (Or.inl ⟨rfl, rfl, z, rfl⟩))) hd hc hs hQ
theorem own_retA (X : Stand p l e R s m args below meth c T locs cells slots) (hx : p.tables.exec = Jvm.exec) (hlk : meth.locks = false) {pc : Nat} {Ls : Array Slot} {w : Value} {t : FieldType} {rest : List Value} (hret : meth.sig.returnType = some t) (ht : t.isReference = true) (hw : w.isRef = true)
    (hd : decode c.code pc = .ok (.areturn, 1)) (hc : cells ≤ kc) (hs : slots ≤ ks) (hQ : Q (some w) T.heap locs) : own_G p e below s Q kc ks T (mkF m pc Ls (w :: rest)) :=
  own_ret X hx hlk hret (by cases t <;> first | (cases ht; done) | (cases w <;> first | (cases hw; done) | rfl)) (Or.inr (Or.inr (Or.inr (Or.inr ⟨rfl, ht, hw⟩)))) hd hc hs hQ
theorem own_retV (X : Stand p l e R s m args below meth c T locs cells slots) (hx : p.tables.exec = Jvm.exec) (hlk : meth.locks = false) {pc : Nat} {Ls : Array Slot} (hret : meth.sig.returnType = none)
    (hd : decode c.code pc = .ok (.return_, 1)) (hc : cells ≤ kc) (hs : slots ≤ ks) (hQ : Q none T.heap locs) : own_G p e below s Q kc ks T (mkF m pc Ls []) := by
  obtain ⟨fs, hr, hrun, hended, hW, hsame⟩ := X.leave (v := none) (fun _ => rfl) hlk
  exact ⟨_, _, X.returnOut hx hret hd hr, hrun, hended, _, _, rfl, hQ, ⟨_, rfl⟩, hW, hsame.mono hc hs⟩
end OwnWalk
section OwnFloat
/-! ## Doubles as fractions: x is n / 2^k, exactly -/
def own_Dy (x : UInt64) (n : Int) (k : Nat) : Prop :=
  (∃ s c q, FP.Core.val64 x = .fin s c q) ∧ k ≤ 1074 ∧ FP.Core.zval FP.Core.b64 (FP.Core.val64 x) = n * ((2 ^ (1074 - k) : Nat) : Int)
theorem own_qmax : FP.Core.b64.qmax = 971 := by decide
theorem own_p : FP.Core.b64.p = 53 := by decide
theorem own_signed_abs (n : Int) : FP.Core.signed (decide (n < 0)) n.natAbs = n := by
  unfold FP.Core.signed; by_cases h : n < 0 <;> simp [h] <;> omega
/-- every n / 2^k with |n| < 2^53 is a double's value -/
theorem own_fitV {n : Int} {k : Nat} (hk : k ≤ 1074) (hn : n.natAbs < 9007199254740992) :
    ∃ V, FP.Core.fits FP.Core.b64 V ∧ (∃ s c q, V = .fin s c q) ∧ FP.Core.zval FP.Core.b64 V = n * ((2 ^ (1074 - k) : Nat) : Int) := by
  obtain ⟨c', q', h1, h2⟩ := FP.Core.round_exact FP.Core.good_b64 (decide (n < 0)) (c := n.natAbs) (q := -(k : Int)) (by rw [own_p]; exact hn) (by rw [FP.Core.qmin_b64]; omega) (by rw [own_qmax]; omega)
  refine ⟨_, FP.Core.round_fits FP.Core.good_b64 (.fin (decide (n < 0)) n.natAbs (-(k : Int))), ⟨_, _, _, h1⟩, ?_⟩
  rw [h1]
  show FP.Core.signed (decide (n < 0)) (FP.Core.inUnits c' q' FP.Core.b64.qmin) = _
  rw [h2]
  unfold FP.Core.inUnits
  rw [FP.Core.qmin_b64, show (-(k : Int) - -1074).toNat = 1074 - k by omega, FP.Core.signed_mul, own_signed_abs]
/-- what is worth n / 2^k rounds to that -/
theorem own_round {s : Bool} {c : Nat} {q e0 n : Int} {k : Nat} (hk : k ≤ 1074) (hn : n.natAbs < 9007199254740992) (h0 : e0 ≤ -1074) (h1 : e0 ≤ q)
    (h : FP.Core.signed s (FP.Core.inUnits c q e0) = n * ((2 ^ (1074 - k) : Nat) : Int) * ((2 ^ (-1074 - e0).toNat : Nat) : Int)) :
    (∃ s' c' q', FP.Core.round FP.Core.b64 (.fin s c q) = .fin s' c' q') ∧ FP.Core.zval FP.Core.b64 (FP.Core.round FP.Core.b64 (.fin s c q)) = n * ((2 ^ (1074 - k) : Nat) : Int) := by
  obtain ⟨V, v1, ⟨vs, vc, vq, v2⟩, v3⟩ := own_fitV hk hn
  have hne : V ≠ .nan := by rw [v2]; exact FP.Core.Datum.noConfusion
  have hq := FP.Core.qmin_b64
  have le := FP.Core.zval_round_le FP.Core.good_b64 (s := s) (c := c) (q := q) (e0 := e0) v1 hne (by rw [hq]; exact h0) h1 (by rw [hq, v3, h]; exact Int.le_refl _)
  have ge := FP.Core.zval_round_ge FP.Core.good_b64 (s := s) (c := c) (q := q) (e0 := e0) v1 hne (by rw [hq]; exact h0) h1 (by rw [hq, v3, h]; exact Int.le_refl _)
  have e : FP.Core.zval FP.Core.b64 (FP.Core.round FP.Core.b64 (.fin s c q)) = FP.Core.zval FP.Core.b64 V := Int.le_antisymm le ge
  refine ⟨?_, e.trans v3⟩
  rcases FP.Core.roundRatio_cases FP.Core.b64 s c 1 q with ⟨c', q', h'⟩ | h'
  · exact ⟨_, _, _, h'⟩
  · exfalso
    have e' : FP.Core.zval FP.Core.b64 (FP.Core.roundRatio FP.Core.b64 s c 1 q) = FP.Core.zval FP.Core.b64 V := e
    rw [h', v2] at e'
    rw [v2] at v1
    have hlt := FP.Core.zmag_lt_top FP.Core.good_b64 v1
    have e2 : FP.Core.signed s (FP.Core.b64.tails * 2 ^ (FP.Core.b64.exps - 2)) = FP.Core.signed vs (FP.Core.inUnits vc vq FP.Core.b64.qmin) := e'
    clear e'
    generalize FP.Core.inUnits vc vq FP.Core.b64.qmin = a at e2 hlt
    generalize FP.Core.b64.tails * 2 ^ (FP.Core.b64.exps - 2) = b at e2 hlt
    cases s <;> cases vs <;> simp only [FP.Core.signed, if_true, Bool.false_eq_true, if_false] at e2 <;> omega
theorem own_Dy.fin {x : UInt64} {n : Int} {k : Nat} (h : own_Dy x n k) : Fl.Fin64 x := by
  obtain ⟨⟨s, c, q, h1⟩, -⟩ := h
  exact Fl.fin64_core.mpr ⟨s, c, q, h1⟩
theorem own_Dy.nn {x : UInt64} {n : Int} {k : Nat} (h : own_Dy x n k) : Fl.NoNaN64 x := h.fin.noNaN
theorem own_Dy.ne {x : UInt64} {n : Int} {k : Nat} (h : own_Dy x n k) : FP.Core.val64 x ≠ .nan := by
  obtain ⟨⟨s, c, q, h1⟩, -⟩ := h; rw [h1]; exact FP.Core.Datum.noConfusion
theorem own_pow {j k : Nat} (h : j + k ≤ 1074) : ((2 ^ (1074 - j) : Nat) : Int) = ((2 ^ k : Nat) : Int) * ((2 ^ (1074 - (j + k)) : Nat) : Int) := by
  rw [← Int.natCast_mul, ← Nat.pow_add]; congr 2; omega
/-- the same number, with a greater denominator -/
theorem own_Dy.up {x : UInt64} {n : Int} {k : Nat} (h : own_Dy x n k) (j : Nat) (hj : k + j ≤ 1074) : own_Dy x (n * ((2 ^ j : Nat) : Int)) (k + j) := by
  obtain ⟨h1, -, h3⟩ := h
  refine ⟨h1, hj, ?_⟩
  rw [h3, own_pow hj, Int.mul_assoc]
theorem own_Dy.dn {x : UInt64} {n : Int} {k j : Nat} (h : own_Dy x (n * ((2 ^ j : Nat) : Int)) (k + j)) : own_Dy x n k := by
  obtain ⟨h1, h2, h3⟩ := h
  refine ⟨h1, by omega, ?_⟩
  rw [h3, own_pow h2, Int.mul_assoc]
theorem own_dy_l2d {a : Int64} (h1 : -9007199254740992 < a.toInt) (h2 : a.toInt < 9007199254740992) : own_Dy (FP.l2d a) a.toInt 0 := by
  have hr := own_round (s := decide (a.toInt < 0)) (c := a.toInt.natAbs) (q := 0) (e0 := -1074) (n := a.toInt) (k := 0) (by omega) (by omega) (by omega) (by omega) (by
    unfold FP.Core.inUnits
    rw [FP.Core.signed_mul, own_signed_abs, show (0 - -1074 : Int).toNat = 1074 from rfl, show (-1074 - -1074 : Int).toNat = 0 from rfl, Nat.pow_zero, Int.natCast_one, Int.mul_one])
  have hv : FP.Core.val64 (FP.l2d a) = FP.Core.round FP.Core.b64 (.fin (decide (a.toInt < 0)) a.toInt.natAbs 0) := FP.Core.val64_l2d a
  unfold own_Dy
  rw [hv]
  exact ⟨hr.1, by omega, hr.2⟩
theorem own_dy_i2d (a : Int32) : own_Dy (FP.i2d a) a.toInt 0 := by
  have h := Int32.toInt_lt a
  have h' := Int32.le_toInt a
  have e : a.toInt64.toInt = a.toInt := Int32.toInt_toInt64 a
  have := own_dy_l2d (a := a.toInt64) (by omega) (by omega)
  rw [e] at this
  exact (FP.Core.i2d_l2d a ▸ this : own_Dy (FP.Core.i2d a) a.toInt 0)
theorem own_Dy.add {x y : UInt64} {n m : Int} {k : Nat} (hx : own_Dy x n k) (hy : own_Dy y m k) (h : (n + m).natAbs < 9007199254740992) : own_Dy (FP.dadd x y) (n + m) k := by
  obtain ⟨⟨s, c, q, hx1⟩, hk, hx3⟩ := hx
  obtain ⟨⟨t, d, r, hy1⟩, -, hy3⟩ := hy
  obtain ⟨sg, w, e, h1, h2, h3⟩ := FP.Core.sum_units (f := FP.Core.b64) (hx1 ▸ FP.Core.val64_fits x) (hy1 ▸ FP.Core.val64_fits y)
  have hq := FP.Core.qmin_b64
  rw [← hx1, ← hy1, hx3, hy3, ← Int.add_mul] at h3
  have hr := own_round (s := sg) (c := w) (q := e) (e0 := -1074) (n := n + m) (k := k) hk h (by omega) (by rw [hq] at h2; exact h2) (by
    rw [hq] at h3; rw [h3, show (-1074 - -1074 : Int).toNat = 0 from rfl, Nat.pow_zero, Int.natCast_one, Int.mul_one])
  have hv : FP.Core.val64 (FP.dadd x y) = FP.Core.round FP.Core.b64 (.fin sg w e) := by
    have := FP.Core.val64_dadd x y
    rw [hx1, hy1, h1] at this
    exact this
  unfold own_Dy
  rw [hv]
  exact ⟨hr.1, hk, hr.2⟩
theorem own_Dy.sub {x y : UInt64} {n m : Int} {k : Nat} (hx : own_Dy x n k) (hy : own_Dy y m k) (h : (n - m).natAbs < 9007199254740992) : own_Dy (FP.dsub x y) (n - m) k := by
  obtain ⟨⟨s, c, q, hx1⟩, hk, hx3⟩ := hx
  obtain ⟨⟨t, d, r, hy1⟩, -, hy3⟩ := hy
  have hyn : FP.Core.fits FP.Core.b64 (FP.Core.negate (.fin t d r)) := FP.Core.negate_fits (hy1 ▸ FP.Core.val64_fits y)
  obtain ⟨sg, w, e, h1, h2, h3⟩ := FP.Core.sum_units (f := FP.Core.b64) (s := s) (c := c) (q := q) (t := !t) (d := d) (r := r) (hx1 ▸ FP.Core.val64_fits x) hyn
  have hq := FP.Core.qmin_b64
  have hneg : FP.Core.zval FP.Core.b64 (.fin (!t) d r) = -(m * ((2 ^ (1074 - k) : Nat) : Int)) := by
    rw [← hy3, hy1]; exact FP.Core.zval_negate FP.Core.b64 (.fin t d r)
  rw [← hx1, hx3, hneg, ← Int.sub_eq_add_neg, ← Int.sub_mul] at h3
  have hr := own_round (s := sg) (c := w) (q := e) (e0 := -1074) (n := n - m) (k := k) hk h (by omega) (by rw [hq] at h2; exact h2) (by
    rw [hq] at h3; rw [h3, show (-1074 - -1074 : Int).toNat = 0 from rfl, Nat.pow_zero, Int.natCast_one, Int.mul_one])
  have hv : FP.Core.val64 (FP.dsub x y) = FP.Core.round FP.Core.b64 (.fin sg w e) := by
    have := FP.Core.val64_dsub x y
    rw [hx1, hy1] at this
    exact this.trans (congrArg _ h1)
  unfold own_Dy
  rw [hv]
  exact ⟨hr.1, hk, hr.2⟩
theorem own_Dy.mul {x y : UInt64} {n m : Int} {k j : Nat} (hx : own_Dy x n k) (hy : own_Dy y m j) (hkj : k + j ≤ 1074) (h : (n * m).natAbs < 9007199254740992) : own_Dy (FP.dmul x y) (n * m) (k + j) := by
  obtain ⟨⟨s, c, q, hx1⟩, hk, hx3⟩ := hx
  obtain ⟨⟨t, d, r, hy1⟩, hj, hy3⟩ := hy
  obtain ⟨h1, h2, h3⟩ := FP.Core.product_units (f := FP.Core.b64) (hx1 ▸ FP.Core.val64_fits x) (hy1 ▸ FP.Core.val64_fits y)
  have hq := FP.Core.qmin_b64
  have hs : FP.Core.signed (s != t) (FP.Core.zmag FP.Core.b64 (.fin s c q) * FP.Core.zmag FP.Core.b64 (.fin t d r)) = FP.Core.zval FP.Core.b64 (.fin s c q) * FP.Core.zval FP.Core.b64 (.fin t d r) := by
    show _ = FP.Core.signed s (FP.Core.zmag FP.Core.b64 (.fin s c q)) * FP.Core.signed t (FP.Core.zmag FP.Core.b64 (.fin t d r))
    generalize FP.Core.zmag FP.Core.b64 (.fin s c q) = a
    generalize FP.Core.zmag FP.Core.b64 (.fin t d r) = b
    cases s <;> cases t <;> simp [FP.Core.signed, Int.natCast_mul, Int.neg_mul, Int.mul_neg]
  have hr := own_round (s := s != t) (c := c * d) (q := q + r) (e0 := -2148) (n := n * m) (k := k + j) hkj h (by omega) (by rw [hq] at h2; omega) (by
    rw [hq] at h3
    have h3' : FP.Core.inUnits (c * d) (q + r) (-2148) = FP.Core.zmag FP.Core.b64 (FP.Core.Datum.fin s c q) * FP.Core.zmag FP.Core.b64 (FP.Core.Datum.fin t d r) := h3
    rw [h3', hs, ← hx1, ← hy1, hx3, hy3, show (-1074 - -2148 : Int).toNat = 1074 from rfl]
    have e1 : ((2 ^ (1074 - k) : Nat) : Int) * ((2 ^ (1074 - j) : Nat) : Int) = ((2 ^ (1074 - (k + j)) : Nat) : Int) * ((2 ^ 1074 : Nat) : Int) := by
      rw [← Int.natCast_mul, ← Int.natCast_mul, ← Nat.pow_add, ← Nat.pow_add]; congr 2; omega
    generalize ((2 ^ (1074 - k) : Nat) : Int) = A at e1 ⊢
    generalize ((2 ^ (1074 - j) : Nat) : Int) = B at e1 ⊢
    generalize ((2 ^ (1074 - (k + j)) : Nat) : Int) = C at e1 ⊢
    generalize ((2 ^ 1074 : Nat) : Int) = D at e1 ⊢
    calc n * A * (m * B) = n * m * (A * B) := by ac_rfl
      _ = n * m * C * D := by rw [e1]; ac_rfl)
  have hv : FP.Core.val64 (FP.dmul x y) = FP.Core.round FP.Core.b64 (.fin (s != t) (c * d) (q + r)) := by
    have := FP.Core.val64_dmul x y
    rw [hx1, hy1] at this
    exact this.trans (congrArg _ h1)
  unfold own_Dy
  rw [hv]
  exact ⟨hr.1, hkj, hr.2⟩
theorem own_Dy.cmp {x y : UInt64} {n m : Int} {k : Nat} (hx : own_Dy x n k) (hy : own_Dy y m k) : FP.dcmp x y = some (compare n m) := by
  have h := FP.Core.dcmp_zval hx.ne hy.ne
  rw [hx.2.2, hy.2.2, FP.Core.compare_mul_pos _ _ _ (by have := Nat.two_pow_pos (1074 - k); omega)] at h
  exact h
theorem own_Dy.eq {x y : UInt64} {n m : Int} {k : Nat} (hx : own_Dy x n k) (hy : own_Dy y m k) (h : n = m) (o : CmpOp) : cmpValue (FP.dcmp x y) o = 0 := by
  rw [hx.cmp hy, (FP.Core.compare_eq_iff n m).mpr h]; rfl
theorem own_Dy.lt {x y : UInt64} {n m : Int} {k : Nat} (hx : own_Dy x n k) (hy : own_Dy y m k) (h : n < m) (o : CmpOp) : cmpValue (FP.dcmp x y) o = -1 := by
  rw [hx.cmp hy, (FP.Core.compare_lt_iff n m).mpr h]; rfl
theorem own_Dy.gt {x y : UInt64} {n m : Int} {k : Nat} (hx : own_Dy x n k) (hy : own_Dy y m k) (h : m < n) (o : CmpOp) : cmpValue (FP.dcmp x y) o = 1 := by
  rw [hx.cmp hy, (FP.Core.compare_gt_iff n m).mpr h]; rfl
end OwnFloat
section OwnInt
theorem own_ladd {a b : Int64} (h : (a.toInt + b.toInt).natAbs < 9223372036854775808) : (a + b).toInt = a.toInt + b.toInt := by
  have q := c_ladd a b; have r := rng64 (a + b); omega
theorem own_lsub {a b : Int64} (h : (a.toInt - b.toInt).natAbs < 9223372036854775808) : (a - b).toInt = a.toInt - b.toInt := by
  have q := c_lsub a b; have r := rng64 (a - b); omega
theorem own_lmul {a b : Int64} (h : (a.toInt * b.toInt).natAbs < 9223372036854775808) : (a * b).toInt = a.toInt * b.toInt := by
  have q := c_lmul a b; have r := rng64 (a * b); generalize a.toInt * b.toInt = z at *; omega
theorem own_iadd {a b : Int32} (h : (a.toInt + b.toInt).natAbs < 2147483648) : (a + b).toInt = a.toInt + b.toInt := by
  have q := c_iadd a b; have r := rng32 (a + b); omega
theorem own_isub {a b : Int32} (h : (a.toInt - b.toInt).natAbs < 2147483648) : (a - b).toInt = a.toInt - b.toInt := by
  have q := c_isub a b; have r := rng32 (a - b); omega
theorem own_imul {a b : Int32} (h : (a.toInt * b.toInt).natAbs < 2147483648) : (a * b).toInt = a.toInt * b.toInt := by
  have q := c_imul a b; have r := rng32 (a * b); generalize a.toInt * b.toInt = z at *; omega
theorem own_absmul {n m : Int} {A B : Nat} (hn : n.natAbs ≤ A) (hm : m.natAbs ≤ B) : (n * m).natAbs ≤ A * B := by
  rw [Int.natAbs_mul]; exact Nat.mul_le_mul hn hm
end OwnInt
section OwnShift
theorem own_bv {q : Int32} {n : Nat} (h : q.toInt = (n : Int)) : q.toBitVec.toNat = n := by
  have h1 : q.toBitVec.toInt = (n : Int) := h
  have h2 := BitVec.toInt_eq_toNat_cond q.toBitVec
  have h3 := q.toBitVec.isLt
  split at h2 <;> omega
theorem own_lshl {x : Int64} {q : Int32} {n : Nat} (hq : q.toInt = (n : Int)) (hn : n < 64) (hb : (x.toInt * ((2 ^ n : Nat) : Int)).natAbs < 9223372036854775808) : (x <<< (q &&& 0x3f).toInt64).toInt = x.toInt * ((2 ^ n : Nat) : Int) := by
  have h1 := c_lshl x q n (by rw [own_bv hq]; omega)
  have h2 := rng64 (x <<< (q &&& 0x3f).toInt64)
  generalize x.toInt * ((2 ^ n : Nat) : Int) = z at *
  omega
theorem own_ishl {x : Int32} {q : Int32} {n : Nat} (hq : q.toInt = (n : Int)) (hn : n < 32) (hb : (x.toInt * ((2 ^ n : Nat) : Int)).natAbs < 2147483648) : (x <<< (q &&& 31)).toInt = x.toInt * ((2 ^ n : Nat) : Int) := by
  have h1 := c_ishl x q n (by rw [own_bv hq]; omega)
  have h2 := rng32 (x <<< (q &&& 31))
  generalize x.toInt * ((2 ^ n : Nat) : Int) = z at *
  omega
theorem own_ishl1 {q : Int32} {n : Nat} (hq : q.toInt = (n : Int)) (hn : n < 31) : ((1 : Int32) <<< (q &&& 31)).toInt = ((2 ^ n : Nat) : Int) := by
  have e : (1 : Int32).toInt = 1 := by decide
  have hp : 2 ^ n ≤ 2 ^ 30 := Nat.pow_le_pow_right (by omega) (by omega)
  rw [own_ishl hq (by omega) (by rw [e, Int.one_mul, Int.natAbs_natCast]; omega), e, Int.one_mul]
theorem own_lshl1 {q : Int32} {n : Nat} (hq : q.toInt = (n : Int)) (hn : n < 63) : ((1 : Int64) <<< (q &&& 0x3f).toInt64).toInt = ((2 ^ n : Nat) : Int) := by
  have e : (1 : Int64).toInt = 1 := by decide
  have hp : 2 ^ n ≤ 2 ^ 62 := Nat.pow_le_pow_right (by omega) (by omega)
  rw [own_lshl hq (by omega) (by rw [e, Int.one_mul, Int.natAbs_natCast]; omega), e, Int.one_mul]
/-- a mask of ones: what is left is some natural below the power -/
theorem own_andN (x : Int32) (mk : Int32) (M : Nat) (hM : mk.toInt = (M : Int)) : ∃ n : Nat, (x &&& mk).toInt = (n : Int) ∧ n ≤ M := by
  have h := c_and x mk (by omega)
  exact ⟨(x &&& mk).toInt.toNat, by omega, by omega⟩
theorem own_andL (x : Int64) (mk : Int64) (k : Nat) (hk : k ≤ 63) (hm : mk.toBitVec.toNat = 2 ^ k - 1) : ∃ n : Nat, (x &&& mk).toInt = (n : Int) ∧ n < 2 ^ k := by
  have h := c_maskL x mk k hk hm
  have hp := Nat.two_pow_pos k
  have h1 := Int.emod_nonneg x.toInt (show ((2 ^ k : Nat) : Int) ≠ 0 by omega)
  have h2 := Int.emod_lt_of_pos x.toInt (show (0 : Int) < ((2 ^ k : Nat) : Int) by omega)
  exact ⟨(x &&& mk).toInt.toNat, by omega, by omega⟩
theorem own_irem {x y : Int32} (hx : 0 ≤ x.toInt) (hy : 0 < y.toInt) : (x % y).toInt = x.toInt % y.toInt := by
  rw [Int32.toInt_mod, Int.tmod_eq_emod_of_nonneg hx]
theorem own_lrem {x y : Int64} (hx : 0 ≤ x.toInt) (hy : 0 < y.toInt) : (x - x / y * y).toInt = x.toInt % y.toInt := by
  rw [lrem_mod, Int64.toInt_mod, Int.tmod_eq_emod_of_nonneg hx]
end OwnShift
section OwnPlain
def own_h0 (r : Option Ordering) : Int32 := if ifCond.holds .ge (cmpValue r .g) = true then 0 else 1
def own_h1 (r : Option Ordering) : Int32 := if ifCond.holds .gt (cmpValue r .g) = true then 0 else 1
def own_h2 (r : Option Ordering) : Int32 := if ifCond.holds .le (cmpValue r .l) = true then 0 else 1
def own_h3 (r : Option Ordering) : Int32 := if ifCond.holds .lt (cmpValue r .l) = true then 0 else 1
def own_h4 (r : Option Ordering) : Int32 := if ifCond.holds .ne (cmpValue r .l) = true then 0 else 1
def own_h5 (r : Option Ordering) : Int32 := if ifCond.holds .eq (cmpValue r .l) = true then 0 else 1
theorem own_n0 {x y : UInt64} {n m : Int} (hx : own_Dy x n 0) (hy : own_Dy y m 0) : ¬ (own_h3 (FP.dcmp x y) = own_h0 (FP.dcmp x y)) := by
  rw [hx.cmp hy]; cases compare n m <;> decide
theorem own_n1 {x y : UInt64} {n m : Int} (hx : own_Dy x n 0) (hy : own_Dy y m 0) : ¬ (own_h2 (FP.dcmp x y) = own_h1 (FP.dcmp x y)) := by
  rw [hx.cmp hy]; cases compare n m <;> decide
theorem own_n2 {x y : UInt64} {n m : Int} (hx : own_Dy x n 0) (hy : own_Dy y m 0) : ¬ (own_h1 (FP.dcmp x y) = own_h2 (FP.dcmp x y)) := by
  rw [hx.cmp hy]; cases compare n m <;> decide
theorem own_n3 {x y : UInt64} {n m : Int} (hx : own_Dy x n 0) (hy : own_Dy y m 0) : ¬ (own_h0 (FP.dcmp x y) = own_h3 (FP.dcmp x y)) := by
  rw [hx.cmp hy]; cases compare n m <;> decide
theorem own_n4 {x y : UInt64} {n m : Int} (hx : own_Dy x n 0) (hy : own_Dy y m 0) : ¬ (own_h5 (FP.dcmp x y) = own_h4 (FP.dcmp x y)) := by
  rw [hx.cmp hy]; cases compare n m <;> decide
theorem own_n5 {x y : UInt64} {n m : Int} (hx : own_Dy x n 0) (hy : own_Dy y m 0) : ¬ (own_h4 (FP.dcmp x y) = own_h5 (FP.dcmp x y)) := by
  rw [hx.cmp hy]; cases compare n m <;> decide
theorem own_six (p : Int32) : (p &&& (2147483647 : Int32)) % (6 : Int32) = 0 ∨ (p &&& (2147483647 : Int32)) % (6 : Int32) = 1 ∨ (p &&& (2147483647 : Int32)) % (6 : Int32) = 2 ∨ (p &&& (2147483647 : Int32)) % (6 : Int32) = 3 ∨ (p &&& (2147483647 : Int32)) % (6 : Int32) = 4 ∨ (p &&& (2147483647 : Int32)) % (6 : Int32) = 5 := by
  have h1 := c_and p 2147483647 (by decide)
  have h2 := (c_irem (p &&& 2147483647) 6 6 (by decide)).1 h1.1
  generalize (p &&& 2147483647) % 6 = z at *
  have h3 : z.toInt = 0 ∨ z.toInt = 1 ∨ z.toInt = 2 ∨ z.toInt = 3 ∨ z.toInt = 4 ∨ z.toInt = 5 := by omega
  rcases h3 with h | h | h | h | h | h
  · exact Or.inl (Int32.toInt_inj.mp h)
  · exact Or.inr (Or.inl (Int32.toInt_inj.mp h))
  · exact Or.inr (Or.inr (Or.inl (Int32.toInt_inj.mp h)))
  · exact Or.inr (Or.inr (Or.inr (Or.inl (Int32.toInt_inj.mp h))))
  · exact Or.inr (Or.inr (Or.inr (Or.inr (Or.inl (Int32.toInt_inj.mp h)))))
  · exact Or.inr (Or.inr (Or.inr (Or.inr (Or.inr (Int32.toInt_inj.mp h)))))
end OwnPlain
theorem d2_0 : decode jdk_37_method_2_code 0 = .ok (.aload_n 0, 1) := by decide +kernel
theorem d2_1 : decode jdk_37_method_2_code 1 = .ok (.getfield 7, 3) := by decide +kernel
theorem d2_4 : decode jdk_37_method_2_code 4 = .ok (.ireturn, 1) := by decide +kernel
theorem pno0 : plainName "java/lang/Enum" = true := by first | (simp [plainName, overriddenIn]; done) | decide +kernel
theorem efo0 (m : MethodId) (a0 : Addr) : entryFrame m #[(.ref a0)] 1 = mkF m 0 #[.val (.ref a0)] [] := by first | (simp [entryFrame, mkF, argsToLocals, Value.category]; done) | rfl
def Qo0 (Z : State) (a0 : Addr) (h0 : Heap) (n0 : Nat) (v : Option Value) (h : Heap) (L : List Loc) : Prop := v = some (.int (0 : Int32)) ∧ Fr n0 L ∧ h = h0
set_option maxRecDepth 65536 in
set_option maxHeartbeats 40000000 in
theorem rmo0 (l : Launch) (Z : State) (ar : Array Value) (hw : ∀ d ∈ tables_1, d.before ar Z = true) (ws : List Jvm.Cond) (a0 : Addr) (h0 : Heap) (n0 : Nat) (Z0 : n0 ≤ h0.size) (F_ordinal_a0 : Fld Z h0 a0 "java/lang/Enum" "ordinal" "I" (.int (0 : Int32))) :
    MetFree l (⟨"java/lang/Enum", "ordinal", "()I"⟩ : MethodName) (head1 (Jvm.Cond.code (⟨"java/lang/Enum", "ordinal", "()I"⟩ : MethodName) jdk_37_method_2_code 1 (some .int) :: ws) ({ frames := 0, cells := 0, slots := 0, locals := 0 } : Room)) (fun a U => a = #[(.ref a0)] ∧ Z.Warmed39 U.vm ∧ U.heap = h0) (fun _ _ _ _ _ => True) (fun _ U o U' => ∃ v L, o = .returned v ∧ Qo0 Z a0 h0 n0 v U'.heap L ∧ FrameEnd U o U' L ({ frames := 0, cells := 0, slots := 0, locals := 0 } : Room).cells ({ frames := 0, cells := 0, slots := 0, locals := 0 } : Room).slots) := by
  refine MetFree.of_bodySF (plainFor_of_name pno0) hisR ?_
  intro p e s m args below meth c s₁ Bd hml0 hP hK
  obtain ⟨rfl, hZ, hh⟩ := hP
  have hx := Bd.exec
  have hby := Bd.bytes
  have hlk := Bd.notSynchronized
  have hml : c.maxLocals = 1 := hml0
  have hown : s.vm.findClass "java/lang/Enum" = some m.cls := findClass_of_methodNamed Bd.named
  have hnm := (name_of_methodNamed Bd.named Bd.method).1
  have X0 : Stand p l e ({ frames := 0, cells := 0, slots := 0, locals := 0 } : Room) s m #[(.ref a0)] below meth c s₁ [] 0 0 := Stand.of_body Bd
  have e0 : s₁.heap = h0 := by rw [← hh, Bd.state]; rfl
  have N0 := Fr.nil n0
  have K0 := Keep.refl h0 []
  refine own_enter (Q := Qo0 Z a0 h0 n0) (efo0 m a0) ?_
  refine own_st (T' := s₁) (g' := (mkF m 1 #[.val (.ref a0)] [(.ref a0)])) (fun t k => ?_) ?_
  · show Steps p.tables e below (s₁.setTop (mkF m 0 #[.val (.ref a0)] [])) t
    refine XS.aloadN X0.here hx rfl (hb hby d2_0) rfl rfl ?_
    exact k
  obtain ⟨T1, X1, e1, st1⟩ := getF X0 hx hZ hown (host := "") (Or.inl (hw _ (List.mem_of_getElem? (i := 29) rfl))) Via.refl e0 F_ordinal_a0 (g := (mkF m 1 #[.val (.ref a0)] [(.ref a0)])) rfl rfl (hb hby d2_1)
  refine own_st (T' := T1) (g' := (mkF m 4 #[.val (.ref a0)] [(.int (0 : Int32))])) st1 ?_
  refine own_retI X1 hx hlk Bd.returns (hb hby d2_4) (by decide) (by decide) ?_
  show Qo0 Z a0 h0 n0 (some (.int (0 : Int32))) T1.heap _
  rw [(e1 : T1.heap = h0)]
  exact ⟨rfl, N0, rfl⟩
theorem d4_0 : decode prog_24_method_5_code 0 = .ok (.aload_n 0, 1) := by decide +kernel
theorem d4_1 : decode prog_24_method_5_code 1 = .ok (.invokevirtual 41, 3) := by decide +kernel
theorem d4_4 : decode prog_24_method_5_code 4 = .ok (.tableswitch 40 0 5 #[50, 64, 78, 92, 106, 120], 40) := by decide +kernel
theorem d4_54 : decode prog_24_method_5_code 54 = .ok (.dload_n 1, 1) := by decide +kernel
theorem d4_55 : decode prog_24_method_5_code 55 = .ok (.dload_n 3, 1) := by decide +kernel
theorem d4_56 : decode prog_24_method_5_code 56 = .ok (.dcmp .g, 1) := by decide +kernel
theorem d4_57 : decode prog_24_method_5_code 57 = .ok (.ifCond .ge 7, 3) := by decide +kernel
theorem d4_60 : decode prog_24_method_5_code 60 = .ok (.iconst 1, 1) := by decide +kernel
theorem d4_61 : decode prog_24_method_5_code 61 = .ok (.goto 74, 3) := by decide +kernel
theorem d4_64 : decode prog_24_method_5_code 64 = .ok (.iconst 0, 1) := by decide +kernel
theorem d4_65 : decode prog_24_method_5_code 65 = .ok (.goto 70, 3) := by decide +kernel
theorem d4_135 : decode prog_24_method_5_code 135 = .ok (.ireturn, 1) := by decide +kernel
theorem pnh0 : plainName "com/example/meshwatch/meshwatch/Relation" = true := by first | (simp [plainName, overriddenIn]; done) | decide +kernel
theorem pdh0_0 : parseMethodDescriptor "()I" = some ⟨[], some .int⟩ := by decide +kernel
theorem efh0 (m : MethodId) (a0 : Addr) (d1 : UInt64) (d2 : UInt64) : entryFrame m #[(.ref a0), (.double d1), (.double d2)] 5 = mkF m 0 #[.val (.ref a0), .val (.double d1), .second, .val (.double d2), .second] [] := by first | (simp [entryFrame, mkF, argsToLocals, Value.category]; done) | rfl
def Qh0 (Z : State) (a0 : Addr) (d1 : UInt64) (d2 : UInt64) (h0 : Heap) (n0 : Nat) (v : Option Value) (h : Heap) (L : List Loc) : Prop := v = some (.int (own_h0 (FP.dcmp d1 d2))) ∧ Fr n0 L ∧ h = h0
set_option maxRecDepth 65536 in
set_option maxHeartbeats 40000000 in
theorem rmh0 (l : Launch) (Z : State) (ar : Array Value) (hw : ∀ d ∈ tables_1, d.before ar Z = true) (ws : List Jvm.Cond) (a0 : Addr) (d1 : UInt64) (d2 : UInt64) (h0 : Heap) (n0 : Nat) (Z0 : n0 ≤ h0.size) (E_a0 : Exa Z h0 a0 "com/example/meshwatch/meshwatch/Relation") (F_ordinal_a0 : Fld Z h0 a0 "java/lang/Enum" "ordinal" "I" (.int (0 : Int32))) :
    MetFree l (⟨"com/example/meshwatch/meshwatch/Relation", "holds", "(DD)Z"⟩ : MethodName) (head1 (Jvm.Cond.code (⟨"com/example/meshwatch/meshwatch/Relation", "holds", "(DD)Z"⟩ : MethodName) prog_24_method_5_code 5 (some .boolean) :: ws) ({ frames := 1, cells := 0, slots := 0, locals := 12 } : Room)) (fun a U => a = #[(.ref a0), (.double d1), (.double d2)] ∧ Z.Warmed39 U.vm ∧ U.heap = h0) (fun _ _ _ _ _ => True) (fun _ U o U' => ∃ v L, o = .returned v ∧ Qh0 Z a0 d1 d2 h0 n0 v U'.heap L ∧ FrameEnd U o U' L ({ frames := 1, cells := 0, slots := 0, locals := 12 } : Room).cells ({ frames := 1, cells := 0, slots := 0, locals := 12 } : Room).slots) := by
  refine MetFree.of_bodySF (plainFor_of_name pnh0) hisR ?_
  intro p e s m args below meth c s₁ Bd hml0 hP hK
  obtain ⟨rfl, hZ, hh⟩ := hP
  have hx := Bd.exec
  have hby := Bd.bytes
  have hlk := Bd.notSynchronized
  have hml : c.maxLocals = 5 := hml0
  have hown : s.vm.findClass "com/example/meshwatch/meshwatch/Relation" = some m.cls := findClass_of_methodNamed Bd.named
  have hnm := (name_of_methodNamed Bd.named Bd.method).1
  have X0 : Stand p l e ({ frames := 1, cells := 0, slots := 0, locals := 12 } : Room) s m #[(.ref a0), (.double d1), (.double d2)] below meth c s₁ [] 0 0 := Stand.of_body Bd
  have e0 : s₁.heap = h0 := by rw [← hh, Bd.state]; rfl
  have N0 := Fr.nil n0
  have K0 := Keep.refl h0 []
  refine own_enter (Q := Qh0 Z a0 d1 d2 h0 n0) (efh0 m a0 d1 d2) ?_
  refine own_st (T' := s₁) (g' := (mkF m 1 #[.val (.ref a0), .val (.double d1), .second, .val (.double d2), .second] [(.ref a0)])) (fun t k => ?_) ?_
  · show Steps p.tables e below (s₁.setTop (mkF m 0 #[.val (.ref a0), .val (.double d1), .second, .val (.double d2), .second] [])) t
    refine XS.aloadN X0.here hx rfl (hb hby d4_0) rfl rfl ?_
    exact k
  obtain ⟨cq1, kq1, qa1, qb1, qc1⟩ := isOf hZ e0 E_a0
  obtain ⟨_, _, ⟨T1, L1, k1, n1⟩, -, X1, ⟨Lc1, hQ1, l1, y1, z1⟩, st1⟩ := X0.virtualBackUp hx (owner := "java/lang/Enum") (x := (⟨"com/example/meshwatch/meshwatch/Relation", "ordinal", "()I"⟩ : MethodName)) (y := (⟨"java/lang/Enum", "ordinal", "()I"⟩ : MethodName)) hown (mvT hZ (hw _ (List.mem_of_getElem? (i := 22) rfl))) (mvT hZ (hw _ (List.mem_of_getElem? (i := 23) rfl))) (mvT hZ (hw _ (List.mem_of_getElem? (i := 24) rfl))) (by decide) (mvT hZ (hw _ (List.mem_of_getElem? (i := 26) rfl))) (mvT hZ (hw _ (List.mem_of_getElem? (i := 25) rfl))) (backOf (W := 0) (rmo0 l Z ar hw [] a0 h0 n0 Z0 F_ordinal_a0) hZ (hw _ (List.mem_of_getElem? (i := 28) rfl)) (hw _ (List.mem_of_getElem? (i := 27) rfl)) (by decide) (by decide)) qa1 qc1 (g := (mkF m 1 #[.val (.ref a0), .val (.double d1), .second, .val (.double d2), .second] [(.ref a0)])) rfl (by rw [hml]; rfl) (Steps.refl _) (argsL := []) (rest := []) (lenOf pdh0_0 rfl) rfl (by show 2 * 0 + _ ≤ _; exact Nat.le_of_eq rfl) (hb hby d4_1) (fun _ _ => ⟨rfl, e0, (by decide : 0 + 0 ≤ _), (by decide : 0 + 0 ≤ _)⟩)
  dsimp only [Pt.U, Pt.locs, Pt.cells, Pt.slots] at X1 l1 y1 z1 st1 hQ1
  subst l1 y1 z1
  obtain ⟨rfl, N1q, e1⟩ := hQ1
  have n2 := Fr.app N0 N1q
  refine own_tr (T' := T1) (g' := (mkF m 4 #[.val (.ref a0), .val (.double d1), .second, .val (.double d2), .second] [(.int (0 : Int32))])) st1 ?_
  refine own_st (T' := T1) (g' := (mkF m 57 #[.val (.ref a0), .val (.double d1), .second, .val (.double d2), .second] [(.int (cmpValue (FP.dcmp d1 d2) .g))])) (fun t k => ?_) ?_
  · show Steps p.tables e below (T1.setTop (mkF m 4 #[.val (.ref a0), .val (.double d1), .second, .val (.double d2), .second] [(.int (0 : Int32))])) t
    refine XS.tswIn X1.here hx rfl (pc0 := 4) (pc' := 54) rfl (hb hby d4_4) rfl (by decide) rfl (by decide) (by decide) ?_
    show Steps p.tables e below (T1.setTop (mkF m 54 #[.val (.ref a0), .val (.double d1), .second, .val (.double d2), .second] [])) t
    refine XS.dloadN X1.here hx rfl (hb hby d4_54) rfl ?_
    show Steps p.tables e below (T1.setTop (mkF m 55 #[.val (.ref a0), .val (.double d1), .second, .val (.double d2), .second] [(.double d1)])) t
    refine XS.dloadN X1.here hx rfl (hb hby d4_55) rfl ?_
    show Steps p.tables e below (T1.setTop (mkF m 56 #[.val (.ref a0), .val (.double d1), .second, .val (.double d2), .second] [(.double d2), (.double d1)])) t
    refine XS.dcmpS X1.here hx rfl (hb hby d4_56) rfl rfl ?_
    exact k
  by_cases hc57_3 : ifCond.holds .ge (cmpValue (FP.dcmp d1 d2) .g) = true
  · refine own_st (T' := T1) (g' := (mkF m 135 #[.val (.ref a0), .val (.double d1), .second, .val (.double d2), .second] [(.int (0 : Int32))])) (fun t k => ?_) ?_
    · show Steps p.tables e below (T1.setTop (mkF m 57 #[.val (.ref a0), .val (.double d1), .second, .val (.double d2), .second] [(.int (cmpValue (FP.dcmp d1 d2) .g))])) t
      refine XS.ifYes X1.here hx rfl (pc0 := 57) (pc' := 64) rfl (hb hby d4_57) rfl hc57_3 (by decide) (by decide) ?_
      show Steps p.tables e below (T1.setTop (mkF m 64 #[.val (.ref a0), .val (.double d1), .second, .val (.double d2), .second] [])) t
      refine XS.iconst X1.here hx rfl (hb hby d4_64) ?_
      show Steps p.tables e below (T1.setTop (mkF m 65 #[.val (.ref a0), .val (.double d1), .second, .val (.double d2), .second] [(.int (0 : Int32))])) t
      refine XS.goto X1.here hx rfl (pc0 := 65) (pc' := 135) rfl (hb hby d4_65) (by decide) (by decide) ?_
      exact k
    refine own_retZ X1 hx hlk Bd.returns (hb hby d4_135) rfl (by decide) (by decide) ?_
    show Qh0 Z a0 d1 d2 h0 n0 (some (.int (0 : Int32))) T1.heap _
    rw [(e1 : T1.heap = h0)]
    exact ⟨congrArg (fun z => some (Value.int z)) (if_pos hc57_3).symm, n2, rfl⟩
  · refine own_st (T' := T1) (g' := (mkF m 135 #[.val (.ref a0), .val (.double d1), .second, .val (.double d2), .second] [(.int (1 : Int32))])) (fun t k => ?_) ?_
    · show Steps p.tables e below (T1.setTop (mkF m 57 #[.val (.ref a0), .val (.double d1), .second, .val (.double d2), .second] [(.int (cmpValue (FP.dcmp d1 d2) .g))])) t
      refine XS.ifNo X1.here hx rfl (hb hby d4_57) rfl (Bool.eq_false_iff.mpr hc57_3) ?_
      show Steps p.tables e below (T1.setTop (mkF m 60 #[.val (.ref a0), .val (.double d1), .second, .val (.double d2), .second] [])) t
      refine XS.iconst X1.here hx rfl (hb hby d4_60) ?_
      show Steps p.tables e below (T1.setTop (mkF m 61 #[.val (.ref a0), .val (.double d1), .second, .val (.double d2), .second] [(.int (1 : Int32))])) t
      refine XS.goto X1.here hx rfl (pc0 := 61) (pc' := 135) rfl (hb hby d4_61) (by decide) (by decide) ?_
      exact k
    refine own_retZ X1 hx hlk Bd.returns (hb hby d4_135) rfl (by decide) (by decide) ?_
    show Qh0 Z a0 d1 d2 h0 n0 (some (.int (1 : Int32))) T1.heap _
    rw [(e1 : T1.heap = h0)]
    exact ⟨congrArg (fun z => some (Value.int z)) (if_neg hc57_3).symm, n2, rfl⟩
theorem d1_0 : decode prog_24_method_6_code 0 = .ok (.aload_n 0, 1) := by decide +kernel
theorem d1_1 : decode prog_24_method_6_code 1 = .ok (.invokevirtual 41, 3) := by decide +kernel
theorem d1_4 : decode prog_24_method_6_code 4 = .ok (.tableswitch 40 0 5 #[50, 56, 62, 68, 74, 80], 40) := by decide +kernel
theorem d1_54 : decode prog_24_method_6_code 54 = .ok (.getstatic 13, 3) := by decide +kernel
theorem d1_57 : decode prog_24_method_6_code 57 = .ok (.goto 30, 3) := by decide +kernel
theorem d1_87 : decode prog_24_method_6_code 87 = .ok (.areturn, 1) := by decide +kernel
theorem pnn0 : plainName "com/example/meshwatch/meshwatch/Relation" = true := by first | (simp [plainName, overriddenIn]; done) | decide +kernel
theorem pdn0_0 : parseMethodDescriptor "()I" = some ⟨[], some .int⟩ := by decide +kernel
theorem efn0 (m : MethodId) (a0 : Addr) : entryFrame m #[(.ref a0)] 1 = mkF m 0 #[.val (.ref a0)] [] := by first | (simp [entryFrame, mkF, argsToLocals, Value.category]; done) | rfl
def Qn0 (Z : State) (a0 : Addr) (w_GREATER_OR_EQUAL : Addr) (h0 : Heap) (n0 : Nat) (v : Option Value) (h : Heap) (L : List Loc) : Prop := v = some (.ref w_GREATER_OR_EQUAL) ∧ Fr n0 L ∧ h = h0
set_option maxRecDepth 65536 in
set_option maxHeartbeats 40000000 in
theorem rmn0 (l : Launch) (Z : State) (ar : Array Value) (hw : ∀ d ∈ tables_1, d.before ar Z = true) (ws : List Jvm.Cond) (a0 : Addr) (w_GREATER_OR_EQUAL : Addr) (h0 : Heap) (n0 : Nat) (Z0 : n0 ≤ h0.size) (E_a0 : Exa Z h0 a0 "com/example/meshwatch/meshwatch/Relation") (F_ordinal_a0 : Fld Z h0 a0 "java/lang/Enum" "ordinal" "I" (.int (0 : Int32))) (S_GREATER_OR_EQUAL : Sta Z h0 "com/example/meshwatch/meshwatch/Relation" "GREATER_OR_EQUAL" "Lcom/example/meshwatch/meshwatch/Relation;" (.ref w_GREATER_OR_EQUAL)) :
    MetFree l (⟨"com/example/meshwatch/meshwatch/Relation", "negated", "()Lcom/example/meshwatch/meshwatch/Relation;"⟩ : MethodName) (head1 (Jvm.Cond.code (⟨"com/example/meshwatch/meshwatch/Relation", "negated", "()Lcom/example/meshwatch/meshwatch/Relation;"⟩ : MethodName) prog_24_method_6_code 1 (some (.object "com/example/meshwatch/meshwatch/Relation")) :: ws) ({ frames := 1, cells := 0, slots := 0, locals := 12 } : Room)) (fun a U => a = #[(.ref a0)] ∧ Z.Warmed39 U.vm ∧ U.heap = h0) (fun _ _ _ _ _ => True) (fun _ U o U' => ∃ v L, o = .returned v ∧ Qn0 Z a0 w_GREATER_OR_EQUAL h0 n0 v U'.heap L ∧ FrameEnd U o U' L ({ frames := 1, cells := 0, slots := 0, locals := 12 } : Room).cells ({ frames := 1, cells := 0, slots := 0, locals := 12 } : Room).slots) := by
  refine MetFree.of_bodySF (plainFor_of_name pnn0) hisR ?_
  intro p e s m args below meth c s₁ Bd hml0 hP hK
  obtain ⟨rfl, hZ, hh⟩ := hP
  have hx := Bd.exec
  have hby := Bd.bytes
  have hlk := Bd.notSynchronized
  have hml : c.maxLocals = 1 := hml0
  have hown : s.vm.findClass "com/example/meshwatch/meshwatch/Relation" = some m.cls := findClass_of_methodNamed Bd.named
  have hnm := (name_of_methodNamed Bd.named Bd.method).1
  have X0 : Stand p l e ({ frames := 1, cells := 0, slots := 0, locals := 12 } : Room) s m #[(.ref a0)] below meth c s₁ [] 0 0 := Stand.of_body Bd
  have e0 : s₁.heap = h0 := by rw [← hh, Bd.state]; rfl
  have N0 := Fr.nil n0
  have K0 := Keep.refl h0 []
  refine own_enter (Q := Qn0 Z a0 w_GREATER_OR_EQUAL h0 n0) (efn0 m a0) ?_
  refine own_st (T' := s₁) (g' := (mkF m 1 #[.val (.ref a0)] [(.ref a0)])) (fun t k => ?_) ?_
  · show Steps p.tables e below (s₁.setTop (mkF m 0 #[.val (.ref a0)] [])) t
    refine XS.aloadN X0.here hx rfl (hb hby d1_0) rfl rfl ?_
    exact k
  obtain ⟨cq1, kq1, qa1, qb1, qc1⟩ := isOf hZ e0 E_a0
  obtain ⟨_, _, ⟨T1, L1, k1, n1⟩, -, X1, ⟨Lc1, hQ1, l1, y1, z1⟩, st1⟩ := X0.virtualBackUp hx (owner := "java/lang/Enum") (x := (⟨"com/example/meshwatch/meshwatch/Relation", "ordinal", "()I"⟩ : MethodName)) (y := (⟨"java/lang/Enum", "ordinal", "()I"⟩ : MethodName)) hown (mvT hZ (hw _ (List.mem_of_getElem? (i := 22) rfl))) (mvT hZ (hw _ (List.mem_of_getElem? (i := 23) rfl))) (mvT hZ (hw _ (List.mem_of_getElem? (i := 24) rfl))) (by decide) (mvT hZ (hw _ (List.mem_of_getElem? (i := 26) rfl))) (mvT hZ (hw _ (List.mem_of_getElem? (i := 25) rfl))) (backOf (W := 0) (rmo0 l Z ar hw [] a0 h0 n0 Z0 F_ordinal_a0) hZ (hw _ (List.mem_of_getElem? (i := 28) rfl)) (hw _ (List.mem_of_getElem? (i := 27) rfl)) (by decide) (by decide)) qa1 qc1 (g := (mkF m 1 #[.val (.ref a0)] [(.ref a0)])) rfl (by rw [hml]; rfl) (Steps.refl _) (argsL := []) (rest := []) (lenOf pdn0_0 rfl) rfl (by show 2 * 0 + _ ≤ _; exact Nat.le_of_eq rfl) (hb hby d1_1) (fun _ _ => ⟨rfl, e0, (by decide : 0 + 0 ≤ _), (by decide : 0 + 0 ≤ _)⟩)
  dsimp only [Pt.U, Pt.locs, Pt.cells, Pt.slots] at X1 l1 y1 z1 st1 hQ1
  subst l1 y1 z1
  obtain ⟨rfl, N1q, e1⟩ := hQ1
  have n2 := Fr.app N0 N1q
  refine own_tr (T' := T1) (g' := (mkF m 4 #[.val (.ref a0)] [(.int (0 : Int32))])) st1 ?_
  refine own_st (T' := T1) (g' := (mkF m 54 #[.val (.ref a0)] [])) (fun t k => ?_) ?_
  · show Steps p.tables e below (T1.setTop (mkF m 4 #[.val (.ref a0)] [(.int (0 : Int32))])) t
    refine XS.tswIn X1.here hx rfl (pc0 := 4) (pc' := 54) rfl (hb hby d1_4) rfl (by decide) rfl (by decide) (by decide) ?_
    exact k
  obtain ⟨T3, X3, e3, st3⟩ := getS2 X1 hx hZ hown (host := "") (Or.inl (hw _ (List.mem_of_getElem? (i := 31) rfl))) Via.refl e1 S_GREATER_OR_EQUAL (g := (mkF m 54 #[.val (.ref a0)] [])) rfl (hb hby d1_54)
  refine own_st (T' := T3) (g' := (mkF m 57 #[.val (.ref a0)] [(.ref w_GREATER_OR_EQUAL)])) st3 ?_
  refine own_st (T' := T3) (g' := (mkF m 87 #[.val (.ref a0)] [(.ref w_GREATER_OR_EQUAL)])) (fun t k => ?_) ?_
  · show Steps p.tables e below (T3.setTop (mkF m 57 #[.val (.ref a0)] [(.ref w_GREATER_OR_EQUAL)])) t
    refine XS.goto X3.here hx rfl (pc0 := 57) (pc' := 87) rfl (hb hby d1_57) (by decide) (by decide) ?_
    exact k
  refine own_retA X3 hx hlk Bd.returns rfl rfl (hb hby d1_87) (by decide) (by decide) ?_
  show Qn0 Z a0 w_GREATER_OR_EQUAL h0 n0 (some (.ref w_GREATER_OR_EQUAL)) T3.heap _
  rw [(e3 : T3.heap = h0)]
  exact ⟨rfl, n2, rfl⟩
theorem pno1 : plainName "java/lang/Enum" = true := by first | (simp [plainName, overriddenIn]; done) | decide +kernel
theorem efo1 (m : MethodId) (a0 : Addr) : entryFrame m #[(.ref a0)] 1 = mkF m 0 #[.val (.ref a0)] [] := by first | (simp [entryFrame, mkF, argsToLocals, Value.category]; done) | rfl
def Qo1 (Z : State) (a0 : Addr) (h0 : Heap) (n0 : Nat) (v : Option Value) (h : Heap) (L : List Loc) : Prop := v = some (.int (1 : Int32)) ∧ Fr n0 L ∧ h = h0
set_option maxRecDepth 65536 in
set_option maxHeartbeats 40000000 in
theorem rmo1 (l : Launch) (Z : State) (ar : Array Value) (hw : ∀ d ∈ tables_1, d.before ar Z = true) (ws : List Jvm.Cond) (a0 : Addr) (h0 : Heap) (n0 : Nat) (Z0 : n0 ≤ h0.size) (F_ordinal_a0 : Fld Z h0 a0 "java/lang/Enum" "ordinal" "I" (.int (1 : Int32))) :
    MetFree l (⟨"java/lang/Enum", "ordinal", "()I"⟩ : MethodName) (head1 (Jvm.Cond.code (⟨"java/lang/Enum", "ordinal", "()I"⟩ : MethodName) jdk_37_method_2_code 1 (some .int) :: ws) ({ frames := 0, cells := 0, slots := 0, locals := 0 } : Room)) (fun a U => a = #[(.ref a0)] ∧ Z.Warmed39 U.vm ∧ U.heap = h0) (fun _ _ _ _ _ => True) (fun _ U o U' => ∃ v L, o = .returned v ∧ Qo1 Z a0 h0 n0 v U'.heap L ∧ FrameEnd U o U' L ({ frames := 0, cells := 0, slots := 0, locals := 0 } : Room).cells ({ frames := 0, cells := 0, slots := 0, locals := 0 } : Room).slots) := by
  refine MetFree.of_bodySF (plainFor_of_name pno1) hisR ?_
  intro p e s m args below meth c s₁ Bd hml0 hP hK
  obtain ⟨rfl, hZ, hh⟩ := hP
  have hx := Bd.exec
  have hby := Bd.bytes
  have hlk := Bd.notSynchronized
  have hml : c.maxLocals = 1 := hml0
  have hown : s.vm.findClass "java/lang/Enum" = some m.cls := findClass_of_methodNamed Bd.named
  have hnm := (name_of_methodNamed Bd.named Bd.method).1
  have X0 : Stand p l e ({ frames := 0, cells := 0, slots := 0, locals := 0 } : Room) s m #[(.ref a0)] below meth c s₁ [] 0 0 := Stand.of_body Bd
  have e0 : s₁.heap = h0 := by rw [← hh, Bd.state]; rfl
  have N0 := Fr.nil n0
  have K0 := Keep.refl h0 []
  refine own_enter (Q := Qo1 Z a0 h0 n0) (efo1 m a0) ?_
  refine own_st (T' := s₁) (g' := (mkF m 1 #[.val (.ref a0)] [(.ref a0)])) (fun t k => ?_) ?_
  · show Steps p.tables e below (s₁.setTop (mkF m 0 #[.val (.ref a0)] [])) t
    refine XS.aloadN X0.here hx rfl (hb hby d2_0) rfl rfl ?_
    exact k
  obtain ⟨T1, X1, e1, st1⟩ := getF X0 hx hZ hown (host := "") (Or.inl (hw _ (List.mem_of_getElem? (i := 29) rfl))) Via.refl e0 F_ordinal_a0 (g := (mkF m 1 #[.val (.ref a0)] [(.ref a0)])) rfl rfl (hb hby d2_1)
  refine own_st (T' := T1) (g' := (mkF m 4 #[.val (.ref a0)] [(.int (1 : Int32))])) st1 ?_
  refine own_retI X1 hx hlk Bd.returns (hb hby d2_4) (by decide) (by decide) ?_
  show Qo1 Z a0 h0 n0 (some (.int (1 : Int32))) T1.heap _
  rw [(e1 : T1.heap = h0)]
  exact ⟨rfl, N0, rfl⟩
theorem d4_68 : decode prog_24_method_5_code 68 = .ok (.dload_n 1, 1) := by decide +kernel
theorem d4_69 : decode prog_24_method_5_code 69 = .ok (.dload_n 3, 1) := by decide +kernel
theorem d4_70 : decode prog_24_method_5_code 70 = .ok (.dcmp .g, 1) := by decide +kernel
theorem d4_71 : decode prog_24_method_5_code 71 = .ok (.ifCond .gt 7, 3) := by decide +kernel
theorem d4_74 : decode prog_24_method_5_code 74 = .ok (.iconst 1, 1) := by decide +kernel
theorem d4_75 : decode prog_24_method_5_code 75 = .ok (.goto 60, 3) := by decide +kernel
theorem d4_78 : decode prog_24_method_5_code 78 = .ok (.iconst 0, 1) := by decide +kernel
theorem d4_79 : decode prog_24_method_5_code 79 = .ok (.goto 56, 3) := by decide +kernel
theorem pnh1 : plainName "com/example/meshwatch/meshwatch/Relation" = true := by first | (simp [plainName, overriddenIn]; done) | decide +kernel
theorem pdh1_0 : parseMethodDescriptor "()I" = some ⟨[], some .int⟩ := by decide +kernel
theorem efh1 (m : MethodId) (a0 : Addr) (d1 : UInt64) (d2 : UInt64) : entryFrame m #[(.ref a0), (.double d1), (.double d2)] 5 = mkF m 0 #[.val (.ref a0), .val (.double d1), .second, .val (.double d2), .second] [] := by first | (simp [entryFrame, mkF, argsToLocals, Value.category]; done) | rfl
def Qh1 (Z : State) (a0 : Addr) (d1 : UInt64) (d2 : UInt64) (h0 : Heap) (n0 : Nat) (v : Option Value) (h : Heap) (L : List Loc) : Prop := v = some (.int (own_h1 (FP.dcmp d1 d2))) ∧ Fr n0 L ∧ h = h0
set_option maxRecDepth 65536 in
set_option maxHeartbeats 40000000 in
theorem rmh1 (l : Launch) (Z : State) (ar : Array Value) (hw : ∀ d ∈ tables_1, d.before ar Z = true) (ws : List Jvm.Cond) (a0 : Addr) (d1 : UInt64) (d2 : UInt64) (h0 : Heap) (n0 : Nat) (Z0 : n0 ≤ h0.size) (E_a0 : Exa Z h0 a0 "com/example/meshwatch/meshwatch/Relation") (F_ordinal_a0 : Fld Z h0 a0 "java/lang/Enum" "ordinal" "I" (.int (1 : Int32))) :
    MetFree l (⟨"com/example/meshwatch/meshwatch/Relation", "holds", "(DD)Z"⟩ : MethodName) (head1 (Jvm.Cond.code (⟨"com/example/meshwatch/meshwatch/Relation", "holds", "(DD)Z"⟩ : MethodName) prog_24_method_5_code 5 (some .boolean) :: ws) ({ frames := 1, cells := 0, slots := 0, locals := 12 } : Room)) (fun a U => a = #[(.ref a0), (.double d1), (.double d2)] ∧ Z.Warmed39 U.vm ∧ U.heap = h0) (fun _ _ _ _ _ => True) (fun _ U o U' => ∃ v L, o = .returned v ∧ Qh1 Z a0 d1 d2 h0 n0 v U'.heap L ∧ FrameEnd U o U' L ({ frames := 1, cells := 0, slots := 0, locals := 12 } : Room).cells ({ frames := 1, cells := 0, slots := 0, locals := 12 } : Room).slots) := by
  refine MetFree.of_bodySF (plainFor_of_name pnh1) hisR ?_
  intro p e s m args below meth c s₁ Bd hml0 hP hK
  obtain ⟨rfl, hZ, hh⟩ := hP
  have hx := Bd.exec
  have hby := Bd.bytes
  have hlk := Bd.notSynchronized
  have hml : c.maxLocals = 5 := hml0
  have hown : s.vm.findClass "com/example/meshwatch/meshwatch/Relation" = some m.cls := findClass_of_methodNamed Bd.named
  have hnm := (name_of_methodNamed Bd.named Bd.method).1
  have X0 : Stand p l e ({ frames := 1, cells := 0, slots := 0, locals := 12 } : Room) s m #[(.ref a0), (.double d1), (.double d2)] below meth c s₁ [] 0 0 := Stand.of_body Bd
  have e0 : s₁.heap = h0 := by rw [← hh, Bd.state]; rfl
  have N0 := Fr.nil n0
  have K0 := Keep.refl h0 []
  refine own_enter (Q := Qh1 Z a0 d1 d2 h0 n0) (efh1 m a0 d1 d2) ?_
  refine own_st (T' := s₁) (g' := (mkF m 1 #[.val (.ref a0), .val (.double d1), .second, .val (.double d2), .second] [(.ref a0)])) (fun t k => ?_) ?_
  · show Steps p.tables e below (s₁.setTop (mkF m 0 #[.val (.ref a0), .val (.double d1), .second, .val (.double d2), .second] [])) t
    refine XS.aloadN X0.here hx rfl (hb hby d4_0) rfl rfl ?_
    exact k
  obtain ⟨cq1, kq1, qa1, qb1, qc1⟩ := isOf hZ e0 E_a0
  obtain ⟨_, _, ⟨T1, L1, k1, n1⟩, -, X1, ⟨Lc1, hQ1, l1, y1, z1⟩, st1⟩ := X0.virtualBackUp hx (owner := "java/lang/Enum") (x := (⟨"com/example/meshwatch/meshwatch/Relation", "ordinal", "()I"⟩ : MethodName)) (y := (⟨"java/lang/Enum", "ordinal", "()I"⟩ : MethodName)) hown (mvT hZ (hw _ (List.mem_of_getElem? (i := 22) rfl))) (mvT hZ (hw _ (List.mem_of_getElem? (i := 23) rfl))) (mvT hZ (hw _ (List.mem_of_getElem? (i := 24) rfl))) (by decide) (mvT hZ (hw _ (List.mem_of_getElem? (i := 26) rfl))) (mvT hZ (hw _ (List.mem_of_getElem? (i := 25) rfl))) (backOf (W := 0) (rmo1 l Z ar hw [] a0 h0 n0 Z0 F_ordinal_a0) hZ (hw _ (List.mem_of_getElem? (i := 28) rfl)) (hw _ (List.mem_of_getElem? (i := 27) rfl)) (by decide) (by decide)) qa1 qc1 (g := (mkF m 1 #[.val (.ref a0), .val (.double d1), .second, .val (.double d2), .second] [(.ref a0)])) rfl (by rw [hml]; rfl) (Steps.refl _) (argsL := []) (rest := []) (lenOf pdh1_0 rfl) rfl (by show 2 * 0 + _ ≤ _; exact Nat.le_of_eq rfl) (hb hby d4_1) (fun _ _ => ⟨rfl, e0, (by decide : 0 + 0 ≤ _), (by decide : 0 + 0 ≤ _)⟩)
  dsimp only [Pt.U, Pt.locs, Pt.cells, Pt.slots] at X1 l1 y1 z1 st1 hQ1
  subst l1 y1 z1
  obtain ⟨rfl, N1q, e1⟩ := hQ1
  have n2 := Fr.app N0 N1q
  refine own_tr (T' := T1) (g' := (mkF m 4 #[.val (.ref a0), .val (.double d1), .second, .val (.double d2), .second] [(.int (1 : Int32))])) st1 ?_
  refine own_st (T' := T1) (g' := (mkF m 71 #[.val (.ref a0), .val (.double d1), .second, .val (.double d2), .second] [(.int (cmpValue (FP.dcmp d1 d2) .g))])) (fun t k => ?_) ?_
  · show Steps p.tables e below (T1.setTop (mkF m 4 #[.val (.ref a0), .val (.double d1), .second, .val (.double d2), .second] [(.int (1 : Int32))])) t
    refine XS.tswIn X1.here hx rfl (pc0 := 4) (pc' := 68) rfl (hb hby d4_4) rfl (by decide) rfl (by decide) (by decide) ?_
    show Steps p.tables e below (T1.setTop (mkF m 68 #[.val (.ref a0), .val (.double d1), .second, .val (.double d2), .second] [])) t
    refine XS.dloadN X1.here hx rfl (hb hby d4_68) rfl ?_
    show Steps p.tables e below (T1.setTop (mkF m 69 #[.val (.ref a0), .val (.double d1), .second, .val (.double d2), .second] [(.double d1)])) t
    refine XS.dloadN X1.here hx rfl (hb hby d4_69) rfl ?_
    show Steps p.tables e below (T1.setTop (mkF m 70 #[.val (.ref a0), .val (.double d1), .second, .val (.double d2), .second] [(.double d2), (.double d1)])) t
    refine XS.dcmpS X1.here hx rfl (hb hby d4_70) rfl rfl ?_
    exact k
  by_cases hc71_3 : ifCond.holds .gt (cmpValue (FP.dcmp d1 d2) .g) = true
  · refine own_st (T' := T1) (g' := (mkF m 135 #[.val (.ref a0), .val (.double d1), .second, .val (.double d2), .second] [(.int (0 : Int32))])) (fun t k => ?_) ?_
    · show Steps p.tables e below (T1.setTop (mkF m 71 #[.val (.ref a0), .val (.double d1), .second, .val (.double d2), .second] [(.int (cmpValue (FP.dcmp d1 d2) .g))])) t
      refine XS.ifYes X1.here hx rfl (pc0 := 71) (pc' := 78) rfl (hb hby d4_71) rfl hc71_3 (by decide) (by decide) ?_
      show Steps p.tables e below (T1.setTop (mkF m 78 #[.val (.ref a0), .val (.double d1), .second, .val (.double d2), .second] [])) t
      refine XS.iconst X1.here hx rfl (hb hby d4_78) ?_
      show Steps p.tables e below (T1.setTop (mkF m 79 #[.val (.ref a0), .val (.double d1), .second, .val (.double d2), .second] [(.int (0 : Int32))])) t
      refine XS.goto X1.here hx rfl (pc0 := 79) (pc' := 135) rfl (hb hby d4_79) (by decide) (by decide) ?_
      exact k
    refine own_retZ X1 hx hlk Bd.returns (hb hby d4_135) rfl (by decide) (by decide) ?_
    show Qh1 Z a0 d1 d2 h0 n0 (some (.int (0 : Int32))) T1.heap _
    rw [(e1 : T1.heap = h0)]
    exact ⟨congrArg (fun z => some (Value.int z)) (if_pos hc71_3).symm, n2, rfl⟩
  · refine own_st (T' := T1) (g' := (mkF m 135 #[.val (.ref a0), .val (.double d1), .second, .val (.double d2), .second] [(.int (1 : Int32))])) (fun t k => ?_) ?_
    · show Steps p.tables e below (T1.setTop (mkF m 71 #[.val (.ref a0), .val (.double d1), .second, .val (.double d2), .second] [(.int (cmpValue (FP.dcmp d1 d2) .g))])) t
      refine XS.ifNo X1.here hx rfl (hb hby d4_71) rfl (Bool.eq_false_iff.mpr hc71_3) ?_
      show Steps p.tables e below (T1.setTop (mkF m 74 #[.val (.ref a0), .val (.double d1), .second, .val (.double d2), .second] [])) t
      refine XS.iconst X1.here hx rfl (hb hby d4_74) ?_
      show Steps p.tables e below (T1.setTop (mkF m 75 #[.val (.ref a0), .val (.double d1), .second, .val (.double d2), .second] [(.int (1 : Int32))])) t
      refine XS.goto X1.here hx rfl (pc0 := 75) (pc' := 135) rfl (hb hby d4_75) (by decide) (by decide) ?_
      exact k
    refine own_retZ X1 hx hlk Bd.returns (hb hby d4_135) rfl (by decide) (by decide) ?_
    show Qh1 Z a0 d1 d2 h0 n0 (some (.int (1 : Int32))) T1.heap _
    rw [(e1 : T1.heap = h0)]
    exact ⟨congrArg (fun z => some (Value.int z)) (if_neg hc71_3).symm, n2, rfl⟩
theorem d1_60 : decode prog_24_method_6_code 60 = .ok (.getstatic 10, 3) := by decide +kernel
theorem d1_63 : decode prog_24_method_6_code 63 = .ok (.goto 24, 3) := by decide +kernel
theorem pnn1 : plainName "com/example/meshwatch/meshwatch/Relation" = true := by first | (simp [plainName, overriddenIn]; done) | decide +kernel
theorem pdn1_0 : parseMethodDescriptor "()I" = some ⟨[], some .int⟩ := by decide +kernel
theorem efn1 (m : MethodId) (a0 : Addr) : entryFrame m #[(.ref a0)] 1 = mkF m 0 #[.val (.ref a0)] [] := by first | (simp [entryFrame, mkF, argsToLocals, Value.category]; done) | rfl
def Qn1 (Z : State) (a0 : Addr) (w_GREATER : Addr) (h0 : Heap) (n0 : Nat) (v : Option Value) (h : Heap) (L : List Loc) : Prop := v = some (.ref w_GREATER) ∧ Fr n0 L ∧ h = h0
set_option maxRecDepth 65536 in
set_option maxHeartbeats 40000000 in
theorem rmn1 (l : Launch) (Z : State) (ar : Array Value) (hw : ∀ d ∈ tables_1, d.before ar Z = true) (ws : List Jvm.Cond) (a0 : Addr) (w_GREATER : Addr) (h0 : Heap) (n0 : Nat) (Z0 : n0 ≤ h0.size) (E_a0 : Exa Z h0 a0 "com/example/meshwatch/meshwatch/Relation") (F_ordinal_a0 : Fld Z h0 a0 "java/lang/Enum" "ordinal" "I" (.int (1 : Int32))) (S_GREATER : Sta Z h0 "com/example/meshwatch/meshwatch/Relation" "GREATER" "Lcom/example/meshwatch/meshwatch/Relation;" (.ref w_GREATER)) :
    MetFree l (⟨"com/example/meshwatch/meshwatch/Relation", "negated", "()Lcom/example/meshwatch/meshwatch/Relation;"⟩ : MethodName) (head1 (Jvm.Cond.code (⟨"com/example/meshwatch/meshwatch/Relation", "negated", "()Lcom/example/meshwatch/meshwatch/Relation;"⟩ : MethodName) prog_24_method_6_code 1 (some (.object "com/example/meshwatch/meshwatch/Relation")) :: ws) ({ frames := 1, cells := 0, slots := 0, locals := 12 } : Room)) (fun a U => a = #[(.ref a0)] ∧ Z.Warmed39 U.vm ∧ U.heap = h0) (fun _ _ _ _ _ => True) (fun _ U o U' => ∃ v L, o = .returned v ∧ Qn1 Z a0 w_GREATER h0 n0 v U'.heap L ∧ FrameEnd U o U' L ({ frames := 1, cells := 0, slots := 0, locals := 12 } : Room).cells ({ frames := 1, cells := 0, slots := 0, locals := 12 } : Room).slots) := by
  refine MetFree.of_bodySF (plainFor_of_name pnn1) hisR ?_
  intro p e s m args below meth c s₁ Bd hml0 hP hK
  obtain ⟨rfl, hZ, hh⟩ := hP
  have hx := Bd.exec
  have hby := Bd.bytes
  have hlk := Bd.notSynchronized
  have hml : c.maxLocals = 1 := hml0
  have hown : s.vm.findClass "com/example/meshwatch/meshwatch/Relation" = some m.cls := findClass_of_methodNamed Bd.named
  have hnm := (name_of_methodNamed Bd.named Bd.method).1
  have X0 : Stand p l e ({ frames := 1, cells := 0, slots := 0, locals := 12 } : Room) s m #[(.ref a0)] below meth c s₁ [] 0 0 := Stand.of_body Bd
  have e0 : s₁.heap = h0 := by rw [← hh, Bd.state]; rfl
  have N0 := Fr.nil n0
  have K0 := Keep.refl h0 []
  refine own_enter (Q := Qn1 Z a0 w_GREATER h0 n0) (efn1 m a0) ?_
  refine own_st (T' := s₁) (g' := (mkF m 1 #[.val (.ref a0)] [(.ref a0)])) (fun t k => ?_) ?_
  · show Steps p.tables e below (s₁.setTop (mkF m 0 #[.val (.ref a0)] [])) t
    refine XS.aloadN X0.here hx rfl (hb hby d1_0) rfl rfl ?_
    exact k
  obtain ⟨cq1, kq1, qa1, qb1, qc1⟩ := isOf hZ e0 E_a0
  obtain ⟨_, _, ⟨T1, L1, k1, n1⟩, -, X1, ⟨Lc1, hQ1, l1, y1, z1⟩, st1⟩ := X0.virtualBackUp hx (owner := "java/lang/Enum") (x := (⟨"com/example/meshwatch/meshwatch/Relation", "ordinal", "()I"⟩ : MethodName)) (y := (⟨"java/lang/Enum", "ordinal", "()I"⟩ : MethodName)) hown (mvT hZ (hw _ (List.mem_of_getElem? (i := 22) rfl))) (mvT hZ (hw _ (List.mem_of_getElem? (i := 23) rfl))) (mvT hZ (hw _ (List.mem_of_getElem? (i := 24) rfl))) (by decide) (mvT hZ (hw _ (List.mem_of_getElem? (i := 26) rfl))) (mvT hZ (hw _ (List.mem_of_getElem? (i := 25) rfl))) (backOf (W := 0) (rmo1 l Z ar hw [] a0 h0 n0 Z0 F_ordinal_a0) hZ (hw _ (List.mem_of_getElem? (i := 28) rfl)) (hw _ (List.mem_of_getElem? (i := 27) rfl)) (by decide) (by decide)) qa1 qc1 (g := (mkF m 1 #[.val (.ref a0)] [(.ref a0)])) rfl (by rw [hml]; rfl) (Steps.refl _) (argsL := []) (rest := []) (lenOf pdn1_0 rfl) rfl (by show 2 * 0 + _ ≤ _; exact Nat.le_of_eq rfl) (hb hby d1_1) (fun _ _ => ⟨rfl, e0, (by decide : 0 + 0 ≤ _), (by decide : 0 + 0 ≤ _)⟩)
  dsimp only [Pt.U, Pt.locs, Pt.cells, Pt.slots] at X1 l1 y1 z1 st1 hQ1
  subst l1 y1 z1
  obtain ⟨rfl, N1q, e1⟩ := hQ1
  have n2 := Fr.app N0 N1q
  refine own_tr (T' := T1) (g' := (mkF m 4 #[.val (.ref a0)] [(.int (1 : Int32))])) st1 ?_
  refine own_st (T' := T1) (g' := (mkF m 60 #[.val (.ref a0)] [])) (fun t k => ?_) ?_
  · show Steps p.tables e below (T1.setTop (mkF m 4 #[.val (.ref a0)] [(.int (1 : Int32))])) t
    refine XS.tswIn X1.here hx rfl (pc0 := 4) (pc' := 60) rfl (hb hby d1_4) rfl (by decide) rfl (by decide) (by decide) ?_
    exact k
  obtain ⟨T3, X3, e3, st3⟩ := getS2 X1 hx hZ hown (host := "") (Or.inl (hw _ (List.mem_of_getElem? (i := 42) rfl))) Via.refl e1 S_GREATER (g := (mkF m 60 #[.val (.ref a0)] [])) rfl (hb hby d1_60)
  refine own_st (T' := T3) (g' := (mkF m 63 #[.val (.ref a0)] [(.ref w_GREATER)])) st3 ?_
  refine own_st (T' := T3) (g' := (mkF m 87 #[.val (.ref a0)] [(.ref w_GREATER)])) (fun t k => ?_) ?_
  · show Steps p.tables e below (T3.setTop (mkF m 63 #[.val (.ref a0)] [(.ref w_GREATER)])) t
    refine XS.goto X3.here hx rfl (pc0 := 63) (pc' := 87) rfl (hb hby d1_63) (by decide) (by decide) ?_
    exact k
  refine own_retA X3 hx hlk Bd.returns rfl rfl (hb hby d1_87) (by decide) (by decide) ?_
  show Qn1 Z a0 w_GREATER h0 n0 (some (.ref w_GREATER)) T3.heap _
  rw [(e3 : T3.heap = h0)]
  exact ⟨rfl, n2, rfl⟩
theorem pno2 : plainName "java/lang/Enum" = true := by first | (simp [plainName, overriddenIn]; done) | decide +kernel
theorem efo2 (m : MethodId) (a0 : Addr) : entryFrame m #[(.ref a0)] 1 = mkF m 0 #[.val (.ref a0)] [] := by first | (simp [entryFrame, mkF, argsToLocals, Value.category]; done) | rfl
def Qo2 (Z : State) (a0 : Addr) (h0 : Heap) (n0 : Nat) (v : Option Value) (h : Heap) (L : List Loc) : Prop := v = some (.int (2 : Int32)) ∧ Fr n0 L ∧ h = h0
set_option maxRecDepth 65536 in
set_option maxHeartbeats 40000000 in
theorem rmo2 (l : Launch) (Z : State) (ar : Array Value) (hw : ∀ d ∈ tables_1, d.before ar Z = true) (ws : List Jvm.Cond) (a0 : Addr) (h0 : Heap) (n0 : Nat) (Z0 : n0 ≤ h0.size) (F_ordinal_a0 : Fld Z h0 a0 "java/lang/Enum" "ordinal" "I" (.int (2 : Int32))) :
    MetFree l (⟨"java/lang/Enum", "ordinal", "()I"⟩ : MethodName) (head1 (Jvm.Cond.code (⟨"java/lang/Enum", "ordinal", "()I"⟩ : MethodName) jdk_37_method_2_code 1 (some .int) :: ws) ({ frames := 0, cells := 0, slots := 0, locals := 0 } : Room)) (fun a U => a = #[(.ref a0)] ∧ Z.Warmed39 U.vm ∧ U.heap = h0) (fun _ _ _ _ _ => True) (fun _ U o U' => ∃ v L, o = .returned v ∧ Qo2 Z a0 h0 n0 v U'.heap L ∧ FrameEnd U o U' L ({ frames := 0, cells := 0, slots := 0, locals := 0 } : Room).cells ({ frames := 0, cells := 0, slots := 0, locals := 0 } : Room).slots) := by
  refine MetFree.of_bodySF (plainFor_of_name pno2) hisR ?_
  intro p e s m args below meth c s₁ Bd hml0 hP hK
  obtain ⟨rfl, hZ, hh⟩ := hP
  have hx := Bd.exec
  have hby := Bd.bytes
  have hlk := Bd.notSynchronized
  have hml : c.maxLocals = 1 := hml0
  have hown : s.vm.findClass "java/lang/Enum" = some m.cls := findClass_of_methodNamed Bd.named
  have hnm := (name_of_methodNamed Bd.named Bd.method).1
  have X0 : Stand p l e ({ frames := 0, cells := 0, slots := 0, locals := 0 } : Room) s m #[(.ref a0)] below meth c s₁ [] 0 0 := Stand.of_body Bd
  have e0 : s₁.heap = h0 := by rw [← hh, Bd.state]; rfl
  have N0 := Fr.nil n0
  have K0 := Keep.refl h0 []
  refine own_enter (Q := Qo2 Z a0 h0 n0) (efo2 m a0) ?_
  refine own_st (T' := s₁) (g' := (mkF m 1 #[.val (.ref a0)] [(.ref a0)])) (fun t k => ?_) ?_
  · show Steps p.tables e below (s₁.setTop (mkF m 0 #[.val (.ref a0)] [])) t
    refine XS.aloadN X0.here hx rfl (hb hby d2_0) rfl rfl ?_
    exact k
  obtain ⟨T1, X1, e1, st1⟩ := getF X0 hx hZ hown (host := "") (Or.inl (hw _ (List.mem_of_getElem? (i := 29) rfl))) Via.refl e0 F_ordinal_a0 (g := (mkF m 1 #[.val (.ref a0)] [(.ref a0)])) rfl rfl (hb hby d2_1)
  refine own_st (T' := T1) (g' := (mkF m 4 #[.val (.ref a0)] [(.int (2 : Int32))])) st1 ?_
  refine own_retI X1 hx hlk Bd.returns (hb hby d2_4) (by decide) (by decide) ?_
  show Qo2 Z a0 h0 n0 (some (.int (2 : Int32))) T1.heap _
  rw [(e1 : T1.heap = h0)]
  exact ⟨rfl, N0, rfl⟩
theorem d4_82 : decode prog_24_method_5_code 82 = .ok (.dload_n 1, 1) := by decide +kernel
theorem d4_83 : decode prog_24_method_5_code 83 = .ok (.dload_n 3, 1) := by decide +kernel
theorem d4_84 : decode prog_24_method_5_code 84 = .ok (.dcmp .l, 1) := by decide +kernel
theorem d4_85 : decode prog_24_method_5_code 85 = .ok (.ifCond .le 7, 3) := by decide +kernel
theorem d4_88 : decode prog_24_method_5_code 88 = .ok (.iconst 1, 1) := by decide +kernel
theorem d4_89 : decode prog_24_method_5_code 89 = .ok (.goto 46, 3) := by decide +kernel
theorem d4_92 : decode prog_24_method_5_code 92 = .ok (.iconst 0, 1) := by decide +kernel
theorem d4_93 : decode prog_24_method_5_code 93 = .ok (.goto 42, 3) := by decide +kernel
theorem pnh2 : plainName "com/example/meshwatch/meshwatch/Relation" = true := by first | (simp [plainName, overriddenIn]; done) | decide +kernel
theorem pdh2_0 : parseMethodDescriptor "()I" = some ⟨[], some .int⟩ := by decide +kernel
theorem efh2 (m : MethodId) (a0 : Addr) (d1 : UInt64) (d2 : UInt64) : entryFrame m #[(.ref a0), (.double d1), (.double d2)] 5 = mkF m 0 #[.val (.ref a0), .val (.double d1), .second, .val (.double d2), .second] [] := by first | (simp [entryFrame, mkF, argsToLocals, Value.category]; done) | rfl
def Qh2 (Z : State) (a0 : Addr) (d1 : UInt64) (d2 : UInt64) (h0 : Heap) (n0 : Nat) (v : Option Value) (h : Heap) (L : List Loc) : Prop := v = some (.int (own_h2 (FP.dcmp d1 d2))) ∧ Fr n0 L ∧ h = h0
set_option maxRecDepth 65536 in
set_option maxHeartbeats 40000000 in
theorem rmh2 (l : Launch) (Z : State) (ar : Array Value) (hw : ∀ d ∈ tables_1, d.before ar Z = true) (ws : List Jvm.Cond) (a0 : Addr) (d1 : UInt64) (d2 : UInt64) (h0 : Heap) (n0 : Nat) (Z0 : n0 ≤ h0.size) (E_a0 : Exa Z h0 a0 "com/example/meshwatch/meshwatch/Relation") (F_ordinal_a0 : Fld Z h0 a0 "java/lang/Enum" "ordinal" "I" (.int (2 : Int32))) :
    MetFree l (⟨"com/example/meshwatch/meshwatch/Relation", "holds", "(DD)Z"⟩ : MethodName) (head1 (Jvm.Cond.code (⟨"com/example/meshwatch/meshwatch/Relation", "holds", "(DD)Z"⟩ : MethodName) prog_24_method_5_code 5 (some .boolean) :: ws) ({ frames := 1, cells := 0, slots := 0, locals := 12 } : Room)) (fun a U => a = #[(.ref a0), (.double d1), (.double d2)] ∧ Z.Warmed39 U.vm ∧ U.heap = h0) (fun _ _ _ _ _ => True) (fun _ U o U' => ∃ v L, o = .returned v ∧ Qh2 Z a0 d1 d2 h0 n0 v U'.heap L ∧ FrameEnd U o U' L ({ frames := 1, cells := 0, slots := 0, locals := 12 } : Room).cells ({ frames := 1, cells := 0, slots := 0, locals := 12 } : Room).slots) := by
  refine MetFree.of_bodySF (plainFor_of_name pnh2) hisR ?_
  intro p e s m args below meth c s₁ Bd hml0 hP hK
  obtain ⟨rfl, hZ, hh⟩ := hP
  have hx := Bd.exec
  have hby := Bd.bytes
  have hlk := Bd.notSynchronized
  have hml : c.maxLocals = 5 := hml0
  have hown : s.vm.findClass "com/example/meshwatch/meshwatch/Relation" = some m.cls := findClass_of_methodNamed Bd.named
  have hnm := (name_of_methodNamed Bd.named Bd.method).1
  have X0 : Stand p l e ({ frames := 1, cells := 0, slots := 0, locals := 12 } : Room) s m #[(.ref a0), (.double d1), (.double d2)] below meth c s₁ [] 0 0 := Stand.of_body Bd
  have e0 : s₁.heap = h0 := by rw [← hh, Bd.state]; rfl
  have N0 := Fr.nil n0
  have K0 := Keep.refl h0 []
  refine own_enter (Q := Qh2 Z a0 d1 d2 h0 n0) (efh2 m a0 d1 d2) ?_
  refine own_st (T' := s₁) (g' := (mkF m 1 #[.val (.ref a0), .val (.double d1), .second, .val (.double d2), .second] [(.ref a0)])) (fun t k => ?_) ?_
  · show Steps p.tables e below (s₁.setTop (mkF m 0 #[.val (.ref a0), .val (.double d1), .second, .val (.double d2), .second] [])) t
    refine XS.aloadN X0.here hx rfl (hb hby d4_0) rfl rfl ?_
    exact k
  obtain ⟨cq1, kq1, qa1, qb1, qc1⟩ := isOf hZ e0 E_a0
  obtain ⟨_, _, ⟨T1, L1, k1, n1⟩, -, X1, ⟨Lc1, hQ1, l1, y1, z1⟩, st1⟩ := X0.virtualBackUp hx (owner := "java/lang/Enum") (x := (⟨"com/example/meshwatch/meshwatch/Relation", "ordinal", "()I"⟩ : MethodName)) (y := (⟨"java/lang/Enum", "ordinal", "()I"⟩ : MethodName)) hown (mvT hZ (hw _ (List.mem_of_getElem? (i := 22) rfl))) (mvT hZ (hw _ (List.mem_of_getElem? (i := 23) rfl))) (mvT hZ (hw _ (List.mem_of_getElem? (i := 24) rfl))) (by decide) (mvT hZ (hw _ (List.mem_of_getElem? (i := 26) rfl))) (mvT hZ (hw _ (List.mem_of_getElem? (i := 25) rfl))) (backOf (W := 0) (rmo2 l Z ar hw [] a0 h0 n0 Z0 F_ordinal_a0) hZ (hw _ (List.mem_of_getElem? (i := 28) rfl)) (hw _ (List.mem_of_getElem? (i := 27) rfl)) (by decide) (by decide)) qa1 qc1 (g := (mkF m 1 #[.val (.ref a0), .val (.double d1), .second, .val (.double d2), .second] [(.ref a0)])) rfl (by rw [hml]; rfl) (Steps.refl _) (argsL := []) (rest := []) (lenOf pdh2_0 rfl) rfl (by show 2 * 0 + _ ≤ _; exact Nat.le_of_eq rfl) (hb hby d4_1) (fun _ _ => ⟨rfl, e0, (by decide : 0 + 0 ≤ _), (by decide : 0 + 0 ≤ _)⟩)
  dsimp only [Pt.U, Pt.locs, Pt.cells, Pt.slots] at X1 l1 y1 z1 st1 hQ1
  subst l1 y1 z1
  obtain ⟨rfl, N1q, e1⟩ := hQ1
  have n2 := Fr.app N0 N1q
  refine own_tr (T' := T1) (g' := (mkF m 4 #[.val (.ref a0), .val (.double d1), .second, .val (.double d2), .second] [(.int (2 : Int32))])) st1 ?_
  refine own_st (T' := T1) (g' := (mkF m 85 #[.val (.ref a0), .val (.double d1), .second, .val (.double d2), .second] [(.int (cmpValue (FP.dcmp d1 d2) .l))])) (fun t k => ?_) ?_
  · show Steps p.tables e below (T1.setTop (mkF m 4 #[.val (.ref a0), .val (.double d1), .second, .val (.double d2), .second] [(.int (2 : Int32))])) t
    refine XS.tswIn X1.here hx rfl (pc0 := 4) (pc' := 82) rfl (hb hby d4_4) rfl (by decide) rfl (by decide) (by decide) ?_
    show Steps p.tables e below (T1.setTop (mkF m 82 #[.val (.ref a0), .val (.double d1), .second, .val (.double d2), .second] [])) t
    refine XS.dloadN X1.here hx rfl (hb hby d4_82) rfl ?_
    show Steps p.tables e below (T1.setTop (mkF m 83 #[.val (.ref a0), .val (.double d1), .second, .val (.double d2), .second] [(.double d1)])) t
    refine XS.dloadN X1.here hx rfl (hb hby d4_83) rfl ?_
    show Steps p.tables e below (T1.setTop (mkF m 84 #[.val (.ref a0), .val (.double d1), .second, .val (.double d2), .second] [(.double d2), (.double d1)])) t
    refine XS.dcmpS X1.here hx rfl (hb hby d4_84) rfl rfl ?_
    exact k
  by_cases hc85_3 : ifCond.holds .le (cmpValue (FP.dcmp d1 d2) .l) = true
  · refine own_st (T' := T1) (g' := (mkF m 135 #[.val (.ref a0), .val (.double d1), .second, .val (.double d2), .second] [(.int (0 : Int32))])) (fun t k => ?_) ?_
    · show Steps p.tables e below (T1.setTop (mkF m 85 #[.val (.ref a0), .val (.double d1), .second, .val (.double d2), .second] [(.int (cmpValue (FP.dcmp d1 d2) .l))])) t
      refine XS.ifYes X1.here hx rfl (pc0 := 85) (pc' := 92) rfl (hb hby d4_85) rfl hc85_3 (by decide) (by decide) ?_
      show Steps p.tables e below (T1.setTop (mkF m 92 #[.val (.ref a0), .val (.double d1), .second, .val (.double d2), .second] [])) t
      refine XS.iconst X1.here hx rfl (hb hby d4_92) ?_
      show Steps p.tables e below (T1.setTop (mkF m 93 #[.val (.ref a0), .val (.double d1), .second, .val (.double d2), .second] [(.int (0 : Int32))])) t
      refine XS.goto X1.here hx rfl (pc0 := 93) (pc' := 135) rfl (hb hby d4_93) (by decide) (by decide) ?_
      exact k
    refine own_retZ X1 hx hlk Bd.returns (hb hby d4_135) rfl (by decide) (by decide) ?_
    show Qh2 Z a0 d1 d2 h0 n0 (some (.int (0 : Int32))) T1.heap _
    rw [(e1 : T1.heap = h0)]
    exact ⟨congrArg (fun z => some (Value.int z)) (if_pos hc85_3).symm, n2, rfl⟩
  · refine own_st (T' := T1) (g' := (mkF m 135 #[.val (.ref a0), .val (.double d1), .second, .val (.double d2), .second] [(.int (1 : Int32))])) (fun t k => ?_) ?_
    · show Steps p.tables e below (T1.setTop (mkF m 85 #[.val (.ref a0), .val (.double d1), .second, .val (.double d2), .second] [(.int (cmpValue (FP.dcmp d1 d2) .l))])) t
      refine XS.ifNo X1.here hx rfl (hb hby d4_85) rfl (Bool.eq_false_iff.mpr hc85_3) ?_
      show Steps p.tables e below (T1.setTop (mkF m 88 #[.val (.ref a0), .val (.double d1), .second, .val (.double d2), .second] [])) t
      refine XS.iconst X1.here hx rfl (hb hby d4_88) ?_
      show Steps p.tables e below (T1.setTop (mkF m 89 #[.val (.ref a0), .val (.double d1), .second, .val (.double d2), .second] [(.int (1 : Int32))])) t
      refine XS.goto X1.here hx rfl (pc0 := 89) (pc' := 135) rfl (hb hby d4_89) (by decide) (by decide) ?_
      exact k
    refine own_retZ X1 hx hlk Bd.returns (hb hby d4_135) rfl (by decide) (by decide) ?_
    show Qh2 Z a0 d1 d2 h0 n0 (some (.int (1 : Int32))) T1.heap _
    rw [(e1 : T1.heap = h0)]
    exact ⟨congrArg (fun z => some (Value.int z)) (if_neg hc85_3).symm, n2, rfl⟩
theorem d1_66 : decode prog_24_method_6_code 66 = .ok (.getstatic 7, 3) := by decide +kernel
theorem d1_69 : decode prog_24_method_6_code 69 = .ok (.goto 18, 3) := by decide +kernel
theorem pnn2 : plainName "com/example/meshwatch/meshwatch/Relation" = true := by first | (simp [plainName, overriddenIn]; done) | decide +kernel
theorem pdn2_0 : parseMethodDescriptor "()I" = some ⟨[], some .int⟩ := by decide +kernel
theorem efn2 (m : MethodId) (a0 : Addr) : entryFrame m #[(.ref a0)] 1 = mkF m 0 #[.val (.ref a0)] [] := by first | (simp [entryFrame, mkF, argsToLocals, Value.category]; done) | rfl
def Qn2 (Z : State) (a0 : Addr) (w_LESS_OR_EQUAL : Addr) (h0 : Heap) (n0 : Nat) (v : Option Value) (h : Heap) (L : List Loc) : Prop := v = some (.ref w_LESS_OR_EQUAL) ∧ Fr n0 L ∧ h = h0
set_option maxRecDepth 65536 in
set_option maxHeartbeats 40000000 in
theorem rmn2 (l : Launch) (Z : State) (ar : Array Value) (hw : ∀ d ∈ tables_1, d.before ar Z = true) (ws : List Jvm.Cond) (a0 : Addr) (w_LESS_OR_EQUAL : Addr) (h0 : Heap) (n0 : Nat) (Z0 : n0 ≤ h0.size) (E_a0 : Exa Z h0 a0 "com/example/meshwatch/meshwatch/Relation") (F_ordinal_a0 : Fld Z h0 a0 "java/lang/Enum" "ordinal" "I" (.int (2 : Int32))) (S_LESS_OR_EQUAL : Sta Z h0 "com/example/meshwatch/meshwatch/Relation" "LESS_OR_EQUAL" "Lcom/example/meshwatch/meshwatch/Relation;" (.ref w_LESS_OR_EQUAL)) :
    MetFree l (⟨"com/example/meshwatch/meshwatch/Relation", "negated", "()Lcom/example/meshwatch/meshwatch/Relation;"⟩ : MethodName) (head1 (Jvm.Cond.code (⟨"com/example/meshwatch/meshwatch/Relation", "negated", "()Lcom/example/meshwatch/meshwatch/Relation;"⟩ : MethodName) prog_24_method_6_code 1 (some (.object "com/example/meshwatch/meshwatch/Relation")) :: ws) ({ frames := 1, cells := 0, slots := 0, locals := 12 } : Room)) (fun a U => a = #[(.ref a0)] ∧ Z.Warmed39 U.vm ∧ U.heap = h0) (fun _ _ _ _ _ => True) (fun _ U o U' => ∃ v L, o = .returned v ∧ Qn2 Z a0 w_LESS_OR_EQUAL h0 n0 v U'.heap L ∧ FrameEnd U o U' L ({ frames := 1, cells := 0, slots := 0, locals := 12 } : Room).cells ({ frames := 1, cells := 0, slots := 0, locals := 12 } : Room).slots) := by
  refine MetFree.of_bodySF (plainFor_of_name pnn2) hisR ?_
  intro p e s m args below meth c s₁ Bd hml0 hP hK
  obtain ⟨rfl, hZ, hh⟩ := hP
  have hx := Bd.exec
  have hby := Bd.bytes
  have hlk := Bd.notSynchronized
  have hml : c.maxLocals = 1 := hml0
  have hown : s.vm.findClass "com/example/meshwatch/meshwatch/Relation" = some m.cls := findClass_of_methodNamed Bd.named
  have hnm := (name_of_methodNamed Bd.named Bd.method).1
  have X0 : Stand p l e ({ frames := 1, cells := 0, slots := 0, locals := 12 } : Room) s m #[(.ref a0)] below meth c s₁ [] 0 0 := Stand.of_body Bd
  have e0 : s₁.heap = h0 := by rw [← hh, Bd.state]; rfl
  have N0 := Fr.nil n0
  have K0 := Keep.refl h0 []
  refine own_enter (Q := Qn2 Z a0 w_LESS_OR_EQUAL h0 n0) (efn2 m a0) ?_
  refine own_st (T' := s₁) (g' := (mkF m 1 #[.val (.ref a0)] [(.ref a0)])) (fun t k => ?_) ?_
  · show Steps p.tables e below (s₁.setTop (mkF m 0 #[.val (.ref a0)] [])) t
    refine XS.aloadN X0.here hx rfl (hb hby d1_0) rfl rfl ?_
    exact k
  obtain ⟨cq1, kq1, qa1, qb1, qc1⟩ := isOf hZ e0 E_a0
  obtain ⟨_, _, ⟨T1, L1, k1, n1⟩, -, X1, ⟨Lc1, hQ1, l1, y1, z1⟩, st1⟩ := X0.virtualBackUp hx (owner := "java/lang/Enum") (x := (⟨"com/example/meshwatch/meshwatch/Relation", "ordinal", "()I"⟩ : MethodName)) (y := (⟨"java/lang/Enum", "ordinal", "()I"⟩ : MethodName)) hown (mvT hZ (hw _ (List.mem_of_getElem? (i := 22) rfl))) (mvT hZ (hw _ (List.mem_of_getElem? (i := 23) rfl))) (mvT hZ (hw _ (List.mem_of_getElem? (i := 24) rfl))) (by decide) (mvT hZ (hw _ (List.mem_of_getElem? (i := 26) rfl))) (mvT hZ (hw _ (List.mem_of_getElem? (i := 25) rfl))) (backOf (W := 0) (rmo2 l Z ar hw [] a0 h0 n0 Z0 F_ordinal_a0) hZ (hw _ (List.mem_of_getElem? (i := 28) rfl)) (hw _ (List.mem_of_getElem? (i := 27) rfl)) (by decide) (by decide)) qa1 qc1 (g := (mkF m 1 #[.val (.ref a0)] [(.ref a0)])) rfl (by rw [hml]; rfl) (Steps.refl _) (argsL := []) (rest := []) (lenOf pdn2_0 rfl) rfl (by show 2 * 0 + _ ≤ _; exact Nat.le_of_eq rfl) (hb hby d1_1) (fun _ _ => ⟨rfl, e0, (by decide : 0 + 0 ≤ _), (by decide : 0 + 0 ≤ _)⟩)
  dsimp only [Pt.U, Pt.locs, Pt.cells, Pt.slots] at X1 l1 y1 z1 st1 hQ1
  subst l1 y1 z1
  obtain ⟨rfl, N1q, e1⟩ := hQ1
  have n2 := Fr.app N0 N1q
  refine own_tr (T' := T1) (g' := (mkF m 4 #[.val (.ref a0)] [(.int (2 : Int32))])) st1 ?_
  refine own_st (T' := T1) (g' := (mkF m 66 #[.val (.ref a0)] [])) (fun t k => ?_) ?_
  · show Steps p.tables e below (T1.setTop (mkF m 4 #[.val (.ref a0)] [(.int (2 : Int32))])) t
    refine XS.tswIn X1.here hx rfl (pc0 := 4) (pc' := 66) rfl (hb hby d1_4) rfl (by decide) rfl (by decide) (by decide) ?_
    exact k
  obtain ⟨T3, X3, e3, st3⟩ := getS2 X1 hx hZ hown (host := "") (Or.inl (hw _ (List.mem_of_getElem? (i := 43) rfl))) Via.refl e1 S_LESS_OR_EQUAL (g := (mkF m 66 #[.val (.ref a0)] [])) rfl (hb hby d1_66)
  refine own_st (T' := T3) (g' := (mkF m 69 #[.val (.ref a0)] [(.ref w_LESS_OR_EQUAL)])) st3 ?_
  refine own_st (T' := T3) (g' := (mkF m 87 #[.val (.ref a0)] [(.ref w_LESS_OR_EQUAL)])) (fun t k => ?_) ?_
  · show Steps p.tables e below (T3.setTop (mkF m 69 #[.val (.ref a0)] [(.ref w_LESS_OR_EQUAL)])) t
    refine XS.goto X3.here hx rfl (pc0 := 69) (pc' := 87) rfl (hb hby d1_69) (by decide) (by decide) ?_
    exact k
  refine own_retA X3 hx hlk Bd.returns rfl rfl (hb hby d1_87) (by decide) (by decide) ?_
  show Qn2 Z a0 w_LESS_OR_EQUAL h0 n0 (some (.ref w_LESS_OR_EQUAL)) T3.heap _
  rw [(e3 : T3.heap = h0)]
  exact ⟨rfl, n2, rfl⟩
theorem pno3 : plainName "java/lang/Enum" = true := by first | (simp [plainName, overriddenIn]; done) | decide +kernel
theorem efo3 (m : MethodId) (a0 : Addr) : entryFrame m #[(.ref a0)] 1 = mkF m 0 #[.val (.ref a0)] [] := by first | (simp [entryFrame, mkF, argsToLocals, Value.category]; done) | rfl
def Qo3 (Z : State) (a0 : Addr) (h0 : Heap) (n0 : Nat) (v : Option Value) (h : Heap) (L : List Loc) : Prop := v = some (.int (3 : Int32)) ∧ Fr n0 L ∧ h = h0
set_option maxRecDepth 65536 in
set_option maxHeartbeats 40000000 in
theorem rmo3 (l : Launch) (Z : State) (ar : Array Value) (hw : ∀ d ∈ tables_1, d.before ar Z = true) (ws : List Jvm.Cond) (a0 : Addr) (h0 : Heap) (n0 : Nat) (Z0 : n0 ≤ h0.size) (F_ordinal_a0 : Fld Z h0 a0 "java/lang/Enum" "ordinal" "I" (.int (3 : Int32))) :
    MetFree l (⟨"java/lang/Enum", "ordinal", "()I"⟩ : MethodName) (head1 (Jvm.Cond.code (⟨"java/lang/Enum", "ordinal", "()I"⟩ : MethodName) jdk_37_method_2_code 1 (some .int) :: ws) ({ frames := 0, cells := 0, slots := 0, locals := 0 } : Room)) (fun a U => a = #[(.ref a0)] ∧ Z.Warmed39 U.vm ∧ U.heap = h0) (fun _ _ _ _ _ => True) (fun _ U o U' => ∃ v L, o = .returned v ∧ Qo3 Z a0 h0 n0 v U'.heap L ∧ FrameEnd U o U' L ({ frames := 0, cells := 0, slots := 0, locals := 0 } : Room).cells ({ frames := 0, cells := 0, slots := 0, locals := 0 } : Room).slots) := by
  refine MetFree.of_bodySF (plainFor_of_name pno3) hisR ?_
  intro p e s m args below meth c s₁ Bd hml0 hP hK
  obtain ⟨rfl, hZ, hh⟩ := hP
  have hx := Bd.exec
  have hby := Bd.bytes
  have hlk := Bd.notSynchronized
  have hml : c.maxLocals = 1 := hml0
  have hown : s.vm.findClass "java/lang/Enum" = some m.cls := findClass_of_methodNamed Bd.named
  have hnm := (name_of_methodNamed Bd.named Bd.method).1
  have X0 : Stand p l e ({ frames := 0, cells := 0, slots := 0, locals := 0 } : Room) s m #[(.ref a0)] below meth c s₁ [] 0 0 := Stand.of_body Bd
  have e0 : s₁.heap = h0 := by rw [← hh, Bd.state]; rfl
  have N0 := Fr.nil n0
  have K0 := Keep.refl h0 []
  refine own_enter (Q := Qo3 Z a0 h0 n0) (efo3 m a0) ?_
  refine own_st (T' := s₁) (g' := (mkF m 1 #[.val (.ref a0)] [(.ref a0)])) (fun t k => ?_) ?_
  · show Steps p.tables e below (s₁.setTop (mkF m 0 #[.val (.ref a0)] [])) t
    refine XS.aloadN X0.here hx rfl (hb hby d2_0) rfl rfl ?_
    exact k
  obtain ⟨T1, X1, e1, st1⟩ := getF X0 hx hZ hown (host := "") (Or.inl (hw _ (List.mem_of_getElem? (i := 29) rfl))) Via.refl e0 F_ordinal_a0 (g := (mkF m 1 #[.val (.ref a0)] [(.ref a0)])) rfl rfl (hb hby d2_1)
  refine own_st (T' := T1) (g' := (mkF m 4 #[.val (.ref a0)] [(.int (3 : Int32))])) st1 ?_
  refine own_retI X1 hx hlk Bd.returns (hb hby d2_4) (by decide) (by decide) ?_
  show Qo3 Z a0 h0 n0 (some (.int (3 : Int32))) T1.heap _
  rw [(e1 : T1.heap = h0)]
  exact ⟨rfl, N0, rfl⟩
theorem d4_96 : decode prog_24_method_5_code 96 = .ok (.dload_n 1, 1) := by decide +kernel
theorem d4_97 : decode prog_24_method_5_code 97 = .ok (.dload_n 3, 1) := by decide +kernel
theorem d4_98 : decode prog_24_method_5_code 98 = .ok (.dcmp .l, 1) := by decide +kernel
theorem d4_99 : decode prog_24_method_5_code 99 = .ok (.ifCond .lt 7, 3) := by decide +kernel
theorem d4_102 : decode prog_24_method_5_code 102 = .ok (.iconst 1, 1) := by decide +kernel
theorem d4_103 : decode prog_24_method_5_code 103 = .ok (.goto 32, 3) := by decide +kernel
theorem d4_106 : decode prog_24_method_5_code 106 = .ok (.iconst 0, 1) := by decide +kernel
theorem d4_107 : decode prog_24_method_5_code 107 = .ok (.goto 28, 3) := by decide +kernel
theorem pnh3 : plainName "com/example/meshwatch/meshwatch/Relation" = true := by first | (simp [plainName, overriddenIn]; done) | decide +kernel
theorem pdh3_0 : parseMethodDescriptor "()I" = some ⟨[], some .int⟩ := by decide +kernel
theorem efh3 (m : MethodId) (a0 : Addr) (d1 : UInt64) (d2 : UInt64) : entryFrame m #[(.ref a0), (.double d1), (.double d2)] 5 = mkF m 0 #[.val (.ref a0), .val (.double d1), .second, .val (.double d2), .second] [] := by first | (simp [entryFrame, mkF, argsToLocals, Value.category]; done) | rfl
def Qh3 (Z : State) (a0 : Addr) (d1 : UInt64) (d2 : UInt64) (h0 : Heap) (n0 : Nat) (v : Option Value) (h : Heap) (L : List Loc) : Prop := v = some (.int (own_h3 (FP.dcmp d1 d2))) ∧ Fr n0 L ∧ h = h0
set_option maxRecDepth 65536 in
set_option maxHeartbeats 40000000 in
theorem rmh3 (l : Launch) (Z : State) (ar : Array Value) (hw : ∀ d ∈ tables_1, d.before ar Z = true) (ws : List Jvm.Cond) (a0 : Addr) (d1 : UInt64) (d2 : UInt64) (h0 : Heap) (n0 : Nat) (Z0 : n0 ≤ h0.size) (E_a0 : Exa Z h0 a0 "com/example/meshwatch/meshwatch/Relation") (F_ordinal_a0 : Fld Z h0 a0 "java/lang/Enum" "ordinal" "I" (.int (3 : Int32))) :
    MetFree l (⟨"com/example/meshwatch/meshwatch/Relation", "holds", "(DD)Z"⟩ : MethodName) (head1 (Jvm.Cond.code (⟨"com/example/meshwatch/meshwatch/Relation", "holds", "(DD)Z"⟩ : MethodName) prog_24_method_5_code 5 (some .boolean) :: ws) ({ frames := 1, cells := 0, slots := 0, locals := 12 } : Room)) (fun a U => a = #[(.ref a0), (.double d1), (.double d2)] ∧ Z.Warmed39 U.vm ∧ U.heap = h0) (fun _ _ _ _ _ => True) (fun _ U o U' => ∃ v L, o = .returned v ∧ Qh3 Z a0 d1 d2 h0 n0 v U'.heap L ∧ FrameEnd U o U' L ({ frames := 1, cells := 0, slots := 0, locals := 12 } : Room).cells ({ frames := 1, cells := 0, slots := 0, locals := 12 } : Room).slots) := by
  refine MetFree.of_bodySF (plainFor_of_name pnh3) hisR ?_
  intro p e s m args below meth c s₁ Bd hml0 hP hK
  obtain ⟨rfl, hZ, hh⟩ := hP
  have hx := Bd.exec
  have hby := Bd.bytes
  have hlk := Bd.notSynchronized
  have hml : c.maxLocals = 5 := hml0
  have hown : s.vm.findClass "com/example/meshwatch/meshwatch/Relation" = some m.cls := findClass_of_methodNamed Bd.named
  have hnm := (name_of_methodNamed Bd.named Bd.method).1
  have X0 : Stand p l e ({ frames := 1, cells := 0, slots := 0, locals := 12 } : Room) s m #[(.ref a0), (.double d1), (.double d2)] below meth c s₁ [] 0 0 := Stand.of_body Bd
  have e0 : s₁.heap = h0 := by rw [← hh, Bd.state]; rfl
  have N0 := Fr.nil n0
  have K0 := Keep.refl h0 []
  refine own_enter (Q := Qh3 Z a0 d1 d2 h0 n0) (efh3 m a0 d1 d2) ?_
  refine own_st (T' := s₁) (g' := (mkF m 1 #[.val (.ref a0), .val (.double d1), .second, .val (.double d2), .second] [(.ref a0)])) (fun t k => ?_) ?_
  · show Steps p.tables e below (s₁.setTop (mkF m 0 #[.val (.ref a0), .val (.double d1), .second, .val (.double d2), .second] [])) t
    refine XS.aloadN X0.here hx rfl (hb hby d4_0) rfl rfl ?_
    exact k
  obtain ⟨cq1, kq1, qa1, qb1, qc1⟩ := isOf hZ e0 E_a0
  obtain ⟨_, _, ⟨T1, L1, k1, n1⟩, -, X1, ⟨Lc1, hQ1, l1, y1, z1⟩, st1⟩ := X0.virtualBackUp hx (owner := "java/lang/Enum") (x := (⟨"com/example/meshwatch/meshwatch/Relation", "ordinal", "()I"⟩ : MethodName)) (y := (⟨"java/lang/Enum", "ordinal", "()I"⟩ : MethodName)) hown (mvT hZ (hw _ (List.mem_of_getElem? (i := 22) rfl))) (mvT hZ (hw _ (List.mem_of_getElem? (i := 23) rfl))) (mvT hZ (hw _ (List.mem_of_getElem? (i := 24) rfl))) (by decide) (mvT hZ (hw _ (List.mem_of_getElem? (i := 26) rfl))) (mvT hZ (hw _ (List.mem_of_getElem? (i := 25) rfl))) (backOf (W := 0) (rmo3 l Z ar hw [] a0 h0 n0 Z0 F_ordinal_a0) hZ (hw _ (List.mem_of_getElem? (i := 28) rfl)) (hw _ (List.mem_of_getElem? (i := 27) rfl)) (by decide) (by decide)) qa1 qc1 (g := (mkF m 1 #[.val (.ref a0), .val (.double d1), .second, .val (.double d2), .second] [(.ref a0)])) rfl (by rw [hml]; rfl) (Steps.refl _) (argsL := []) (rest := []) (lenOf pdh3_0 rfl) rfl (by show 2 * 0 + _ ≤ _; exact Nat.le_of_eq rfl) (hb hby d4_1) (fun _ _ => ⟨rfl, e0, (by decide : 0 + 0 ≤ _), (by decide : 0 + 0 ≤ _)⟩)
  dsimp only [Pt.U, Pt.locs, Pt.cells, Pt.slots] at X1 l1 y1 z1 st1 hQ1
  subst l1 y1 z1
  obtain ⟨rfl, N1q, e1⟩ := hQ1
  have n2 := Fr.app N0 N1q
  refine own_tr (T' := T1) (g' := (mkF m 4 #[.val (.ref a0), .val (.double d1), .second, .val (.double d2), .second] [(.int (3 : Int32))])) st1 ?_
  refine own_st (T' := T1) (g' := (mkF m 99 #[.val (.ref a0), .val (.double d1), .second, .val (.double d2), .second] [(.int (cmpValue (FP.dcmp d1 d2) .l))])) (fun t k => ?_) ?_
  · show Steps p.tables e below (T1.setTop (mkF m 4 #[.val (.ref a0), .val (.double d1), .second, .val (.double d2), .second] [(.int (3 : Int32))])) t
    refine XS.tswIn X1.here hx rfl (pc0 := 4) (pc' := 96) rfl (hb hby d4_4) rfl (by decide) rfl (by decide) (by decide) ?_
    show Steps p.tables e below (T1.setTop (mkF m 96 #[.val (.ref a0), .val (.double d1), .second, .val (.double d2), .second] [])) t
    refine XS.dloadN X1.here hx rfl (hb hby d4_96) rfl ?_
    show Steps p.tables e below (T1.setTop (mkF m 97 #[.val (.ref a0), .val (.double d1), .second, .val (.double d2), .second] [(.double d1)])) t
    refine XS.dloadN X1.here hx rfl (hb hby d4_97) rfl ?_
    show Steps p.tables e below (T1.setTop (mkF m 98 #[.val (.ref a0), .val (.double d1), .second, .val (.double d2), .second] [(.double d2), (.double d1)])) t
    refine XS.dcmpS X1.here hx rfl (hb hby d4_98) rfl rfl ?_
    exact k
  by_cases hc99_3 : ifCond.holds .lt (cmpValue (FP.dcmp d1 d2) .l) = true
  · refine own_st (T' := T1) (g' := (mkF m 135 #[.val (.ref a0), .val (.double d1), .second, .val (.double d2), .second] [(.int (0 : Int32))])) (fun t k => ?_) ?_
    · show Steps p.tables e below (T1.setTop (mkF m 99 #[.val (.ref a0), .val (.double d1), .second, .val (.double d2), .second] [(.int (cmpValue (FP.dcmp d1 d2) .l))])) t
      refine XS.ifYes X1.here hx rfl (pc0 := 99) (pc' := 106) rfl (hb hby d4_99) rfl hc99_3 (by decide) (by decide) ?_
      show Steps p.tables e below (T1.setTop (mkF m 106 #[.val (.ref a0), .val (.double d1), .second, .val (.double d2), .second] [])) t
      refine XS.iconst X1.here hx rfl (hb hby d4_106) ?_
      show Steps p.tables e below (T1.setTop (mkF m 107 #[.val (.ref a0), .val (.double d1), .second, .val (.double d2), .second] [(.int (0 : Int32))])) t
      refine XS.goto X1.here hx rfl (pc0 := 107) (pc' := 135) rfl (hb hby d4_107) (by decide) (by decide) ?_
      exact k
    refine own_retZ X1 hx hlk Bd.returns (hb hby d4_135) rfl (by decide) (by decide) ?_
    show Qh3 Z a0 d1 d2 h0 n0 (some (.int (0 : Int32))) T1.heap _
    rw [(e1 : T1.heap = h0)]
    exact ⟨congrArg (fun z => some (Value.int z)) (if_pos hc99_3).symm, n2, rfl⟩
  · refine own_st (T' := T1) (g' := (mkF m 135 #[.val (.ref a0), .val (.double d1), .second, .val (.double d2), .second] [(.int (1 : Int32))])) (fun t k => ?_) ?_
    · show Steps p.tables e below (T1.setTop (mkF m 99 #[.val (.ref a0), .val (.double d1), .second, .val (.double d2), .second] [(.int (cmpValue (FP.dcmp d1 d2) .l))])) t
      refine XS.ifNo X1.here hx rfl (hb hby d4_99) rfl (Bool.eq_false_iff.mpr hc99_3) ?_
      show Steps p.tables e below (T1.setTop (mkF m 102 #[.val (.ref a0), .val (.double d1), .second, .val (.double d2), .second] [])) t
      refine XS.iconst X1.here hx rfl (hb hby d4_102) ?_
      show Steps p.tables e below (T1.setTop (mkF m 103 #[.val (.ref a0), .val (.double d1), .second, .val (.double d2), .second] [(.int (1 : Int32))])) t
      refine XS.goto X1.here hx rfl (pc0 := 103) (pc' := 135) rfl (hb hby d4_103) (by decide) (by decide) ?_
      exact k
    refine own_retZ X1 hx hlk Bd.returns (hb hby d4_135) rfl (by decide) (by decide) ?_
    show Qh3 Z a0 d1 d2 h0 n0 (some (.int (1 : Int32))) T1.heap _
    rw [(e1 : T1.heap = h0)]
    exact ⟨congrArg (fun z => some (Value.int z)) (if_neg hc99_3).symm, n2, rfl⟩
theorem d1_72 : decode prog_24_method_6_code 72 = .ok (.getstatic 3, 3) := by decide +kernel
theorem d1_75 : decode prog_24_method_6_code 75 = .ok (.goto 12, 3) := by decide +kernel
theorem pnn3 : plainName "com/example/meshwatch/meshwatch/Relation" = true := by first | (simp [plainName, overriddenIn]; done) | decide +kernel
theorem pdn3_0 : parseMethodDescriptor "()I" = some ⟨[], some .int⟩ := by decide +kernel
theorem efn3 (m : MethodId) (a0 : Addr) : entryFrame m #[(.ref a0)] 1 = mkF m 0 #[.val (.ref a0)] [] := by first | (simp [entryFrame, mkF, argsToLocals, Value.category]; done) | rfl
def Qn3 (Z : State) (a0 : Addr) (w_LESS : Addr) (h0 : Heap) (n0 : Nat) (v : Option Value) (h : Heap) (L : List Loc) : Prop := v = some (.ref w_LESS) ∧ Fr n0 L ∧ h = h0
set_option maxRecDepth 65536 in
set_option maxHeartbeats 40000000 in
theorem rmn3 (l : Launch) (Z : State) (ar : Array Value) (hw : ∀ d ∈ tables_1, d.before ar Z = true) (ws : List Jvm.Cond) (a0 : Addr) (w_LESS : Addr) (h0 : Heap) (n0 : Nat) (Z0 : n0 ≤ h0.size) (E_a0 : Exa Z h0 a0 "com/example/meshwatch/meshwatch/Relation") (F_ordinal_a0 : Fld Z h0 a0 "java/lang/Enum" "ordinal" "I" (.int (3 : Int32))) (S_LESS : Sta Z h0 "com/example/meshwatch/meshwatch/Relation" "LESS" "Lcom/example/meshwatch/meshwatch/Relation;" (.ref w_LESS)) :
    MetFree l (⟨"com/example/meshwatch/meshwatch/Relation", "negated", "()Lcom/example/meshwatch/meshwatch/Relation;"⟩ : MethodName) (head1 (Jvm.Cond.code (⟨"com/example/meshwatch/meshwatch/Relation", "negated", "()Lcom/example/meshwatch/meshwatch/Relation;"⟩ : MethodName) prog_24_method_6_code 1 (some (.object "com/example/meshwatch/meshwatch/Relation")) :: ws) ({ frames := 1, cells := 0, slots := 0, locals := 12 } : Room)) (fun a U => a = #[(.ref a0)] ∧ Z.Warmed39 U.vm ∧ U.heap = h0) (fun _ _ _ _ _ => True) (fun _ U o U' => ∃ v L, o = .returned v ∧ Qn3 Z a0 w_LESS h0 n0 v U'.heap L ∧ FrameEnd U o U' L ({ frames := 1, cells := 0, slots := 0, locals := 12 } : Room).cells ({ frames := 1, cells := 0, slots := 0, locals := 12 } : Room).slots) := by
  refine MetFree.of_bodySF (plainFor_of_name pnn3) hisR ?_
  intro p e s m args below meth c s₁ Bd hml0 hP hK
  obtain ⟨rfl, hZ, hh⟩ := hP
  have hx := Bd.exec
  have hby := Bd.bytes
  have hlk := Bd.notSynchronized
  have hml : c.maxLocals = 1 := hml0
  have hown : s.vm.findClass "com/example/meshwatch/meshwatch/Relation" = some m.cls := findClass_of_methodNamed Bd.named
  have hnm := (name_of_methodNamed Bd.named Bd.method).1
  have X0 : Stand p l e ({ frames := 1, cells := 0, slots := 0, locals := 12 } : Room) s m #[(.ref a0)] below meth c s₁ [] 0 0 := Stand.of_body Bd
  have e0 : s₁.heap = h0 := by rw [← hh, Bd.state]; rfl
  have N0 := Fr.nil n0
  have K0 := Keep.refl h0 []
  refine own_enter (Q := Qn3 Z a0 w_LESS h0 n0) (efn3 m a0) ?_
  refine own_st (T' := s₁) (g' := (mkF m 1 #[.val (.ref a0)] [(.ref a0)])) (fun t k => ?_) ?_
  · show Steps p.tables e below (s₁.setTop (mkF m 0 #[.val (.ref a0)] [])) t
    refine XS.aloadN X0.here hx rfl (hb hby d1_0) rfl rfl ?_
    exact k
  obtain ⟨cq1, kq1, qa1, qb1, qc1⟩ := isOf hZ e0 E_a0
  obtain ⟨_, _, ⟨T1, L1, k1, n1⟩, -, X1, ⟨Lc1, hQ1, l1, y1, z1⟩, st1⟩ := X0.virtualBackUp hx (owner := "java/lang/Enum") (x := (⟨"com/example/meshwatch/meshwatch/Relation", "ordinal", "()I"⟩ : MethodName)) (y := (⟨"java/lang/Enum", "ordinal", "()I"⟩ : MethodName)) hown (mvT hZ (hw _ (List.mem_of_getElem? (i := 22) rfl))) (mvT hZ (hw _ (List.mem_of_getElem? (i := 23) rfl))) (mvT hZ (hw _ (List.mem_of_getElem? (i := 24) rfl))) (by decide) (mvT hZ (hw _ (List.mem_of_getElem? (i := 26) rfl))) (mvT hZ (hw _ (List.mem_of_getElem? (i := 25) rfl))) (backOf (W := 0) (rmo3 l Z ar hw [] a0 h0 n0 Z0 F_ordinal_a0) hZ (hw _ (List.mem_of_getElem? (i := 28) rfl)) (hw _ (List.mem_of_getElem? (i := 27) rfl)) (by decide) (by decide)) qa1 qc1 (g := (mkF m 1 #[.val (.ref a0)] [(.ref a0)])) rfl (by rw [hml]; rfl) (Steps.refl _) (argsL := []) (rest := []) (lenOf pdn3_0 rfl) rfl (by show 2 * 0 + _ ≤ _; exact Nat.le_of_eq rfl) (hb hby d1_1) (fun _ _ => ⟨rfl, e0, (by decide : 0 + 0 ≤ _), (by decide : 0 + 0 ≤ _)⟩)
  dsimp only [Pt.U, Pt.locs, Pt.cells, Pt.slots] at X1 l1 y1 z1 st1 hQ1
  subst l1 y1 z1
  obtain ⟨rfl, N1q, e1⟩ := hQ1
  have n2 := Fr.app N0 N1q
  refine own_tr (T' := T1) (g' := (mkF m 4 #[.val (.ref a0)] [(.int (3 : Int32))])) st1 ?_
  refine own_st (T' := T1) (g' := (mkF m 72 #[.val (.ref a0)] [])) (fun t k => ?_) ?_
  · show Steps p.tables e below (T1.setTop (mkF m 4 #[.val (.ref a0)] [(.int (3 : Int32))])) t
    refine XS.tswIn X1.here hx rfl (pc0 := 4) (pc' := 72) rfl (hb hby d1_4) rfl (by decide) rfl (by decide) (by decide) ?_
    exact k
  obtain ⟨T3, X3, e3, st3⟩ := getS2 X1 hx hZ hown (host := "") (Or.inl (hw _ (List.mem_of_getElem? (i := 32) rfl))) Via.refl e1 S_LESS (g := (mkF m 72 #[.val (.ref a0)] [])) rfl (hb hby d1_72)
  refine own_st (T' := T3) (g' := (mkF m 75 #[.val (.ref a0)] [(.ref w_LESS)])) st3 ?_
  refine own_st (T' := T3) (g' := (mkF m 87 #[.val (.ref a0)] [(.ref w_LESS)])) (fun t k => ?_) ?_
  · show Steps p.tables e below (T3.setTop (mkF m 75 #[.val (.ref a0)] [(.ref w_LESS)])) t
    refine XS.goto X3.here hx rfl (pc0 := 75) (pc' := 87) rfl (hb hby d1_75) (by decide) (by decide) ?_
    exact k
  refine own_retA X3 hx hlk Bd.returns rfl rfl (hb hby d1_87) (by decide) (by decide) ?_
  show Qn3 Z a0 w_LESS h0 n0 (some (.ref w_LESS)) T3.heap _
  rw [(e3 : T3.heap = h0)]
  exact ⟨rfl, n2, rfl⟩
theorem pno4 : plainName "java/lang/Enum" = true := by first | (simp [plainName, overriddenIn]; done) | decide +kernel
theorem efo4 (m : MethodId) (a0 : Addr) : entryFrame m #[(.ref a0)] 1 = mkF m 0 #[.val (.ref a0)] [] := by first | (simp [entryFrame, mkF, argsToLocals, Value.category]; done) | rfl
def Qo4 (Z : State) (a0 : Addr) (h0 : Heap) (n0 : Nat) (v : Option Value) (h : Heap) (L : List Loc) : Prop := v = some (.int (4 : Int32)) ∧ Fr n0 L ∧ h = h0
set_option maxRecDepth 65536 in
set_option maxHeartbeats 40000000 in
theorem rmo4 (l : Launch) (Z : State) (ar : Array Value) (hw : ∀ d ∈ tables_1, d.before ar Z = true) (ws : List Jvm.Cond) (a0 : Addr) (h0 : Heap) (n0 : Nat) (Z0 : n0 ≤ h0.size) (F_ordinal_a0 : Fld Z h0 a0 "java/lang/Enum" "ordinal" "I" (.int (4 : Int32))) :
    MetFree l (⟨"java/lang/Enum", "ordinal", "()I"⟩ : MethodName) (head1 (Jvm.Cond.code (⟨"java/lang/Enum", "ordinal", "()I"⟩ : MethodName) jdk_37_method_2_code 1 (some .int) :: ws) ({ frames := 0, cells := 0, slots := 0, locals := 0 } : Room)) (fun a U => a = #[(.ref a0)] ∧ Z.Warmed39 U.vm ∧ U.heap = h0) (fun _ _ _ _ _ => True) (fun _ U o U' => ∃ v L, o = .returned v ∧ Qo4 Z a0 h0 n0 v U'.heap L ∧ FrameEnd U o U' L ({ frames := 0, cells := 0, slots := 0, locals := 0 } : Room).cells ({ frames := 0, cells := 0, slots := 0, locals := 0 } : Room).slots) := by
  refine MetFree.of_bodySF (plainFor_of_name pno4) hisR ?_
  intro p e s m args below meth c s₁ Bd hml0 hP hK
  obtain ⟨rfl, hZ, hh⟩ := hP
  have hx := Bd.exec
  have hby := Bd.bytes
  have hlk := Bd.notSynchronized
  have hml : c.maxLocals = 1 := hml0
  have hown : s.vm.findClass "java/lang/Enum" = some m.cls := findClass_of_methodNamed Bd.named
  have hnm := (name_of_methodNamed Bd.named Bd.method).1
  have X0 : Stand p l e ({ frames := 0, cells := 0, slots := 0, locals := 0 } : Room) s m #[(.ref a0)] below meth c s₁ [] 0 0 := Stand.of_body Bd
  have e0 : s₁.heap = h0 := by rw [← hh, Bd.state]; rfl
  have N0 := Fr.nil n0
  have K0 := Keep.refl h0 []
  refine own_enter (Q := Qo4 Z a0 h0 n0) (efo4 m a0) ?_
  refine own_st (T' := s₁) (g' := (mkF m 1 #[.val (.ref a0)] [(.ref a0)])) (fun t k => ?_) ?_
  · show Steps p.tables e below (s₁.setTop (mkF m 0 #[.val (.ref a0)] [])) t
    refine XS.aloadN X0.here hx rfl (hb hby d2_0) rfl rfl ?_
    exact k
  obtain ⟨T1, X1, e1, st1⟩ := getF X0 hx hZ hown (host := "") (Or.inl (hw _ (List.mem_of_getElem? (i := 29) rfl))) Via.refl e0 F_ordinal_a0 (g := (mkF m 1 #[.val (.ref a0)] [(.ref a0)])) rfl rfl (hb hby d2_1)
  refine own_st (T' := T1) (g' := (mkF m 4 #[.val (.ref a0)] [(.int (4 : Int32))])) st1 ?_
  refine own_retI X1 hx hlk Bd.returns (hb hby d2_4) (by decide) (by decide) ?_
  show Qo4 Z a0 h0 n0 (some (.int (4 : Int32))) T1.heap _
  rw [(e1 : T1.heap = h0)]
  exact ⟨rfl, N0, rfl⟩
theorem d4_110 : decode prog_24_method_5_code 110 = .ok (.dload_n 1, 1) := by decide +kernel
theorem d4_111 : decode prog_24_method_5_code 111 = .ok (.dload_n 3, 1) := by decide +kernel
theorem d4_112 : decode prog_24_method_5_code 112 = .ok (.dcmp .l, 1) := by decide +kernel
theorem d4_113 : decode prog_24_method_5_code 113 = .ok (.ifCond .ne 7, 3) := by decide +kernel
theorem d4_116 : decode prog_24_method_5_code 116 = .ok (.iconst 1, 1) := by decide +kernel
theorem d4_117 : decode prog_24_method_5_code 117 = .ok (.goto 18, 3) := by decide +kernel
theorem d4_120 : decode prog_24_method_5_code 120 = .ok (.iconst 0, 1) := by decide +kernel
theorem d4_121 : decode prog_24_method_5_code 121 = .ok (.goto 14, 3) := by decide +kernel
theorem pnh4 : plainName "com/example/meshwatch/meshwatch/Relation" = true := by first | (simp [plainName, overriddenIn]; done) | decide +kernel
theorem pdh4_0 : parseMethodDescriptor "()I" = some ⟨[], some .int⟩ := by decide +kernel
theorem efh4 (m : MethodId) (a0 : Addr) (d1 : UInt64) (d2 : UInt64) : entryFrame m #[(.ref a0), (.double d1), (.double d2)] 5 = mkF m 0 #[.val (.ref a0), .val (.double d1), .second, .val (.double d2), .second] [] := by first | (simp [entryFrame, mkF, argsToLocals, Value.category]; done) | rfl
def Qh4 (Z : State) (a0 : Addr) (d1 : UInt64) (d2 : UInt64) (h0 : Heap) (n0 : Nat) (v : Option Value) (h : Heap) (L : List Loc) : Prop := v = some (.int (own_h4 (FP.dcmp d1 d2))) ∧ Fr n0 L ∧ h = h0
set_option maxRecDepth 65536 in
set_option maxHeartbeats 40000000 in
theorem rmh4 (l : Launch) (Z : State) (ar : Array Value) (hw : ∀ d ∈ tables_1, d.before ar Z = true) (ws : List Jvm.Cond) (a0 : Addr) (d1 : UInt64) (d2 : UInt64) (h0 : Heap) (n0 : Nat) (Z0 : n0 ≤ h0.size) (E_a0 : Exa Z h0 a0 "com/example/meshwatch/meshwatch/Relation") (F_ordinal_a0 : Fld Z h0 a0 "java/lang/Enum" "ordinal" "I" (.int (4 : Int32))) :
    MetFree l (⟨"com/example/meshwatch/meshwatch/Relation", "holds", "(DD)Z"⟩ : MethodName) (head1 (Jvm.Cond.code (⟨"com/example/meshwatch/meshwatch/Relation", "holds", "(DD)Z"⟩ : MethodName) prog_24_method_5_code 5 (some .boolean) :: ws) ({ frames := 1, cells := 0, slots := 0, locals := 12 } : Room)) (fun a U => a = #[(.ref a0), (.double d1), (.double d2)] ∧ Z.Warmed39 U.vm ∧ U.heap = h0) (fun _ _ _ _ _ => True) (fun _ U o U' => ∃ v L, o = .returned v ∧ Qh4 Z a0 d1 d2 h0 n0 v U'.heap L ∧ FrameEnd U o U' L ({ frames := 1, cells := 0, slots := 0, locals := 12 } : Room).cells ({ frames := 1, cells := 0, slots := 0, locals := 12 } : Room).slots) := by
  refine MetFree.of_bodySF (plainFor_of_name pnh4) hisR ?_
  intro p e s m args below meth c s₁ Bd hml0 hP hK
  obtain ⟨rfl, hZ, hh⟩ := hP
  have hx := Bd.exec
  have hby := Bd.bytes
  have hlk := Bd.notSynchronized
  have hml : c.maxLocals = 5 := hml0
  have hown : s.vm.findClass "com/example/meshwatch/meshwatch/Relation" = some m.cls := findClass_of_methodNamed Bd.named
  have hnm := (name_of_methodNamed Bd.named Bd.method).1
  have X0 : Stand p l e ({ frames := 1, cells := 0, slots := 0, locals := 12 } : Room) s m #[(.ref a0), (.double d1), (.double d2)] below meth c s₁ [] 0 0 := Stand.of_body Bd
  have e0 : s₁.heap = h0 := by rw [← hh, Bd.state]; rfl
  have N0 := Fr.nil n0
  have K0 := Keep.refl h0 []
  refine own_enter (Q := Qh4 Z a0 d1 d2 h0 n0) (efh4 m a0 d1 d2) ?_
  refine own_st (T' := s₁) (g' := (mkF m 1 #[.val (.ref a0), .val (.double d1), .second, .val (.double d2), .second] [(.ref a0)])) (fun t k => ?_) ?_
  · show Steps p.tables e below (s₁.setTop (mkF m 0 #[.val (.ref a0), .val (.double d1), .second, .val (.double d2), .second] [])) t
    refine XS.aloadN X0.here hx rfl (hb hby d4_0) rfl rfl ?_
    exact k
  obtain ⟨cq1, kq1, qa1, qb1, qc1⟩ := isOf hZ e0 E_a0
  obtain ⟨_, _, ⟨T1, L1, k1, n1⟩, -, X1, ⟨Lc1, hQ1, l1, y1, z1⟩, st1⟩ := X0.virtualBackUp hx (owner := "java/lang/Enum") (x := (⟨"com/example/meshwatch/meshwatch/Relation", "ordinal", "()I"⟩ : MethodName)) (y := (⟨"java/lang/Enum", "ordinal", "()I"⟩ : MethodName)) hown (mvT hZ (hw _ (List.mem_of_getElem? (i := 22) rfl))) (mvT hZ (hw _ (List.mem_of_getElem? (i := 23) rfl))) (mvT hZ (hw _ (List.mem_of_getElem? (i := 24) rfl))) (by decide) (mvT hZ (hw _ (List.mem_of_getElem? (i := 26) rfl))) (mvT hZ (hw _ (List.mem_of_getElem? (i := 25) rfl))) (backOf (W := 0) (rmo4 l Z ar hw [] a0 h0 n0 Z0 F_ordinal_a0) hZ (hw _ (List.mem_of_getElem? (i := 28) rfl)) (hw _ (List.mem_of_getElem? (i := 27) rfl)) (by decide) (by decide)) qa1 qc1 (g := (mkF m 1 #[.val (.ref a0), .val (.double d1), .second, .val (.double d2), .second] [(.ref a0)])) rfl (by rw [hml]; rfl) (Steps.refl _) (argsL := []) (rest := []) (lenOf pdh4_0 rfl) rfl (by show 2 * 0 + _ ≤ _; exact Nat.le_of_eq rfl) (hb hby d4_1) (fun _ _ => ⟨rfl, e0, (by decide : 0 + 0 ≤ _), (by decide : 0 + 0 ≤ _)⟩)
  dsimp only [Pt.U, Pt.locs, Pt.cells, Pt.slots] at X1 l1 y1 z1 st1 hQ1
  subst l1 y1 z1
  obtain ⟨rfl, N1q, e1⟩ := hQ1
  have n2 := Fr.app N0 N1q
  refine own_tr (T' := T1) (g' := (mkF m 4 #[.val (.ref a0), .val (.double d1), .second, .val (.double d2), .second] [(.int (4 : Int32))])) st1 ?_
  refine own_st (T' := T1) (g' := (mkF m 113 #[.val (.ref a0), .val (.double d1), .second, .val (.double d2), .second] [(.int (cmpValue (FP.dcmp d1 d2) .l))])) (fun t k => ?_) ?_
  · show Steps p.tables e below (T1.setTop (mkF m 4 #[.val (.ref a0), .val (.double d1), .second, .val (.double d2), .second] [(.int (4 : Int32))])) t
    refine XS.tswIn X1.here hx rfl (pc0 := 4) (pc' := 110) rfl (hb hby d4_4) rfl (by decide) rfl (by decide) (by decide) ?_
    show Steps p.tables e below (T1.setTop (mkF m 110 #[.val (.ref a0), .val (.double d1), .second, .val (.double d2), .second] [])) t
    refine XS.dloadN X1.here hx rfl (hb hby d4_110) rfl ?_
    show Steps p.tables e below (T1.setTop (mkF m 111 #[.val (.ref a0), .val (.double d1), .second, .val (.double d2), .second] [(.double d1)])) t
    refine XS.dloadN X1.here hx rfl (hb hby d4_111) rfl ?_
    show Steps p.tables e below (T1.setTop (mkF m 112 #[.val (.ref a0), .val (.double d1), .second, .val (.double d2), .second] [(.double d2), (.double d1)])) t
    refine XS.dcmpS X1.here hx rfl (hb hby d4_112) rfl rfl ?_
    exact k
  by_cases hc113_3 : ifCond.holds .ne (cmpValue (FP.dcmp d1 d2) .l) = true
  · refine own_st (T' := T1) (g' := (mkF m 135 #[.val (.ref a0), .val (.double d1), .second, .val (.double d2), .second] [(.int (0 : Int32))])) (fun t k => ?_) ?_
    · show Steps p.tables e below (T1.setTop (mkF m 113 #[.val (.ref a0), .val (.double d1), .second, .val (.double d2), .second] [(.int (cmpValue (FP.dcmp d1 d2) .l))])) t
      refine XS.ifYes X1.here hx rfl (pc0 := 113) (pc' := 120) rfl (hb hby d4_113) rfl hc113_3 (by decide) (by decide) ?_
      show Steps p.tables e below (T1.setTop (mkF m 120 #[.val (.ref a0), .val (.double d1), .second, .val (.double d2), .second] [])) t
      refine XS.iconst X1.here hx rfl (hb hby d4_120) ?_
      show Steps p.tables e below (T1.setTop (mkF m 121 #[.val (.ref a0), .val (.double d1), .second, .val (.double d2), .second] [(.int (0 : Int32))])) t
      refine XS.goto X1.here hx rfl (pc0 := 121) (pc' := 135) rfl (hb hby d4_121) (by decide) (by decide) ?_
      exact k
    refine own_retZ X1 hx hlk Bd.returns (hb hby d4_135) rfl (by decide) (by decide) ?_
    show Qh4 Z a0 d1 d2 h0 n0 (some (.int (0 : Int32))) T1.heap _
    rw [(e1 : T1.heap = h0)]
    exact ⟨congrArg (fun z => some (Value.int z)) (if_pos hc113_3).symm, n2, rfl⟩
  · refine own_st (T' := T1) (g' := (mkF m 135 #[.val (.ref a0), .val (.double d1), .second, .val (.double d2), .second] [(.int (1 : Int32))])) (fun t k => ?_) ?_
    · show Steps p.tables e below (T1.setTop (mkF m 113 #[.val (.ref a0), .val (.double d1), .second, .val (.double d2), .second] [(.int (cmpValue (FP.dcmp d1 d2) .l))])) t
      refine XS.ifNo X1.here hx rfl (hb hby d4_113) rfl (Bool.eq_false_iff.mpr hc113_3) ?_
      show Steps p.tables e below (T1.setTop (mkF m 116 #[.val (.ref a0), .val (.double d1), .second, .val (.double d2), .second] [])) t
      refine XS.iconst X1.here hx rfl (hb hby d4_116) ?_
      show Steps p.tables e below (T1.setTop (mkF m 117 #[.val (.ref a0), .val (.double d1), .second, .val (.double d2), .second] [(.int (1 : Int32))])) t
      refine XS.goto X1.here hx rfl (pc0 := 117) (pc' := 135) rfl (hb hby d4_117) (by decide) (by decide) ?_
      exact k
    refine own_retZ X1 hx hlk Bd.returns (hb hby d4_135) rfl (by decide) (by decide) ?_
    show Qh4 Z a0 d1 d2 h0 n0 (some (.int (1 : Int32))) T1.heap _
    rw [(e1 : T1.heap = h0)]
    exact ⟨congrArg (fun z => some (Value.int z)) (if_neg hc113_3).symm, n2, rfl⟩
theorem d1_78 : decode prog_24_method_6_code 78 = .ok (.getstatic 19, 3) := by decide +kernel
theorem d1_81 : decode prog_24_method_6_code 81 = .ok (.goto 6, 3) := by decide +kernel
theorem pnn4 : plainName "com/example/meshwatch/meshwatch/Relation" = true := by first | (simp [plainName, overriddenIn]; done) | decide +kernel
theorem pdn4_0 : parseMethodDescriptor "()I" = some ⟨[], some .int⟩ := by decide +kernel
theorem efn4 (m : MethodId) (a0 : Addr) : entryFrame m #[(.ref a0)] 1 = mkF m 0 #[.val (.ref a0)] [] := by first | (simp [entryFrame, mkF, argsToLocals, Value.category]; done) | rfl
def Qn4 (Z : State) (a0 : Addr) (w_NOT_EQUAL : Addr) (h0 : Heap) (n0 : Nat) (v : Option Value) (h : Heap) (L : List Loc) : Prop := v = some (.ref w_NOT_EQUAL) ∧ Fr n0 L ∧ h = h0
set_option maxRecDepth 65536 in
set_option maxHeartbeats 40000000 in
theorem rmn4 (l : Launch) (Z : State) (ar : Array Value) (hw : ∀ d ∈ tables_1, d.before ar Z = true) (ws : List Jvm.Cond) (a0 : Addr) (w_NOT_EQUAL : Addr) (h0 : Heap) (n0 : Nat) (Z0 : n0 ≤ h0.size) (E_a0 : Exa Z h0 a0 "com/example/meshwatch/meshwatch/Relation") (F_ordinal_a0 : Fld Z h0 a0 "java/lang/Enum" "ordinal" "I" (.int (4 : Int32))) (S_NOT_EQUAL : Sta Z h0 "com/example/meshwatch/meshwatch/Relation" "NOT_EQUAL" "Lcom/example/meshwatch/meshwatch/Relation;" (.ref w_NOT_EQUAL)) :
    MetFree l (⟨"com/example/meshwatch/meshwatch/Relation", "negated", "()Lcom/example/meshwatch/meshwatch/Relation;"⟩ : MethodName) (head1 (Jvm.Cond.code (⟨"com/example/meshwatch/meshwatch/Relation", "negated", "()Lcom/example/meshwatch/meshwatch/Relation;"⟩ : MethodName) prog_24_method_6_code 1 (some (.object "com/example/meshwatch/meshwatch/Relation")) :: ws) ({ frames := 1, cells := 0, slots := 0, locals := 12 } : Room)) (fun a U => a = #[(.ref a0)] ∧ Z.Warmed39 U.vm ∧ U.heap = h0) (fun _ _ _ _ _ => True) (fun _ U o U' => ∃ v L, o = .returned v ∧ Qn4 Z a0 w_NOT_EQUAL h0 n0 v U'.heap L ∧ FrameEnd U o U' L ({ frames := 1, cells := 0, slots := 0, locals := 12 } : Room).cells ({ frames := 1, cells := 0, slots := 0, locals := 12 } : Room).slots) := by
  refine MetFree.of_bodySF (plainFor_of_name pnn4) hisR ?_
  intro p e s m args below meth c s₁ Bd hml0 hP hK
  obtain ⟨rfl, hZ, hh⟩ := hP
  have hx := Bd.exec
  have hby := Bd.bytes
  have hlk := Bd.notSynchronized
  have hml : c.maxLocals = 1 := hml0
  have hown : s.vm.findClass "com/example/meshwatch/meshwatch/Relation" = some m.cls := findClass_of_methodNamed Bd.named
  have hnm := (name_of_methodNamed Bd.named Bd.method).1
  have X0 : Stand p l e ({ frames := 1, cells := 0, slots := 0, locals := 12 } : Room) s m #[(.ref a0)] below meth c s₁ [] 0 0 := Stand.of_body Bd
  have e0 : s₁.heap = h0 := by rw [← hh, Bd.state]; rfl
  have N0 := Fr.nil n0
  have K0 := Keep.refl h0 []
  refine own_enter (Q := Qn4 Z a0 w_NOT_EQUAL h0 n0) (efn4 m a0) ?_
  refine own_st (T' := s₁) (g' := (mkF m 1 #[.val (.ref a0)] [(.ref a0)])) (fun t k => ?_) ?_
  · show Steps p.tables e below (s₁.setTop (mkF m 0 #[.val (.ref a0)] [])) t
    refine XS.aloadN X0.here hx rfl (hb hby d1_0) rfl rfl ?_
    exact k
  obtain ⟨cq1, kq1, qa1, qb1, qc1⟩ := isOf hZ e0 E_a0
  obtain ⟨_, _, ⟨T1, L1, k1, n1⟩, -, X1, ⟨Lc1, hQ1, l1, y1, z1⟩, st1⟩ := X0.virtualBackUp hx (owner := "java/lang/Enum") (x := (⟨"com/example/meshwatch/meshwatch/Relation", "ordinal", "()I"⟩ : MethodName)) (y := (⟨"java/lang/Enum", "ordinal", "()I"⟩ : MethodName)) hown (mvT hZ (hw _ (List.mem_of_getElem? (i := 22) rfl))) (mvT hZ (hw _ (List.mem_of_getElem? (i := 23) rfl))) (mvT hZ (hw _ (List.mem_of_getElem? (i := 24) rfl))) (by decide) (mvT hZ (hw _ (List.mem_of_getElem? (i := 26) rfl))) (mvT hZ (hw _ (List.mem_of_getElem? (i := 25) rfl))) (backOf (W := 0) (rmo4 l Z ar hw [] a0 h0 n0 Z0 F_ordinal_a0) hZ (hw _ (List.mem_of_getElem? (i := 28) rfl)) (hw _ (List.mem_of_getElem? (i := 27) rfl)) (by decide) (by decide)) qa1 qc1 (g := (mkF m 1 #[.val (.ref a0)] [(.ref a0)])) rfl (by rw [hml]; rfl) (Steps.refl _) (argsL := []) (rest := []) (lenOf pdn4_0 rfl) rfl (by show 2 * 0 + _ ≤ _; exact Nat.le_of_eq rfl) (hb hby d1_1) (fun _ _ => ⟨rfl, e0, (by decide : 0 + 0 ≤ _), (by decide : 0 + 0 ≤ _)⟩)
  dsimp only [Pt.U, Pt.locs, Pt.cells, Pt.slots] at X1 l1 y1 z1 st1 hQ1
  subst l1 y1 z1
  obtain ⟨rfl, N1q, e1⟩ := hQ1
  have n2 := Fr.app N0 N1q
  refine own_tr (T' := T1) (g' := (mkF m 4 #[.val (.ref a0)] [(.int (4 : Int32))])) st1 ?_
  refine own_st (T' := T1) (g' := (mkF m 78 #[.val (.ref a0)] [])) (fun t k => ?_) ?_
  · show Steps p.tables e below (T1.setTop (mkF m 4 #[.val (.ref a0)] [(.int (4 : Int32))])) t
    refine XS.tswIn X1.here hx rfl (pc0 := 4) (pc' := 78) rfl (hb hby d1_4) rfl (by decide) rfl (by decide) (by decide) ?_
    exact k
  obtain ⟨T3, X3, e3, st3⟩ := getS2 X1 hx hZ hown (host := "") (Or.inl (hw _ (List.mem_of_getElem? (i := 45) rfl))) Via.refl e1 S_NOT_EQUAL (g := (mkF m 78 #[.val (.ref a0)] [])) rfl (hb hby d1_78)
  refine own_st (T' := T3) (g' := (mkF m 81 #[.val (.ref a0)] [(.ref w_NOT_EQUAL)])) st3 ?_
  refine own_st (T' := T3) (g' := (mkF m 87 #[.val (.ref a0)] [(.ref w_NOT_EQUAL)])) (fun t k => ?_) ?_
  · show Steps p.tables e below (T3.setTop (mkF m 81 #[.val (.ref a0)] [(.ref w_NOT_EQUAL)])) t
    refine XS.goto X3.here hx rfl (pc0 := 81) (pc' := 87) rfl (hb hby d1_81) (by decide) (by decide) ?_
    exact k
  refine own_retA X3 hx hlk Bd.returns rfl rfl (hb hby d1_87) (by decide) (by decide) ?_
  show Qn4 Z a0 w_NOT_EQUAL h0 n0 (some (.ref w_NOT_EQUAL)) T3.heap _
  rw [(e3 : T3.heap = h0)]
  exact ⟨rfl, n2, rfl⟩
theorem pno5 : plainName "java/lang/Enum" = true := by first | (simp [plainName, overriddenIn]; done) | decide +kernel
theorem efo5 (m : MethodId) (a0 : Addr) : entryFrame m #[(.ref a0)] 1 = mkF m 0 #[.val (.ref a0)] [] := by first | (simp [entryFrame, mkF, argsToLocals, Value.category]; done) | rfl
def Qo5 (Z : State) (a0 : Addr) (h0 : Heap) (n0 : Nat) (v : Option Value) (h : Heap) (L : List Loc) : Prop := v = some (.int (5 : Int32)) ∧ Fr n0 L ∧ h = h0
set_option maxRecDepth 65536 in
set_option maxHeartbeats 40000000 in
theorem rmo5 (l : Launch) (Z : State) (ar : Array Value) (hw : ∀ d ∈ tables_1, d.before ar Z = true) (ws : List Jvm.Cond) (a0 : Addr) (h0 : Heap) (n0 : Nat) (Z0 : n0 ≤ h0.size) (F_ordinal_a0 : Fld Z h0 a0 "java/lang/Enum" "ordinal" "I" (.int (5 : Int32))) :
    MetFree l (⟨"java/lang/Enum", "ordinal", "()I"⟩ : MethodName) (head1 (Jvm.Cond.code (⟨"java/lang/Enum", "ordinal", "()I"⟩ : MethodName) jdk_37_method_2_code 1 (some .int) :: ws) ({ frames := 0, cells := 0, slots := 0, locals := 0 } : Room)) (fun a U => a = #[(.ref a0)] ∧ Z.Warmed39 U.vm ∧ U.heap = h0) (fun _ _ _ _ _ => True) (fun _ U o U' => ∃ v L, o = .returned v ∧ Qo5 Z a0 h0 n0 v U'.heap L ∧ FrameEnd U o U' L ({ frames := 0, cells := 0, slots := 0, locals := 0 } : Room).cells ({ frames := 0, cells := 0, slots := 0, locals := 0 } : Room).slots) := by
  refine MetFree.of_bodySF (plainFor_of_name pno5) hisR ?_
  intro p e s m args below meth c s₁ Bd hml0 hP hK
  obtain ⟨rfl, hZ, hh⟩ := hP
  have hx := Bd.exec
  have hby := Bd.bytes
  have hlk := Bd.notSynchronized
  have hml : c.maxLocals = 1 := hml0
  have hown : s.vm.findClass "java/lang/Enum" = some m.cls := findClass_of_methodNamed Bd.named
  have hnm := (name_of_methodNamed Bd.named Bd.method).1
  have X0 : Stand p l e ({ frames := 0, cells := 0, slots := 0, locals := 0 } : Room) s m #[(.ref a0)] below meth c s₁ [] 0 0 := Stand.of_body Bd
  have e0 : s₁.heap = h0 := by rw [← hh, Bd.state]; rfl
  have N0 := Fr.nil n0
  have K0 := Keep.refl h0 []
  refine own_enter (Q := Qo5 Z a0 h0 n0) (efo5 m a0) ?_
  refine own_st (T' := s₁) (g' := (mkF m 1 #[.val (.ref a0)] [(.ref a0)])) (fun t k => ?_) ?_
  · show Steps p.tables e below (s₁.setTop (mkF m 0 #[.val (.ref a0)] [])) t
    refine XS.aloadN X0.here hx rfl (hb hby d2_0) rfl rfl ?_
    exact k
  obtain ⟨T1, X1, e1, st1⟩ := getF X0 hx hZ hown (host := "") (Or.inl (hw _ (List.mem_of_getElem? (i := 29) rfl))) Via.refl e0 F_ordinal_a0 (g := (mkF m 1 #[.val (.ref a0)] [(.ref a0)])) rfl rfl (hb hby d2_1)
  refine own_st (T' := T1) (g' := (mkF m 4 #[.val (.ref a0)] [(.int (5 : Int32))])) st1 ?_
  refine own_retI X1 hx hlk Bd.returns (hb hby d2_4) (by decide) (by decide) ?_
  show Qo5 Z a0 h0 n0 (some (.int (5 : Int32))) T1.heap _
  rw [(e1 : T1.heap = h0)]
  exact ⟨rfl, N0, rfl⟩
theorem d4_124 : decode prog_24_method_5_code 124 = .ok (.dload_n 1, 1) := by decide +kernel
theorem d4_125 : decode prog_24_method_5_code 125 = .ok (.dload_n 3, 1) := by decide +kernel
theorem d4_126 : decode prog_24_method_5_code 126 = .ok (.dcmp .l, 1) := by decide +kernel
theorem d4_127 : decode prog_24_method_5_code 127 = .ok (.ifCond .eq 7, 3) := by decide +kernel
theorem d4_130 : decode prog_24_method_5_code 130 = .ok (.iconst 1, 1) := by decide +kernel
theorem d4_131 : decode prog_24_method_5_code 131 = .ok (.goto 4, 3) := by decide +kernel
theorem d4_134 : decode prog_24_method_5_code 134 = .ok (.iconst 0, 1) := by decide +kernel
theorem pnh5 : plainName "com/example/meshwatch/meshwatch/Relation" = true := by first | (simp [plainName, overriddenIn]; done) | decide +kernel
theorem pdh5_0 : parseMethodDescriptor "()I" = some ⟨[], some .int⟩ := by decide +kernel
theorem efh5 (m : MethodId) (a0 : Addr) (d1 : UInt64) (d2 : UInt64) : entryFrame m #[(.ref a0), (.double d1), (.double d2)] 5 = mkF m 0 #[.val (.ref a0), .val (.double d1), .second, .val (.double d2), .second] [] := by first | (simp [entryFrame, mkF, argsToLocals, Value.category]; done) | rfl
def Qh5 (Z : State) (a0 : Addr) (d1 : UInt64) (d2 : UInt64) (h0 : Heap) (n0 : Nat) (v : Option Value) (h : Heap) (L : List Loc) : Prop := v = some (.int (own_h5 (FP.dcmp d1 d2))) ∧ Fr n0 L ∧ h = h0
set_option maxRecDepth 65536 in
set_option maxHeartbeats 40000000 in
theorem rmh5 (l : Launch) (Z : State) (ar : Array Value) (hw : ∀ d ∈ tables_1, d.before ar Z = true) (ws : List Jvm.Cond) (a0 : Addr) (d1 : UInt64) (d2 : UInt64) (h0 : Heap) (n0 : Nat) (Z0 : n0 ≤ h0.size) (E_a0 : Exa Z h0 a0 "com/example/meshwatch/meshwatch/Relation") (F_ordinal_a0 : Fld Z h0 a0 "java/lang/Enum" "ordinal" "I" (.int (5 : Int32))) :
    MetFree l (⟨"com/example/meshwatch/meshwatch/Relation", "holds", "(DD)Z"⟩ : MethodName) (head1 (Jvm.Cond.code (⟨"com/example/meshwatch/meshwatch/Relation", "holds", "(DD)Z"⟩ : MethodName) prog_24_method_5_code 5 (some .boolean) :: ws) ({ frames := 1, cells := 0, slots := 0, locals := 12 } : Room)) (fun a U => a = #[(.ref a0), (.double d1), (.double d2)] ∧ Z.Warmed39 U.vm ∧ U.heap = h0) (fun _ _ _ _ _ => True) (fun _ U o U' => ∃ v L, o = .returned v ∧ Qh5 Z a0 d1 d2 h0 n0 v U'.heap L ∧ FrameEnd U o U' L ({ frames := 1, cells := 0, slots := 0, locals := 12 } : Room).cells ({ frames := 1, cells := 0, slots := 0, locals := 12 } : Room).slots) := by
  refine MetFree.of_bodySF (plainFor_of_name pnh5) hisR ?_
  intro p e s m args below meth c s₁ Bd hml0 hP hK
  obtain ⟨rfl, hZ, hh⟩ := hP
  have hx := Bd.exec
  have hby := Bd.bytes
  have hlk := Bd.notSynchronized
  have hml : c.maxLocals = 5 := hml0
  have hown : s.vm.findClass "com/example/meshwatch/meshwatch/Relation" = some m.cls := findClass_of_methodNamed Bd.named
  have hnm := (name_of_methodNamed Bd.named Bd.method).1
  have X0 : Stand p l e ({ frames := 1, cells := 0, slots := 0, locals := 12 } : Room) s m #[(.ref a0), (.double d1), (.double d2)] below meth c s₁ [] 0 0 := Stand.of_body Bd
  have e0 : s₁.heap = h0 := by rw [← hh, Bd.state]; rfl
  have N0 := Fr.nil n0
  have K0 := Keep.refl h0 []
  refine own_enter (Q := Qh5 Z a0 d1 d2 h0 n0) (efh5 m a0 d1 d2) ?_
  refine own_st (T' := s₁) (g' := (mkF m 1 #[.val (.ref a0), .val (.double d1), .second, .val (.double d2), .second] [(.ref a0)])) (fun t k => ?_) ?_
  · show Steps p.tables e below (s₁.setTop (mkF m 0 #[.val (.ref a0), .val (.double d1), .second, .val (.double d2), .second] [])) t
    refine XS.aloadN X0.here hx rfl (hb hby d4_0) rfl rfl ?_
    exact k
  obtain ⟨cq1, kq1, qa1, qb1, qc1⟩ := isOf hZ e0 E_a0
  obtain ⟨_, _, ⟨T1, L1, k1, n1⟩, -, X1, ⟨Lc1, hQ1, l1, y1, z1⟩, st1⟩ := X0.virtualBackUp hx (owner := "java/lang/Enum") (x := (⟨"com/example/meshwatch/meshwatch/Relation", "ordinal", "()I"⟩ : MethodName)) (y := (⟨"java/lang/Enum", "ordinal", "()I"⟩ : MethodName)) hown (mvT hZ (hw _ (List.mem_of_getElem? (i := 22) rfl))) (mvT hZ (hw _ (List.mem_of_getElem? (i := 23) rfl))) (mvT hZ (hw _ (List.mem_of_getElem? (i := 24) rfl))) (by decide) (mvT hZ (hw _ (List.mem_of_getElem? (i := 26) rfl))) (mvT hZ (hw _ (List.mem_of_getElem? (i := 25) rfl))) (backOf (W := 0) (rmo5 l Z ar hw [] a0 h0 n0 Z0 F_ordinal_a0) hZ (hw _ (List.mem_of_getElem? (i := 28) rfl)) (hw _ (List.mem_of_getElem? (i := 27) rfl)) (by decide) (by decide)) qa1 qc1 (g := (mkF m 1 #[.val (.ref a0), .val (.double d1), .second, .val (.double d2), .second] [(.ref a0)])) rfl (by rw [hml]; rfl) (Steps.refl _) (argsL := []) (rest := []) (lenOf pdh5_0 rfl) rfl (by show 2 * 0 + _ ≤ _; exact Nat.le_of_eq rfl) (hb hby d4_1) (fun _ _ => ⟨rfl, e0, (by decide : 0 + 0 ≤ _), (by decide : 0 + 0 ≤ _)⟩)
  dsimp only [Pt.U, Pt.locs, Pt.cells, Pt.slots] at X1 l1 y1 z1 st1 hQ1
  subst l1 y1 z1
  obtain ⟨rfl, N1q, e1⟩ := hQ1
  have n2 := Fr.app N0 N1q
  refine own_tr (T' := T1) (g' := (mkF m 4 #[.val (.ref a0), .val (.double d1), .second, .val (.double d2), .second] [(.int (5 : Int32))])) st1 ?_
  refine own_st (T' := T1) (g' := (mkF m 127 #[.val (.ref a0), .val (.double d1), .second, .val (.double d2), .second] [(.int (cmpValue (FP.dcmp d1 d2) .l))])) (fun t k => ?_) ?_
  · show Steps p.tables e below (T1.setTop (mkF m 4 #[.val (.ref a0), .val (.double d1), .second, .val (.double d2), .second] [(.int (5 : Int32))])) t
    refine XS.tswIn X1.here hx rfl (pc0 := 4) (pc' := 124) rfl (hb hby d4_4) rfl (by decide) rfl (by decide) (by decide) ?_
    show Steps p.tables e below (T1.setTop (mkF m 124 #[.val (.ref a0), .val (.double d1), .second, .val (.double d2), .second] [])) t
    refine XS.dloadN X1.here hx rfl (hb hby d4_124) rfl ?_
    show Steps p.tables e below (T1.setTop (mkF m 125 #[.val (.ref a0), .val (.double d1), .second, .val (.double d2), .second] [(.double d1)])) t
    refine XS.dloadN X1.here hx rfl (hb hby d4_125) rfl ?_
    show Steps p.tables e below (T1.setTop (mkF m 126 #[.val (.ref a0), .val (.double d1), .second, .val (.double d2), .second] [(.double d2), (.double d1)])) t
    refine XS.dcmpS X1.here hx rfl (hb hby d4_126) rfl rfl ?_
    exact k
  by_cases hc127_3 : ifCond.holds .eq (cmpValue (FP.dcmp d1 d2) .l) = true
  · refine own_st (T' := T1) (g' := (mkF m 135 #[.val (.ref a0), .val (.double d1), .second, .val (.double d2), .second] [(.int (0 : Int32))])) (fun t k => ?_) ?_
    · show Steps p.tables e below (T1.setTop (mkF m 127 #[.val (.ref a0), .val (.double d1), .second, .val (.double d2), .second] [(.int (cmpValue (FP.dcmp d1 d2) .l))])) t
      refine XS.ifYes X1.here hx rfl (pc0 := 127) (pc' := 134) rfl (hb hby d4_127) rfl hc127_3 (by decide) (by decide) ?_
      show Steps p.tables e below (T1.setTop (mkF m 134 #[.val (.ref a0), .val (.double d1), .second, .val (.double d2), .second] [])) t
      refine XS.iconst X1.here hx rfl (hb hby d4_134) ?_
      exact k
    refine own_retZ X1 hx hlk Bd.returns (hb hby d4_135) rfl (by decide) (by decide) ?_
    show Qh5 Z a0 d1 d2 h0 n0 (some (.int (0 : Int32))) T1.heap _
    rw [(e1 : T1.heap = h0)]
    exact ⟨congrArg (fun z => some (Value.int z)) (if_pos hc127_3).symm, n2, rfl⟩
  · refine own_st (T' := T1) (g' := (mkF m 135 #[.val (.ref a0), .val (.double d1), .second, .val (.double d2), .second] [(.int (1 : Int32))])) (fun t k => ?_) ?_
    · show Steps p.tables e below (T1.setTop (mkF m 127 #[.val (.ref a0), .val (.double d1), .second, .val (.double d2), .second] [(.int (cmpValue (FP.dcmp d1 d2) .l))])) t
      refine XS.ifNo X1.here hx rfl (hb hby d4_127) rfl (Bool.eq_false_iff.mpr hc127_3) ?_
      show Steps p.tables e below (T1.setTop (mkF m 130 #[.val (.ref a0), .val (.double d1), .second, .val (.double d2), .second] [])) t
      refine XS.iconst X1.here hx rfl (hb hby d4_130) ?_
      show Steps p.tables e below (T1.setTop (mkF m 131 #[.val (.ref a0), .val (.double d1), .second, .val (.double d2), .second] [(.int (1 : Int32))])) t
      refine XS.goto X1.here hx rfl (pc0 := 131) (pc' := 135) rfl (hb hby d4_131) (by decide) (by decide) ?_
      exact k
    refine own_retZ X1 hx hlk Bd.returns (hb hby d4_135) rfl (by decide) (by decide) ?_
    show Qh5 Z a0 d1 d2 h0 n0 (some (.int (1 : Int32))) T1.heap _
    rw [(e1 : T1.heap = h0)]
    exact ⟨congrArg (fun z => some (Value.int z)) (if_neg hc127_3).symm, n2, rfl⟩
theorem d1_84 : decode prog_24_method_6_code 84 = .ok (.getstatic 16, 3) := by decide +kernel
theorem pnn5 : plainName "com/example/meshwatch/meshwatch/Relation" = true := by first | (simp [plainName, overriddenIn]; done) | decide +kernel
theorem pdn5_0 : parseMethodDescriptor "()I" = some ⟨[], some .int⟩ := by decide +kernel
theorem efn5 (m : MethodId) (a0 : Addr) : entryFrame m #[(.ref a0)] 1 = mkF m 0 #[.val (.ref a0)] [] := by first | (simp [entryFrame, mkF, argsToLocals, Value.category]; done) | rfl
def Qn5 (Z : State) (a0 : Addr) (w_EQUAL : Addr) (h0 : Heap) (n0 : Nat) (v : Option Value) (h : Heap) (L : List Loc) : Prop := v = some (.ref w_EQUAL) ∧ Fr n0 L ∧ h = h0
set_option maxRecDepth 65536 in
set_option maxHeartbeats 40000000 in
theorem rmn5 (l : Launch) (Z : State) (ar : Array Value) (hw : ∀ d ∈ tables_1, d.before ar Z = true) (ws : List Jvm.Cond) (a0 : Addr) (w_EQUAL : Addr) (h0 : Heap) (n0 : Nat) (Z0 : n0 ≤ h0.size) (E_a0 : Exa Z h0 a0 "com/example/meshwatch/meshwatch/Relation") (F_ordinal_a0 : Fld Z h0 a0 "java/lang/Enum" "ordinal" "I" (.int (5 : Int32))) (S_EQUAL : Sta Z h0 "com/example/meshwatch/meshwatch/Relation" "EQUAL" "Lcom/example/meshwatch/meshwatch/Relation;" (.ref w_EQUAL)) :
    MetFree l (⟨"com/example/meshwatch/meshwatch/Relation", "negated", "()Lcom/example/meshwatch/meshwatch/Relation;"⟩ : MethodName) (head1 (Jvm.Cond.code (⟨"com/example/meshwatch/meshwatch/Relation", "negated", "()Lcom/example/meshwatch/meshwatch/Relation;"⟩ : MethodName) prog_24_method_6_code 1 (some (.object "com/example/meshwatch/meshwatch/Relation")) :: ws) ({ frames := 1, cells := 0, slots := 0, locals := 12 } : Room)) (fun a U => a = #[(.ref a0)] ∧ Z.Warmed39 U.vm ∧ U.heap = h0) (fun _ _ _ _ _ => True) (fun _ U o U' => ∃ v L, o = .returned v ∧ Qn5 Z a0 w_EQUAL h0 n0 v U'.heap L ∧ FrameEnd U o U' L ({ frames := 1, cells := 0, slots := 0, locals := 12 } : Room).cells ({ frames := 1, cells := 0, slots := 0, locals := 12 } : Room).slots) := by
  refine MetFree.of_bodySF (plainFor_of_name pnn5) hisR ?_
  intro p e s m args below meth c s₁ Bd hml0 hP hK
  obtain ⟨rfl, hZ, hh⟩ := hP
  have hx := Bd.exec
  have hby := Bd.bytes
  have hlk := Bd.notSynchronized
  have hml : c.maxLocals = 1 := hml0
  have hown : s.vm.findClass "com/example/meshwatch/meshwatch/Relation" = some m.cls := findClass_of_methodNamed Bd.named
  have hnm := (name_of_methodNamed Bd.named Bd.method).1
  have X0 : Stand p l e ({ frames := 1, cells := 0, slots := 0, locals := 12 } : Room) s m #[(.ref a0)] below meth c s₁ [] 0 0 := Stand.of_body Bd
  have e0 : s₁.heap = h0 := by rw [← hh, Bd.state]; rfl
  have N0 := Fr.nil n0
  have K0 := Keep.refl h0 []
  refine own_enter (Q := Qn5 Z a0 w_EQUAL h0 n0) (efn5 m a0) ?_
  refine own_st (T' := s₁) (g' := (mkF m 1 #[.val (.ref a0)] [(.ref a0)])) (fun t k => ?_) ?_
  · show Steps p.tables e below (s₁.setTop (mkF m 0 #[.val (.ref a0)] [])) t
    refine XS.aloadN X0.here hx rfl (hb hby d1_0) rfl rfl ?_
    exact k
  obtain ⟨cq1, kq1, qa1, qb1, qc1⟩ := isOf hZ e0 E_a0
  obtain ⟨_, _, ⟨T1, L1, k1, n1⟩, -, X1, ⟨Lc1, hQ1, l1, y1, z1⟩, st1⟩ := X0.virtualBackUp hx (owner := "java/lang/Enum") (x := (⟨"com/example/meshwatch/meshwatch/Relation", "ordinal", "()I"⟩ : MethodName)) (y := (⟨"java/lang/Enum", "ordinal", "()I"⟩ : MethodName)) hown (mvT hZ (hw _ (List.mem_of_getElem? (i := 22) rfl))) (mvT hZ (hw _ (List.mem_of_getElem? (i := 23) rfl))) (mvT hZ (hw _ (List.mem_of_getElem? (i := 24) rfl))) (by decide) (mvT hZ (hw _ (List.mem_of_getElem? (i := 26) rfl))) (mvT hZ (hw _ (List.mem_of_getElem? (i := 25) rfl))) (backOf (W := 0) (rmo5 l Z ar hw [] a0 h0 n0 Z0 F_ordinal_a0) hZ (hw _ (List.mem_of_getElem? (i := 28) rfl)) (hw _ (List.mem_of_getElem? (i := 27) rfl)) (by decide) (by decide)) qa1 qc1 (g := (mkF m 1 #[.val (.ref a0)] [(.ref a0)])) rfl (by rw [hml]; rfl) (Steps.refl _) (argsL := []) (rest := []) (lenOf pdn5_0 rfl) rfl (by show 2 * 0 + _ ≤ _; exact Nat.le_of_eq rfl) (hb hby d1_1) (fun _ _ => ⟨rfl, e0, (by decide : 0 + 0 ≤ _), (by decide : 0 + 0 ≤ _)⟩)
  dsimp only [Pt.U, Pt.locs, Pt.cells, Pt.slots] at X1 l1 y1 z1 st1 hQ1
  subst l1 y1 z1
  obtain ⟨rfl, N1q, e1⟩ := hQ1
  have n2 := Fr.app N0 N1q
  refine own_tr (T' := T1) (g' := (mkF m 4 #[.val (.ref a0)] [(.int (5 : Int32))])) st1 ?_
  refine own_st (T' := T1) (g' := (mkF m 84 #[.val (.ref a0)] [])) (fun t k => ?_) ?_
  · show Steps p.tables e below (T1.setTop (mkF m 4 #[.val (.ref a0)] [(.int (5 : Int32))])) t
    refine XS.tswIn X1.here hx rfl (pc0 := 4) (pc' := 84) rfl (hb hby d1_4) rfl (by decide) rfl (by decide) (by decide) ?_
    exact k
  obtain ⟨T3, X3, e3, st3⟩ := getS2 X1 hx hZ hown (host := "") (Or.inl (hw _ (List.mem_of_getElem? (i := 44) rfl))) Via.refl e1 S_EQUAL (g := (mkF m 84 #[.val (.ref a0)] [])) rfl (hb hby d1_84)
  refine own_st (T' := T3) (g' := (mkF m 87 #[.val (.ref a0)] [(.ref w_EQUAL)])) st3 ?_
  refine own_retA X3 hx hlk Bd.returns rfl rfl (hb hby d1_87) (by decide) (by decide) ?_
  show Qn5 Z a0 w_EQUAL h0 n0 (some (.ref w_EQUAL)) T3.heap _
  rw [(e3 : T3.heap = h0)]
  exact ⟨rfl, n2, rfl⟩
theorem d3_0 : decode method_2_code 0 = .ok (.aload_n 1, 1) := by decide +kernel
theorem d3_1 : decode method_2_code 1 = .ok (.dload_n 2, 1) := by decide +kernel
theorem d3_2 : decode method_2_code 2 = .ok (.dload 4, 2) := by decide +kernel
theorem d3_4 : decode method_2_code 4 = .ok (.invokevirtual 7, 3) := by decide +kernel
theorem d3_7 : decode method_2_code 7 = .ok (.aload_n 0, 1) := by decide +kernel
theorem d3_8 : decode method_2_code 8 = .ok (.dload_n 2, 1) := by decide +kernel
theorem d3_9 : decode method_2_code 9 = .ok (.dload 4, 2) := by decide +kernel
theorem d3_11 : decode method_2_code 11 = .ok (.invokevirtual 7, 3) := by decide +kernel
theorem d3_14 : decode method_2_code 14 = .ok (.if_icmp .eq 7, 3) := by decide +kernel
theorem d3_17 : decode method_2_code 17 = .ok (.iconst 1, 1) := by decide +kernel
theorem d3_18 : decode method_2_code 18 = .ok (.goto 4, 3) := by decide +kernel
theorem d3_22 : decode method_2_code 22 = .ok (.ireturn, 1) := by decide +kernel
theorem pnc0 : plainName "com/example/meshwatch/meshwatch/RelationNegatedPinLaw" = true := by first | (simp [plainName, overriddenIn]; done) | decide +kernel
theorem pdc0_0 : parseMethodDescriptor "(DD)Z" = some ⟨[.double, .double], some .boolean⟩ := by decide +kernel
theorem efc0 (m : MethodId) (a0 : Addr) (a1 : Addr) (d2 : UInt64) (d3 : UInt64) : entryFrame m #[(.ref a0), (.ref a1), (.double d2), (.double d3)] 6 = mkF m 0 #[.val (.ref a0), .val (.ref a1), .val (.double d2), .second, .val (.double d3), .second] [] := by first | (simp [entryFrame, mkF, argsToLocals, Value.category]; done) | rfl
def Qc0 (Z : State) (a0 : Addr) (a1 : Addr) (d2 : UInt64) (d3 : UInt64) (h0 : Heap) (n0 : Nat) (v : Option Value) (h : Heap) (L : List Loc) : Prop := v = some (.int (1 : Int32)) ∧ Fr n0 L ∧ h = h0
set_option maxRecDepth 65536 in
set_option maxHeartbeats 40000000 in
theorem rmc0 (l : Launch) (Z : State) (ar : Array Value) (hw : ∀ d ∈ tables_1, d.before ar Z = true) (ws : List Jvm.Cond) (a0 : Addr) (a1 : Addr) (d2 : UInt64) (d3 : UInt64) (h0 : Heap) (n0 : Nat) (Z0 : n0 ≤ h0.size) (E_a0 : Exa Z h0 a0 "com/example/meshwatch/meshwatch/Relation") (F_ordinal_a0 : Fld Z h0 a0 "java/lang/Enum" "ordinal" "I" (.int (0 : Int32))) (E_a1 : Exa Z h0 a1 "com/example/meshwatch/meshwatch/Relation") (F_ordinal_a1 : Fld Z h0 a1 "java/lang/Enum" "ordinal" "I" (.int (3 : Int32))) (hb14 : ¬ ((own_h3 (FP.dcmp d2 d3)) = (own_h0 (FP.dcmp d2 d3)))) :
    MetFree l (⟨"com/example/meshwatch/meshwatch/RelationNegatedPinLaw", "complement", "(Lcom/example/meshwatch/meshwatch/Relation;Lcom/example/meshwatch/meshwatch/Relation;DD)Z"⟩ : MethodName) (head1 (Jvm.Cond.code (⟨"com/example/meshwatch/meshwatch/RelationNegatedPinLaw", "complement", "(Lcom/example/meshwatch/meshwatch/Relation;Lcom/example/meshwatch/meshwatch/Relation;DD)Z"⟩ : MethodName) method_2_code 6 (some .boolean) :: ws) ({ frames := 2, cells := 0, slots := 0, locals := 29 } : Room)) (fun a U => a = #[(.ref a0), (.ref a1), (.double d2), (.double d3)] ∧ Z.Warmed39 U.vm ∧ U.heap = h0) (fun _ _ _ _ _ => True) (fun _ U o U' => ∃ v L, o = .returned v ∧ Qc0 Z a0 a1 d2 d3 h0 n0 v U'.heap L ∧ FrameEnd U o U' L ({ frames := 2, cells := 0, slots := 0, locals := 29 } : Room).cells ({ frames := 2, cells := 0, slots := 0, locals := 29 } : Room).slots) := by
  refine MetFree.of_bodySF (plainFor_of_name pnc0) hisR ?_
  intro p e s m args below meth c s₁ Bd hml0 hP hK
  obtain ⟨rfl, hZ, hh⟩ := hP
  have hx := Bd.exec
  have hby := Bd.bytes
  have hlk := Bd.notSynchronized
  have hml : c.maxLocals = 6 := hml0
  have hown : s.vm.findClass "com/example/meshwatch/meshwatch/RelationNegatedPinLaw" = some m.cls := findClass_of_methodNamed Bd.named
  have hnm := (name_of_methodNamed Bd.named Bd.method).1
  have X0 : Stand p l e ({ frames := 2, cells := 0, slots := 0, locals := 29 } : Room) s m #[(.ref a0), (.ref a1), (.double d2), (.double d3)] below meth c s₁ [] 0 0 := Stand.of_body Bd
  have e0 : s₁.heap = h0 := by rw [← hh, Bd.state]; rfl
  have N0 := Fr.nil n0
  have K0 := Keep.refl h0 []
  refine own_enter (Q := Qc0 Z a0 a1 d2 d3 h0 n0) (efc0 m a0 a1 d2 d3) ?_
  refine own_st (T' := s₁) (g' := (mkF m 4 #[.val (.ref a0), .val (.ref a1), .val (.double d2), .second, .val (.double d3), .second] [(.double d3), (.double d2), (.ref a1)])) (fun t k => ?_) ?_
  · show Steps p.tables e below (s₁.setTop (mkF m 0 #[.val (.ref a0), .val (.ref a1), .val (.double d2), .second, .val (.double d3), .second] [])) t
    refine XS.aloadN X0.here hx rfl (hb hby d3_0) rfl rfl ?_
    show Steps p.tables e below (s₁.setTop (mkF m 1 #[.val (.ref a0), .val (.ref a1), .val (.double d2), .second, .val (.double d3), .second] [(.ref a1)])) t
    refine XS.dloadN X0.here hx rfl (hb hby d3_1) rfl ?_
    show Steps p.tables e below (s₁.setTop (mkF m 2 #[.val (.ref a0), .val (.ref a1), .val (.double d2), .second, .val (.double d3), .second] [(.double d2), (.ref a1)])) t
    refine XS.dload X0.here hx rfl (hb hby d3_2) rfl ?_
    exact k
  obtain ⟨cq1, kq1, qa1, qb1, qc1⟩ := isOf hZ e0 E_a1
  obtain ⟨_, _, ⟨T1, L1, k1, n1⟩, -, X1, ⟨Lc1, hQ1, l1, y1, z1⟩, st1⟩ := X0.virtualBack hx (y := (⟨"com/example/meshwatch/meshwatch/Relation", "holds", "(DD)Z"⟩ : MethodName)) (z := (⟨"com/example/meshwatch/meshwatch/Relation", "holds", "(DD)Z"⟩ : MethodName)) hown (mvT hZ (hw _ (List.mem_of_getElem? (i := 37) rfl))) (mvT hZ (hw _ (List.mem_of_getElem? (i := 38) rfl))) (notFace_of_selects (args := #[]) (mvT hZ (hw _ (List.mem_of_getElem? (i := 40) rfl)))) (mvT hZ (hw _ (List.mem_of_getElem? (i := 40) rfl))) (mvT hZ (hw _ (List.mem_of_getElem? (i := 39) rfl))) (by decide) (backOf (W := 0) (rmh3 l Z ar hw [] a1 d2 d3 h0 n0 Z0 E_a1 F_ordinal_a1) hZ (hw _ (List.mem_of_getElem? (i := 41) rfl)) (hw _ (List.mem_of_getElem? (i := 3) rfl)) (by decide) (by decide)) qa1 qc1 (g := (mkF m 4 #[.val (.ref a0), .val (.ref a1), .val (.double d2), .second, .val (.double d3), .second] [(.double d3), (.double d2), (.ref a1)])) rfl (by rw [hml]; rfl) (Steps.refl _) (argsL := [(.double d2), (.double d3)]) (rest := []) (lenOf pdc0_0 rfl) rfl (by show 2 * 0 + _ ≤ _; exact Nat.le_of_eq rfl) (hb hby d3_4) (fun _ _ => ⟨rfl, e0, (by decide : 0 + 0 ≤ _), (by decide : 0 + 0 ≤ _)⟩)
  dsimp only [Pt.U, Pt.locs, Pt.cells, Pt.slots] at X1 l1 y1 z1 st1 hQ1
  subst l1 y1 z1
  obtain ⟨rfl, N1q, e1⟩ := hQ1
  have n2 := Fr.app N0 N1q
  refine own_tr (T' := T1) (g' := (mkF m 7 #[.val (.ref a0), .val (.ref a1), .val (.double d2), .second, .val (.double d3), .second] [(.int (own_h3 (FP.dcmp d2 d3)))])) st1 ?_
  refine own_st (T' := T1) (g' := (mkF m 11 #[.val (.ref a0), .val (.ref a1), .val (.double d2), .second, .val (.double d3), .second] [(.double d3), (.double d2), (.ref a0), (.int (own_h3 (FP.dcmp d2 d3)))])) (fun t k => ?_) ?_
  · show Steps p.tables e below (T1.setTop (mkF m 7 #[.val (.ref a0), .val (.ref a1), .val (.double d2), .second, .val (.double d3), .second] [(.int (own_h3 (FP.dcmp d2 d3)))])) t
    refine XS.aloadN X1.here hx rfl (hb hby d3_7) rfl rfl ?_
    show Steps p.tables e below (T1.setTop (mkF m 8 #[.val (.ref a0), .val (.ref a1), .val (.double d2), .second, .val (.double d3), .second] [(.ref a0), (.int (own_h3 (FP.dcmp d2 d3)))])) t
    refine XS.dloadN X1.here hx rfl (hb hby d3_8) rfl ?_
    show Steps p.tables e below (T1.setTop (mkF m 9 #[.val (.ref a0), .val (.ref a1), .val (.double d2), .second, .val (.double d3), .second] [(.double d2), (.ref a0), (.int (own_h3 (FP.dcmp d2 d3)))])) t
    refine XS.dload X1.here hx rfl (hb hby d3_9) rfl ?_
    exact k
  obtain ⟨cq3, kq3, qa3, qb3, qc3⟩ := isOf hZ e1 E_a0
  obtain ⟨_, _, ⟨T3, L3, k3, n3⟩, -, X3, ⟨Lc3, hQ3, l3, y3, z3⟩, st3⟩ := X1.virtualBack hx (y := (⟨"com/example/meshwatch/meshwatch/Relation", "holds", "(DD)Z"⟩ : MethodName)) (z := (⟨"com/example/meshwatch/meshwatch/Relation", "holds", "(DD)Z"⟩ : MethodName)) hown (mvT hZ (hw _ (List.mem_of_getElem? (i := 37) rfl))) (mvT hZ (hw _ (List.mem_of_getElem? (i := 38) rfl))) (notFace_of_selects (args := #[]) (mvT hZ (hw _ (List.mem_of_getElem? (i := 40) rfl)))) (mvT hZ (hw _ (List.mem_of_getElem? (i := 40) rfl))) (mvT hZ (hw _ (List.mem_of_getElem? (i := 39) rfl))) (by decide) (backOf (W := 1) (rmh0 l Z ar hw [] a0 d2 d3 h0 n0 Z0 E_a0 F_ordinal_a0) hZ (hw _ (List.mem_of_getElem? (i := 41) rfl)) (hw _ (List.mem_of_getElem? (i := 3) rfl)) (by decide) (by decide)) qa3 qc3 (g := (mkF m 11 #[.val (.ref a0), .val (.ref a1), .val (.double d2), .second, .val (.double d3), .second] [(.double d3), (.double d2), (.ref a0), (.int (own_h3 (FP.dcmp d2 d3)))])) rfl (by rw [hml]; rfl) (Steps.refl _) (argsL := [(.double d2), (.double d3)]) (rest := [(.int (own_h3 (FP.dcmp d2 d3)))]) (lenOf pdc0_0 rfl) rfl (by show 2 * 0 + _ ≤ _; exact Nat.le_of_eq rfl) (hb hby d3_11) (fun _ _ => ⟨rfl, e1, (by decide : 0 + 0 ≤ _), (by decide : 0 + 0 ≤ _)⟩)
  dsimp only [Pt.U, Pt.locs, Pt.cells, Pt.slots] at X3 l3 y3 z3 st3 hQ3
  subst l3 y3 z3
  obtain ⟨rfl, N3q, e3⟩ := hQ3
  have n4 := Fr.app n2 N3q
  refine own_tr (T' := T3) (g' := (mkF m 14 #[.val (.ref a0), .val (.ref a1), .val (.double d2), .second, .val (.double d3), .second] [(.int (own_h0 (FP.dcmp d2 d3))), (.int (own_h3 (FP.dcmp d2 d3)))])) st3 ?_
  refine own_st (T' := T3) (g' := (mkF m 22 #[.val (.ref a0), .val (.ref a1), .val (.double d2), .second, .val (.double d3), .second] [(.int (1 : Int32))])) (fun t k => ?_) ?_
  · show Steps p.tables e below (T3.setTop (mkF m 14 #[.val (.ref a0), .val (.ref a1), .val (.double d2), .second, .val (.double d3), .second] [(.int (own_h0 (FP.dcmp d2 d3))), (.int (own_h3 (FP.dcmp d2 d3)))])) t
    refine XS.icmpNo X3.here hx rfl (hb hby d3_14) rfl (feq (hb14 : ¬ ((own_h3 (FP.dcmp d2 d3)) = (own_h0 (FP.dcmp d2 d3))))).1 ?_
    show Steps p.tables e below (T3.setTop (mkF m 17 #[.val (.ref a0), .val (.ref a1), .val (.double d2), .second, .val (.double d3), .second] [])) t
    refine XS.iconst X3.here hx rfl (hb hby d3_17) ?_
    show Steps p.tables e below (T3.setTop (mkF m 18 #[.val (.ref a0), .val (.ref a1), .val (.double d2), .second, .val (.double d3), .second] [(.int (1 : Int32))])) t
    refine XS.goto X3.here hx rfl (pc0 := 18) (pc' := 22) rfl (hb hby d3_18) (by decide) (by decide) ?_
    exact k
  refine own_retZ X3 hx hlk Bd.returns (hb hby d3_22) rfl (by decide) (by decide) ?_
  show Qc0 Z a0 a1 d2 d3 h0 n0 (some (.int (1 : Int32))) T3.heap _
  rw [(e3 : T3.heap = h0)]
  exact ⟨rfl, n4, rfl⟩
theorem pnc1 : plainName "com/example/meshwatch/meshwatch/RelationNegatedPinLaw" = true := by first | (simp [plainName, overriddenIn]; done) | decide +kernel
theorem pdc1_0 : parseMethodDescriptor "(DD)Z" = some ⟨[.double, .double], some .boolean⟩ := by decide +kernel
theorem efc1 (m : MethodId) (a0 : Addr) (a1 : Addr) (d2 : UInt64) (d3 : UInt64) : entryFrame m #[(.ref a0), (.ref a1), (.double d2), (.double d3)] 6 = mkF m 0 #[.val (.ref a0), .val (.ref a1), .val (.double d2), .second, .val (.double d3), .second] [] := by first | (simp [entryFrame, mkF, argsToLocals, Value.category]; done) | rfl
def Qc1 (Z : State) (a0 : Addr) (a1 : Addr) (d2 : UInt64) (d3 : UInt64) (h0 : Heap) (n0 : Nat) (v : Option Value) (h : Heap) (L : List Loc) : Prop := v = some (.int (1 : Int32)) ∧ Fr n0 L ∧ h = h0
set_option maxRecDepth 65536 in
set_option maxHeartbeats 40000000 in
theorem rmc1 (l : Launch) (Z : State) (ar : Array Value) (hw : ∀ d ∈ tables_1, d.before ar Z = true) (ws : List Jvm.Cond) (a0 : Addr) (a1 : Addr) (d2 : UInt64) (d3 : UInt64) (h0 : Heap) (n0 : Nat) (Z0 : n0 ≤ h0.size) (E_a0 : Exa Z h0 a0 "com/example/meshwatch/meshwatch/Relation") (F_ordinal_a0 : Fld Z h0 a0 "java/lang/Enum" "ordinal" "I" (.int (1 : Int32))) (E_a1 : Exa Z h0 a1 "com/example/meshwatch/meshwatch/Relation") (F_ordinal_a1 : Fld Z h0 a1 "java/lang/Enum" "ordinal" "I" (.int (2 : Int32))) (hb14 : ¬ ((own_h2 (FP.dcmp d2 d3)) = (own_h1 (FP.dcmp d2 d3)))) :
    MetFree l (⟨"com/example/meshwatch/meshwatch/RelationNegatedPinLaw", "complement", "(Lcom/example/meshwatch/meshwatch/Relation;Lcom/example/meshwatch/meshwatch/Relation;DD)Z"⟩ : MethodName) (head1 (Jvm.Cond.code (⟨"com/example/meshwatch/meshwatch/RelationNegatedPinLaw", "complement", "(Lcom/example/meshwatch/meshwatch/Relation;Lcom/example/meshwatch/meshwatch/Relation;DD)Z"⟩ : MethodName) method_2_code 6 (some .boolean) :: ws) ({ frames := 2, cells := 0, slots := 0, locals := 29 } : Room)) (fun a U => a = #[(.ref a0), (.ref a1), (.double d2), (.double d3)] ∧ Z.Warmed39 U.vm ∧ U.heap = h0) (fun _ _ _ _ _ => True) (fun _ U o U' => ∃ v L, o = .returned v ∧ Qc1 Z a0 a1 d2 d3 h0 n0 v U'.heap L ∧ FrameEnd U o U' L ({ frames := 2, cells := 0, slots := 0, locals := 29 } : Room).cells ({ frames := 2, cells := 0, slots := 0, locals := 29 } : Room).slots) := by
  refine MetFree.of_bodySF (plainFor_of_name pnc1) hisR ?_
  intro p e s m args below meth c s₁ Bd hml0 hP hK
  obtain ⟨rfl, hZ, hh⟩ := hP
  have hx := Bd.exec
  have hby := Bd.bytes
  have hlk := Bd.notSynchronized
  have hml : c.maxLocals = 6 := hml0
  have hown : s.vm.findClass "com/example/meshwatch/meshwatch/RelationNegatedPinLaw" = some m.cls := findClass_of_methodNamed Bd.named
  have hnm := (name_of_methodNamed Bd.named Bd.method).1
  have X0 : Stand p l e ({ frames := 2, cells := 0, slots := 0, locals := 29 } : Room) s m #[(.ref a0), (.ref a1), (.double d2), (.double d3)] below meth c s₁ [] 0 0 := Stand.of_body Bd
  have e0 : s₁.heap = h0 := by rw [← hh, Bd.state]; rfl
  have N0 := Fr.nil n0
  have K0 := Keep.refl h0 []
  refine own_enter (Q := Qc1 Z a0 a1 d2 d3 h0 n0) (efc1 m a0 a1 d2 d3) ?_
  refine own_st (T' := s₁) (g' := (mkF m 4 #[.val (.ref a0), .val (.ref a1), .val (.double d2), .second, .val (.double d3), .second] [(.double d3), (.double d2), (.ref a1)])) (fun t k => ?_) ?_
  · show Steps p.tables e below (s₁.setTop (mkF m 0 #[.val (.ref a0), .val (.ref a1), .val (.double d2), .second, .val (.double d3), .second] [])) t
    refine XS.aloadN X0.here hx rfl (hb hby d3_0) rfl rfl ?_
    show Steps p.tables e below (s₁.setTop (mkF m 1 #[.val (.ref a0), .val (.ref a1), .val (.double d2), .second, .val (.double d3), .second] [(.ref a1)])) t
    refine XS.dloadN X0.here hx rfl (hb hby d3_1) rfl ?_
    show Steps p.tables e below (s₁.setTop (mkF m 2 #[.val (.ref a0), .val (.ref a1), .val (.double d2), .second, .val (.double d3), .second] [(.double d2), (.ref a1)])) t
    refine XS.dload X0.here hx rfl (hb hby d3_2) rfl ?_
    exact k
  obtain ⟨cq1, kq1, qa1, qb1, qc1⟩ := isOf hZ e0 E_a1
  obtain ⟨_, _, ⟨T1, L1, k1, n1⟩, -, X1, ⟨Lc1, hQ1, l1, y1, z1⟩, st1⟩ := X0.virtualBack hx (y := (⟨"com/example/meshwatch/meshwatch/Relation", "holds", "(DD)Z"⟩ : MethodName)) (z := (⟨"com/example/meshwatch/meshwatch/Relation", "holds", "(DD)Z"⟩ : MethodName)) hown (mvT hZ (hw _ (List.mem_of_getElem? (i := 37) rfl))) (mvT hZ (hw _ (List.mem_of_getElem? (i := 38) rfl))) (notFace_of_selects (args := #[]) (mvT hZ (hw _ (List.mem_of_getElem? (i := 40) rfl)))) (mvT hZ (hw _ (List.mem_of_getElem? (i := 40) rfl))) (mvT hZ (hw _ (List.mem_of_getElem? (i := 39) rfl))) (by decide) (backOf (W := 0) (rmh2 l Z ar hw [] a1 d2 d3 h0 n0 Z0 E_a1 F_ordinal_a1) hZ (hw _ (List.mem_of_getElem? (i := 41) rfl)) (hw _ (List.mem_of_getElem? (i := 3) rfl)) (by decide) (by decide)) qa1 qc1 (g := (mkF m 4 #[.val (.ref a0), .val (.ref a1), .val (.double d2), .second, .val (.double d3), .second] [(.double d3), (.double d2), (.ref a1)])) rfl (by rw [hml]; rfl) (Steps.refl _) (argsL := [(.double d2), (.double d3)]) (rest := []) (lenOf pdc1_0 rfl) rfl (by show 2 * 0 + _ ≤ _; exact Nat.le_of_eq rfl) (hb hby d3_4) (fun _ _ => ⟨rfl, e0, (by decide : 0 + 0 ≤ _), (by decide : 0 + 0 ≤ _)⟩)
  dsimp only [Pt.U, Pt.locs, Pt.cells, Pt.slots] at X1 l1 y1 z1 st1 hQ1
  subst l1 y1 z1
  obtain ⟨rfl, N1q, e1⟩ := hQ1
  have n2 := Fr.app N0 N1q
  refine own_tr (T' := T1) (g' := (mkF m 7 #[.val (.ref a0), .val (.ref a1), .val (.double d2), .second, .val (.double d3), .second] [(.int (own_h2 (FP.dcmp d2 d3)))])) st1 ?_
  refine own_st (T' := T1) (g' := (mkF m 11 #[.val (.ref a0), .val (.ref a1), .val (.double d2), .second, .val (.double d3), .second] [(.double d3), (.double d2), (.ref a0), (.int (own_h2 (FP.dcmp d2 d3)))])) (fun t k => ?_) ?_
  · show Steps p.tables e below (T1.setTop (mkF m 7 #[.val (.ref a0), .val (.ref a1), .val (.double d2), .second, .val (.double d3), .second] [(.int (own_h2 (FP.dcmp d2 d3)))])) t
    refine XS.aloadN X1.here hx rfl (hb hby d3_7) rfl rfl ?_
    show Steps p.tables e below (T1.setTop (mkF m 8 #[.val (.ref a0), .val (.ref a1), .val (.double d2), .second, .val (.double d3), .second] [(.ref a0), (.int (own_h2 (FP.dcmp d2 d3)))])) t
    refine XS.dloadN X1.here hx rfl (hb hby d3_8) rfl ?_
    show Steps p.tables e below (T1.setTop (mkF m 9 #[.val (.ref a0), .val (.ref a1), .val (.double d2), .second, .val (.double d3), .second] [(.double d2), (.ref a0), (.int (own_h2 (FP.dcmp d2 d3)))])) t
    refine XS.dload X1.here hx rfl (hb hby d3_9) rfl ?_
    exact k
  obtain ⟨cq3, kq3, qa3, qb3, qc3⟩ := isOf hZ e1 E_a0
  obtain ⟨_, _, ⟨T3, L3, k3, n3⟩, -, X3, ⟨Lc3, hQ3, l3, y3, z3⟩, st3⟩ := X1.virtualBack hx (y := (⟨"com/example/meshwatch/meshwatch/Relation", "holds", "(DD)Z"⟩ : MethodName)) (z := (⟨"com/example/meshwatch/meshwatch/Relation", "holds", "(DD)Z"⟩ : MethodName)) hown (mvT hZ (hw _ (List.mem_of_getElem? (i := 37) rfl))) (mvT hZ (hw _ (List.mem_of_getElem? (i := 38) rfl))) (notFace_of_selects (args := #[]) (mvT hZ (hw _ (List.mem_of_getElem? (i := 40) rfl)))) (mvT hZ (hw _ (List.mem_of_getElem? (i := 40) rfl))) (mvT hZ (hw _ (List.mem_of_getElem? (i := 39) rfl))) (by decide) (backOf (W := 1) (rmh1 l Z ar hw [] a0 d2 d3 h0 n0 Z0 E_a0 F_ordinal_a0) hZ (hw _ (List.mem_of_getElem? (i := 41) rfl)) (hw _ (List.mem_of_getElem? (i := 3) rfl)) (by decide) (by decide)) qa3 qc3 (g := (mkF m 11 #[.val (.ref a0), .val (.ref a1), .val (.double d2), .second, .val (.double d3), .second] [(.double d3), (.double d2), (.ref a0), (.int (own_h2 (FP.dcmp d2 d3)))])) rfl (by rw [hml]; rfl) (Steps.refl _) (argsL := [(.double d2), (.double d3)]) (rest := [(.int (own_h2 (FP.dcmp d2 d3)))]) (lenOf pdc1_0 rfl) rfl (by show 2 * 0 + _ ≤ _; exact Nat.le_of_eq rfl) (hb hby d3_11) (fun _ _ => ⟨rfl, e1, (by decide : 0 + 0 ≤ _), (by decide : 0 + 0 ≤ _)⟩)
  dsimp only [Pt.U, Pt.locs, Pt.cells, Pt.slots] at X3 l3 y3 z3 st3 hQ3
  subst l3 y3 z3
  obtain ⟨rfl, N3q, e3⟩ := hQ3
  have n4 := Fr.app n2 N3q
  refine own_tr (T' := T3) (g' := (mkF m 14 #[.val (.ref a0), .val (.ref a1), .val (.double d2), .second, .val (.double d3), .second] [(.int (own_h1 (FP.dcmp d2 d3))), (.int (own_h2 (FP.dcmp d2 d3)))])) st3 ?_
  refine own_st (T' := T3) (g' := (mkF m 22 #[.val (.ref a0), .val (.ref a1), .val (.double d2), .second, .val (.double d3), .second] [(.int (1 : Int32))])) (fun t k => ?_) ?_
  · show Steps p.tables e below (T3.setTop (mkF m 14 #[.val (.ref a0), .val (.ref a1), .val (.double d2), .second, .val (.double d3), .second] [(.int (own_h1 (FP.dcmp d2 d3))), (.int (own_h2 (FP.dcmp d2 d3)))])) t
    refine XS.icmpNo X3.here hx rfl (hb hby d3_14) rfl (feq (hb14 : ¬ ((own_h2 (FP.dcmp d2 d3)) = (own_h1 (FP.dcmp d2 d3))))).1 ?_
    show Steps p.tables e below (T3.setTop (mkF m 17 #[.val (.ref a0), .val (.ref a1), .val (.double d2), .second, .val (.double d3), .second] [])) t
    refine XS.iconst X3.here hx rfl (hb hby d3_17) ?_
    show Steps p.tables e below (T3.setTop (mkF m 18 #[.val (.ref a0), .val (.ref a1), .val (.double d2), .second, .val (.double d3), .second] [(.int (1 : Int32))])) t
    refine XS.goto X3.here hx rfl (pc0 := 18) (pc' := 22) rfl (hb hby d3_18) (by decide) (by decide) ?_
    exact k
  refine own_retZ X3 hx hlk Bd.returns (hb hby d3_22) rfl (by decide) (by decide) ?_
  show Qc1 Z a0 a1 d2 d3 h0 n0 (some (.int (1 : Int32))) T3.heap _
  rw [(e3 : T3.heap = h0)]
  exact ⟨rfl, n4, rfl⟩
theorem pnc2 : plainName "com/example/meshwatch/meshwatch/RelationNegatedPinLaw" = true := by first | (simp [plainName, overriddenIn]; done) | decide +kernel
theorem pdc2_0 : parseMethodDescriptor "(DD)Z" = some ⟨[.double, .double], some .boolean⟩ := by decide +kernel
theorem efc2 (m : MethodId) (a0 : Addr) (a1 : Addr) (d2 : UInt64) (d3 : UInt64) : entryFrame m #[(.ref a0), (.ref a1), (.double d2), (.double d3)] 6 = mkF m 0 #[.val (.ref a0), .val (.ref a1), .val (.double d2), .second, .val (.double d3), .second] [] := by first | (simp [entryFrame, mkF, argsToLocals, Value.category]; done) | rfl
def Qc2 (Z : State) (a0 : Addr) (a1 : Addr) (d2 : UInt64) (d3 : UInt64) (h0 : Heap) (n0 : Nat) (v : Option Value) (h : Heap) (L : List Loc) : Prop := v = some (.int (1 : Int32)) ∧ Fr n0 L ∧ h = h0
set_option maxRecDepth 65536 in
set_option maxHeartbeats 40000000 in
theorem rmc2 (l : Launch) (Z : State) (ar : Array Value) (hw : ∀ d ∈ tables_1, d.before ar Z = true) (ws : List Jvm.Cond) (a0 : Addr) (a1 : Addr) (d2 : UInt64) (d3 : UInt64) (h0 : Heap) (n0 : Nat) (Z0 : n0 ≤ h0.size) (E_a0 : Exa Z h0 a0 "com/example/meshwatch/meshwatch/Relation") (F_ordinal_a0 : Fld Z h0 a0 "java/lang/Enum" "ordinal" "I" (.int (2 : Int32))) (E_a1 : Exa Z h0 a1 "com/example/meshwatch/meshwatch/Relation") (F_ordinal_a1 : Fld Z h0 a1 "java/lang/Enum" "ordinal" "I" (.int (1 : Int32))) (hb14 : ¬ ((own_h1 (FP.dcmp d2 d3)) = (own_h2 (FP.dcmp d2 d3)))) :
    MetFree l (⟨"com/example/meshwatch/meshwatch/RelationNegatedPinLaw", "complement", "(Lcom/example/meshwatch/meshwatch/Relation;Lcom/example/meshwatch/meshwatch/Relation;DD)Z"⟩ : MethodName) (head1 (Jvm.Cond.code (⟨"com/example/meshwatch/meshwatch/RelationNegatedPinLaw", "complement", "(Lcom/example/meshwatch/meshwatch/Relation;Lcom/example/meshwatch/meshwatch/Relation;DD)Z"⟩ : MethodName) method_2_code 6 (some .boolean) :: ws) ({ frames := 2, cells := 0, slots := 0, locals := 29 } : Room)) (fun a U => a = #[(.ref a0), (.ref a1), (.double d2), (.double d3)] ∧ Z.Warmed39 U.vm ∧ U.heap = h0) (fun _ _ _ _ _ => True) (fun _ U o U' => ∃ v L, o = .returned v ∧ Qc2 Z a0 a1 d2 d3 h0 n0 v U'.heap L ∧ FrameEnd U o U' L ({ frames := 2, cells := 0, slots := 0, locals := 29 } : Room).cells ({ frames := 2, cells := 0, slots := 0, locals := 29 } : Room).slots) := by
  refine MetFree.of_bodySF (plainFor_of_name pnc2) hisR ?_
  intro p e s m args below meth c s₁ Bd hml0 hP hK
  obtain ⟨rfl, hZ, hh⟩ := hP
  have hx := Bd.exec
  have hby := Bd.bytes
  have hlk := Bd.notSynchronized
  have hml : c.maxLocals = 6 := hml0
  have hown : s.vm.findClass "com/example/meshwatch/meshwatch/RelationNegatedPinLaw" = some m.cls := findClass_of_methodNamed Bd.named
  have hnm := (name_of_methodNamed Bd.named Bd.method).1
  have X0 : Stand p l e ({ frames := 2, cells := 0, slots := 0, locals := 29 } : Room) s m #[(.ref a0), (.ref a1), (.double d2), (.double d3)] below meth c s₁ [] 0 0 := Stand.of_body Bd
  have e0 : s₁.heap = h0 := by rw [← hh, Bd.state]; rfl
  have N0 := Fr.nil n0
  have K0 := Keep.refl h0 []
  refine own_enter (Q := Qc2 Z a0 a1 d2 d3 h0 n0) (efc2 m a0 a1 d2 d3) ?_
  refine own_st (T' := s₁) (g' := (mkF m 4 #[.val (.ref a0), .val (.ref a1), .val (.double d2), .second, .val (.double d3), .second] [(.double d3), (.double d2), (.ref a1)])) (fun t k => ?_) ?_
  · show Steps p.tables e below (s₁.setTop (mkF m 0 #[.val (.ref a0), .val (.ref a1), .val (.double d2), .second, .val (.double d3), .second] [])) t
    refine XS.aloadN X0.here hx rfl (hb hby d3_0) rfl rfl ?_
    show Steps p.tables e below (s₁.setTop (mkF m 1 #[.val (.ref a0), .val (.ref a1), .val (.double d2), .second, .val (.double d3), .second] [(.ref a1)])) t
    refine XS.dloadN X0.here hx rfl (hb hby d3_1) rfl ?_
    show Steps p.tables e below (s₁.setTop (mkF m 2 #[.val (.ref a0), .val (.ref a1), .val (.double d2), .second, .val (.double d3), .second] [(.double d2), (.ref a1)])) t
    refine XS.dload X0.here hx rfl (hb hby d3_2) rfl ?_
    exact k
  obtain ⟨cq1, kq1, qa1, qb1, qc1⟩ := isOf hZ e0 E_a1
  obtain ⟨_, _, ⟨T1, L1, k1, n1⟩, -, X1, ⟨Lc1, hQ1, l1, y1, z1⟩, st1⟩ := X0.virtualBack hx (y := (⟨"com/example/meshwatch/meshwatch/Relation", "holds", "(DD)Z"⟩ : MethodName)) (z := (⟨"com/example/meshwatch/meshwatch/Relation", "holds", "(DD)Z"⟩ : MethodName)) hown (mvT hZ (hw _ (List.mem_of_getElem? (i := 37) rfl))) (mvT hZ (hw _ (List.mem_of_getElem? (i := 38) rfl))) (notFace_of_selects (args := #[]) (mvT hZ (hw _ (List.mem_of_getElem? (i := 40) rfl)))) (mvT hZ (hw _ (List.mem_of_getElem? (i := 40) rfl))) (mvT hZ (hw _ (List.mem_of_getElem? (i := 39) rfl))) (by decide) (backOf (W := 0) (rmh1 l Z ar hw [] a1 d2 d3 h0 n0 Z0 E_a1 F_ordinal_a1) hZ (hw _ (List.mem_of_getElem? (i := 41) rfl)) (hw _ (List.mem_of_getElem? (i := 3) rfl)) (by decide) (by decide)) qa1 qc1 (g := (mkF m 4 #[.val (.ref a0), .val (.ref a1), .val (.double d2), .second, .val (.double d3), .second] [(.double d3), (.double d2), (.ref a1)])) rfl (by rw [hml]; rfl) (Steps.refl _) (argsL := [(.double d2), (.double d3)]) (rest := []) (lenOf pdc2_0 rfl) rfl (by show 2 * 0 + _ ≤ _; exact Nat.le_of_eq rfl) (hb hby d3_4) (fun _ _ => ⟨rfl, e0, (by decide : 0 + 0 ≤ _), (by decide : 0 + 0 ≤ _)⟩)
  dsimp only [Pt.U, Pt.locs, Pt.cells, Pt.slots] at X1 l1 y1 z1 st1 hQ1
  subst l1 y1 z1
  obtain ⟨rfl, N1q, e1⟩ := hQ1
  have n2 := Fr.app N0 N1q
  refine own_tr (T' := T1) (g' := (mkF m 7 #[.val (.ref a0), .val (.ref a1), .val (.double d2), .second, .val (.double d3), .second] [(.int (own_h1 (FP.dcmp d2 d3)))])) st1 ?_
  refine own_st (T' := T1) (g' := (mkF m 11 #[.val (.ref a0), .val (.ref a1), .val (.double d2), .second, .val (.double d3), .second] [(.double d3), (.double d2), (.ref a0), (.int (own_h1 (FP.dcmp d2 d3)))])) (fun t k => ?_) ?_
  · show Steps p.tables e below (T1.setTop (mkF m 7 #[.val (.ref a0), .val (.ref a1), .val (.double d2), .second, .val (.double d3), .second] [(.int (own_h1 (FP.dcmp d2 d3)))])) t
    refine XS.aloadN X1.here hx rfl (hb hby d3_7) rfl rfl ?_
    show Steps p.tables e below (T1.setTop (mkF m 8 #[.val (.ref a0), .val (.ref a1), .val (.double d2), .second, .val (.double d3), .second] [(.ref a0), (.int (own_h1 (FP.dcmp d2 d3)))])) t
    refine XS.dloadN X1.here hx rfl (hb hby d3_8) rfl ?_
    show Steps p.tables e below (T1.setTop (mkF m 9 #[.val (.ref a0), .val (.ref a1), .val (.double d2), .second, .val (.double d3), .second] [(.double d2), (.ref a0), (.int (own_h1 (FP.dcmp d2 d3)))])) t
    refine XS.dload X1.here hx rfl (hb hby d3_9) rfl ?_
    exact k
  obtain ⟨cq3, kq3, qa3, qb3, qc3⟩ := isOf hZ e1 E_a0
  obtain ⟨_, _, ⟨T3, L3, k3, n3⟩, -, X3, ⟨Lc3, hQ3, l3, y3, z3⟩, st3⟩ := X1.virtualBack hx (y := (⟨"com/example/meshwatch/meshwatch/Relation", "holds", "(DD)Z"⟩ : MethodName)) (z := (⟨"com/example/meshwatch/meshwatch/Relation", "holds", "(DD)Z"⟩ : MethodName)) hown (mvT hZ (hw _ (List.mem_of_getElem? (i := 37) rfl))) (mvT hZ (hw _ (List.mem_of_getElem? (i := 38) rfl))) (notFace_of_selects (args := #[]) (mvT hZ (hw _ (List.mem_of_getElem? (i := 40) rfl)))) (mvT hZ (hw _ (List.mem_of_getElem? (i := 40) rfl))) (mvT hZ (hw _ (List.mem_of_getElem? (i := 39) rfl))) (by decide) (backOf (W := 1) (rmh2 l Z ar hw [] a0 d2 d3 h0 n0 Z0 E_a0 F_ordinal_a0) hZ (hw _ (List.mem_of_getElem? (i := 41) rfl)) (hw _ (List.mem_of_getElem? (i := 3) rfl)) (by decide) (by decide)) qa3 qc3 (g := (mkF m 11 #[.val (.ref a0), .val (.ref a1), .val (.double d2), .second, .val (.double d3), .second] [(.double d3), (.double d2), (.ref a0), (.int (own_h1 (FP.dcmp d2 d3)))])) rfl (by rw [hml]; rfl) (Steps.refl _) (argsL := [(.double d2), (.double d3)]) (rest := [(.int (own_h1 (FP.dcmp d2 d3)))]) (lenOf pdc2_0 rfl) rfl (by show 2 * 0 + _ ≤ _; exact Nat.le_of_eq rfl) (hb hby d3_11) (fun _ _ => ⟨rfl, e1, (by decide : 0 + 0 ≤ _), (by decide : 0 + 0 ≤ _)⟩)
  dsimp only [Pt.U, Pt.locs, Pt.cells, Pt.slots] at X3 l3 y3 z3 st3 hQ3
  subst l3 y3 z3
  obtain ⟨rfl, N3q, e3⟩ := hQ3
  have n4 := Fr.app n2 N3q
  refine own_tr (T' := T3) (g' := (mkF m 14 #[.val (.ref a0), .val (.ref a1), .val (.double d2), .second, .val (.double d3), .second] [(.int (own_h2 (FP.dcmp d2 d3))), (.int (own_h1 (FP.dcmp d2 d3)))])) st3 ?_
  refine own_st (T' := T3) (g' := (mkF m 22 #[.val (.ref a0), .val (.ref a1), .val (.double d2), .second, .val (.double d3), .second] [(.int (1 : Int32))])) (fun t k => ?_) ?_
  · show Steps p.tables e below (T3.setTop (mkF m 14 #[.val (.ref a0), .val (.ref a1), .val (.double d2), .second, .val (.double d3), .second] [(.int (own_h2 (FP.dcmp d2 d3))), (.int (own_h1 (FP.dcmp d2 d3)))])) t
    refine XS.icmpNo X3.here hx rfl (hb hby d3_14) rfl (feq (hb14 : ¬ ((own_h1 (FP.dcmp d2 d3)) = (own_h2 (FP.dcmp d2 d3))))).1 ?_
    show Steps p.tables e below (T3.setTop (mkF m 17 #[.val (.ref a0), .val (.ref a1), .val (.double d2), .second, .val (.double d3), .second] [])) t
    refine XS.iconst X3.here hx rfl (hb hby d3_17) ?_
    show Steps p.tables e below (T3.setTop (mkF m 18 #[.val (.ref a0), .val (.ref a1), .val (.double d2), .second, .val (.double d3), .second] [(.int (1 : Int32))])) t
    refine XS.goto X3.here hx rfl (pc0 := 18) (pc' := 22) rfl (hb hby d3_18) (by decide) (by decide) ?_
    exact k
  refine own_retZ X3 hx hlk Bd.returns (hb hby d3_22) rfl (by decide) (by decide) ?_
  show Qc2 Z a0 a1 d2 d3 h0 n0 (some (.int (1 : Int32))) T3.heap _
  rw [(e3 : T3.heap = h0)]
  exact ⟨rfl, n4, rfl⟩
theorem pnc3 : plainName "com/example/meshwatch/meshwatch/RelationNegatedPinLaw" = true := by first | (simp [plainName, overriddenIn]; done) | decide +kernel
theorem pdc3_0 : parseMethodDescriptor "(DD)Z" = some ⟨[.double, .double], some .boolean⟩ := by decide +kernel
theorem efc3 (m : MethodId) (a0 : Addr) (a1 : Addr) (d2 : UInt64) (d3 : UInt64) : entryFrame m #[(.ref a0), (.ref a1), (.double d2), (.double d3)] 6 = mkF m 0 #[.val (.ref a0), .val (.ref a1), .val (.double d2), .second, .val (.double d3), .second] [] := by first | (simp [entryFrame, mkF, argsToLocals, Value.category]; done) | rfl
def Qc3 (Z : State) (a0 : Addr) (a1 : Addr) (d2 : UInt64) (d3 : UInt64) (h0 : Heap) (n0 : Nat) (v : Option Value) (h : Heap) (L : List Loc) : Prop := v = some (.int (1 : Int32)) ∧ Fr n0 L ∧ h = h0
set_option maxRecDepth 65536 in
set_option maxHeartbeats 40000000 in
theorem rmc3 (l : Launch) (Z : State) (ar : Array Value) (hw : ∀ d ∈ tables_1, d.before ar Z = true) (ws : List Jvm.Cond) (a0 : Addr) (a1 : Addr) (d2 : UInt64) (d3 : UInt64) (h0 : Heap) (n0 : Nat) (Z0 : n0 ≤ h0.size) (E_a0 : Exa Z h0 a0 "com/example/meshwatch/meshwatch/Relation") (F_ordinal_a0 : Fld Z h0 a0 "java/lang/Enum" "ordinal" "I" (.int (3 : Int32))) (E_a1 : Exa Z h0 a1 "com/example/meshwatch/meshwatch/Relation") (F_ordinal_a1 : Fld Z h0 a1 "java/lang/Enum" "ordinal" "I" (.int (0 : Int32))) (hb14 : ¬ ((own_h0 (FP.dcmp d2 d3)) = (own_h3 (FP.dcmp d2 d3)))) :
    MetFree l (⟨"com/example/meshwatch/meshwatch/RelationNegatedPinLaw", "complement", "(Lcom/example/meshwatch/meshwatch/Relation;Lcom/example/meshwatch/meshwatch/Relation;DD)Z"⟩ : MethodName) (head1 (Jvm.Cond.code (⟨"com/example/meshwatch/meshwatch/RelationNegatedPinLaw", "complement", "(Lcom/example/meshwatch/meshwatch/Relation;Lcom/example/meshwatch/meshwatch/Relation;DD)Z"⟩ : MethodName) method_2_code 6 (some .boolean) :: ws) ({ frames := 2, cells := 0, slots := 0, locals := 29 } : Room)) (fun a U => a = #[(.ref a0), (.ref a1), (.double d2), (.double d3)] ∧ Z.Warmed39 U.vm ∧ U.heap = h0) (fun _ _ _ _ _ => True) (fun _ U o U' => ∃ v L, o = .returned v ∧ Qc3 Z a0 a1 d2 d3 h0 n0 v U'.heap L ∧ FrameEnd U o U' L ({ frames := 2, cells := 0, slots := 0, locals := 29 } : Room).cells ({ frames := 2, cells := 0, slots := 0, locals := 29 } : Room).slots) := by
  refine MetFree.of_bodySF (plainFor_of_name pnc3) hisR ?_
  intro p e s m args below meth c s₁ Bd hml0 hP hK
  obtain ⟨rfl, hZ, hh⟩ := hP
  have hx := Bd.exec
  have hby := Bd.bytes
  have hlk := Bd.notSynchronized
  have hml : c.maxLocals = 6 := hml0
  have hown : s.vm.findClass "com/example/meshwatch/meshwatch/RelationNegatedPinLaw" = some m.cls := findClass_of_methodNamed Bd.named
  have hnm := (name_of_methodNamed Bd.named Bd.method).1
  have X0 : Stand p l e ({ frames := 2, cells := 0, slots := 0, locals := 29 } : Room) s m #[(.ref a0), (.ref a1), (.double d2), (.double d3)] below meth c s₁ [] 0 0 := Stand.of_body Bd
  have e0 : s₁.heap = h0 := by rw [← hh, Bd.state]; rfl
  have N0 := Fr.nil n0
  have K0 := Keep.refl h0 []
  refine own_enter (Q := Qc3 Z a0 a1 d2 d3 h0 n0) (efc3 m a0 a1 d2 d3) ?_
  refine own_st (T' := s₁) (g' := (mkF m 4 #[.val (.ref a0), .val (.ref a1), .val (.double d2), .second, .val (.double d3), .second] [(.double d3), (.double d2), (.ref a1)])) (fun t k => ?_) ?_
  · show Steps p.tables e below (s₁.setTop (mkF m 0 #[.val (.ref a0), .val (.ref a1), .val (.double d2), .second, .val (.double d3), .second] [])) t
    refine XS.aloadN X0.here hx rfl (hb hby d3_0) rfl rfl ?_
    show Steps p.tables e below (s₁.setTop (mkF m 1 #[.val (.ref a0), .val (.ref a1), .val (.double d2), .second, .val (.double d3), .second] [(.ref a1)])) t
    refine XS.dloadN X0.here hx rfl (hb hby d3_1) rfl ?_
    show Steps p.tables e below (s₁.setTop (mkF m 2 #[.val (.ref a0), .val (.ref a1), .val (.double d2), .second, .val (.double d3), .second] [(.double d2), (.ref a1)])) t
    refine XS.dload X0.here hx rfl (hb hby d3_2) rfl ?_
    exact k
  obtain ⟨cq1, kq1, qa1, qb1, qc1⟩ := isOf hZ e0 E_a1
  obtain ⟨_, _, ⟨T1, L1, k1, n1⟩, -, X1, ⟨Lc1, hQ1, l1, y1, z1⟩, st1⟩ := X0.virtualBack hx (y := (⟨"com/example/meshwatch/meshwatch/Relation", "holds", "(DD)Z"⟩ : MethodName)) (z := (⟨"com/example/meshwatch/meshwatch/Relation", "holds", "(DD)Z"⟩ : MethodName)) hown (mvT hZ (hw _ (List.mem_of_getElem? (i := 37) rfl))) (mvT hZ (hw _ (List.mem_of_getElem? (i := 38) rfl))) (notFace_of_selects (args := #[]) (mvT hZ (hw _ (List.mem_of_getElem? (i := 40) rfl)))) (mvT hZ (hw _ (List.mem_of_getElem? (i := 40) rfl))) (mvT hZ (hw _ (List.mem_of_getElem? (i := 39) rfl))) (by decide) (backOf (W := 0) (rmh0 l Z ar hw [] a1 d2 d3 h0 n0 Z0 E_a1 F_ordinal_a1) hZ (hw _ (List.mem_of_getElem? (i := 41) rfl)) (hw _ (List.mem_of_getElem? (i := 3) rfl)) (by decide) (by decide)) qa1 qc1 (g := (mkF m 4 #[.val (.ref a0), .val (.ref a1), .val (.double d2), .second, .val (.double d3), .second] [(.double d3), (.double d2), (.ref a1)])) rfl (by rw [hml]; rfl) (Steps.refl _) (argsL := [(.double d2), (.double d3)]) (rest := []) (lenOf pdc3_0 rfl) rfl (by show 2 * 0 + _ ≤ _; exact Nat.le_of_eq rfl) (hb hby d3_4) (fun _ _ => ⟨rfl, e0, (by decide : 0 + 0 ≤ _), (by decide : 0 + 0 ≤ _)⟩)
  dsimp only [Pt.U, Pt.locs, Pt.cells, Pt.slots] at X1 l1 y1 z1 st1 hQ1
  subst l1 y1 z1
  obtain ⟨rfl, N1q, e1⟩ := hQ1
  have n2 := Fr.app N0 N1q
  refine own_tr (T' := T1) (g' := (mkF m 7 #[.val (.ref a0), .val (.ref a1), .val (.double d2), .second, .val (.double d3), .second] [(.int (own_h0 (FP.dcmp d2 d3)))])) st1 ?_
  refine own_st (T' := T1) (g' := (mkF m 11 #[.val (.ref a0), .val (.ref a1), .val (.double d2), .second, .val (.double d3), .second] [(.double d3), (.double d2), (.ref a0), (.int (own_h0 (FP.dcmp d2 d3)))])) (fun t k => ?_) ?_
  · show Steps p.tables e below (T1.setTop (mkF m 7 #[.val (.ref a0), .val (.ref a1), .val (.double d2), .second, .val (.double d3), .second] [(.int (own_h0 (FP.dcmp d2 d3)))])) t
    refine XS.aloadN X1.here hx rfl (hb hby d3_7) rfl rfl ?_
    show Steps p.tables e below (T1.setTop (mkF m 8 #[.val (.ref a0), .val (.ref a1), .val (.double d2), .second, .val (.double d3), .second] [(.ref a0), (.int (own_h0 (FP.dcmp d2 d3)))])) t
    refine XS.dloadN X1.here hx rfl (hb hby d3_8) rfl ?_
    show Steps p.tables e below (T1.setTop (mkF m 9 #[.val (.ref a0), .val (.ref a1), .val (.double d2), .second, .val (.double d3), .second] [(.double d2), (.ref a0), (.int (own_h0 (FP.dcmp d2 d3)))])) t
    refine XS.dload X1.here hx rfl (hb hby d3_9) rfl ?_
    exact k
  obtain ⟨cq3, kq3, qa3, qb3, qc3⟩ := isOf hZ e1 E_a0
  obtain ⟨_, _, ⟨T3, L3, k3, n3⟩, -, X3, ⟨Lc3, hQ3, l3, y3, z3⟩, st3⟩ := X1.virtualBack hx (y := (⟨"com/example/meshwatch/meshwatch/Relation", "holds", "(DD)Z"⟩ : MethodName)) (z := (⟨"com/example/meshwatch/meshwatch/Relation", "holds", "(DD)Z"⟩ : MethodName)) hown (mvT hZ (hw _ (List.mem_of_getElem? (i := 37) rfl))) (mvT hZ (hw _ (List.mem_of_getElem? (i := 38) rfl))) (notFace_of_selects (args := #[]) (mvT hZ (hw _ (List.mem_of_getElem? (i := 40) rfl)))) (mvT hZ (hw _ (List.mem_of_getElem? (i := 40) rfl))) (mvT hZ (hw _ (List.mem_of_getElem? (i := 39) rfl))) (by decide) (backOf (W := 1) (rmh3 l Z ar hw [] a0 d2 d3 h0 n0 Z0 E_a0 F_ordinal_a0) hZ (hw _ (List.mem_of_getElem? (i := 41) rfl)) (hw _ (List.mem_of_getElem? (i := 3) rfl)) (by decide) (by decide)) qa3 qc3 (g := (mkF m 11 #[.val (.ref a0), .val (.ref a1), .val (.double d2), .second, .val (.double d3), .second] [(.double d3), (.double d2), (.ref a0), (.int (own_h0 (FP.dcmp d2 d3)))])) rfl (by rw [hml]; rfl) (Steps.refl _) (argsL := [(.double d2), (.double d3)]) (rest := [(.int (own_h0 (FP.dcmp d2 d3)))]) (lenOf pdc3_0 rfl) rfl (by show 2 * 0 + _ ≤ _; exact Nat.le_of_eq rfl) (hb hby d3_11) (fun _ _ => ⟨rfl, e1, (by decide : 0 + 0 ≤ _), (by decide : 0 + 0 ≤ _)⟩)
  dsimp only [Pt.U, Pt.locs, Pt.cells, Pt.slots] at X3 l3 y3 z3 st3 hQ3
  subst l3 y3 z3
  obtain ⟨rfl, N3q, e3⟩ := hQ3
  have n4 := Fr.app n2 N3q
  refine own_tr (T' := T3) (g' := (mkF m 14 #[.val (.ref a0), .val (.ref a1), .val (.double d2), .second, .val (.double d3), .second] [(.int (own_h3 (FP.dcmp d2 d3))), (.int (own_h0 (FP.dcmp d2 d3)))])) st3 ?_
  refine own_st (T' := T3) (g' := (mkF m 22 #[.val (.ref a0), .val (.ref a1), .val (.double d2), .second, .val (.double d3), .second] [(.int (1 : Int32))])) (fun t k => ?_) ?_
  · show Steps p.tables e below (T3.setTop (mkF m 14 #[.val (.ref a0), .val (.ref a1), .val (.double d2), .second, .val (.double d3), .second] [(.int (own_h3 (FP.dcmp d2 d3))), (.int (own_h0 (FP.dcmp d2 d3)))])) t
    refine XS.icmpNo X3.here hx rfl (hb hby d3_14) rfl (feq (hb14 : ¬ ((own_h0 (FP.dcmp d2 d3)) = (own_h3 (FP.dcmp d2 d3))))).1 ?_
    show Steps p.tables e below (T3.setTop (mkF m 17 #[.val (.ref a0), .val (.ref a1), .val (.double d2), .second, .val (.double d3), .second] [])) t
    refine XS.iconst X3.here hx rfl (hb hby d3_17) ?_
    show Steps p.tables e below (T3.setTop (mkF m 18 #[.val (.ref a0), .val (.ref a1), .val (.double d2), .second, .val (.double d3), .second] [(.int (1 : Int32))])) t
    refine XS.goto X3.here hx rfl (pc0 := 18) (pc' := 22) rfl (hb hby d3_18) (by decide) (by decide) ?_
    exact k
  refine own_retZ X3 hx hlk Bd.returns (hb hby d3_22) rfl (by decide) (by decide) ?_
  show Qc3 Z a0 a1 d2 d3 h0 n0 (some (.int (1 : Int32))) T3.heap _
  rw [(e3 : T3.heap = h0)]
  exact ⟨rfl, n4, rfl⟩
theorem pnc4 : plainName "com/example/meshwatch/meshwatch/RelationNegatedPinLaw" = true := by first | (simp [plainName, overriddenIn]; done) | decide +kernel
theorem pdc4_0 : parseMethodDescriptor "(DD)Z" = some ⟨[.double, .double], some .boolean⟩ := by decide +kernel
theorem efc4 (m : MethodId) (a0 : Addr) (a1 : Addr) (d2 : UInt64) (d3 : UInt64) : entryFrame m #[(.ref a0), (.ref a1), (.double d2), (.double d3)] 6 = mkF m 0 #[.val (.ref a0), .val (.ref a1), .val (.double d2), .second, .val (.double d3), .second] [] := by first | (simp [entryFrame, mkF, argsToLocals, Value.category]; done) | rfl
def Qc4 (Z : State) (a0 : Addr) (a1 : Addr) (d2 : UInt64) (d3 : UInt64) (h0 : Heap) (n0 : Nat) (v : Option Value) (h : Heap) (L : List Loc) : Prop := v = some (.int (1 : Int32)) ∧ Fr n0 L ∧ h = h0
set_option maxRecDepth 65536 in
set_option maxHeartbeats 40000000 in
theorem rmc4 (l : Launch) (Z : State) (ar : Array Value) (hw : ∀ d ∈ tables_1, d.before ar Z = true) (ws : List Jvm.Cond) (a0 : Addr) (a1 : Addr) (d2 : UInt64) (d3 : UInt64) (h0 : Heap) (n0 : Nat) (Z0 : n0 ≤ h0.size) (E_a0 : Exa Z h0 a0 "com/example/meshwatch/meshwatch/Relation") (F_ordinal_a0 : Fld Z h0 a0 "java/lang/Enum" "ordinal" "I" (.int (4 : Int32))) (E_a1 : Exa Z h0 a1 "com/example/meshwatch/meshwatch/Relation") (F_ordinal_a1 : Fld Z h0 a1 "java/lang/Enum" "ordinal" "I" (.int (5 : Int32))) (hb14 : ¬ ((own_h5 (FP.dcmp d2 d3)) = (own_h4 (FP.dcmp d2 d3)))) :
    MetFree l (⟨"com/example/meshwatch/meshwatch/RelationNegatedPinLaw", "complement", "(Lcom/example/meshwatch/meshwatch/Relation;Lcom/example/meshwatch/meshwatch/Relation;DD)Z"⟩ : MethodName) (head1 (Jvm.Cond.code (⟨"com/example/meshwatch/meshwatch/RelationNegatedPinLaw", "complement", "(Lcom/example/meshwatch/meshwatch/Relation;Lcom/example/meshwatch/meshwatch/Relation;DD)Z"⟩ : MethodName) method_2_code 6 (some .boolean) :: ws) ({ frames := 2, cells := 0, slots := 0, locals := 29 } : Room)) (fun a U => a = #[(.ref a0), (.ref a1), (.double d2), (.double d3)] ∧ Z.Warmed39 U.vm ∧ U.heap = h0) (fun _ _ _ _ _ => True) (fun _ U o U' => ∃ v L, o = .returned v ∧ Qc4 Z a0 a1 d2 d3 h0 n0 v U'.heap L ∧ FrameEnd U o U' L ({ frames := 2, cells := 0, slots := 0, locals := 29 } : Room).cells ({ frames := 2, cells := 0, slots := 0, locals := 29 } : Room).slots) := by
  refine MetFree.of_bodySF (plainFor_of_name pnc4) hisR ?_
  intro p e s m args below meth c s₁ Bd hml0 hP hK
  obtain ⟨rfl, hZ, hh⟩ := hP
  have hx := Bd.exec
  have hby := Bd.bytes
  have hlk := Bd.notSynchronized
  have hml : c.maxLocals = 6 := hml0
  have hown : s.vm.findClass "com/example/meshwatch/meshwatch/RelationNegatedPinLaw" = some m.cls := findClass_of_methodNamed Bd.named
  have hnm := (name_of_methodNamed Bd.named Bd.method).1
  have X0 : Stand p l e ({ frames := 2, cells := 0, slots := 0, locals := 29 } : Room) s m #[(.ref a0), (.ref a1), (.double d2), (.double d3)] below meth c s₁ [] 0 0 := Stand.of_body Bd
  have e0 : s₁.heap = h0 := by rw [← hh, Bd.state]; rfl
  have N0 := Fr.nil n0
  have K0 := Keep.refl h0 []
  refine own_enter (Q := Qc4 Z a0 a1 d2 d3 h0 n0) (efc4 m a0 a1 d2 d3) ?_
  refine own_st (T' := s₁) (g' := (mkF m 4 #[.val (.ref a0), .val (.ref a1), .val (.double d2), .second, .val (.double d3), .second] [(.double d3), (.double d2), (.ref a1)])) (fun t k => ?_) ?_
  · show Steps p.tables e below (s₁.setTop (mkF m 0 #[.val (.ref a0), .val (.ref a1), .val (.double d2), .second, .val (.double d3), .second] [])) t
    refine XS.aloadN X0.here hx rfl (hb hby d3_0) rfl rfl ?_
    show Steps p.tables e below (s₁.setTop (mkF m 1 #[.val (.ref a0), .val (.ref a1), .val (.double d2), .second, .val (.double d3), .second] [(.ref a1)])) t
    refine XS.dloadN X0.here hx rfl (hb hby d3_1) rfl ?_
    show Steps p.tables e below (s₁.setTop (mkF m 2 #[.val (.ref a0), .val (.ref a1), .val (.double d2), .second, .val (.double d3), .second] [(.double d2), (.ref a1)])) t
    refine XS.dload X0.here hx rfl (hb hby d3_2) rfl ?_
    exact k
  obtain ⟨cq1, kq1, qa1, qb1, qc1⟩ := isOf hZ e0 E_a1
  obtain ⟨_, _, ⟨T1, L1, k1, n1⟩, -, X1, ⟨Lc1, hQ1, l1, y1, z1⟩, st1⟩ := X0.virtualBack hx (y := (⟨"com/example/meshwatch/meshwatch/Relation", "holds", "(DD)Z"⟩ : MethodName)) (z := (⟨"com/example/meshwatch/meshwatch/Relation", "holds", "(DD)Z"⟩ : MethodName)) hown (mvT hZ (hw _ (List.mem_of_getElem? (i := 37) rfl))) (mvT hZ (hw _ (List.mem_of_getElem? (i := 38) rfl))) (notFace_of_selects (args := #[]) (mvT hZ (hw _ (List.mem_of_getElem? (i := 40) rfl)))) (mvT hZ (hw _ (List.mem_of_getElem? (i := 40) rfl))) (mvT hZ (hw _ (List.mem_of_getElem? (i := 39) rfl))) (by decide) (backOf (W := 0) (rmh5 l Z ar hw [] a1 d2 d3 h0 n0 Z0 E_a1 F_ordinal_a1) hZ (hw _ (List.mem_of_getElem? (i := 41) rfl)) (hw _ (List.mem_of_getElem? (i := 3) rfl)) (by decide) (by decide)) qa1 qc1 (g := (mkF m 4 #[.val (.ref a0), .val (.ref a1), .val (.double d2), .second, .val (.double d3), .second] [(.double d3), (.double d2), (.ref a1)])) rfl (by rw [hml]; rfl) (Steps.refl _) (argsL := [(.double d2), (.double d3)]) (rest := []) (lenOf pdc4_0 rfl) rfl (by show 2 * 0 + _ ≤ _; exact Nat.le_of_eq rfl) (hb hby d3_4) (fun _ _ => ⟨rfl, e0, (by decide : 0 + 0 ≤ _), (by decide : 0 + 0 ≤ _)⟩)
  dsimp only [Pt.U, Pt.locs, Pt.cells, Pt.slots] at X1 l1 y1 z1 st1 hQ1
  subst l1 y1 z1
  obtain ⟨rfl, N1q, e1⟩ := hQ1
  have n2 := Fr.app N0 N1q
  refine own_tr (T' := T1) (g' := (mkF m 7 #[.val (.ref a0), .val (.ref a1), .val (.double d2), .second, .val (.double d3), .second] [(.int (own_h5 (FP.dcmp d2 d3)))])) st1 ?_
  refine own_st (T' := T1) (g' := (mkF m 11 #[.val (.ref a0), .val (.ref a1), .val (.double d2), .second, .val (.double d3), .second] [(.double d3), (.double d2), (.ref a0), (.int (own_h5 (FP.dcmp d2 d3)))])) (fun t k => ?_) ?_
  · show Steps p.tables e below (T1.setTop (mkF m 7 #[.val (.ref a0), .val (.ref a1), .val (.double d2), .second, .val (.double d3), .second] [(.int (own_h5 (FP.dcmp d2 d3)))])) t
    refine XS.aloadN X1.here hx rfl (hb hby d3_7) rfl rfl ?_
    show Steps p.tables e below (T1.setTop (mkF m 8 #[.val (.ref a0), .val (.ref a1), .val (.double d2), .second, .val (.double d3), .second] [(.ref a0), (.int (own_h5 (FP.dcmp d2 d3)))])) t
    refine XS.dloadN X1.here hx rfl (hb hby d3_8) rfl ?_
    show Steps p.tables e below (T1.setTop (mkF m 9 #[.val (.ref a0), .val (.ref a1), .val (.double d2), .second, .val (.double d3), .second] [(.double d2), (.ref a0), (.int (own_h5 (FP.dcmp d2 d3)))])) t
    refine XS.dload X1.here hx rfl (hb hby d3_9) rfl ?_
    exact k
  obtain ⟨cq3, kq3, qa3, qb3, qc3⟩ := isOf hZ e1 E_a0
  obtain ⟨_, _, ⟨T3, L3, k3, n3⟩, -, X3, ⟨Lc3, hQ3, l3, y3, z3⟩, st3⟩ := X1.virtualBack hx (y := (⟨"com/example/meshwatch/meshwatch/Relation", "holds", "(DD)Z"⟩ : MethodName)) (z := (⟨"com/example/meshwatch/meshwatch/Relation", "holds", "(DD)Z"⟩ : MethodName)) hown (mvT hZ (hw _ (List.mem_of_getElem? (i := 37) rfl))) (mvT hZ (hw _ (List.mem_of_getElem? (i := 38) rfl))) (notFace_of_selects (args := #[]) (mvT hZ (hw _ (List.mem_of_getElem? (i := 40) rfl)))) (mvT hZ (hw _ (List.mem_of_getElem? (i := 40) rfl))) (mvT hZ (hw _ (List.mem_of_getElem? (i := 39) rfl))) (by decide) (backOf (W := 1) (rmh4 l Z ar hw [] a0 d2 d3 h0 n0 Z0 E_a0 F_ordinal_a0) hZ (hw _ (List.mem_of_getElem? (i := 41) rfl)) (hw _ (List.mem_of_getElem? (i := 3) rfl)) (by decide) (by decide)) qa3 qc3 (g := (mkF m 11 #[.val (.ref a0), .val (.ref a1), .val (.double d2), .second, .val (.double d3), .second] [(.double d3), (.double d2), (.ref a0), (.int (own_h5 (FP.dcmp d2 d3)))])) rfl (by rw [hml]; rfl) (Steps.refl _) (argsL := [(.double d2), (.double d3)]) (rest := [(.int (own_h5 (FP.dcmp d2 d3)))]) (lenOf pdc4_0 rfl) rfl (by show 2 * 0 + _ ≤ _; exact Nat.le_of_eq rfl) (hb hby d3_11) (fun _ _ => ⟨rfl, e1, (by decide : 0 + 0 ≤ _), (by decide : 0 + 0 ≤ _)⟩)
  dsimp only [Pt.U, Pt.locs, Pt.cells, Pt.slots] at X3 l3 y3 z3 st3 hQ3
  subst l3 y3 z3
  obtain ⟨rfl, N3q, e3⟩ := hQ3
  have n4 := Fr.app n2 N3q
  refine own_tr (T' := T3) (g' := (mkF m 14 #[.val (.ref a0), .val (.ref a1), .val (.double d2), .second, .val (.double d3), .second] [(.int (own_h4 (FP.dcmp d2 d3))), (.int (own_h5 (FP.dcmp d2 d3)))])) st3 ?_
  refine own_st (T' := T3) (g' := (mkF m 22 #[.val (.ref a0), .val (.ref a1), .val (.double d2), .second, .val (.double d3), .second] [(.int (1 : Int32))])) (fun t k => ?_) ?_
  · show Steps p.tables e below (T3.setTop (mkF m 14 #[.val (.ref a0), .val (.ref a1), .val (.double d2), .second, .val (.double d3), .second] [(.int (own_h4 (FP.dcmp d2 d3))), (.int (own_h5 (FP.dcmp d2 d3)))])) t
    refine XS.icmpNo X3.here hx rfl (hb hby d3_14) rfl (feq (hb14 : ¬ ((own_h5 (FP.dcmp d2 d3)) = (own_h4 (FP.dcmp d2 d3))))).1 ?_
    show Steps p.tables e below (T3.setTop (mkF m 17 #[.val (.ref a0), .val (.ref a1), .val (.double d2), .second, .val (.double d3), .second] [])) t
    refine XS.iconst X3.here hx rfl (hb hby d3_17) ?_
    show Steps p.tables e below (T3.setTop (mkF m 18 #[.val (.ref a0), .val (.ref a1), .val (.double d2), .second, .val (.double d3), .second] [(.int (1 : Int32))])) t
    refine XS.goto X3.here hx rfl (pc0 := 18) (pc' := 22) rfl (hb hby d3_18) (by decide) (by decide) ?_
    exact k
  refine own_retZ X3 hx hlk Bd.returns (hb hby d3_22) rfl (by decide) (by decide) ?_
  show Qc4 Z a0 a1 d2 d3 h0 n0 (some (.int (1 : Int32))) T3.heap _
  rw [(e3 : T3.heap = h0)]
  exact ⟨rfl, n4, rfl⟩
theorem pnc5 : plainName "com/example/meshwatch/meshwatch/RelationNegatedPinLaw" = true := by first | (simp [plainName, overriddenIn]; done) | decide +kernel
theorem pdc5_0 : parseMethodDescriptor "(DD)Z" = some ⟨[.double, .double], some .boolean⟩ := by decide +kernel
theorem efc5 (m : MethodId) (a0 : Addr) (a1 : Addr) (d2 : UInt64) (d3 : UInt64) : entryFrame m #[(.ref a0), (.ref a1), (.double d2), (.double d3)] 6 = mkF m 0 #[.val (.ref a0), .val (.ref a1), .val (.double d2), .second, .val (.double d3), .second] [] := by first | (simp [entryFrame, mkF, argsToLocals, Value.category]; done) | rfl
def Qc5 (Z : State) (a0 : Addr) (a1 : Addr) (d2 : UInt64) (d3 : UInt64) (h0 : Heap) (n0 : Nat) (v : Option Value) (h : Heap) (L : List Loc) : Prop := v = some (.int (1 : Int32)) ∧ Fr n0 L ∧ h = h0
set_option maxRecDepth 65536 in
set_option maxHeartbeats 40000000 in
theorem rmc5 (l : Launch) (Z : State) (ar : Array Value) (hw : ∀ d ∈ tables_1, d.before ar Z = true) (ws : List Jvm.Cond) (a0 : Addr) (a1 : Addr) (d2 : UInt64) (d3 : UInt64) (h0 : Heap) (n0 : Nat) (Z0 : n0 ≤ h0.size) (E_a0 : Exa Z h0 a0 "com/example/meshwatch/meshwatch/Relation") (F_ordinal_a0 : Fld Z h0 a0 "java/lang/Enum" "ordinal" "I" (.int (5 : Int32))) (E_a1 : Exa Z h0 a1 "com/example/meshwatch/meshwatch/Relation") (F_ordinal_a1 : Fld Z h0 a1 "java/lang/Enum" "ordinal" "I" (.int (4 : Int32))) (hb14 : ¬ ((own_h4 (FP.dcmp d2 d3)) = (own_h5 (FP.dcmp d2 d3)))) :
    MetFree l (⟨"com/example/meshwatch/meshwatch/RelationNegatedPinLaw", "complement", "(Lcom/example/meshwatch/meshwatch/Relation;Lcom/example/meshwatch/meshwatch/Relation;DD)Z"⟩ : MethodName) (head1 (Jvm.Cond.code (⟨"com/example/meshwatch/meshwatch/RelationNegatedPinLaw", "complement", "(Lcom/example/meshwatch/meshwatch/Relation;Lcom/example/meshwatch/meshwatch/Relation;DD)Z"⟩ : MethodName) method_2_code 6 (some .boolean) :: ws) ({ frames := 2, cells := 0, slots := 0, locals := 29 } : Room)) (fun a U => a = #[(.ref a0), (.ref a1), (.double d2), (.double d3)] ∧ Z.Warmed39 U.vm ∧ U.heap = h0) (fun _ _ _ _ _ => True) (fun _ U o U' => ∃ v L, o = .returned v ∧ Qc5 Z a0 a1 d2 d3 h0 n0 v U'.heap L ∧ FrameEnd U o U' L ({ frames := 2, cells := 0, slots := 0, locals := 29 } : Room).cells ({ frames := 2, cells := 0, slots := 0, locals := 29 } : Room).slots) := by
  refine MetFree.of_bodySF (plainFor_of_name pnc5) hisR ?_
  intro p e s m args below meth c s₁ Bd hml0 hP hK
  obtain ⟨rfl, hZ, hh⟩ := hP
  have hx := Bd.exec
  have hby := Bd.bytes
  have hlk := Bd.notSynchronized
  have hml : c.maxLocals = 6 := hml0
  have hown : s.vm.findClass "com/example/meshwatch/meshwatch/RelationNegatedPinLaw" = some m.cls := findClass_of_methodNamed Bd.named
  have hnm := (name_of_methodNamed Bd.named Bd.method).1
  have X0 : Stand p l e ({ frames := 2, cells := 0, slots := 0, locals := 29 } : Room) s m #[(.ref a0), (.ref a1), (.double d2), (.double d3)] below meth c s₁ [] 0 0 := Stand.of_body Bd
  have e0 : s₁.heap = h0 := by rw [← hh, Bd.state]; rfl
  have N0 := Fr.nil n0
  have K0 := Keep.refl h0 []
  refine own_enter (Q := Qc5 Z a0 a1 d2 d3 h0 n0) (efc5 m a0 a1 d2 d3) ?_
  refine own_st (T' := s₁) (g' := (mkF m 4 #[.val (.ref a0), .val (.ref a1), .val (.double d2), .second, .val (.double d3), .second] [(.double d3), (.double d2), (.ref a1)])) (fun t k => ?_) ?_
  · show Steps p.tables e below (s₁.setTop (mkF m 0 #[.val (.ref a0), .val (.ref a1), .val (.double d2), .second, .val (.double d3), .second] [])) t
    refine XS.aloadN X0.here hx rfl (hb hby d3_0) rfl rfl ?_
    show Steps p.tables e below (s₁.setTop (mkF m 1 #[.val (.ref a0), .val (.ref a1), .val (.double d2), .second, .val (.double d3), .second] [(.ref a1)])) t
    refine XS.dloadN X0.here hx rfl (hb hby d3_1) rfl ?_
    show Steps p.tables e below (s₁.setTop (mkF m 2 #[.val (.ref a0), .val (.ref a1), .val (.double d2), .second, .val (.double d3), .second] [(.double d2), (.ref a1)])) t
    refine XS.dload X0.here hx rfl (hb hby d3_2) rfl ?_
    exact k
  obtain ⟨cq1, kq1, qa1, qb1, qc1⟩ := isOf hZ e0 E_a1
  obtain ⟨_, _, ⟨T1, L1, k1, n1⟩, -, X1, ⟨Lc1, hQ1, l1, y1, z1⟩, st1⟩ := X0.virtualBack hx (y := (⟨"com/example/meshwatch/meshwatch/Relation", "holds", "(DD)Z"⟩ : MethodName)) (z := (⟨"com/example/meshwatch/meshwatch/Relation", "holds", "(DD)Z"⟩ : MethodName)) hown (mvT hZ (hw _ (List.mem_of_getElem? (i := 37) rfl))) (mvT hZ (hw _ (List.mem_of_getElem? (i := 38) rfl))) (notFace_of_selects (args := #[]) (mvT hZ (hw _ (List.mem_of_getElem? (i := 40) rfl)))) (mvT hZ (hw _ (List.mem_of_getElem? (i := 40) rfl))) (mvT hZ (hw _ (List.mem_of_getElem? (i := 39) rfl))) (by decide) (backOf (W := 0) (rmh4 l Z ar hw [] a1 d2 d3 h0 n0 Z0 E_a1 F_ordinal_a1) hZ (hw _ (List.mem_of_getElem? (i := 41) rfl)) (hw _ (List.mem_of_getElem? (i := 3) rfl)) (by decide) (by decide)) qa1 qc1 (g := (mkF m 4 #[.val (.ref a0), .val (.ref a1), .val (.double d2), .second, .val (.double d3), .second] [(.double d3), (.double d2), (.ref a1)])) rfl (by rw [hml]; rfl) (Steps.refl _) (argsL := [(.double d2), (.double d3)]) (rest := []) (lenOf pdc5_0 rfl) rfl (by show 2 * 0 + _ ≤ _; exact Nat.le_of_eq rfl) (hb hby d3_4) (fun _ _ => ⟨rfl, e0, (by decide : 0 + 0 ≤ _), (by decide : 0 + 0 ≤ _)⟩)
  dsimp only [Pt.U, Pt.locs, Pt.cells, Pt.slots] at X1 l1 y1 z1 st1 hQ1
  subst l1 y1 z1
  obtain ⟨rfl, N1q, e1⟩ := hQ1
  have n2 := Fr.app N0 N1q
  refine own_tr (T' := T1) (g' := (mkF m 7 #[.val (.ref a0), .val (.ref a1), .val (.double d2), .second, .val (.double d3), .second] [(.int (own_h4 (FP.dcmp d2 d3)))])) st1 ?_
  refine own_st (T' := T1) (g' := (mkF m 11 #[.val (.ref a0), .val (.ref a1), .val (.double d2), .second, .val (.double d3), .second] [(.double d3), (.double d2), (.ref a0), (.int (own_h4 (FP.dcmp d2 d3)))])) (fun t k => ?_) ?_
  · show Steps p.tables e below (T1.setTop (mkF m 7 #[.val (.ref a0), .val (.ref a1), .val (.double d2), .second, .val (.double d3), .second] [(.int (own_h4 (FP.dcmp d2 d3)))])) t
    refine XS.aloadN X1.here hx rfl (hb hby d3_7) rfl rfl ?_
    show Steps p.tables e below (T1.setTop (mkF m 8 #[.val (.ref a0), .val (.ref a1), .val (.double d2), .second, .val (.double d3), .second] [(.ref a0), (.int (own_h4 (FP.dcmp d2 d3)))])) t
    refine XS.dloadN X1.here hx rfl (hb hby d3_8) rfl ?_
    show Steps p.tables e below (T1.setTop (mkF m 9 #[.val (.ref a0), .val (.ref a1), .val (.double d2), .second, .val (.double d3), .second] [(.double d2), (.ref a0), (.int (own_h4 (FP.dcmp d2 d3)))])) t
    refine XS.dload X1.here hx rfl (hb hby d3_9) rfl ?_
    exact k
  obtain ⟨cq3, kq3, qa3, qb3, qc3⟩ := isOf hZ e1 E_a0
  obtain ⟨_, _, ⟨T3, L3, k3, n3⟩, -, X3, ⟨Lc3, hQ3, l3, y3, z3⟩, st3⟩ := X1.virtualBack hx (y := (⟨"com/example/meshwatch/meshwatch/Relation", "holds", "(DD)Z"⟩ : MethodName)) (z := (⟨"com/example/meshwatch/meshwatch/Relation", "holds", "(DD)Z"⟩ : MethodName)) hown (mvT hZ (hw _ (List.mem_of_getElem? (i := 37) rfl))) (mvT hZ (hw _ (List.mem_of_getElem? (i := 38) rfl))) (notFace_of_selects (args := #[]) (mvT hZ (hw _ (List.mem_of_getElem? (i := 40) rfl)))) (mvT hZ (hw _ (List.mem_of_getElem? (i := 40) rfl))) (mvT hZ (hw _ (List.mem_of_getElem? (i := 39) rfl))) (by decide) (backOf (W := 1) (rmh5 l Z ar hw [] a0 d2 d3 h0 n0 Z0 E_a0 F_ordinal_a0) hZ (hw _ (List.mem_of_getElem? (i := 41) rfl)) (hw _ (List.mem_of_getElem? (i := 3) rfl)) (by decide) (by decide)) qa3 qc3 (g := (mkF m 11 #[.val (.ref a0), .val (.ref a1), .val (.double d2), .second, .val (.double d3), .second] [(.double d3), (.double d2), (.ref a0), (.int (own_h4 (FP.dcmp d2 d3)))])) rfl (by rw [hml]; rfl) (Steps.refl _) (argsL := [(.double d2), (.double d3)]) (rest := [(.int (own_h4 (FP.dcmp d2 d3)))]) (lenOf pdc5_0 rfl) rfl (by show 2 * 0 + _ ≤ _; exact Nat.le_of_eq rfl) (hb hby d3_11) (fun _ _ => ⟨rfl, e1, (by decide : 0 + 0 ≤ _), (by decide : 0 + 0 ≤ _)⟩)
  dsimp only [Pt.U, Pt.locs, Pt.cells, Pt.slots] at X3 l3 y3 z3 st3 hQ3
  subst l3 y3 z3
  obtain ⟨rfl, N3q, e3⟩ := hQ3
  have n4 := Fr.app n2 N3q
  refine own_tr (T' := T3) (g' := (mkF m 14 #[.val (.ref a0), .val (.ref a1), .val (.double d2), .second, .val (.double d3), .second] [(.int (own_h5 (FP.dcmp d2 d3))), (.int (own_h4 (FP.dcmp d2 d3)))])) st3 ?_
  refine own_st (T' := T3) (g' := (mkF m 22 #[.val (.ref a0), .val (.ref a1), .val (.double d2), .second, .val (.double d3), .second] [(.int (1 : Int32))])) (fun t k => ?_) ?_
  · show Steps p.tables e below (T3.setTop (mkF m 14 #[.val (.ref a0), .val (.ref a1), .val (.double d2), .second, .val (.double d3), .second] [(.int (own_h5 (FP.dcmp d2 d3))), (.int (own_h4 (FP.dcmp d2 d3)))])) t
    refine XS.icmpNo X3.here hx rfl (hb hby d3_14) rfl (feq (hb14 : ¬ ((own_h4 (FP.dcmp d2 d3)) = (own_h5 (FP.dcmp d2 d3))))).1 ?_
    show Steps p.tables e below (T3.setTop (mkF m 17 #[.val (.ref a0), .val (.ref a1), .val (.double d2), .second, .val (.double d3), .second] [])) t
    refine XS.iconst X3.here hx rfl (hb hby d3_17) ?_
    show Steps p.tables e below (T3.setTop (mkF m 18 #[.val (.ref a0), .val (.ref a1), .val (.double d2), .second, .val (.double d3), .second] [(.int (1 : Int32))])) t
    refine XS.goto X3.here hx rfl (pc0 := 18) (pc' := 22) rfl (hb hby d3_18) (by decide) (by decide) ?_
    exact k
  refine own_retZ X3 hx hlk Bd.returns (hb hby d3_22) rfl (by decide) (by decide) ?_
  show Qc5 Z a0 a1 d2 d3 h0 n0 (some (.int (1 : Int32))) T3.heap _
  rw [(e3 : T3.heap = h0)]
  exact ⟨rfl, n4, rfl⟩
theorem pn0 : plainName "com/example/meshwatch/meshwatch/RelationNegatedPinLaw" = true := by first | (simp [plainName, overriddenIn]; done) | decide +kernel
theorem pd0_0 : parseMethodDescriptor "()Lcom/example/meshwatch/meshwatch/Relation;" = some ⟨[], some (.object "com/example/meshwatch/meshwatch/Relation")⟩ := by decide +kernel
theorem pd0_1 : parseMethodDescriptor "(Lcom/example/meshwatch/meshwatch/Relation;Lcom/example/meshwatch/meshwatch/Relation;DD)Z" = some ⟨[(.object "com/example/meshwatch/meshwatch/Relation"), (.object "com/example/meshwatch/meshwatch/Relation"), .double, .double], some .boolean⟩ := by decide +kernel
theorem ef0 (m : MethodId) (p0 : Int32) (p1 : Int32) (p2 : Int32) : entryFrame m #[(.int p0), (.int p1), (.int p2)] maxLocals = mkF m 0 #[.val (.int p0), .val (.int p1), .val (.int p2), .unset, .unset, .unset, .unset, .unset, .unset, .unset] [] := by first | (simp [entryFrame, mkF, argsToLocals, Value.category, maxLocals]; done) | rfl
def Q0 (Z : State) (p0 : Int32) (p1 : Int32) (p2 : Int32) (w_LESS : Addr) (w_LESS_OR_EQUAL : Addr) (w_GREATER : Addr) (w_GREATER_OR_EQUAL : Addr) (w_EQUAL : Addr) (w_NOT_EQUAL : Addr) (h0 : Heap) (n0 : Nat) (v : Option Value) (h : Heap) (L : List Loc) : Prop := v = some (.int (1 : Int32)) ∧ Fr n0 L
set_option maxRecDepth 65536 in
set_option maxHeartbeats 40000000 in
theorem rm0 (l : Launch) (Z : State) (ar : Array Value) (hw : ∀ d ∈ tables_1, d.before ar Z = true) (ws : List Jvm.Cond) (p0 : Int32) (p1 : Int32) (p2 : Int32) (w_LESS : Addr) (w_LESS_OR_EQUAL : Addr) (w_GREATER : Addr) (w_GREATER_OR_EQUAL : Addr) (w_EQUAL : Addr) (w_NOT_EQUAL : Addr) (h0 : Heap) (n0 : Nat) (Z0 : n0 ≤ h0.size) (S_LESS : Sta Z h0 "com/example/meshwatch/meshwatch/Relation" "LESS" "Lcom/example/meshwatch/meshwatch/Relation;" (.ref w_LESS)) (E_w_LESS : Exa Z h0 w_LESS "com/example/meshwatch/meshwatch/Relation") (F_ordinal_w_LESS : Fld Z h0 w_LESS "java/lang/Enum" "ordinal" "I" (.int (0 : Int32))) (S_LESS_OR_EQUAL : Sta Z h0 "com/example/meshwatch/meshwatch/Relation" "LESS_OR_EQUAL" "Lcom/example/meshwatch/meshwatch/Relation;" (.ref w_LESS_OR_EQUAL)) (E_w_LESS_OR_EQUAL : Exa Z h0 w_LESS_OR_EQUAL "com/example/meshwatch/meshwatch/Relation") (F_ordinal_w_LESS_OR_EQUAL : Fld Z h0 w_LESS_OR_EQUAL "java/lang/Enum" "ordinal" "I" (.int (1 : Int32))) (S_GREATER : Sta Z h0 "com/example/meshwatch/meshwatch/Relation" "GREATER" "Lcom/example/meshwatch/meshwatch/Relation;" (.ref w_GREATER)) (E_w_GREATER : Exa Z h0 w_GREATER "com/example/meshwatch/meshwatch/Relation") (F_ordinal_w_GREATER : Fld Z h0 w_GREATER "java/lang/Enum" "ordinal" "I" (.int (2 : Int32))) (S_GREATER_OR_EQUAL : Sta Z h0 "com/example/meshwatch/meshwatch/Relation" "GREATER_OR_EQUAL" "Lcom/example/meshwatch/meshwatch/Relation;" (.ref w_GREATER_OR_EQUAL)) (E_w_GREATER_OR_EQUAL : Exa Z h0 w_GREATER_OR_EQUAL "com/example/meshwatch/meshwatch/Relation") (F_ordinal_w_GREATER_OR_EQUAL : Fld Z h0 w_GREATER_OR_EQUAL "java/lang/Enum" "ordinal" "I" (.int (3 : Int32))) (S_EQUAL : Sta Z h0 "com/example/meshwatch/meshwatch/Relation" "EQUAL" "Lcom/example/meshwatch/meshwatch/Relation;" (.ref w_EQUAL)) (E_w_EQUAL : Exa Z h0 w_EQUAL "com/example/meshwatch/meshwatch/Relation") (F_ordinal_w_EQUAL : Fld Z h0 w_EQUAL "java/lang/Enum" "ordinal" "I" (.int (4 : Int32))) (S_NOT_EQUAL : Sta Z h0 "com/example/meshwatch/meshwatch/Relation" "NOT_EQUAL" "Lcom/example/meshwatch/meshwatch/Relation;" (.ref w_NOT_EQUAL)) (E_w_NOT_EQUAL : Exa Z h0 w_NOT_EQUAL "com/example/meshwatch/meshwatch/Relation") (F_ordinal_w_NOT_EQUAL : Fld Z h0 w_NOT_EQUAL "java/lang/Enum" "ordinal" "I" (.int (5 : Int32))) :
    MetFree l x (head1 (Jvm.Cond.code x code maxLocals ret :: ws) room_1) (fun a U => a = #[(.int p0), (.int p1), (.int p2)] ∧ Z.Warmed39 U.vm ∧ U.heap = h0) (fun _ _ _ _ _ => True) (fun _ U o U' => ∃ v L, o = .returned v ∧ Q0 Z p0 p1 p2 w_LESS w_LESS_OR_EQUAL w_GREATER w_GREATER_OR_EQUAL w_EQUAL w_NOT_EQUAL h0 n0 v U'.heap L ∧ FrameEnd U o U' L room_1.cells room_1.slots) := by
  refine MetFree.of_bodySF (plainFor_of_name pn0) hisR ?_
  intro p e s m args below meth c s₁ Bd hml0 hP hK
  obtain ⟨rfl, hZ, hh⟩ := hP
  have hx := Bd.exec
  have hby := Bd.bytes
  have hlk := Bd.notSynchronized
  have hml : c.maxLocals = 10 := hml0
  have hown : s.vm.findClass "com/example/meshwatch/meshwatch/RelationNegatedPinLaw" = some m.cls := findClass_of_methodNamed Bd.named
  have hnm := (name_of_methodNamed Bd.named Bd.method).1
  have X0 : Stand p l e room_1 s m #[(.int p0), (.int p1), (.int p2)] below meth c s₁ [] 0 0 := Stand.of_body Bd
  have e0 : s₁.heap = h0 := by rw [← hh, Bd.state]; rfl
  have N0 := Fr.nil n0
  have K0 := Keep.refl h0 []
  refine own_enter (Q := Q0 Z p0 p1 p2 w_LESS w_LESS_OR_EQUAL w_GREATER w_GREATER_OR_EQUAL w_EQUAL w_NOT_EQUAL h0 n0) (ef0 m p0 p1 p2) ?_
  refine own_st (T' := s₁) (g' := (mkF m 2 #[.val (.int p0), .val (.int p1), .val (.int p2), .unset, .unset, .unset, .unset, .unset, .unset, .unset] [(.int (6 : Int32))])) (fun t k => ?_) ?_
  · show Steps p.tables e below (s₁.setTop (mkF m 0 #[.val (.int p0), .val (.int p1), .val (.int p2), .unset, .unset, .unset, .unset, .unset, .unset, .unset] [])) t
    refine XS.bipush X0.here hx rfl (hb hby at_0) ?_
    exact k
  obtain ⟨T1, h1, k1, X1, e1, E1, A1, O1, st1⟩ := newR X0 hx hZ hown (hw _ (List.mem_of_getElem? (i := 0) rfl)) (hw _ (List.mem_of_getElem? (i := 1) rfl)) e0 (g := (mkF m 2 #[.val (.int p0), .val (.int p1), .val (.int p2), .unset, .unset, .unset, .unset, .unset, .unset, .unset] [(.int (6 : Int32))])) rfl (hb hby at_2) rfl (by decide) (cap := 6) (by decide) (by decide) (by decide) (by decide)
  obtain ⟨b1, g1⟩ : ∃ z, z = h0.size := ⟨_, rfl⟩
  rw [← g1] at A1 st1
  have ne_w_EQUAL_b1 : w_EQUAL ≠ b1 := Nat.ne_of_lt (Nat.lt_of_lt_of_le E_w_EQUAL.lt (Nat.le_of_eq g1.symm))
  have ne_w_GREATER_b1 : w_GREATER ≠ b1 := Nat.ne_of_lt (Nat.lt_of_lt_of_le E_w_GREATER.lt (Nat.le_of_eq g1.symm))
  have ne_w_GREATER_OR_EQUAL_b1 : w_GREATER_OR_EQUAL ≠ b1 := Nat.ne_of_lt (Nat.lt_of_lt_of_le E_w_GREATER_OR_EQUAL.lt (Nat.le_of_eq g1.symm))
  have ne_w_LESS_b1 : w_LESS ≠ b1 := Nat.ne_of_lt (Nat.lt_of_lt_of_le E_w_LESS.lt (Nat.le_of_eq g1.symm))
  have ne_w_LESS_OR_EQUAL_b1 : w_LESS_OR_EQUAL ≠ b1 := Nat.ne_of_lt (Nat.lt_of_lt_of_le E_w_LESS_OR_EQUAL.lt (Nat.le_of_eq g1.symm))
  have ne_w_NOT_EQUAL_b1 : w_NOT_EQUAL ≠ b1 := Nat.ne_of_lt (Nat.lt_of_lt_of_le E_w_NOT_EQUAL.lt (Nat.le_of_eq g1.symm))
  have g_b1 : n0 ≤ b1 := Nat.le_trans Z0 (Nat.le_of_eq g1.symm)
  have sz_b1 : h0.size ≤ b1 := Nat.le_trans K0.1 (Nat.le_of_eq g1.symm)
  have f2 := S_LESS.ext E1
  have f3 := E_w_LESS.ext E1
  have f4 := F_ordinal_w_LESS.ext E1
  have f5 := S_LESS_OR_EQUAL.ext E1
  have f6 := E_w_LESS_OR_EQUAL.ext E1
  have f7 := F_ordinal_w_LESS_OR_EQUAL.ext E1
  have f8 := S_GREATER.ext E1
  have f9 := E_w_GREATER.ext E1
  have f10 := F_ordinal_w_GREATER.ext E1
  have f11 := S_GREATER_OR_EQUAL.ext E1
  have f12 := E_w_GREATER_OR_EQUAL.ext E1
  have f13 := F_ordinal_w_GREATER_OR_EQUAL.ext E1
  have f14 := S_EQUAL.ext E1
  have f15 := E_w_EQUAL.ext E1
  have f16 := F_ordinal_w_EQUAL.ext E1
  have f17 := S_NOT_EQUAL.ext E1
  have f18 := E_w_NOT_EQUAL.ext E1
  have f19 := F_ordinal_w_NOT_EQUAL.ext E1
  have z20 := Nat.le_trans Z0 E1.1
  have k21 := K0.ext E1
  have v22 : Arv Z h1 b1 k1 (.object "com/example/meshwatch/meshwatch/Relation") (6 : Int32) [.null, .null, .null, .null, .null, .null] .null := (Arv.new A1 (by decide)).pad (pad_rep [] .null 6)
  refine own_st (T' := T1) (g' := (mkF m 5 #[.val (.int p0), .val (.int p1), .val (.int p2), .unset, .unset, .unset, .unset, .unset, .unset, .unset] [(.ref b1)])) st1 ?_
  refine own_st (T' := T1) (g' := (mkF m 7 #[.val (.int p0), .val (.int p1), .val (.int p2), .unset, .unset, .unset, .unset, .unset, .unset, .unset] [(.int (0 : Int32)), (.ref b1), (.ref b1)])) (fun t k => ?_) ?_
  · show Steps p.tables e below (T1.setTop (mkF m 5 #[.val (.int p0), .val (.int p1), .val (.int p2), .unset, .unset, .unset, .unset, .unset, .unset, .unset] [(.ref b1)])) t
    refine XS.dup X1.here hx rfl (hb hby at_5) rfl rfl ?_
    show Steps p.tables e below (T1.setTop (mkF m 6 #[.val (.int p0), .val (.int p1), .val (.int p2), .unset, .unset, .unset, .unset, .unset, .unset, .unset] [(.ref b1), (.ref b1)])) t
    refine XS.iconst X1.here hx rfl (hb hby at_6) ?_
    exact k
  obtain ⟨T23, X23, e23, st23⟩ := getS2 X1 hx hZ hown (host := "") (Or.inl (hw _ (List.mem_of_getElem? (i := 2) rfl))) Via.refl e1 f2 (g := (mkF m 7 #[.val (.int p0), .val (.int p1), .val (.int p2), .unset, .unset, .unset, .unset, .unset, .unset, .unset] [(.int (0 : Int32)), (.ref b1), (.ref b1)])) rfl (hb hby at_7)
  refine own_st (T' := T23) (g' := (mkF m 10 #[.val (.int p0), .val (.int p1), .val (.int p2), .unset, .unset, .unset, .unset, .unset, .unset, .unset] [(.ref w_LESS), (.int (0 : Int32)), (.ref b1), (.ref b1)])) st23 ?_
  obtain ⟨c24, r24a, r24b, r24c, r24d, r24e, r24f⟩ := v22
  have i24 : ¬ ((0 : Int32) < 0 ∨ c24.slots.size ≤ ((0 : Int32)).toNatClampNeg) := inb_of r24c ⟨by decide, by decide⟩
  obtain ⟨T24, h24, X24, e24, W24, st24⟩ := stR X23 hx hZ e23 r24a (j := (0 : Int32)) i24 rfl (Sto.ofV r24a r24b O1 (Ins.self f3)) (g := (mkF m 10 #[.val (.int p0), .val (.int p1), .val (.int p2), .unset, .unset, .unset, .unset, .unset, .unset, .unset] [(.ref w_LESS), (.int (0 : Int32)), (.ref b1), (.ref b1)])) rfl rfl (hb hby at_10)
  have v25 := Arv.set r24a r24b r24c r24d r24e r24f rfl W24 0 rfl (Nat.le_of_ble_eq_true rfl)
  have f26 := f2.wr W24
  have f27 := f3.wr W24
  have f28 := f4.other W24 (Or.inl ne_w_LESS_b1)
  have f29 := f5.wr W24
  have f30 := f6.wr W24
  have f31 := f7.other W24 (Or.inl ne_w_LESS_OR_EQUAL_b1)
  have f32 := f8.wr W24
  have f33 := f9.wr W24
  have f34 := f10.other W24 (Or.inl ne_w_GREATER_b1)
  have f35 := f11.wr W24
  have f36 := f12.wr W24
  have f37 := f13.other W24 (Or.inl ne_w_GREATER_OR_EQUAL_b1)
  have f38 := f14.wr W24
  have f39 := f15.wr W24
  have f40 := f16.other W24 (Or.inl ne_w_EQUAL_b1)
  have f41 := f17.wr W24
  have f42 := f18.wr W24
  have f43 := f19.other W24 (Or.inl ne_w_NOT_EQUAL_b1)
  have z44 := Nat.le_trans z20 (Keep.of_wr W24).1
  have k45 := k21.wr W24 (Or.inr sz_b1)
  have n46 := Fr.snoc X24 N0 g_b1
  refine own_st (T' := T24) (g' := (mkF m 11 #[.val (.int p0), .val (.int p1), .val (.int p2), .unset, .unset, .unset, .unset, .unset, .unset, .unset] [(.ref b1)])) st24 ?_
  refine own_st (T' := T24) (g' := (mkF m 13 #[.val (.int p0), .val (.int p1), .val (.int p2), .unset, .unset, .unset, .unset, .unset, .unset, .unset] [(.int (1 : Int32)), (.ref b1), (.ref b1)])) (fun t k => ?_) ?_
  · show Steps p.tables e below (T24.setTop (mkF m 11 #[.val (.int p0), .val (.int p1), .val (.int p2), .unset, .unset, .unset, .unset, .unset, .unset, .unset] [(.ref b1)])) t
    refine XS.dup X24.here hx rfl (hb hby at_11) rfl rfl ?_
    show Steps p.tables e below (T24.setTop (mkF m 12 #[.val (.int p0), .val (.int p1), .val (.int p2), .unset, .unset, .unset, .unset, .unset, .unset, .unset] [(.ref b1), (.ref b1)])) t
    refine XS.iconst X24.here hx rfl (hb hby at_12) ?_
    exact k
  obtain ⟨T47, X47, e47, st47⟩ := getS2 X24 hx hZ hown (host := "") (Or.inl (hw _ (List.mem_of_getElem? (i := 6) rfl))) Via.refl e24 f29 (g := (mkF m 13 #[.val (.int p0), .val (.int p1), .val (.int p2), .unset, .unset, .unset, .unset, .unset, .unset, .unset] [(.int (1 : Int32)), (.ref b1), (.ref b1)])) rfl (hb hby at_13)
  refine own_st (T' := T47) (g' := (mkF m 16 #[.val (.int p0), .val (.int p1), .val (.int p2), .unset, .unset, .unset, .unset, .unset, .unset, .unset] [(.ref w_LESS_OR_EQUAL), (.int (1 : Int32)), (.ref b1), (.ref b1)])) st47 ?_
  obtain ⟨c48, r48a, r48b, r48c, r48d, r48e, r48f⟩ := v25
  have i48 : ¬ ((1 : Int32) < 0 ∨ c48.slots.size ≤ ((1 : Int32)).toNatClampNeg) := inb_of r48c ⟨by decide, by decide⟩
  obtain ⟨T48, h48, X48, e48, W48, st48⟩ := stR X47 hx hZ e47 r48a (j := (1 : Int32)) i48 rfl (Sto.ofV r48a r48b O1 (Ins.self f30)) (g := (mkF m 16 #[.val (.int p0), .val (.int p1), .val (.int p2), .unset, .unset, .unset, .unset, .unset, .unset, .unset] [(.ref w_LESS_OR_EQUAL), (.int (1 : Int32)), (.ref b1), (.ref b1)])) rfl rfl (hb hby at_16)
  have v49 := Arv.set r48a r48b r48c r48d r48e r48f rfl W48 1 rfl (Nat.le_of_ble_eq_true rfl)
  have f50 := f26.wr W48
  have f51 := f27.wr W48
  have f52 := f28.other W48 (Or.inl ne_w_LESS_b1)
  have f53 := f29.wr W48
  have f54 := f30.wr W48
  have f55 := f31.other W48 (Or.inl ne_w_LESS_OR_EQUAL_b1)
  have f56 := f32.wr W48
  have f57 := f33.wr W48
  have f58 := f34.other W48 (Or.inl ne_w_GREATER_b1)
  have f59 := f35.wr W48
  have f60 := f36.wr W48
  have f61 := f37.other W48 (Or.inl ne_w_GREATER_OR_EQUAL_b1)
  have f62 := f38.wr W48
  have f63 := f39.wr W48
  have f64 := f40.other W48 (Or.inl ne_w_EQUAL_b1)
  have f65 := f41.wr W48
  have f66 := f42.wr W48
  have f67 := f43.other W48 (Or.inl ne_w_NOT_EQUAL_b1)
  have z68 := Nat.le_trans z44 (Keep.of_wr W48).1
  have k69 := k45.wr W48 (Or.inr sz_b1)
  have n70 := Fr.snoc X48 n46 g_b1
  refine own_st (T' := T48) (g' := (mkF m 17 #[.val (.int p0), .val (.int p1), .val (.int p2), .unset, .unset, .unset, .unset, .unset, .unset, .unset] [(.ref b1)])) st48 ?_
  refine own_st (T' := T48) (g' := (mkF m 19 #[.val (.int p0), .val (.int p1), .val (.int p2), .unset, .unset, .unset, .unset, .unset, .unset, .unset] [(.int (2 : Int32)), (.ref b1), (.ref b1)])) (fun t k => ?_) ?_
  · show Steps p.tables e below (T48.setTop (mkF m 17 #[.val (.int p0), .val (.int p1), .val (.int p2), .unset, .unset, .unset, .unset, .unset, .unset, .unset] [(.ref b1)])) t
    refine XS.dup X48.here hx rfl (hb hby at_17) rfl rfl ?_
    show Steps p.tables e below (T48.setTop (mkF m 18 #[.val (.int p0), .val (.int p1), .val (.int p2), .unset, .unset, .unset, .unset, .unset, .unset, .unset] [(.ref b1), (.ref b1)])) t
    refine XS.iconst X48.here hx rfl (hb hby at_18) ?_
    exact k
  obtain ⟨T71, X71, e71, st71⟩ := getS2 X48 hx hZ hown (host := "") (Or.inl (hw _ (List.mem_of_getElem? (i := 8) rfl))) Via.refl e48 f56 (g := (mkF m 19 #[.val (.int p0), .val (.int p1), .val (.int p2), .unset, .unset, .unset, .unset, .unset, .unset, .unset] [(.int (2 : Int32)), (.ref b1), (.ref b1)])) rfl (hb hby at_19)
  refine own_st (T' := T71) (g' := (mkF m 22 #[.val (.int p0), .val (.int p1), .val (.int p2), .unset, .unset, .unset, .unset, .unset, .unset, .unset] [(.ref w_GREATER), (.int (2 : Int32)), (.ref b1), (.ref b1)])) st71 ?_
  obtain ⟨c72, r72a, r72b, r72c, r72d, r72e, r72f⟩ := v49
  have i72 : ¬ ((2 : Int32) < 0 ∨ c72.slots.size ≤ ((2 : Int32)).toNatClampNeg) := inb_of r72c ⟨by decide, by decide⟩
  obtain ⟨T72, h72, X72, e72, W72, st72⟩ := stR X71 hx hZ e71 r72a (j := (2 : Int32)) i72 rfl (Sto.ofV r72a r72b O1 (Ins.self f57)) (g := (mkF m 22 #[.val (.int p0), .val (.int p1), .val (.int p2), .unset, .unset, .unset, .unset, .unset, .unset, .unset] [(.ref w_GREATER), (.int (2 : Int32)), (.ref b1), (.ref b1)])) rfl rfl (hb hby at_22)
  have v73 := Arv.set r72a r72b r72c r72d r72e r72f rfl W72 2 rfl (Nat.le_of_ble_eq_true rfl)
  have f74 := f50.wr W72
  have f75 := f51.wr W72
  have f76 := f52.other W72 (Or.inl ne_w_LESS_b1)
  have f77 := f53.wr W72
  have f78 := f54.wr W72
  have f79 := f55.other W72 (Or.inl ne_w_LESS_OR_EQUAL_b1)
  have f80 := f56.wr W72
  have f81 := f57.wr W72
  have f82 := f58.other W72 (Or.inl ne_w_GREATER_b1)
  have f83 := f59.wr W72
  have f84 := f60.wr W72
  have f85 := f61.other W72 (Or.inl ne_w_GREATER_OR_EQUAL_b1)
  have f86 := f62.wr W72
  have f87 := f63.wr W72
  have f88 := f64.other W72 (Or.inl ne_w_EQUAL_b1)
  have f89 := f65.wr W72
  have f90 := f66.wr W72
  have f91 := f67.other W72 (Or.inl ne_w_NOT_EQUAL_b1)
  have z92 := Nat.le_trans z68 (Keep.of_wr W72).1
  have k93 := k69.wr W72 (Or.inr sz_b1)
  have n94 := Fr.snoc X72 n70 g_b1
  refine own_st (T' := T72) (g' := (mkF m 23 #[.val (.int p0), .val (.int p1), .val (.int p2), .unset, .unset, .unset, .unset, .unset, .unset, .unset] [(.ref b1)])) st72 ?_
  refine own_st (T' := T72) (g' := (mkF m 25 #[.val (.int p0), .val (.int p1), .val (.int p2), .unset, .unset, .unset, .unset, .unset, .unset, .unset] [(.int (3 : Int32)), (.ref b1), (.ref b1)])) (fun t k => ?_) ?_
  · show Steps p.tables e below (T72.setTop (mkF m 23 #[.val (.int p0), .val (.int p1), .val (.int p2), .unset, .unset, .unset, .unset, .unset, .unset, .unset] [(.ref b1)])) t
    refine XS.dup X72.here hx rfl (hb hby at_23) rfl rfl ?_
    show Steps p.tables e below (T72.setTop (mkF m 24 #[.val (.int p0), .val (.int p1), .val (.int p2), .unset, .unset, .unset, .unset, .unset, .unset, .unset] [(.ref b1), (.ref b1)])) t
    refine XS.iconst X72.here hx rfl (hb hby at_24) ?_
    exact k
  obtain ⟨T95, X95, e95, st95⟩ := getS2 X72 hx hZ hown (host := "") (Or.inl (hw _ (List.mem_of_getElem? (i := 10) rfl))) Via.refl e72 f83 (g := (mkF m 25 #[.val (.int p0), .val (.int p1), .val (.int p2), .unset, .unset, .unset, .unset, .unset, .unset, .unset] [(.int (3 : Int32)), (.ref b1), (.ref b1)])) rfl (hb hby at_25)
  refine own_st (T' := T95) (g' := (mkF m 28 #[.val (.int p0), .val (.int p1), .val (.int p2), .unset, .unset, .unset, .unset, .unset, .unset, .unset] [(.ref w_GREATER_OR_EQUAL), (.int (3 : Int32)), (.ref b1), (.ref b1)])) st95 ?_
  obtain ⟨c96, r96a, r96b, r96c, r96d, r96e, r96f⟩ := v73
  have i96 : ¬ ((3 : Int32) < 0 ∨ c96.slots.size ≤ ((3 : Int32)).toNatClampNeg) := inb_of r96c ⟨by decide, by decide⟩
  obtain ⟨T96, h96, X96, e96, W96, st96⟩ := stR X95 hx hZ e95 r96a (j := (3 : Int32)) i96 rfl (Sto.ofV r96a r96b O1 (Ins.self f84)) (g := (mkF m 28 #[.val (.int p0), .val (.int p1), .val (.int p2), .unset, .unset, .unset, .unset, .unset, .unset, .unset] [(.ref w_GREATER_OR_EQUAL), (.int (3 : Int32)), (.ref b1), (.ref b1)])) rfl rfl (hb hby at_28)
  have v97 := Arv.set r96a r96b r96c r96d r96e r96f rfl W96 3 rfl (Nat.le_of_ble_eq_true rfl)
  have f98 := f74.wr W96
  have f99 := f75.wr W96
  have f100 := f76.other W96 (Or.inl ne_w_LESS_b1)
  have f101 := f77.wr W96
  have f102 := f78.wr W96
  have f103 := f79.other W96 (Or.inl ne_w_LESS_OR_EQUAL_b1)
  have f104 := f80.wr W96
  have f105 := f81.wr W96
  have f106 := f82.other W96 (Or.inl ne_w_GREATER_b1)
  have f107 := f83.wr W96
  have f108 := f84.wr W96
  have f109 := f85.other W96 (Or.inl ne_w_GREATER_OR_EQUAL_b1)
  have f110 := f86.wr W96
  have f111 := f87.wr W96
  have f112 := f88.other W96 (Or.inl ne_w_EQUAL_b1)
  have f113 := f89.wr W96
  have f114 := f90.wr W96
  have f115 := f91.other W96 (Or.inl ne_w_NOT_EQUAL_b1)
  have z116 := Nat.le_trans z92 (Keep.of_wr W96).1
  have k117 := k93.wr W96 (Or.inr sz_b1)
  have n118 := Fr.snoc X96 n94 g_b1
  refine own_st (T' := T96) (g' := (mkF m 29 #[.val (.int p0), .val (.int p1), .val (.int p2), .unset, .unset, .unset, .unset, .unset, .unset, .unset] [(.ref b1)])) st96 ?_
  refine own_st (T' := T96) (g' := (mkF m 31 #[.val (.int p0), .val (.int p1), .val (.int p2), .unset, .unset, .unset, .unset, .unset, .unset, .unset] [(.int (4 : Int32)), (.ref b1), (.ref b1)])) (fun t k => ?_) ?_
  · show Steps p.tables e below (T96.setTop (mkF m 29 #[.val (.int p0), .val (.int p1), .val (.int p2), .unset, .unset, .unset, .unset, .unset, .unset, .unset] [(.ref b1)])) t
    refine XS.dup X96.here hx rfl (hb hby at_29) rfl rfl ?_
    show Steps p.tables e below (T96.setTop (mkF m 30 #[.val (.int p0), .val (.int p1), .val (.int p2), .unset, .unset, .unset, .unset, .unset, .unset, .unset] [(.ref b1), (.ref b1)])) t
    refine XS.iconst X96.here hx rfl (hb hby at_30) ?_
    exact k
  obtain ⟨T119, X119, e119, st119⟩ := getS2 X96 hx hZ hown (host := "") (Or.inl (hw _ (List.mem_of_getElem? (i := 12) rfl))) Via.refl e96 f110 (g := (mkF m 31 #[.val (.int p0), .val (.int p1), .val (.int p2), .unset, .unset, .unset, .unset, .unset, .unset, .unset] [(.int (4 : Int32)), (.ref b1), (.ref b1)])) rfl (hb hby at_31)
  refine own_st (T' := T119) (g' := (mkF m 34 #[.val (.int p0), .val (.int p1), .val (.int p2), .unset, .unset, .unset, .unset, .unset, .unset, .unset] [(.ref w_EQUAL), (.int (4 : Int32)), (.ref b1), (.ref b1)])) st119 ?_
  obtain ⟨c120, r120a, r120b, r120c, r120d, r120e, r120f⟩ := v97
  have i120 : ¬ ((4 : Int32) < 0 ∨ c120.slots.size ≤ ((4 : Int32)).toNatClampNeg) := inb_of r120c ⟨by decide, by decide⟩
  obtain ⟨T120, h120, X120, e120, W120, st120⟩ := stR X119 hx hZ e119 r120a (j := (4 : Int32)) i120 rfl (Sto.ofV r120a r120b O1 (Ins.self f111)) (g := (mkF m 34 #[.val (.int p0), .val (.int p1), .val (.int p2), .unset, .unset, .unset, .unset, .unset, .unset, .unset] [(.ref w_EQUAL), (.int (4 : Int32)), (.ref b1), (.ref b1)])) rfl rfl (hb hby at_34)
  have v121 := Arv.set r120a r120b r120c r120d r120e r120f rfl W120 4 rfl (Nat.le_of_ble_eq_true rfl)
  have f122 := f98.wr W120
  have f123 := f99.wr W120
  have f124 := f100.other W120 (Or.inl ne_w_LESS_b1)
  have f125 := f101.wr W120
  have f126 := f102.wr W120
  have f127 := f103.other W120 (Or.inl ne_w_LESS_OR_EQUAL_b1)
  have f128 := f104.wr W120
  have f129 := f105.wr W120
  have f130 := f106.other W120 (Or.inl ne_w_GREATER_b1)
  have f131 := f107.wr W120
  have f132 := f108.wr W120
  have f133 := f109.other W120 (Or.inl ne_w_GREATER_OR_EQUAL_b1)
  have f134 := f110.wr W120
  have f135 := f111.wr W120
  have f136 := f112.other W120 (Or.inl ne_w_EQUAL_b1)
  have f137 := f113.wr W120
  have f138 := f114.wr W120
  have f139 := f115.other W120 (Or.inl ne_w_NOT_EQUAL_b1)
  have z140 := Nat.le_trans z116 (Keep.of_wr W120).1
  have k141 := k117.wr W120 (Or.inr sz_b1)
  have n142 := Fr.snoc X120 n118 g_b1
  refine own_st (T' := T120) (g' := (mkF m 35 #[.val (.int p0), .val (.int p1), .val (.int p2), .unset, .unset, .unset, .unset, .unset, .unset, .unset] [(.ref b1)])) st120 ?_
  refine own_st (T' := T120) (g' := (mkF m 37 #[.val (.int p0), .val (.int p1), .val (.int p2), .unset, .unset, .unset, .unset, .unset, .unset, .unset] [(.int (5 : Int32)), (.ref b1), (.ref b1)])) (fun t k => ?_) ?_
  · show Steps p.tables e below (T120.setTop (mkF m 35 #[.val (.int p0), .val (.int p1), .val (.int p2), .unset, .unset, .unset, .unset, .unset, .unset, .unset] [(.ref b1)])) t
    refine XS.dup X120.here hx rfl (hb hby at_35) rfl rfl ?_
    show Steps p.tables e below (T120.setTop (mkF m 36 #[.val (.int p0), .val (.int p1), .val (.int p2), .unset, .unset, .unset, .unset, .unset, .unset, .unset] [(.ref b1), (.ref b1)])) t
    refine XS.iconst X120.here hx rfl (hb hby at_36) ?_
    exact k
  obtain ⟨T143, X143, e143, st143⟩ := getS2 X120 hx hZ hown (host := "") (Or.inl (hw _ (List.mem_of_getElem? (i := 14) rfl))) Via.refl e120 f137 (g := (mkF m 37 #[.val (.int p0), .val (.int p1), .val (.int p2), .unset, .unset, .unset, .unset, .unset, .unset, .unset] [(.int (5 : Int32)), (.ref b1), (.ref b1)])) rfl (hb hby at_37)
  refine own_st (T' := T143) (g' := (mkF m 40 #[.val (.int p0), .val (.int p1), .val (.int p2), .unset, .unset, .unset, .unset, .unset, .unset, .unset] [(.ref w_NOT_EQUAL), (.int (5 : Int32)), (.ref b1), (.ref b1)])) st143 ?_
  obtain ⟨c144, r144a, r144b, r144c, r144d, r144e, r144f⟩ := v121
  have i144 : ¬ ((5 : Int32) < 0 ∨ c144.slots.size ≤ ((5 : Int32)).toNatClampNeg) := inb_of r144c ⟨by decide, by decide⟩
  obtain ⟨T144, h144, X144, e144, W144, st144⟩ := stR X143 hx hZ e143 r144a (j := (5 : Int32)) i144 rfl (Sto.ofV r144a r144b O1 (Ins.self f138)) (g := (mkF m 40 #[.val (.int p0), .val (.int p1), .val (.int p2), .unset, .unset, .unset, .unset, .unset, .unset, .unset] [(.ref w_NOT_EQUAL), (.int (5 : Int32)), (.ref b1), (.ref b1)])) rfl rfl (hb hby at_40)
  have v145 := Arv.set r144a r144b r144c r144d r144e r144f rfl W144 5 rfl (Nat.le_of_ble_eq_true rfl)
  have f146 := f122.wr W144
  have f147 := f123.wr W144
  have f148 := f124.other W144 (Or.inl ne_w_LESS_b1)
  have f149 := f125.wr W144
  have f150 := f126.wr W144
  have f151 := f127.other W144 (Or.inl ne_w_LESS_OR_EQUAL_b1)
  have f152 := f128.wr W144
  have f153 := f129.wr W144
  have f154 := f130.other W144 (Or.inl ne_w_GREATER_b1)
  have f155 := f131.wr W144
  have f156 := f132.wr W144
  have f157 := f133.other W144 (Or.inl ne_w_GREATER_OR_EQUAL_b1)
  have f158 := f134.wr W144
  have f159 := f135.wr W144
  have f160 := f136.other W144 (Or.inl ne_w_EQUAL_b1)
  have f161 := f137.wr W144
  have f162 := f138.wr W144
  have f163 := f139.other W144 (Or.inl ne_w_NOT_EQUAL_b1)
  have z164 := Nat.le_trans z140 (Keep.of_wr W144).1
  have k165 := k141.wr W144 (Or.inr sz_b1)
  have n166 := Fr.snoc X144 n142 g_b1
  refine own_st (T' := T144) (g' := (mkF m 41 #[.val (.int p0), .val (.int p1), .val (.int p2), .unset, .unset, .unset, .unset, .unset, .unset, .unset] [(.ref b1)])) st144 ?_
  refine own_st (T' := T144) (g' := (mkF m 50 #[.val (.int p0), .val (.int p1), .val (.int p2), .val (.ref b1), .unset, .unset, .unset, .unset, .unset, .unset] [(.int ((p0 &&& (2147483647 : Int32)) % (6 : Int32))), (.ref b1)])) (fun t k => ?_) ?_
  · show Steps p.tables e below (T144.setTop (mkF m 41 #[.val (.int p0), .val (.int p1), .val (.int p2), .unset, .unset, .unset, .unset, .unset, .unset, .unset] [(.ref b1)])) t
    refine XS.astoreN X144.here hx rfl (hb hby at_41) rfl rfl (l' := #[.val (.int p0), .val (.int p1), .val (.int p2), .val (.ref b1), .unset, .unset, .unset, .unset, .unset, .unset]) rfl ?_
    show Steps p.tables e below (T144.setTop (mkF m 42 #[.val (.int p0), .val (.int p1), .val (.int p2), .val (.ref b1), .unset, .unset, .unset, .unset, .unset, .unset] [])) t
    refine XS.aloadN X144.here hx rfl (hb hby at_42) rfl rfl ?_
    show Steps p.tables e below (T144.setTop (mkF m 43 #[.val (.int p0), .val (.int p1), .val (.int p2), .val (.ref b1), .unset, .unset, .unset, .unset, .unset, .unset] [(.ref b1)])) t
    refine XS.iloadN X144.here hx rfl (hb hby at_43) rfl ?_
    show Steps p.tables e below (T144.setTop (mkF m 44 #[.val (.int p0), .val (.int p1), .val (.int p2), .val (.ref b1), .unset, .unset, .unset, .unset, .unset, .unset] [(.int p0), (.ref b1)])) t
    refine X144.ldcInt hx hown (mvT hZ (hw _ (List.mem_of_getElem? (i := 16) rfl))) (g := (mkF m 44 #[.val (.int p0), .val (.int p1), .val (.int p2), .val (.ref b1), .unset, .unset, .unset, .unset, .unset, .unset] [(.int p0), (.ref b1)])) rfl (hb hby at_44) _ ?_
    show Steps p.tables e below (T144.setTop (mkF m 46 #[.val (.int p0), .val (.int p1), .val (.int p2), .val (.ref b1), .unset, .unset, .unset, .unset, .unset, .unset] [(.int (2147483647 : Int32)), (.int p0), (.ref b1)])) t
    refine XS.iand X144.here hx rfl (hb hby at_46) rfl ?_
    show Steps p.tables e below (T144.setTop (mkF m 47 #[.val (.int p0), .val (.int p1), .val (.int p2), .val (.ref b1), .unset, .unset, .unset, .unset, .unset, .unset] [(.int (p0 &&& (2147483647 : Int32))), (.ref b1)])) t
    refine XS.bipush X144.here hx rfl (hb hby at_47) ?_
    show Steps p.tables e below (T144.setTop (mkF m 49 #[.val (.int p0), .val (.int p1), .val (.int p2), .val (.ref b1), .unset, .unset, .unset, .unset, .unset, .unset] [(.int (6 : Int32)), (.int (p0 &&& (2147483647 : Int32))), (.ref b1)])) t
    refine iremM X144 hx rfl (hb hby at_49) rfl (by decide) ?_
    exact k
  rcases own_six p0 with hk50_167 | hk50_168 | hk50_169 | hk50_170 | hk50_171 | hk50_172
  · rw [hk50_167]
    obtain ⟨c173, r173a, r173b, r173c, r173d, r173e, r173f⟩ := v145
    have i173 : ¬ ((0 : Int32) < 0 ∨ c173.slots.size ≤ ((0 : Int32)).toNatClampNeg) := inb_of r173c ⟨by decide, by decide⟩
    have y173 : c173.slots[((0 : Int32)).toNatClampNeg]? = some (.ref w_LESS) := r173e.at i173 rfl
    refine own_st (T' := T144) (g' := (mkF m 63 #[.val (.int p0), .val (.int p1), .val (.int p2), .val (.ref b1), .val (.ref w_LESS), .val (.double (FP.i2d p1)), .second, .val (.double (FP.i2d p2)), .second, .unset] [(.ref w_LESS)])) (fun t k => ?_) ?_
    · show Steps p.tables e below (T144.setTop (mkF m 50 #[.val (.int p0), .val (.int p1), .val (.int p2), .val (.ref b1), .unset, .unset, .unset, .unset, .unset, .unset] [(.int (0 : Int32)), (.ref b1)])) t
      refine X144.aaload hx (j := (0 : Int32)) (v := (.ref w_LESS)) (by rw [e144]; exact r173a.1) (State.isArrayOf_alike hZ.alike r173a.2.1) rfl r173a.2.2 i173 y173 (g := (mkF m 50 #[.val (.int p0), .val (.int p1), .val (.int p2), .val (.ref b1), .unset, .unset, .unset, .unset, .unset, .unset] [(.int (0 : Int32)), (.ref b1)])) rfl rfl (hb hby at_50) _ ?_
      show Steps p.tables e below (T144.setTop (mkF m 51 #[.val (.int p0), .val (.int p1), .val (.int p2), .val (.ref b1), .unset, .unset, .unset, .unset, .unset, .unset] [(.ref w_LESS)])) t
      refine XS.astore X144.here hx rfl (hb hby at_51) rfl rfl (l' := #[.val (.int p0), .val (.int p1), .val (.int p2), .val (.ref b1), .val (.ref w_LESS), .unset, .unset, .unset, .unset, .unset]) rfl ?_
      show Steps p.tables e below (T144.setTop (mkF m 53 #[.val (.int p0), .val (.int p1), .val (.int p2), .val (.ref b1), .val (.ref w_LESS), .unset, .unset, .unset, .unset, .unset] [])) t
      refine XS.iloadN X144.here hx rfl (hb hby at_53) rfl ?_
      show Steps p.tables e below (T144.setTop (mkF m 54 #[.val (.int p0), .val (.int p1), .val (.int p2), .val (.ref b1), .val (.ref w_LESS), .unset, .unset, .unset, .unset, .unset] [(.int p1)])) t
      refine XS.i2dS X144.here hx rfl (hb hby at_54) rfl rfl ?_
      show Steps p.tables e below (T144.setTop (mkF m 55 #[.val (.int p0), .val (.int p1), .val (.int p2), .val (.ref b1), .val (.ref w_LESS), .unset, .unset, .unset, .unset, .unset] [(.double (FP.i2d p1))])) t
      refine XS.dstore X144.here hx rfl (hb hby at_55) rfl (l' := #[.val (.int p0), .val (.int p1), .val (.int p2), .val (.ref b1), .val (.ref w_LESS), .val (.double (FP.i2d p1)), .second, .unset, .unset, .unset]) rfl ?_
      show Steps p.tables e below (T144.setTop (mkF m 57 #[.val (.int p0), .val (.int p1), .val (.int p2), .val (.ref b1), .val (.ref w_LESS), .val (.double (FP.i2d p1)), .second, .unset, .unset, .unset] [])) t
      refine XS.iloadN X144.here hx rfl (hb hby at_57) rfl ?_
      show Steps p.tables e below (T144.setTop (mkF m 58 #[.val (.int p0), .val (.int p1), .val (.int p2), .val (.ref b1), .val (.ref w_LESS), .val (.double (FP.i2d p1)), .second, .unset, .unset, .unset] [(.int p2)])) t
      refine XS.i2dS X144.here hx rfl (hb hby at_58) rfl rfl ?_
      show Steps p.tables e below (T144.setTop (mkF m 59 #[.val (.int p0), .val (.int p1), .val (.int p2), .val (.ref b1), .val (.ref w_LESS), .val (.double (FP.i2d p1)), .second, .unset, .unset, .unset] [(.double (FP.i2d p2))])) t
      refine XS.dstore X144.here hx rfl (hb hby at_59) rfl (l' := #[.val (.int p0), .val (.int p1), .val (.int p2), .val (.ref b1), .val (.ref w_LESS), .val (.double (FP.i2d p1)), .second, .val (.double (FP.i2d p2)), .second, .unset]) rfl ?_
      show Steps p.tables e below (T144.setTop (mkF m 61 #[.val (.int p0), .val (.int p1), .val (.int p2), .val (.ref b1), .val (.ref w_LESS), .val (.double (FP.i2d p1)), .second, .val (.double (FP.i2d p2)), .second, .unset] [])) t
      refine XS.aload X144.here hx rfl (hb hby at_61) rfl rfl ?_
      exact k
    obtain ⟨cq174, kq174, qa174, qb174, qc174⟩ := isOf hZ e144 f147
    obtain ⟨_, _, ⟨T174, L174, k174, n174⟩, -, X174, ⟨Lc174, hQ174, l174, y174, z174⟩, st174⟩ := X144.virtualBack hx (y := (⟨"com/example/meshwatch/meshwatch/Relation", "negated", "()Lcom/example/meshwatch/meshwatch/Relation;"⟩ : MethodName)) (z := (⟨"com/example/meshwatch/meshwatch/Relation", "negated", "()Lcom/example/meshwatch/meshwatch/Relation;"⟩ : MethodName)) hown (mvT hZ (hw _ (List.mem_of_getElem? (i := 17) rfl))) (mvT hZ (hw _ (List.mem_of_getElem? (i := 18) rfl))) (notFace_of_selects (args := #[]) (mvT hZ (hw _ (List.mem_of_getElem? (i := 20) rfl)))) (mvT hZ (hw _ (List.mem_of_getElem? (i := 20) rfl))) (mvT hZ (hw _ (List.mem_of_getElem? (i := 19) rfl))) (by decide) (backOf (W := 0) (rmn0 l Z ar hw [] w_LESS w_GREATER_OR_EQUAL h144 n0 z164 f147 f148 f155) hZ (hw _ (List.mem_of_getElem? (i := 21) rfl)) (hw _ (List.mem_of_getElem? (i := 3) rfl)) (by decide) (by decide)) qa174 qc174 (g := (mkF m 63 #[.val (.int p0), .val (.int p1), .val (.int p2), .val (.ref b1), .val (.ref w_LESS), .val (.double (FP.i2d p1)), .second, .val (.double (FP.i2d p2)), .second, .unset] [(.ref w_LESS)])) rfl (by rw [hml]; rfl) (Steps.refl _) (argsL := []) (rest := []) (lenOf pd0_0 rfl) rfl (by show 2 * 0 + _ ≤ _; exact Nat.le_of_eq rfl) (hb hby at_63) (fun _ _ => ⟨rfl, e144, (by decide : 1 + 0 ≤ _), (by decide : 6 + 0 ≤ _)⟩)
    dsimp only [Pt.U, Pt.locs, Pt.cells, Pt.slots] at X174 l174 y174 z174 st174 hQ174
    subst l174 y174 z174
    obtain ⟨rfl, N174q, e174⟩ := hQ174
    have n175 := Fr.app n166 N174q
    refine own_tr (T' := T174) (g' := (mkF m 66 #[.val (.int p0), .val (.int p1), .val (.int p2), .val (.ref b1), .val (.ref w_LESS), .val (.double (FP.i2d p1)), .second, .val (.double (FP.i2d p2)), .second, .unset] [(.ref w_GREATER_OR_EQUAL)])) st174 ?_
    refine own_st (T' := T174) (g' := (mkF m 77 #[.val (.int p0), .val (.int p1), .val (.int p2), .val (.ref b1), .val (.ref w_LESS), .val (.double (FP.i2d p1)), .second, .val (.double (FP.i2d p2)), .second, .val (.ref w_GREATER_OR_EQUAL)] [(.ref w_GREATER_OR_EQUAL)])) (fun t k => ?_) ?_
    · show Steps p.tables e below (T174.setTop (mkF m 66 #[.val (.int p0), .val (.int p1), .val (.int p2), .val (.ref b1), .val (.ref w_LESS), .val (.double (FP.i2d p1)), .second, .val (.double (FP.i2d p2)), .second, .unset] [(.ref w_GREATER_OR_EQUAL)])) t
      refine XS.astore X174.here hx rfl (hb hby at_66) rfl rfl (l' := #[.val (.int p0), .val (.int p1), .val (.int p2), .val (.ref b1), .val (.ref w_LESS), .val (.double (FP.i2d p1)), .second, .val (.double (FP.i2d p2)), .second, .val (.ref w_GREATER_OR_EQUAL)]) rfl ?_
      show Steps p.tables e below (T174.setTop (mkF m 68 #[.val (.int p0), .val (.int p1), .val (.int p2), .val (.ref b1), .val (.ref w_LESS), .val (.double (FP.i2d p1)), .second, .val (.double (FP.i2d p2)), .second, .val (.ref w_GREATER_OR_EQUAL)] [])) t
      refine XS.aload X174.here hx rfl (hb hby at_68) rfl rfl ?_
      show Steps p.tables e below (T174.setTop (mkF m 70 #[.val (.int p0), .val (.int p1), .val (.int p2), .val (.ref b1), .val (.ref w_LESS), .val (.double (FP.i2d p1)), .second, .val (.double (FP.i2d p2)), .second, .val (.ref w_GREATER_OR_EQUAL)] [(.ref w_GREATER_OR_EQUAL)])) t
      refine XS.ifnonnullYes X174.here hx rfl (pc0 := 70) (pc' := 75) rfl (hb hby at_70) rfl (by decide) (by decide) ?_
      show Steps p.tables e below (T174.setTop (mkF m 75 #[.val (.int p0), .val (.int p1), .val (.int p2), .val (.ref b1), .val (.ref w_LESS), .val (.double (FP.i2d p1)), .second, .val (.double (FP.i2d p2)), .second, .val (.ref w_GREATER_OR_EQUAL)] [])) t
      refine XS.aload X174.here hx rfl (hb hby at_75) rfl rfl ?_
      exact k
    obtain ⟨cq176, kq176, qa176, qb176, qc176⟩ := isOf hZ e174 f156
    obtain ⟨_, _, ⟨T176, L176, k176, n176⟩, -, X176, ⟨Lc176, hQ176, l176, y176, z176⟩, st176⟩ := X174.virtualBack hx (y := (⟨"com/example/meshwatch/meshwatch/Relation", "negated", "()Lcom/example/meshwatch/meshwatch/Relation;"⟩ : MethodName)) (z := (⟨"com/example/meshwatch/meshwatch/Relation", "negated", "()Lcom/example/meshwatch/meshwatch/Relation;"⟩ : MethodName)) hown (mvT hZ (hw _ (List.mem_of_getElem? (i := 17) rfl))) (mvT hZ (hw _ (List.mem_of_getElem? (i := 18) rfl))) (notFace_of_selects (args := #[]) (mvT hZ (hw _ (List.mem_of_getElem? (i := 20) rfl)))) (mvT hZ (hw _ (List.mem_of_getElem? (i := 20) rfl))) (mvT hZ (hw _ (List.mem_of_getElem? (i := 19) rfl))) (by decide) (backOf (W := 0) (rmn3 l Z ar hw [] w_GREATER_OR_EQUAL w_LESS h144 n0 z164 f156 f157 f146) hZ (hw _ (List.mem_of_getElem? (i := 21) rfl)) (hw _ (List.mem_of_getElem? (i := 3) rfl)) (by decide) (by decide)) qa176 qc176 (g := (mkF m 77 #[.val (.int p0), .val (.int p1), .val (.int p2), .val (.ref b1), .val (.ref w_LESS), .val (.double (FP.i2d p1)), .second, .val (.double (FP.i2d p2)), .second, .val (.ref w_GREATER_OR_EQUAL)] [(.ref w_GREATER_OR_EQUAL)])) rfl (by rw [hml]; rfl) (Steps.refl _) (argsL := []) (rest := []) (lenOf pd0_0 rfl) rfl (by show 2 * 0 + _ ≤ _; exact Nat.le_of_eq rfl) (hb hby at_77) (fun _ _ => ⟨rfl, e174, (by decide : 1 + 0 ≤ _), (by decide : 6 + 0 ≤ _)⟩)
    dsimp only [Pt.U, Pt.locs, Pt.cells, Pt.slots] at X176 l176 y176 z176 st176 hQ176
    subst l176 y176 z176
    obtain ⟨rfl, N176q, e176⟩ := hQ176
    have n177 := Fr.app n175 N176q
    refine own_tr (T' := T176) (g' := (mkF m 80 #[.val (.int p0), .val (.int p1), .val (.int p2), .val (.ref b1), .val (.ref w_LESS), .val (.double (FP.i2d p1)), .second, .val (.double (FP.i2d p2)), .second, .val (.ref w_GREATER_OR_EQUAL)] [(.ref w_LESS)])) st176 ?_
    refine own_st (T' := T176) (g' := (mkF m 95 #[.val (.int p0), .val (.int p1), .val (.int p2), .val (.ref b1), .val (.ref w_LESS), .val (.double (FP.i2d p1)), .second, .val (.double (FP.i2d p2)), .second, .val (.ref w_GREATER_OR_EQUAL)] [(.double (FP.i2d p2)), (.double (FP.i2d p1)), (.ref w_GREATER_OR_EQUAL), (.ref w_LESS)])) (fun t k => ?_) ?_
    · show Steps p.tables e below (T176.setTop (mkF m 80 #[.val (.int p0), .val (.int p1), .val (.int p2), .val (.ref b1), .val (.ref w_LESS), .val (.double (FP.i2d p1)), .second, .val (.double (FP.i2d p2)), .second, .val (.ref w_GREATER_OR_EQUAL)] [(.ref w_LESS)])) t
      refine XS.aload X176.here hx rfl (hb hby at_80) rfl rfl ?_
      show Steps p.tables e below (T176.setTop (mkF m 82 #[.val (.int p0), .val (.int p1), .val (.int p2), .val (.ref b1), .val (.ref w_LESS), .val (.double (FP.i2d p1)), .second, .val (.double (FP.i2d p2)), .second, .val (.ref w_GREATER_OR_EQUAL)] [(.ref w_LESS), (.ref w_LESS)])) t
      refine Jvm.RoadKit.acmp (g := (mkF m 82 #[.val (.int p0), .val (.int p1), .val (.int p2), .val (.ref b1), .val (.ref w_LESS), .val (.double (FP.i2d p1)), .second, .val (.double (FP.i2d p2)), .second, .val (.ref w_GREATER_OR_EQUAL)] [(.ref w_LESS), (.ref w_LESS)])) X176 hx rfl rfl rfl (pc0 := 82) (pc' := 87) (same := true) rfl (hb hby at_82) rfl (decide_eq_true rfl) (by decide) (by decide) ?_
      show Steps p.tables e below (T176.setTop (mkF m 87 #[.val (.int p0), .val (.int p1), .val (.int p2), .val (.ref b1), .val (.ref w_LESS), .val (.double (FP.i2d p1)), .second, .val (.double (FP.i2d p2)), .second, .val (.ref w_GREATER_OR_EQUAL)] [])) t
      refine XS.aload X176.here hx rfl (hb hby at_87) rfl rfl ?_
      show Steps p.tables e below (T176.setTop (mkF m 89 #[.val (.int p0), .val (.int p1), .val (.int p2), .val (.ref b1), .val (.ref w_LESS), .val (.double (FP.i2d p1)), .second, .val (.double (FP.i2d p2)), .second, .val (.ref w_GREATER_OR_EQUAL)] [(.ref w_LESS)])) t
      refine XS.aload X176.here hx rfl (hb hby at_89) rfl rfl ?_
      show Steps p.tables e below (T176.setTop (mkF m 91 #[.val (.int p0), .val (.int p1), .val (.int p2), .val (.ref b1), .val (.ref w_LESS), .val (.double (FP.i2d p1)), .second, .val (.double (FP.i2d p2)), .second, .val (.ref w_GREATER_OR_EQUAL)] [(.ref w_GREATER_OR_EQUAL), (.ref w_LESS)])) t
      refine XS.dload X176.here hx rfl (hb hby at_91) rfl ?_
      show Steps p.tables e below (T176.setTop (mkF m 93 #[.val (.int p0), .val (.int p1), .val (.int p2), .val (.ref b1), .val (.ref w_LESS), .val (.double (FP.i2d p1)), .second, .val (.double (FP.i2d p2)), .second, .val (.ref w_GREATER_OR_EQUAL)] [(.double (FP.i2d p1)), (.ref w_GREATER_OR_EQUAL), (.ref w_LESS)])) t
      refine XS.dload X176.here hx rfl (hb hby at_93) rfl ?_
      exact k
    obtain ⟨_, _, ⟨T178, L178, k178, n178⟩, -, X178, ⟨Lc178, hQ178, l178, y178, z178⟩, st178⟩ := Jvm.LawKit.callS X176 hx (y := (⟨"com/example/meshwatch/meshwatch/RelationNegatedPinLaw", "complement", "(Lcom/example/meshwatch/meshwatch/Relation;Lcom/example/meshwatch/meshwatch/Relation;DD)Z"⟩ : MethodName)) hown (mvT hZ (hw _ (List.mem_of_getElem? (i := 33) rfl))) (mvT hZ (hw _ (List.mem_of_getElem? (i := 34) rfl))) (mvT hZ (hw _ (List.mem_of_getElem? (i := 35) rfl))) (mvT hZ (hw _ (List.mem_of_getElem? (i := 36) rfl))) (by decide) (backOf (W := 0) (rmc0 l Z ar hw [] w_LESS w_GREATER_OR_EQUAL ((FP.i2d p1)) ((FP.i2d p2)) h144 n0 z164 f147 f148 f156 f157 (own_n0 (own_dy_i2d p1) (own_dy_i2d p2))) hZ (hw _ (List.mem_of_getElem? (i := 36) rfl)) (hw _ (List.mem_of_getElem? (i := 35) rfl)) (by decide) (by decide)) (g := (mkF m 95 #[.val (.int p0), .val (.int p1), .val (.int p2), .val (.ref b1), .val (.ref w_LESS), .val (.double (FP.i2d p1)), .second, .val (.double (FP.i2d p2)), .second, .val (.ref w_GREATER_OR_EQUAL)] [(.double (FP.i2d p2)), (.double (FP.i2d p1)), (.ref w_GREATER_OR_EQUAL), (.ref w_LESS)])) rfl (by rw [hml]; rfl) (argsL := [(.ref w_LESS), (.ref w_GREATER_OR_EQUAL), (.double (FP.i2d p1)), (.double (FP.i2d p2))]) (rest := []) (lenOf pd0_1 rfl) rfl (by show 2 * 0 + _ ≤ _; exact Nat.le_of_eq rfl) (hb hby at_95) (fun _ _ => ⟨rfl, e176, (by decide : 1 + 0 ≤ _), (by decide : 6 + 0 ≤ _)⟩)
    dsimp only [Pt.U, Pt.locs, Pt.cells, Pt.slots] at X178 l178 y178 z178 st178 hQ178
    subst l178 y178 z178
    obtain ⟨rfl, N178q, e178⟩ := hQ178
    have n179 := Fr.app n177 N178q
    refine own_st (T' := T178) (g' := (mkF m 98 #[.val (.int p0), .val (.int p1), .val (.int p2), .val (.ref b1), .val (.ref w_LESS), .val (.double (FP.i2d p1)), .second, .val (.double (FP.i2d p2)), .second, .val (.ref w_GREATER_OR_EQUAL)] [(.int (1 : Int32))])) st178 ?_
    refine own_st (T' := T178) (g' := (mkF m 109 #[.val (.int p0), .val (.int p1), .val (.int p2), .val (.ref b1), .val (.ref w_LESS), .val (.double (FP.i2d p1)), .second, .val (.double (FP.i2d p2)), .second, .val (.ref w_GREATER_OR_EQUAL)] [(.double (FP.i2d p1)), (.double (FP.i2d p1)), (.ref w_GREATER_OR_EQUAL), (.ref w_LESS)])) (fun t k => ?_) ?_
    · show Steps p.tables e below (T178.setTop (mkF m 98 #[.val (.int p0), .val (.int p1), .val (.int p2), .val (.ref b1), .val (.ref w_LESS), .val (.double (FP.i2d p1)), .second, .val (.double (FP.i2d p2)), .second, .val (.ref w_GREATER_OR_EQUAL)] [(.int (1 : Int32))])) t
      refine XS.ifNo X178.here hx rfl (hb hby at_98) rfl (by decide) ?_
      show Steps p.tables e below (T178.setTop (mkF m 101 #[.val (.int p0), .val (.int p1), .val (.int p2), .val (.ref b1), .val (.ref w_LESS), .val (.double (FP.i2d p1)), .second, .val (.double (FP.i2d p2)), .second, .val (.ref w_GREATER_OR_EQUAL)] [])) t
      refine XS.aload X178.here hx rfl (hb hby at_101) rfl rfl ?_
      show Steps p.tables e below (T178.setTop (mkF m 103 #[.val (.int p0), .val (.int p1), .val (.int p2), .val (.ref b1), .val (.ref w_LESS), .val (.double (FP.i2d p1)), .second, .val (.double (FP.i2d p2)), .second, .val (.ref w_GREATER_OR_EQUAL)] [(.ref w_LESS)])) t
      refine XS.aload X178.here hx rfl (hb hby at_103) rfl rfl ?_
      show Steps p.tables e below (T178.setTop (mkF m 105 #[.val (.int p0), .val (.int p1), .val (.int p2), .val (.ref b1), .val (.ref w_LESS), .val (.double (FP.i2d p1)), .second, .val (.double (FP.i2d p2)), .second, .val (.ref w_GREATER_OR_EQUAL)] [(.ref w_GREATER_OR_EQUAL), (.ref w_LESS)])) t
      refine XS.dload X178.here hx rfl (hb hby at_105) rfl ?_
      show Steps p.tables e below (T178.setTop (mkF m 107 #[.val (.int p0), .val (.int p1), .val (.int p2), .val (.ref b1), .val (.ref w_LESS), .val (.double (FP.i2d p1)), .second, .val (.double (FP.i2d p2)), .second, .val (.ref w_GREATER_OR_EQUAL)] [(.double (FP.i2d p1)), (.ref w_GREATER_OR_EQUAL), (.ref w_LESS)])) t
      refine XS.dload X178.here hx rfl (hb hby at_107) rfl ?_
      exact k
    obtain ⟨_, _, ⟨T180, L180, k180, n180⟩, -, X180, ⟨Lc180, hQ180, l180, y180, z180⟩, st180⟩ := Jvm.LawKit.callS X178 hx (y := (⟨"com/example/meshwatch/meshwatch/RelationNegatedPinLaw", "complement", "(Lcom/example/meshwatch/meshwatch/Relation;Lcom/example/meshwatch/meshwatch/Relation;DD)Z"⟩ : MethodName)) hown (mvT hZ (hw _ (List.mem_of_getElem? (i := 33) rfl))) (mvT hZ (hw _ (List.mem_of_getElem? (i := 34) rfl))) (mvT hZ (hw _ (List.mem_of_getElem? (i := 35) rfl))) (mvT hZ (hw _ (List.mem_of_getElem? (i := 36) rfl))) (by decide) (backOf (W := 0) (rmc0 l Z ar hw [] w_LESS w_GREATER_OR_EQUAL ((FP.i2d p1)) ((FP.i2d p1)) h144 n0 z164 f147 f148 f156 f157 (own_n0 (own_dy_i2d p1) (own_dy_i2d p1))) hZ (hw _ (List.mem_of_getElem? (i := 36) rfl)) (hw _ (List.mem_of_getElem? (i := 35) rfl)) (by decide) (by decide)) (g := (mkF m 109 #[.val (.int p0), .val (.int p1), .val (.int p2), .val (.ref b1), .val (.ref w_LESS), .val (.double (FP.i2d p1)), .second, .val (.double (FP.i2d p2)), .second, .val (.ref w_GREATER_OR_EQUAL)] [(.double (FP.i2d p1)), (.double (FP.i2d p1)), (.ref w_GREATER_OR_EQUAL), (.ref w_LESS)])) rfl (by rw [hml]; rfl) (argsL := [(.ref w_LESS), (.ref w_GREATER_OR_EQUAL), (.double (FP.i2d p1)), (.double (FP.i2d p1))]) (rest := []) (lenOf pd0_1 rfl) rfl (by show 2 * 0 + _ ≤ _; exact Nat.le_of_eq rfl) (hb hby at_109) (fun _ _ => ⟨rfl, e178, (by decide : 1 + 0 ≤ _), (by decide : 6 + 0 ≤ _)⟩)
    dsimp only [Pt.U, Pt.locs, Pt.cells, Pt.slots] at X180 l180 y180 z180 st180 hQ180
    subst l180 y180 z180
    obtain ⟨rfl, N180q, e180⟩ := hQ180
    have n181 := Fr.app n179 N180q
    refine own_st (T' := T180) (g' := (mkF m 112 #[.val (.int p0), .val (.int p1), .val (.int p2), .val (.ref b1), .val (.ref w_LESS), .val (.double (FP.i2d p1)), .second, .val (.double (FP.i2d p2)), .second, .val (.ref w_GREATER_OR_EQUAL)] [(.int (1 : Int32))])) st180 ?_
    refine own_st (T' := T180) (g' := (mkF m 123 #[.val (.int p0), .val (.int p1), .val (.int p2), .val (.ref b1), .val (.ref w_LESS), .val (.double (FP.i2d p1)), .second, .val (.double (FP.i2d p2)), .second, .val (.ref w_GREATER_OR_EQUAL)] [(.double (FP.i2d p1)), (.double (FP.i2d p2)), (.ref w_GREATER_OR_EQUAL), (.ref w_LESS)])) (fun t k => ?_) ?_
    · show Steps p.tables e below (T180.setTop (mkF m 112 #[.val (.int p0), .val (.int p1), .val (.int p2), .val (.ref b1), .val (.ref w_LESS), .val (.double (FP.i2d p1)), .second, .val (.double (FP.i2d p2)), .second, .val (.ref w_GREATER_OR_EQUAL)] [(.int (1 : Int32))])) t
      refine XS.ifNo X180.here hx rfl (hb hby at_112) rfl (by decide) ?_
      show Steps p.tables e below (T180.setTop (mkF m 115 #[.val (.int p0), .val (.int p1), .val (.int p2), .val (.ref b1), .val (.ref w_LESS), .val (.double (FP.i2d p1)), .second, .val (.double (FP.i2d p2)), .second, .val (.ref w_GREATER_OR_EQUAL)] [])) t
      refine XS.aload X180.here hx rfl (hb hby at_115) rfl rfl ?_
      show Steps p.tables e below (T180.setTop (mkF m 117 #[.val (.int p0), .val (.int p1), .val (.int p2), .val (.ref b1), .val (.ref w_LESS), .val (.double (FP.i2d p1)), .second, .val (.double (FP.i2d p2)), .second, .val (.ref w_GREATER_OR_EQUAL)] [(.ref w_LESS)])) t
      refine XS.aload X180.here hx rfl (hb hby at_117) rfl rfl ?_
      show Steps p.tables e below (T180.setTop (mkF m 119 #[.val (.int p0), .val (.int p1), .val (.int p2), .val (.ref b1), .val (.ref w_LESS), .val (.double (FP.i2d p1)), .second, .val (.double (FP.i2d p2)), .second, .val (.ref w_GREATER_OR_EQUAL)] [(.ref w_GREATER_OR_EQUAL), (.ref w_LESS)])) t
      refine XS.dload X180.here hx rfl (hb hby at_119) rfl ?_
      show Steps p.tables e below (T180.setTop (mkF m 121 #[.val (.int p0), .val (.int p1), .val (.int p2), .val (.ref b1), .val (.ref w_LESS), .val (.double (FP.i2d p1)), .second, .val (.double (FP.i2d p2)), .second, .val (.ref w_GREATER_OR_EQUAL)] [(.double (FP.i2d p2)), (.ref w_GREATER_OR_EQUAL), (.ref w_LESS)])) t
      refine XS.dload X180.here hx rfl (hb hby at_121) rfl ?_
      exact k
    obtain ⟨_, _, ⟨T182, L182, k182, n182⟩, -, X182, ⟨Lc182, hQ182, l182, y182, z182⟩, st182⟩ := Jvm.LawKit.callS X180 hx (y := (⟨"com/example/meshwatch/meshwatch/RelationNegatedPinLaw", "complement", "(Lcom/example/meshwatch/meshwatch/Relation;Lcom/example/meshwatch/meshwatch/Relation;DD)Z"⟩ : MethodName)) hown (mvT hZ (hw _ (List.mem_of_getElem? (i := 33) rfl))) (mvT hZ (hw _ (List.mem_of_getElem? (i := 34) rfl))) (mvT hZ (hw _ (List.mem_of_getElem? (i := 35) rfl))) (mvT hZ (hw _ (List.mem_of_getElem? (i := 36) rfl))) (by decide) (backOf (W := 0) (rmc0 l Z ar hw [] w_LESS w_GREATER_OR_EQUAL ((FP.i2d p2)) ((FP.i2d p1)) h144 n0 z164 f147 f148 f156 f157 (own_n0 (own_dy_i2d p2) (own_dy_i2d p1))) hZ (hw _ (List.mem_of_getElem? (i := 36) rfl)) (hw _ (List.mem_of_getElem? (i := 35) rfl)) (by decide) (by decide)) (g := (mkF m 123 #[.val (.int p0), .val (.int p1), .val (.int p2), .val (.ref b1), .val (.ref w_LESS), .val (.double (FP.i2d p1)), .second, .val (.double (FP.i2d p2)), .second, .val (.ref w_GREATER_OR_EQUAL)] [(.double (FP.i2d p1)), (.double (FP.i2d p2)), (.ref w_GREATER_OR_EQUAL), (.ref w_LESS)])) rfl (by rw [hml]; rfl) (argsL := [(.ref w_LESS), (.ref w_GREATER_OR_EQUAL), (.double (FP.i2d p2)), (.double (FP.i2d p1))]) (rest := []) (lenOf pd0_1 rfl) rfl (by show 2 * 0 + _ ≤ _; exact Nat.le_of_eq rfl) (hb hby at_123) (fun _ _ => ⟨rfl, e180, (by decide : 1 + 0 ≤ _), (by decide : 6 + 0 ≤ _)⟩)
    dsimp only [Pt.U, Pt.locs, Pt.cells, Pt.slots] at X182 l182 y182 z182 st182 hQ182
    subst l182 y182 z182
    obtain ⟨rfl, N182q, e182⟩ := hQ182
    have n183 := Fr.app n181 N182q
    refine own_st (T' := T182) (g' := (mkF m 126 #[.val (.int p0), .val (.int p1), .val (.int p2), .val (.ref b1), .val (.ref w_LESS), .val (.double (FP.i2d p1)), .second, .val (.double (FP.i2d p2)), .second, .val (.ref w_GREATER_OR_EQUAL)] [(.int (1 : Int32))])) st182 ?_
    refine own_st (T' := T182) (g' := (mkF m 134 #[.val (.int p0), .val (.int p1), .val (.int p2), .val (.ref b1), .val (.ref w_LESS), .val (.double (FP.i2d p1)), .second, .val (.double (FP.i2d p2)), .second, .val (.ref w_GREATER_OR_EQUAL)] [(.int (1 : Int32))])) (fun t k => ?_) ?_
    · show Steps p.tables e below (T182.setTop (mkF m 126 #[.val (.int p0), .val (.int p1), .val (.int p2), .val (.ref b1), .val (.ref w_LESS), .val (.double (FP.i2d p1)), .second, .val (.double (FP.i2d p2)), .second, .val (.ref w_GREATER_OR_EQUAL)] [(.int (1 : Int32))])) t
      refine XS.ifNo X182.here hx rfl (hb hby at_126) rfl (by decide) ?_
      show Steps p.tables e below (T182.setTop (mkF m 129 #[.val (.int p0), .val (.int p1), .val (.int p2), .val (.ref b1), .val (.ref w_LESS), .val (.double (FP.i2d p1)), .second, .val (.double (FP.i2d p2)), .second, .val (.ref w_GREATER_OR_EQUAL)] [])) t
      refine XS.iconst X182.here hx rfl (hb hby at_129) ?_
      show Steps p.tables e below (T182.setTop (mkF m 130 #[.val (.int p0), .val (.int p1), .val (.int p2), .val (.ref b1), .val (.ref w_LESS), .val (.double (FP.i2d p1)), .second, .val (.double (FP.i2d p2)), .second, .val (.ref w_GREATER_OR_EQUAL)] [(.int (1 : Int32))])) t
      refine XS.goto X182.here hx rfl (pc0 := 130) (pc' := 134) rfl (hb hby at_130) (by decide) (by decide) ?_
      exact k
    refine own_retZ X182 hx hlk Bd.returns (hb hby at_134) rfl (by decide) (by decide) ?_
    show Q0 Z p0 p1 p2 w_LESS w_LESS_OR_EQUAL w_GREATER w_GREATER_OR_EQUAL w_EQUAL w_NOT_EQUAL h0 n0 (some (.int (1 : Int32))) T182.heap _
    rw [(e182 : T182.heap = h144)]
    exact ⟨rfl, n183⟩
  · rw [hk50_168]
    obtain ⟨c184, r184a, r184b, r184c, r184d, r184e, r184f⟩ := v145
    have i184 : ¬ ((1 : Int32) < 0 ∨ c184.slots.size ≤ ((1 : Int32)).toNatClampNeg) := inb_of r184c ⟨by decide, by decide⟩
    have y184 : c184.slots[((1 : Int32)).toNatClampNeg]? = some (.ref w_LESS_OR_EQUAL) := r184e.at i184 rfl
    refine own_st (T' := T144) (g' := (mkF m 63 #[.val (.int p0), .val (.int p1), .val (.int p2), .val (.ref b1), .val (.ref w_LESS_OR_EQUAL), .val (.double (FP.i2d p1)), .second, .val (.double (FP.i2d p2)), .second, .unset] [(.ref w_LESS_OR_EQUAL)])) (fun t k => ?_) ?_
    · show Steps p.tables e below (T144.setTop (mkF m 50 #[.val (.int p0), .val (.int p1), .val (.int p2), .val (.ref b1), .unset, .unset, .unset, .unset, .unset, .unset] [(.int (1 : Int32)), (.ref b1)])) t
      refine X144.aaload hx (j := (1 : Int32)) (v := (.ref w_LESS_OR_EQUAL)) (by rw [e144]; exact r184a.1) (State.isArrayOf_alike hZ.alike r184a.2.1) rfl r184a.2.2 i184 y184 (g := (mkF m 50 #[.val (.int p0), .val (.int p1), .val (.int p2), .val (.ref b1), .unset, .unset, .unset, .unset, .unset, .unset] [(.int (1 : Int32)), (.ref b1)])) rfl rfl (hb hby at_50) _ ?_
      show Steps p.tables e below (T144.setTop (mkF m 51 #[.val (.int p0), .val (.int p1), .val (.int p2), .val (.ref b1), .unset, .unset, .unset, .unset, .unset, .unset] [(.ref w_LESS_OR_EQUAL)])) t
      refine XS.astore X144.here hx rfl (hb hby at_51) rfl rfl (l' := #[.val (.int p0), .val (.int p1), .val (.int p2), .val (.ref b1), .val (.ref w_LESS_OR_EQUAL), .unset, .unset, .unset, .unset, .unset]) rfl ?_
      show Steps p.tables e below (T144.setTop (mkF m 53 #[.val (.int p0), .val (.int p1), .val (.int p2), .val (.ref b1), .val (.ref w_LESS_OR_EQUAL), .unset, .unset, .unset, .unset, .unset] [])) t
      refine XS.iloadN X144.here hx rfl (hb hby at_53) rfl ?_
      show Steps p.tables e below (T144.setTop (mkF m 54 #[.val (.int p0), .val (.int p1), .val (.int p2), .val (.ref b1), .val (.ref w_LESS_OR_EQUAL), .unset, .unset, .unset, .unset, .unset] [(.int p1)])) t
      refine XS.i2dS X144.here hx rfl (hb hby at_54) rfl rfl ?_
      show Steps p.tables e below (T144.setTop (mkF m 55 #[.val (.int p0), .val (.int p1), .val (.int p2), .val (.ref b1), .val (.ref w_LESS_OR_EQUAL), .unset, .unset, .unset, .unset, .unset] [(.double (FP.i2d p1))])) t
      refine XS.dstore X144.here hx rfl (hb hby at_55) rfl (l' := #[.val (.int p0), .val (.int p1), .val (.int p2), .val (.ref b1), .val (.ref w_LESS_OR_EQUAL), .val (.double (FP.i2d p1)), .second, .unset, .unset, .unset]) rfl ?_
      show Steps p.tables e below (T144.setTop (mkF m 57 #[.val (.int p0), .val (.int p1), .val (.int p2), .val (.ref b1), .val (.ref w_LESS_OR_EQUAL), .val (.double (FP.i2d p1)), .second, .unset, .unset, .unset] [])) t
      refine XS.iloadN X144.here hx rfl (hb hby at_57) rfl ?_
      show Steps p.tables e below (T144.setTop (mkF m 58 #[.val (.int p0), .val (.int p1), .val (.int p2), .val (.ref b1), .val (.ref w_LESS_OR_EQUAL), .val (.double (FP.i2d p1)), .second, .unset, .unset, .unset] [(.int p2)])) t
      refine XS.i2dS X144.here hx rfl (hb hby at_58) rfl rfl ?_
      show Steps p.tables e below (T144.setTop (mkF m 59 #[.val (.int p0), .val (.int p1), .val (.int p2), .val (.ref b1), .val (.ref w_LESS_OR_EQUAL), .val (.double (FP.i2d p1)), .second, .unset, .unset, .unset] [(.double (FP.i2d p2))])) t
      refine XS.dstore X144.here hx rfl (hb hby at_59) rfl (l' := #[.val (.int p0), .val (.int p1), .val (.int p2), .val (.ref b1), .val (.ref w_LESS_OR_EQUAL), .val (.double (FP.i2d p1)), .second, .val (.double (FP.i2d p2)), .second, .unset]) rfl ?_
      show Steps p.tables e below (T144.setTop (mkF m 61 #[.val (.int p0), .val (.int p1), .val (.int p2), .val (.ref b1), .val (.ref w_LESS_OR_EQUAL), .val (.double (FP.i2d p1)), .second, .val (.double (FP.i2d p2)), .second, .unset] [])) t
      refine XS.aload X144.here hx rfl (hb hby at_61) rfl rfl ?_
      exact k
    obtain ⟨cq185, kq185, qa185, qb185, qc185⟩ := isOf hZ e144 f150
    obtain ⟨_, _, ⟨T185, L185, k185, n185⟩, -, X185, ⟨Lc185, hQ185, l185, y185, z185⟩, st185⟩ := X144.virtualBack hx (y := (⟨"com/example/meshwatch/meshwatch/Relation", "negated", "()Lcom/example/meshwatch/meshwatch/Relation;"⟩ : MethodName)) (z := (⟨"com/example/meshwatch/meshwatch/Relation", "negated", "()Lcom/example/meshwatch/meshwatch/Relation;"⟩ : MethodName)) hown (mvT hZ (hw _ (List.mem_of_getElem? (i := 17) rfl))) (mvT hZ (hw _ (List.mem_of_getElem? (i := 18) rfl))) (notFace_of_selects (args := #[]) (mvT hZ (hw _ (List.mem_of_getElem? (i := 20) rfl)))) (mvT hZ (hw _ (List.mem_of_getElem? (i := 20) rfl))) (mvT hZ (hw _ (List.mem_of_getElem? (i := 19) rfl))) (by decide) (backOf (W := 0) (rmn1 l Z ar hw [] w_LESS_OR_EQUAL w_GREATER h144 n0 z164 f150 f151 f152) hZ (hw _ (List.mem_of_getElem? (i := 21) rfl)) (hw _ (List.mem_of_getElem? (i := 3) rfl)) (by decide) (by decide)) qa185 qc185 (g := (mkF m 63 #[.val (.int p0), .val (.int p1), .val (.int p2), .val (.ref b1), .val (.ref w_LESS_OR_EQUAL), .val (.double (FP.i2d p1)), .second, .val (.double (FP.i2d p2)), .second, .unset] [(.ref w_LESS_OR_EQUAL)])) rfl (by rw [hml]; rfl) (Steps.refl _) (argsL := []) (rest := []) (lenOf pd0_0 rfl) rfl (by show 2 * 0 + _ ≤ _; exact Nat.le_of_eq rfl) (hb hby at_63) (fun _ _ => ⟨rfl, e144, (by decide : 1 + 0 ≤ _), (by decide : 6 + 0 ≤ _)⟩)
    dsimp only [Pt.U, Pt.locs, Pt.cells, Pt.slots] at X185 l185 y185 z185 st185 hQ185
    subst l185 y185 z185
    obtain ⟨rfl, N185q, e185⟩ := hQ185
    have n186 := Fr.app n166 N185q
    refine own_tr (T' := T185) (g' := (mkF m 66 #[.val (.int p0), .val (.int p1), .val (.int p2), .val (.ref b1), .val (.ref w_LESS_OR_EQUAL), .val (.double (FP.i2d p1)), .second, .val (.double (FP.i2d p2)), .second, .unset] [(.ref w_GREATER)])) st185 ?_
    refine own_st (T' := T185) (g' := (mkF m 77 #[.val (.int p0), .val (.int p1), .val (.int p2), .val (.ref b1), .val (.ref w_LESS_OR_EQUAL), .val (.double (FP.i2d p1)), .second, .val (.double (FP.i2d p2)), .second, .val (.ref w_GREATER)] [(.ref w_GREATER)])) (fun t k => ?_) ?_
    · show Steps p.tables e below (T185.setTop (mkF m 66 #[.val (.int p0), .val (.int p1), .val (.int p2), .val (.ref b1), .val (.ref w_LESS_OR_EQUAL), .val (.double (FP.i2d p1)), .second, .val (.double (FP.i2d p2)), .second, .unset] [(.ref w_GREATER)])) t
      refine XS.astore X185.here hx rfl (hb hby at_66) rfl rfl (l' := #[.val (.int p0), .val (.int p1), .val (.int p2), .val (.ref b1), .val (.ref w_LESS_OR_EQUAL), .val (.double (FP.i2d p1)), .second, .val (.double (FP.i2d p2)), .second, .val (.ref w_GREATER)]) rfl ?_
      show Steps p.tables e below (T185.setTop (mkF m 68 #[.val (.int p0), .val (.int p1), .val (.int p2), .val (.ref b1), .val (.ref w_LESS_OR_EQUAL), .val (.double (FP.i2d p1)), .second, .val (.double (FP.i2d p2)), .second, .val (.ref w_GREATER)] [])) t
      refine XS.aload X185.here hx rfl (hb hby at_68) rfl rfl ?_
      show Steps p.tables e below (T185.setTop (mkF m 70 #[.val (.int p0), .val (.int p1), .val (.int p2), .val (.ref b1), .val (.ref w_LESS_OR_EQUAL), .val (.double (FP.i2d p1)), .second, .val (.double (FP.i2d p2)), .second, .val (.ref w_GREATER)] [(.ref w_GREATER)])) t
      refine XS.ifnonnullYes X185.here hx rfl (pc0 := 70) (pc' := 75) rfl (hb hby at_70) rfl (by decide) (by decide) ?_
      show Steps p.tables e below (T185.setTop (mkF m 75 #[.val (.int p0), .val (.int p1), .val (.int p2), .val (.ref b1), .val (.ref w_LESS_OR_EQUAL), .val (.double (FP.i2d p1)), .second, .val (.double (FP.i2d p2)), .second, .val (.ref w_GREATER)] [])) t
      refine XS.aload X185.here hx rfl (hb hby at_75) rfl rfl ?_
      exact k
    obtain ⟨cq187, kq187, qa187, qb187, qc187⟩ := isOf hZ e185 f153
    obtain ⟨_, _, ⟨T187, L187, k187, n187⟩, -, X187, ⟨Lc187, hQ187, l187, y187, z187⟩, st187⟩ := X185.virtualBack hx (y := (⟨"com/example/meshwatch/meshwatch/Relation", "negated", "()Lcom/example/meshwatch/meshwatch/Relation;"⟩ : MethodName)) (z := (⟨"com/example/meshwatch/meshwatch/Relation", "negated", "()Lcom/example/meshwatch/meshwatch/Relation;"⟩ : MethodName)) hown (mvT hZ (hw _ (List.mem_of_getElem? (i := 17) rfl))) (mvT hZ (hw _ (List.mem_of_getElem? (i := 18) rfl))) (notFace_of_selects (args := #[]) (mvT hZ (hw _ (List.mem_of_getElem? (i := 20) rfl)))) (mvT hZ (hw _ (List.mem_of_getElem? (i := 20) rfl))) (mvT hZ (hw _ (List.mem_of_getElem? (i := 19) rfl))) (by decide) (backOf (W := 0) (rmn2 l Z ar hw [] w_GREATER w_LESS_OR_EQUAL h144 n0 z164 f153 f154 f149) hZ (hw _ (List.mem_of_getElem? (i := 21) rfl)) (hw _ (List.mem_of_getElem? (i := 3) rfl)) (by decide) (by decide)) qa187 qc187 (g := (mkF m 77 #[.val (.int p0), .val (.int p1), .val (.int p2), .val (.ref b1), .val (.ref w_LESS_OR_EQUAL), .val (.double (FP.i2d p1)), .second, .val (.double (FP.i2d p2)), .second, .val (.ref w_GREATER)] [(.ref w_GREATER)])) rfl (by rw [hml]; rfl) (Steps.refl _) (argsL := []) (rest := []) (lenOf pd0_0 rfl) rfl (by show 2 * 0 + _ ≤ _; exact Nat.le_of_eq rfl) (hb hby at_77) (fun _ _ => ⟨rfl, e185, (by decide : 1 + 0 ≤ _), (by decide : 6 + 0 ≤ _)⟩)
    dsimp only [Pt.U, Pt.locs, Pt.cells, Pt.slots] at X187 l187 y187 z187 st187 hQ187
    subst l187 y187 z187
    obtain ⟨rfl, N187q, e187⟩ := hQ187
    have n188 := Fr.app n186 N187q
    refine own_tr (T' := T187) (g' := (mkF m 80 #[.val (.int p0), .val (.int p1), .val (.int p2), .val (.ref b1), .val (.ref w_LESS_OR_EQUAL), .val (.double (FP.i2d p1)), .second, .val (.double (FP.i2d p2)), .second, .val (.ref w_GREATER)] [(.ref w_LESS_OR_EQUAL)])) st187 ?_
    refine own_st (T' := T187) (g' := (mkF m 95 #[.val (.int p0), .val (.int p1), .val (.int p2), .val (.ref b1), .val (.ref w_LESS_OR_EQUAL), .val (.double (FP.i2d p1)), .second, .val (.double (FP.i2d p2)), .second, .val (.ref w_GREATER)] [(.double (FP.i2d p2)), (.double (FP.i2d p1)), (.ref w_GREATER), (.ref w_LESS_OR_EQUAL)])) (fun t k => ?_) ?_
    · show Steps p.tables e below (T187.setTop (mkF m 80 #[.val (.int p0), .val (.int p1), .val (.int p2), .val (.ref b1), .val (.ref w_LESS_OR_EQUAL), .val (.double (FP.i2d p1)), .second, .val (.double (FP.i2d p2)), .second, .val (.ref w_GREATER)] [(.ref w_LESS_OR_EQUAL)])) t
      refine XS.aload X187.here hx rfl (hb hby at_80) rfl rfl ?_
      show Steps p.tables e below (T187.setTop (mkF m 82 #[.val (.int p0), .val (.int p1), .val (.int p2), .val (.ref b1), .val (.ref w_LESS_OR_EQUAL), .val (.double (FP.i2d p1)), .second, .val (.double (FP.i2d p2)), .second, .val (.ref w_GREATER)] [(.ref w_LESS_OR_EQUAL), (.ref w_LESS_OR_EQUAL)])) t
      refine Jvm.RoadKit.acmp (g := (mkF m 82 #[.val (.int p0), .val (.int p1), .val (.int p2), .val (.ref b1), .val (.ref w_LESS_OR_EQUAL), .val (.double (FP.i2d p1)), .second, .val (.double (FP.i2d p2)), .second, .val (.ref w_GREATER)] [(.ref w_LESS_OR_EQUAL), (.ref w_LESS_OR_EQUAL)])) X187 hx rfl rfl rfl (pc0 := 82) (pc' := 87) (same := true) rfl (hb hby at_82) rfl (decide_eq_true rfl) (by decide) (by decide) ?_
      show Steps p.tables e below (T187.setTop (mkF m 87 #[.val (.int p0), .val (.int p1), .val (.int p2), .val (.ref b1), .val (.ref w_LESS_OR_EQUAL), .val (.double (FP.i2d p1)), .second, .val (.double (FP.i2d p2)), .second, .val (.ref w_GREATER)] [])) t
      refine XS.aload X187.here hx rfl (hb hby at_87) rfl rfl ?_
      show Steps p.tables e below (T187.setTop (mkF m 89 #[.val (.int p0), .val (.int p1), .val (.int p2), .val (.ref b1), .val (.ref w_LESS_OR_EQUAL), .val (.double (FP.i2d p1)), .second, .val (.double (FP.i2d p2)), .second, .val (.ref w_GREATER)] [(.ref w_LESS_OR_EQUAL)])) t
      refine XS.aload X187.here hx rfl (hb hby at_89) rfl rfl ?_
      show Steps p.tables e below (T187.setTop (mkF m 91 #[.val (.int p0), .val (.int p1), .val (.int p2), .val (.ref b1), .val (.ref w_LESS_OR_EQUAL), .val (.double (FP.i2d p1)), .second, .val (.double (FP.i2d p2)), .second, .val (.ref w_GREATER)] [(.ref w_GREATER), (.ref w_LESS_OR_EQUAL)])) t
      refine XS.dload X187.here hx rfl (hb hby at_91) rfl ?_
      show Steps p.tables e below (T187.setTop (mkF m 93 #[.val (.int p0), .val (.int p1), .val (.int p2), .val (.ref b1), .val (.ref w_LESS_OR_EQUAL), .val (.double (FP.i2d p1)), .second, .val (.double (FP.i2d p2)), .second, .val (.ref w_GREATER)] [(.double (FP.i2d p1)), (.ref w_GREATER), (.ref w_LESS_OR_EQUAL)])) t
      refine XS.dload X187.here hx rfl (hb hby at_93) rfl ?_
      exact k
    obtain ⟨_, _, ⟨T189, L189, k189, n189⟩, -, X189, ⟨Lc189, hQ189, l189, y189, z189⟩, st189⟩ := Jvm.LawKit.callS X187 hx (y := (⟨"com/example/meshwatch/meshwatch/RelationNegatedPinLaw", "complement", "(Lcom/example/meshwatch/meshwatch/Relation;Lcom/example/meshwatch/meshwatch/Relation;DD)Z"⟩ : MethodName)) hown (mvT hZ (hw _ (List.mem_of_getElem? (i := 33) rfl))) (mvT hZ (hw _ (List.mem_of_getElem? (i := 34) rfl))) (mvT hZ (hw _ (List.mem_of_getElem? (i := 35) rfl))) (mvT hZ (hw _ (List.mem_of_getElem? (i := 36) rfl))) (by decide) (backOf (W := 0) (rmc1 l Z ar hw [] w_LESS_OR_EQUAL w_GREATER ((FP.i2d p1)) ((FP.i2d p2)) h144 n0 z164 f150 f151 f153 f154 (own_n1 (own_dy_i2d p1) (own_dy_i2d p2))) hZ (hw _ (List.mem_of_getElem? (i := 36) rfl)) (hw _ (List.mem_of_getElem? (i := 35) rfl)) (by decide) (by decide)) (g := (mkF m 95 #[.val (.int p0), .val (.int p1), .val (.int p2), .val (.ref b1), .val (.ref w_LESS_OR_EQUAL), .val (.double (FP.i2d p1)), .second, .val (.double (FP.i2d p2)), .second, .val (.ref w_GREATER)] [(.double (FP.i2d p2)), (.double (FP.i2d p1)), (.ref w_GREATER), (.ref w_LESS_OR_EQUAL)])) rfl (by rw [hml]; rfl) (argsL := [(.ref w_LESS_OR_EQUAL), (.ref w_GREATER), (.double (FP.i2d p1)), (.double (FP.i2d p2))]) (rest := []) (lenOf pd0_1 rfl) rfl (by show 2 * 0 + _ ≤ _; exact Nat.le_of_eq rfl) (hb hby at_95) (fun _ _ => ⟨rfl, e187, (by decide : 1 + 0 ≤ _), (by decide : 6 + 0 ≤ _)⟩)
    dsimp only [Pt.U, Pt.locs, Pt.cells, Pt.slots] at X189 l189 y189 z189 st189 hQ189
    subst l189 y189 z189
    obtain ⟨rfl, N189q, e189⟩ := hQ189
    have n190 := Fr.app n188 N189q
    refine own_st (T' := T189) (g' := (mkF m 98 #[.val (.int p0), .val (.int p1), .val (.int p2), .val (.ref b1), .val (.ref w_LESS_OR_EQUAL), .val (.double (FP.i2d p1)), .second, .val (.double (FP.i2d p2)), .second, .val (.ref w_GREATER)] [(.int (1 : Int32))])) st189 ?_
    refine own_st (T' := T189) (g' := (mkF m 109 #[.val (.int p0), .val (.int p1), .val (.int p2), .val (.ref b1), .val (.ref w_LESS_OR_EQUAL), .val (.double (FP.i2d p1)), .second, .val (.double (FP.i2d p2)), .second, .val (.ref w_GREATER)] [(.double (FP.i2d p1)), (.double (FP.i2d p1)), (.ref w_GREATER), (.ref w_LESS_OR_EQUAL)])) (fun t k => ?_) ?_
    · show Steps p.tables e below (T189.setTop (mkF m 98 #[.val (.int p0), .val (.int p1), .val (.int p2), .val (.ref b1), .val (.ref w_LESS_OR_EQUAL), .val (.double (FP.i2d p1)), .second, .val (.double (FP.i2d p2)), .second, .val (.ref w_GREATER)] [(.int (1 : Int32))])) t
      refine XS.ifNo X189.here hx rfl (hb hby at_98) rfl (by decide) ?_
      show Steps p.tables e below (T189.setTop (mkF m 101 #[.val (.int p0), .val (.int p1), .val (.int p2), .val (.ref b1), .val (.ref w_LESS_OR_EQUAL), .val (.double (FP.i2d p1)), .second, .val (.double (FP.i2d p2)), .second, .val (.ref w_GREATER)] [])) t
      refine XS.aload X189.here hx rfl (hb hby at_101) rfl rfl ?_
      show Steps p.tables e below (T189.setTop (mkF m 103 #[.val (.int p0), .val (.int p1), .val (.int p2), .val (.ref b1), .val (.ref w_LESS_OR_EQUAL), .val (.double (FP.i2d p1)), .second, .val (.double (FP.i2d p2)), .second, .val (.ref w_GREATER)] [(.ref w_LESS_OR_EQUAL)])) t
      refine XS.aload X189.here hx rfl (hb hby at_103) rfl rfl ?_
      show Steps p.tables e below (T189.setTop (mkF m 105 #[.val (.int p0), .val (.int p1), .val (.int p2), .val (.ref b1), .val (.ref w_LESS_OR_EQUAL), .val (.double (FP.i2d p1)), .second, .val (.double (FP.i2d p2)), .second, .val (.ref w_GREATER)] [(.ref w_GREATER), (.ref w_LESS_OR_EQUAL)])) t
      refine XS.dload X189.here hx rfl (hb hby at_105) rfl ?_
      show Steps p.tables e below (T189.setTop (mkF m 107 #[.val (.int p0), .val (.int p1), .val (.int p2), .val (.ref b1), .val (.ref w_LESS_OR_EQUAL), .val (.double (FP.i2d p1)), .second, .val (.double (FP.i2d p2)), .second, .val (.ref w_GREATER)] [(.double (FP.i2d p1)), (.ref w_GREATER), (.ref w_LESS_OR_EQUAL)])) t
      refine XS.dload X189.here hx rfl (hb hby at_107) rfl ?_
      exact k
    obtain ⟨_, _, ⟨T191, L191, k191, n191⟩, -, X191, ⟨Lc191, hQ191, l191, y191, z191⟩, st191⟩ := Jvm.LawKit.callS X189 hx (y := (⟨"com/example/meshwatch/meshwatch/RelationNegatedPinLaw", "complement", "(Lcom/example/meshwatch/meshwatch/Relation;Lcom/example/meshwatch/meshwatch/Relation;DD)Z"⟩ : MethodName)) hown (mvT hZ (hw _ (List.mem_of_getElem? (i := 33) rfl))) (mvT hZ (hw _ (List.mem_of_getElem? (i := 34) rfl))) (mvT hZ (hw _ (List.mem_of_getElem? (i := 35) rfl))) (mvT hZ (hw _ (List.mem_of_getElem? (i := 36) rfl))) (by decide) (backOf (W := 0) (rmc1 l Z ar hw [] w_LESS_OR_EQUAL w_GREATER ((FP.i2d p1)) ((FP.i2d p1)) h144 n0 z164 f150 f151 f153 f154 (own_n1 (own_dy_i2d p1) (own_dy_i2d p1))) hZ (hw _ (List.mem_of_getElem? (i := 36) rfl)) (hw _ (List.mem_of_getElem? (i := 35) rfl)) (by decide) (by decide)) (g := (mkF m 109 #[.val (.int p0), .val (.int p1), .val (.int p2), .val (.ref b1), .val (.ref w_LESS_OR_EQUAL), .val (.double (FP.i2d p1)), .second, .val (.double (FP.i2d p2)), .second, .val (.ref w_GREATER)] [(.double (FP.i2d p1)), (.double (FP.i2d p1)), (.ref w_GREATER), (.ref w_LESS_OR_EQUAL)])) rfl (by rw [hml]; rfl) (argsL := [(.ref w_LESS_OR_EQUAL), (.ref w_GREATER), (.double (FP.i2d p1)), (.double (FP.i2d p1))]) (rest := []) (lenOf pd0_1 rfl) rfl (by show 2 * 0 + _ ≤ _; exact Nat.le_of_eq rfl) (hb hby at_109) (fun _ _ => ⟨rfl, e189, (by decide : 1 + 0 ≤ _), (by decide : 6 + 0 ≤ _)⟩)
    dsimp only [Pt.U, Pt.locs, Pt.cells, Pt.slots] at X191 l191 y191 z191 st191 hQ191
    subst l191 y191 z191
    obtain ⟨rfl, N191q, e191⟩ := hQ191
    have n192 := Fr.app n190 N191q
    refine own_st (T' := T191) (g' := (mkF m 112 #[.val (.int p0), .val (.int p1), .val (.int p2), .val (.ref b1), .val (.ref w_LESS_OR_EQUAL), .val (.double (FP.i2d p1)), .second, .val (.double (FP.i2d p2)), .second, .val (.ref w_GREATER)] [(.int (1 : Int32))])) st191 ?_
    refine own_st (T' := T191) (g' := (mkF m 123 #[.val (.int p0), .val (.int p1), .val (.int p2), .val (.ref b1), .val (.ref w_LESS_OR_EQUAL), .val (.double (FP.i2d p1)), .second, .val (.double (FP.i2d p2)), .second, .val (.ref w_GREATER)] [(.double (FP.i2d p1)), (.double (FP.i2d p2)), (.ref w_GREATER), (.ref w_LESS_OR_EQUAL)])) (fun t k => ?_) ?_
    · show Steps p.tables e below (T191.setTop (mkF m 112 #[.val (.int p0), .val (.int p1), .val (.int p2), .val (.ref b1), .val (.ref w_LESS_OR_EQUAL), .val (.double (FP.i2d p1)), .second, .val (.double (FP.i2d p2)), .second, .val (.ref w_GREATER)] [(.int (1 : Int32))])) t
      refine XS.ifNo X191.here hx rfl (hb hby at_112) rfl (by decide) ?_
      show Steps p.tables e below (T191.setTop (mkF m 115 #[.val (.int p0), .val (.int p1), .val (.int p2), .val (.ref b1), .val (.ref w_LESS_OR_EQUAL), .val (.double (FP.i2d p1)), .second, .val (.double (FP.i2d p2)), .second, .val (.ref w_GREATER)] [])) t
      refine XS.aload X191.here hx rfl (hb hby at_115) rfl rfl ?_
      show Steps p.tables e below (T191.setTop (mkF m 117 #[.val (.int p0), .val (.int p1), .val (.int p2), .val (.ref b1), .val (.ref w_LESS_OR_EQUAL), .val (.double (FP.i2d p1)), .second, .val (.double (FP.i2d p2)), .second, .val (.ref w_GREATER)] [(.ref w_LESS_OR_EQUAL)])) t
      refine XS.aload X191.here hx rfl (hb hby at_117) rfl rfl ?_
      show Steps p.tables e below (T191.setTop (mkF m 119 #[.val (.int p0), .val (.int p1), .val (.int p2), .val (.ref b1), .val (.ref w_LESS_OR_EQUAL), .val (.double (FP.i2d p1)), .second, .val (.double (FP.i2d p2)), .second, .val (.ref w_GREATER)] [(.ref w_GREATER), (.ref w_LESS_OR_EQUAL)])) t
      refine XS.dload X191.here hx rfl (hb hby at_119) rfl ?_
      show Steps p.tables e below (T191.setTop (mkF m 121 #[.val (.int p0), .val (.int p1), .val (.int p2), .val (.ref b1), .val (.ref w_LESS_OR_EQUAL), .val (.double (FP.i2d p1)), .second, .val (.double (FP.i2d p2)), .second, .val (.ref w_GREATER)] [(.double (FP.i2d p2)), (.ref w_GREATER), (.ref w_LESS_OR_EQUAL)])) t
      refine XS.dload X191.here hx rfl (hb hby at_121) rfl ?_
      exact k
    obtain ⟨_, _, ⟨T193, L193, k193, n193⟩, -, X193, ⟨Lc193, hQ193, l193, y193, z193⟩, st193⟩ := Jvm.LawKit.callS X191 hx (y := (⟨"com/example/meshwatch/meshwatch/RelationNegatedPinLaw", "complement", "(Lcom/example/meshwatch/meshwatch/Relation;Lcom/example/meshwatch/meshwatch/Relation;DD)Z"⟩ : MethodName)) hown (mvT hZ (hw _ (List.mem_of_getElem? (i := 33) rfl))) (mvT hZ (hw _ (List.mem_of_getElem? (i := 34) rfl))) (mvT hZ (hw _ (List.mem_of_getElem? (i := 35) rfl))) (mvT hZ (hw _ (List.mem_of_getElem? (i := 36) rfl))) (by decide) (backOf (W := 0) (rmc1 l Z ar hw [] w_LESS_OR_EQUAL w_GREATER ((FP.i2d p2)) ((FP.i2d p1)) h144 n0 z164 f150 f151 f153 f154 (own_n1 (own_dy_i2d p2) (own_dy_i2d p1))) hZ (hw _ (List.mem_of_getElem? (i := 36) rfl)) (hw _ (List.mem_of_getElem? (i := 35) rfl)) (by decide) (by decide)) (g := (mkF m 123 #[.val (.int p0), .val (.int p1), .val (.int p2), .val (.ref b1), .val (.ref w_LESS_OR_EQUAL), .val (.double (FP.i2d p1)), .second, .val (.double (FP.i2d p2)), .second, .val (.ref w_GREATER)] [(.double (FP.i2d p1)), (.double (FP.i2d p2)), (.ref w_GREATER), (.ref w_LESS_OR_EQUAL)])) rfl (by rw [hml]; rfl) (argsL := [(.ref w_LESS_OR_EQUAL), (.ref w_GREATER), (.double (FP.i2d p2)), (.double (FP.i2d p1))]) (rest := []) (lenOf pd0_1 rfl) rfl (by show 2 * 0 + _ ≤ _; exact Nat.le_of_eq rfl) (hb hby at_123) (fun _ _ => ⟨rfl, e191, (by decide : 1 + 0 ≤ _), (by decide : 6 + 0 ≤ _)⟩)
    dsimp only [Pt.U, Pt.locs, Pt.cells, Pt.slots] at X193 l193 y193 z193 st193 hQ193
    subst l193 y193 z193
    obtain ⟨rfl, N193q, e193⟩ := hQ193
    have n194 := Fr.app n192 N193q
    refine own_st (T' := T193) (g' := (mkF m 126 #[.val (.int p0), .val (.int p1), .val (.int p2), .val (.ref b1), .val (.ref w_LESS_OR_EQUAL), .val (.double (FP.i2d p1)), .second, .val (.double (FP.i2d p2)), .second, .val (.ref w_GREATER)] [(.int (1 : Int32))])) st193 ?_
    refine own_st (T' := T193) (g' := (mkF m 134 #[.val (.int p0), .val (.int p1), .val (.int p2), .val (.ref b1), .val (.ref w_LESS_OR_EQUAL), .val (.double (FP.i2d p1)), .second, .val (.double (FP.i2d p2)), .second, .val (.ref w_GREATER)] [(.int (1 : Int32))])) (fun t k => ?_) ?_
    · show Steps p.tables e below (T193.setTop (mkF m 126 #[.val (.int p0), .val (.int p1), .val (.int p2), .val (.ref b1), .val (.ref w_LESS_OR_EQUAL), .val (.double (FP.i2d p1)), .second, .val (.double (FP.i2d p2)), .second, .val (.ref w_GREATER)] [(.int (1 : Int32))])) t
      refine XS.ifNo X193.here hx rfl (hb hby at_126) rfl (by decide) ?_
      show Steps p.tables e below (T193.setTop (mkF m 129 #[.val (.int p0), .val (.int p1), .val (.int p2), .val (.ref b1), .val (.ref w_LESS_OR_EQUAL), .val (.double (FP.i2d p1)), .second, .val (.double (FP.i2d p2)), .second, .val (.ref w_GREATER)] [])) t
      refine XS.iconst X193.here hx rfl (hb hby at_129) ?_
      show Steps p.tables e below (T193.setTop (mkF m 130 #[.val (.int p0), .val (.int p1), .val (.int p2), .val (.ref b1), .val (.ref w_LESS_OR_EQUAL), .val (.double (FP.i2d p1)), .second, .val (.double (FP.i2d p2)), .second, .val (.ref w_GREATER)] [(.int (1 : Int32))])) t
      refine XS.goto X193.here hx rfl (pc0 := 130) (pc' := 134) rfl (hb hby at_130) (by decide) (by decide) ?_
      exact k
    refine own_retZ X193 hx hlk Bd.returns (hb hby at_134) rfl (by decide) (by decide) ?_
    show Q0 Z p0 p1 p2 w_LESS w_LESS_OR_EQUAL w_GREATER w_GREATER_OR_EQUAL w_EQUAL w_NOT_EQUAL h0 n0 (some (.int (1 : Int32))) T193.heap _
    rw [(e193 : T193.heap = h144)]
    exact ⟨rfl, n194⟩
  · rw [hk50_169]
    obtain ⟨c195, r195a, r195b, r195c, r195d, r195e, r195f⟩ := v145
    have i195 : ¬ ((2 : Int32) < 0 ∨ c195.slots.size ≤ ((2 : Int32)).toNatClampNeg) := inb_of r195c ⟨by decide, by decide⟩
    have y195 : c195.slots[((2 : Int32)).toNatClampNeg]? = some (.ref w_GREATER) := r195e.at i195 rfl
    refine own_st (T' := T144) (g' := (mkF m 63 #[.val (.int p0), .val (.int p1), .val (.int p2), .val (.ref b1), .val (.ref w_GREATER), .val (.double (FP.i2d p1)), .second, .val (.double (FP.i2d p2)), .second, .unset] [(.ref w_GREATER)])) (fun t k => ?_) ?_
    · show Steps p.tables e below (T144.setTop (mkF m 50 #[.val (.int p0), .val (.int p1), .val (.int p2), .val (.ref b1), .unset, .unset, .unset, .unset, .unset, .unset] [(.int (2 : Int32)), (.ref b1)])) t
      refine X144.aaload hx (j := (2 : Int32)) (v := (.ref w_GREATER)) (by rw [e144]; exact r195a.1) (State.isArrayOf_alike hZ.alike r195a.2.1) rfl r195a.2.2 i195 y195 (g := (mkF m 50 #[.val (.int p0), .val (.int p1), .val (.int p2), .val (.ref b1), .unset, .unset, .unset, .unset, .unset, .unset] [(.int (2 : Int32)), (.ref b1)])) rfl rfl (hb hby at_50) _ ?_
      show Steps p.tables e below (T144.setTop (mkF m 51 #[.val (.int p0), .val (.int p1), .val (.int p2), .val (.ref b1), .unset, .unset, .unset, .unset, .unset, .unset] [(.ref w_GREATER)])) t
      refine XS.astore X144.here hx rfl (hb hby at_51) rfl rfl (l' := #[.val (.int p0), .val (.int p1), .val (.int p2), .val (.ref b1), .val (.ref w_GREATER), .unset, .unset, .unset, .unset, .unset]) rfl ?_
      show Steps p.tables e below (T144.setTop (mkF m 53 #[.val (.int p0), .val (.int p1), .val (.int p2), .val (.ref b1), .val (.ref w_GREATER), .unset, .unset, .unset, .unset, .unset] [])) t
      refine XS.iloadN X144.here hx rfl (hb hby at_53) rfl ?_
      show Steps p.tables e below (T144.setTop (mkF m 54 #[.val (.int p0), .val (.int p1), .val (.int p2), .val (.ref b1), .val (.ref w_GREATER), .unset, .unset, .unset, .unset, .unset] [(.int p1)])) t
      refine XS.i2dS X144.here hx rfl (hb hby at_54) rfl rfl ?_
      show Steps p.tables e below (T144.setTop (mkF m 55 #[.val (.int p0), .val (.int p1), .val (.int p2), .val (.ref b1), .val (.ref w_GREATER), .unset, .unset, .unset, .unset, .unset] [(.double (FP.i2d p1))])) t
      refine XS.dstore X144.here hx rfl (hb hby at_55) rfl (l' := #[.val (.int p0), .val (.int p1), .val (.int p2), .val (.ref b1), .val (.ref w_GREATER), .val (.double (FP.i2d p1)), .second, .unset, .unset, .unset]) rfl ?_
      show Steps p.tables e below (T144.setTop (mkF m 57 #[.val (.int p0), .val (.int p1), .val (.int p2), .val (.ref b1), .val (.ref w_GREATER), .val (.double (FP.i2d p1)), .second, .unset, .unset, .unset] [])) t
      refine XS.iloadN X144.here hx rfl (hb hby at_57) rfl ?_
      show Steps p.tables e below (T144.setTop (mkF m 58 #[.val (.int p0), .val (.int p1), .val (.int p2), .val (.ref b1), .val (.ref w_GREATER), .val (.double (FP.i2d p1)), .second, .unset, .unset, .unset] [(.int p2)])) t
      refine XS.i2dS X144.here hx rfl (hb hby at_58) rfl rfl ?_
      show Steps p.tables e below (T144.setTop (mkF m 59 #[.val (.int p0), .val (.int p1), .val (.int p2), .val (.ref b1), .val (.ref w_GREATER), .val (.double (FP.i2d p1)), .second, .unset, .unset, .unset] [(.double (FP.i2d p2))])) t
      refine XS.dstore X144.here hx rfl (hb hby at_59) rfl (l' := #[.val (.int p0), .val (.int p1), .val (.int p2), .val (.ref b1), .val (.ref w_GREATER), .val (.double (FP.i2d p1)), .second, .val (.double (FP.i2d p2)), .second, .unset]) rfl ?_
      show Steps p.tables e below (T144.setTop (mkF m 61 #[.val (.int p0), .val (.int p1), .val (.int p2), .val (.ref b1), .val (.ref w_GREATER), .val (.double (FP.i2d p1)), .second, .val (.double (FP.i2d p2)), .second, .unset] [])) t
      refine XS.aload X144.here hx rfl (hb hby at_61) rfl rfl ?_
      exact k
    obtain ⟨cq196, kq196, qa196, qb196, qc196⟩ := isOf hZ e144 f153
    obtain ⟨_, _, ⟨T196, L196, k196, n196⟩, -, X196, ⟨Lc196, hQ196, l196, y196, z196⟩, st196⟩ := X144.virtualBack hx (y := (⟨"com/example/meshwatch/meshwatch/Relation", "negated", "()Lcom/example/meshwatch/meshwatch/Relation;"⟩ : MethodName)) (z := (⟨"com/example/meshwatch/meshwatch/Relation", "negated", "()Lcom/example/meshwatch/meshwatch/Relation;"⟩ : MethodName)) hown (mvT hZ (hw _ (List.mem_of_getElem? (i := 17) rfl))) (mvT hZ (hw _ (List.mem_of_getElem? (i := 18) rfl))) (notFace_of_selects (args := #[]) (mvT hZ (hw _ (List.mem_of_getElem? (i := 20) rfl)))) (mvT hZ (hw _ (List.mem_of_getElem? (i := 20) rfl))) (mvT hZ (hw _ (List.mem_of_getElem? (i := 19) rfl))) (by decide) (backOf (W := 0) (rmn2 l Z ar hw [] w_GREATER w_LESS_OR_EQUAL h144 n0 z164 f153 f154 f149) hZ (hw _ (List.mem_of_getElem? (i := 21) rfl)) (hw _ (List.mem_of_getElem? (i := 3) rfl)) (by decide) (by decide)) qa196 qc196 (g := (mkF m 63 #[.val (.int p0), .val (.int p1), .val (.int p2), .val (.ref b1), .val (.ref w_GREATER), .val (.double (FP.i2d p1)), .second, .val (.double (FP.i2d p2)), .second, .unset] [(.ref w_GREATER)])) rfl (by rw [hml]; rfl) (Steps.refl _) (argsL := []) (rest := []) (lenOf pd0_0 rfl) rfl (by show 2 * 0 + _ ≤ _; exact Nat.le_of_eq rfl) (hb hby at_63) (fun _ _ => ⟨rfl, e144, (by decide : 1 + 0 ≤ _), (by decide : 6 + 0 ≤ _)⟩)
    dsimp only [Pt.U, Pt.locs, Pt.cells, Pt.slots] at X196 l196 y196 z196 st196 hQ196
    subst l196 y196 z196
    obtain ⟨rfl, N196q, e196⟩ := hQ196
    have n197 := Fr.app n166 N196q
    refine own_tr (T' := T196) (g' := (mkF m 66 #[.val (.int p0), .val (.int p1), .val (.int p2), .val (.ref b1), .val (.ref w_GREATER), .val (.double (FP.i2d p1)), .second, .val (.double (FP.i2d p2)), .second, .unset] [(.ref w_LESS_OR_EQUAL)])) st196 ?_
    refine own_st (T' := T196) (g' := (mkF m 77 #[.val (.int p0), .val (.int p1), .val (.int p2), .val (.ref b1), .val (.ref w_GREATER), .val (.double (FP.i2d p1)), .second, .val (.double (FP.i2d p2)), .second, .val (.ref w_LESS_OR_EQUAL)] [(.ref w_LESS_OR_EQUAL)])) (fun t k => ?_) ?_
    · show Steps p.tables e below (T196.setTop (mkF m 66 #[.val (.int p0), .val (.int p1), .val (.int p2), .val (.ref b1), .val (.ref w_GREATER), .val (.double (FP.i2d p1)), .second, .val (.double (FP.i2d p2)), .second, .unset] [(.ref w_LESS_OR_EQUAL)])) t
      refine XS.astore X196.here hx rfl (hb hby at_66) rfl rfl (l' := #[.val (.int p0), .val (.int p1), .val (.int p2), .val (.ref b1), .val (.ref w_GREATER), .val (.double (FP.i2d p1)), .second, .val (.double (FP.i2d p2)), .second, .val (.ref w_LESS_OR_EQUAL)]) rfl ?_
      show Steps p.tables e below (T196.setTop (mkF m 68 #[.val (.int p0), .val (.int p1), .val (.int p2), .val (.ref b1), .val (.ref w_GREATER), .val (.double (FP.i2d p1)), .second, .val (.double (FP.i2d p2)), .second, .val (.ref w_LESS_OR_EQUAL)] [])) t
      refine XS.aload X196.here hx rfl (hb hby at_68) rfl rfl ?_
      show Steps p.tables e below (T196.setTop (mkF m 70 #[.val (.int p0), .val (.int p1), .val (.int p2), .val (.ref b1), .val (.ref w_GREATER), .val (.double (FP.i2d p1)), .second, .val (.double (FP.i2d p2)), .second, .val (.ref w_LESS_OR_EQUAL)] [(.ref w_LESS_OR_EQUAL)])) t
      refine XS.ifnonnullYes X196.here hx rfl (pc0 := 70) (pc' := 75) rfl (hb hby at_70) rfl (by decide) (by decide) ?_
      show Steps p.tables e below (T196.setTop (mkF m 75 #[.val (.int p0), .val (.int p1), .val (.int p2), .val (.ref b1), .val (.ref w_GREATER), .val (.double (FP.i2d p1)), .second, .val (.double (FP.i2d p2)), .second, .val (.ref w_LESS_OR_EQUAL)] [])) t
      refine XS.aload X196.here hx rfl (hb hby at_75) rfl rfl ?_
      exact k
    obtain ⟨cq198, kq198, qa198, qb198, qc198⟩ := isOf hZ e196 f150
    obtain ⟨_, _, ⟨T198, L198, k198, n198⟩, -, X198, ⟨Lc198, hQ198, l198, y198, z198⟩, st198⟩ := X196.virtualBack hx (y := (⟨"com/example/meshwatch/meshwatch/Relation", "negated", "()Lcom/example/meshwatch/meshwatch/Relation;"⟩ : MethodName)) (z := (⟨"com/example/meshwatch/meshwatch/Relation", "negated", "()Lcom/example/meshwatch/meshwatch/Relation;"⟩ : MethodName)) hown (mvT hZ (hw _ (List.mem_of_getElem? (i := 17) rfl))) (mvT hZ (hw _ (List.mem_of_getElem? (i := 18) rfl))) (notFace_of_selects (args := #[]) (mvT hZ (hw _ (List.mem_of_getElem? (i := 20) rfl)))) (mvT hZ (hw _ (List.mem_of_getElem? (i := 20) rfl))) (mvT hZ (hw _ (List.mem_of_getElem? (i := 19) rfl))) (by decide) (backOf (W := 0) (rmn1 l Z ar hw [] w_LESS_OR_EQUAL w_GREATER h144 n0 z164 f150 f151 f152) hZ (hw _ (List.mem_of_getElem? (i := 21) rfl)) (hw _ (List.mem_of_getElem? (i := 3) rfl)) (by decide) (by decide)) qa198 qc198 (g := (mkF m 77 #[.val (.int p0), .val (.int p1), .val (.int p2), .val (.ref b1), .val (.ref w_GREATER), .val (.double (FP.i2d p1)), .second, .val (.double (FP.i2d p2)), .second, .val (.ref w_LESS_OR_EQUAL)] [(.ref w_LESS_OR_EQUAL)])) rfl (by rw [hml]; rfl) (Steps.refl _) (argsL := []) (rest := []) (lenOf pd0_0 rfl) rfl (by show 2 * 0 + _ ≤ _; exact Nat.le_of_eq rfl) (hb hby at_77) (fun _ _ => ⟨rfl, e196, (by decide : 1 + 0 ≤ _), (by decide : 6 + 0 ≤ _)⟩)
    dsimp only [Pt.U, Pt.locs, Pt.cells, Pt.slots] at X198 l198 y198 z198 st198 hQ198
    subst l198 y198 z198
    obtain ⟨rfl, N198q, e198⟩ := hQ198
    have n199 := Fr.app n197 N198q
    refine own_tr (T' := T198) (g' := (mkF m 80 #[.val (.int p0), .val (.int p1), .val (.int p2), .val (.ref b1), .val (.ref w_GREATER), .val (.double (FP.i2d p1)), .second, .val (.double (FP.i2d p2)), .second, .val (.ref w_LESS_OR_EQUAL)] [(.ref w_GREATER)])) st198 ?_
    refine own_st (T' := T198) (g' := (mkF m 95 #[.val (.int p0), .val (.int p1), .val (.int p2), .val (.ref b1), .val (.ref w_GREATER), .val (.double (FP.i2d p1)), .second, .val (.double (FP.i2d p2)), .second, .val (.ref w_LESS_OR_EQUAL)] [(.double (FP.i2d p2)), (.double (FP.i2d p1)), (.ref w_LESS_OR_EQUAL), (.ref w_GREATER)])) (fun t k => ?_) ?_
    · show Steps p.tables e below (T198.setTop (mkF m 80 #[.val (.int p0), .val (.int p1), .val (.int p2), .val (.ref b1), .val (.ref w_GREATER), .val (.double (FP.i2d p1)), .second, .val (.double (FP.i2d p2)), .second, .val (.ref w_LESS_OR_EQUAL)] [(.ref w_GREATER)])) t
      refine XS.aload X198.here hx rfl (hb hby at_80) rfl rfl ?_
      show Steps p.tables e below (T198.setTop (mkF m 82 #[.val (.int p0), .val (.int p1), .val (.int p2), .val (.ref b1), .val (.ref w_GREATER), .val (.double (FP.i2d p1)), .second, .val (.double (FP.i2d p2)), .second, .val (.ref w_LESS_OR_EQUAL)] [(.ref w_GREATER), (.ref w_GREATER)])) t
      refine Jvm.RoadKit.acmp (g := (mkF m 82 #[.val (.int p0), .val (.int p1), .val (.int p2), .val (.ref b1), .val (.ref w_GREATER), .val (.double (FP.i2d p1)), .second, .val (.double (FP.i2d p2)), .second, .val (.ref w_LESS_OR_EQUAL)] [(.ref w_GREATER), (.ref w_GREATER)])) X198 hx rfl rfl rfl (pc0 := 82) (pc' := 87) (same := true) rfl (hb hby at_82) rfl (decide_eq_true rfl) (by decide) (by decide) ?_
      show Steps p.tables e below (T198.setTop (mkF m 87 #[.val (.int p0), .val (.int p1), .val (.int p2), .val (.ref b1), .val (.ref w_GREATER), .val (.double (FP.i2d p1)), .second, .val (.double (FP.i2d p2)), .second, .val (.ref w_LESS_OR_EQUAL)] [])) t
      refine XS.aload X198.here hx rfl (hb hby at_87) rfl rfl ?_
      show Steps p.tables e below (T198.setTop (mkF m 89 #[.val (.int p0), .val (.int p1), .val (.int p2), .val (.ref b1), .val (.ref w_GREATER), .val (.double (FP.i2d p1)), .second, .val (.double (FP.i2d p2)), .second, .val (.ref w_LESS_OR_EQUAL)] [(.ref w_GREATER)])) t
      refine XS.aload X198.here hx rfl (hb hby at_89) rfl rfl ?_
      show Steps p.tables e below (T198.setTop (mkF m 91 #[.val (.int p0), .val (.int p1), .val (.int p2), .val (.ref b1), .val (.ref w_GREATER), .val (.double (FP.i2d p1)), .second, .val (.double (FP.i2d p2)), .second, .val (.ref w_LESS_OR_EQUAL)] [(.ref w_LESS_OR_EQUAL), (.ref w_GREATER)])) t
      refine XS.dload X198.here hx rfl (hb hby at_91) rfl ?_
      show Steps p.tables e below (T198.setTop (mkF m 93 #[.val (.int p0), .val (.int p1), .val (.int p2), .val (.ref b1), .val (.ref w_GREATER), .val (.double (FP.i2d p1)), .second, .val (.double (FP.i2d p2)), .second, .val (.ref w_LESS_OR_EQUAL)] [(.double (FP.i2d p1)), (.ref w_LESS_OR_EQUAL), (.ref w_GREATER)])) t
      refine XS.dload X198.here hx rfl (hb hby at_93) rfl ?_
      exact k
    obtain ⟨_, _, ⟨T200, L200, k200, n200⟩, -, X200, ⟨Lc200, hQ200, l200, y200, z200⟩, st200⟩ := Jvm.LawKit.callS X198 hx (y := (⟨"com/example/meshwatch/meshwatch/RelationNegatedPinLaw", "complement", "(Lcom/example/meshwatch/meshwatch/Relation;Lcom/example/meshwatch/meshwatch/Relation;DD)Z"⟩ : MethodName)) hown (mvT hZ (hw _ (List.mem_of_getElem? (i := 33) rfl))) (mvT hZ (hw _ (List.mem_of_getElem? (i := 34) rfl))) (mvT hZ (hw _ (List.mem_of_getElem? (i := 35) rfl))) (mvT hZ (hw _ (List.mem_of_getElem? (i := 36) rfl))) (by decide) (backOf (W := 0) (rmc2 l Z ar hw [] w_GREATER w_LESS_OR_EQUAL ((FP.i2d p1)) ((FP.i2d p2)) h144 n0 z164 f153 f154 f150 f151 (own_n2 (own_dy_i2d p1) (own_dy_i2d p2))) hZ (hw _ (List.mem_of_getElem? (i := 36) rfl)) (hw _ (List.mem_of_getElem? (i := 35) rfl)) (by decide) (by decide)) (g := (mkF m 95 #[.val (.int p0), .val (.int p1), .val (.int p2), .val (.ref b1), .val (.ref w_GREATER), .val (.double (FP.i2d p1)), .second, .val (.double (FP.i2d p2)), .second, .val (.ref w_LESS_OR_EQUAL)] [(.double (FP.i2d p2)), (.double (FP.i2d p1)), (.ref w_LESS_OR_EQUAL), (.ref w_GREATER)])) rfl (by rw [hml]; rfl) (argsL := [(.ref w_GREATER), (.ref w_LESS_OR_EQUAL), (.double (FP.i2d p1)), (.double (FP.i2d p2))]) (rest := []) (lenOf pd0_1 rfl) rfl (by show 2 * 0 + _ ≤ _; exact Nat.le_of_eq rfl) (hb hby at_95) (fun _ _ => ⟨rfl, e198, (by decide : 1 + 0 ≤ _), (by decide : 6 + 0 ≤ _)⟩)
    dsimp only [Pt.U, Pt.locs, Pt.cells, Pt.slots] at X200 l200 y200 z200 st200 hQ200
    subst l200 y200 z200
    obtain ⟨rfl, N200q, e200⟩ := hQ200
    have n201 := Fr.app n199 N200q
    refine own_st (T' := T200) (g' := (mkF m 98 #[.val (.int p0), .val (.int p1), .val (.int p2), .val (.ref b1), .val (.ref w_GREATER), .val (.double (FP.i2d p1)), .second, .val (.double (FP.i2d p2)), .second, .val (.ref w_LESS_OR_EQUAL)] [(.int (1 : Int32))])) st200 ?_
    refine own_st (T' := T200) (g' := (mkF m 109 #[.val (.int p0), .val (.int p1), .val (.int p2), .val (.ref b1), .val (.ref w_GREATER), .val (.double (FP.i2d p1)), .second, .val (.double (FP.i2d p2)), .second, .val (.ref w_LESS_OR_EQUAL)] [(.double (FP.i2d p1)), (.double (FP.i2d p1)), (.ref w_LESS_OR_EQUAL), (.ref w_GREATER)])) (fun t k => ?_) ?_
    · show Steps p.tables e below (T200.setTop (mkF m 98 #[.val (.int p0), .val (.int p1), .val (.int p2), .val (.ref b1), .val (.ref w_GREATER), .val (.double (FP.i2d p1)), .second, .val (.double (FP.i2d p2)), .second, .val (.ref w_LESS_OR_EQUAL)] [(.int (1 : Int32))])) t
      refine XS.ifNo X200.here hx rfl (hb hby at_98) rfl (by decide) ?_
      show Steps p.tables e below (T200.setTop (mkF m 101 #[.val (.int p0), .val (.int p1), .val (.int p2), .val (.ref b1), .val (.ref w_GREATER), .val (.double (FP.i2d p1)), .second, .val (.double (FP.i2d p2)), .second, .val (.ref w_LESS_OR_EQUAL)] [])) t
      refine XS.aload X200.here hx rfl (hb hby at_101) rfl rfl ?_
      show Steps p.tables e below (T200.setTop (mkF m 103 #[.val (.int p0), .val (.int p1), .val (.int p2), .val (.ref b1), .val (.ref w_GREATER), .val (.double (FP.i2d p1)), .second, .val (.double (FP.i2d p2)), .second, .val (.ref w_LESS_OR_EQUAL)] [(.ref w_GREATER)])) t
      refine XS.aload X200.here hx rfl (hb hby at_103) rfl rfl ?_
      show Steps p.tables e below (T200.setTop (mkF m 105 #[.val (.int p0), .val (.int p1), .val (.int p2), .val (.ref b1), .val (.ref w_GREATER), .val (.double (FP.i2d p1)), .second, .val (.double (FP.i2d p2)), .second, .val (.ref w_LESS_OR_EQUAL)] [(.ref w_LESS_OR_EQUAL), (.ref w_GREATER)])) t
      refine XS.dload X200.here hx rfl (hb hby at_105) rfl ?_
      show Steps p.tables e below (T200.setTop (mkF m 107 #[.val (.int p0), .val (.int p1), .val (.int p2), .val (.ref b1), .val (.ref w_GREATER), .val (.double (FP.i2d p1)), .second, .val (.double (FP.i2d p2)), .second, .val (.ref w_LESS_OR_EQUAL)] [(.double (FP.i2d p1)), (.ref w_LESS_OR_EQUAL), (.ref w_GREATER)])) t
      refine XS.dload X200.here hx rfl (hb hby at_107) rfl ?_
      exact k
    obtain ⟨_, _, ⟨T202, L202, k202, n202⟩, -, X202, ⟨Lc202, hQ202, l202, y202, z202⟩, st202⟩ := Jvm.LawKit.callS X200 hx (y := (⟨"com/example/meshwatch/meshwatch/RelationNegatedPinLaw", "complement", "(Lcom/example/meshwatch/meshwatch/Relation;Lcom/example/meshwatch/meshwatch/Relation;DD)Z"⟩ : MethodName)) hown (mvT hZ (hw _ (List.mem_of_getElem? (i := 33) rfl))) (mvT hZ (hw _ (List.mem_of_getElem? (i := 34) rfl))) (mvT hZ (hw _ (List.mem_of_getElem? (i := 35) rfl))) (mvT hZ (hw _ (List.mem_of_getElem? (i := 36) rfl))) (by decide) (backOf (W := 0) (rmc2 l Z ar hw [] w_GREATER w_LESS_OR_EQUAL ((FP.i2d p1)) ((FP.i2d p1)) h144 n0 z164 f153 f154 f150 f151 (own_n2 (own_dy_i2d p1) (own_dy_i2d p1))) hZ (hw _ (List.mem_of_getElem? (i := 36) rfl)) (hw _ (List.mem_of_getElem? (i := 35) rfl)) (by decide) (by decide)) (g := (mkF m 109 #[.val (.int p0), .val (.int p1), .val (.int p2), .val (.ref b1), .val (.ref w_GREATER), .val (.double (FP.i2d p1)), .second, .val (.double (FP.i2d p2)), .second, .val (.ref w_LESS_OR_EQUAL)] [(.double (FP.i2d p1)), (.double (FP.i2d p1)), (.ref w_LESS_OR_EQUAL), (.ref w_GREATER)])) rfl (by rw [hml]; rfl) (argsL := [(.ref w_GREATER), (.ref w_LESS_OR_EQUAL), (.double (FP.i2d p1)), (.double (FP.i2d p1))]) (rest := []) (lenOf pd0_1 rfl) rfl (by show 2 * 0 + _ ≤ _; exact Nat.le_of_eq rfl) (hb hby at_109) (fun _ _ => ⟨rfl, e200, (by decide : 1 + 0 ≤ _), (by decide : 6 + 0 ≤ _)⟩)
    dsimp only [Pt.U, Pt.locs, Pt.cells, Pt.slots] at X202 l202 y202 z202 st202 hQ202
    subst l202 y202 z202
    obtain ⟨rfl, N202q, e202⟩ := hQ202
    have n203 := Fr.app n201 N202q
    refine own_st (T' := T202) (g' := (mkF m 112 #[.val (.int p0), .val (.int p1), .val (.int p2), .val (.ref b1), .val (.ref w_GREATER), .val (.double (FP.i2d p1)), .second, .val (.double (FP.i2d p2)), .second, .val (.ref w_LESS_OR_EQUAL)] [(.int (1 : Int32))])) st202 ?_
    refine own_st (T' := T202) (g' := (mkF m 123 #[.val (.int p0), .val (.int p1), .val (.int p2), .val (.ref b1), .val (.ref w_GREATER), .val (.double (FP.i2d p1)), .second, .val (.double (FP.i2d p2)), .second, .val (.ref w_LESS_OR_EQUAL)] [(.double (FP.i2d p1)), (.double (FP.i2d p2)), (.ref w_LESS_OR_EQUAL), (.ref w_GREATER)])) (fun t k => ?_) ?_
    · show Steps p.tables e below (T202.setTop (mkF m 112 #[.val (.int p0), .val (.int p1), .val (.int p2), .val (.ref b1), .val (.ref w_GREATER), .val (.double (FP.i2d p1)), .second, .val (.double (FP.i2d p2)), .second, .val (.ref w_LESS_OR_EQUAL)] [(.int (1 : Int32))])) t
      refine XS.ifNo X202.here hx rfl (hb hby at_112) rfl (by decide) ?_
      show Steps p.tables e below (T202.setTop (mkF m 115 #[.val (.int p0), .val (.int p1), .val (.int p2), .val (.ref b1), .val (.ref w_GREATER), .val (.double (FP.i2d p1)), .second, .val (.double (FP.i2d p2)), .second, .val (.ref w_LESS_OR_EQUAL)] [])) t
      refine XS.aload X202.here hx rfl (hb hby at_115) rfl rfl ?_
      show Steps p.tables e below (T202.setTop (mkF m 117 #[.val (.int p0), .val (.int p1), .val (.int p2), .val (.ref b1), .val (.ref w_GREATER), .val (.double (FP.i2d p1)), .second, .val (.double (FP.i2d p2)), .second, .val (.ref w_LESS_OR_EQUAL)] [(.ref w_GREATER)])) t
      refine XS.aload X202.here hx rfl (hb hby at_117) rfl rfl ?_
      show Steps p.tables e below (T202.setTop (mkF m 119 #[.val (.int p0), .val (.int p1), .val (.int p2), .val (.ref b1), .val (.ref w_GREATER), .val (.double (FP.i2d p1)), .second, .val (.double (FP.i2d p2)), .second, .val (.ref w_LESS_OR_EQUAL)] [(.ref w_LESS_OR_EQUAL), (.ref w_GREATER)])) t
      refine XS.dload X202.here hx rfl (hb hby at_119) rfl ?_
      show Steps p.tables e below (T202.setTop (mkF m 121 #[.val (.int p0), .val (.int p1), .val (.int p2), .val (.ref b1), .val (.ref w_GREATER), .val (.double (FP.i2d p1)), .second, .val (.double (FP.i2d p2)), .second, .val (.ref w_LESS_OR_EQUAL)] [(.double (FP.i2d p2)), (.ref w_LESS_OR_EQUAL), (.ref w_GREATER)])) t
      refine XS.dload X202.here hx rfl (hb hby at_121) rfl ?_
      exact k
    obtain ⟨_, _, ⟨T204, L204, k204, n204⟩, -, X204, ⟨Lc204, hQ204, l204, y204, z204⟩, st204⟩ := Jvm.LawKit.callS X202 hx (y := (⟨"com/example/meshwatch/meshwatch/RelationNegatedPinLaw", "complement", "(Lcom/example/meshwatch/meshwatch/Relation;Lcom/example/meshwatch/meshwatch/Relation;DD)Z"⟩ : MethodName)) hown (mvT hZ (hw _ (List.mem_of_getElem? (i := 33) rfl))) (mvT hZ (hw _ (List.mem_of_getElem? (i := 34) rfl))) (mvT hZ (hw _ (List.mem_of_getElem? (i := 35) rfl))) (mvT hZ (hw _ (List.mem_of_getElem? (i := 36) rfl))) (by decide) (backOf (W := 0) (rmc2 l Z ar hw [] w_GREATER w_LESS_OR_EQUAL ((FP.i2d p2)) ((FP.i2d p1)) h144 n0 z164 f153 f154 f150 f151 (own_n2 (own_dy_i2d p2) (own_dy_i2d p1))) hZ (hw _ (List.mem_of_getElem? (i := 36) rfl)) (hw _ (List.mem_of_getElem? (i := 35) rfl)) (by decide) (by decide)) (g := (mkF m 123 #[.val (.int p0), .val (.int p1), .val (.int p2), .val (.ref b1), .val (.ref w_GREATER), .val (.double (FP.i2d p1)), .second, .val (.double (FP.i2d p2)), .second, .val (.ref w_LESS_OR_EQUAL)] [(.double (FP.i2d p1)), (.double (FP.i2d p2)), (.ref w_LESS_OR_EQUAL), (.ref w_GREATER)])) rfl (by rw [hml]; rfl) (argsL := [(.ref w_GREATER), (.ref w_LESS_OR_EQUAL), (.double (FP.i2d p2)), (.double (FP.i2d p1))]) (rest := []) (lenOf pd0_1 rfl) rfl (by show 2 * 0 + _ ≤ _; exact Nat.le_of_eq rfl) (hb hby at_123) (fun _ _ => ⟨rfl, e202, (by decide : 1 + 0 ≤ _), (by decide : 6 + 0 ≤ _)⟩)
    dsimp only [Pt.U, Pt.locs, Pt.cells, Pt.slots] at X204 l204 y204 z204 st204 hQ204
    subst l204 y204 z204
    obtain ⟨rfl, N204q, e204⟩ := hQ204
    have n205 := Fr.app n203 N204q
    refine own_st (T' := T204) (g' := (mkF m 126 #[.val (.int p0), .val (.int p1), .val (.int p2), .val (.ref b1), .val (.ref w_GREATER), .val (.double (FP.i2d p1)), .second, .val (.double (FP.i2d p2)), .second, .val (.ref w_LESS_OR_EQUAL)] [(.int (1 : Int32))])) st204 ?_
    refine own_st (T' := T204) (g' := (mkF m 134 #[.val (.int p0), .val (.int p1), .val (.int p2), .val (.ref b1), .val (.ref w_GREATER), .val (.double (FP.i2d p1)), .second, .val (.double (FP.i2d p2)), .second, .val (.ref w_LESS_OR_EQUAL)] [(.int (1 : Int32))])) (fun t k => ?_) ?_
    · show Steps p.tables e below (T204.setTop (mkF m 126 #[.val (.int p0), .val (.int p1), .val (.int p2), .val (.ref b1), .val (.ref w_GREATER), .val (.double (FP.i2d p1)), .second, .val (.double (FP.i2d p2)), .second, .val (.ref w_LESS_OR_EQUAL)] [(.int (1 : Int32))])) t
      refine XS.ifNo X204.here hx rfl (hb hby at_126) rfl (by decide) ?_
      show Steps p.tables e below (T204.setTop (mkF m 129 #[.val (.int p0), .val (.int p1), .val (.int p2), .val (.ref b1), .val (.ref w_GREATER), .val (.double (FP.i2d p1)), .second, .val (.double (FP.i2d p2)), .second, .val (.ref w_LESS_OR_EQUAL)] [])) t
      refine XS.iconst X204.here hx rfl (hb hby at_129) ?_
      show Steps p.tables e below (T204.setTop (mkF m 130 #[.val (.int p0), .val (.int p1), .val (.int p2), .val (.ref b1), .val (.ref w_GREATER), .val (.double (FP.i2d p1)), .second, .val (.double (FP.i2d p2)), .second, .val (.ref w_LESS_OR_EQUAL)] [(.int (1 : Int32))])) t
      refine XS.goto X204.here hx rfl (pc0 := 130) (pc' := 134) rfl (hb hby at_130) (by decide) (by decide) ?_
      exact k
    refine own_retZ X204 hx hlk Bd.returns (hb hby at_134) rfl (by decide) (by decide) ?_
    show Q0 Z p0 p1 p2 w_LESS w_LESS_OR_EQUAL w_GREATER w_GREATER_OR_EQUAL w_EQUAL w_NOT_EQUAL h0 n0 (some (.int (1 : Int32))) T204.heap _
    rw [(e204 : T204.heap = h144)]
    exact ⟨rfl, n205⟩
  · rw [hk50_170]
    obtain ⟨c206, r206a, r206b, r206c, r206d, r206e, r206f⟩ := v145
    have i206 : ¬ ((3 : Int32) < 0 ∨ c206.slots.size ≤ ((3 : Int32)).toNatClampNeg) := inb_of r206c ⟨by decide, by decide⟩
    have y206 : c206.slots[((3 : Int32)).toNatClampNeg]? = some (.ref w_GREATER_OR_EQUAL) := r206e.at i206 rfl
    refine own_st (T' := T144) (g' := (mkF m 63 #[.val (.int p0), .val (.int p1), .val (.int p2), .val (.ref b1), .val (.ref w_GREATER_OR_EQUAL), .val (.double (FP.i2d p1)), .second, .val (.double (FP.i2d p2)), .second, .unset] [(.ref w_GREATER_OR_EQUAL)])) (fun t k => ?_) ?_
    · show Steps p.tables e below (T144.setTop (mkF m 50 #[.val (.int p0), .val (.int p1), .val (.int p2), .val (.ref b1), .unset, .unset, .unset, .unset, .unset, .unset] [(.int (3 : Int32)), (.ref b1)])) t
      refine X144.aaload hx (j := (3 : Int32)) (v := (.ref w_GREATER_OR_EQUAL)) (by rw [e144]; exact r206a.1) (State.isArrayOf_alike hZ.alike r206a.2.1) rfl r206a.2.2 i206 y206 (g := (mkF m 50 #[.val (.int p0), .val (.int p1), .val (.int p2), .val (.ref b1), .unset, .unset, .unset, .unset, .unset, .unset] [(.int (3 : Int32)), (.ref b1)])) rfl rfl (hb hby at_50) _ ?_
      show Steps p.tables e below (T144.setTop (mkF m 51 #[.val (.int p0), .val (.int p1), .val (.int p2), .val (.ref b1), .unset, .unset, .unset, .unset, .unset, .unset] [(.ref w_GREATER_OR_EQUAL)])) t
      refine XS.astore X144.here hx rfl (hb hby at_51) rfl rfl (l' := #[.val (.int p0), .val (.int p1), .val (.int p2), .val (.ref b1), .val (.ref w_GREATER_OR_EQUAL), .unset, .unset, .unset, .unset, .unset]) rfl ?_
      show Steps p.tables e below (T144.setTop (mkF m 53 #[.val (.int p0), .val (.int p1), .val (.int p2), .val (.ref b1), .val (.ref w_GREATER_OR_EQUAL), .unset, .unset, .unset, .unset, .unset] [])) t
      refine XS.iloadN X144.here hx rfl (hb hby at_53) rfl ?_
      show Steps p.tables e below (T144.setTop (mkF m 54 #[.val (.int p0), .val (.int p1), .val (.int p2), .val (.ref b1), .val (.ref w_GREATER_OR_EQUAL), .unset, .unset, .unset, .unset, .unset] [(.int p1)])) t
      refine XS.i2dS X144.here hx rfl (hb hby at_54) rfl rfl ?_
      show Steps p.tables e below (T144.setTop (mkF m 55 #[.val (.int p0), .val (.int p1), .val (.int p2), .val (.ref b1), .val (.ref w_GREATER_OR_EQUAL), .unset, .unset, .unset, .unset, .unset] [(.double (FP.i2d p1))])) t
      refine XS.dstore X144.here hx rfl (hb hby at_55) rfl (l' := #[.val (.int p0), .val (.int p1), .val (.int p2), .val (.ref b1), .val (.ref w_GREATER_OR_EQUAL), .val (.double (FP.i2d p1)), .second, .unset, .unset, .unset]) rfl ?_
      show Steps p.tables e below (T144.setTop (mkF m 57 #[.val (.int p0), .val (.int p1), .val (.int p2), .val (.ref b1), .val (.ref w_GREATER_OR_EQUAL), .val (.double (FP.i2d p1)), .second, .unset, .unset, .unset] [])) t
      refine XS.iloadN X144.here hx rfl (hb hby at_57) rfl ?_
      show Steps p.tables e below (T144.setTop (mkF m 58 #[.val (.int p0), .val (.int p1), .val (.int p2), .val (.ref b1), .val (.ref w_GREATER_OR_EQUAL), .val (.double (FP.i2d p1)), .second, .unset, .unset, .unset] [(.int p2)])) t
      refine XS.i2dS X144.here hx rfl (hb hby at_58) rfl rfl ?_
      show Steps p.tables e below (T144.setTop (mkF m 59 #[.val (.int p0), .val (.int p1), .val (.int p2), .val (.ref b1), .val (.ref w_GREATER_OR_EQUAL), .val (.double (FP.i2d p1)), .second, .unset, .unset, .unset] [(.double (FP.i2d p2))])) t
      refine XS.dstore X144.here hx rfl (hb hby at_59) rfl (l' := #[.val (.int p0), .val (.int p1), .val (.int p2), .val (.ref b1), .val (.ref w_GREATER_OR_EQUAL), .val (.double (FP.i2d p1)), .second, .val (.double (FP.i2d p2)), .second, .unset]) rfl ?_
      show Steps p.tables e below (T144.setTop (mkF m 61 #[.val (.int p0), .val (.int p1), .val (.int p2), .val (.ref b1), .val (.ref w_GREATER_OR_EQUAL), .val (.double (FP.i2d p1)), .second, .val (.double (FP.i2d p2)), .second, .unset] [])) t
      refine XS.aload X144.here hx rfl (hb hby at_61) rfl rfl ?_
      exact k
    obtain ⟨cq207, kq207, qa207, qb207, qc207⟩ := isOf hZ e144 f156
    obtain ⟨_, _, ⟨T207, L207, k207, n207⟩, -, X207, ⟨Lc207, hQ207, l207, y207, z207⟩, st207⟩ := X144.virtualBack hx (y := (⟨"com/example/meshwatch/meshwatch/Relation", "negated", "()Lcom/example/meshwatch/meshwatch/Relation;"⟩ : MethodName)) (z := (⟨"com/example/meshwatch/meshwatch/Relation", "negated", "()Lcom/example/meshwatch/meshwatch/Relation;"⟩ : MethodName)) hown (mvT hZ (hw _ (List.mem_of_getElem? (i := 17) rfl))) (mvT hZ (hw _ (List.mem_of_getElem? (i := 18) rfl))) (notFace_of_selects (args := #[]) (mvT hZ (hw _ (List.mem_of_getElem? (i := 20) rfl)))) (mvT hZ (hw _ (List.mem_of_getElem? (i := 20) rfl))) (mvT hZ (hw _ (List.mem_of_getElem? (i := 19) rfl))) (by decide) (backOf (W := 0) (rmn3 l Z ar hw [] w_GREATER_OR_EQUAL w_LESS h144 n0 z164 f156 f157 f146) hZ (hw _ (List.mem_of_getElem? (i := 21) rfl)) (hw _ (List.mem_of_getElem? (i := 3) rfl)) (by decide) (by decide)) qa207 qc207 (g := (mkF m 63 #[.val (.int p0), .val (.int p1), .val (.int p2), .val (.ref b1), .val (.ref w_GREATER_OR_EQUAL), .val (.double (FP.i2d p1)), .second, .val (.double (FP.i2d p2)), .second, .unset] [(.ref w_GREATER_OR_EQUAL)])) rfl (by rw [hml]; rfl) (Steps.refl _) (argsL := []) (rest := []) (lenOf pd0_0 rfl) rfl (by show 2 * 0 + _ ≤ _; exact Nat.le_of_eq rfl) (hb hby at_63) (fun _ _ => ⟨rfl, e144, (by decide : 1 + 0 ≤ _), (by decide : 6 + 0 ≤ _)⟩)
    dsimp only [Pt.U, Pt.locs, Pt.cells, Pt.slots] at X207 l207 y207 z207 st207 hQ207
    subst l207 y207 z207
    obtain ⟨rfl, N207q, e207⟩ := hQ207
    have n208 := Fr.app n166 N207q
    refine own_tr (T' := T207) (g' := (mkF m 66 #[.val (.int p0), .val (.int p1), .val (.int p2), .val (.ref b1), .val (.ref w_GREATER_OR_EQUAL), .val (.double (FP.i2d p1)), .second, .val (.double (FP.i2d p2)), .second, .unset] [(.ref w_LESS)])) st207 ?_
    refine own_st (T' := T207) (g' := (mkF m 77 #[.val (.int p0), .val (.int p1), .val (.int p2), .val (.ref b1), .val (.ref w_GREATER_OR_EQUAL), .val (.double (FP.i2d p1)), .second, .val (.double (FP.i2d p2)), .second, .val (.ref w_LESS)] [(.ref w_LESS)])) (fun t k => ?_) ?_
    · show Steps p.tables e below (T207.setTop (mkF m 66 #[.val (.int p0), .val (.int p1), .val (.int p2), .val (.ref b1), .val (.ref w_GREATER_OR_EQUAL), .val (.double (FP.i2d p1)), .second, .val (.double (FP.i2d p2)), .second, .unset] [(.ref w_LESS)])) t
      refine XS.astore X207.here hx rfl (hb hby at_66) rfl rfl (l' := #[.val (.int p0), .val (.int p1), .val (.int p2), .val (.ref b1), .val (.ref w_GREATER_OR_EQUAL), .val (.double (FP.i2d p1)), .second, .val (.double (FP.i2d p2)), .second, .val (.ref w_LESS)]) rfl ?_
      show Steps p.tables e below (T207.setTop (mkF m 68 #[.val (.int p0), .val (.int p1), .val (.int p2), .val (.ref b1), .val (.ref w_GREATER_OR_EQUAL), .val (.double (FP.i2d p1)), .second, .val (.double (FP.i2d p2)), .second, .val (.ref w_LESS)] [])) t
      refine XS.aload X207.here hx rfl (hb hby at_68) rfl rfl ?_
      show Steps p.tables e below (T207.setTop (mkF m 70 #[.val (.int p0), .val (.int p1), .val (.int p2), .val (.ref b1), .val (.ref w_GREATER_OR_EQUAL), .val (.double (FP.i2d p1)), .second, .val (.double (FP.i2d p2)), .second, .val (.ref w_LESS)] [(.ref w_LESS)])) t
      refine XS.ifnonnullYes X207.here hx rfl (pc0 := 70) (pc' := 75) rfl (hb hby at_70) rfl (by decide) (by decide) ?_
      show Steps p.tables e below (T207.setTop (mkF m 75 #[.val (.int p0), .val (.int p1), .val (.int p2), .val (.ref b1), .val (.ref w_GREATER_OR_EQUAL), .val (.double (FP.i2d p1)), .second, .val (.double (FP.i2d p2)), .second, .val (.ref w_LESS)] [])) t
      refine XS.aload X207.here hx rfl (hb hby at_75) rfl rfl ?_
      exact k
    obtain ⟨cq209, kq209, qa209, qb209, qc209⟩ := isOf hZ e207 f147
    obtain ⟨_, _, ⟨T209, L209, k209, n209⟩, -, X209, ⟨Lc209, hQ209, l209, y209, z209⟩, st209⟩ := X207.virtualBack hx (y := (⟨"com/example/meshwatch/meshwatch/Relation", "negated", "()Lcom/example/meshwatch/meshwatch/Relation;"⟩ : MethodName)) (z := (⟨"com/example/meshwatch/meshwatch/Relation", "negated", "()Lcom/example/meshwatch/meshwatch/Relation;"⟩ : MethodName)) hown (mvT hZ (hw _ (List.mem_of_getElem? (i := 17) rfl))) (mvT hZ (hw _ (List.mem_of_getElem? (i := 18) rfl))) (notFace_of_selects (args := #[]) (mvT hZ (hw _ (List.mem_of_getElem? (i := 20) rfl)))) (mvT hZ (hw _ (List.mem_of_getElem? (i := 20) rfl))) (mvT hZ (hw _ (List.mem_of_getElem? (i := 19) rfl))) (by decide) (backOf (W := 0) (rmn0 l Z ar hw [] w_LESS w_GREATER_OR_EQUAL h144 n0 z164 f147 f148 f155) hZ (hw _ (List.mem_of_getElem? (i := 21) rfl)) (hw _ (List.mem_of_getElem? (i := 3) rfl)) (by decide) (by decide)) qa209 qc209 (g := (mkF m 77 #[.val (.int p0), .val (.int p1), .val (.int p2), .val (.ref b1), .val (.ref w_GREATER_OR_EQUAL), .val (.double (FP.i2d p1)), .second, .val (.double (FP.i2d p2)), .second, .val (.ref w_LESS)] [(.ref w_LESS)])) rfl (by rw [hml]; rfl) (Steps.refl _) (argsL := []) (rest := []) (lenOf pd0_0 rfl) rfl (by show 2 * 0 + _ ≤ _; exact Nat.le_of_eq rfl) (hb hby at_77) (fun _ _ => ⟨rfl, e207, (by decide : 1 + 0 ≤ _), (by decide : 6 + 0 ≤ _)⟩)
    dsimp only [Pt.U, Pt.locs, Pt.cells, Pt.slots] at X209 l209 y209 z209 st209 hQ209
    subst l209 y209 z209
    obtain ⟨rfl, N209q, e209⟩ := hQ209
    have n210 := Fr.app n208 N209q
    refine own_tr (T' := T209) (g' := (mkF m 80 #[.val (.int p0), .val (.int p1), .val (.int p2), .val (.ref b1), .val (.ref w_GREATER_OR_EQUAL), .val (.double (FP.i2d p1)), .second, .val (.double (FP.i2d p2)), .second, .val (.ref w_LESS)] [(.ref w_GREATER_OR_EQUAL)])) st209 ?_
    refine own_st (T' := T209) (g' := (mkF m 95 #[.val (.int p0), .val (.int p1), .val (.int p2), .val (.ref b1), .val (.ref w_GREATER_OR_EQUAL), .val (.double (FP.i2d p1)), .second, .val (.double (FP.i2d p2)), .second, .val (.ref w_LESS)] [(.double (FP.i2d p2)), (.double (FP.i2d p1)), (.ref w_LESS), (.ref w_GREATER_OR_EQUAL)])) (fun t k => ?_) ?_
    · show Steps p.tables e below (T209.setTop (mkF m 80 #[.val (.int p0), .val (.int p1), .val (.int p2), .val (.ref b1), .val (.ref w_GREATER_OR_EQUAL), .val (.double (FP.i2d p1)), .second, .val (.double (FP.i2d p2)), .second, .val (.ref w_LESS)] [(.ref w_GREATER_OR_EQUAL)])) t
      refine XS.aload X209.here hx rfl (hb hby at_80) rfl rfl ?_
      show Steps p.tables e below (T209.setTop (mkF m 82 #[.val (.int p0), .val (.int p1), .val (.int p2), .val (.ref b1), .val (.ref w_GREATER_OR_EQUAL), .val (.double (FP.i2d p1)), .second, .val (.double (FP.i2d p2)), .second, .val (.ref w_LESS)] [(.ref w_GREATER_OR_EQUAL), (.ref w_GREATER_OR_EQUAL)])) t
      refine Jvm.RoadKit.acmp (g := (mkF m 82 #[.val (.int p0), .val (.int p1), .val (.int p2), .val (.ref b1), .val (.ref w_GREATER_OR_EQUAL), .val (.double (FP.i2d p1)), .second, .val (.double (FP.i2d p2)), .second, .val (.ref w_LESS)] [(.ref w_GREATER_OR_EQUAL), (.ref w_GREATER_OR_EQUAL)])) X209 hx rfl rfl rfl (pc0 := 82) (pc' := 87) (same := true) rfl (hb hby at_82) rfl (decide_eq_true rfl) (by decide) (by decide) ?_
      show Steps p.tables e below (T209.setTop (mkF m 87 #[.val (.int p0), .val (.int p1), .val (.int p2), .val (.ref b1), .val (.ref w_GREATER_OR_EQUAL), .val (.double (FP.i2d p1)), .second, .val (.double (FP.i2d p2)), .second, .val (.ref w_LESS)] [])) t
      refine XS.aload X209.here hx rfl (hb hby at_87) rfl rfl ?_
      show Steps p.tables e below (T209.setTop (mkF m 89 #[.val (.int p0), .val (.int p1), .val (.int p2), .val (.ref b1), .val (.ref w_GREATER_OR_EQUAL), .val (.double (FP.i2d p1)), .second, .val (.double (FP.i2d p2)), .second, .val (.ref w_LESS)] [(.ref w_GREATER_OR_EQUAL)])) t
      refine XS.aload X209.here hx rfl (hb hby at_89) rfl rfl ?_
      show Steps p.tables e below (T209.setTop (mkF m 91 #[.val (.int p0), .val (.int p1), .val (.int p2), .val (.ref b1), .val (.ref w_GREATER_OR_EQUAL), .val (.double (FP.i2d p1)), .second, .val (.double (FP.i2d p2)), .second, .val (.ref w_LESS)] [(.ref w_LESS), (.ref w_GREATER_OR_EQUAL)])) t
      refine XS.dload X209.here hx rfl (hb hby at_91) rfl ?_
      show Steps p.tables e below (T209.setTop (mkF m 93 #[.val (.int p0), .val (.int p1), .val (.int p2), .val (.ref b1), .val (.ref w_GREATER_OR_EQUAL), .val (.double (FP.i2d p1)), .second, .val (.double (FP.i2d p2)), .second, .val (.ref w_LESS)] [(.double (FP.i2d p1)), (.ref w_LESS), (.ref w_GREATER_OR_EQUAL)])) t
      refine XS.dload X209.here hx rfl (hb hby at_93) rfl ?_
      exact k
    obtain ⟨_, _, ⟨T211, L211, k211, n211⟩, -, X211, ⟨Lc211, hQ211, l211, y211, z211⟩, st211⟩ := Jvm.LawKit.callS X209 hx (y := (⟨"com/example/meshwatch/meshwatch/RelationNegatedPinLaw", "complement", "(Lcom/example/meshwatch/meshwatch/Relation;Lcom/example/meshwatch/meshwatch/Relation;DD)Z"⟩ : MethodName)) hown (mvT hZ (hw _ (List.mem_of_getElem? (i := 33) rfl))) (mvT hZ (hw _ (List.mem_of_getElem? (i := 34) rfl))) (mvT hZ (hw _ (List.mem_of_getElem? (i := 35) rfl))) (mvT hZ (hw _ (List.mem_of_getElem? (i := 36) rfl))) (by decide) (backOf (W := 0) (rmc3 l Z ar hw [] w_GREATER_OR_EQUAL w_LESS ((FP.i2d p1)) ((FP.i2d p2)) h144 n0 z164 f156 f157 f147 f148 (own_n3 (own_dy_i2d p1) (own_dy_i2d p2))) hZ (hw _ (List.mem_of_getElem? (i := 36) rfl)) (hw _ (List.mem_of_getElem? (i := 35) rfl)) (by decide) (by decide)) (g := (mkF m 95 #[.val (.int p0), .val (.int p1), .val (.int p2), .val (.ref b1), .val (.ref w_GREATER_OR_EQUAL), .val (.double (FP.i2d p1)), .second, .val (.double (FP.i2d p2)), .second, .val (.ref w_LESS)] [(.double (FP.i2d p2)), (.double (FP.i2d p1)), (.ref w_LESS), (.ref w_GREATER_OR_EQUAL)])) rfl (by rw [hml]; rfl) (argsL := [(.ref w_GREATER_OR_EQUAL), (.ref w_LESS), (.double (FP.i2d p1)), (.double (FP.i2d p2))]) (rest := []) (lenOf pd0_1 rfl) rfl (by show 2 * 0 + _ ≤ _; exact Nat.le_of_eq rfl) (hb hby at_95) (fun _ _ => ⟨rfl, e209, (by decide : 1 + 0 ≤ _), (by decide : 6 + 0 ≤ _)⟩)
    dsimp only [Pt.U, Pt.locs, Pt.cells, Pt.slots] at X211 l211 y211 z211 st211 hQ211
    subst l211 y211 z211
    obtain ⟨rfl, N211q, e211⟩ := hQ211
    have n212 := Fr.app n210 N211q
    refine own_st (T' := T211) (g' := (mkF m 98 #[.val (.int p0), .val (.int p1), .val (.int p2), .val (.ref b1), .val (.ref w_GREATER_OR_EQUAL), .val (.double (FP.i2d p1)), .second, .val (.double (FP.i2d p2)), .second, .val (.ref w_LESS)] [(.int (1 : Int32))])) st211 ?_
    refine own_st (T' := T211) (g' := (mkF m 109 #[.val (.int p0), .val (.int p1), .val (.int p2), .val (.ref b1), .val (.ref w_GREATER_OR_EQUAL), .val (.double (FP.i2d p1)), .second, .val (.double (FP.i2d p2)), .second, .val (.ref w_LESS)] [(.double (FP.i2d p1)), (.double (FP.i2d p1)), (.ref w_LESS), (.ref w_GREATER_OR_EQUAL)])) (fun t k => ?_) ?_
    · show Steps p.tables e below (T211.setTop (mkF m 98 #[.val (.int p0), .val (.int p1), .val (.int p2), .val (.ref b1), .val (.ref w_GREATER_OR_EQUAL), .val (.double (FP.i2d p1)), .second, .val (.double (FP.i2d p2)), .second, .val (.ref w_LESS)] [(.int (1 : Int32))])) t
      refine XS.ifNo X211.here hx rfl (hb hby at_98) rfl (by decide) ?_
      show Steps p.tables e below (T211.setTop (mkF m 101 #[.val (.int p0), .val (.int p1), .val (.int p2), .val (.ref b1), .val (.ref w_GREATER_OR_EQUAL), .val (.double (FP.i2d p1)), .second, .val (.double (FP.i2d p2)), .second, .val (.ref w_LESS)] [])) t
      refine XS.aload X211.here hx rfl (hb hby at_101) rfl rfl ?_
      show Steps p.tables e below (T211.setTop (mkF m 103 #[.val (.int p0), .val (.int p1), .val (.int p2), .val (.ref b1), .val (.ref w_GREATER_OR_EQUAL), .val (.double (FP.i2d p1)), .second, .val (.double (FP.i2d p2)), .second, .val (.ref w_LESS)] [(.ref w_GREATER_OR_EQUAL)])) t
      refine XS.aload X211.here hx rfl (hb hby at_103) rfl rfl ?_
      show Steps p.tables e below (T211.setTop (mkF m 105 #[.val (.int p0), .val (.int p1), .val (.int p2), .val (.ref b1), .val (.ref w_GREATER_OR_EQUAL), .val (.double (FP.i2d p1)), .second, .val (.double (FP.i2d p2)), .second, .val (.ref w_LESS)] [(.ref w_LESS), (.ref w_GREATER_OR_EQUAL)])) t
      refine XS.dload X211.here hx rfl (hb hby at_105) rfl ?_
      show Steps p.tables e below (T211.setTop (mkF m 107 #[.val (.int p0), .val (.int p1), .val (.int p2), .val (.ref b1), .val (.ref w_GREATER_OR_EQUAL), .val (.double (FP.i2d p1)), .second, .val (.double (FP.i2d p2)), .second, .val (.ref w_LESS)] [(.double (FP.i2d p1)), (.ref w_LESS), (.ref w_GREATER_OR_EQUAL)])) t
      refine XS.dload X211.here hx rfl (hb hby at_107) rfl ?_
      exact k
    obtain ⟨_, _, ⟨T213, L213, k213, n213⟩, -, X213, ⟨Lc213, hQ213, l213, y213, z213⟩, st213⟩ := Jvm.LawKit.callS X211 hx (y := (⟨"com/example/meshwatch/meshwatch/RelationNegatedPinLaw", "complement", "(Lcom/example/meshwatch/meshwatch/Relation;Lcom/example/meshwatch/meshwatch/Relation;DD)Z"⟩ : MethodName)) hown (mvT hZ (hw _ (List.mem_of_getElem? (i := 33) rfl))) (mvT hZ (hw _ (List.mem_of_getElem? (i := 34) rfl))) (mvT hZ (hw _ (List.mem_of_getElem? (i := 35) rfl))) (mvT hZ (hw _ (List.mem_of_getElem? (i := 36) rfl))) (by decide) (backOf (W := 0) (rmc3 l Z ar hw [] w_GREATER_OR_EQUAL w_LESS ((FP.i2d p1)) ((FP.i2d p1)) h144 n0 z164 f156 f157 f147 f148 (own_n3 (own_dy_i2d p1) (own_dy_i2d p1))) hZ (hw _ (List.mem_of_getElem? (i := 36) rfl)) (hw _ (List.mem_of_getElem? (i := 35) rfl)) (by decide) (by decide)) (g := (mkF m 109 #[.val (.int p0), .val (.int p1), .val (.int p2), .val (.ref b1), .val (.ref w_GREATER_OR_EQUAL), .val (.double (FP.i2d p1)), .second, .val (.double (FP.i2d p2)), .second, .val (.ref w_LESS)] [(.double (FP.i2d p1)), (.double (FP.i2d p1)), (.ref w_LESS), (.ref w_GREATER_OR_EQUAL)])) rfl (by rw [hml]; rfl) (argsL := [(.ref w_GREATER_OR_EQUAL), (.ref w_LESS), (.double (FP.i2d p1)), (.double (FP.i2d p1))]) (rest := []) (lenOf pd0_1 rfl) rfl (by show 2 * 0 + _ ≤ _; exact Nat.le_of_eq rfl) (hb hby at_109) (fun _ _ => ⟨rfl, e211, (by decide : 1 + 0 ≤ _), (by decide : 6 + 0 ≤ _)⟩)
    dsimp only [Pt.U, Pt.locs, Pt.cells, Pt.slots] at X213 l213 y213 z213 st213 hQ213
    subst l213 y213 z213
    obtain ⟨rfl, N213q, e213⟩ := hQ213
    have n214 := Fr.app n212 N213q
    refine own_st (T' := T213) (g' := (mkF m 112 #[.val (.int p0), .val (.int p1), .val (.int p2), .val (.ref b1), .val (.ref w_GREATER_OR_EQUAL), .val (.double (FP.i2d p1)), .second, .val (.double (FP.i2d p2)), .second, .val (.ref w_LESS)] [(.int (1 : Int32))])) st213 ?_
    refine own_st (T' := T213) (g' := (mkF m 123 #[.val (.int p0), .val (.int p1), .val (.int p2), .val (.ref b1), .val (.ref w_GREATER_OR_EQUAL), .val (.double (FP.i2d p1)), .second, .val (.double (FP.i2d p2)), .second, .val (.ref w_LESS)] [(.double (FP.i2d p1)), (.double (FP.i2d p2)), (.ref w_LESS), (.ref w_GREATER_OR_EQUAL)])) (fun t k => ?_) ?_
    · show Steps p.tables e below (T213.setTop (mkF m 112 #[.val (.int p0), .val (.int p1), .val (.int p2), .val (.ref b1), .val (.ref w_GREATER_OR_EQUAL), .val (.double (FP.i2d p1)), .second, .val (.double (FP.i2d p2)), .second, .val (.ref w_LESS)] [(.int (1 : Int32))])) t
      refine XS.ifNo X213.here hx rfl (hb hby at_112) rfl (by decide) ?_
      show Steps p.tables e below (T213.setTop (mkF m 115 #[.val (.int p0), .val (.int p1), .val (.int p2), .val (.ref b1), .val (.ref w_GREATER_OR_EQUAL), .val (.double (FP.i2d p1)), .second, .val (.double (FP.i2d p2)), .second, .val (.ref w_LESS)] [])) t
      refine XS.aload X213.here hx rfl (hb hby at_115) rfl rfl ?_
      show Steps p.tables e below (T213.setTop (mkF m 117 #[.val (.int p0), .val (.int p1), .val (.int p2), .val (.ref b1), .val (.ref w_GREATER_OR_EQUAL), .val (.double (FP.i2d p1)), .second, .val (.double (FP.i2d p2)), .second, .val (.ref w_LESS)] [(.ref w_GREATER_OR_EQUAL)])) t
      refine XS.aload X213.here hx rfl (hb hby at_117) rfl rfl ?_
      show Steps p.tables e below (T213.setTop (mkF m 119 #[.val (.int p0), .val (.int p1), .val (.int p2), .val (.ref b1), .val (.ref w_GREATER_OR_EQUAL), .val (.double (FP.i2d p1)), .second, .val (.double (FP.i2d p2)), .second, .val (.ref w_LESS)] [(.ref w_LESS), (.ref w_GREATER_OR_EQUAL)])) t
      refine XS.dload X213.here hx rfl (hb hby at_119) rfl ?_
      show Steps p.tables e below (T213.setTop (mkF m 121 #[.val (.int p0), .val (.int p1), .val (.int p2), .val (.ref b1), .val (.ref w_GREATER_OR_EQUAL), .val (.double (FP.i2d p1)), .second, .val (.double (FP.i2d p2)), .second, .val (.ref w_LESS)] [(.double (FP.i2d p2)), (.ref w_LESS), (.ref w_GREATER_OR_EQUAL)])) t
      refine XS.dload X213.here hx rfl (hb hby at_121) rfl ?_
      exact k
    obtain ⟨_, _, ⟨T215, L215, k215, n215⟩, -, X215, ⟨Lc215, hQ215, l215, y215, z215⟩, st215⟩ := Jvm.LawKit.callS X213 hx (y := (⟨"com/example/meshwatch/meshwatch/RelationNegatedPinLaw", "complement", "(Lcom/example/meshwatch/meshwatch/Relation;Lcom/example/meshwatch/meshwatch/Relation;DD)Z"⟩ : MethodName)) hown (mvT hZ (hw _ (List.mem_of_getElem? (i := 33) rfl))) (mvT hZ (hw _ (List.mem_of_getElem? (i := 34) rfl))) (mvT hZ (hw _ (List.mem_of_getElem? (i := 35) rfl))) (mvT hZ (hw _ (List.mem_of_getElem? (i := 36) rfl))) (by decide) (backOf (W := 0) (rmc3 l Z ar hw [] w_GREATER_OR_EQUAL w_LESS ((FP.i2d p2)) ((FP.i2d p1)) h144 n0 z164 f156 f157 f147 f148 (own_n3 (own_dy_i2d p2) (own_dy_i2d p1))) hZ (hw _ (List.mem_of_getElem? (i := 36) rfl)) (hw _ (List.mem_of_getElem? (i := 35) rfl)) (by decide) (by decide)) (g := (mkF m 123 #[.val (.int p0), .val (.int p1), .val (.int p2), .val (.ref b1), .val (.ref w_GREATER_OR_EQUAL), .val (.double (FP.i2d p1)), .second, .val (.double (FP.i2d p2)), .second, .val (.ref w_LESS)] [(.double (FP.i2d p1)), (.double (FP.i2d p2)), (.ref w_LESS), (.ref w_GREATER_OR_EQUAL)])) rfl (by rw [hml]; rfl) (argsL := [(.ref w_GREATER_OR_EQUAL), (.ref w_LESS), (.double (FP.i2d p2)), (.double (FP.i2d p1))]) (rest := []) (lenOf pd0_1 rfl) rfl (by show 2 * 0 + _ ≤ _; exact Nat.le_of_eq rfl) (hb hby at_123) (fun _ _ => ⟨rfl, e213, (by decide : 1 + 0 ≤ _), (by decide : 6 + 0 ≤ _)⟩)
    dsimp only [Pt.U, Pt.locs, Pt.cells, Pt.slots] at X215 l215 y215 z215 st215 hQ215
    subst l215 y215 z215
    obtain ⟨rfl, N215q, e215⟩ := hQ215
    have n216 := Fr.app n214 N215q
    refine own_st (T' := T215) (g' := (mkF m 126 #[.val (.int p0), .val (.int p1), .val (.int p2), .val (.ref b1), .val (.ref w_GREATER_OR_EQUAL), .val (.double (FP.i2d p1)), .second, .val (.double (FP.i2d p2)), .second, .val (.ref w_LESS)] [(.int (1 : Int32))])) st215 ?_
    refine own_st (T' := T215) (g' := (mkF m 134 #[.val (.int p0), .val (.int p1), .val (.int p2), .val (.ref b1), .val (.ref w_GREATER_OR_EQUAL), .val (.double (FP.i2d p1)), .second, .val (.double (FP.i2d p2)), .second, .val (.ref w_LESS)] [(.int (1 : Int32))])) (fun t k => ?_) ?_
    · show Steps p.tables e below (T215.setTop (mkF m 126 #[.val (.int p0), .val (.int p1), .val (.int p2), .val (.ref b1), .val (.ref w_GREATER_OR_EQUAL), .val (.double (FP.i2d p1)), .second, .val (.double (FP.i2d p2)), .second, .val (.ref w_LESS)] [(.int (1 : Int32))])) t
      refine XS.ifNo X215.here hx rfl (hb hby at_126) rfl (by decide) ?_
      show Steps p.tables e below (T215.setTop (mkF m 129 #[.val (.int p0), .val (.int p1), .val (.int p2), .val (.ref b1), .val (.ref w_GREATER_OR_EQUAL), .val (.double (FP.i2d p1)), .second, .val (.double (FP.i2d p2)), .second, .val (.ref w_LESS)] [])) t
      refine XS.iconst X215.here hx rfl (hb hby at_129) ?_
      show Steps p.tables e below (T215.setTop (mkF m 130 #[.val (.int p0), .val (.int p1), .val (.int p2), .val (.ref b1), .val (.ref w_GREATER_OR_EQUAL), .val (.double (FP.i2d p1)), .second, .val (.double (FP.i2d p2)), .second, .val (.ref w_LESS)] [(.int (1 : Int32))])) t
      refine XS.goto X215.here hx rfl (pc0 := 130) (pc' := 134) rfl (hb hby at_130) (by decide) (by decide) ?_
      exact k
    refine own_retZ X215 hx hlk Bd.returns (hb hby at_134) rfl (by decide) (by decide) ?_
    show Q0 Z p0 p1 p2 w_LESS w_LESS_OR_EQUAL w_GREATER w_GREATER_OR_EQUAL w_EQUAL w_NOT_EQUAL h0 n0 (some (.int (1 : Int32))) T215.heap _
    rw [(e215 : T215.heap = h144)]
    exact ⟨rfl, n216⟩
  · rw [hk50_171]
    obtain ⟨c217, r217a, r217b, r217c, r217d, r217e, r217f⟩ := v145
    have i217 : ¬ ((4 : Int32) < 0 ∨ c217.slots.size ≤ ((4 : Int32)).toNatClampNeg) := inb_of r217c ⟨by decide, by decide⟩
    have y217 : c217.slots[((4 : Int32)).toNatClampNeg]? = some (.ref w_EQUAL) := r217e.at i217 rfl
    refine own_st (T' := T144) (g' := (mkF m 63 #[.val (.int p0), .val (.int p1), .val (.int p2), .val (.ref b1), .val (.ref w_EQUAL), .val (.double (FP.i2d p1)), .second, .val (.double (FP.i2d p2)), .second, .unset] [(.ref w_EQUAL)])) (fun t k => ?_) ?_
    · show Steps p.tables e below (T144.setTop (mkF m 50 #[.val (.int p0), .val (.int p1), .val (.int p2), .val (.ref b1), .unset, .unset, .unset, .unset, .unset, .unset] [(.int (4 : Int32)), (.ref b1)])) t
      refine X144.aaload hx (j := (4 : Int32)) (v := (.ref w_EQUAL)) (by rw [e144]; exact r217a.1) (State.isArrayOf_alike hZ.alike r217a.2.1) rfl r217a.2.2 i217 y217 (g := (mkF m 50 #[.val (.int p0), .val (.int p1), .val (.int p2), .val (.ref b1), .unset, .unset, .unset, .unset, .unset, .unset] [(.int (4 : Int32)), (.ref b1)])) rfl rfl (hb hby at_50) _ ?_
      show Steps p.tables e below (T144.setTop (mkF m 51 #[.val (.int p0), .val (.int p1), .val (.int p2), .val (.ref b1), .unset, .unset, .unset, .unset, .unset, .unset] [(.ref w_EQUAL)])) t
      refine XS.astore X144.here hx rfl (hb hby at_51) rfl rfl (l' := #[.val (.int p0), .val (.int p1), .val (.int p2), .val (.ref b1), .val (.ref w_EQUAL), .unset, .unset, .unset, .unset, .unset]) rfl ?_
      show Steps p.tables e below (T144.setTop (mkF m 53 #[.val (.int p0), .val (.int p1), .val (.int p2), .val (.ref b1), .val (.ref w_EQUAL), .unset, .unset, .unset, .unset, .unset] [])) t
      refine XS.iloadN X144.here hx rfl (hb hby at_53) rfl ?_
      show Steps p.tables e below (T144.setTop (mkF m 54 #[.val (.int p0), .val (.int p1), .val (.int p2), .val (.ref b1), .val (.ref w_EQUAL), .unset, .unset, .unset, .unset, .unset] [(.int p1)])) t
      refine XS.i2dS X144.here hx rfl (hb hby at_54) rfl rfl ?_
      show Steps p.tables e below (T144.setTop (mkF m 55 #[.val (.int p0), .val (.int p1), .val (.int p2), .val (.ref b1), .val (.ref w_EQUAL), .unset, .unset, .unset, .unset, .unset] [(.double (FP.i2d p1))])) t
      refine XS.dstore X144.here hx rfl (hb hby at_55) rfl (l' := #[.val (.int p0), .val (.int p1), .val (.int p2), .val (.ref b1), .val (.ref w_EQUAL), .val (.double (FP.i2d p1)), .second, .unset, .unset, .unset]) rfl ?_
      show Steps p.tables e below (T144.setTop (mkF m 57 #[.val (.int p0), .val (.int p1), .val (.int p2), .val (.ref b1), .val (.ref w_EQUAL), .val (.double (FP.i2d p1)), .second, .unset, .unset, .unset] [])) t
      refine XS.iloadN X144.here hx rfl (hb hby at_57) rfl ?_
      show Steps p.tables e below (T144.setTop (mkF m 58 #[.val (.int p0), .val (.int p1), .val (.int p2), .val (.ref b1), .val (.ref w_EQUAL), .val (.double (FP.i2d p1)), .second, .unset, .unset, .unset] [(.int p2)])) t
      refine XS.i2dS X144.here hx rfl (hb hby at_58) rfl rfl ?_
      show Steps p.tables e below (T144.setTop (mkF m 59 #[.val (.int p0), .val (.int p1), .val (.int p2), .val (.ref b1), .val (.ref w_EQUAL), .val (.double (FP.i2d p1)), .second, .unset, .unset, .unset] [(.double (FP.i2d p2))])) t
      refine XS.dstore X144.here hx rfl (hb hby at_59) rfl (l' := #[.val (.int p0), .val (.int p1), .val (.int p2), .val (.ref b1), .val (.ref w_EQUAL), .val (.double (FP.i2d p1)), .second, .val (.double (FP.i2d p2)), .second, .unset]) rfl ?_
      show Steps p.tables e below (T144.setTop (mkF m 61 #[.val (.int p0), .val (.int p1), .val (.int p2), .val (.ref b1), .val (.ref w_EQUAL), .val (.double (FP.i2d p1)), .second, .val (.double (FP.i2d p2)), .second, .unset] [])) t
      refine XS.aload X144.here hx rfl (hb hby at_61) rfl rfl ?_
      exact k
    obtain ⟨cq218, kq218, qa218, qb218, qc218⟩ := isOf hZ e144 f159
    obtain ⟨_, _, ⟨T218, L218, k218, n218⟩, -, X218, ⟨Lc218, hQ218, l218, y218, z218⟩, st218⟩ := X144.virtualBack hx (y := (⟨"com/example/meshwatch/meshwatch/Relation", "negated", "()Lcom/example/meshwatch/meshwatch/Relation;"⟩ : MethodName)) (z := (⟨"com/example/meshwatch/meshwatch/Relation", "negated", "()Lcom/example/meshwatch/meshwatch/Relation;"⟩ : MethodName)) hown (mvT hZ (hw _ (List.mem_of_getElem? (i := 17) rfl))) (mvT hZ (hw _ (List.mem_of_getElem? (i := 18) rfl))) (notFace_of_selects (args := #[]) (mvT hZ (hw _ (List.mem_of_getElem? (i := 20) rfl)))) (mvT hZ (hw _ (List.mem_of_getElem? (i := 20) rfl))) (mvT hZ (hw _ (List.mem_of_getElem? (i := 19) rfl))) (by decide) (backOf (W := 0) (rmn4 l Z ar hw [] w_EQUAL w_NOT_EQUAL h144 n0 z164 f159 f160 f161) hZ (hw _ (List.mem_of_getElem? (i := 21) rfl)) (hw _ (List.mem_of_getElem? (i := 3) rfl)) (by decide) (by decide)) qa218 qc218 (g := (mkF m 63 #[.val (.int p0), .val (.int p1), .val (.int p2), .val (.ref b1), .val (.ref w_EQUAL), .val (.double (FP.i2d p1)), .second, .val (.double (FP.i2d p2)), .second, .unset] [(.ref w_EQUAL)])) rfl (by rw [hml]; rfl) (Steps.refl _) (argsL := []) (rest := []) (lenOf pd0_0 rfl) rfl (by show 2 * 0 + _ ≤ _; exact Nat.le_of_eq rfl) (hb hby at_63) (fun _ _ => ⟨rfl, e144, (by decide : 1 + 0 ≤ _), (by decide : 6 + 0 ≤ _)⟩)
    dsimp only [Pt.U, Pt.locs, Pt.cells, Pt.slots] at X218 l218 y218 z218 st218 hQ218
    subst l218 y218 z218
    obtain ⟨rfl, N218q, e218⟩ := hQ218
    have n219 := Fr.app n166 N218q
    refine own_tr (T' := T218) (g' := (mkF m 66 #[.val (.int p0), .val (.int p1), .val (.int p2), .val (.ref b1), .val (.ref w_EQUAL), .val (.double (FP.i2d p1)), .second, .val (.double (FP.i2d p2)), .second, .unset] [(.ref w_NOT_EQUAL)])) st218 ?_
    refine own_st (T' := T218) (g' := (mkF m 77 #[.val (.int p0), .val (.int p1), .val (.int p2), .val (.ref b1), .val (.ref w_EQUAL), .val (.double (FP.i2d p1)), .second, .val (.double (FP.i2d p2)), .second, .val (.ref w_NOT_EQUAL)] [(.ref w_NOT_EQUAL)])) (fun t k => ?_) ?_
    · show Steps p.tables e below (T218.setTop (mkF m 66 #[.val (.int p0), .val (.int p1), .val (.int p2), .val (.ref b1), .val (.ref w_EQUAL), .val (.double (FP.i2d p1)), .second, .val (.double (FP.i2d p2)), .second, .unset] [(.ref w_NOT_EQUAL)])) t
      refine XS.astore X218.here hx rfl (hb hby at_66) rfl rfl (l' := #[.val (.int p0), .val (.int p1), .val (.int p2), .val (.ref b1), .val (.ref w_EQUAL), .val (.double (FP.i2d p1)), .second, .val (.double (FP.i2d p2)), .second, .val (.ref w_NOT_EQUAL)]) rfl ?_
      show Steps p.tables e below (T218.setTop (mkF m 68 #[.val (.int p0), .val (.int p1), .val (.int p2), .val (.ref b1), .val (.ref w_EQUAL), .val (.double (FP.i2d p1)), .second, .val (.double (FP.i2d p2)), .second, .val (.ref w_NOT_EQUAL)] [])) t
      refine XS.aload X218.here hx rfl (hb hby at_68) rfl rfl ?_
      show Steps p.tables e below (T218.setTop (mkF m 70 #[.val (.int p0), .val (.int p1), .val (.int p2), .val (.ref b1), .val (.ref w_EQUAL), .val (.double (FP.i2d p1)), .second, .val (.double (FP.i2d p2)), .second, .val (.ref w_NOT_EQUAL)] [(.ref w_NOT_EQUAL)])) t
      refine XS.ifnonnullYes X218.here hx rfl (pc0 := 70) (pc' := 75) rfl (hb hby at_70) rfl (by decide) (by decide) ?_
      show Steps p.tables e below (T218.setTop (mkF m 75 #[.val (.int p0), .val (.int p1), .val (.int p2), .val (.ref b1), .val (.ref w_EQUAL), .val (.double (FP.i2d p1)), .second, .val (.double (FP.i2d p2)), .second, .val (.ref w_NOT_EQUAL)] [])) t
      refine XS.aload X218.here hx rfl (hb hby at_75) rfl rfl ?_
      exact k
    obtain ⟨cq220, kq220, qa220, qb220, qc220⟩ := isOf hZ e218 f162
    obtain ⟨_, _, ⟨T220, L220, k220, n220⟩, -, X220, ⟨Lc220, hQ220, l220, y220, z220⟩, st220⟩ := X218.virtualBack hx (y := (⟨"com/example/meshwatch/meshwatch/Relation", "negated", "()Lcom/example/meshwatch/meshwatch/Relation;"⟩ : MethodName)) (z := (⟨"com/example/meshwatch/meshwatch/Relation", "negated", "()Lcom/example/meshwatch/meshwatch/Relation;"⟩ : MethodName)) hown (mvT hZ (hw _ (List.mem_of_getElem? (i := 17) rfl))) (mvT hZ (hw _ (List.mem_of_getElem? (i := 18) rfl))) (notFace_of_selects (args := #[]) (mvT hZ (hw _ (List.mem_of_getElem? (i := 20) rfl)))) (mvT hZ (hw _ (List.mem_of_getElem? (i := 20) rfl))) (mvT hZ (hw _ (List.mem_of_getElem? (i := 19) rfl))) (by decide) (backOf (W := 0) (rmn5 l Z ar hw [] w_NOT_EQUAL w_EQUAL h144 n0 z164 f162 f163 f158) hZ (hw _ (List.mem_of_getElem? (i := 21) rfl)) (hw _ (List.mem_of_getElem? (i := 3) rfl)) (by decide) (by decide)) qa220 qc220 (g := (mkF m 77 #[.val (.int p0), .val (.int p1), .val (.int p2), .val (.ref b1), .val (.ref w_EQUAL), .val (.double (FP.i2d p1)), .second, .val (.double (FP.i2d p2)), .second, .val (.ref w_NOT_EQUAL)] [(.ref w_NOT_EQUAL)])) rfl (by rw [hml]; rfl) (Steps.refl _) (argsL := []) (rest := []) (lenOf pd0_0 rfl) rfl (by show 2 * 0 + _ ≤ _; exact Nat.le_of_eq rfl) (hb hby at_77) (fun _ _ => ⟨rfl, e218, (by decide : 1 + 0 ≤ _), (by decide : 6 + 0 ≤ _)⟩)
    dsimp only [Pt.U, Pt.locs, Pt.cells, Pt.slots] at X220 l220 y220 z220 st220 hQ220
    subst l220 y220 z220
    obtain ⟨rfl, N220q, e220⟩ := hQ220
    have n221 := Fr.app n219 N220q
    refine own_tr (T' := T220) (g' := (mkF m 80 #[.val (.int p0), .val (.int p1), .val (.int p2), .val (.ref b1), .val (.ref w_EQUAL), .val (.double (FP.i2d p1)), .second, .val (.double (FP.i2d p2)), .second, .val (.ref w_NOT_EQUAL)] [(.ref w_EQUAL)])) st220 ?_
    refine own_st (T' := T220) (g' := (mkF m 95 #[.val (.int p0), .val (.int p1), .val (.int p2), .val (.ref b1), .val (.ref w_EQUAL), .val (.double (FP.i2d p1)), .second, .val (.double (FP.i2d p2)), .second, .val (.ref w_NOT_EQUAL)] [(.double (FP.i2d p2)), (.double (FP.i2d p1)), (.ref w_NOT_EQUAL), (.ref w_EQUAL)])) (fun t k => ?_) ?_
    · show Steps p.tables e below (T220.setTop (mkF m 80 #[.val (.int p0), .val (.int p1), .val (.int p2), .val (.ref b1), .val (.ref w_EQUAL), .val (.double (FP.i2d p1)), .second, .val (.double (FP.i2d p2)), .second, .val (.ref w_NOT_EQUAL)] [(.ref w_EQUAL)])) t
      refine XS.aload X220.here hx rfl (hb hby at_80) rfl rfl ?_
      show Steps p.tables e below (T220.setTop (mkF m 82 #[.val (.int p0), .val (.int p1), .val (.int p2), .val (.ref b1), .val (.ref w_EQUAL), .val (.double (FP.i2d p1)), .second, .val (.double (FP.i2d p2)), .second, .val (.ref w_NOT_EQUAL)] [(.ref w_EQUAL), (.ref w_EQUAL)])) t
      refine Jvm.RoadKit.acmp (g := (mkF m 82 #[.val (.int p0), .val (.int p1), .val (.int p2), .val (.ref b1), .val (.ref w_EQUAL), .val (.double (FP.i2d p1)), .second, .val (.double (FP.i2d p2)), .second, .val (.ref w_NOT_EQUAL)] [(.ref w_EQUAL), (.ref w_EQUAL)])) X220 hx rfl rfl rfl (pc0 := 82) (pc' := 87) (same := true) rfl (hb hby at_82) rfl (decide_eq_true rfl) (by decide) (by decide) ?_
      show Steps p.tables e below (T220.setTop (mkF m 87 #[.val (.int p0), .val (.int p1), .val (.int p2), .val (.ref b1), .val (.ref w_EQUAL), .val (.double (FP.i2d p1)), .second, .val (.double (FP.i2d p2)), .second, .val (.ref w_NOT_EQUAL)] [])) t
      refine XS.aload X220.here hx rfl (hb hby at_87) rfl rfl ?_
      show Steps p.tables e below (T220.setTop (mkF m 89 #[.val (.int p0), .val (.int p1), .val (.int p2), .val (.ref b1), .val (.ref w_EQUAL), .val (.double (FP.i2d p1)), .second, .val (.double (FP.i2d p2)), .second, .val (.ref w_NOT_EQUAL)] [(.ref w_EQUAL)])) t
      refine XS.aload X220.here hx rfl (hb hby at_89) rfl rfl ?_
      show Steps p.tables e below (T220.setTop (mkF m 91 #[.val (.int p0), .val (.int p1), .val (.int p2), .val (.ref b1), .val (.ref w_EQUAL), .val (.double (FP.i2d p1)), .second, .val (.double (FP.i2d p2)), .second, .val (.ref w_NOT_EQUAL)] [(.ref w_NOT_EQUAL), (.ref w_EQUAL)])) t
      refine XS.dload X220.here hx rfl (hb hby at_91) rfl ?_
      show Steps p.tables e below (T220.setTop (mkF m 93 #[.val (.int p0), .val (.int p1), .val (.int p2), .val (.ref b1), .val (.ref w_EQUAL), .val (.double (FP.i2d p1)), .second, .val (.double (FP.i2d p2)), .second, .val (.ref w_NOT_EQUAL)] [(.double (FP.i2d p1)), (.ref w_NOT_EQUAL), (.ref w_EQUAL)])) t
      refine XS.dload X220.here hx rfl (hb hby at_93) rfl ?_
      exact k
    obtain ⟨_, _, ⟨T222, L222, k222, n222⟩, -, X222, ⟨Lc222, hQ222, l222, y222, z222⟩, st222⟩ := Jvm.LawKit.callS X220 hx (y := (⟨"com/example/meshwatch/meshwatch/RelationNegatedPinLaw", "complement", "(Lcom/example/meshwatch/meshwatch/Relation;Lcom/example/meshwatch/meshwatch/Relation;DD)Z"⟩ : MethodName)) hown (mvT hZ (hw _ (List.mem_of_getElem? (i := 33) rfl))) (mvT hZ (hw _ (List.mem_of_getElem? (i := 34) rfl))) (mvT hZ (hw _ (List.mem_of_getElem? (i := 35) rfl))) (mvT hZ (hw _ (List.mem_of_getElem? (i := 36) rfl))) (by decide) (backOf (W := 0) (rmc4 l Z ar hw [] w_EQUAL w_NOT_EQUAL ((FP.i2d p1)) ((FP.i2d p2)) h144 n0 z164 f159 f160 f162 f163 (own_n4 (own_dy_i2d p1) (own_dy_i2d p2))) hZ (hw _ (List.mem_of_getElem? (i := 36) rfl)) (hw _ (List.mem_of_getElem? (i := 35) rfl)) (by decide) (by decide)) (g := (mkF m 95 #[.val (.int p0), .val (.int p1), .val (.int p2), .val (.ref b1), .val (.ref w_EQUAL), .val (.double (FP.i2d p1)), .second, .val (.double (FP.i2d p2)), .second, .val (.ref w_NOT_EQUAL)] [(.double (FP.i2d p2)), (.double (FP.i2d p1)), (.ref w_NOT_EQUAL), (.ref w_EQUAL)])) rfl (by rw [hml]; rfl) (argsL := [(.ref w_EQUAL), (.ref w_NOT_EQUAL), (.double (FP.i2d p1)), (.double (FP.i2d p2))]) (rest := []) (lenOf pd0_1 rfl) rfl (by show 2 * 0 + _ ≤ _; exact Nat.le_of_eq rfl) (hb hby at_95) (fun _ _ => ⟨rfl, e220, (by decide : 1 + 0 ≤ _), (by decide : 6 + 0 ≤ _)⟩)
    dsimp only [Pt.U, Pt.locs, Pt.cells, Pt.slots] at X222 l222 y222 z222 st222 hQ222
    subst l222 y222 z222
    obtain ⟨rfl, N222q, e222⟩ := hQ222
    have n223 := Fr.app n221 N222q
    refine own_st (T' := T222) (g' := (mkF m 98 #[.val (.int p0), .val (.int p1), .val (.int p2), .val (.ref b1), .val (.ref w_EQUAL), .val (.double (FP.i2d p1)), .second, .val (.double (FP.i2d p2)), .second, .val (.ref w_NOT_EQUAL)] [(.int (1 : Int32))])) st222 ?_
    refine own_st (T' := T222) (g' := (mkF m 109 #[.val (.int p0), .val (.int p1), .val (.int p2), .val (.ref b1), .val (.ref w_EQUAL), .val (.double (FP.i2d p1)), .second, .val (.double (FP.i2d p2)), .second, .val (.ref w_NOT_EQUAL)] [(.double (FP.i2d p1)), (.double (FP.i2d p1)), (.ref w_NOT_EQUAL), (.ref w_EQUAL)])) (fun t k => ?_) ?_
    · show Steps p.tables e below (T222.setTop (mkF m 98 #[.val (.int p0), .val (.int p1), .val (.int p2), .val (.ref b1), .val (.ref w_EQUAL), .val (.double (FP.i2d p1)), .second, .val (.double (FP.i2d p2)), .second, .val (.ref w_NOT_EQUAL)] [(.int (1 : Int32))])) t
      refine XS.ifNo X222.here hx rfl (hb hby at_98) rfl (by decide) ?_
      show Steps p.tables e below (T222.setTop (mkF m 101 #[.val (.int p0), .val (.int p1), .val (.int p2), .val (.ref b1), .val (.ref w_EQUAL), .val (.double (FP.i2d p1)), .second, .val (.double (FP.i2d p2)), .second, .val (.ref w_NOT_EQUAL)] [])) t
      refine XS.aload X222.here hx rfl (hb hby at_101) rfl rfl ?_
      show Steps p.tables e below (T222.setTop (mkF m 103 #[.val (.int p0), .val (.int p1), .val (.int p2), .val (.ref b1), .val (.ref w_EQUAL), .val (.double (FP.i2d p1)), .second, .val (.double (FP.i2d p2)), .second, .val (.ref w_NOT_EQUAL)] [(.ref w_EQUAL)])) t
      refine XS.aload X222.here hx rfl (hb hby at_103) rfl rfl ?_
      show Steps p.tables e below (T222.setTop (mkF m 105 #[.val (.int p0), .val (.int p1), .val (.int p2), .val (.ref b1), .val (.ref w_EQUAL), .val (.double (FP.i2d p1)), .second, .val (.double (FP.i2d p2)), .second, .val (.ref w_NOT_EQUAL)] [(.ref w_NOT_EQUAL), (.ref w_EQUAL)])) t
      refine XS.dload X222.here hx rfl (hb hby at_105) rfl ?_
      show Steps p.tables e below (T222.setTop (mkF m 107 #[.val (.int p0), .val (.int p1), .val (.int p2), .val (.ref b1), .val (.ref w_EQUAL), .val (.double (FP.i2d p1)), .second, .val (.double (FP.i2d p2)), .second, .val (.ref w_NOT_EQUAL)] [(.double (FP.i2d p1)), (.ref w_NOT_EQUAL), (.ref w_EQUAL)])) t
      refine XS.dload X222.here hx rfl (hb hby at_107) rfl ?_
      exact k
    obtain ⟨_, _, ⟨T224, L224, k224, n224⟩, -, X224, ⟨Lc224, hQ224, l224, y224, z224⟩, st224⟩ := Jvm.LawKit.callS X222 hx (y := (⟨"com/example/meshwatch/meshwatch/RelationNegatedPinLaw", "complement", "(Lcom/example/meshwatch/meshwatch/Relation;Lcom/example/meshwatch/meshwatch/Relation;DD)Z"⟩ : MethodName)) hown (mvT hZ (hw _ (List.mem_of_getElem? (i := 33) rfl))) (mvT hZ (hw _ (List.mem_of_getElem? (i := 34) rfl))) (mvT hZ (hw _ (List.mem_of_getElem? (i := 35) rfl))) (mvT hZ (hw _ (List.mem_of_getElem? (i := 36) rfl))) (by decide) (backOf (W := 0) (rmc4 l Z ar hw [] w_EQUAL w_NOT_EQUAL ((FP.i2d p1)) ((FP.i2d p1)) h144 n0 z164 f159 f160 f162 f163 (own_n4 (own_dy_i2d p1) (own_dy_i2d p1))) hZ (hw _ (List.mem_of_getElem? (i := 36) rfl)) (hw _ (List.mem_of_getElem? (i := 35) rfl)) (by decide) (by decide)) (g := (mkF m 109 #[.val (.int p0), .val (.int p1), .val (.int p2), .val (.ref b1), .val (.ref w_EQUAL), .val (.double (FP.i2d p1)), .second, .val (.double (FP.i2d p2)), .second, .val (.ref w_NOT_EQUAL)] [(.double (FP.i2d p1)), (.double (FP.i2d p1)), (.ref w_NOT_EQUAL), (.ref w_EQUAL)])) rfl (by rw [hml]; rfl) (argsL := [(.ref w_EQUAL), (.ref w_NOT_EQUAL), (.double (FP.i2d p1)), (.double (FP.i2d p1))]) (rest := []) (lenOf pd0_1 rfl) rfl (by show 2 * 0 + _ ≤ _; exact Nat.le_of_eq rfl) (hb hby at_109) (fun _ _ => ⟨rfl, e222, (by decide : 1 + 0 ≤ _), (by decide : 6 + 0 ≤ _)⟩)
    dsimp only [Pt.U, Pt.locs, Pt.cells, Pt.slots] at X224 l224 y224 z224 st224 hQ224
    subst l224 y224 z224
    obtain ⟨rfl, N224q, e224⟩ := hQ224
    have n225 := Fr.app n223 N224q
    refine own_st (T' := T224) (g' := (mkF m 112 #[.val (.int p0), .val (.int p1), .val (.int p2), .val (.ref b1), .val (.ref w_EQUAL), .val (.double (FP.i2d p1)), .second, .val (.double (FP.i2d p2)), .second, .val (.ref w_NOT_EQUAL)] [(.int (1 : Int32))])) st224 ?_
    refine own_st (T' := T224) (g' := (mkF m 123 #[.val (.int p0), .val (.int p1), .val (.int p2), .val (.ref b1), .val (.ref w_EQUAL), .val (.double (FP.i2d p1)), .second, .val (.double (FP.i2d p2)), .second, .val (.ref w_NOT_EQUAL)] [(.double (FP.i2d p1)), (.double (FP.i2d p2)), (.ref w_NOT_EQUAL), (.ref w_EQUAL)])) (fun t k => ?_) ?_
    · show Steps p.tables e below (T224.setTop (mkF m 112 #[.val (.int p0), .val (.int p1), .val (.int p2), .val (.ref b1), .val (.ref w_EQUAL), .val (.double (FP.i2d p1)), .second, .val (.double (FP.i2d p2)), .second, .val (.ref w_NOT_EQUAL)] [(.int (1 : Int32))])) t
      refine XS.ifNo X224.here hx rfl (hb hby at_112) rfl (by decide) ?_
      show Steps p.tables e below (T224.setTop (mkF m 115 #[.val (.int p0), .val (.int p1), .val (.int p2), .val (.ref b1), .val (.ref w_EQUAL), .val (.double (FP.i2d p1)), .second, .val (.double (FP.i2d p2)), .second, .val (.ref w_NOT_EQUAL)] [])) t
      refine XS.aload X224.here hx rfl (hb hby at_115) rfl rfl ?_
      show Steps p.tables e below (T224.setTop (mkF m 117 #[.val (.int p0), .val (.int p1), .val (.int p2), .val (.ref b1), .val (.ref w_EQUAL), .val (.double (FP.i2d p1)), .second, .val (.double (FP.i2d p2)), .second, .val (.ref w_NOT_EQUAL)] [(.ref w_EQUAL)])) t
      refine XS.aload X224.here hx rfl (hb hby at_117) rfl rfl ?_
      show Steps p.tables e below (T224.setTop (mkF m 119 #[.val (.int p0), .val (.int p1), .val (.int p2), .val (.ref b1), .val (.ref w_EQUAL), .val (.double (FP.i2d p1)), .second, .val (.double (FP.i2d p2)), .second, .val (.ref w_NOT_EQUAL)] [(.ref w_NOT_EQUAL), (.ref w_EQUAL)])) t
      refine XS.dload X224.here hx rfl (hb hby at_119) rfl ?_
      show Steps p.tables e below (T224.setTop (mkF m 121 #[.val (.int p0), .val (.int p1), .val (.int p2), .val (.ref b1), .val (.ref w_EQUAL), .val (.double (FP.i2d p1)), .second, .val (.double (FP.i2d p2)), .second, .val (.ref w_NOT_EQUAL)] [(.double (FP.i2d p2)), (.ref w_NOT_EQUAL), (.ref w_EQUAL)])) t
      refine XS.dload X224.here hx rfl (hb hby at_121) rfl ?_
      exact k
    obtain ⟨_, _, ⟨T226, L226, k226, n226⟩, -, X226, ⟨Lc226, hQ226, l226, y226, z226⟩, st226⟩ := Jvm.LawKit.callS X224 hx (y := (⟨"com/example/meshwatch/meshwatch/RelationNegatedPinLaw", "complement", "(Lcom/example/meshwatch/meshwatch/Relation;Lcom/example/meshwatch/meshwatch/Relation;DD)Z"⟩ : MethodName)) hown (mvT hZ (hw _ (List.mem_of_getElem? (i := 33) rfl))) (mvT hZ (hw _ (List.mem_of_getElem? (i := 34) rfl))) (mvT hZ (hw _ (List.mem_of_getElem? (i := 35) rfl))) (mvT hZ (hw _ (List.mem_of_getElem? (i := 36) rfl))) (by decide) (backOf (W := 0) (rmc4 l Z ar hw [] w_EQUAL w_NOT_EQUAL ((FP.i2d p2)) ((FP.i2d p1)) h144 n0 z164 f159 f160 f162 f163 (own_n4 (own_dy_i2d p2) (own_dy_i2d p1))) hZ (hw _ (List.mem_of_getElem? (i := 36) rfl)) (hw _ (List.mem_of_getElem? (i := 35) rfl)) (by decide) (by decide)) (g := (mkF m 123 #[.val (.int p0), .val (.int p1), .val (.int p2), .val (.ref b1), .val (.ref w_EQUAL), .val (.double (FP.i2d p1)), .second, .val (.double (FP.i2d p2)), .second, .val (.ref w_NOT_EQUAL)] [(.double (FP.i2d p1)), (.double (FP.i2d p2)), (.ref w_NOT_EQUAL), (.ref w_EQUAL)])) rfl (by rw [hml]; rfl) (argsL := [(.ref w_EQUAL), (.ref w_NOT_EQUAL), (.double (FP.i2d p2)), (.double (FP.i2d p1))]) (rest := []) (lenOf pd0_1 rfl) rfl (by show 2 * 0 + _ ≤ _; exact Nat.le_of_eq rfl) (hb hby at_123) (fun _ _ => ⟨rfl, e224, (by decide : 1 + 0 ≤ _), (by decide : 6 + 0 ≤ _)⟩)
    dsimp only [Pt.U, Pt.locs, Pt.cells, Pt.slots] at X226 l226 y226 z226 st226 hQ226
    subst l226 y226 z226
    obtain ⟨rfl, N226q, e226⟩ := hQ226
    have n227 := Fr.app n225 N226q
    refine own_st (T' := T226) (g' := (mkF m 126 #[.val (.int p0), .val (.int p1), .val (.int p2), .val (.ref b1), .val (.ref w_EQUAL), .val (.double (FP.i2d p1)), .second, .val (.double (FP.i2d p2)), .second, .val (.ref w_NOT_EQUAL)] [(.int (1 : Int32))])) st226 ?_
    refine own_st (T' := T226) (g' := (mkF m 134 #[.val (.int p0), .val (.int p1), .val (.int p2), .val (.ref b1), .val (.ref w_EQUAL), .val (.double (FP.i2d p1)), .second, .val (.double (FP.i2d p2)), .second, .val (.ref w_NOT_EQUAL)] [(.int (1 : Int32))])) (fun t k => ?_) ?_
    · show Steps p.tables e below (T226.setTop (mkF m 126 #[.val (.int p0), .val (.int p1), .val (.int p2), .val (.ref b1), .val (.ref w_EQUAL), .val (.double (FP.i2d p1)), .second, .val (.double (FP.i2d p2)), .second, .val (.ref w_NOT_EQUAL)] [(.int (1 : Int32))])) t
      refine XS.ifNo X226.here hx rfl (hb hby at_126) rfl (by decide) ?_
      show Steps p.tables e below (T226.setTop (mkF m 129 #[.val (.int p0), .val (.int p1), .val (.int p2), .val (.ref b1), .val (.ref w_EQUAL), .val (.double (FP.i2d p1)), .second, .val (.double (FP.i2d p2)), .second, .val (.ref w_NOT_EQUAL)] [])) t
      refine XS.iconst X226.here hx rfl (hb hby at_129) ?_
      show Steps p.tables e below (T226.setTop (mkF m 130 #[.val (.int p0), .val (.int p1), .val (.int p2), .val (.ref b1), .val (.ref w_EQUAL), .val (.double (FP.i2d p1)), .second, .val (.double (FP.i2d p2)), .second, .val (.ref w_NOT_EQUAL)] [(.int (1 : Int32))])) t
      refine XS.goto X226.here hx rfl (pc0 := 130) (pc' := 134) rfl (hb hby at_130) (by decide) (by decide) ?_
      exact k
    refine own_retZ X226 hx hlk Bd.returns (hb hby at_134) rfl (by decide) (by decide) ?_
    show Q0 Z p0 p1 p2 w_LESS w_LESS_OR_EQUAL w_GREATER w_GREATER_OR_EQUAL w_EQUAL w_NOT_EQUAL h0 n0 (some (.int (1 : Int32))) T226.heap _
    rw [(e226 : T226.heap = h144)]
    exact ⟨rfl, n227⟩
  · rw [hk50_172]
    obtain ⟨c228, r228a, r228b, r228c, r228d, r228e, r228f⟩ := v145
    have i228 : ¬ ((5 : Int32) < 0 ∨ c228.slots.size ≤ ((5 : Int32)).toNatClampNeg) := inb_of r228c ⟨by decide, by decide⟩
    have y228 : c228.slots[((5 : Int32)).toNatClampNeg]? = some (.ref w_NOT_EQUAL) := r228e.at i228 rfl
    refine own_st (T' := T144) (g' := (mkF m 63 #[.val (.int p0), .val (.int p1), .val (.int p2), .val (.ref b1), .val (.ref w_NOT_EQUAL), .val (.double (FP.i2d p1)), .second, .val (.double (FP.i2d p2)), .second, .unset] [(.ref w_NOT_EQUAL)])) (fun t k => ?_) ?_
    · show Steps p.tables e below (T144.setTop (mkF m 50 #[.val (.int p0), .val (.int p1), .val (.int p2), .val (.ref b1), .unset, .unset, .unset, .unset, .unset, .unset] [(.int (5 : Int32)), (.ref b1)])) t
      refine X144.aaload hx (j := (5 : Int32)) (v := (.ref w_NOT_EQUAL)) (by rw [e144]; exact r228a.1) (State.isArrayOf_alike hZ.alike r228a.2.1) rfl r228a.2.2 i228 y228 (g := (mkF m 50 #[.val (.int p0), .val (.int p1), .val (.int p2), .val (.ref b1), .unset, .unset, .unset, .unset, .unset, .unset] [(.int (5 : Int32)), (.ref b1)])) rfl rfl (hb hby at_50) _ ?_
      show Steps p.tables e below (T144.setTop (mkF m 51 #[.val (.int p0), .val (.int p1), .val (.int p2), .val (.ref b1), .unset, .unset, .unset, .unset, .unset, .unset] [(.ref w_NOT_EQUAL)])) t
      refine XS.astore X144.here hx rfl (hb hby at_51) rfl rfl (l' := #[.val (.int p0), .val (.int p1), .val (.int p2), .val (.ref b1), .val (.ref w_NOT_EQUAL), .unset, .unset, .unset, .unset, .unset]) rfl ?_
      show Steps p.tables e below (T144.setTop (mkF m 53 #[.val (.int p0), .val (.int p1), .val (.int p2), .val (.ref b1), .val (.ref w_NOT_EQUAL), .unset, .unset, .unset, .unset, .unset] [])) t
      refine XS.iloadN X144.here hx rfl (hb hby at_53) rfl ?_
      show Steps p.tables e below (T144.setTop (mkF m 54 #[.val (.int p0), .val (.int p1), .val (.int p2), .val (.ref b1), .val (.ref w_NOT_EQUAL), .unset, .unset, .unset, .unset, .unset] [(.int p1)])) t
      refine XS.i2dS X144.here hx rfl (hb hby at_54) rfl rfl ?_
      show Steps p.tables e below (T144.setTop (mkF m 55 #[.val (.int p0), .val (.int p1), .val (.int p2), .val (.ref b1), .val (.ref w_NOT_EQUAL), .unset, .unset, .unset, .unset, .unset] [(.double (FP.i2d p1))])) t
      refine XS.dstore X144.here hx rfl (hb hby at_55) rfl (l' := #[.val (.int p0), .val (.int p1), .val (.int p2), .val (.ref b1), .val (.ref w_NOT_EQUAL), .val (.double (FP.i2d p1)), .second, .unset, .unset, .unset]) rfl ?_
      show Steps p.tables e below (T144.setTop (mkF m 57 #[.val (.int p0), .val (.int p1), .val (.int p2), .val (.ref b1), .val (.ref w_NOT_EQUAL), .val (.double (FP.i2d p1)), .second, .unset, .unset, .unset] [])) t
      refine XS.iloadN X144.here hx rfl (hb hby at_57) rfl ?_
      show Steps p.tables e below (T144.setTop (mkF m 58 #[.val (.int p0), .val (.int p1), .val (.int p2), .val (.ref b1), .val (.ref w_NOT_EQUAL), .val (.double (FP.i2d p1)), .second, .unset, .unset, .unset] [(.int p2)])) t
      refine XS.i2dS X144.here hx rfl (hb hby at_58) rfl rfl ?_
      show Steps p.tables e below (T144.setTop (mkF m 59 #[.val (.int p0), .val (.int p1), .val (.int p2), .val (.ref b1), .val (.ref w_NOT_EQUAL), .val (.double (FP.i2d p1)), .second, .unset, .unset, .unset] [(.double (FP.i2d p2))])) t
      refine XS.dstore X144.here hx rfl (hb hby at_59) rfl (l' := #[.val (.int p0), .val (.int p1), .val (.int p2), .val (.ref b1), .val (.ref w_NOT_EQUAL), .val (.double (FP.i2d p1)), .second, .val (.double (FP.i2d p2)), .second, .unset]) rfl ?_
      show Steps p.tables e below (T144.setTop (mkF m 61 #[.val (.int p0), .val (.int p1), .val (.int p2), .val (.ref b1), .val (.ref w_NOT_EQUAL), .val (.double (FP.i2d p1)), .second, .val (.double (FP.i2d p2)), .second, .unset] [])) t
      refine XS.aload X144.here hx rfl (hb hby at_61) rfl rfl ?_
      exact k
    obtain ⟨cq229, kq229, qa229, qb229, qc229⟩ := isOf hZ e144 f162
    obtain ⟨_, _, ⟨T229, L229, k229, n229⟩, -, X229, ⟨Lc229, hQ229, l229, y229, z229⟩, st229⟩ := X144.virtualBack hx (y := (⟨"com/example/meshwatch/meshwatch/Relation", "negated", "()Lcom/example/meshwatch/meshwatch/Relation;"⟩ : MethodName)) (z := (⟨"com/example/meshwatch/meshwatch/Relation", "negated", "()Lcom/example/meshwatch/meshwatch/Relation;"⟩ : MethodName)) hown (mvT hZ (hw _ (List.mem_of_getElem? (i := 17) rfl))) (mvT hZ (hw _ (List.mem_of_getElem? (i := 18) rfl))) (notFace_of_selects (args := #[]) (mvT hZ (hw _ (List.mem_of_getElem? (i := 20) rfl)))) (mvT hZ (hw _ (List.mem_of_getElem? (i := 20) rfl))) (mvT hZ (hw _ (List.mem_of_getElem? (i := 19) rfl))) (by decide) (backOf (W := 0) (rmn5 l Z ar hw [] w_NOT_EQUAL w_EQUAL h144 n0 z164 f162 f163 f158) hZ (hw _ (List.mem_of_getElem? (i := 21) rfl)) (hw _ (List.mem_of_getElem? (i := 3) rfl)) (by decide) (by decide)) qa229 qc229 (g := (mkF m 63 #[.val (.int p0), .val (.int p1), .val (.int p2), .val (.ref b1), .val (.ref w_NOT_EQUAL), .val (.double (FP.i2d p1)), .second, .val (.double (FP.i2d p2)), .second, .unset] [(.ref w_NOT_EQUAL)])) rfl (by rw [hml]; rfl) (Steps.refl _) (argsL := []) (rest := []) (lenOf pd0_0 rfl) rfl (by show 2 * 0 + _ ≤ _; exact Nat.le_of_eq rfl) (hb hby at_63) (fun _ _ => ⟨rfl, e144, (by decide : 1 + 0 ≤ _), (by decide : 6 + 0 ≤ _)⟩)
    dsimp only [Pt.U, Pt.locs, Pt.cells, Pt.slots] at X229 l229 y229 z229 st229 hQ229
    subst l229 y229 z229
    obtain ⟨rfl, N229q, e229⟩ := hQ229
    have n230 := Fr.app n166 N229q
    refine own_tr (T' := T229) (g' := (mkF m 66 #[.val (.int p0), .val (.int p1), .val (.int p2), .val (.ref b1), .val (.ref w_NOT_EQUAL), .val (.double (FP.i2d p1)), .second, .val (.double (FP.i2d p2)), .second, .unset] [(.ref w_EQUAL)])) st229 ?_
    refine own_st (T' := T229) (g' := (mkF m 77 #[.val (.int p0), .val (.int p1), .val (.int p2), .val (.ref b1), .val (.ref w_NOT_EQUAL), .val (.double (FP.i2d p1)), .second, .val (.double (FP.i2d p2)), .second, .val (.ref w_EQUAL)] [(.ref w_EQUAL)])) (fun t k => ?_) ?_
    · show Steps p.tables e below (T229.setTop (mkF m 66 #[.val (.int p0), .val (.int p1), .val (.int p2), .val (.ref b1), .val (.ref w_NOT_EQUAL), .val (.double (FP.i2d p1)), .second, .val (.double (FP.i2d p2)), .second, .unset] [(.ref w_EQUAL)])) t
      refine XS.astore X229.here hx rfl (hb hby at_66) rfl rfl (l' := #[.val (.int p0), .val (.int p1), .val (.int p2), .val (.ref b1), .val (.ref w_NOT_EQUAL), .val (.double (FP.i2d p1)), .second, .val (.double (FP.i2d p2)), .second, .val (.ref w_EQUAL)]) rfl ?_
      show Steps p.tables e below (T229.setTop (mkF m 68 #[.val (.int p0), .val (.int p1), .val (.int p2), .val (.ref b1), .val (.ref w_NOT_EQUAL), .val (.double (FP.i2d p1)), .second, .val (.double (FP.i2d p2)), .second, .val (.ref w_EQUAL)] [])) t
      refine XS.aload X229.here hx rfl (hb hby at_68) rfl rfl ?_
      show Steps p.tables e below (T229.setTop (mkF m 70 #[.val (.int p0), .val (.int p1), .val (.int p2), .val (.ref b1), .val (.ref w_NOT_EQUAL), .val (.double (FP.i2d p1)), .second, .val (.double (FP.i2d p2)), .second, .val (.ref w_EQUAL)] [(.ref w_EQUAL)])) t
      refine XS.ifnonnullYes X229.here hx rfl (pc0 := 70) (pc' := 75) rfl (hb hby at_70) rfl (by decide) (by decide) ?_
      show Steps p.tables e below (T229.setTop (mkF m 75 #[.val (.int p0), .val (.int p1), .val (.int p2), .val (.ref b1), .val (.ref w_NOT_EQUAL), .val (.double (FP.i2d p1)), .second, .val (.double (FP.i2d p2)), .second, .val (.ref w_EQUAL)] [])) t
      refine XS.aload X229.here hx rfl (hb hby at_75) rfl rfl ?_
      exact k
    obtain ⟨cq231, kq231, qa231, qb231, qc231⟩ := isOf hZ e229 f159
    obtain ⟨_, _, ⟨T231, L231, k231, n231⟩, -, X231, ⟨Lc231, hQ231, l231, y231, z231⟩, st231⟩ := X229.virtualBack hx (y := (⟨"com/example/meshwatch/meshwatch/Relation", "negated", "()Lcom/example/meshwatch/meshwatch/Relation;"⟩ : MethodName)) (z := (⟨"com/example/meshwatch/meshwatch/Relation", "negated", "()Lcom/example/meshwatch/meshwatch/Relation;"⟩ : MethodName)) hown (mvT hZ (hw _ (List.mem_of_getElem? (i := 17) rfl))) (mvT hZ (hw _ (List.mem_of_getElem? (i := 18) rfl))) (notFace_of_selects (args := #[]) (mvT hZ (hw _ (List.mem_of_getElem? (i := 20) rfl)))) (mvT hZ (hw _ (List.mem_of_getElem? (i := 20) rfl))) (mvT hZ (hw _ (List.mem_of_getElem? (i := 19) rfl))) (by decide) (backOf (W := 0) (rmn4 l Z ar hw [] w_EQUAL w_NOT_EQUAL h144 n0 z164 f159 f160 f161) hZ (hw _ (List.mem_of_getElem? (i := 21) rfl)) (hw _ (List.mem_of_getElem? (i := 3) rfl)) (by decide) (by decide)) qa231 qc231 (g := (mkF m 77 #[.val (.int p0), .val (.int p1), .val (.int p2), .val (.ref b1), .val (.ref w_NOT_EQUAL), .val (.double (FP.i2d p1)), .second, .val (.double (FP.i2d p2)), .second, .val (.ref w_EQUAL)] [(.ref w_EQUAL)])) rfl (by rw [hml]; rfl) (Steps.refl _) (argsL := []) (rest := []) (lenOf pd0_0 rfl) rfl (by show 2 * 0 + _ ≤ _; exact Nat.le_of_eq rfl) (hb hby at_77) (fun _ _ => ⟨rfl, e229, (by decide : 1 + 0 ≤ _), (by decide : 6 + 0 ≤ _)⟩)
    dsimp only [Pt.U, Pt.locs, Pt.cells, Pt.slots] at X231 l231 y231 z231 st231 hQ231
    subst l231 y231 z231
    obtain ⟨rfl, N231q, e231⟩ := hQ231
    have n232 := Fr.app n230 N231q
    refine own_tr (T' := T231) (g' := (mkF m 80 #[.val (.int p0), .val (.int p1), .val (.int p2), .val (.ref b1), .val (.ref w_NOT_EQUAL), .val (.double (FP.i2d p1)), .second, .val (.double (FP.i2d p2)), .second, .val (.ref w_EQUAL)] [(.ref w_NOT_EQUAL)])) st231 ?_
    refine own_st (T' := T231) (g' := (mkF m 95 #[.val (.int p0), .val (.int p1), .val (.int p2), .val (.ref b1), .val (.ref w_NOT_EQUAL), .val (.double (FP.i2d p1)), .second, .val (.double (FP.i2d p2)), .second, .val (.ref w_EQUAL)] [(.double (FP.i2d p2)), (.double (FP.i2d p1)), (.ref w_EQUAL), (.ref w_NOT_EQUAL)])) (fun t k => ?_) ?_
    · show Steps p.tables e below (T231.setTop (mkF m 80 #[.val (.int p0), .val (.int p1), .val (.int p2), .val (.ref b1), .val (.ref w_NOT_EQUAL), .val (.double (FP.i2d p1)), .second, .val (.double (FP.i2d p2)), .second, .val (.ref w_EQUAL)] [(.ref w_NOT_EQUAL)])) t
      refine XS.aload X231.here hx rfl (hb hby at_80) rfl rfl ?_
      show Steps p.tables e below (T231.setTop (mkF m 82 #[.val (.int p0), .val (.int p1), .val (.int p2), .val (.ref b1), .val (.ref w_NOT_EQUAL), .val (.double (FP.i2d p1)), .second, .val (.double (FP.i2d p2)), .second, .val (.ref w_EQUAL)] [(.ref w_NOT_EQUAL), (.ref w_NOT_EQUAL)])) t
      refine Jvm.RoadKit.acmp (g := (mkF m 82 #[.val (.int p0), .val (.int p1), .val (.int p2), .val (.ref b1), .val (.ref w_NOT_EQUAL), .val (.double (FP.i2d p1)), .second, .val (.double (FP.i2d p2)), .second, .val (.ref w_EQUAL)] [(.ref w_NOT_EQUAL), (.ref w_NOT_EQUAL)])) X231 hx rfl rfl rfl (pc0 := 82) (pc' := 87) (same := true) rfl (hb hby at_82) rfl (decide_eq_true rfl) (by decide) (by decide) ?_
      show Steps p.tables e below (T231.setTop (mkF m 87 #[.val (.int p0), .val (.int p1), .val (.int p2), .val (.ref b1), .val (.ref w_NOT_EQUAL), .val (.double (FP.i2d p1)), .second, .val (.double (FP.i2d p2)), .second, .val (.ref w_EQUAL)] [])) t
      refine XS.aload X231.here hx rfl (hb hby at_87) rfl rfl ?_
      show Steps p.tables e below (T231.setTop (mkF m 89 #[.val (.int p0), .val (.int p1), .val (.int p2), .val (.ref b1), .val (.ref w_NOT_EQUAL), .val (.double (FP.i2d p1)), .second, .val (.double (FP.i2d p2)), .second, .val (.ref w_EQUAL)] [(.ref w_NOT_EQUAL)])) t
      refine XS.aload X231.here hx rfl (hb hby at_89) rfl rfl ?_
      show Steps p.tables e below (T231.setTop (mkF m 91 #[.val (.int p0), .val (.int p1), .val (.int p2), .val (.ref b1), .val (.ref w_NOT_EQUAL), .val (.double (FP.i2d p1)), .second, .val (.double (FP.i2d p2)), .second, .val (.ref w_EQUAL)] [(.ref w_EQUAL), (.ref w_NOT_EQUAL)])) t
      refine XS.dload X231.here hx rfl (hb hby at_91) rfl ?_
      show Steps p.tables e below (T231.setTop (mkF m 93 #[.val (.int p0), .val (.int p1), .val (.int p2), .val (.ref b1), .val (.ref w_NOT_EQUAL), .val (.double (FP.i2d p1)), .second, .val (.double (FP.i2d p2)), .second, .val (.ref w_EQUAL)] [(.double (FP.i2d p1)), (.ref w_EQUAL), (.ref w_NOT_EQUAL)])) t
      refine XS.dload X231.here hx rfl (hb hby at_93) rfl ?_
      exact k
    obtain ⟨_, _, ⟨T233, L233, k233, n233⟩, -, X233, ⟨Lc233, hQ233, l233, y233, z233⟩, st233⟩ := Jvm.LawKit.callS X231 hx (y := (⟨"com/example/meshwatch/meshwatch/RelationNegatedPinLaw", "complement", "(Lcom/example/meshwatch/meshwatch/Relation;Lcom/example/meshwatch/meshwatch/Relation;DD)Z"⟩ : MethodName)) hown (mvT hZ (hw _ (List.mem_of_getElem? (i := 33) rfl))) (mvT hZ (hw _ (List.mem_of_getElem? (i := 34) rfl))) (mvT hZ (hw _ (List.mem_of_getElem? (i := 35) rfl))) (mvT hZ (hw _ (List.mem_of_getElem? (i := 36) rfl))) (by decide) (backOf (W := 0) (rmc5 l Z ar hw [] w_NOT_EQUAL w_EQUAL ((FP.i2d p1)) ((FP.i2d p2)) h144 n0 z164 f162 f163 f159 f160 (own_n5 (own_dy_i2d p1) (own_dy_i2d p2))) hZ (hw _ (List.mem_of_getElem? (i := 36) rfl)) (hw _ (List.mem_of_getElem? (i := 35) rfl)) (by decide) (by decide)) (g := (mkF m 95 #[.val (.int p0), .val (.int p1), .val (.int p2), .val (.ref b1), .val (.ref w_NOT_EQUAL), .val (.double (FP.i2d p1)), .second, .val (.double (FP.i2d p2)), .second, .val (.ref w_EQUAL)] [(.double (FP.i2d p2)), (.double (FP.i2d p1)), (.ref w_EQUAL), (.ref w_NOT_EQUAL)])) rfl (by rw [hml]; rfl) (argsL := [(.ref w_NOT_EQUAL), (.ref w_EQUAL), (.double (FP.i2d p1)), (.double (FP.i2d p2))]) (rest := []) (lenOf pd0_1 rfl) rfl (by show 2 * 0 + _ ≤ _; exact Nat.le_of_eq rfl) (hb hby at_95) (fun _ _ => ⟨rfl, e231, (by decide : 1 + 0 ≤ _), (by decide : 6 + 0 ≤ _)⟩)
    dsimp only [Pt.U, Pt.locs, Pt.cells, Pt.slots] at X233 l233 y233 z233 st233 hQ233
    subst l233 y233 z233
    obtain ⟨rfl, N233q, e233⟩ := hQ233
    have n234 := Fr.app n232 N233q
    refine own_st (T' := T233) (g' := (mkF m 98 #[.val (.int p0), .val (.int p1), .val (.int p2), .val (.ref b1), .val (.ref w_NOT_EQUAL), .val (.double (FP.i2d p1)), .second, .val (.double (FP.i2d p2)), .second, .val (.ref w_EQUAL)] [(.int (1 : Int32))])) st233 ?_
    refine own_st (T' := T233) (g' := (mkF m 109 #[.val (.int p0), .val (.int p1), .val (.int p2), .val (.ref b1), .val (.ref w_NOT_EQUAL), .val (.double (FP.i2d p1)), .second, .val (.double (FP.i2d p2)), .second, .val (.ref w_EQUAL)] [(.double (FP.i2d p1)), (.double (FP.i2d p1)), (.ref w_EQUAL), (.ref w_NOT_EQUAL)])) (fun t k => ?_) ?_
    · show Steps p.tables e below (T233.setTop (mkF m 98 #[.val (.int p0), .val (.int p1), .val (.int p2), .val (.ref b1), .val (.ref w_NOT_EQUAL), .val (.double (FP.i2d p1)), .second, .val (.double (FP.i2d p2)), .second, .val (.ref w_EQUAL)] [(.int (1 : Int32))])) t
      refine XS.ifNo X233.here hx rfl (hb hby at_98) rfl (by decide) ?_
      show Steps p.tables e below (T233.setTop (mkF m 101 #[.val (.int p0), .val (.int p1), .val (.int p2), .val (.ref b1), .val (.ref w_NOT_EQUAL), .val (.double (FP.i2d p1)), .second, .val (.double (FP.i2d p2)), .second, .val (.ref w_EQUAL)] [])) t
      refine XS.aload X233.here hx rfl (hb hby at_101) rfl rfl ?_
      show Steps p.tables e below (T233.setTop (mkF m 103 #[.val (.int p0), .val (.int p1), .val (.int p2), .val (.ref b1), .val (.ref w_NOT_EQUAL), .val (.double (FP.i2d p1)), .second, .val (.double (FP.i2d p2)), .second, .val (.ref w_EQUAL)] [(.ref w_NOT_EQUAL)])) t
      refine XS.aload X233.here hx rfl (hb hby at_103) rfl rfl ?_
      show Steps p.tables e below (T233.setTop (mkF m 105 #[.val (.int p0), .val (.int p1), .val (.int p2), .val (.ref b1), .val (.ref w_NOT_EQUAL), .val (.double (FP.i2d p1)), .second, .val (.double (FP.i2d p2)), .second, .val (.ref w_EQUAL)] [(.ref w_EQUAL), (.ref w_NOT_EQUAL)])) t
      refine XS.dload X233.here hx rfl (hb hby at_105) rfl ?_
      show Steps p.tables e below (T233.setTop (mkF m 107 #[.val (.int p0), .val (.int p1), .val (.int p2), .val (.ref b1), .val (.ref w_NOT_EQUAL), .val (.double (FP.i2d p1)), .second, .val (.double (FP.i2d p2)), .second, .val (.ref w_EQUAL)] [(.double (FP.i2d p1)), (.ref w_EQUAL), (.ref w_NOT_EQUAL)])) t
      refine XS.dload X233.here hx rfl (hb hby at_107) rfl ?_
      exact k
    obtain ⟨_, _, ⟨T235, L235, k235, n235⟩, -, X235, ⟨Lc235, hQ235, l235, y235, z235⟩, st235⟩ := Jvm.LawKit.callS X233 hx (y := (⟨"com/example/meshwatch/meshwatch/RelationNegatedPinLaw", "complement", "(Lcom/example/meshwatch/meshwatch/Relation;Lcom/example/meshwatch/meshwatch/Relation;DD)Z"⟩ : MethodName)) hown (mvT hZ (hw _ (List.mem_of_getElem? (i := 33) rfl))) (mvT hZ (hw _ (List.mem_of_getElem? (i := 34) rfl))) (mvT hZ (hw _ (List.mem_of_getElem? (i := 35) rfl))) (mvT hZ (hw _ (List.mem_of_getElem? (i := 36) rfl))) (by decide) (backOf (W := 0) (rmc5 l Z ar hw [] w_NOT_EQUAL w_EQUAL ((FP.i2d p1)) ((FP.i2d p1)) h144 n0 z164 f162 f163 f159 f160 (own_n5 (own_dy_i2d p1) (own_dy_i2d p1))) hZ (hw _ (List.mem_of_getElem? (i := 36) rfl)) (hw _ (List.mem_of_getElem? (i := 35) rfl)) (by decide) (by decide)) (g := (mkF m 109 #[.val (.int p0), .val (.int p1), .val (.int p2), .val (.ref b1), .val (.ref w_NOT_EQUAL), .val (.double (FP.i2d p1)), .second, .val (.double (FP.i2d p2)), .second, .val (.ref w_EQUAL)] [(.double (FP.i2d p1)), (.double (FP.i2d p1)), (.ref w_EQUAL), (.ref w_NOT_EQUAL)])) rfl (by rw [hml]; rfl) (argsL := [(.ref w_NOT_EQUAL), (.ref w_EQUAL), (.double (FP.i2d p1)), (.double (FP.i2d p1))]) (rest := []) (lenOf pd0_1 rfl) rfl (by show 2 * 0 + _ ≤ _; exact Nat.le_of_eq rfl) (hb hby at_109) (fun _ _ => ⟨rfl, e233, (by decide : 1 + 0 ≤ _), (by decide : 6 + 0 ≤ _)⟩)
    dsimp only [Pt.U, Pt.locs, Pt.cells, Pt.slots] at X235 l235 y235 z235 st235 hQ235
    subst l235 y235 z235
    obtain ⟨rfl, N235q, e235⟩ := hQ235
    have n236 := Fr.app n234 N235q
    refine own_st (T' := T235) (g' := (mkF m 112 #[.val (.int p0), .val (.int p1), .val (.int p2), .val (.ref b1), .val (.ref w_NOT_EQUAL), .val (.double (FP.i2d p1)), .second, .val (.double (FP.i2d p2)), .second, .val (.ref w_EQUAL)] [(.int (1 : Int32))])) st235 ?_
    refine own_st (T' := T235) (g' := (mkF m 123 #[.val (.int p0), .val (.int p1), .val (.int p2), .val (.ref b1), .val (.ref w_NOT_EQUAL), .val (.double (FP.i2d p1)), .second, .val (.double (FP.i2d p2)), .second, .val (.ref w_EQUAL)] [(.double (FP.i2d p1)), (.double (FP.i2d p2)), (.ref w_EQUAL), (.ref w_NOT_EQUAL)])) (fun t k => ?_) ?_
    · show Steps p.tables e below (T235.setTop (mkF m 112 #[.val (.int p0), .val (.int p1), .val (.int p2), .val (.ref b1), .val (.ref w_NOT_EQUAL), .val (.double (FP.i2d p1)), .second, .val (.double (FP.i2d p2)), .second, .val (.ref w_EQUAL)] [(.int (1 : Int32))])) t
      refine XS.ifNo X235.here hx rfl (hb hby at_112) rfl (by decide) ?_
      show Steps p.tables e below (T235.setTop (mkF m 115 #[.val (.int p0), .val (.int p1), .val (.int p2), .val (.ref b1), .val (.ref w_NOT_EQUAL), .val (.double (FP.i2d p1)), .second, .val (.double (FP.i2d p2)), .second, .val (.ref w_EQUAL)] [])) t
      refine XS.aload X235.here hx rfl (hb hby at_115) rfl rfl ?_
      show Steps p.tables e below (T235.setTop (mkF m 117 #[.val (.int p0), .val (.int p1), .val (.int p2), .val (.ref b1), .val (.ref w_NOT_EQUAL), .val (.double (FP.i2d p1)), .second, .val (.double (FP.i2d p2)), .second, .val (.ref w_EQUAL)] [(.ref w_NOT_EQUAL)])) t
      refine XS.aload X235.here hx rfl (hb hby at_117) rfl rfl ?_
      show Steps p.tables e below (T235.setTop (mkF m 119 #[.val (.int p0), .val (.int p1), .val (.int p2), .val (.ref b1), .val (.ref w_NOT_EQUAL), .val (.double (FP.i2d p1)), .second, .val (.double (FP.i2d p2)), .second, .val (.ref w_EQUAL)] [(.ref w_EQUAL), (.ref w_NOT_EQUAL)])) t
      refine XS.dload X235.here hx rfl (hb hby at_119) rfl ?_
      show Steps p.tables e below (T235.setTop (mkF m 121 #[.val (.int p0), .val (.int p1), .val (.int p2), .val (.ref b1), .val (.ref w_NOT_EQUAL), .val (.double (FP.i2d p1)), .second, .val (.double (FP.i2d p2)), .second, .val (.ref w_EQUAL)] [(.double (FP.i2d p2)), (.ref w_EQUAL), (.ref w_NOT_EQUAL)])) t
      refine XS.dload X235.here hx rfl (hb hby at_121) rfl ?_
      exact k
    obtain ⟨_, _, ⟨T237, L237, k237, n237⟩, -, X237, ⟨Lc237, hQ237, l237, y237, z237⟩, st237⟩ := Jvm.LawKit.callS X235 hx (y := (⟨"com/example/meshwatch/meshwatch/RelationNegatedPinLaw", "complement", "(Lcom/example/meshwatch/meshwatch/Relation;Lcom/example/meshwatch/meshwatch/Relation;DD)Z"⟩ : MethodName)) hown (mvT hZ (hw _ (List.mem_of_getElem? (i := 33) rfl))) (mvT hZ (hw _ (List.mem_of_getElem? (i := 34) rfl))) (mvT hZ (hw _ (List.mem_of_getElem? (i := 35) rfl))) (mvT hZ (hw _ (List.mem_of_getElem? (i := 36) rfl))) (by decide) (backOf (W := 0) (rmc5 l Z ar hw [] w_NOT_EQUAL w_EQUAL ((FP.i2d p2)) ((FP.i2d p1)) h144 n0 z164 f162 f163 f159 f160 (own_n5 (own_dy_i2d p2) (own_dy_i2d p1))) hZ (hw _ (List.mem_of_getElem? (i := 36) rfl)) (hw _ (List.mem_of_getElem? (i := 35) rfl)) (by decide) (by decide)) (g := (mkF m 123 #[.val (.int p0), .val (.int p1), .val (.int p2), .val (.ref b1), .val (.ref w_NOT_EQUAL), .val (.double (FP.i2d p1)), .second, .val (.double (FP.i2d p2)), .second, .val (.ref w_EQUAL)] [(.double (FP.i2d p1)), (.double (FP.i2d p2)), (.ref w_EQUAL), (.ref w_NOT_EQUAL)])) rfl (by rw [hml]; rfl) (argsL := [(.ref w_NOT_EQUAL), (.ref w_EQUAL), (.double (FP.i2d p2)), (.double (FP.i2d p1))]) (rest := []) (lenOf pd0_1 rfl) rfl (by show 2 * 0 + _ ≤ _; exact Nat.le_of_eq rfl) (hb hby at_123) (fun _ _ => ⟨rfl, e235, (by decide : 1 + 0 ≤ _), (by decide : 6 + 0 ≤ _)⟩)
    dsimp only [Pt.U, Pt.locs, Pt.cells, Pt.slots] at X237 l237 y237 z237 st237 hQ237
    subst l237 y237 z237
    obtain ⟨rfl, N237q, e237⟩ := hQ237
    have n238 := Fr.app n236 N237q
    refine own_st (T' := T237) (g' := (mkF m 126 #[.val (.int p0), .val (.int p1), .val (.int p2), .val (.ref b1), .val (.ref w_NOT_EQUAL), .val (.double (FP.i2d p1)), .second, .val (.double (FP.i2d p2)), .second, .val (.ref w_EQUAL)] [(.int (1 : Int32))])) st237 ?_
    refine own_st (T' := T237) (g' := (mkF m 134 #[.val (.int p0), .val (.int p1), .val (.int p2), .val (.ref b1), .val (.ref w_NOT_EQUAL), .val (.double (FP.i2d p1)), .second, .val (.double (FP.i2d p2)), .second, .val (.ref w_EQUAL)] [(.int (1 : Int32))])) (fun t k => ?_) ?_
    · show Steps p.tables e below (T237.setTop (mkF m 126 #[.val (.int p0), .val (.int p1), .val (.int p2), .val (.ref b1), .val (.ref w_NOT_EQUAL), .val (.double (FP.i2d p1)), .second, .val (.double (FP.i2d p2)), .second, .val (.ref w_EQUAL)] [(.int (1 : Int32))])) t
      refine XS.ifNo X237.here hx rfl (hb hby at_126) rfl (by decide) ?_
      show Steps p.tables e below (T237.setTop (mkF m 129 #[.val (.int p0), .val (.int p1), .val (.int p2), .val (.ref b1), .val (.ref w_NOT_EQUAL), .val (.double (FP.i2d p1)), .second, .val (.double (FP.i2d p2)), .second, .val (.ref w_EQUAL)] [])) t
      refine XS.iconst X237.here hx rfl (hb hby at_129) ?_
      show Steps p.tables e below (T237.setTop (mkF m 130 #[.val (.int p0), .val (.int p1), .val (.int p2), .val (.ref b1), .val (.ref w_NOT_EQUAL), .val (.double (FP.i2d p1)), .second, .val (.double (FP.i2d p2)), .second, .val (.ref w_EQUAL)] [(.int (1 : Int32))])) t
      refine XS.goto X237.here hx rfl (pc0 := 130) (pc' := 134) rfl (hb hby at_130) (by decide) (by decide) ?_
      exact k
    refine own_retZ X237 hx hlk Bd.returns (hb hby at_134) rfl (by decide) (by decide) ?_
    show Q0 Z p0 p1 p2 w_LESS w_LESS_OR_EQUAL w_GREATER w_GREATER_OR_EQUAL w_EQUAL w_NOT_EQUAL h0 n0 (some (.int (1 : Int32))) T237.heap _
    rw [(e237 : T237.heap = h144)]
    exact ⟨rfl, n238⟩
set_option maxRecDepth 65536 in
set_option maxHeartbeats 40000000 in
theorem comes_1 {Post : Tables → Env → Array Value → State → Outcome → State → Prop} (hpost : ∀ tb e args s v u, (limb_1_1.after args s (.returned v) u = true ∧ limb_1_2.after args s (.returned v) u = true ∧ True) → FrameEnd s (.returned v) u (Jvm.fieldLocs frame_1_writes args s ++ Jvm.arrayLocs frame_1_arrays args s ++ Jvm.staticLocs frame_1_statics s) 16 128 → Post tb e args s (.returned v) u) :
    ArmFor flags0 classFile x code maxLocals ret World_1 tables_1 room_1 Calls_1 rest_1 Pre_1 Post := by
  intro l hfl _ _ p e ha hc hk s m args below hf hA hF happ hP
  obtain ⟨hcalls, hrest, hpre⟩ := hP
  obtain ⟨-, -, -, hnamed, -, -, -, hat⟩ := (Spec.applies_iff hf).mp happ
  obtain ⟨hg, hn⟩ := and_e (Cond.before_iff.mp (show (Jvm.Cond.and given_1 narrow_1).before args s = true from hpre))
  obtain ⟨g0, gg0⟩ := and_e hg
  obtain ⟨g1, gg1⟩ := and_e gg0
  obtain ⟨g2, gg2⟩ := and_e gg1
  obtain ⟨w0, w1, w2, rfl⟩ : ∃ w0 w1 w2 : Value, args = #[w0, w1, w2] := by
    have hs : args.size = 3 := by simpa [Cond.value, given_1] using g0
    obtain ⟨L⟩ := args
    match L, hs with
    | [w0, w1, w2], _ => exact ⟨w0, w1, w2, rfl⟩
  have hw := fun d (hd : d ∈ tables_1) => atoms_spec (ws := Jvm.Cond.code x code maxLocals ret :: tables_1) hat d (List.mem_cons_of_mem _ hd)
  have hfit : Fit s := fun {y c} hc i hi => by
    obtain ⟨ha, rfl⟩ := Array.getElem?_eq_some_iff.mp hc
    have q := List.all_eq_true.mp ((Array.all_eq_true_iff_forall_mem.mp hF) _ (Array.getElem_mem ha)) i (List.mem_range.mpr hi)
    simpa [Array.getElem?_eq_getElem hi] using q
  obtain ⟨p0, ei0⟩ := is_v g1
  obtain rfl : w0 = (.int p0) := Option.some.inj ei0
  obtain ⟨p1, ei1⟩ := is_v g2
  obtain rfl : w1 = (.int p1) := Option.some.inj ei1
  obtain ⟨p2, ei2⟩ := is_v gg2
  obtain rfl : w2 = (.int p2) := Option.some.inj ei2
  obtain ⟨x_LESS, r0⟩ := and_e hn
  obtain ⟨x_LESS_OR_EQUAL, r1⟩ := and_e r0
  obtain ⟨x_GREATER, r2⟩ := and_e r1
  obtain ⟨x_GREATER_OR_EQUAL, r3⟩ := and_e r2
  obtain ⟨x_EQUAL, r4⟩ := and_e r3
  obtain ⟨x_NOT_EQUAL, r5⟩ := and_e r4
  obtain ⟨o_LESS, r6⟩ := and_e r5
  obtain ⟨o_GREATER_OR_EQUAL, r7⟩ := and_e r6
  obtain ⟨o_LESS_OR_EQUAL, r8⟩ := and_e r7
  obtain ⟨o_GREATER, r9⟩ := and_e r8
  obtain ⟨o_NOT_EQUAL, r10⟩ := and_e r9
  have o_EQUAL := r10
  obtain ⟨a_LESS, e_LESS⟩ := exa_v x_LESS
  have S_LESS := Sta.start e_LESS (Or.inr ⟨(hw _ (List.mem_of_getElem? (i := 3) rfl)), (hw _ (List.mem_of_getElem? (i := 4) rfl))⟩)
  have E_LESS := Exa.start e_LESS x_LESS
  have F_LESS : Fld s s.heap a_LESS "java/lang/Enum" "ordinal" "I" (.int (0 : Int32)) := Fld.start ((fld_at e_LESS).symm.trans (eqv_i rfl o_LESS))
  obtain ⟨a_LESS_OR_EQUAL, e_LESS_OR_EQUAL⟩ := exa_v x_LESS_OR_EQUAL
  have S_LESS_OR_EQUAL := Sta.start e_LESS_OR_EQUAL (Or.inr ⟨(hw _ (List.mem_of_getElem? (i := 3) rfl)), (hw _ (List.mem_of_getElem? (i := 7) rfl))⟩)
  have E_LESS_OR_EQUAL := Exa.start e_LESS_OR_EQUAL x_LESS_OR_EQUAL
  have F_LESS_OR_EQUAL : Fld s s.heap a_LESS_OR_EQUAL "java/lang/Enum" "ordinal" "I" (.int (1 : Int32)) := Fld.start ((fld_at e_LESS_OR_EQUAL).symm.trans (eqv_i rfl o_LESS_OR_EQUAL))
  obtain ⟨a_GREATER, e_GREATER⟩ := exa_v x_GREATER
  have S_GREATER := Sta.start e_GREATER (Or.inr ⟨(hw _ (List.mem_of_getElem? (i := 3) rfl)), (hw _ (List.mem_of_getElem? (i := 9) rfl))⟩)
  have E_GREATER := Exa.start e_GREATER x_GREATER
  have F_GREATER : Fld s s.heap a_GREATER "java/lang/Enum" "ordinal" "I" (.int (2 : Int32)) := Fld.start ((fld_at e_GREATER).symm.trans (eqv_i rfl o_GREATER))
  obtain ⟨a_GREATER_OR_EQUAL, e_GREATER_OR_EQUAL⟩ := exa_v x_GREATER_OR_EQUAL
  have S_GREATER_OR_EQUAL := Sta.start e_GREATER_OR_EQUAL (Or.inr ⟨(hw _ (List.mem_of_getElem? (i := 3) rfl)), (hw _ (List.mem_of_getElem? (i := 11) rfl))⟩)
  have E_GREATER_OR_EQUAL := Exa.start e_GREATER_OR_EQUAL x_GREATER_OR_EQUAL
  have F_GREATER_OR_EQUAL : Fld s s.heap a_GREATER_OR_EQUAL "java/lang/Enum" "ordinal" "I" (.int (3 : Int32)) := Fld.start ((fld_at e_GREATER_OR_EQUAL).symm.trans (eqv_i rfl o_GREATER_OR_EQUAL))
  obtain ⟨a_EQUAL, e_EQUAL⟩ := exa_v x_EQUAL
  have S_EQUAL := Sta.start e_EQUAL (Or.inr ⟨(hw _ (List.mem_of_getElem? (i := 3) rfl)), (hw _ (List.mem_of_getElem? (i := 13) rfl))⟩)
  have E_EQUAL := Exa.start e_EQUAL x_EQUAL
  have F_EQUAL : Fld s s.heap a_EQUAL "java/lang/Enum" "ordinal" "I" (.int (4 : Int32)) := Fld.start ((fld_at e_EQUAL).symm.trans (eqv_i rfl o_EQUAL))
  obtain ⟨a_NOT_EQUAL, e_NOT_EQUAL⟩ := exa_v x_NOT_EQUAL
  have S_NOT_EQUAL := Sta.start e_NOT_EQUAL (Or.inr ⟨(hw _ (List.mem_of_getElem? (i := 3) rfl)), (hw _ (List.mem_of_getElem? (i := 15) rfl))⟩)
  have E_NOT_EQUAL := Exa.start e_NOT_EQUAL x_NOT_EQUAL
  have F_NOT_EQUAL : Fld s s.heap a_NOT_EQUAL "java/lang/Enum" "ordinal" "I" (.int (5 : Int32)) := Fld.start ((fld_at e_NOT_EQUAL).symm.trans (eqv_i rfl o_NOT_EQUAL))
  obtain ⟨n, o, h1, h2, h3, _, L, rfl, ⟨rfl, N⟩, hq⟩ := rm0 l s _ hw tables_1 p0 p1 p2 a_LESS a_LESS_OR_EQUAL a_GREATER a_GREATER_OR_EQUAL a_EQUAL a_NOT_EQUAL s.heap s.heap.size (Nat.le_refl _) (S_LESS) (E_LESS) (F_LESS) (S_LESS_OR_EQUAL) (E_LESS_OR_EQUAL) (F_LESS_OR_EQUAL) (S_GREATER) (E_GREATER) (F_GREATER) (S_GREATER_OR_EQUAL) (E_GREATER_OR_EQUAL) (F_GREATER_OR_EQUAL) (S_EQUAL) (E_EQUAL) (F_EQUAL) (S_NOT_EQUAL) (E_NOT_EQUAL) (F_NOT_EQUAL) p e ha hc hk s m _ below hf ((Spec.applies_iff_loose hf).mp happ).1 ⟨rfl, State.Warmed39.refl s, rfl⟩ trivial
  refine ⟨n, _, h1, h2, h3, hpost _ _ _ _ _ _ ⟨Cond.after_iff.mpr rfl, Cond.after_iff.mpr (eq_i res_at (Term.int_eval (1)) rfl), trivial⟩ ⟨hq.1, hq.2.1, (hq.2.2.sift fun y hy => Or.inr (N y hy)).mono (by decide) (by decide)⟩⟩
theorem main_1_1 : Claimed_1_1 := comes_1 fun _ _ _ _ _ _ h hF => ⟨h.1, hF⟩
theorem main_1_2 : Claimed_1_2 := comes_1 fun _ _ _ _ _ _ h hF => ⟨h.2.1, hF⟩
end Jvm.Pilot.@@N@@
namespace Jvm.Pilot.@@N@@
open Jvm Jvm.ClassFile Sem Op Lib Jvm.Free Jvm.Stand Jvm.Pilot.@@N@@.Jvm.D
/-! MADE BY PROGRAM (witnessworld.py) out of the Statement's table words and the real class files: 13 classes; the members and pool entries that the words name. The judged class is class 1, her method 2. -/
namespace start1
open Jvm.ClassFile
def u (s : String) : CpInfo := .utf8 (stringToUtf16 s)
/-- a pool by its gaps: so many unusable entries, then the entry; so many at the end -/
def gap : Nat → List CpInfo → List CpInfo
  | 0, r => r
  | n + 1, r => .unusable :: gap n r
def poolList (es : List (Nat × CpInfo)) (last : Nat) : List CpInfo := es.foldr (fun e r => gap e.1 (e.2 :: r)) (gap last [])
def pool (es : List (Nat × CpInfo)) (last : Nat) : Array CpInfo := ⟨poolList es last⟩
def fileOf (pool : Array CpInfo) (this : Nat) (attrs : Array Attribute := #[]) (ms : Array MethodInfo := #[]) (fl : Nat := 33) (sup : Nat := 0) (ifs : Array Nat := #[]) (fds : Array FieldInfo := #[]) : ClassFile where
  minorVersion := 0
  majorVersion := 65
  constantPool := pool
  accessFlags := fl
  thisClass := this
  superClass := sup
  interfaces := ifs
  fields := fds
  methods := ms
  attributes := attrs
def plain (name : String) (sup : Option ClassId) : Class where
  name := name
  kind := .ordinary
  loader := none
  accessFlags := 33
  super := sup
  interfaces := #[]
  cf := none
  fields := #[]
  methods := #[]
  instanceTypes := #[]
  staticTypes := #[]
  resolved := #[]
  callSites := []
  init := .initialized
  statics := none
  mirror := none

def pool0 : Array CpInfo := pool [(5, u "<init>"), (0, u "()V"), (1, .class_ 10), (1, u "java/lang/Object")] 113

def k0m0 : Method := { name := "<init>", desc := "()V", sig := { parameters := [], returnType := none }, accessFlags := 1, code := none }
/-- java/lang/Object -/
def k0 : Class := { plain "java/lang/Object" none with
  accessFlags := 33
  interfaces := #[]
  cf := some (fileOf pool0 8 #[] #[{ accessFlags := 1, nameIndex := 5, descriptorIndex := 6, attributes := #[] }] 33 0 #[] #[])
  fields := #[]
  methods := #[k0m0]
  instanceTypes := #[]
  staticTypes := #[]
  resolved := Array.replicate 124 none
  statics := none }

def pool1 : Array CpInfo := pool [(2, .class_ 4), (1, u "java/lang/Object"), (0, u "<init>"), (0, u "()V"), (0, .methodref 8 9), (0, .class_ 10), (0, .nameAndType 11 12), (0, u "com/example/meshwatch/meshwatch/Relation"), (0, u "holds"), (0, u "(DD)Z"), (0, .fieldref 8 14), (0, .nameAndType 15 16), (0, u "LESS"), (0, u "Lcom/example/meshwatch/meshwatch/Relation;"), (0, .fieldref 8 18), (0, .nameAndType 19 16), (0, u "LESS_OR_EQUAL"), (0, .fieldref 8 21), (0, .nameAndType 22 16), (0, u "GREATER"), (0, .fieldref 8 24), (0, .nameAndType 25 16), (0, u "GREATER_OR_EQUAL"), (0, .fieldref 8 27), (0, .nameAndType 28 16), (0, u "EQUAL"), (0, .fieldref 8 30), (0, .nameAndType 31 16), (0, u "NOT_EQUAL"), (0, .integer 2147483647), (0, .methodref 8 34), (0, .nameAndType 35 36), (0, u "negated"), (0, u "()Lcom/example/meshwatch/meshwatch/Relation;"), (0, .methodref 38 39), (0, .class_ 40), (0, .nameAndType 41 42), (0, u "com/example/meshwatch/meshwatch/RelationNegatedPinLaw"), (0, u "complement"), (0, u "(Lcom/example/meshwatch/meshwatch/Relation;Lcom/example/meshwatch/meshwatch/Relation;DD)Z"), (3, u "law"), (0, u "(III)Z")] 4

def k1m0 : Method := { name := "<init>", desc := "()V", sig := { parameters := [], returnType := none }, accessFlags := 1, code := none }
def k1c1 : Code := { maxStack := 6, maxLocals := 6, code := method_2_code, exceptionTable := #[], attributes := #[] }
def k1m1 : Method := { name := "complement", desc := "(Lcom/example/meshwatch/meshwatch/Relation;Lcom/example/meshwatch/meshwatch/Relation;DD)Z", sig := { parameters := [(.object "com/example/meshwatch/meshwatch/Relation"), (.object "com/example/meshwatch/meshwatch/Relation"), .double, .double], returnType := some .boolean }, accessFlags := 10, code := some k1c1 }
def k1c2 : Code := { maxStack := 6, maxLocals := 10, code := code, exceptionTable := #[], attributes := #[] }
def k1m2 : Method := { name := "law", desc := "(III)Z", sig := { parameters := [.int, .int, .int], returnType := some .boolean }, accessFlags := 9, code := some k1c2 }
/-- com/example/meshwatch/meshwatch/RelationNegatedPinLaw -/
def k1 : Class := { plain "com/example/meshwatch/meshwatch/RelationNegatedPinLaw" (some 0) with
  accessFlags := 49
  interfaces := #[]
  cf := some (fileOf pool1 38 #[] #[{ accessFlags := 1, nameIndex := 5, descriptorIndex := 6, attributes := #[] }, { accessFlags := 10, nameIndex := 41, descriptorIndex := 42, attributes := #[] }, { accessFlags := 9, nameIndex := 46, descriptorIndex := 47, attributes := #[] }] 49 2 #[] #[])
  fields := #[]
  methods := #[k1m0, k1m1, k1m2]
  instanceTypes := #[]
  staticTypes := #[]
  resolved := Array.replicate 52 none
  statics := none }

def pool2 : Array CpInfo := pool [(1, .class_ 2), (0, u "java/lang/constant/Constable"), (0, .class_ 4), (0, u "java/lang/Object")] 6

/-- java/lang/constant/Constable -/
def k2 : Class := { plain "java/lang/constant/Constable" (some 0) with
  accessFlags := 1537
  interfaces := #[]
  cf := some (fileOf pool2 1 #[] #[] 1537 3 #[] #[])
  fields := #[]
  methods := #[]
  instanceTypes := #[]
  staticTypes := #[]
  resolved := Array.replicate 11 none
  statics := none }

def pool3 : Array CpInfo := pool [(1, .class_ 2), (0, u "java/lang/Comparable"), (0, .class_ 4), (0, u "java/lang/Object")] 7

/-- java/lang/Comparable -/
def k3 : Class := { plain "java/lang/Comparable" (some 0) with
  accessFlags := 1537
  interfaces := #[]
  cf := some (fileOf pool3 1 #[] #[] 1537 3 #[] #[])
  fields := #[]
  methods := #[]
  instanceTypes := #[]
  staticTypes := #[]
  resolved := Array.replicate 12 none
  statics := none }

def pool4 : Array CpInfo := pool [(1, .class_ 2), (0, u "java/io/Serializable"), (0, .class_ 4), (0, u "java/lang/Object")] 2

/-- java/io/Serializable -/
def k4 : Class := { plain "java/io/Serializable" (some 0) with
  accessFlags := 1537
  interfaces := #[]
  cf := some (fileOf pool4 1 #[] #[] 1537 3 #[] #[])
  fields := #[]
  methods := #[]
  instanceTypes := #[]
  staticTypes := #[]
  resolved := Array.replicate 7 none
  statics := none }

def pool5 : Array CpInfo := pool [(2, .class_ 4), (1, u "java/lang/Enum"), (0, u "name"), (0, u "Ljava/lang/String;"), (0, .fieldref 2 8), (0, .nameAndType 9 10), (0, u "ordinal"), (0, u "I"), (1, .class_ 14), (1, u "java/lang/Object"), (4, u "hash"), (86, .class_ 108), (1, u "java/lang/Enum$EnumDesc"), (2, .class_ 112), (0, u "java/lang/constant/Constable"), (0, .class_ 114), (0, u "java/lang/Comparable"), (0, .class_ 116), (0, u "java/io/Serializable"), (9, u "()I")] 77

def k5c0 : Code := { maxStack := 1, maxLocals := 1, code := jdk_37_method_2_code, exceptionTable := #[], attributes := #[] }
def k5m0 : Method := { name := "ordinal", desc := "()I", sig := { parameters := [], returnType := some .int }, accessFlags := 17, code := some k5c0 }
/-- java/lang/Enum -/
def k5 : Class := { plain "java/lang/Enum" (some 0) with
  accessFlags := 1057
  interfaces := #[2, 3, 4]
  cf := some (fileOf pool5 2 #[.nestMembers #[106]] #[{ accessFlags := 17, nameIndex := 9, descriptorIndex := 126, attributes := #[] }] 1057 12 #[111, 113, 115] #[{ accessFlags := 18, nameIndex := 5, descriptorIndex := 6, attributes := #[] }, { accessFlags := 18, nameIndex := 9, descriptorIndex := 10, attributes := #[] }, { accessFlags := 2, nameIndex := 19, descriptorIndex := 10, attributes := #[] }])
  fields := #[{ name := "name", type := (.object "java/lang/String"), accessFlags := 18, slot := 0, constantValue := 0 }, { name := "ordinal", type := .int, accessFlags := 18, slot := 1, constantValue := 0 }, { name := "hash", type := .int, accessFlags := 2, slot := 2, constantValue := 0 }]
  methods := #[k5m0]
  instanceTypes := #[(.object "java/lang/String"), .int, .int]
  staticTypes := #[]
  resolved := Array.replicate 204 none
  statics := none }

def pool6 : Array CpInfo := pool [(1, .class_ 2), (0, u "com/example/meshwatch/meshwatch/Relation"), (0, .fieldref 1 4), (0, .nameAndType 5 6), (0, u "LESS"), (0, u "Lcom/example/meshwatch/meshwatch/Relation;"), (0, .fieldref 1 8), (0, .nameAndType 9 6), (0, u "LESS_OR_EQUAL"), (0, .fieldref 1 11), (0, .nameAndType 12 6), (0, u "GREATER"), (0, .fieldref 1 14), (0, .nameAndType 15 6), (0, u "GREATER_OR_EQUAL"), (0, .fieldref 1 17), (0, .nameAndType 18 6), (0, u "EQUAL"), (0, .fieldref 1 20), (0, .nameAndType 21 6), (0, u "NOT_EQUAL"), (2, u "$VALUES"), (0, u "[Lcom/example/meshwatch/meshwatch/Relation;"), (6, .class_ 34), (1, u "java/lang/Enum"), (6, .methodref 1 42), (0, .nameAndType 43 44), (0, u "ordinal"), (0, u "()I"), (19, u "holds"), (0, u "(DD)Z"), (37, u "negated"), (0, u "()Lcom/example/meshwatch/meshwatch/Relation;")] 7

def k6c0 : Code := { maxStack := 4, maxLocals := 5, code := prog_24_method_5_code, exceptionTable := #[], attributes := #[] }
def k6m0 : Method := { name := "holds", desc := "(DD)Z", sig := { parameters := [.double, .double], returnType := some .boolean }, accessFlags := 0, code := some k6c0 }
def k6c1 : Code := { maxStack := 4, maxLocals := 1, code := prog_24_method_6_code, exceptionTable := #[], attributes := #[] }
def k6m1 : Method := { name := "negated", desc := "()Lcom/example/meshwatch/meshwatch/Relation;", sig := { parameters := [], returnType := some (.object "com/example/meshwatch/meshwatch/Relation") }, accessFlags := 0, code := some k6c1 }
/-- com/example/meshwatch/meshwatch/Relation -/
def k6 : Class := { plain "com/example/meshwatch/meshwatch/Relation" (some 5) with
  accessFlags := 16432
  interfaces := #[]
  cf := some (fileOf pool6 1 #[] #[{ accessFlags := 0, nameIndex := 64, descriptorIndex := 65, attributes := #[] }, { accessFlags := 0, nameIndex := 103, descriptorIndex := 104, attributes := #[] }] 16432 32 #[] #[{ accessFlags := 16409, nameIndex := 5, descriptorIndex := 6, attributes := #[] }, { accessFlags := 16409, nameIndex := 9, descriptorIndex := 6, attributes := #[] }, { accessFlags := 16409, nameIndex := 12, descriptorIndex := 6, attributes := #[] }, { accessFlags := 16409, nameIndex := 15, descriptorIndex := 6, attributes := #[] }, { accessFlags := 16409, nameIndex := 18, descriptorIndex := 6, attributes := #[] }, { accessFlags := 16409, nameIndex := 21, descriptorIndex := 6, attributes := #[] }, { accessFlags := 4122, nameIndex := 24, descriptorIndex := 25, attributes := #[] }])
  fields := #[{ name := "LESS", type := (.object "com/example/meshwatch/meshwatch/Relation"), accessFlags := 16409, slot := 0, constantValue := 0 }, { name := "LESS_OR_EQUAL", type := (.object "com/example/meshwatch/meshwatch/Relation"), accessFlags := 16409, slot := 1, constantValue := 0 }, { name := "GREATER", type := (.object "com/example/meshwatch/meshwatch/Relation"), accessFlags := 16409, slot := 2, constantValue := 0 }, { name := "GREATER_OR_EQUAL", type := (.object "com/example/meshwatch/meshwatch/Relation"), accessFlags := 16409, slot := 3, constantValue := 0 }, { name := "EQUAL", type := (.object "com/example/meshwatch/meshwatch/Relation"), accessFlags := 16409, slot := 4, constantValue := 0 }, { name := "NOT_EQUAL", type := (.object "com/example/meshwatch/meshwatch/Relation"), accessFlags := 16409, slot := 5, constantValue := 0 }, { name := "$VALUES", type := (.array (.object "com/example/meshwatch/meshwatch/Relation")), accessFlags := 4122, slot := 6, constantValue := 0 }]
  methods := #[k6m0, k6m1]
  instanceTypes := #[(.object "java/lang/String"), .int, .int]
  staticTypes := #[(.object "com/example/meshwatch/meshwatch/Relation"), (.object "com/example/meshwatch/meshwatch/Relation"), (.object "com/example/meshwatch/meshwatch/Relation"), (.object "com/example/meshwatch/meshwatch/Relation"), (.object "com/example/meshwatch/meshwatch/Relation"), (.object "com/example/meshwatch/meshwatch/Relation"), (.array (.object "com/example/meshwatch/meshwatch/Relation"))]
  resolved := Array.replicate 112 none
  statics := some 0 }

def pool7 : Array CpInfo := pool [(1, u "java/lang/Cloneable"), (0, .class_ 1), (0, u "java/lang/Object"), (0, .class_ 3)] 3

/-- java/lang/Cloneable -/
def k7 : Class := { plain "java/lang/Cloneable" (some 0) with
  accessFlags := 1537
  interfaces := #[]
  cf := some (fileOf pool7 2 #[] #[] 1537 4 #[] #[])
  fields := #[]
  methods := #[]
  instanceTypes := #[]
  staticTypes := #[]
  resolved := Array.replicate 8 none
  statics := none }

/-- the primitive byte -/
def k8 : Class := { plain "byte" none with kind := .primitive 'B', accessFlags := 0x411 }
/-- [B -/
def k9 : Class := { plain "[B" (some 0) with kind := .array 8 .byte, interfaces := #[7, 4], accessFlags := 1041 }

/-- the primitive int -/
def k10 : Class := { plain "int" none with kind := .primitive 'I', accessFlags := 0x411 }
/-- [I -/
def k11 : Class := { plain "[I" (some 0) with kind := .array 10 .int, interfaces := #[7, 4], accessFlags := 1041 }

/-- [Lcom/example/meshwatch/meshwatch/Relation; -/
def k12 : Class := { plain "[Lcom/example/meshwatch/meshwatch/Relation;" (some 0) with kind := .array 6 (.object "com/example/meshwatch/meshwatch/Relation"), interfaces := #[7, 4], accessFlags := 1041 }

def heap : Heap := #[{ cls := 6, slots := #[.ref 1, .ref 2, .ref 3, .ref 4, .ref 5, .ref 6, .null], vm := .statics 6 },
  { cls := 6, slots := #[.null, .int 0, .int 0], vm := .none },
  { cls := 6, slots := #[.null, .int 1, .int 0], vm := .none },
  { cls := 6, slots := #[.null, .int 2, .int 0], vm := .none },
  { cls := 6, slots := #[.null, .int 3, .int 0], vm := .none },
  { cls := 6, slots := #[.null, .int 4, .int 0], vm := .none },
  { cls := 6, slots := #[.null, .int 5, .int 0], vm := .none }]
def classes : Array Class := #[k0, k1, k2, k3, k4, k5, k6, k7, k8, k9, k10, k11, k12]
def interned : List (Array UInt16 × Addr) := []
def slotsUsed : Nat := 25
def theMethod : MethodId := ⟨1, 2⟩
def args0 : Array Value := #[.int 1, .int 1, .int 1]
def aboutOver (below : List Frame) : State where
  vm := { classes := classes, interned := interned.toArray }
  heap := heap
  slotsUsed := slotsUsed
  threads := #[{ frames := .invoking theMethod args0 :: below }]
def below0 : List Frame := [.native { method := ⟨0, 0⟩, args := #[] }]
def about1 : State := aboutOver below0
def p0 : Program := .bare "" "" ""
def e0 : Env := launch0.env 0 0 0
theorem w_frames : about1.frames = Frame.invoking theMethod args0 :: below0 := rfl
set_option maxRecDepth 65536 in
theorem w_args : argsFit about1.vm theMethod args0 = true := by decide +kernel
set_option maxRecDepth 65536 in
theorem w_heap : heapFits about1 = true := by decide +kernel
set_option maxRecDepth 65536 in
theorem w_runnable : about1.curStatus? = some .runnable := by decide +kernel
set_option maxRecDepth 65536 in
theorem w_alone : about1.alone = true := by decide +kernel
set_option maxRecDepth 65536 in
theorem w_named : about1.methodNamed? x = some theMethod := by decide +kernel
set_option maxRecDepth 65536 in
theorem w_hears : about1.hears theMethod below0 = true := by decide +kernel
set_option maxRecDepth 65536 in
theorem w_ripe : about1.ripe theMethod args0 below0 = true := by decide +kernel
theorem w_running : about1.status = .running := rfl
set_option maxRecDepth 65536 in
theorem w_room : about1.hasRoom e0.platform room_1 = true :=
  launch0.hasRoom_least _ room_1 (by decide +kernel) (by decide +kernel) (by decide +kernel) (by decide +kernel) (by decide +kernel) (by decide +kernel)
theorem allAtoms_all (ts : List Jvm.Cond) (a : Array Jvm.Value) (st : Jvm.State) : (allAtoms ts).before a st = ts.all (fun c => c.before a st) := by
  induction ts with
  | nil => rfl
  | cons c t ih =>
    show (Jvm.Cond.and c (allAtoms t)).before a st = _
    rw [Jvm.Cond.before_and, ih, List.all_cons]
def words1 : List Jvm.Cond := Jvm.Cond.code x code maxLocals ret :: tables_1
/-- a 'code' word, met by the world's own term for the bytes: nothing is compared byte by byte -/
theorem code_word {y : MethodName} {bytes : ByteArray} {mx : Nat} {rt : Option FieldType} {a : Array Value} {s : State} {m : MethodId} {meth : Method} {c : Code} (h1 : s.methodNamed? y = some m) (h2 : s.vm.method? m = some meth) (h3 : meth.code = some c) (h4 : c.code = bytes)
    (h5 : (c.maxLocals == mx && c.exceptionTable.isEmpty && decide (c.maxStack ≤ mostOperands) && decide (meth.sig.returnType = rt) && !meth.locks && decide (parseMethodDescriptor y.desc = some meth.sig)) = true) : (Jvm.Cond.code y bytes mx rt).before a s = true := by
  simp only [Bool.and_eq_true, beq_iff_eq, Bool.not_eq_true', decide_eq_true_eq] at h5
  obtain ⟨⟨⟨⟨⟨g1, g2⟩, g3⟩, g4⟩, g5⟩, g6⟩ := h5
  simp [Cond.before, Cond.holds, Cond.value, h1, h2, h3, h4, g1, g2, g3, g4, g5, g6]
def isCode : Jvm.Cond → Bool
  | .code _ _ _ _ => true
  | _ => false
theorem all_split {L : List Jvm.Cond} {P : Jvm.Cond → Bool} (h1 : L.all (fun c => isCode c || P c) = true) (h2 : ∀ c ∈ L.filter isCode, P c = true) : L.all P = true := by
  refine List.all_eq_true.mpr fun c hc => ?_
  have h := List.all_eq_true.mp h1 c hc
  rcases Bool.eq_false_or_eq_true (isCode c) with hi | hi
  · exact h2 c (List.mem_filter.mpr ⟨hc, hi⟩)
  · simpa [hi] using h
set_option maxRecDepth 65536 in
theorem w_c0 : (Jvm.Cond.code x code maxLocals ret).before args0 about1 = true := code_word (m := ⟨1, 2⟩) (meth := k1m2) (c := k1c2) (by decide +kernel) rfl rfl rfl (by decide +kernel)
set_option maxRecDepth 65536 in
theorem w_c1 : (Jvm.Cond.code ({ cls := "com/example/meshwatch/meshwatch/Relation", name := "negated", desc := "()Lcom/example/meshwatch/meshwatch/Relation;" } : Jvm.MethodName) prog_24_method_6_code (1 : Nat) (Option.some (Jvm.ClassFile.FieldType.object "com/example/meshwatch/meshwatch/Relation"))).before args0 about1 = true := code_word (m := ⟨6, 1⟩) (meth := k6m1) (c := k6c1) (by decide +kernel) rfl rfl rfl (by decide +kernel)
set_option maxRecDepth 65536 in
theorem w_c2 : (Jvm.Cond.code ({ cls := "java/lang/Enum", name := "ordinal", desc := "()I" } : Jvm.MethodName) jdk_37_method_2_code (1 : Nat) (Option.some Jvm.ClassFile.FieldType.int)).before args0 about1 = true := code_word (m := ⟨5, 0⟩) (meth := k5m0) (c := k5c0) (by decide +kernel) rfl rfl rfl (by decide +kernel)
set_option maxRecDepth 65536 in
theorem w_c3 : (Jvm.Cond.code ({ cls := "com/example/meshwatch/meshwatch/RelationNegatedPinLaw", name := "complement", desc := "(Lcom/example/meshwatch/meshwatch/Relation;Lcom/example/meshwatch/meshwatch/Relation;DD)Z" } : Jvm.MethodName) method_2_code (6 : Nat) (Option.some Jvm.ClassFile.FieldType.boolean)).before args0 about1 = true := code_word (m := ⟨1, 1⟩) (meth := k1m1) (c := k1c1) (by decide +kernel) rfl rfl rfl (by decide +kernel)
set_option maxRecDepth 65536 in
theorem w_c4 : (Jvm.Cond.code ({ cls := "com/example/meshwatch/meshwatch/Relation", name := "holds", desc := "(DD)Z" } : Jvm.MethodName) prog_24_method_5_code (5 : Nat) (Option.some Jvm.ClassFile.FieldType.boolean)).before args0 about1 = true := code_word (m := ⟨6, 0⟩) (meth := k6m0) (c := k6c0) (by decide +kernel) rfl rfl rfl (by decide +kernel)
def codes1 : List Jvm.Cond := [Jvm.Cond.code x code maxLocals ret, Jvm.Cond.code ({ cls := "com/example/meshwatch/meshwatch/Relation", name := "negated", desc := "()Lcom/example/meshwatch/meshwatch/Relation;" } : Jvm.MethodName) prog_24_method_6_code (1 : Nat) (Option.some (Jvm.ClassFile.FieldType.object "com/example/meshwatch/meshwatch/Relation")), Jvm.Cond.code ({ cls := "java/lang/Enum", name := "ordinal", desc := "()I" } : Jvm.MethodName) jdk_37_method_2_code (1 : Nat) (Option.some Jvm.ClassFile.FieldType.int), Jvm.Cond.code ({ cls := "com/example/meshwatch/meshwatch/RelationNegatedPinLaw", name := "complement", desc := "(Lcom/example/meshwatch/meshwatch/Relation;Lcom/example/meshwatch/meshwatch/Relation;DD)Z" } : Jvm.MethodName) method_2_code (6 : Nat) (Option.some Jvm.ClassFile.FieldType.boolean), Jvm.Cond.code ({ cls := "com/example/meshwatch/meshwatch/Relation", name := "holds", desc := "(DD)Z" } : Jvm.MethodName) prog_24_method_5_code (5 : Nat) (Option.some Jvm.ClassFile.FieldType.boolean)]
set_option maxRecDepth 65536 in
theorem codes_eq : words1.filter isCode = codes1 := rfl
theorem w_codes : ∀ c ∈ words1.filter isCode, c.before args0 about1 = true := by
  rw [codes_eq]
  intro c hc
  simp only [codes1, List.mem_cons, List.not_mem_nil, or_false] at hc
  rcases hc with rfl | rfl | rfl | rfl | rfl
  · exact w_c0
  · exact w_c1
  · exact w_c2
  · exact w_c3
  · exact w_c4
set_option maxRecDepth 65536 in
theorem w_t1 : (words1.take 24).all (fun c => isCode c || c.before args0 about1) = true := by decide +kernel
set_option maxRecDepth 65536 in
theorem w_t2 : (words1.drop 24).all (fun c => isCode c || c.before args0 about1) = true := by decide +kernel
theorem w_tables : (allAtoms (Jvm.Cond.code x code maxLocals ret :: tables_1)).before args0 about1 = true := by
  rw [allAtoms_all]
  show words1.all (fun c => c.before args0 about1) = true
  refine all_split ?_ w_codes
  rw [← List.take_append_drop 24 words1, List.all_append, w_t1, w_t2]
  rfl
set_option maxRecDepth 65536 in
theorem w_case : (Jvm.Cond.and given_1 narrow_1).before args0 about1 = true := by decide +kernel
theorem w_applies : (headSpec (Jvm.Cond.code x code maxLocals ret :: tables_1) room_1).applies x e0.platform about1 = true :=
  (Spec.applies_iff w_frames).mpr ⟨w_running, w_runnable, w_alone, w_named, w_hears, w_ripe, w_room, w_tables⟩
theorem atStart : AtStart classFile x code maxLocals ret World_1 tables_1 room_1 Calls_1 rest_1 Pre_1 launch0 p0 e0 about1 theMethod args0 below0 :=
  ⟨lists_1, trivial, launch0.admits_env _ _ _, launch0.least_env, fairChoices_fair.cas, fairChoices_fair.clock, w_frames, w_args, w_heap, w_applies, trivial, trivial, w_case⟩
end start1
theorem witness_1 : WitnessClaimed_1 := ⟨start1.p0, start1.e0, start1.about1, start1.theMethod, start1.args0, start1.below0, start1.atStart⟩
end Jvm.Pilot.@@N@@
