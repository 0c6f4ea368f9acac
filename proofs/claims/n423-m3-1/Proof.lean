import JvmDerived
import JvmDerived.Pilot.@@N@@Statement
import JvmDerived.Pilot.@@N@@Code
set_option linter.unusedVariables false
set_option linter.unusedSimpArgs false
namespace Jvm.Pilot.@@N@@
open Jvm Jvm.ClassFile Sem Op Lib Jvm.Free Jvm.Stand Jvm.LawKit Jvm.RoadKit Bundle Jvm.Pilot.@@N@@.Jvm.D
section OwnWalk
variable {p : Program} {l : Launch} {e : Env} {R : Room} {s : State} {m : MethodId} {args : Array Value} {below : List Frame} {meth : Method} {c : Code} {T T' : State} {locs : List Loc} {cells slots kc ks : Nat} {g g' : JFrame} {Q : Option Value → Heap → List Loc → Prop}
/-- from here the run comes to its end, and the end is as Q says -/
def own_G (p : Program) (e : Env) (below : List Frame) (s : State) (Q : Option Value → Heap → List Loc → Prop) (kc ks : Nat) (T : State) (g : JFrame) : Prop :=
  ∃ s₂ o, Steps p.tables e below (T.setTop g) s₂ ∧ s₂.status = .running ∧ Ended s₂ below o ∧ ∃ v L, o = .returned v ∧ Q v s₂.heap L ∧ FrameEnd s o s₂ L kc ks
theorem own_enter (q : g = g') (k : own_G p e below s Q kc ks T g') : own_G p e below s Q kc ks T g := q ▸ k
theorem own_st (st : ∀ t, Steps p.tables e below (T'.setTop g') t → Steps p.tables e below (T.setTop g) t) (k : own_G p e below s Q kc ks T' g') : own_G p e below s Q kc ks T g := by
  obtain ⟨s₂, o, h1, h2⟩ := k
  exact ⟨s₂, o, st _ h1, h2⟩
theorem own_tr (st : Steps p.tables e below (T.setTop g) (T'.setTop g')) (k : own_G p e below s Q kc ks T' g') : own_G p e below s Q kc ks T g := own_st (fun _ h => st.trans h) k
theorem own_ret (X : Stand p l e R s m args below meth c T locs cells slots) (hx : p.tables.exec = Jvm.exec) (hlk : meth.locks = false) {pc : Nat} {Ls : Array Slot} {w : Value} {t : FieldType} {i : Instr} {rest : List Value} (hret : meth.sig.returnType = some t) (hn : narrow t w = w)
    (hi : (i = .ireturn ∧ (t = .int ∨ t = .boolean ∨ t = .byte ∨ t = .char ∨ t = .short) ∧ ∃ z, w = .int z) ∨ (i = .lreturn ∧ t = .long ∧ ∃ z, w = .long z) ∨ (i = .dreturn ∧ t = .double ∧ ∃ z, w = .double z) ∨ (i = .freturn ∧ t = .float ∧ ∃ z, w = .float z) ∨ (i = .areturn ∧ t.isReference = true ∧ w.isRef = true))
    (hd : decode c.code pc = .ok (i, 1)) (hc : cells ≤ kc) (hs : slots ≤ ks) (hQ : Q (some w) T.heap locs) : own_G p e below s Q kc ks T (mkF m pc Ls (w :: rest)) := by
  obtain ⟨fs, hr, hrun, hended, hW, hsame⟩ := X.leave (v := some w) (fun h => by rw [hret] at h; cases h) hlk
  exact ⟨_, _, retOut X hx hret hn hi hd hr, hrun, hended, _, _, rfl, hQ, ⟨_, rfl⟩, hW, hsame.mono hc hs⟩
theorem own_retI (X : Stand p l e R s m args below meth c T locs cells slots) (hx : p.tables.exec = Jvm.exec) (hlk : meth.locks = false) {pc : Nat} {Ls : Array Slot} {z : Int32} {rest : List Value} (hret : meth.sig.returnType = some .int)
    (hd : decode c.code pc = .ok (.ireturn, 1)) (hc : cells ≤ kc) (hs : slots ≤ ks) (hQ : Q (some (.int z)) T.heap locs) : own_G p e below s Q kc ks T (mkF m pc Ls (.int z :: rest)) :=
  own_ret X hx hlk hret rfl (Or.inl ⟨rfl, Or.inl rfl, z, rfl⟩) hd hc hs hQ
theorem own_retZ (X : Stand p l e R s m args below meth c T locs cells slots) (hx : p.tables.exec = Jvm.exec) (hlk : meth.locks = false) {pc : Nat} {Ls : Array Slot} {z : Int32} {rest : List Value} (hret : meth.sig.returnType = some .boolean)
    (hd : decode c.code pc = .ok (.ireturn, 1)) (hn : narrow .boolean (.int z) = .int z) (hc : cells ≤ kc) (hs : slots ≤ ks) (hQ : Q (some (.int z)) T.heap locs) : own_G p e below s Q kc ks T (mkF m pc Ls (.int z :: rest)) :=
  own_ret X hx hlk hret hn (Or.inl ⟨rfl, Or.inr (Or.inl rfl), z, rfl⟩) hd hc hs hQ
theorem own_retJ (X : Stand p l e R s m args below meth c T locs cells slots) (hx : p.tables.exec = Jvm.exec) (hlk : meth.locks = false) {pc : Nat} {Ls : Array Slot} {z : Int64} {rest : List Value} (hret : meth.sig.returnType = some .long)
    (hd : decode c.code pc = .ok (.lreturn, 1)) (hc : cells ≤ kc) (hs : slots ≤ ks) (hQ : Q (some (.long z)) T.heap locs) : own_G p e below s Q kc ks T (mkF m pc Ls (.long z :: rest)) :=
  own_ret X hx hlk hret rfl (Or.inr (Or.inl ⟨rfl, rfl, z, rfl⟩)) hd hc hs hQ
theorem own_retD (X : Stand p l e R s m args below meth c T locs cells slots) (hx : p.tables.exec = Jvm.exec) (hlk : meth.locks = false) {pc : Nat} {Ls : Array Slot} {z : UInt64} {rest : List Value} (hret : meth.sig.returnType = some .double)
    (hd : decode c.code pc = .ok (.dreturn, 1)) (hc : cells ≤ kc) (hs : slots ≤ ks) (hQ : Q (some (.double z)) T.heap locs) : own_G p e below s Q kc ks T (mkF m pc Ls (.double z :: rest)) :=
  own_ret X hx hlk hret rfl (Or.inr (Or.inr (Or.inl ⟨rfl, rfl, z, rfl⟩))) hd hc hs hQ
theorem own_retA (X : Stand p l e R s m args below meth c T locs cells slots) (hx : p.tables.exec = Jvm.exec) (hlk : meth.locks = false) {pc : Nat} {Ls : Array Slot} {w : Value} {t : FieldType} {rest : List Value} (hret : meth.sig.returnType = some t) (ht : t.isReference = true) (hw : w.isRef = true)
    (hd : decode c.code pc = .ok (.areturn, 1)) (hc : cells ≤ kc) (hs : slots ≤ ks) (hQ : Q (some w) T.heap locs) : own_G p e below s Q kc ks T (mkF m pc Ls (w :: rest)) :=
  own_ret X hx hlk hret (by cases t <;> first | (cases ht; done) | (cases w <;> first | (cases hw; done) | rfl)) (Or.inr (Or.inr (Or.inr (Or.inr ⟨rfl, ht, hw⟩)))) hd hc hs hQ
theorem own_retV (X : Stand p l e R s m args below meth c T locs cells slots) (hx : p.tables.exec = Jvm.exec) (hlk : meth.locks = false) {pc : Nat} {Ls : Array Slot} (hret : meth.sig.returnType = none)
    (hd : decode c.code pc = .ok (.return_, 1)) (hc : cells ≤ kc) (hs : slots ≤ ks) (hQ : Q none T.heap locs) : own_G p e below s Q kc ks T (mkF m pc Ls []) := by
  obtain ⟨fs, hr, hrun, hended, hW, hsame⟩ := X.leave (v := none) (fun _ => rfl) hlk
  exact ⟨_, _, X.returnOut hx hret hd hr, hrun, hended, _, _, rfl, hQ, ⟨_, rfl⟩, hW, hsame.mono hc hs⟩
end OwnWalk
section OwnFloat
/-! ## Doubles as fractions: x is n / 2^k, exactly -/
def own_Dy (x : UInt64) (n : Int) (k : Nat) : Prop :=
  (∃ s c q, FP.Core.val64 x = .fin s c q) ∧ k ≤ 1074 ∧ FP.Core.zval FP.Core.b64 (FP.Core.val64 x) = n * ((2 ^ (1074 - k) : Nat) : Int)
theorem own_qmax : FP.Core.b64.qmax = 971 := by decide
theorem own_p : FP.Core.b64.p = 53 := by decide
theorem own_signed_abs (n : Int) : FP.Core.signed (decide (n < 0)) n.natAbs = n := by
  unfold FP.Core.signed; by_cases h : n < 0 <;> simp [h] <;> omega
/-- every n / 2^k with |n| < 2^53 is a double's value -/
theorem own_fitV {n : Int} {k : Nat} (hk : k ≤ 1074) (hn : n.natAbs < 9007199254740992) :
    ∃ V, FP.Core.fits FP.Core.b64 V ∧ (∃ s c q, V = .fin s c q) ∧ FP.Core.zval FP.Core.b64 V = n * ((2 ^ (1074 - k) : Nat) : Int) := by
  obtain ⟨c', q', h1, h2⟩ := FP.Core.round_exact FP.Core.good_b64 (decide (n < 0)) (c := n.natAbs) (q := -(k : Int)) (by rw [own_p]; exact hn) (by rw [FP.Core.qmin_b64]; omega) (by rw [own_qmax]; omega)
  refine ⟨_, FP.Core.round_fits FP.Core.good_b64 (.fin (decide (n < 0)) n.natAbs (-(k : Int))), ⟨_, _, _, h1⟩, ?_⟩
  rw [h1]
  show FP.Core.signed (decide (n < 0)) (FP.Core.inUnits c' q' FP.Core.b64.qmin) = _
  rw [h2]
  unfold FP.Core.inUnits
  rw [FP.Core.qmin_b64, show (-(k : Int) - -1074).toNat = 1074 - k by omega, FP.Core.signed_mul, own_signed_abs]
/-- what is worth n / 2^k rounds to that -/
theorem own_round {s : Bool} {c : Nat} {q e0 n : Int} {k : Nat} (hk : k ≤ 1074) (hn : n.natAbs < 9007199254740992) (h0 : e0 ≤ -1074) (h1 : e0 ≤ q)
    (h : FP.Core.signed s (FP.Core.inUnits c q e0) = n * ((2 ^ (1074 - k) : Nat) : Int) * ((2 ^ (-1074 - e0).toNat : Nat) : Int)) :
    (∃ s' c' q', FP.Core.round FP.Core.b64 (.fin s c q) = .fin s' c' q') ∧ FP.Core.zval FP.Core.b64 (FP.Core.round FP.Core.b64 (.fin s c q)) = n * ((2 ^ (1074 - k) : Nat) : Int) := by
  obtain ⟨V, v1, ⟨vs, vc, vq, v2⟩, v3⟩ := own_fitV hk hn
  have hne : V ≠ .nan := by rw [v2]; exact FP.Core.Datum.noConfusion
  have hq := FP.Core.qmin_b64
  have le := FP.Core.zval_round_le FP.Core.good_b64 (s := s) (c := c) (q := q) (e0 := e0) v1 hne (by rw [hq]; exact h0) h1 (by rw [hq, v3, h]; exact Int.le_refl _)
  have ge := FP.Core.zval_round_ge FP.Core.good_b64 (s := s) (c := c) (q := q) (e0 := e0) v1 hne (by rw [hq]; exact h0) h1 (by rw [hq, v3, h]; exact Int.le_refl _)
  have e : FP.Core.zval FP.Core.b64 (FP.Core.round FP.Core.b64 (.fin s c q)) = FP.Core.zval FP.Core.b64 V := Int.le_antisymm le ge
  refine ⟨?_, e.trans v3⟩
  rcases FP.Core.roundRatio_cases FP.Core.b64 s c 1 q with ⟨c', q', h'⟩ | h'
  · exact ⟨_, _, _, h'⟩
  · exfalso
    have e' : FP.Core.zval FP.Core.b64 (FP.Core.roundRatio FP.Core.b64 s c 1 q) = FP.Core.zval FP.Core.b64 V := e
    rw [h', v2] at e'
    rw [v2] at v1
    have hlt := FP.Core.zmag_lt_top FP.Core.good_b64 v1
    have e2 : FP.Core.signed s (FP.Core.b64.tails * 2 ^ (FP.Core.b64.exps - 2)) = FP.Core.signed vs (FP.Core.inUnits vc vq FP.Core.b64.qmin) := e'
    clear e'
    generalize FP.Core.inUnits vc vq FP.Core.b64.qmin = a at e2 hlt
    generalize FP.Core.b64.tails * 2 ^ (FP.Core.b64.exps - 2) = b at e2 hlt
    cases s <;> cases vs <;> simp only [FP.Core.signed, if_true, Bool.false_eq_true, if_false] at e2 <;> omega
theorem own_Dy.fin {x : UInt64} {n : Int} {k : Nat} (h : own_Dy x n k) : Fl.Fin64 x := by
  obtain ⟨⟨s, c, q, h1⟩, -⟩ := h
  exact Fl.fin64_core.mpr ⟨s, c, q, h1⟩
theorem own_Dy.nn {x : UInt64} {n : Int} {k : Nat} (h : own_Dy x n k) : Fl.NoNaN64 x := h.fin.noNaN
theorem own_Dy.ne {x : UInt64} {n : Int} {k : Nat} (h : own_Dy x n k) : FP.Core.val64 x ≠ .nan := by
  obtain ⟨⟨s, c, q, h1⟩, -⟩ := h; rw [h1]; exact FP.Core.Datum.noConfusion
theorem own_pow {j k : Nat} (h : j + k ≤ 1074) : ((2 ^ (1074 - j) : Nat) : Int) = ((2 ^ k : Nat) : Int) * ((2 ^ (1074 - (j + k)) : Nat) : Int) := by
  rw [← Int.natCast_mul, ← Nat.pow_add]; congr 2; omega
/-- the same number, with a greater denominator -/
theorem own_Dy.up {x : UInt64} {n : Int} {k : Nat} (h : own_Dy x n k) (j : Nat) (hj : k + j ≤ 1074) : own_Dy x (n * ((2 ^ j : Nat) : Int)) (k + j) := by
  obtain ⟨h1, -, h3⟩ := h
  refine ⟨h1, hj, ?_⟩
  rw [h3, own_pow hj, Int.mul_assoc]
theorem own_Dy.dn {x : UInt64} {n : Int} {k j : Nat} (h : own_Dy x (n * ((2 ^ j : Nat) : Int)) (k + j)) : own_Dy x n k := by
  obtain ⟨h1, h2, h3⟩ := h
  refine ⟨h1, by omega, ?_⟩
  rw [h3, own_pow h2, Int.mul_assoc]
theorem own_dy_l2d {a : Int64} (h1 : -9007199254740992 < a.toInt) (h2 : a.toInt < 9007199254740992) : own_Dy (FP.l2d a) a.toInt 0 := by
  have hr := own_round (s := decide (a.toInt < 0)) (c := a.toInt.natAbs) (q := 0) (e0 := -1074) (n := a.toInt) (k := 0) (by omega) (by omega) (by omega) (by omega) (by
    unfold FP.Core.inUnits
    rw [FP.Core.signed_mul, own_signed_abs, show (0 - -1074 : Int).toNat = 1074 from rfl, show (-1074 - -1074 : Int).toNat = 0 from rfl, Nat.pow_zero, Int.natCast_one, Int.mul_one])
  have hv : FP.Core.val64 (FP.l2d a) = FP.Core.round FP.Core.b64 (.fin (decide (a.toInt < 0)) a.toInt.natAbs 0) := FP.Core.val64_l2d a
  unfold own_Dy
  rw [hv]
  exact ⟨hr.1, by omega, hr.2⟩
theorem own_dy_i2d (a : Int32) : own_Dy (FP.i2d a) a.toInt 0 := by
  have h := Int32.toInt_lt a
  have h' := Int32.le_toInt a
  have e : a.toInt64.toInt = a.toInt := Int32.toInt_toInt64 a
  have := own_dy_l2d (a := a.toInt64) (by omega) (by omega)
  rw [e] at this
  exact (FP.Core.i2d_l2d a ▸ this : own_Dy (FP.Core.i2d a) a.toInt 0)
theorem own_Dy.add {x y : UInt64} {n m : Int} {k : Nat} (hx : own_Dy x n k) (hy : own_Dy y m k) (h : (n + m).natAbs < 9007199254740992) : own_Dy (FP.dadd x y) (n + m) k := by
  obtain ⟨⟨s, c, q, hx1⟩, hk, hx3⟩ := hx
  obtain ⟨⟨t, d, r, hy1⟩, -, hy3⟩ := hy
  obtain ⟨sg, w, e, h1, h2, h3⟩ := FP.Core.sum_units (f := FP.Core.b64) (hx1 ▸ FP.Core.val64_fits x) (hy1 ▸ FP.Core.val64_fits y)
  have hq := FP.Core.qmin_b64
  rw [← hx1, ← hy1, hx3, hy3, ← Int.add_mul] at h3
  have hr := own_round (s := sg) (c := w) (q := e) (e0 := -1074) (n := n + m) (k := k) hk h (by omega) (by rw [hq] at h2; exact h2) (by
    rw [hq] at h3; rw [h3, show (-1074 - -1074 : Int).toNat = 0 from rfl, Nat.pow_zero, Int.natCast_one, Int.mul_one])
  have hv : FP.Core.val64 (FP.dadd x y) = FP.Core.round FP.Core.b64 (.fin sg w e) := by
    have := FP.Core.val64_dadd x y
    rw [hx1, hy1, h1] at this
    exact this
  unfold own_Dy
  rw [hv]
  exact ⟨hr.1, hk, hr.2⟩
theorem own_Dy.sub {x y : UInt64} {n m : Int} {k : Nat} (hx : own_Dy x n k) (hy : own_Dy y m k) (h : (n - m).natAbs < 9007199254740992) : own_Dy (FP.dsub x y) (n - m) k := by
  obtain ⟨⟨s, c, q, hx1⟩, hk, hx3⟩ := hx
  obtain ⟨⟨t, d, r, hy1⟩, -, hy3⟩ := hy
  have hyn : FP.Core.fits FP.Core.b64 (FP.Core.negate (.fin t d r)) := FP.Core.negate_fits (hy1 ▸ FP.Core.val64_fits y)
  obtain ⟨sg, w, e, h1, h2, h3⟩ := FP.Core.sum_units (f := FP.Core.b64) (s := s) (c := c) (q := q) (t := !t) (d := d) (r := r) (hx1 ▸ FP.Core.val64_fits x) hyn
  have hq := FP.Core.qmin_b64
  have hneg : FP.Core.zval FP.Core.b64 (.fin (!t) d r) = -(m * ((2 ^ (1074 - k) : Nat) : Int)) := by
    rw [← hy3, hy1]; exact FP.Core.zval_negate FP.Core.b64 (.fin t d r)
  rw [← hx1, hx3, hneg, ← Int.sub_eq_add_neg, ← Int.sub_mul] at h3
  have hr := own_round (s := sg) (c := w) (q := e) (e0 := -1074) (n := n - m) (k := k) hk h (by omega) (by rw [hq] at h2; exact h2) (by
    rw [hq] at h3; rw [h3, show (-1074 - -1074 : Int).toNat = 0 from rfl, Nat.pow_zero, Int.natCast_one, Int.mul_one])
  have hv : FP.Core.val64 (FP.dsub x y) = FP.Core.round FP.Core.b64 (.fin sg w e) := by
    have := FP.Core.val64_dsub x y
    rw [hx1, hy1] at this
    exact this.trans (congrArg _ h1)
  unfold own_Dy
  rw [hv]
  exact ⟨hr.1, hk, hr.2⟩
theorem own_Dy.mul {x y : UInt64} {n m : Int} {k j : Nat} (hx : own_Dy x n k) (hy : own_Dy y m j) (hkj : k + j ≤ 1074) (h : (n * m).natAbs < 9007199254740992) : own_Dy (FP.dmul x y) (n * m) (k + j) := by
  obtain ⟨⟨s, c, q, hx1⟩, hk, hx3⟩ := hx
  obtain ⟨⟨t, d, r, hy1⟩, hj, hy3⟩ := hy
  obtain ⟨h1, h2, h3⟩ := FP.Core.product_units (f := FP.Core.b64) (hx1 ▸ FP.Core.val64_fits x) (hy1 ▸ FP.Core.val64_fits y)
  have hq := FP.Core.qmin_b64
  have hs : FP.Core.signed (s != t) (FP.Core.zmag FP.Core.b64 (.fin s c q) * FP.Core.zmag FP.Core.b64 (.fin t d r)) = FP.Core.zval FP.Core.b64 (.fin s c q) * FP.Core.zval FP.Core.b64 (.fin t d r) := by
    show _ = FP.Core.signed s (FP.Core.zmag FP.Core.b64 (.fin s c q)) * FP.Core.signed t (FP.Core.zmag FP.Core.b64 (.fin t d r))
    generalize FP.Core.zmag FP.Core.b64 (.fin s c q) = a
    generalize FP.Core.zmag FP.Core.b64 (.fin t d r) = b
    cases s <;> cases t <;> simp [FP.Core.signed, Int.natCast_mul, Int.neg_mul, Int.mul_neg]
  have hr := own_round (s := s != t) (c := c * d) (q := q + r) (e0 := -2148) (n := n * m) (k := k + j) hkj h (by omega) (by rw [hq] at h2; omega) (by
    rw [hq] at h3
    have h3' : FP.Core.inUnits (c * d) (q + r) (-2148) = FP.Core.zmag FP.Core.b64 (FP.Core.Datum.fin s c q) * FP.Core.zmag FP.Core.b64 (FP.Core.Datum.fin t d r) := h3
    rw [h3', hs, ← hx1, ← hy1, hx3, hy3, show (-1074 - -2148 : Int).toNat = 1074 from rfl]
    have e1 : ((2 ^ (1074 - k) : Nat) : Int) * ((2 ^ (1074 - j) : Nat) : Int) = ((2 ^ (1074 - (k + j)) : Nat) : Int) * ((2 ^ 1074 : Nat) : Int) := by
      rw [← Int.natCast_mul, ← Int.natCast_mul, ← Nat.pow_add, ← Nat.pow_add]; congr 2; omega
    generalize ((2 ^ (1074 - k) : Nat) : Int) = A at e1 ⊢
    generalize ((2 ^ (1074 - j) : Nat) : Int) = B at e1 ⊢
    generalize ((2 ^ (1074 - (k + j)) : Nat) : Int) = C at e1 ⊢
    generalize ((2 ^ 1074 : Nat) : Int) = D at e1 ⊢
    calc n * A * (m * B) = n * m * (A * B) := by ac_rfl
      _ = n * m * C * D := by rw [e1]; ac_rfl)
  have hv : FP.Core.val64 (FP.dmul x y) = FP.Core.round FP.Core.b64 (.fin (s != t) (c * d) (q + r)) := by
    have := FP.Core.val64_dmul x y
    rw [hx1, hy1] at this
    exact this.trans (congrArg _ h1)
  unfold own_Dy
  rw [hv]
  exact ⟨hr.1, hkj, hr.2⟩
theorem own_Dy.cmp {x y : UInt64} {n m : Int} {k : Nat} (hx : own_Dy x n k) (hy : own_Dy y m k) : FP.dcmp x y = some (compare n m) := by
  have h := FP.Core.dcmp_zval hx.ne hy.ne
  rw [hx.2.2, hy.2.2, FP.Core.compare_mul_pos _ _ _ (by have := Nat.two_pow_pos (1074 - k); omega)] at h
  exact h
theorem own_Dy.eq {x y : UInt64} {n m : Int} {k : Nat} (hx : own_Dy x n k) (hy : own_Dy y m k) (h : n = m) (o : CmpOp) : cmpValue (FP.dcmp x y) o = 0 := by
  rw [hx.cmp hy, (FP.Core.compare_eq_iff n m).mpr h]; rfl
theorem own_Dy.lt {x y : UInt64} {n m : Int} {k : Nat} (hx : own_Dy x n k) (hy : own_Dy y m k) (h : n < m) (o : CmpOp) : cmpValue (FP.dcmp x y) o = -1 := by
  rw [hx.cmp hy, (FP.Core.compare_lt_iff n m).mpr h]; rfl
theorem own_Dy.gt {x y : UInt64} {n m : Int} {k : Nat} (hx : own_Dy x n k) (hy : own_Dy y m k) (h : m < n) (o : CmpOp) : cmpValue (FP.dcmp x y) o = 1 := by
  rw [hx.cmp hy, (FP.Core.compare_gt_iff n m).mpr h]; rfl
end OwnFloat
section OwnInt
theorem own_ladd {a b : Int64} (h : (a.toInt + b.toInt).natAbs < 9223372036854775808) : (a + b).toInt = a.toInt + b.toInt := by
  have q := c_ladd a b; have r := rng64 (a + b); omega
theorem own_lsub {a b : Int64} (h : (a.toInt - b.toInt).natAbs < 9223372036854775808) : (a - b).toInt = a.toInt - b.toInt := by
  have q := c_lsub a b; have r := rng64 (a - b); omega
theorem own_lmul {a b : Int64} (h : (a.toInt * b.toInt).natAbs < 9223372036854775808) : (a * b).toInt = a.toInt * b.toInt := by
  have q := c_lmul a b; have r := rng64 (a * b); generalize a.toInt * b.toInt = z at *; omega
theorem own_iadd {a b : Int32} (h : (a.toInt + b.toInt).natAbs < 2147483648) : (a + b).toInt = a.toInt + b.toInt := by
  have q := c_iadd a b; have r := rng32 (a + b); omega
theorem own_isub {a b : Int32} (h : (a.toInt - b.toInt).natAbs < 2147483648) : (a - b).toInt = a.toInt - b.toInt := by
  have q := c_isub a b; have r := rng32 (a - b); omega
theorem own_imul {a b : Int32} (h : (a.toInt * b.toInt).natAbs < 2147483648) : (a * b).toInt = a.toInt * b.toInt := by
  have q := c_imul a b; have r := rng32 (a * b); generalize a.toInt * b.toInt = z at *; omega
theorem own_absmul {n m : Int} {A B : Nat} (hn : n.natAbs ≤ A) (hm : m.natAbs ≤ B) : (n * m).natAbs ≤ A * B := by
  rw [Int.natAbs_mul]; exact Nat.mul_le_mul hn hm
end OwnInt
section OwnShift
theorem own_bv {q : Int32} {n : Nat} (h : q.toInt = (n : Int)) : q.toBitVec.toNat = n := by
  have h1 : q.toBitVec.toInt = (n : Int) := h
  have h2 := BitVec.toInt_eq_toNat_cond q.toBitVec
  have h3 := q.toBitVec.isLt
  split at h2 <;> omega
theorem own_lshl {x : Int64} {q : Int32} {n : Nat} (hq : q.toInt = (n : Int)) (hn : n < 64) (hb : (x.toInt * ((2 ^ n : Nat) : Int)).natAbs < 9223372036854775808) : (x <<< (q &&& 0x3f).toInt64).toInt = x.toInt * ((2 ^ n : Nat) : Int) := by
  have h1 := c_lshl x q n (by rw [own_bv hq]; omega)
  have h2 := rng64 (x <<< (q &&& 0x3f).toInt64)
  generalize x.toInt * ((2 ^ n : Nat) : Int) = z at *
  omega
theorem own_ishl {x : Int32} {q : Int32} {n : Nat} (hq : q.toInt = (n : Int)) (hn : n < 32) (hb : (x.toInt * ((2 ^ n : Nat) : Int)).natAbs < 2147483648) : (x <<< (q &&& 31)).toInt = x.toInt * ((2 ^ n : Nat) : Int) := by
  have h1 := c_ishl x q n (by rw [own_bv hq]; omega)
  have h2 := rng32 (x <<< (q &&& 31))
  generalize x.toInt * ((2 ^ n : Nat) : Int) = z at *
  omega
theorem own_ishl1 {q : Int32} {n : Nat} (hq : q.toInt = (n : Int)) (hn : n < 31) : ((1 : Int32) <<< (q &&& 31)).toInt = ((2 ^ n : Nat) : Int) := by
  have e : (1 : Int32).toInt = 1 := by decide
  have hp : 2 ^ n ≤ 2 ^ 30 := Nat.pow_le_pow_right (by omega) (by omega)
  rw [own_ishl hq (by omega) (by rw [e, Int.one_mul, Int.natAbs_natCast]; omega), e, Int.one_mul]
theorem own_lshl1 {q : Int32} {n : Nat} (hq : q.toInt = (n : Int)) (hn : n < 63) : ((1 : Int64) <<< (q &&& 0x3f).toInt64).toInt = ((2 ^ n : Nat) : Int) := by
  have e : (1 : Int64).toInt = 1 := by decide
  have hp : 2 ^ n ≤ 2 ^ 62 := Nat.pow_le_pow_right (by omega) (by omega)
  rw [own_lshl hq (by omega) (by rw [e, Int.one_mul, Int.natAbs_natCast]; omega), e, Int.one_mul]
/-- a mask of ones: what is left is some natural below the power -/
theorem own_andN (x : Int32) (mk : Int32) (M : Nat) (hM : mk.toInt = (M : Int)) : ∃ n : Nat, (x &&& mk).toInt = (n : Int) ∧ n ≤ M := by
  have h := c_and x mk (by omega)
  exact ⟨(x &&& mk).toInt.toNat, by omega, by omega⟩
theorem own_andL (x : Int64) (mk : Int64) (k : Nat) (hk : k ≤ 63) (hm : mk.toBitVec.toNat = 2 ^ k - 1) : ∃ n : Nat, (x &&& mk).toInt = (n : Int) ∧ n < 2 ^ k := by
  have h := c_maskL x mk k hk hm
  have hp := Nat.two_pow_pos k
  have h1 := Int.emod_nonneg x.toInt (show ((2 ^ k : Nat) : Int) ≠ 0 by omega)
  have h2 := Int.emod_lt_of_pos x.toInt (show (0 : Int) < ((2 ^ k : Nat) : Int) by omega)
  exact ⟨(x &&& mk).toInt.toNat, by omega, by omega⟩
theorem own_irem {x y : Int32} (hx : 0 ≤ x.toInt) (hy : 0 < y.toInt) : (x % y).toInt = x.toInt % y.toInt := by
  rw [Int32.toInt_mod, Int.tmod_eq_emod_of_nonneg hx]
theorem own_lrem {x y : Int64} (hx : 0 ≤ x.toInt) (hy : 0 < y.toInt) : (x - x / y * y).toInt = x.toInt % y.toInt := by
  rw [lrem_mod, Int64.toInt_mod, Int.tmod_eq_emod_of_nonneg hx]
end OwnShift
section OwnDiv
theorem own_zmag_of {x : UInt64} {n : Int} {k : Nat} {s : Bool} {c : Nat} {q : Int} (h : FP.Core.val64 x = .fin s c q) (hz : FP.Core.zval FP.Core.b64 (FP.Core.val64 x) = n * ((2 ^ (1074 - k) : Nat) : Int)) :
    c * 2 ^ (q + 1074).toNat = n.natAbs * 2 ^ (1074 - k) ∧ -1074 ≤ q ∧ q ≤ 971 := by
  have hf : FP.Core.fits FP.Core.b64 (.fin s c q) := h ▸ FP.Core.val64_fits x
  obtain ⟨-, h1, h2, -⟩ := hf
  rw [FP.Core.qmin_b64] at h1
  rw [own_qmax] at h2
  refine ⟨?_, h1, h2⟩
  have e := congrArg Int.natAbs hz
  rw [h, Int.natAbs_mul, Int.natAbs_natCast] at e
  unfold FP.Core.zval at e
  rw [FP.Core.natAbs_signed] at e
  have e2 : FP.Core.zmag FP.Core.b64 (.fin s c q) = c * 2 ^ (q + 1074).toNat := by
    show c * 2 ^ (q - FP.Core.b64.qmin).toNat = _
    rw [FP.Core.qmin_b64, show q - -1074 = q + 1074 by omega]
  rw [← e2]; exact e
theorem own_sgn_of {x : UInt64} {n : Int} {k : Nat} {s : Bool} {c : Nat} {q : Int} (h : FP.Core.val64 x = .fin s c q) (hz : FP.Core.zval FP.Core.b64 (FP.Core.val64 x) = n * ((2 ^ (1074 - k) : Nat) : Int)) (hn : n ≠ 0) : s = decide (n < 0) := by
  rw [h] at hz
  have hp : (0 : Int) < ((2 ^ (1074 - k) : Nat) : Int) := by have := Nat.two_pow_pos (1074 - k); omega
  have hz' : FP.Core.signed s (FP.Core.zmag FP.Core.b64 (.fin s c q)) = n * ((2 ^ (1074 - k) : Nat) : Int) := hz
  generalize FP.Core.zmag FP.Core.b64 (.fin s c q) = z at hz'
  generalize ((2 ^ (1074 - k) : Nat) : Int) = P at hz' hp
  cases s
  · have e : (z : Int) = n * P := hz'
    have : ¬ n < 0 := fun u => by have := Int.mul_neg_of_neg_of_pos u hp; omega
    simp [this]
  · have e : -(z : Int) = n * P := hz'
    have : n < 0 := by
      refine Int.lt_of_not_ge fun u => ?_
      have h2 : 0 < n := by omega
      have := Int.mul_pos h2 hp; omega
    simp [this]
/-- a quotient that is a fraction n / 2^i with |n| below 2^53 comes out exactly -/
theorem own_Dy.div {x y : UInt64} {n m w : Int} {k j : Nat} (i : Nat) (hx : own_Dy x n k) (hy : own_Dy y m j) (hm : m ≠ 0) (hi : i ≤ 1074) (hw : w.natAbs < 9007199254740992) (h : n * ((2 ^ (j + i) : Nat) : Int) = w * m * ((2 ^ k : Nat) : Int)) : own_Dy (FP.ddiv x y) w i := by
  obtain ⟨⟨s, c, q, hx1⟩, hk, hx3⟩ := hx
  obtain ⟨⟨t, d, r, hy1⟩, hj, hy3⟩ := hy
  obtain ⟨cx, qx1, qx2⟩ := own_zmag_of hx1 hx3
  obtain ⟨cy, qy1, qy2⟩ := own_zmag_of hy1 hy3
  have hd : d ≠ 0 := fun z => by
    subst z
    rw [Nat.zero_mul] at cy
    rcases Nat.mul_eq_zero.mp cy.symm with u | u
    · omega
    · have := Nat.two_pow_pos (1074 - j); omega
  have hv : FP.Core.val64 (FP.ddiv x y) = FP.Core.roundRatio FP.Core.b64 (s != t) c d (q - r) := by
    have e : FP.Core.val64 (FP.ddiv x y) = FP.Core.quotient FP.Core.b64 (FP.Core.val64 x) (FP.Core.val64 y) := FP.Core.val64_ddiv x y
    rw [e, hx1, hy1]
    show (if d = 0 then _ else _) = _
    rw [if_neg hd]
  obtain ⟨V, v1, ⟨vs, vc, vq, v2⟩, v3⟩ := own_fitV hi hw
  have hne : V ≠ .nan := by rw [v2]; exact FP.Core.Datum.noConfusion
  have hzV : FP.Core.zmag FP.Core.b64 V = w.natAbs * 2 ^ (1074 - i) := by
    have e := congrArg Int.natAbs v3
    unfold FP.Core.zval at e
    rw [FP.Core.natAbs_signed, Int.natAbs_mul, Int.natAbs_natCast] at e
    exact e
  obtain ⟨N, hN⟩ : ∃ N : Nat, N = 4000 := ⟨_, rfl⟩
  have key : FP.Core.inUnits c (q - r) (-(N : Int)) = w.natAbs * 2 ^ (1074 - i) * 2 ^ (N - 1074) * d := by
    have hh : n.natAbs * 2 ^ (j + i) = w.natAbs * m.natAbs * 2 ^ k := by
      have e := congrArg Int.natAbs h
      rw [Int.natAbs_mul, Int.natAbs_natCast, Int.natAbs_mul, Int.natAbs_natCast, Int.natAbs_mul] at e
      exact e
    refine Nat.eq_of_mul_eq_mul_right (Nat.two_pow_pos (r + 1074).toNat) ?_
    unfold FP.Core.inUnits
    have l1 : c * 2 ^ (q - r - -(N : Int)).toNat * 2 ^ (r + 1074).toNat = c * 2 ^ (q + 1074).toNat * 2 ^ N := by
      rw [Nat.mul_assoc, Nat.mul_assoc, ← Nat.pow_add, ← Nat.pow_add]; congr 2; omega
    have l2 : w.natAbs * 2 ^ (1074 - i) * 2 ^ (N - 1074) * d * 2 ^ (r + 1074).toNat = w.natAbs * 2 ^ (1074 - i) * 2 ^ (N - 1074) * (d * 2 ^ (r + 1074).toNat) := by rw [Nat.mul_assoc]
    rw [l1, l2, cx, cy]
    have l3 : n.natAbs * 2 ^ (1074 - k) * 2 ^ N = n.natAbs * 2 ^ (j + i) * 2 ^ (N + 1074 - k - (j + i)) := by
      rw [Nat.mul_assoc, Nat.mul_assoc, ← Nat.pow_add, ← Nat.pow_add]; congr 2; omega
    have l4 : w.natAbs * 2 ^ (1074 - i) * 2 ^ (N - 1074) * (m.natAbs * 2 ^ (1074 - j)) = w.natAbs * m.natAbs * 2 ^ k * 2 ^ (N + 1074 - k - (j + i)) := by
      have this : 2 ^ (1074 - i) * 2 ^ (N - 1074) * 2 ^ (1074 - j) = 2 ^ k * 2 ^ (N + 1074 - k - (j + i)) := by
        rw [← Nat.pow_add, ← Nat.pow_add, ← Nat.pow_add]; exact congrArg (2 ^ ·) (by omega)
      generalize 2 ^ (1074 - i) = X1 at this ⊢
      generalize 2 ^ (N - 1074) = X2 at this ⊢
      generalize 2 ^ (1074 - j) = X3 at this ⊢
      generalize 2 ^ (N + 1074 - k - (j + i)) = X5 at this ⊢
      generalize 2 ^ k = X4 at this ⊢
      calc w.natAbs * X1 * X2 * (m.natAbs * X3) = w.natAbs * m.natAbs * (X1 * X2 * X3) := by ac_rfl
        _ = w.natAbs * m.natAbs * (X4 * X5) := by rw [this]
        _ = _ := by ac_rfl
    rw [l3, l4, hh]
  have le := FP.Core.zmag_roundRatio_le FP.Core.good_b64 (s := s != t) (A := c) (B := d) (e := q - r) (e0 := -(N : Int)) (Nat.pos_of_ne_zero hd) v1 hne (by rw [FP.Core.qmin_b64]; omega) (by omega) (by rw [FP.Core.qmin_b64, key, hzV, show (-1074 - -(N : Int)).toNat = N - 1074 by omega]; exact Nat.le_refl _)
  have ge := FP.Core.zmag_roundRatio_ge FP.Core.good_b64 (s := s != t) (A := c) (B := d) (e := q - r) (e0 := -(N : Int)) (Nat.pos_of_ne_zero hd) v1 (by rw [FP.Core.qmin_b64]; omega) (by omega) (by rw [FP.Core.qmin_b64, key, hzV, show (-1074 - -(N : Int)).toNat = N - 1074 by omega]; exact Nat.le_refl _)
  have eq := Nat.le_antisymm le ge
  have hfin : ∃ s' c' q', FP.Core.roundRatio FP.Core.b64 (s != t) c d (q - r) = .fin s' c' q' := by
    rcases FP.Core.roundRatio_cases FP.Core.b64 (s != t) c d (q - r) with ⟨c', q', h'⟩ | h'
    · exact ⟨_, _, _, h'⟩
    · exfalso
      rw [h', v2] at eq
      rw [v2] at v1
      have hlt := FP.Core.zmag_lt_top FP.Core.good_b64 v1
      have eq2 : FP.Core.b64.tails * 2 ^ (FP.Core.b64.exps - 2) = FP.Core.inUnits vc vq FP.Core.b64.qmin := eq
      rw [eq2] at hlt
      exact Nat.lt_irrefl _ hlt
  refine ⟨by rw [hv]; exact hfin, hi, ?_⟩
  rw [hv]
  unfold FP.Core.zval
  rw [FP.Core.sgn_roundRatio, eq, hzV]
  by_cases hw0 : w = 0
  · subst hw0
    simp [FP.Core.signed]
  · have hn0 : n ≠ 0 := fun z => by
      subst z
      rw [Int.zero_mul] at h
      rcases Int.mul_eq_zero.mp h.symm with u | u
      · rcases Int.mul_eq_zero.mp u with u | u
        · exact hw0 u
        · exact hm u
      · have := Nat.two_pow_pos k; omega
    rw [own_sgn_of hx1 hx3 hn0, own_sgn_of hy1 hy3 hm, FP.Core.signed_mul]
    congr 1
    have hP : (0 : Int) < ((2 ^ (j + i) : Nat) : Int) := by have := Nat.two_pow_pos (j + i); omega
    have hK : (0 : Int) < ((2 ^ k : Nat) : Int) := by have := Nat.two_pow_pos k; omega
    generalize ((2 ^ (j + i) : Nat) : Int) = P at h hP
    generalize ((2 ^ k : Nat) : Int) = R at h hK
    have sg : (n < 0 ↔ ¬ (w < 0 ↔ m < 0)) := by
      have a1 : n < 0 ↔ n * P < 0 := ⟨fun u => Int.mul_neg_of_neg_of_pos u hP, fun u => Int.lt_of_not_ge fun v => by have := Int.mul_nonneg v (Int.le_of_lt hP); omega⟩
      have a2 : w * m < 0 ↔ w * m * R < 0 := ⟨fun u => Int.mul_neg_of_neg_of_pos u hK, fun u => Int.lt_of_not_ge fun v => by have := Int.mul_nonneg v (Int.le_of_lt hK); omega⟩
      rw [a1, h, ← a2]
      rcases Int.lt_or_gt_of_ne hw0 with u | u <;> rcases Int.lt_or_gt_of_ne hm with v | v
      · have := Int.mul_pos_of_neg_of_neg u v; omega
      · have := Int.mul_neg_of_neg_of_pos u v; omega
      · have := Int.mul_neg_of_pos_of_neg u v; omega
      · have := Int.mul_pos u v; omega
    unfold FP.Core.signed
    by_cases u : w < 0 <;> by_cases v : m < 0 <;> by_cases z : n < 0 <;> simp [u, v, z] at sg ⊢ <;> omega
/-- two quotients of one value compare as equal -/
theorem own_div_eq {x y x' y' : UInt64} {n m n' m' : Int} {k k' : Nat} (hx : own_Dy x n k) (hy : own_Dy y m k) (hx' : own_Dy x' n' k') (hy' : own_Dy y' m' k') (hm : 0 < m) (hm' : 0 < m') (h : n * m' = n' * m) (o : CmpOp) :
    cmpValue (FP.dcmp (FP.ddiv x y) (FP.ddiv x' y')) o = 0 ∧ Fl.NoNaN64 (FP.ddiv x y) ∧ Fl.NoNaN64 (FP.ddiv x' y') ∧ FP.Core.zval FP.Core.b64 (FP.Core.val64 (FP.ddiv x y)) = FP.Core.zval FP.Core.b64 (FP.Core.val64 (FP.ddiv x' y')) := by
  obtain ⟨⟨s, c, q, hx1⟩, hk, hx3⟩ := hx
  obtain ⟨⟨t, d, r, hy1⟩, -, hy3⟩ := hy
  obtain ⟨⟨s', c', q', hx1'⟩, hk', hx3'⟩ := hx'
  obtain ⟨⟨t', d', r', hy1'⟩, -, hy3'⟩ := hy'
  obtain ⟨cx, qx1, qx2⟩ := own_zmag_of hx1 hx3
  obtain ⟨cy, qy1, qy2⟩ := own_zmag_of hy1 hy3
  obtain ⟨cx', qx1', qx2'⟩ := own_zmag_of hx1' hx3'
  obtain ⟨cy', qy1', qy2'⟩ := own_zmag_of hy1' hy3'
  have hd : d ≠ 0 := fun z => by
    subst z; rw [Nat.zero_mul] at cy
    rcases Nat.mul_eq_zero.mp cy.symm with u | u
    · omega
    · have := Nat.two_pow_pos (1074 - k); omega
  have hd' : d' ≠ 0 := fun z => by
    subst z; rw [Nat.zero_mul] at cy'
    rcases Nat.mul_eq_zero.mp cy'.symm with u | u
    · omega
    · have := Nat.two_pow_pos (1074 - k'); omega
  have hv : FP.Core.val64 (FP.ddiv x y) = FP.Core.roundRatio FP.Core.b64 (s != t) c d (q - r) := by
    have e : FP.Core.val64 (FP.ddiv x y) = FP.Core.quotient FP.Core.b64 (FP.Core.val64 x) (FP.Core.val64 y) := FP.Core.val64_ddiv x y
    rw [e, hx1, hy1]
    show (if d = 0 then _ else _) = _
    rw [if_neg hd]
  have hv' : FP.Core.val64 (FP.ddiv x' y') = FP.Core.roundRatio FP.Core.b64 (s' != t') c' d' (q' - r') := by
    have e : FP.Core.val64 (FP.ddiv x' y') = FP.Core.quotient FP.Core.b64 (FP.Core.val64 x') (FP.Core.val64 y') := FP.Core.val64_ddiv x' y'
    rw [e, hx1', hy1']
    show (if d' = 0 then _ else _) = _
    rw [if_neg hd']
  have cong : c * d' * 2 ^ ((q - r) - (q' - r')).toNat = c' * d * 2 ^ ((q' - r') - (q - r)).toNat := by
    have hh : n.natAbs * m'.natAbs = n'.natAbs * m.natAbs := by rw [← Int.natAbs_mul, ← Int.natAbs_mul, h]
    obtain ⟨N, hN⟩ : ∃ N : Nat, N = 4000 := ⟨_, rfl⟩
    refine Nat.eq_of_mul_eq_mul_right (Nat.two_pow_pos ((q' + 1074).toNat + (r + 1074).toNat + N)) ?_
    have e1 : c * d' * 2 ^ ((q - r) - (q' - r')).toNat * 2 ^ ((q' + 1074).toNat + (r + 1074).toNat + N) = (c * 2 ^ (q + 1074).toNat) * (d' * 2 ^ (r' + 1074).toNat) * 2 ^ (N + ((q' - r') - (q - r)).toNat) := by
      have : 2 ^ ((q - r) - (q' - r')).toNat * 2 ^ ((q' + 1074).toNat + (r + 1074).toNat + N) = 2 ^ (q + 1074).toNat * 2 ^ (r' + 1074).toNat * 2 ^ (N + ((q' - r') - (q - r)).toNat) := by
        rw [← Nat.pow_add, ← Nat.pow_add, ← Nat.pow_add]; congr 1; omega
      calc _ = c * d' * (2 ^ ((q - r) - (q' - r')).toNat * 2 ^ ((q' + 1074).toNat + (r + 1074).toNat + N)) := by rw [Nat.mul_assoc]
        _ = _ := by rw [this]; ac_rfl
    have e2 : c' * d * 2 ^ ((q' - r') - (q - r)).toNat * 2 ^ ((q' + 1074).toNat + (r + 1074).toNat + N) = (c' * 2 ^ (q' + 1074).toNat) * (d * 2 ^ (r + 1074).toNat) * 2 ^ (N + ((q' - r') - (q - r)).toNat) := by
      have : 2 ^ ((q' - r') - (q - r)).toNat * 2 ^ ((q' + 1074).toNat + (r + 1074).toNat + N) = 2 ^ (q' + 1074).toNat * 2 ^ (r + 1074).toNat * 2 ^ (N + ((q' - r') - (q - r)).toNat) := by
        rw [← Nat.pow_add, ← Nat.pow_add, ← Nat.pow_add]; congr 1; omega
      calc _ = c' * d * (2 ^ ((q' - r') - (q - r)).toNat * 2 ^ ((q' + 1074).toNat + (r + 1074).toNat + N)) := by rw [Nat.mul_assoc]
        _ = _ := by rw [this]; ac_rfl
    rw [e1, e2, cx, cy, cx', cy']
    have : n.natAbs * 2 ^ (1074 - k) * (m'.natAbs * 2 ^ (1074 - k')) = n'.natAbs * 2 ^ (1074 - k') * (m.natAbs * 2 ^ (1074 - k)) := by
      calc _ = n.natAbs * m'.natAbs * (2 ^ (1074 - k) * 2 ^ (1074 - k')) := by ac_rfl
        _ = n'.natAbs * m.natAbs * (2 ^ (1074 - k) * 2 ^ (1074 - k')) := by rw [hh]
        _ = _ := by ac_rfl
    rw [this]
  have n1 : FP.Core.val64 (FP.ddiv x y) ≠ .nan := by rw [hv]; exact FP.Core.roundRatio_ne_nan _ _ _ _ _
  have n2 : FP.Core.val64 (FP.ddiv x' y') ≠ .nan := by rw [hv']; exact FP.Core.roundRatio_ne_nan _ _ _ _ _
  have sgn_eq : n < 0 ↔ n' < 0 := by
    constructor
    · intro u
      have := Int.mul_neg_of_neg_of_pos u hm'
      rw [h] at this
      exact Int.lt_of_not_ge fun v => by have := Int.mul_nonneg v (Int.le_of_lt hm); omega
    · intro u
      have := Int.mul_neg_of_neg_of_pos u hm
      rw [← h] at this
      exact Int.lt_of_not_ge fun v => by have := Int.mul_nonneg v (Int.le_of_lt hm'); omega
  have hz : FP.Core.zval FP.Core.b64 (FP.Core.val64 (FP.ddiv x y)) = FP.Core.zval FP.Core.b64 (FP.Core.val64 (FP.ddiv x' y')) := by
    rw [hv, hv']
    by_cases h0 : n = 0
    · have h0' : n' = 0 := by
        subst h0; rw [Int.zero_mul] at h
        rcases Int.mul_eq_zero.mp h.symm with u | u
        · exact u
        · omega
      have c0 : c = 0 := by
        subst h0; rw [Int.natAbs_zero, Nat.zero_mul] at cx
        rcases Nat.mul_eq_zero.mp cx with u | u
        · exact u
        · have := Nat.two_pow_pos (q + 1074).toNat; omega
      have c0' : c' = 0 := by
        subst h0'; rw [Int.natAbs_zero, Nat.zero_mul] at cx'
        rcases Nat.mul_eq_zero.mp cx' with u | u
        · exact u
        · have := Nat.two_pow_pos (q' + 1074).toNat; omega
      subst c0 c0'
      simp [FP.Core.roundRatio, FP.Core.zval, FP.Core.zmag, FP.Core.inUnits, FP.Core.signed_zero]
    · have h0' : n' ≠ 0 := fun z => by
        subst z; rw [Int.zero_mul] at h
        rcases Int.mul_eq_zero.mp h with u | u
        · exact h0 u
        · omega
      have s1 := own_sgn_of hx1 hx3 h0
      have s2 := own_sgn_of hy1 hy3 (by omega)
      have s3 := own_sgn_of hx1' hx3' h0'
      have s4 := own_sgn_of hy1' hy3' (by omega)
      have es : (s != t) = (s' != t') := by
        rw [s1, s2, s3, s4]
        rw [decide_eq_decide.mpr sgn_eq, decide_eq_false (show ¬ m < 0 by omega), decide_eq_false (show ¬ m' < 0 by omega)]
      rw [es, FP.Core.roundRatio_congr (Nat.pos_of_ne_zero hd) (Nat.pos_of_ne_zero hd') cong]
  refine ⟨?_, Fl.val64_no.mpr n1, Fl.val64_no.mpr n2, hz⟩
  have hc := FP.Core.dcmp_zval n1 n2
  rw [hz, (FP.Core.compare_eq_iff _ _).mpr rfl] at hc
  rw [show FP.dcmp (FP.ddiv x y) (FP.ddiv x' y') = some .eq from hc]
  rfl
end OwnDiv
section OwnMore
theorem own_max {d : UInt64} (h : Fl.Fin64 d) (o : CmpOp) : ¬ ((0 : Int32) < (cmpValue (FP.dcmp (d &&& 0x7fffffffffffffff) (9218868437227405311 : UInt64)) o)) := by
  have q : FP.dcmp (d &&& 0x7fffffffffffffff) (9218868437227405311 : UInt64) = some .lt ∨ FP.dcmp (d &&& 0x7fffffffffffffff) (9218868437227405311 : UInt64) = some .eq := (FP.Core.le_max (Fl.noNaN64_no.mp h.noNaN)).mpr (Fl.fin64_core.mp h)
  rcases q with q | q <;> rw [q] <;> cases o <;> decide
theorem own_dy0 : own_Dy (0 : UInt64) 0 0 := ⟨⟨false, 0, -1074, by decide +kernel⟩, by omega, by decide +kernel⟩
theorem own_pos {d : UInt64} {n : Int} {k : Nat} (h : own_Dy d n k) (hn : 0 < n) (o : CmpOp) : cmpValue (FP.dcmp d (0 : UInt64)) o = (1 : Int32) := by
  have z : own_Dy (0 : UInt64) 0 k := by
    have := own_dy0.up k (by have := h.2.1; omega)
    rw [Int.zero_mul, Nat.zero_add] at this; exact this
  exact h.gt z hn o
end OwnMore
section OwnPlain
theorem own_kk (x : Int32) (h : 0 ≤ x.toInt ∧ x.toInt ≤ 3) : ∃ e : Nat, e ≤ 3 ∧ ((1 : Int32) <<< (x &&& 31)).toInt = ((2 ^ e : Nat) : Int) ∧ ((2 : Int32) <<< (x &&& 31)).toInt = ((2 ^ (e + 1) : Nat) : Int) := by
  have q : x.toInt = 0 ∨ x.toInt = 1 ∨ x.toInt = 2 ∨ x.toInt = 3 := by omega
  rcases q with h | h | h | h
  · obtain rfl : x = 0 := Int32.toInt_inj.mp h
    exact ⟨0, by decide, by decide, by decide⟩
  · obtain rfl : x = 1 := Int32.toInt_inj.mp h
    exact ⟨1, by decide, by decide, by decide⟩
  · obtain rfl : x = 2 := Int32.toInt_inj.mp h
    exact ⟨2, by decide, by decide, by decide⟩
  · obtain rfl : x = 3 := Int32.toInt_inj.mp h
    exact ⟨3, by decide, by decide, by decide⟩

theorem own_s (p3 : Int32) : 1 ≤ ((p3 &&& (7 : Int32)) + (1 : Int32)).toInt ∧ ((p3 &&& (7 : Int32)) + (1 : Int32)).toInt ≤ 8 := by
  have h := c_and p3 7 (by decide)
  have e : (7 : Int32).toInt = 7 := by decide
  have e1 : (1 : Int32).toInt = 1 := by decide
  have := own_iadd (a := p3 &&& 7) (b := 1) (by omega)
  omega
theorem own_half : own_Dy (4602678819172646912 : UInt64) 1 1 := ⟨⟨false, 2 ^ 52, -53, by decide +kernel⟩, by omega, by decide +kernel⟩
theorem own_size {c d : Int32} {e : Nat} (he : e ≤ 3) (hc : 1 ≤ c.toInt ∧ c.toInt ≤ 8) (hd : d.toInt = ((2 ^ e : Nat) : Int)) : own_Dy (FP.ddiv (FP.i2d c) (FP.i2d d)) c.toInt e := by
  have h2 := own_dy_i2d d
  rw [hd] at h2
  have hp := Nat.two_pow_pos e
  refine own_Dy.div e (own_dy_i2d c) h2 (by omega) (by omega) (by omega) ?_
  rw [Nat.zero_add]; simp
theorem own_sum (a b : Int32) : own_Dy (FP.dadd (FP.dadd (FP.i2d a) (FP.i2d b)) (4602678819172646912 : UInt64)) ((a.toInt + b.toInt) * 2 + 1) 1 := by
  have h1 := rng32 a; have h2 := rng32 b
  exact (((own_dy_i2d a).add (own_dy_i2d b) (by omega)).up 1 (by omega)).add own_half (by omega)
theorem own_prod (a b : Int32) {c d : Int32} {e : Nat} (he : e ≤ 3) (hc : 1 ≤ c.toInt ∧ c.toInt ≤ 8) (hd : d.toInt = ((2 ^ e : Nat) : Int)) :
    own_Dy (FP.dmul (FP.dadd (FP.dadd (FP.i2d a) (FP.i2d b)) (4602678819172646912 : UInt64)) (FP.ddiv (FP.i2d c) (FP.i2d d))) (((a.toInt + b.toInt) * 2 + 1) * c.toInt) (1 + e) ∧ (((a.toInt + b.toInt) * 2 + 1) * c.toInt).natAbs ≤ 8589934593 * 8 := by
  have h1 := rng32 a; have h2 := rng32 b
  have hb : (((a.toInt + b.toInt) * 2 + 1) * c.toInt).natAbs ≤ 8589934593 * 8 := own_absmul (by omega) (by omega)
  exact ⟨(own_sum a b).mul (own_size he hc hd) (by omega) (by omega), hb⟩
theorem own_law (p1 p2 p3 : Int32) : own_Dy (FP.dmul (FP.dmul (FP.dadd (FP.dadd (FP.i2d p1) (FP.i2d p2)) (4602678819172646912 : UInt64)) (FP.ddiv (FP.i2d ((p3 &&& (7 : Int32)) + (1 : Int32))) (FP.i2d ((1 : Int32) <<< ((((p3.toUInt32 >>> ((3 : Int32) &&& 31).toUInt32).toInt32) &&& (3 : Int32)) &&& 31))))) (FP.i2d ((2 : Int32) <<< ((((p3.toUInt32 >>> ((3 : Int32) &&& 31).toUInt32).toInt32) &&& (3 : Int32)) &&& 31)))) (((p1.toInt + p2.toInt) * 2 + 1) * ((p3 &&& (7 : Int32)) + (1 : Int32)).toInt) 0 := by
  have hk := c_and ((p3.toUInt32 >>> ((3 : Int32) &&& 31).toUInt32).toInt32) 3 (by decide)
  have e3 : (3 : Int32).toInt = 3 := by decide
  obtain ⟨e, he, h1, h2⟩ := own_kk (((p3.toUInt32 >>> ((3 : Int32) &&& 31).toUInt32).toInt32) &&& (3 : Int32)) (by omega)
  obtain ⟨q, hb⟩ := own_prod p1 p2 he (own_s p3) h1
  have r := own_dy_i2d ((2 : Int32) <<< ((((p3.toUInt32 >>> ((3 : Int32) &&& 31).toUInt32).toInt32) &&& (3 : Int32)) &&& 31))
  rw [h2] at r
  have hp : 2 ^ (e + 1) ≤ 2 ^ 4 := Nat.pow_le_pow_right (by omega) (by omega)
  have z := q.mul r (by omega) (by
    refine Nat.lt_of_le_of_lt (own_absmul hb (B := 16) (by rw [Int.natAbs_natCast]; omega)) (by decide))
  rw [show 1 + e + 0 = 0 + (e + 1) by omega] at z
  exact z.dn
theorem own_want (p1 p2 p3 : Int32) : own_Dy (FP.l2d (((((2 : Int64) * (p1.toInt64)) + ((2 : Int64) * (p2.toInt64))) + (1 : Int64)) * (((p3 &&& (7 : Int32)) + (1 : Int32)).toInt64))) (((p1.toInt + p2.toInt) * 2 + 1) * ((p3 &&& (7 : Int32)) + (1 : Int32)).toInt) 0 := by
  have h1 := rng32 p1; have h2 := rng32 p2; have hs := own_s p3
  have c1 := c_i2l p1; have c2 := c_i2l p2; have c3 := c_i2l ((p3 &&& (7 : Int32)) + (1 : Int32))
  have k2 : (2 : Int64).toInt = 2 := by decide
  have k1 : (1 : Int64).toInt = 1 := by decide
  have e1 : ((2 : Int64) * p1.toInt64).toInt = 2 * p1.toInt := by rw [own_lmul (by rw [k2, c1]; omega), k2, c1]
  have e2 : ((2 : Int64) * p2.toInt64).toInt = 2 * p2.toInt := by rw [own_lmul (by rw [k2, c2]; omega), k2, c2]
  have e3 : ((2 : Int64) * p1.toInt64 + (2 : Int64) * p2.toInt64).toInt = 2 * p1.toInt + 2 * p2.toInt := by rw [own_ladd (by rw [e1, e2]; omega), e1, e2]
  have e4 : ((2 : Int64) * p1.toInt64 + (2 : Int64) * p2.toInt64 + 1).toInt = (p1.toInt + p2.toInt) * 2 + 1 := by rw [own_ladd (by rw [e3, k1]; omega), e3, k1]; omega
  have hb : (((p1.toInt + p2.toInt) * 2 + 1) * ((p3 &&& (7 : Int32)) + (1 : Int32)).toInt).natAbs ≤ 8589934593 * 8 := own_absmul (by omega) (by omega)
  have e5 : (((2 : Int64) * p1.toInt64 + (2 : Int64) * p2.toInt64 + 1) * ((p3 &&& (7 : Int32)) + (1 : Int32)).toInt64).toInt = ((p1.toInt + p2.toInt) * 2 + 1) * ((p3 &&& (7 : Int32)) + (1 : Int32)).toInt := by rw [own_lmul (by rw [e4, c3]; omega), e4, c3]
  rw [← e5] at hb ⊢
  exact own_dy_l2d (by omega) (by omega)
theorem own_d (p3 : Int32) : ∃ e : Nat, own_Dy (FP.ddiv (FP.i2d ((p3 &&& (7 : Int32)) + (1 : Int32))) (FP.i2d ((1 : Int32) <<< ((((p3.toUInt32 >>> ((3 : Int32) &&& 31).toUInt32).toInt32) &&& (3 : Int32)) &&& 31)))) ((p3 &&& (7 : Int32)) + (1 : Int32)).toInt e := by
  have hk := c_and ((p3.toUInt32 >>> ((3 : Int32) &&& 31).toUInt32).toInt32) 3 (by decide)
  have e3 : (3 : Int32).toInt = 3 := by decide
  obtain ⟨e, he, h1, h2⟩ := own_kk (((p3.toUInt32 >>> ((3 : Int32) &&& 31).toUInt32).toInt32) &&& (3 : Int32)) (by omega)
  exact ⟨e, own_size he (own_s p3) h1⟩
theorem own_mul (p1 p2 p3 : Int32) : Jvm.Free.Fl.NoNaN64 (FP.dmul (FP.dadd (FP.dadd (FP.i2d p1) (FP.i2d p2)) (4602678819172646912 : UInt64)) (FP.ddiv (FP.i2d ((p3 &&& (7 : Int32)) + (1 : Int32))) (FP.i2d ((1 : Int32) <<< ((((p3.toUInt32 >>> ((3 : Int32) &&& 31).toUInt32).toInt32) &&& (3 : Int32)) &&& 31))))) := by
  have hk := c_and ((p3.toUInt32 >>> ((3 : Int32) &&& 31).toUInt32).toInt32) 3 (by decide)
  have e3 : (3 : Int32).toInt = 3 := by decide
  obtain ⟨e, he, h1, h2⟩ := own_kk (((p3.toUInt32 >>> ((3 : Int32) &&& 31).toUInt32).toInt32) &&& (3 : Int32)) (by omega)
  exact (own_prod p1 p2 he (own_s p3) h1).1.nn
theorem own_rows (x : Int32) : ¬ (((x &&& (255 : Int32)) + (1 : Int32)) < (1 : Int32)) := by
  have h := c_and x 255 (by decide)
  have e : (255 : Int32).toInt = 255 := by decide
  have e1 : (1 : Int32).toInt = 1 := by decide
  have := own_iadd (a := x &&& 255) (b := 1) (by omega)
  rw [Int32.lt_iff_toInt_lt]; omega
end OwnPlain
theorem d2_0 : decode jdk_30_method_1_code 0 = .ok (.aload_n 0, 1) := by decide +kernel
theorem d2_1 : decode jdk_30_method_1_code 1 = .ok (.invokespecial 1, 3) := by decide +kernel
theorem d2_4 : decode jdk_30_method_1_code 4 = .ok (.return_, 1) := by decide +kernel
theorem pn2 : plainName "java/lang/Record" = true := by first | (simp [plainName, overriddenIn]; done) | decide +kernel
theorem ef2 (m : MethodId) (a0 : Addr) : entryFrame m #[(.ref a0)] 1 = mkF m 0 #[.val (.ref a0)] [] := by first | (simp [entryFrame, mkF, argsToLocals, Value.category]; done) | rfl
def Q2 (Z : State) (a0 : Addr) (h0 : Heap) (n0 : Nat) (v : Option Value) (h : Heap) (L : List Loc) : Prop := v = none ∧ Fr n0 L ∧ h = h0
set_option maxRecDepth 65536 in
set_option maxHeartbeats 40000000 in
theorem rm2 (l : Launch) (Z : State) (ar : Array Value) (hw : ∀ d ∈ tables_1, d.before ar Z = true) (ws : List Jvm.Cond) (a0 : Addr) (h0 : Heap) (n0 : Nat) (Z0 : n0 ≤ h0.size) :
    MetFree l (⟨"java/lang/Record", "<init>", "()V"⟩ : MethodName) (head1 (Jvm.Cond.code (⟨"java/lang/Record", "<init>", "()V"⟩ : MethodName) jdk_30_method_1_code 1 none :: ws) ({ frames := 1, cells := 0, slots := 0, locals := 12 } : Room)) (fun a U => a = #[(.ref a0)] ∧ Z.Warmed39 U.vm ∧ U.heap = h0) (fun _ _ _ _ _ => True) (fun _ U o U' => ∃ v L, o = .returned v ∧ Q2 Z a0 h0 n0 v U'.heap L ∧ FrameEnd U o U' L ({ frames := 1, cells := 0, slots := 0, locals := 12 } : Room).cells ({ frames := 1, cells := 0, slots := 0, locals := 12 } : Room).slots) := by
  refine MetFree.of_bodySF (plainFor_of_name pn2) hisR ?_
  intro p e s m args below meth c s₁ Bd hml0 hP hK
  obtain ⟨rfl, hZ, hh⟩ := hP
  have hx := Bd.exec
  have hby := Bd.bytes
  have hlk := Bd.notSynchronized
  have hml : c.maxLocals = 1 := hml0
  have hown : s.vm.findClass "java/lang/Record" = some m.cls := findClass_of_methodNamed Bd.named
  have hnm := (name_of_methodNamed Bd.named Bd.method).1
  have X0 : Stand p l e ({ frames := 1, cells := 0, slots := 0, locals := 12 } : Room) s m #[(.ref a0)] below meth c s₁ [] 0 0 := Stand.of_body Bd
  have e0 : s₁.heap = h0 := by rw [← hh, Bd.state]; rfl
  have N0 := Fr.nil n0
  have K0 := Keep.refl h0 []
  refine own_enter (Q := Q2 Z a0 h0 n0) (ef2 m a0) ?_
  refine own_st (T' := s₁) (g' := (mkF m 1 #[.val (.ref a0)] [(.ref a0)])) (fun t k => ?_) ?_
  · show Steps p.tables e below (s₁.setTop (mkF m 0 #[.val (.ref a0)] [])) t
    refine XS.aloadN X0.here hx rfl (hb hby d2_0) rfl rfl ?_
    exact k
  obtain ⟨T1, X1, e1, st1⟩ := initO X0 hx hZ hown (hw _ (List.mem_of_getElem? (i := 11) rfl)) (hw _ (List.mem_of_getElem? (i := 12) rfl)) (hw _ (List.mem_of_getElem? (i := 13) rfl)) e0 (g := (mkF m 1 #[.val (.ref a0)] [(.ref a0)])) rfl (by rw [hml]; rfl) rfl (hb hby d2_1) (by decide) (W := 0) (by show 2 * 0 + _ ≤ _; exact Nat.le_of_eq rfl) (by decide)
  refine own_st (T' := T1) (g' := (mkF m 4 #[.val (.ref a0)] [])) st1 ?_
  refine own_retV X1 hx hlk Bd.returns (hb hby d2_4) (by decide) (by decide) ?_
  show Q2 Z a0 h0 n0 none T1.heap _
  rw [(e1 : T1.heap = h0)]
  exact ⟨rfl, N0, rfl⟩
theorem d4_0 : decode jdk_117_method_7_code 0 = .ok (.dload_n 0, 1) := by decide +kernel
theorem d4_1 : decode jdk_117_method_7_code 1 = .ok (.invokestatic 38, 3) := by decide +kernel
theorem d4_4 : decode jdk_117_method_7_code 4 = .ok (.ldc2_w 111, 3) := by decide +kernel
theorem d4_7 : decode jdk_117_method_7_code 7 = .ok (.dcmp .l, 1) := by decide +kernel
theorem d4_8 : decode jdk_117_method_7_code 8 = .ok (.ifCond .le 7, 3) := by decide +kernel
theorem d4_15 : decode jdk_117_method_7_code 15 = .ok (.iconst 0, 1) := by decide +kernel
theorem d4_16 : decode jdk_117_method_7_code 16 = .ok (.ireturn, 1) := by decide +kernel
theorem pn4 : plainName "java/lang/Double" = true := by first | (simp [plainName, overriddenIn]; done) | decide +kernel
theorem pd4_0 : parseMethodDescriptor "(D)D" = some ⟨[.double], some .double⟩ := by decide +kernel
theorem ef4 (m : MethodId) (d0 : UInt64) : entryFrame m #[(.double d0)] 2 = mkF m 0 #[.val (.double d0), .second] [] := by first | (simp [entryFrame, mkF, argsToLocals, Value.category]; done) | rfl
def Q4 (Z : State) (d0 : UInt64) (h0 : Heap) (n0 : Nat) (v : Option Value) (h : Heap) (L : List Loc) : Prop := v = some (.int (0 : Int32)) ∧ Fr n0 L ∧ h = h0
set_option maxRecDepth 65536 in
set_option maxHeartbeats 40000000 in
theorem rm4 (l : Launch) (Z : State) (ar : Array Value) (hw : ∀ d ∈ tables_1, d.before ar Z = true) (ws : List Jvm.Cond) (d0 : UInt64) (h0 : Heap) (n0 : Nat) (Z0 : n0 ≤ h0.size) (hn1 : Jvm.Free.Fl.NoNaN64 d0) (hb8 : ¬ ((0 : Int32) < (cmpValue (FP.dcmp (d0 &&& 0x7fffffffffffffff) (9218868437227405311 : UInt64)) .l))) :
    MetFree l (⟨"java/lang/Double", "isInfinite", "(D)Z"⟩ : MethodName) (head1 (Jvm.Cond.code (⟨"java/lang/Double", "isInfinite", "(D)Z"⟩ : MethodName) jdk_117_method_7_code 2 (some .boolean) :: ws) ({ frames := 1, cells := 0, slots := 0, locals := 13 } : Room)) (fun a U => a = #[(.double d0)] ∧ Z.Warmed39 U.vm ∧ U.heap = h0) (fun _ _ _ _ _ => True) (fun _ U o U' => ∃ v L, o = .returned v ∧ Q4 Z d0 h0 n0 v U'.heap L ∧ FrameEnd U o U' L ({ frames := 1, cells := 0, slots := 0, locals := 13 } : Room).cells ({ frames := 1, cells := 0, slots := 0, locals := 13 } : Room).slots) := by
  refine MetFree.of_bodySF (plainFor_of_name pn4) hisR ?_
  intro p e s m args below meth c s₁ Bd hml0 hP hK
  obtain ⟨rfl, hZ, hh⟩ := hP
  have hx := Bd.exec
  have hby := Bd.bytes
  have hlk := Bd.notSynchronized
  have hml : c.maxLocals = 2 := hml0
  have hown : s.vm.findClass "java/lang/Double" = some m.cls := findClass_of_methodNamed Bd.named
  have hnm := (name_of_methodNamed Bd.named Bd.method).1
  have X0 : Stand p l e ({ frames := 1, cells := 0, slots := 0, locals := 13 } : Room) s m #[(.double d0)] below meth c s₁ [] 0 0 := Stand.of_body Bd
  have e0 : s₁.heap = h0 := by rw [← hh, Bd.state]; rfl
  have N0 := Fr.nil n0
  have K0 := Keep.refl h0 []
  refine own_enter (Q := Q4 Z d0 h0 n0) (ef4 m d0) ?_
  refine own_st (T' := s₁) (g' := (mkF m 1 #[.val (.double d0), .second] [(.double d0)])) (fun t k => ?_) ?_
  · show Steps p.tables e below (s₁.setTop (mkF m 0 #[.val (.double d0), .second] [])) t
    refine XS.dloadN X0.here hx rfl (hb hby d4_0) rfl ?_
    exact k
  obtain ⟨T1, X1, e1, st1⟩ := natS X0 hx hZ (y := (⟨"java/lang/Math", "abs", "(D)D"⟩ : MethodName)) hown (hw _ (List.mem_of_getElem? (i := 18) rfl)) (hw _ (List.mem_of_getElem? (i := 19) rfl)) (hw _ (List.mem_of_getElem? (i := 20) rfl)) (hw _ (List.mem_of_getElem? (i := 21) rfl)) (by decide) e0 (W := 0) (fun q => Jvm.Free.Fl.Abs.absD_pays d0 q (by decide) (by decide)) (g := (mkF m 1 #[.val (.double d0), .second] [(.double d0)])) rfl (by rw [hml]; rfl) (argsL := [(.double d0)]) (rest := []) (lenOf pd4_0 rfl) rfl (by show 2 * 0 + _ ≤ _; exact Nat.le_of_eq rfl) (hb hby d4_1) (by decide) (by decide) ⟨rfl, hn1⟩ rfl
  refine own_st (T' := T1) (g' := (mkF m 4 #[.val (.double d0), .second] [(.double (d0 &&& 0x7fffffffffffffff))])) st1 ?_
  refine own_st (T' := T1) (g' := (mkF m 16 #[.val (.double d0), .second] [(.int (0 : Int32))])) (fun t k => ?_) ?_
  · show Steps p.tables e below (T1.setTop (mkF m 4 #[.val (.double d0), .second] [(.double (d0 &&& 0x7fffffffffffffff))])) t
    refine X1.ldc2DoubleC hx hown (mvT hZ (hw _ (List.mem_of_getElem? (i := 22) rfl))) (g := (mkF m 4 #[.val (.double d0), .second] [(.double (d0 &&& 0x7fffffffffffffff))])) rfl (hb hby d4_4) _ ?_
    show Steps p.tables e below (T1.setTop (mkF m 7 #[.val (.double d0), .second] [(.double (9218868437227405311 : UInt64)), (.double (d0 &&& 0x7fffffffffffffff))])) t
    refine XS.dcmpS X1.here hx rfl (hb hby d4_7) rfl rfl ?_
    show Steps p.tables e below (T1.setTop (mkF m 8 #[.val (.double d0), .second] [(.int (cmpValue (FP.dcmp (d0 &&& 0x7fffffffffffffff) (9218868437227405311 : UInt64)) .l))])) t
    refine XS.ifYes X1.here hx rfl (pc0 := 8) (pc' := 15) rfl (hb hby d4_8) rfl ((if0 _ _).trans (flt (hb8 : ¬ ((0 : Int32) < (cmpValue (FP.dcmp (d0 &&& 0x7fffffffffffffff) (9218868437227405311 : UInt64)) .l)))).2.2.2) (by decide) (by decide) ?_
    show Steps p.tables e below (T1.setTop (mkF m 15 #[.val (.double d0), .second] [])) t
    refine XS.iconst X1.here hx rfl (hb hby d4_15) ?_
    exact k
  refine own_retZ X1 hx hlk Bd.returns (hb hby d4_16) rfl (by decide) (by decide) ?_
  show Q4 Z d0 h0 n0 (some (.int (0 : Int32))) T1.heap _
  rw [(e1 : T1.heap = h0)]
  exact ⟨rfl, N0, rfl⟩
theorem d1_0 : decode prog_32_method_1_code 0 = .ok (.aload_n 0, 1) := by decide +kernel
theorem d1_1 : decode prog_32_method_1_code 1 = .ok (.invokespecial 1, 3) := by decide +kernel
theorem d1_4 : decode prog_32_method_1_code 4 = .ok (.dload_n 3, 1) := by decide +kernel
theorem d1_5 : decode prog_32_method_1_code 5 = .ok (.dconst 0, 1) := by decide +kernel
theorem d1_6 : decode prog_32_method_1_code 6 = .ok (.dcmp .l, 1) := by decide +kernel
theorem d1_7 : decode prog_32_method_1_code 7 = .ok (.ifCond .le 10, 3) := by decide +kernel
theorem d1_10 : decode prog_32_method_1_code 10 = .ok (.dload_n 3, 1) := by decide +kernel
theorem d1_11 : decode prog_32_method_1_code 11 = .ok (.invokestatic 7, 3) := by decide +kernel
theorem d1_14 : decode prog_32_method_1_code 14 = .ok (.ifCond .eq 17, 3) := by decide +kernel
theorem d1_31 : decode prog_32_method_1_code 31 = .ok (.iload 5, 2) := by decide +kernel
theorem d1_33 : decode prog_32_method_1_code 33 = .ok (.iconst 1, 1) := by decide +kernel
theorem d1_34 : decode prog_32_method_1_code 34 = .ok (.if_icmp .lt 9, 3) := by decide +kernel
theorem d1_37 : decode prog_32_method_1_code 37 = .ok (.iload 6, 2) := by decide +kernel
theorem d1_39 : decode prog_32_method_1_code 39 = .ok (.iconst 1, 1) := by decide +kernel
theorem d1_40 : decode prog_32_method_1_code 40 = .ok (.if_icmp .ge 20, 3) := by decide +kernel
theorem d1_60 : decode prog_32_method_1_code 60 = .ok (.aload_n 0, 1) := by decide +kernel
theorem d1_61 : decode prog_32_method_1_code 61 = .ok (.iload_n 1, 1) := by decide +kernel
theorem d1_62 : decode prog_32_method_1_code 62 = .ok (.putfield 25, 3) := by decide +kernel
theorem d1_65 : decode prog_32_method_1_code 65 = .ok (.aload_n 0, 1) := by decide +kernel
theorem d1_66 : decode prog_32_method_1_code 66 = .ok (.iload_n 2, 1) := by decide +kernel
theorem d1_67 : decode prog_32_method_1_code 67 = .ok (.putfield 31, 3) := by decide +kernel
theorem d1_70 : decode prog_32_method_1_code 70 = .ok (.aload_n 0, 1) := by decide +kernel
theorem d1_71 : decode prog_32_method_1_code 71 = .ok (.dload_n 3, 1) := by decide +kernel
theorem d1_72 : decode prog_32_method_1_code 72 = .ok (.putfield 34, 3) := by decide +kernel
theorem d1_75 : decode prog_32_method_1_code 75 = .ok (.aload_n 0, 1) := by decide +kernel
theorem d1_76 : decode prog_32_method_1_code 76 = .ok (.iload 5, 2) := by decide +kernel
theorem d1_78 : decode prog_32_method_1_code 78 = .ok (.putfield 38, 3) := by decide +kernel
theorem d1_81 : decode prog_32_method_1_code 81 = .ok (.aload_n 0, 1) := by decide +kernel
theorem d1_82 : decode prog_32_method_1_code 82 = .ok (.iload 6, 2) := by decide +kernel
theorem d1_84 : decode prog_32_method_1_code 84 = .ok (.putfield 41, 3) := by decide +kernel
theorem d1_87 : decode prog_32_method_1_code 87 = .ok (.return_, 1) := by decide +kernel
theorem pn1 : plainName "com/example/weirbench/weirbench/grid/GridGeometry" = true := by first | (simp [plainName, overriddenIn]; done) | decide +kernel
theorem pd1_0 : parseMethodDescriptor "()V" = some ⟨[], none⟩ := by decide +kernel
theorem pd1_1 : parseMethodDescriptor "(D)Z" = some ⟨[.double], some .boolean⟩ := by decide +kernel
theorem ef1 (m : MethodId) (a0 : Addr) (p1 : Int32) (p2 : Int32) (d3 : UInt64) (p4 : Int32) (p5 : Int32) : entryFrame m #[(.ref a0), (.int p1), (.int p2), (.double d3), (.int p4), (.int p5)] 7 = mkF m 0 #[.val (.ref a0), .val (.int p1), .val (.int p2), .val (.double d3), .second, .val (.int p4), .val (.int p5)] [] := by first | (simp [entryFrame, mkF, argsToLocals, Value.category]; done) | rfl
def Q1 (Z : State) (a0 : Addr) (p1 : Int32) (p2 : Int32) (d3 : UInt64) (p4 : Int32) (p5 : Int32) (u_originColumn_a0 : Value) (u_originRow_a0 : Value) (u_cellSize_a0 : Value) (u_rows_a0 : Value) (u_columns_a0 : Value) (h0 : Heap) (n0 : Nat) (v : Option Value) (h : Heap) (L : List Loc) : Prop := v = none ∧ Fr n0 L ∧ Keep h0 h [a0] ∧ Exa Z h a0 "com/example/weirbench/weirbench/grid/GridGeometry" ∧ Fld Z h a0 "com/example/weirbench/weirbench/grid/GridGeometry" "originColumn" "I" (.int p1) ∧ Fld Z h a0 "com/example/weirbench/weirbench/grid/GridGeometry" "originRow" "I" (.int p2) ∧ Fld Z h a0 "com/example/weirbench/weirbench/grid/GridGeometry" "cellSize" "D" (.double d3) ∧ Fld Z h a0 "com/example/weirbench/weirbench/grid/GridGeometry" "rows" "I" (.int p4) ∧ Fld Z h a0 "com/example/weirbench/weirbench/grid/GridGeometry" "columns" "I" (.int p5)
set_option maxRecDepth 65536 in
set_option maxHeartbeats 40000000 in
theorem rm1 (l : Launch) (Z : State) (ar : Array Value) (hw : ∀ d ∈ tables_1, d.before ar Z = true) (ws : List Jvm.Cond) (a0 : Addr) (p1 : Int32) (p2 : Int32) (d3 : UInt64) (p4 : Int32) (p5 : Int32) (u_originColumn_a0 : Value) (u_originRow_a0 : Value) (u_cellSize_a0 : Value) (u_rows_a0 : Value) (u_columns_a0 : Value) (h0 : Heap) (n0 : Nat) (Z0 : n0 ≤ h0.size) (E_a0 : Exa Z h0 a0 "com/example/weirbench/weirbench/grid/GridGeometry") (F_originColumn_a0 : Fld Z h0 a0 "com/example/weirbench/weirbench/grid/GridGeometry" "originColumn" "I" u_originColumn_a0) (F_originRow_a0 : Fld Z h0 a0 "com/example/weirbench/weirbench/grid/GridGeometry" "originRow" "I" u_originRow_a0) (F_cellSize_a0 : Fld Z h0 a0 "com/example/weirbench/weirbench/grid/GridGeometry" "cellSize" "D" u_cellSize_a0) (F_rows_a0 : Fld Z h0 a0 "com/example/weirbench/weirbench/grid/GridGeometry" "rows" "I" u_rows_a0) (F_columns_a0 : Fld Z h0 a0 "com/example/weirbench/weirbench/grid/GridGeometry" "columns" "I" u_columns_a0) (hq_6 : (cmpValue (FP.dcmp d3 (0 : UInt64)) .l) = (1 : Int32)) (h11_hn1 : Jvm.Free.Fl.NoNaN64 d3) (h11_hb8 : ¬ ((0 : Int32) < (cmpValue (FP.dcmp (d3 &&& 0x7fffffffffffffff) (9218868437227405311 : UInt64)) .l))) (hb34 : ¬ (p4 < (1 : Int32))) (hb40 : ¬ (p5 < (1 : Int32))) (g_a0 : n0 ≤ a0) :
    MetFree l (⟨"com/example/weirbench/weirbench/grid/GridGeometry", "<init>", "(IIDII)V"⟩ : MethodName) (head1 (Jvm.Cond.code (⟨"com/example/weirbench/weirbench/grid/GridGeometry", "<init>", "(IIDII)V"⟩ : MethodName) prog_32_method_1_code 7 none :: ws) ({ frames := 2, cells := 0, slots := 0, locals := 26 } : Room)) (fun a U => a = #[(.ref a0), (.int p1), (.int p2), (.double d3), (.int p4), (.int p5)] ∧ Z.Warmed39 U.vm ∧ U.heap = h0) (fun _ _ _ _ _ => True) (fun _ U o U' => ∃ v L, o = .returned v ∧ Q1 Z a0 p1 p2 d3 p4 p5 u_originColumn_a0 u_originRow_a0 u_cellSize_a0 u_rows_a0 u_columns_a0 h0 n0 v U'.heap L ∧ FrameEnd U o U' L ({ frames := 2, cells := 0, slots := 0, locals := 26 } : Room).cells ({ frames := 2, cells := 0, slots := 0, locals := 26 } : Room).slots) := by
  refine MetFree.of_bodySF (plainFor_of_name pn1) hisR ?_
  intro p e s m args below meth c s₁ Bd hml0 hP hK
  obtain ⟨rfl, hZ, hh⟩ := hP
  have hx := Bd.exec
  have hby := Bd.bytes
  have hlk := Bd.notSynchronized
  have hml : c.maxLocals = 7 := hml0
  have hown : s.vm.findClass "com/example/weirbench/weirbench/grid/GridGeometry" = some m.cls := findClass_of_methodNamed Bd.named
  have hnm := (name_of_methodNamed Bd.named Bd.method).1
  have X0 : Stand p l e ({ frames := 2, cells := 0, slots := 0, locals := 26 } : Room) s m #[(.ref a0), (.int p1), (.int p2), (.double d3), (.int p4), (.int p5)] below meth c s₁ [] 0 0 := Stand.of_body Bd
  have e0 : s₁.heap = h0 := by rw [← hh, Bd.state]; rfl
  have N0 := Fr.nil n0
  have K0 := Keep.refl h0 [a0]
  refine own_enter (Q := Q1 Z a0 p1 p2 d3 p4 p5 u_originColumn_a0 u_originRow_a0 u_cellSize_a0 u_rows_a0 u_columns_a0 h0 n0) (ef1 m a0 p1 p2 d3 p4 p5) ?_
  refine own_st (T' := s₁) (g' := (mkF m 1 #[.val (.ref a0), .val (.int p1), .val (.int p2), .val (.double d3), .second, .val (.int p4), .val (.int p5)] [(.ref a0)])) (fun t k => ?_) ?_
  · show Steps p.tables e below (s₁.setTop (mkF m 0 #[.val (.ref a0), .val (.int p1), .val (.int p2), .val (.double d3), .second, .val (.int p4), .val (.int p5)] [])) t
    refine XS.aloadN X0.here hx rfl (hb hby d1_0) rfl rfl ?_
    exact k
  obtain ⟨_, _, ⟨T1, L1, k1, n1⟩, -, X1, ⟨Lc1, hQ1, l1, y1, z1⟩, st1⟩ := X0.specialBack hx (y := (⟨"java/lang/Record", "<init>", "()V"⟩ : MethodName)) rfl hown (mvT hZ (hw _ (List.mem_of_getElem? (i := 6) rfl))) (mvT hZ (hw _ (List.mem_of_getElem? (i := 7) rfl))) (mvT hZ (hw _ (List.mem_of_getElem? (i := 10) rfl))) (by decide) (backOf (W := 0) (rm2 l Z ar hw [] a0 h0 n0 Z0) hZ (hw _ (List.mem_of_getElem? (i := 10) rfl)) (hw _ (List.mem_of_getElem? (i := 9) rfl)) (by decide) (by decide)) (g := (mkF m 1 #[.val (.ref a0), .val (.int p1), .val (.int p2), .val (.double d3), .second, .val (.int p4), .val (.int p5)] [(.ref a0)])) rfl (by rw [hml]; rfl) (Steps.refl _) (a := a0) (argsL := []) (rest := []) (lenOf pd1_0 rfl) rfl (by show 2 * 0 + _ ≤ _; exact Nat.le_of_eq rfl) (hb hby d1_1) (fun _ _ => ⟨rfl, e0, (by decide : 0 + 0 ≤ _), (by decide : 0 + 0 ≤ _)⟩)
  dsimp only [Pt.U, Pt.locs, Pt.cells, Pt.slots] at X1 l1 y1 z1 st1 hQ1
  subst l1 y1 z1
  obtain ⟨rfl, N1q, e1⟩ := hQ1
  have n2 := Fr.app N0 N1q
  refine own_tr (T' := T1) (g' := (mkF m 4 #[.val (.ref a0), .val (.int p1), .val (.int p2), .val (.double d3), .second, .val (.int p4), .val (.int p5)] [])) st1 ?_
  refine own_st (T' := T1) (g' := (mkF m 11 #[.val (.ref a0), .val (.int p1), .val (.int p2), .val (.double d3), .second, .val (.int p4), .val (.int p5)] [(.double d3)])) (fun t k => ?_) ?_
  · show Steps p.tables e below (T1.setTop (mkF m 4 #[.val (.ref a0), .val (.int p1), .val (.int p2), .val (.double d3), .second, .val (.int p4), .val (.int p5)] [])) t
    refine XS.dloadN X1.here hx rfl (hb hby d1_4) rfl ?_
    show Steps p.tables e below (T1.setTop (mkF m 5 #[.val (.ref a0), .val (.int p1), .val (.int p2), .val (.double d3), .second, .val (.int p4), .val (.int p5)] [(.double d3)])) t
    refine XS.dconst0 X1.here hx rfl (hb hby d1_5) rfl ?_
    show Steps p.tables e below (T1.setTop (mkF m 6 #[.val (.ref a0), .val (.int p1), .val (.int p2), .val (.double d3), .second, .val (.int p4), .val (.int p5)] [(.double (0 : UInt64)), (.double d3)])) t
    refine XS.dcmpS X1.here hx rfl (hb hby d1_6) rfl hq_6 ?_
    show Steps p.tables e below (T1.setTop (mkF m 7 #[.val (.ref a0), .val (.int p1), .val (.int p2), .val (.double d3), .second, .val (.int p4), .val (.int p5)] [(.int (1 : Int32))])) t
    refine XS.ifNo X1.here hx rfl (hb hby d1_7) rfl (by decide) ?_
    show Steps p.tables e below (T1.setTop (mkF m 10 #[.val (.ref a0), .val (.int p1), .val (.int p2), .val (.double d3), .second, .val (.int p4), .val (.int p5)] [])) t
    refine XS.dloadN X1.here hx rfl (hb hby d1_10) rfl ?_
    exact k
  obtain ⟨_, _, ⟨T3, L3, k3, n3⟩, -, X3, ⟨Lc3, hQ3, l3, y3, z3⟩, st3⟩ := Jvm.LawKit.callS X1 hx (y := (⟨"java/lang/Double", "isInfinite", "(D)Z"⟩ : MethodName)) hown (mvT hZ (hw _ (List.mem_of_getElem? (i := 14) rfl))) (mvT hZ (hw _ (List.mem_of_getElem? (i := 15) rfl))) (mvT hZ (hw _ (List.mem_of_getElem? (i := 16) rfl))) (mvT hZ (hw _ (List.mem_of_getElem? (i := 17) rfl))) (by decide) (backOf (W := 0) (rm4 l Z ar hw [] d3 h0 n0 Z0 h11_hn1 h11_hb8) hZ (hw _ (List.mem_of_getElem? (i := 17) rfl)) (hw _ (List.mem_of_getElem? (i := 16) rfl)) (by decide) (by decide)) (g := (mkF m 11 #[.val (.ref a0), .val (.int p1), .val (.int p2), .val (.double d3), .second, .val (.int p4), .val (.int p5)] [(.double d3)])) rfl (by rw [hml]; rfl) (argsL := [(.double d3)]) (rest := []) (lenOf pd1_1 rfl) rfl (by show 2 * 0 + _ ≤ _; exact Nat.le_of_eq rfl) (hb hby d1_11) (fun _ _ => ⟨rfl, e1, (by decide : 0 + 0 ≤ _), (by decide : 0 + 0 ≤ _)⟩)
  dsimp only [Pt.U, Pt.locs, Pt.cells, Pt.slots] at X3 l3 y3 z3 st3 hQ3
  subst l3 y3 z3
  obtain ⟨rfl, N3q, e3⟩ := hQ3
  have n4 := Fr.app n2 N3q
  refine own_st (T' := T3) (g' := (mkF m 14 #[.val (.ref a0), .val (.int p1), .val (.int p2), .val (.double d3), .second, .val (.int p4), .val (.int p5)] [(.int (0 : Int32))])) st3 ?_
  refine own_st (T' := T3) (g' := (mkF m 62 #[.val (.ref a0), .val (.int p1), .val (.int p2), .val (.double d3), .second, .val (.int p4), .val (.int p5)] [(.int p1), (.ref a0)])) (fun t k => ?_) ?_
  · show Steps p.tables e below (T3.setTop (mkF m 14 #[.val (.ref a0), .val (.int p1), .val (.int p2), .val (.double d3), .second, .val (.int p4), .val (.int p5)] [(.int (0 : Int32))])) t
    refine XS.ifYes X3.here hx rfl (pc0 := 14) (pc' := 31) rfl (hb hby d1_14) rfl (by decide) (by decide) (by decide) ?_
    show Steps p.tables e below (T3.setTop (mkF m 31 #[.val (.ref a0), .val (.int p1), .val (.int p2), .val (.double d3), .second, .val (.int p4), .val (.int p5)] [])) t
    refine XS.iload X3.here hx rfl (hb hby d1_31) rfl ?_
    show Steps p.tables e below (T3.setTop (mkF m 33 #[.val (.ref a0), .val (.int p1), .val (.int p2), .val (.double d3), .second, .val (.int p4), .val (.int p5)] [(.int p4)])) t
    refine XS.iconst X3.here hx rfl (hb hby d1_33) ?_
    show Steps p.tables e below (T3.setTop (mkF m 34 #[.val (.ref a0), .val (.int p1), .val (.int p2), .val (.double d3), .second, .val (.int p4), .val (.int p5)] [(.int (1 : Int32)), (.int p4)])) t
    refine XS.icmpNo X3.here hx rfl (hb hby d1_34) rfl (flt (hb34 : ¬ (p4 < (1 : Int32)))).1 ?_
    show Steps p.tables e below (T3.setTop (mkF m 37 #[.val (.ref a0), .val (.int p1), .val (.int p2), .val (.double d3), .second, .val (.int p4), .val (.int p5)] [])) t
    refine XS.iload X3.here hx rfl (hb hby d1_37) rfl ?_
    show Steps p.tables e below (T3.setTop (mkF m 39 #[.val (.ref a0), .val (.int p1), .val (.int p2), .val (.double d3), .second, .val (.int p4), .val (.int p5)] [(.int p5)])) t
    refine XS.iconst X3.here hx rfl (hb hby d1_39) ?_
    show Steps p.tables e below (T3.setTop (mkF m 40 #[.val (.ref a0), .val (.int p1), .val (.int p2), .val (.double d3), .second, .val (.int p4), .val (.int p5)] [(.int (1 : Int32)), (.int p5)])) t
    refine XS.icmpYes X3.here hx rfl (pc0 := 40) (pc' := 60) rfl (hb hby d1_40) rfl (flt (hb40 : ¬ (p5 < (1 : Int32)))).2.1 (by decide) (by decide) ?_
    show Steps p.tables e below (T3.setTop (mkF m 60 #[.val (.ref a0), .val (.int p1), .val (.int p2), .val (.double d3), .second, .val (.int p4), .val (.int p5)] [])) t
    refine XS.aloadN X3.here hx rfl (hb hby d1_60) rfl rfl ?_
    show Steps p.tables e below (T3.setTop (mkF m 61 #[.val (.ref a0), .val (.int p1), .val (.int p2), .val (.double d3), .second, .val (.int p4), .val (.int p5)] [(.ref a0)])) t
    refine XS.iloadN X3.here hx rfl (hb hby d1_61) rfl ?_
    exact k
  obtain ⟨T5, h5, X5, e5, W5, st5⟩ := putF X3 hx hZ hown (host := "") (Or.inl (hw _ (List.mem_of_getElem? (i := 23) rfl))) Via.refl e3 F_originColumn_a0 E_a0 (Or.inr ⟨(hw _ (List.mem_of_getElem? (i := 24) rfl)), rfl, hnm⟩) (hw _ (List.mem_of_getElem? (i := 1) rfl)) (ty := .int) (by decide) rfl rfl (g := (mkF m 62 #[.val (.ref a0), .val (.int p1), .val (.int p2), .val (.double d3), .second, .val (.int p4), .val (.int p5)] [(.int p1), (.ref a0)])) rfl rfl (hb hby d1_62)
  have f6 := E_a0.wr W5
  have f7 := F_originColumn_a0.same W5
  have f8 := F_originRow_a0.other W5 (Or.inr (slot_ne (Or.inr (hw _ (List.mem_of_getElem? (i := 26) rfl))) (Or.inr (hw _ (List.mem_of_getElem? (i := 24) rfl))) (by decide) (t := .int) (t' := .int) (by decide) (by decide)))
  have f9 := F_cellSize_a0.other W5 (Or.inr (slot_ne (Or.inr (hw _ (List.mem_of_getElem? (i := 28) rfl))) (Or.inr (hw _ (List.mem_of_getElem? (i := 24) rfl))) (by decide) (t := .double) (t' := .int) (by decide) (by decide)))
  have f10 := F_rows_a0.other W5 (Or.inr (slot_ne (Or.inr (hw _ (List.mem_of_getElem? (i := 30) rfl))) (Or.inr (hw _ (List.mem_of_getElem? (i := 24) rfl))) (by decide) (t := .int) (t' := .int) (by decide) (by decide)))
  have f11 := F_columns_a0.other W5 (Or.inr (slot_ne (Or.inr (hw _ (List.mem_of_getElem? (i := 32) rfl))) (Or.inr (hw _ (List.mem_of_getElem? (i := 24) rfl))) (by decide) (t := .int) (t' := .int) (by decide) (by decide)))
  have z12 := Nat.le_trans Z0 (Keep.of_wr W5).1
  have k13 := K0.wr W5 (Or.inl (List.mem_of_getElem? (i := 0) rfl))
  have n14 := Fr.snoc X5 n4 g_a0
  refine own_st (T' := T5) (g' := (mkF m 65 #[.val (.ref a0), .val (.int p1), .val (.int p2), .val (.double d3), .second, .val (.int p4), .val (.int p5)] [])) st5 ?_
  refine own_st (T' := T5) (g' := (mkF m 67 #[.val (.ref a0), .val (.int p1), .val (.int p2), .val (.double d3), .second, .val (.int p4), .val (.int p5)] [(.int p2), (.ref a0)])) (fun t k => ?_) ?_
  · show Steps p.tables e below (T5.setTop (mkF m 65 #[.val (.ref a0), .val (.int p1), .val (.int p2), .val (.double d3), .second, .val (.int p4), .val (.int p5)] [])) t
    refine XS.aloadN X5.here hx rfl (hb hby d1_65) rfl rfl ?_
    show Steps p.tables e below (T5.setTop (mkF m 66 #[.val (.ref a0), .val (.int p1), .val (.int p2), .val (.double d3), .second, .val (.int p4), .val (.int p5)] [(.ref a0)])) t
    refine XS.iloadN X5.here hx rfl (hb hby d1_66) rfl ?_
    exact k
  obtain ⟨T15, h15, X15, e15, W15, st15⟩ := putF X5 hx hZ hown (host := "") (Or.inl (hw _ (List.mem_of_getElem? (i := 25) rfl))) Via.refl e5 f8 f6 (Or.inr ⟨(hw _ (List.mem_of_getElem? (i := 26) rfl)), rfl, hnm⟩) (hw _ (List.mem_of_getElem? (i := 1) rfl)) (ty := .int) (by decide) rfl rfl (g := (mkF m 67 #[.val (.ref a0), .val (.int p1), .val (.int p2), .val (.double d3), .second, .val (.int p4), .val (.int p5)] [(.int p2), (.ref a0)])) rfl rfl (hb hby d1_67)
  have f16 := f6.wr W15
  have f17 := f7.other W15 (Or.inr (slot_ne (Or.inr (hw _ (List.mem_of_getElem? (i := 24) rfl))) (Or.inr (hw _ (List.mem_of_getElem? (i := 26) rfl))) (by decide) (t := .int) (t' := .int) (by decide) (by decide)))
  have f18 := f8.same W15
  have f19 := f9.other W15 (Or.inr (slot_ne (Or.inr (hw _ (List.mem_of_getElem? (i := 28) rfl))) (Or.inr (hw _ (List.mem_of_getElem? (i := 26) rfl))) (by decide) (t := .double) (t' := .int) (by decide) (by decide)))
  have f20 := f10.other W15 (Or.inr (slot_ne (Or.inr (hw _ (List.mem_of_getElem? (i := 30) rfl))) (Or.inr (hw _ (List.mem_of_getElem? (i := 26) rfl))) (by decide) (t := .int) (t' := .int) (by decide) (by decide)))
  have f21 := f11.other W15 (Or.inr (slot_ne (Or.inr (hw _ (List.mem_of_getElem? (i := 32) rfl))) (Or.inr (hw _ (List.mem_of_getElem? (i := 26) rfl))) (by decide) (t := .int) (t' := .int) (by decide) (by decide)))
  have z22 := Nat.le_trans z12 (Keep.of_wr W15).1
  have k23 := k13.wr W15 (Or.inl (List.mem_of_getElem? (i := 0) rfl))
  have n24 := Fr.snoc X15 n14 g_a0
  refine own_st (T' := T15) (g' := (mkF m 70 #[.val (.ref a0), .val (.int p1), .val (.int p2), .val (.double d3), .second, .val (.int p4), .val (.int p5)] [])) st15 ?_
  refine own_st (T' := T15) (g' := (mkF m 72 #[.val (.ref a0), .val (.int p1), .val (.int p2), .val (.double d3), .second, .val (.int p4), .val (.int p5)] [(.double d3), (.ref a0)])) (fun t k => ?_) ?_
  · show Steps p.tables e below (T15.setTop (mkF m 70 #[.val (.ref a0), .val (.int p1), .val (.int p2), .val (.double d3), .second, .val (.int p4), .val (.int p5)] [])) t
    refine XS.aloadN X15.here hx rfl (hb hby d1_70) rfl rfl ?_
    show Steps p.tables e below (T15.setTop (mkF m 71 #[.val (.ref a0), .val (.int p1), .val (.int p2), .val (.double d3), .second, .val (.int p4), .val (.int p5)] [(.ref a0)])) t
    refine XS.dloadN X15.here hx rfl (hb hby d1_71) rfl ?_
    exact k
  obtain ⟨T25, h25, X25, e25, W25, st25⟩ := putF X15 hx hZ hown (host := "") (Or.inl (hw _ (List.mem_of_getElem? (i := 27) rfl))) Via.refl e15 f19 f16 (Or.inr ⟨(hw _ (List.mem_of_getElem? (i := 28) rfl)), rfl, hnm⟩) (hw _ (List.mem_of_getElem? (i := 1) rfl)) (ty := .double) (by decide) rfl rfl (g := (mkF m 72 #[.val (.ref a0), .val (.int p1), .val (.int p2), .val (.double d3), .second, .val (.int p4), .val (.int p5)] [(.double d3), (.ref a0)])) rfl rfl (hb hby d1_72)
  have f26 := f16.wr W25
  have f27 := f17.other W25 (Or.inr (slot_ne (Or.inr (hw _ (List.mem_of_getElem? (i := 24) rfl))) (Or.inr (hw _ (List.mem_of_getElem? (i := 28) rfl))) (by decide) (t := .int) (t' := .double) (by decide) (by decide)))
  have f28 := f18.other W25 (Or.inr (slot_ne (Or.inr (hw _ (List.mem_of_getElem? (i := 26) rfl))) (Or.inr (hw _ (List.mem_of_getElem? (i := 28) rfl))) (by decide) (t := .int) (t' := .double) (by decide) (by decide)))
  have f29 := f19.same W25
  have f30 := f20.other W25 (Or.inr (slot_ne (Or.inr (hw _ (List.mem_of_getElem? (i := 30) rfl))) (Or.inr (hw _ (List.mem_of_getElem? (i := 28) rfl))) (by decide) (t := .int) (t' := .double) (by decide) (by decide)))
  have f31 := f21.other W25 (Or.inr (slot_ne (Or.inr (hw _ (List.mem_of_getElem? (i := 32) rfl))) (Or.inr (hw _ (List.mem_of_getElem? (i := 28) rfl))) (by decide) (t := .int) (t' := .double) (by decide) (by decide)))
  have z32 := Nat.le_trans z22 (Keep.of_wr W25).1
  have k33 := k23.wr W25 (Or.inl (List.mem_of_getElem? (i := 0) rfl))
  have n34 := Fr.snoc X25 n24 g_a0
  refine own_st (T' := T25) (g' := (mkF m 75 #[.val (.ref a0), .val (.int p1), .val (.int p2), .val (.double d3), .second, .val (.int p4), .val (.int p5)] [])) st25 ?_
  refine own_st (T' := T25) (g' := (mkF m 78 #[.val (.ref a0), .val (.int p1), .val (.int p2), .val (.double d3), .second, .val (.int p4), .val (.int p5)] [(.int p4), (.ref a0)])) (fun t k => ?_) ?_
  · show Steps p.tables e below (T25.setTop (mkF m 75 #[.val (.ref a0), .val (.int p1), .val (.int p2), .val (.double d3), .second, .val (.int p4), .val (.int p5)] [])) t
    refine XS.aloadN X25.here hx rfl (hb hby d1_75) rfl rfl ?_
    show Steps p.tables e below (T25.setTop (mkF m 76 #[.val (.ref a0), .val (.int p1), .val (.int p2), .val (.double d3), .second, .val (.int p4), .val (.int p5)] [(.ref a0)])) t
    refine XS.iload X25.here hx rfl (hb hby d1_76) rfl ?_
    exact k
  obtain ⟨T35, h35, X35, e35, W35, st35⟩ := putF X25 hx hZ hown (host := "") (Or.inl (hw _ (List.mem_of_getElem? (i := 29) rfl))) Via.refl e25 f30 f26 (Or.inr ⟨(hw _ (List.mem_of_getElem? (i := 30) rfl)), rfl, hnm⟩) (hw _ (List.mem_of_getElem? (i := 1) rfl)) (ty := .int) (by decide) rfl rfl (g := (mkF m 78 #[.val (.ref a0), .val (.int p1), .val (.int p2), .val (.double d3), .second, .val (.int p4), .val (.int p5)] [(.int p4), (.ref a0)])) rfl rfl (hb hby d1_78)
  have f36 := f26.wr W35
  have f37 := f27.other W35 (Or.inr (slot_ne (Or.inr (hw _ (List.mem_of_getElem? (i := 24) rfl))) (Or.inr (hw _ (List.mem_of_getElem? (i := 30) rfl))) (by decide) (t := .int) (t' := .int) (by decide) (by decide)))
  have f38 := f28.other W35 (Or.inr (slot_ne (Or.inr (hw _ (List.mem_of_getElem? (i := 26) rfl))) (Or.inr (hw _ (List.mem_of_getElem? (i := 30) rfl))) (by decide) (t := .int) (t' := .int) (by decide) (by decide)))
  have f39 := f29.other W35 (Or.inr (slot_ne (Or.inr (hw _ (List.mem_of_getElem? (i := 28) rfl))) (Or.inr (hw _ (List.mem_of_getElem? (i := 30) rfl))) (by decide) (t := .double) (t' := .int) (by decide) (by decide)))
  have f40 := f30.same W35
  have f41 := f31.other W35 (Or.inr (slot_ne (Or.inr (hw _ (List.mem_of_getElem? (i := 32) rfl))) (Or.inr (hw _ (List.mem_of_getElem? (i := 30) rfl))) (by decide) (t := .int) (t' := .int) (by decide) (by decide)))
  have z42 := Nat.le_trans z32 (Keep.of_wr W35).1
  have k43 := k33.wr W35 (Or.inl (List.mem_of_getElem? (i := 0) rfl))
  have n44 := Fr.snoc X35 n34 g_a0
  refine own_st (T' := T35) (g' := (mkF m 81 #[.val (.ref a0), .val (.int p1), .val (.int p2), .val (.double d3), .second, .val (.int p4), .val (.int p5)] [])) st35 ?_
  refine own_st (T' := T35) (g' := (mkF m 84 #[.val (.ref a0), .val (.int p1), .val (.int p2), .val (.double d3), .second, .val (.int p4), .val (.int p5)] [(.int p5), (.ref a0)])) (fun t k => ?_) ?_
  · show Steps p.tables e below (T35.setTop (mkF m 81 #[.val (.ref a0), .val (.int p1), .val (.int p2), .val (.double d3), .second, .val (.int p4), .val (.int p5)] [])) t
    refine XS.aloadN X35.here hx rfl (hb hby d1_81) rfl rfl ?_
    show Steps p.tables e below (T35.setTop (mkF m 82 #[.val (.ref a0), .val (.int p1), .val (.int p2), .val (.double d3), .second, .val (.int p4), .val (.int p5)] [(.ref a0)])) t
    refine XS.iload X35.here hx rfl (hb hby d1_82) rfl ?_
    exact k
  obtain ⟨T45, h45, X45, e45, W45, st45⟩ := putF X35 hx hZ hown (host := "") (Or.inl (hw _ (List.mem_of_getElem? (i := 31) rfl))) Via.refl e35 f41 f36 (Or.inr ⟨(hw _ (List.mem_of_getElem? (i := 32) rfl)), rfl, hnm⟩) (hw _ (List.mem_of_getElem? (i := 1) rfl)) (ty := .int) (by decide) rfl rfl (g := (mkF m 84 #[.val (.ref a0), .val (.int p1), .val (.int p2), .val (.double d3), .second, .val (.int p4), .val (.int p5)] [(.int p5), (.ref a0)])) rfl rfl (hb hby d1_84)
  have f46 := f36.wr W45
  have f47 := f37.other W45 (Or.inr (slot_ne (Or.inr (hw _ (List.mem_of_getElem? (i := 24) rfl))) (Or.inr (hw _ (List.mem_of_getElem? (i := 32) rfl))) (by decide) (t := .int) (t' := .int) (by decide) (by decide)))
  have f48 := f38.other W45 (Or.inr (slot_ne (Or.inr (hw _ (List.mem_of_getElem? (i := 26) rfl))) (Or.inr (hw _ (List.mem_of_getElem? (i := 32) rfl))) (by decide) (t := .int) (t' := .int) (by decide) (by decide)))
  have f49 := f39.other W45 (Or.inr (slot_ne (Or.inr (hw _ (List.mem_of_getElem? (i := 28) rfl))) (Or.inr (hw _ (List.mem_of_getElem? (i := 32) rfl))) (by decide) (t := .double) (t' := .int) (by decide) (by decide)))
  have f50 := f40.other W45 (Or.inr (slot_ne (Or.inr (hw _ (List.mem_of_getElem? (i := 30) rfl))) (Or.inr (hw _ (List.mem_of_getElem? (i := 32) rfl))) (by decide) (t := .int) (t' := .int) (by decide) (by decide)))
  have f51 := f41.same W45
  have z52 := Nat.le_trans z42 (Keep.of_wr W45).1
  have k53 := k43.wr W45 (Or.inl (List.mem_of_getElem? (i := 0) rfl))
  have n54 := Fr.snoc X45 n44 g_a0
  refine own_st (T' := T45) (g' := (mkF m 87 #[.val (.ref a0), .val (.int p1), .val (.int p2), .val (.double d3), .second, .val (.int p4), .val (.int p5)] [])) st45 ?_
  refine own_retV X45 hx hlk Bd.returns (hb hby d1_87) (by decide) (by decide) ?_
  show Q1 Z a0 p1 p2 d3 p4 p5 u_originColumn_a0 u_originRow_a0 u_cellSize_a0 u_rows_a0 u_columns_a0 h0 n0 none T45.heap _
  rw [(e45 : T45.heap = h45)]
  exact ⟨rfl, n54, k53, f46, f47, f48, f49, f50, f51⟩
theorem d6_0 : decode prog_32_method_9_code 0 = .ok (.aload_n 0, 1) := by decide +kernel
theorem d6_1 : decode prog_32_method_9_code 1 = .ok (.getfield 31, 3) := by decide +kernel
theorem d6_4 : decode prog_32_method_9_code 4 = .ok (.i2d, 1) := by decide +kernel
theorem d6_5 : decode prog_32_method_9_code 5 = .ok (.iload_n 1, 1) := by decide +kernel
theorem d6_6 : decode prog_32_method_9_code 6 = .ok (.i2d, 1) := by decide +kernel
theorem d6_7 : decode prog_32_method_9_code 7 = .ok (.dadd, 1) := by decide +kernel
theorem d6_8 : decode prog_32_method_9_code 8 = .ok (.ldc2_w 97, 3) := by decide +kernel
theorem d6_11 : decode prog_32_method_9_code 11 = .ok (.dadd, 1) := by decide +kernel
theorem d6_12 : decode prog_32_method_9_code 12 = .ok (.aload_n 0, 1) := by decide +kernel
theorem d6_13 : decode prog_32_method_9_code 13 = .ok (.getfield 34, 3) := by decide +kernel
theorem d6_16 : decode prog_32_method_9_code 16 = .ok (.dmul, 1) := by decide +kernel
theorem d6_17 : decode prog_32_method_9_code 17 = .ok (.dreturn, 1) := by decide +kernel
theorem pn6 : plainName "com/example/weirbench/weirbench/grid/GridGeometry" = true := by first | (simp [plainName, overriddenIn]; done) | decide +kernel
theorem ef6 (m : MethodId) (a0 : Addr) (p1 : Int32) : entryFrame m #[(.ref a0), (.int p1)] 2 = mkF m 0 #[.val (.ref a0), .val (.int p1)] [] := by first | (simp [entryFrame, mkF, argsToLocals, Value.category]; done) | rfl
def Q6 (Z : State) (a0 : Addr) (p1 : Int32) (w_originRow_a0 : Int32) (w_cellSize_a0 : UInt64) (h0 : Heap) (n0 : Nat) (v : Option Value) (h : Heap) (L : List Loc) : Prop := v = some (.double (FP.dmul (FP.dadd (FP.dadd (FP.i2d w_originRow_a0) (FP.i2d p1)) (4602678819172646912 : UInt64)) w_cellSize_a0)) ∧ Fr n0 L ∧ h = h0
set_option maxRecDepth 65536 in
set_option maxHeartbeats 40000000 in
theorem rm6 (l : Launch) (Z : State) (ar : Array Value) (hw : ∀ d ∈ tables_1, d.before ar Z = true) (ws : List Jvm.Cond) (a0 : Addr) (p1 : Int32) (w_originRow_a0 : Int32) (w_cellSize_a0 : UInt64) (h0 : Heap) (n0 : Nat) (Z0 : n0 ≤ h0.size) (F_originRow_a0 : Fld Z h0 a0 "com/example/weirbench/weirbench/grid/GridGeometry" "originRow" "I" (.int w_originRow_a0)) (F_cellSize_a0 : Fld Z h0 a0 "com/example/weirbench/weirbench/grid/GridGeometry" "cellSize" "D" (.double w_cellSize_a0)) (hn16 : Jvm.Free.Fl.NoNaN64 (FP.dmul (FP.dadd (FP.dadd (FP.i2d w_originRow_a0) (FP.i2d p1)) (4602678819172646912 : UInt64)) w_cellSize_a0)) :
    MetFree l (⟨"com/example/weirbench/weirbench/grid/GridGeometry", "centreY", "(I)D"⟩ : MethodName) (head1 (Jvm.Cond.code (⟨"com/example/weirbench/weirbench/grid/GridGeometry", "centreY", "(I)D"⟩ : MethodName) prog_32_method_9_code 2 (some .double) :: ws) ({ frames := 0, cells := 0, slots := 0, locals := 0 } : Room)) (fun a U => a = #[(.ref a0), (.int p1)] ∧ Z.Warmed39 U.vm ∧ U.heap = h0) (fun _ _ _ _ _ => True) (fun _ U o U' => ∃ v L, o = .returned v ∧ Q6 Z a0 p1 w_originRow_a0 w_cellSize_a0 h0 n0 v U'.heap L ∧ FrameEnd U o U' L ({ frames := 0, cells := 0, slots := 0, locals := 0 } : Room).cells ({ frames := 0, cells := 0, slots := 0, locals := 0 } : Room).slots) := by
  refine MetFree.of_bodySF (plainFor_of_name pn6) hisR ?_
  intro p e s m args below meth c s₁ Bd hml0 hP hK
  obtain ⟨rfl, hZ, hh⟩ := hP
  have hx := Bd.exec
  have hby := Bd.bytes
  have hlk := Bd.notSynchronized
  have hml : c.maxLocals = 2 := hml0
  have hown : s.vm.findClass "com/example/weirbench/weirbench/grid/GridGeometry" = some m.cls := findClass_of_methodNamed Bd.named
  have hnm := (name_of_methodNamed Bd.named Bd.method).1
  have X0 : Stand p l e ({ frames := 0, cells := 0, slots := 0, locals := 0 } : Room) s m #[(.ref a0), (.int p1)] below meth c s₁ [] 0 0 := Stand.of_body Bd
  have e0 : s₁.heap = h0 := by rw [← hh, Bd.state]; rfl
  have N0 := Fr.nil n0
  have K0 := Keep.refl h0 []
  refine own_enter (Q := Q6 Z a0 p1 w_originRow_a0 w_cellSize_a0 h0 n0) (ef6 m a0 p1) ?_
  refine own_st (T' := s₁) (g' := (mkF m 1 #[.val (.ref a0), .val (.int p1)] [(.ref a0)])) (fun t k => ?_) ?_
  · show Steps p.tables e below (s₁.setTop (mkF m 0 #[.val (.ref a0), .val (.int p1)] [])) t
    refine XS.aloadN X0.here hx rfl (hb hby d6_0) rfl rfl ?_
    exact k
  obtain ⟨T1, X1, e1, st1⟩ := getF X0 hx hZ hown (host := "") (Or.inl (hw _ (List.mem_of_getElem? (i := 25) rfl))) Via.refl e0 F_originRow_a0 (g := (mkF m 1 #[.val (.ref a0), .val (.int p1)] [(.ref a0)])) rfl rfl (hb hby d6_1)
  refine own_st (T' := T1) (g' := (mkF m 4 #[.val (.ref a0), .val (.int p1)] [(.int w_originRow_a0)])) st1 ?_
  refine own_st (T' := T1) (g' := (mkF m 13 #[.val (.ref a0), .val (.int p1)] [(.ref a0), (.double (FP.dadd (FP.dadd (FP.i2d w_originRow_a0) (FP.i2d p1)) (4602678819172646912 : UInt64)))])) (fun t k => ?_) ?_
  · show Steps p.tables e below (T1.setTop (mkF m 4 #[.val (.ref a0), .val (.int p1)] [(.int w_originRow_a0)])) t
    refine XS.i2dS X1.here hx rfl (hb hby d6_4) rfl rfl ?_
    show Steps p.tables e below (T1.setTop (mkF m 5 #[.val (.ref a0), .val (.int p1)] [(.double (FP.i2d w_originRow_a0))])) t
    refine XS.iloadN X1.here hx rfl (hb hby d6_5) rfl ?_
    show Steps p.tables e below (T1.setTop (mkF m 6 #[.val (.ref a0), .val (.int p1)] [(.int p1), (.double (FP.i2d w_originRow_a0))])) t
    refine XS.i2dS X1.here hx rfl (hb hby d6_6) rfl rfl ?_
    show Steps p.tables e below (T1.setTop (mkF m 7 #[.val (.ref a0), .val (.int p1)] [(.double (FP.i2d p1)), (.double (FP.i2d w_originRow_a0))])) t
    refine XS.daddS X1.here hx rfl (hb hby d6_7) rfl ((Jvm.Free.Fl.Mag64.fin (Jvm.Free.Fl.dadd_mag (Jvm.Free.Fl.i2d_mag w_originRow_a0) (Jvm.Free.Fl.i2d_mag p1) (by decide)) (by decide)).noNaN) rfl ?_
    show Steps p.tables e below (T1.setTop (mkF m 8 #[.val (.ref a0), .val (.int p1)] [(.double (FP.dadd (FP.i2d w_originRow_a0) (FP.i2d p1)))])) t
    refine X1.ldc2DoubleC hx hown (mvT hZ (hw _ (List.mem_of_getElem? (i := 38) rfl))) (g := (mkF m 8 #[.val (.ref a0), .val (.int p1)] [(.double (FP.dadd (FP.i2d w_originRow_a0) (FP.i2d p1)))])) rfl (hb hby d6_8) _ ?_
    show Steps p.tables e below (T1.setTop (mkF m 11 #[.val (.ref a0), .val (.int p1)] [(.double (4602678819172646912 : UInt64)), (.double (FP.dadd (FP.i2d w_originRow_a0) (FP.i2d p1)))])) t
    refine XS.daddS X1.here hx rfl (hb hby d6_11) rfl ((Jvm.Free.Fl.Mag64.fin (Jvm.Free.Fl.dadd_mag (Jvm.Free.Fl.dadd_mag (Jvm.Free.Fl.i2d_mag w_originRow_a0) (Jvm.Free.Fl.i2d_mag p1) (by decide)) (Jvm.Free.Fl.Mag64.mono (show Jvm.Free.Fl.Mag64 1023 (4602678819172646912 : UInt64) by unfold Jvm.Free.Fl.Mag64; decide) (show 1023 ≤ 1058 by decide)) (by decide)) (by decide)).noNaN) rfl ?_
    show Steps p.tables e below (T1.setTop (mkF m 12 #[.val (.ref a0), .val (.int p1)] [(.double (FP.dadd (FP.dadd (FP.i2d w_originRow_a0) (FP.i2d p1)) (4602678819172646912 : UInt64)))])) t
    refine XS.aloadN X1.here hx rfl (hb hby d6_12) rfl rfl ?_
    exact k
  obtain ⟨T2, X2, e2, st2⟩ := getF X1 hx hZ hown (host := "") (Or.inl (hw _ (List.mem_of_getElem? (i := 27) rfl))) Via.refl e1 F_cellSize_a0 (g := (mkF m 13 #[.val (.ref a0), .val (.int p1)] [(.ref a0), (.double (FP.dadd (FP.dadd (FP.i2d w_originRow_a0) (FP.i2d p1)) (4602678819172646912 : UInt64)))])) rfl rfl (hb hby d6_13)
  refine own_st (T' := T2) (g' := (mkF m 16 #[.val (.ref a0), .val (.int p1)] [(.double w_cellSize_a0), (.double (FP.dadd (FP.dadd (FP.i2d w_originRow_a0) (FP.i2d p1)) (4602678819172646912 : UInt64)))])) st2 ?_
  refine own_st (T' := T2) (g' := (mkF m 17 #[.val (.ref a0), .val (.int p1)] [(.double (FP.dmul (FP.dadd (FP.dadd (FP.i2d w_originRow_a0) (FP.i2d p1)) (4602678819172646912 : UInt64)) w_cellSize_a0))])) (fun t k => ?_) ?_
  · show Steps p.tables e below (T2.setTop (mkF m 16 #[.val (.ref a0), .val (.int p1)] [(.double w_cellSize_a0), (.double (FP.dadd (FP.dadd (FP.i2d w_originRow_a0) (FP.i2d p1)) (4602678819172646912 : UInt64)))])) t
    refine XS.dmulS X2.here hx rfl (hb hby d6_16) rfl hn16 rfl ?_
    exact k
  refine own_retD X2 hx hlk Bd.returns (hb hby d6_17) (by decide) (by decide) ?_
  show Q6 Z a0 p1 w_originRow_a0 w_cellSize_a0 h0 n0 (some (.double (FP.dmul (FP.dadd (FP.dadd (FP.i2d w_originRow_a0) (FP.i2d p1)) (4602678819172646912 : UInt64)) w_cellSize_a0))) T2.heap _
  rw [(e2 : T2.heap = h0)]
  exact ⟨rfl, N0, rfl⟩
theorem pn0 : plainName "com/example/weirbench/weirbench/grid/GridGeometryCentreYPinLaw" = true := by first | (simp [plainName, overriddenIn]; done) | decide +kernel
theorem pd0_0 : parseMethodDescriptor "(IIDII)V" = some ⟨[.int, .int, .double, .int, .int], none⟩ := by decide +kernel
theorem pd0_1 : parseMethodDescriptor "(I)D" = some ⟨[.int], some .double⟩ := by decide +kernel
theorem ef0 (m : MethodId) (p0 : Int32) (p1 : Int32) (p2 : Int32) (p3 : Int32) (p4 : Int32) : entryFrame m #[(.int p0), (.int p1), (.int p2), (.int p3), (.int p4)] maxLocals = mkF m 0 #[.val (.int p0), .val (.int p1), .val (.int p2), .val (.int p3), .val (.int p4), .unset, .unset, .unset, .unset, .unset, .unset, .unset, .unset, .unset, .unset, .unset, .unset, .unset] [] := by first | (simp [entryFrame, mkF, argsToLocals, Value.category, maxLocals]; done) | rfl
def Q0 (Z : State) (p0 : Int32) (p1 : Int32) (p2 : Int32) (p3 : Int32) (p4 : Int32) (h0 : Heap) (n0 : Nat) (v : Option Value) (h : Heap) (L : List Loc) : Prop := v = some (.int (1 : Int32)) ∧ Fr n0 L
set_option maxRecDepth 65536 in
set_option maxHeartbeats 40000000 in
theorem rm0 (l : Launch) (Z : State) (ar : Array Value) (hw : ∀ d ∈ tables_1, d.before ar Z = true) (ws : List Jvm.Cond) (p0 : Int32) (p1 : Int32) (p2 : Int32) (p3 : Int32) (p4 : Int32) (h0 : Heap) (n0 : Nat) (Z0 : n0 ≤ h0.size) (hn23 : Jvm.Free.Fl.NoNaN64 (FP.ddiv (FP.i2d ((p3 &&& (7 : Int32)) + (1 : Int32))) (FP.i2d ((1 : Int32) <<< ((((p3.toUInt32 >>> ((3 : Int32) &&& 31).toUInt32).toInt32) &&& (3 : Int32)) &&& 31))))) (h61_hq_6 : (cmpValue (FP.dcmp (FP.ddiv (FP.i2d ((p3 &&& (7 : Int32)) + (1 : Int32))) (FP.i2d ((1 : Int32) <<< ((((p3.toUInt32 >>> ((3 : Int32) &&& 31).toUInt32).toInt32) &&& (3 : Int32)) &&& 31)))) (0 : UInt64)) .l) = (1 : Int32)) (h61_h11_hb8 : ¬ ((0 : Int32) < (cmpValue (FP.dcmp ((FP.ddiv (FP.i2d ((p3 &&& (7 : Int32)) + (1 : Int32))) (FP.i2d ((1 : Int32) <<< ((((p3.toUInt32 >>> ((3 : Int32) &&& 31).toUInt32).toInt32) &&& (3 : Int32)) &&& 31)))) &&& 0x7fffffffffffffff) (9218868437227405311 : UInt64)) .l))) (h61_hb34 : ¬ (((p4 &&& (255 : Int32)) + (1 : Int32)) < (1 : Int32))) (h61_hb40 : ¬ (((((p4.toUInt32 >>> ((8 : Int32) &&& 31).toUInt32).toInt32) &&& (255 : Int32)) + (1 : Int32)) < (1 : Int32))) (h69_hn16 : Jvm.Free.Fl.NoNaN64 (FP.dmul (FP.dadd (FP.dadd (FP.i2d p1) (FP.i2d p2)) (4602678819172646912 : UInt64)) (FP.ddiv (FP.i2d ((p3 &&& (7 : Int32)) + (1 : Int32))) (FP.i2d ((1 : Int32) <<< ((((p3.toUInt32 >>> ((3 : Int32) &&& 31).toUInt32).toInt32) &&& (3 : Int32)) &&& 31)))))) (hn107 : Jvm.Free.Fl.NoNaN64 (FP.dmul (FP.dmul (FP.dadd (FP.dadd (FP.i2d p1) (FP.i2d p2)) (4602678819172646912 : UInt64)) (FP.ddiv (FP.i2d ((p3 &&& (7 : Int32)) + (1 : Int32))) (FP.i2d ((1 : Int32) <<< ((((p3.toUInt32 >>> ((3 : Int32) &&& 31).toUInt32).toInt32) &&& (3 : Int32)) &&& 31))))) (FP.i2d ((2 : Int32) <<< ((((p3.toUInt32 >>> ((3 : Int32) &&& 31).toUInt32).toInt32) &&& (3 : Int32)) &&& 31))))) (hq110 : (cmpValue (FP.dcmp (FP.dmul (FP.dmul (FP.dadd (FP.dadd (FP.i2d p1) (FP.i2d p2)) (4602678819172646912 : UInt64)) (FP.ddiv (FP.i2d ((p3 &&& (7 : Int32)) + (1 : Int32))) (FP.i2d ((1 : Int32) <<< ((((p3.toUInt32 >>> ((3 : Int32) &&& 31).toUInt32).toInt32) &&& (3 : Int32)) &&& 31))))) (FP.i2d ((2 : Int32) <<< ((((p3.toUInt32 >>> ((3 : Int32) &&& 31).toUInt32).toInt32) &&& (3 : Int32)) &&& 31)))) (FP.l2d (((((2 : Int64) * (p1.toInt64)) + ((2 : Int64) * (p2.toInt64))) + (1 : Int64)) * (((p3 &&& (7 : Int32)) + (1 : Int32)).toInt64)))) .l) = (0 : Int32)) :
    MetFree l x (head1 (Jvm.Cond.code x code maxLocals ret :: ws) room_1) (fun a U => a = #[(.int p0), (.int p1), (.int p2), (.int p3), (.int p4)] ∧ Z.Warmed39 U.vm ∧ U.heap = h0) (fun _ _ _ _ _ => True) (fun _ U o U' => ∃ v L, o = .returned v ∧ Q0 Z p0 p1 p2 p3 p4 h0 n0 v U'.heap L ∧ FrameEnd U o U' L room_1.cells room_1.slots) := by
  refine MetFree.of_bodySF (plainFor_of_name pn0) hisR ?_
  intro p e s m args below meth c s₁ Bd hml0 hP hK
  obtain ⟨rfl, hZ, hh⟩ := hP
  have hx := Bd.exec
  have hby := Bd.bytes
  have hlk := Bd.notSynchronized
  have hml : c.maxLocals = 18 := hml0
  have hown : s.vm.findClass "com/example/weirbench/weirbench/grid/GridGeometryCentreYPinLaw" = some m.cls := findClass_of_methodNamed Bd.named
  have hnm := (name_of_methodNamed Bd.named Bd.method).1
  have X0 : Stand p l e room_1 s m #[(.int p0), (.int p1), (.int p2), (.int p3), (.int p4)] below meth c s₁ [] 0 0 := Stand.of_body Bd
  have e0 : s₁.heap = h0 := by rw [← hh, Bd.state]; rfl
  have N0 := Fr.nil n0
  have K0 := Keep.refl h0 []
  refine own_enter (Q := Q0 Z p0 p1 p2 p3 p4 h0 n0) (ef0 m p0 p1 p2 p3 p4) ?_
  refine own_st (T' := s₁) (g' := (mkF m 49 #[.val (.int p0), .val (.int p1), .val (.int p2), .val (.int p3), .val (.int p4), .val (.int ((p3 &&& (7 : Int32)) + (1 : Int32))), .val (.int (((p3.toUInt32 >>> ((3 : Int32) &&& 31).toUInt32).toInt32) &&& (3 : Int32))), .val (.double (FP.ddiv (FP.i2d ((p3 &&& (7 : Int32)) + (1 : Int32))) (FP.i2d ((1 : Int32) <<< ((((p3.toUInt32 >>> ((3 : Int32) &&& 31).toUInt32).toInt32) &&& (3 : Int32)) &&& 31))))), .second, .val (.int ((p4 &&& (255 : Int32)) + (1 : Int32))), .val (.int ((((p4.toUInt32 >>> ((8 : Int32) &&& 31).toUInt32).toInt32) &&& (255 : Int32)) + (1 : Int32))), .unset, .unset, .unset, .unset, .unset, .unset, .unset] [])) (fun t k => ?_) ?_
  · show Steps p.tables e below (s₁.setTop (mkF m 0 #[.val (.int p0), .val (.int p1), .val (.int p2), .val (.int p3), .val (.int p4), .unset, .unset, .unset, .unset, .unset, .unset, .unset, .unset, .unset, .unset, .unset, .unset, .unset] [])) t
    refine XS.iloadN X0.here hx rfl (hb hby at_0) rfl ?_
    show Steps p.tables e below (s₁.setTop (mkF m 1 #[.val (.int p0), .val (.int p1), .val (.int p2), .val (.int p3), .val (.int p4), .unset, .unset, .unset, .unset, .unset, .unset, .unset, .unset, .unset, .unset, .unset, .unset, .unset] [(.int p3)])) t
    refine XS.bipush X0.here hx rfl (hb hby at_1) ?_
    show Steps p.tables e below (s₁.setTop (mkF m 3 #[.val (.int p0), .val (.int p1), .val (.int p2), .val (.int p3), .val (.int p4), .unset, .unset, .unset, .unset, .unset, .unset, .unset, .unset, .unset, .unset, .unset, .unset, .unset] [(.int (7 : Int32)), (.int p3)])) t
    refine XS.iand X0.here hx rfl (hb hby at_3) rfl ?_
    show Steps p.tables e below (s₁.setTop (mkF m 4 #[.val (.int p0), .val (.int p1), .val (.int p2), .val (.int p3), .val (.int p4), .unset, .unset, .unset, .unset, .unset, .unset, .unset, .unset, .unset, .unset, .unset, .unset, .unset] [(.int (p3 &&& (7 : Int32)))])) t
    refine XS.iconst X0.here hx rfl (hb hby at_4) ?_
    show Steps p.tables e below (s₁.setTop (mkF m 5 #[.val (.int p0), .val (.int p1), .val (.int p2), .val (.int p3), .val (.int p4), .unset, .unset, .unset, .unset, .unset, .unset, .unset, .unset, .unset, .unset, .unset, .unset, .unset] [(.int (1 : Int32)), (.int (p3 &&& (7 : Int32)))])) t
    refine XS.iadd X0.here hx rfl (hb hby at_5) rfl ?_
    show Steps p.tables e below (s₁.setTop (mkF m 6 #[.val (.int p0), .val (.int p1), .val (.int p2), .val (.int p3), .val (.int p4), .unset, .unset, .unset, .unset, .unset, .unset, .unset, .unset, .unset, .unset, .unset, .unset, .unset] [(.int ((p3 &&& (7 : Int32)) + (1 : Int32)))])) t
    refine XS.istore X0.here hx rfl (hb hby at_6) rfl (l' := #[.val (.int p0), .val (.int p1), .val (.int p2), .val (.int p3), .val (.int p4), .val (.int ((p3 &&& (7 : Int32)) + (1 : Int32))), .unset, .unset, .unset, .unset, .unset, .unset, .unset, .unset, .unset, .unset, .unset, .unset]) rfl ?_
    show Steps p.tables e below (s₁.setTop (mkF m 8 #[.val (.int p0), .val (.int p1), .val (.int p2), .val (.int p3), .val (.int p4), .val (.int ((p3 &&& (7 : Int32)) + (1 : Int32))), .unset, .unset, .unset, .unset, .unset, .unset, .unset, .unset, .unset, .unset, .unset, .unset] [])) t
    refine XS.iloadN X0.here hx rfl (hb hby at_8) rfl ?_
    show Steps p.tables e below (s₁.setTop (mkF m 9 #[.val (.int p0), .val (.int p1), .val (.int p2), .val (.int p3), .val (.int p4), .val (.int ((p3 &&& (7 : Int32)) + (1 : Int32))), .unset, .unset, .unset, .unset, .unset, .unset, .unset, .unset, .unset, .unset, .unset, .unset] [(.int p3)])) t
    refine XS.iconst X0.here hx rfl (hb hby at_9) ?_
    show Steps p.tables e below (s₁.setTop (mkF m 10 #[.val (.int p0), .val (.int p1), .val (.int p2), .val (.int p3), .val (.int p4), .val (.int ((p3 &&& (7 : Int32)) + (1 : Int32))), .unset, .unset, .unset, .unset, .unset, .unset, .unset, .unset, .unset, .unset, .unset, .unset] [(.int (3 : Int32)), (.int p3)])) t
    refine XS.iushr X0.here hx rfl (hb hby at_10) rfl ?_
    show Steps p.tables e below (s₁.setTop (mkF m 11 #[.val (.int p0), .val (.int p1), .val (.int p2), .val (.int p3), .val (.int p4), .val (.int ((p3 &&& (7 : Int32)) + (1 : Int32))), .unset, .unset, .unset, .unset, .unset, .unset, .unset, .unset, .unset, .unset, .unset, .unset] [(.int ((p3.toUInt32 >>> ((3 : Int32) &&& 31).toUInt32).toInt32))])) t
    refine XS.iconst X0.here hx rfl (hb hby at_11) ?_
    show Steps p.tables e below (s₁.setTop (mkF m 12 #[.val (.int p0), .val (.int p1), .val (.int p2), .val (.int p3), .val (.int p4), .val (.int ((p3 &&& (7 : Int32)) + (1 : Int32))), .unset, .unset, .unset, .unset, .unset, .unset, .unset, .unset, .unset, .unset, .unset, .unset] [(.int (3 : Int32)), (.int ((p3.toUInt32 >>> ((3 : Int32) &&& 31).toUInt32).toInt32))])) t
    refine XS.iand X0.here hx rfl (hb hby at_12) rfl ?_
    show Steps p.tables e below (s₁.setTop (mkF m 13 #[.val (.int p0), .val (.int p1), .val (.int p2), .val (.int p3), .val (.int p4), .val (.int ((p3 &&& (7 : Int32)) + (1 : Int32))), .unset, .unset, .unset, .unset, .unset, .unset, .unset, .unset, .unset, .unset, .unset, .unset] [(.int (((p3.toUInt32 >>> ((3 : Int32) &&& 31).toUInt32).toInt32) &&& (3 : Int32)))])) t
    refine XS.istore X0.here hx rfl (hb hby at_13) rfl (l' := #[.val (.int p0), .val (.int p1), .val (.int p2), .val (.int p3), .val (.int p4), .val (.int ((p3 &&& (7 : Int32)) + (1 : Int32))), .val (.int (((p3.toUInt32 >>> ((3 : Int32) &&& 31).toUInt32).toInt32) &&& (3 : Int32))), .unset, .unset, .unset, .unset, .unset, .unset, .unset, .unset, .unset, .unset, .unset]) rfl ?_
    show Steps p.tables e below (s₁.setTop (mkF m 15 #[.val (.int p0), .val (.int p1), .val (.int p2), .val (.int p3), .val (.int p4), .val (.int ((p3 &&& (7 : Int32)) + (1 : Int32))), .val (.int (((p3.toUInt32 >>> ((3 : Int32) &&& 31).toUInt32).toInt32) &&& (3 : Int32))), .unset, .unset, .unset, .unset, .unset, .unset, .unset, .unset, .unset, .unset, .unset] [])) t
    refine XS.iload X0.here hx rfl (hb hby at_15) rfl ?_
    show Steps p.tables e below (s₁.setTop (mkF m 17 #[.val (.int p0), .val (.int p1), .val (.int p2), .val (.int p3), .val (.int p4), .val (.int ((p3 &&& (7 : Int32)) + (1 : Int32))), .val (.int (((p3.toUInt32 >>> ((3 : Int32) &&& 31).toUInt32).toInt32) &&& (3 : Int32))), .unset, .unset, .unset, .unset, .unset, .unset, .unset, .unset, .unset, .unset, .unset] [(.int ((p3 &&& (7 : Int32)) + (1 : Int32)))])) t
    refine XS.i2dS X0.here hx rfl (hb hby at_17) rfl rfl ?_
    show Steps p.tables e below (s₁.setTop (mkF m 18 #[.val (.int p0), .val (.int p1), .val (.int p2), .val (.int p3), .val (.int p4), .val (.int ((p3 &&& (7 : Int32)) + (1 : Int32))), .val (.int (((p3.toUInt32 >>> ((3 : Int32) &&& 31).toUInt32).toInt32) &&& (3 : Int32))), .unset, .unset, .unset, .unset, .unset, .unset, .unset, .unset, .unset, .unset, .unset] [(.double (FP.i2d ((p3 &&& (7 : Int32)) + (1 : Int32))))])) t
    refine XS.iconst X0.here hx rfl (hb hby at_18) ?_
    show Steps p.tables e below (s₁.setTop (mkF m 19 #[.val (.int p0), .val (.int p1), .val (.int p2), .val (.int p3), .val (.int p4), .val (.int ((p3 &&& (7 : Int32)) + (1 : Int32))), .val (.int (((p3.toUInt32 >>> ((3 : Int32) &&& 31).toUInt32).toInt32) &&& (3 : Int32))), .unset, .unset, .unset, .unset, .unset, .unset, .unset, .unset, .unset, .unset, .unset] [(.int (1 : Int32)), (.double (FP.i2d ((p3 &&& (7 : Int32)) + (1 : Int32))))])) t
    refine XS.iload X0.here hx rfl (hb hby at_19) rfl ?_
    show Steps p.tables e below (s₁.setTop (mkF m 21 #[.val (.int p0), .val (.int p1), .val (.int p2), .val (.int p3), .val (.int p4), .val (.int ((p3 &&& (7 : Int32)) + (1 : Int32))), .val (.int (((p3.toUInt32 >>> ((3 : Int32) &&& 31).toUInt32).toInt32) &&& (3 : Int32))), .unset, .unset, .unset, .unset, .unset, .unset, .unset, .unset, .unset, .unset, .unset] [(.int (((p3.toUInt32 >>> ((3 : Int32) &&& 31).toUInt32).toInt32) &&& (3 : Int32))), (.int (1 : Int32)), (.double (FP.i2d ((p3 &&& (7 : Int32)) + (1 : Int32))))])) t
    refine XS.ishl X0.here hx rfl (hb hby at_21) rfl ?_
    show Steps p.tables e below (s₁.setTop (mkF m 22 #[.val (.int p0), .val (.int p1), .val (.int p2), .val (.int p3), .val (.int p4), .val (.int ((p3 &&& (7 : Int32)) + (1 : Int32))), .val (.int (((p3.toUInt32 >>> ((3 : Int32) &&& 31).toUInt32).toInt32) &&& (3 : Int32))), .unset, .unset, .unset, .unset, .unset, .unset, .unset, .unset, .unset, .unset, .unset] [(.int ((1 : Int32) <<< ((((p3.toUInt32 >>> ((3 : Int32) &&& 31).toUInt32).toInt32) &&& (3 : Int32)) &&& 31))), (.double (FP.i2d ((p3 &&& (7 : Int32)) + (1 : Int32))))])) t
    refine XS.i2dS X0.here hx rfl (hb hby at_22) rfl rfl ?_
    show Steps p.tables e below (s₁.setTop (mkF m 23 #[.val (.int p0), .val (.int p1), .val (.int p2), .val (.int p3), .val (.int p4), .val (.int ((p3 &&& (7 : Int32)) + (1 : Int32))), .val (.int (((p3.toUInt32 >>> ((3 : Int32) &&& 31).toUInt32).toInt32) &&& (3 : Int32))), .unset, .unset, .unset, .unset, .unset, .unset, .unset, .unset, .unset, .unset, .unset] [(.double (FP.i2d ((1 : Int32) <<< ((((p3.toUInt32 >>> ((3 : Int32) &&& 31).toUInt32).toInt32) &&& (3 : Int32)) &&& 31)))), (.double (FP.i2d ((p3 &&& (7 : Int32)) + (1 : Int32))))])) t
    refine XS.ddivS X0.here hx rfl (hb hby at_23) rfl hn23 rfl ?_
    show Steps p.tables e below (s₁.setTop (mkF m 24 #[.val (.int p0), .val (.int p1), .val (.int p2), .val (.int p3), .val (.int p4), .val (.int ((p3 &&& (7 : Int32)) + (1 : Int32))), .val (.int (((p3.toUInt32 >>> ((3 : Int32) &&& 31).toUInt32).toInt32) &&& (3 : Int32))), .unset, .unset, .unset, .unset, .unset, .unset, .unset, .unset, .unset, .unset, .unset] [(.double (FP.ddiv (FP.i2d ((p3 &&& (7 : Int32)) + (1 : Int32))) (FP.i2d ((1 : Int32) <<< ((((p3.toUInt32 >>> ((3 : Int32) &&& 31).toUInt32).toInt32) &&& (3 : Int32)) &&& 31)))))])) t
    refine XS.dstore X0.here hx rfl (hb hby at_24) rfl (l' := #[.val (.int p0), .val (.int p1), .val (.int p2), .val (.int p3), .val (.int p4), .val (.int ((p3 &&& (7 : Int32)) + (1 : Int32))), .val (.int (((p3.toUInt32 >>> ((3 : Int32) &&& 31).toUInt32).toInt32) &&& (3 : Int32))), .val (.double (FP.ddiv (FP.i2d ((p3 &&& (7 : Int32)) + (1 : Int32))) (FP.i2d ((1 : Int32) <<< ((((p3.toUInt32 >>> ((3 : Int32) &&& 31).toUInt32).toInt32) &&& (3 : Int32)) &&& 31))))), .second, .unset, .unset, .unset, .unset, .unset, .unset, .unset, .unset, .unset]) rfl ?_
    show Steps p.tables e below (s₁.setTop (mkF m 26 #[.val (.int p0), .val (.int p1), .val (.int p2), .val (.int p3), .val (.int p4), .val (.int ((p3 &&& (7 : Int32)) + (1 : Int32))), .val (.int (((p3.toUInt32 >>> ((3 : Int32) &&& 31).toUInt32).toInt32) &&& (3 : Int32))), .val (.double (FP.ddiv (FP.i2d ((p3 &&& (7 : Int32)) + (1 : Int32))) (FP.i2d ((1 : Int32) <<< ((((p3.toUInt32 >>> ((3 : Int32) &&& 31).toUInt32).toInt32) &&& (3 : Int32)) &&& 31))))), .second, .unset, .unset, .unset, .unset, .unset, .unset, .unset, .unset, .unset] [])) t
    refine XS.iload X0.here hx rfl (hb hby at_26) rfl ?_
    show Steps p.tables e below (s₁.setTop (mkF m 28 #[.val (.int p0), .val (.int p1), .val (.int p2), .val (.int p3), .val (.int p4), .val (.int ((p3 &&& (7 : Int32)) + (1 : Int32))), .val (.int (((p3.toUInt32 >>> ((3 : Int32) &&& 31).toUInt32).toInt32) &&& (3 : Int32))), .val (.double (FP.ddiv (FP.i2d ((p3 &&& (7 : Int32)) + (1 : Int32))) (FP.i2d ((1 : Int32) <<< ((((p3.toUInt32 >>> ((3 : Int32) &&& 31).toUInt32).toInt32) &&& (3 : Int32)) &&& 31))))), .second, .unset, .unset, .unset, .unset, .unset, .unset, .unset, .unset, .unset] [(.int p4)])) t
    refine XS.sipush X0.here hx rfl (hb hby at_28) ?_
    show Steps p.tables e below (s₁.setTop (mkF m 31 #[.val (.int p0), .val (.int p1), .val (.int p2), .val (.int p3), .val (.int p4), .val (.int ((p3 &&& (7 : Int32)) + (1 : Int32))), .val (.int (((p3.toUInt32 >>> ((3 : Int32) &&& 31).toUInt32).toInt32) &&& (3 : Int32))), .val (.double (FP.ddiv (FP.i2d ((p3 &&& (7 : Int32)) + (1 : Int32))) (FP.i2d ((1 : Int32) <<< ((((p3.toUInt32 >>> ((3 : Int32) &&& 31).toUInt32).toInt32) &&& (3 : Int32)) &&& 31))))), .second, .unset, .unset, .unset, .unset, .unset, .unset, .unset, .unset, .unset] [(.int (255 : Int32)), (.int p4)])) t
    refine XS.iand X0.here hx rfl (hb hby at_31) rfl ?_
    show Steps p.tables e below (s₁.setTop (mkF m 32 #[.val (.int p0), .val (.int p1), .val (.int p2), .val (.int p3), .val (.int p4), .val (.int ((p3 &&& (7 : Int32)) + (1 : Int32))), .val (.int (((p3.toUInt32 >>> ((3 : Int32) &&& 31).toUInt32).toInt32) &&& (3 : Int32))), .val (.double (FP.ddiv (FP.i2d ((p3 &&& (7 : Int32)) + (1 : Int32))) (FP.i2d ((1 : Int32) <<< ((((p3.toUInt32 >>> ((3 : Int32) &&& 31).toUInt32).toInt32) &&& (3 : Int32)) &&& 31))))), .second, .unset, .unset, .unset, .unset, .unset, .unset, .unset, .unset, .unset] [(.int (p4 &&& (255 : Int32)))])) t
    refine XS.iconst X0.here hx rfl (hb hby at_32) ?_
    show Steps p.tables e below (s₁.setTop (mkF m 33 #[.val (.int p0), .val (.int p1), .val (.int p2), .val (.int p3), .val (.int p4), .val (.int ((p3 &&& (7 : Int32)) + (1 : Int32))), .val (.int (((p3.toUInt32 >>> ((3 : Int32) &&& 31).toUInt32).toInt32) &&& (3 : Int32))), .val (.double (FP.ddiv (FP.i2d ((p3 &&& (7 : Int32)) + (1 : Int32))) (FP.i2d ((1 : Int32) <<< ((((p3.toUInt32 >>> ((3 : Int32) &&& 31).toUInt32).toInt32) &&& (3 : Int32)) &&& 31))))), .second, .unset, .unset, .unset, .unset, .unset, .unset, .unset, .unset, .unset] [(.int (1 : Int32)), (.int (p4 &&& (255 : Int32)))])) t
    refine XS.iadd X0.here hx rfl (hb hby at_33) rfl ?_
    show Steps p.tables e below (s₁.setTop (mkF m 34 #[.val (.int p0), .val (.int p1), .val (.int p2), .val (.int p3), .val (.int p4), .val (.int ((p3 &&& (7 : Int32)) + (1 : Int32))), .val (.int (((p3.toUInt32 >>> ((3 : Int32) &&& 31).toUInt32).toInt32) &&& (3 : Int32))), .val (.double (FP.ddiv (FP.i2d ((p3 &&& (7 : Int32)) + (1 : Int32))) (FP.i2d ((1 : Int32) <<< ((((p3.toUInt32 >>> ((3 : Int32) &&& 31).toUInt32).toInt32) &&& (3 : Int32)) &&& 31))))), .second, .unset, .unset, .unset, .unset, .unset, .unset, .unset, .unset, .unset] [(.int ((p4 &&& (255 : Int32)) + (1 : Int32)))])) t
    refine XS.istore X0.here hx rfl (hb hby at_34) rfl (l' := #[.val (.int p0), .val (.int p1), .val (.int p2), .val (.int p3), .val (.int p4), .val (.int ((p3 &&& (7 : Int32)) + (1 : Int32))), .val (.int (((p3.toUInt32 >>> ((3 : Int32) &&& 31).toUInt32).toInt32) &&& (3 : Int32))), .val (.double (FP.ddiv (FP.i2d ((p3 &&& (7 : Int32)) + (1 : Int32))) (FP.i2d ((1 : Int32) <<< ((((p3.toUInt32 >>> ((3 : Int32) &&& 31).toUInt32).toInt32) &&& (3 : Int32)) &&& 31))))), .second, .val (.int ((p4 &&& (255 : Int32)) + (1 : Int32))), .unset, .unset, .unset, .unset, .unset, .unset, .unset, .unset]) rfl ?_
    show Steps p.tables e below (s₁.setTop (mkF m 36 #[.val (.int p0), .val (.int p1), .val (.int p2), .val (.int p3), .val (.int p4), .val (.int ((p3 &&& (7 : Int32)) + (1 : Int32))), .val (.int (((p3.toUInt32 >>> ((3 : Int32) &&& 31).toUInt32).toInt32) &&& (3 : Int32))), .val (.double (FP.ddiv (FP.i2d ((p3 &&& (7 : Int32)) + (1 : Int32))) (FP.i2d ((1 : Int32) <<< ((((p3.toUInt32 >>> ((3 : Int32) &&& 31).toUInt32).toInt32) &&& (3 : Int32)) &&& 31))))), .second, .val (.int ((p4 &&& (255 : Int32)) + (1 : Int32))), .unset, .unset, .unset, .unset, .unset, .unset, .unset, .unset] [])) t
    refine XS.iload X0.here hx rfl (hb hby at_36) rfl ?_
    show Steps p.tables e below (s₁.setTop (mkF m 38 #[.val (.int p0), .val (.int p1), .val (.int p2), .val (.int p3), .val (.int p4), .val (.int ((p3 &&& (7 : Int32)) + (1 : Int32))), .val (.int (((p3.toUInt32 >>> ((3 : Int32) &&& 31).toUInt32).toInt32) &&& (3 : Int32))), .val (.double (FP.ddiv (FP.i2d ((p3 &&& (7 : Int32)) + (1 : Int32))) (FP.i2d ((1 : Int32) <<< ((((p3.toUInt32 >>> ((3 : Int32) &&& 31).toUInt32).toInt32) &&& (3 : Int32)) &&& 31))))), .second, .val (.int ((p4 &&& (255 : Int32)) + (1 : Int32))), .unset, .unset, .unset, .unset, .unset, .unset, .unset, .unset] [(.int p4)])) t
    refine XS.bipush X0.here hx rfl (hb hby at_38) ?_
    show Steps p.tables e below (s₁.setTop (mkF m 40 #[.val (.int p0), .val (.int p1), .val (.int p2), .val (.int p3), .val (.int p4), .val (.int ((p3 &&& (7 : Int32)) + (1 : Int32))), .val (.int (((p3.toUInt32 >>> ((3 : Int32) &&& 31).toUInt32).toInt32) &&& (3 : Int32))), .val (.double (FP.ddiv (FP.i2d ((p3 &&& (7 : Int32)) + (1 : Int32))) (FP.i2d ((1 : Int32) <<< ((((p3.toUInt32 >>> ((3 : Int32) &&& 31).toUInt32).toInt32) &&& (3 : Int32)) &&& 31))))), .second, .val (.int ((p4 &&& (255 : Int32)) + (1 : Int32))), .unset, .unset, .unset, .unset, .unset, .unset, .unset, .unset] [(.int (8 : Int32)), (.int p4)])) t
    refine XS.iushr X0.here hx rfl (hb hby at_40) rfl ?_
    show Steps p.tables e below (s₁.setTop (mkF m 41 #[.val (.int p0), .val (.int p1), .val (.int p2), .val (.int p3), .val (.int p4), .val (.int ((p3 &&& (7 : Int32)) + (1 : Int32))), .val (.int (((p3.toUInt32 >>> ((3 : Int32) &&& 31).toUInt32).toInt32) &&& (3 : Int32))), .val (.double (FP.ddiv (FP.i2d ((p3 &&& (7 : Int32)) + (1 : Int32))) (FP.i2d ((1 : Int32) <<< ((((p3.toUInt32 >>> ((3 : Int32) &&& 31).toUInt32).toInt32) &&& (3 : Int32)) &&& 31))))), .second, .val (.int ((p4 &&& (255 : Int32)) + (1 : Int32))), .unset, .unset, .unset, .unset, .unset, .unset, .unset, .unset] [(.int ((p4.toUInt32 >>> ((8 : Int32) &&& 31).toUInt32).toInt32))])) t
    refine XS.sipush X0.here hx rfl (hb hby at_41) ?_
    show Steps p.tables e below (s₁.setTop (mkF m 44 #[.val (.int p0), .val (.int p1), .val (.int p2), .val (.int p3), .val (.int p4), .val (.int ((p3 &&& (7 : Int32)) + (1 : Int32))), .val (.int (((p3.toUInt32 >>> ((3 : Int32) &&& 31).toUInt32).toInt32) &&& (3 : Int32))), .val (.double (FP.ddiv (FP.i2d ((p3 &&& (7 : Int32)) + (1 : Int32))) (FP.i2d ((1 : Int32) <<< ((((p3.toUInt32 >>> ((3 : Int32) &&& 31).toUInt32).toInt32) &&& (3 : Int32)) &&& 31))))), .second, .val (.int ((p4 &&& (255 : Int32)) + (1 : Int32))), .unset, .unset, .unset, .unset, .unset, .unset, .unset, .unset] [(.int (255 : Int32)), (.int ((p4.toUInt32 >>> ((8 : Int32) &&& 31).toUInt32).toInt32))])) t
    refine XS.iand X0.here hx rfl (hb hby at_44) rfl ?_
    show Steps p.tables e below (s₁.setTop (mkF m 45 #[.val (.int p0), .val (.int p1), .val (.int p2), .val (.int p3), .val (.int p4), .val (.int ((p3 &&& (7 : Int32)) + (1 : Int32))), .val (.int (((p3.toUInt32 >>> ((3 : Int32) &&& 31).toUInt32).toInt32) &&& (3 : Int32))), .val (.double (FP.ddiv (FP.i2d ((p3 &&& (7 : Int32)) + (1 : Int32))) (FP.i2d ((1 : Int32) <<< ((((p3.toUInt32 >>> ((3 : Int32) &&& 31).toUInt32).toInt32) &&& (3 : Int32)) &&& 31))))), .second, .val (.int ((p4 &&& (255 : Int32)) + (1 : Int32))), .unset, .unset, .unset, .unset, .unset, .unset, .unset, .unset] [(.int (((p4.toUInt32 >>> ((8 : Int32) &&& 31).toUInt32).toInt32) &&& (255 : Int32)))])) t
    refine XS.iconst X0.here hx rfl (hb hby at_45) ?_
    show Steps p.tables e below (s₁.setTop (mkF m 46 #[.val (.int p0), .val (.int p1), .val (.int p2), .val (.int p3), .val (.int p4), .val (.int ((p3 &&& (7 : Int32)) + (1 : Int32))), .val (.int (((p3.toUInt32 >>> ((3 : Int32) &&& 31).toUInt32).toInt32) &&& (3 : Int32))), .val (.double (FP.ddiv (FP.i2d ((p3 &&& (7 : Int32)) + (1 : Int32))) (FP.i2d ((1 : Int32) <<< ((((p3.toUInt32 >>> ((3 : Int32) &&& 31).toUInt32).toInt32) &&& (3 : Int32)) &&& 31))))), .second, .val (.int ((p4 &&& (255 : Int32)) + (1 : Int32))), .unset, .unset, .unset, .unset, .unset, .unset, .unset, .unset] [(.int (1 : Int32)), (.int (((p4.toUInt32 >>> ((8 : Int32) &&& 31).toUInt32).toInt32) &&& (255 : Int32)))])) t
    refine XS.iadd X0.here hx rfl (hb hby at_46) rfl ?_
    show Steps p.tables e below (s₁.setTop (mkF m 47 #[.val (.int p0), .val (.int p1), .val (.int p2), .val (.int p3), .val (.int p4), .val (.int ((p3 &&& (7 : Int32)) + (1 : Int32))), .val (.int (((p3.toUInt32 >>> ((3 : Int32) &&& 31).toUInt32).toInt32) &&& (3 : Int32))), .val (.double (FP.ddiv (FP.i2d ((p3 &&& (7 : Int32)) + (1 : Int32))) (FP.i2d ((1 : Int32) <<< ((((p3.toUInt32 >>> ((3 : Int32) &&& 31).toUInt32).toInt32) &&& (3 : Int32)) &&& 31))))), .second, .val (.int ((p4 &&& (255 : Int32)) + (1 : Int32))), .unset, .unset, .unset, .unset, .unset, .unset, .unset, .unset] [(.int ((((p4.toUInt32 >>> ((8 : Int32) &&& 31).toUInt32).toInt32) &&& (255 : Int32)) + (1 : Int32)))])) t
    refine XS.istore X0.here hx rfl (hb hby at_47) rfl (l' := #[.val (.int p0), .val (.int p1), .val (.int p2), .val (.int p3), .val (.int p4), .val (.int ((p3 &&& (7 : Int32)) + (1 : Int32))), .val (.int (((p3.toUInt32 >>> ((3 : Int32) &&& 31).toUInt32).toInt32) &&& (3 : Int32))), .val (.double (FP.ddiv (FP.i2d ((p3 &&& (7 : Int32)) + (1 : Int32))) (FP.i2d ((1 : Int32) <<< ((((p3.toUInt32 >>> ((3 : Int32) &&& 31).toUInt32).toInt32) &&& (3 : Int32)) &&& 31))))), .second, .val (.int ((p4 &&& (255 : Int32)) + (1 : Int32))), .val (.int ((((p4.toUInt32 >>> ((8 : Int32) &&& 31).toUInt32).toInt32) &&& (255 : Int32)) + (1 : Int32))), .unset, .unset, .unset, .unset, .unset, .unset, .unset]) rfl ?_
    exact k
  obtain ⟨T1, h1, X1, e1, E1, A1, D1, -, st1⟩ := newO X0 hx hZ hown (hw _ (List.mem_of_getElem? (i := 0) rfl)) (hw _ (List.mem_of_getElem? (i := 1) rfl)) (hw _ (List.mem_of_getElem? (i := 2) rfl)) e0 (g := (mkF m 49 #[.val (.int p0), .val (.int p1), .val (.int p2), .val (.int p3), .val (.int p4), .val (.int ((p3 &&& (7 : Int32)) + (1 : Int32))), .val (.int (((p3.toUInt32 >>> ((3 : Int32) &&& 31).toUInt32).toInt32) &&& (3 : Int32))), .val (.double (FP.ddiv (FP.i2d ((p3 &&& (7 : Int32)) + (1 : Int32))) (FP.i2d ((1 : Int32) <<< ((((p3.toUInt32 >>> ((3 : Int32) &&& 31).toUInt32).toInt32) &&& (3 : Int32)) &&& 31))))), .second, .val (.int ((p4 &&& (255 : Int32)) + (1 : Int32))), .val (.int ((((p4.toUInt32 >>> ((8 : Int32) &&& 31).toUInt32).toInt32) &&& (255 : Int32)) + (1 : Int32))), .unset, .unset, .unset, .unset, .unset, .unset, .unset] [])) rfl (hb hby at_49) (by decide) (by decide)
  obtain ⟨b1, g1⟩ : ∃ z, z = h0.size := ⟨_, rfl⟩
  rw [← g1] at A1 D1 st1
  have g_b1 : n0 ≤ b1 := Nat.le_trans Z0 (Nat.le_of_eq g1.symm)
  have sz_b1 : h0.size ≤ b1 := Nat.le_trans K0.1 (Nat.le_of_eq g1.symm)
  have z2 := Nat.le_trans Z0 E1.1
  have k3 := K0.ext E1
  have f4 : Fld Z h1 b1 "com/example/weirbench/weirbench/grid/GridGeometry" "originColumn" "I" (.int (0 : Int32)) := D1 (Or.inr (hw _ (List.mem_of_getElem? (i := 24) rfl))) (ty := .int) (by decide)
  have f5 : Fld Z h1 b1 "com/example/weirbench/weirbench/grid/GridGeometry" "originRow" "I" (.int (0 : Int32)) := D1 (Or.inr (hw _ (List.mem_of_getElem? (i := 26) rfl))) (ty := .int) (by decide)
  have f6 : Fld Z h1 b1 "com/example/weirbench/weirbench/grid/GridGeometry" "cellSize" "D" (.double (0 : UInt64)) := D1 (Or.inr (hw _ (List.mem_of_getElem? (i := 28) rfl))) (ty := .double) (by decide)
  have f7 : Fld Z h1 b1 "com/example/weirbench/weirbench/grid/GridGeometry" "rows" "I" (.int (0 : Int32)) := D1 (Or.inr (hw _ (List.mem_of_getElem? (i := 30) rfl))) (ty := .int) (by decide)
  have f8 : Fld Z h1 b1 "com/example/weirbench/weirbench/grid/GridGeometry" "columns" "I" (.int (0 : Int32)) := D1 (Or.inr (hw _ (List.mem_of_getElem? (i := 32) rfl))) (ty := .int) (by decide)
  refine own_st (T' := T1) (g' := (mkF m 52 #[.val (.int p0), .val (.int p1), .val (.int p2), .val (.int p3), .val (.int p4), .val (.int ((p3 &&& (7 : Int32)) + (1 : Int32))), .val (.int (((p3.toUInt32 >>> ((3 : Int32) &&& 31).toUInt32).toInt32) &&& (3 : Int32))), .val (.double (FP.ddiv (FP.i2d ((p3 &&& (7 : Int32)) + (1 : Int32))) (FP.i2d ((1 : Int32) <<< ((((p3.toUInt32 >>> ((3 : Int32) &&& 31).toUInt32).toInt32) &&& (3 : Int32)) &&& 31))))), .second, .val (.int ((p4 &&& (255 : Int32)) + (1 : Int32))), .val (.int ((((p4.toUInt32 >>> ((8 : Int32) &&& 31).toUInt32).toInt32) &&& (255 : Int32)) + (1 : Int32))), .unset, .unset, .unset, .unset, .unset, .unset, .unset] [(.ref b1)])) st1 ?_
  refine own_st (T' := T1) (g' := (mkF m 61 #[.val (.int p0), .val (.int p1), .val (.int p2), .val (.int p3), .val (.int p4), .val (.int ((p3 &&& (7 : Int32)) + (1 : Int32))), .val (.int (((p3.toUInt32 >>> ((3 : Int32) &&& 31).toUInt32).toInt32) &&& (3 : Int32))), .val (.double (FP.ddiv (FP.i2d ((p3 &&& (7 : Int32)) + (1 : Int32))) (FP.i2d ((1 : Int32) <<< ((((p3.toUInt32 >>> ((3 : Int32) &&& 31).toUInt32).toInt32) &&& (3 : Int32)) &&& 31))))), .second, .val (.int ((p4 &&& (255 : Int32)) + (1 : Int32))), .val (.int ((((p4.toUInt32 >>> ((8 : Int32) &&& 31).toUInt32).toInt32) &&& (255 : Int32)) + (1 : Int32))), .unset, .unset, .unset, .unset, .unset, .unset, .unset] [(.int ((((p4.toUInt32 >>> ((8 : Int32) &&& 31).toUInt32).toInt32) &&& (255 : Int32)) + (1 : Int32))), (.int ((p4 &&& (255 : Int32)) + (1 : Int32))), (.double (FP.ddiv (FP.i2d ((p3 &&& (7 : Int32)) + (1 : Int32))) (FP.i2d ((1 : Int32) <<< ((((p3.toUInt32 >>> ((3 : Int32) &&& 31).toUInt32).toInt32) &&& (3 : Int32)) &&& 31))))), (.int p1), (.int p0), (.ref b1), (.ref b1)])) (fun t k => ?_) ?_
  · show Steps p.tables e below (T1.setTop (mkF m 52 #[.val (.int p0), .val (.int p1), .val (.int p2), .val (.int p3), .val (.int p4), .val (.int ((p3 &&& (7 : Int32)) + (1 : Int32))), .val (.int (((p3.toUInt32 >>> ((3 : Int32) &&& 31).toUInt32).toInt32) &&& (3 : Int32))), .val (.double (FP.ddiv (FP.i2d ((p3 &&& (7 : Int32)) + (1 : Int32))) (FP.i2d ((1 : Int32) <<< ((((p3.toUInt32 >>> ((3 : Int32) &&& 31).toUInt32).toInt32) &&& (3 : Int32)) &&& 31))))), .second, .val (.int ((p4 &&& (255 : Int32)) + (1 : Int32))), .val (.int ((((p4.toUInt32 >>> ((8 : Int32) &&& 31).toUInt32).toInt32) &&& (255 : Int32)) + (1 : Int32))), .unset, .unset, .unset, .unset, .unset, .unset, .unset] [(.ref b1)])) t
    refine XS.dup X1.here hx rfl (hb hby at_52) rfl rfl ?_
    show Steps p.tables e below (T1.setTop (mkF m 53 #[.val (.int p0), .val (.int p1), .val (.int p2), .val (.int p3), .val (.int p4), .val (.int ((p3 &&& (7 : Int32)) + (1 : Int32))), .val (.int (((p3.toUInt32 >>> ((3 : Int32) &&& 31).toUInt32).toInt32) &&& (3 : Int32))), .val (.double (FP.ddiv (FP.i2d ((p3 &&& (7 : Int32)) + (1 : Int32))) (FP.i2d ((1 : Int32) <<< ((((p3.toUInt32 >>> ((3 : Int32) &&& 31).toUInt32).toInt32) &&& (3 : Int32)) &&& 31))))), .second, .val (.int ((p4 &&& (255 : Int32)) + (1 : Int32))), .val (.int ((((p4.toUInt32 >>> ((8 : Int32) &&& 31).toUInt32).toInt32) &&& (255 : Int32)) + (1 : Int32))), .unset, .unset, .unset, .unset, .unset, .unset, .unset] [(.ref b1), (.ref b1)])) t
    refine XS.iloadN X1.here hx rfl (hb hby at_53) rfl ?_
    show Steps p.tables e below (T1.setTop (mkF m 54 #[.val (.int p0), .val (.int p1), .val (.int p2), .val (.int p3), .val (.int p4), .val (.int ((p3 &&& (7 : Int32)) + (1 : Int32))), .val (.int (((p3.toUInt32 >>> ((3 : Int32) &&& 31).toUInt32).toInt32) &&& (3 : Int32))), .val (.double (FP.ddiv (FP.i2d ((p3 &&& (7 : Int32)) + (1 : Int32))) (FP.i2d ((1 : Int32) <<< ((((p3.toUInt32 >>> ((3 : Int32) &&& 31).toUInt32).toInt32) &&& (3 : Int32)) &&& 31))))), .second, .val (.int ((p4 &&& (255 : Int32)) + (1 : Int32))), .val (.int ((((p4.toUInt32 >>> ((8 : Int32) &&& 31).toUInt32).toInt32) &&& (255 : Int32)) + (1 : Int32))), .unset, .unset, .unset, .unset, .unset, .unset, .unset] [(.int p0), (.ref b1), (.ref b1)])) t
    refine XS.iloadN X1.here hx rfl (hb hby at_54) rfl ?_
    show Steps p.tables e below (T1.setTop (mkF m 55 #[.val (.int p0), .val (.int p1), .val (.int p2), .val (.int p3), .val (.int p4), .val (.int ((p3 &&& (7 : Int32)) + (1 : Int32))), .val (.int (((p3.toUInt32 >>> ((3 : Int32) &&& 31).toUInt32).toInt32) &&& (3 : Int32))), .val (.double (FP.ddiv (FP.i2d ((p3 &&& (7 : Int32)) + (1 : Int32))) (FP.i2d ((1 : Int32) <<< ((((p3.toUInt32 >>> ((3 : Int32) &&& 31).toUInt32).toInt32) &&& (3 : Int32)) &&& 31))))), .second, .val (.int ((p4 &&& (255 : Int32)) + (1 : Int32))), .val (.int ((((p4.toUInt32 >>> ((8 : Int32) &&& 31).toUInt32).toInt32) &&& (255 : Int32)) + (1 : Int32))), .unset, .unset, .unset, .unset, .unset, .unset, .unset] [(.int p1), (.int p0), (.ref b1), (.ref b1)])) t
    refine XS.dload X1.here hx rfl (hb hby at_55) rfl ?_
    show Steps p.tables e below (T1.setTop (mkF m 57 #[.val (.int p0), .val (.int p1), .val (.int p2), .val (.int p3), .val (.int p4), .val (.int ((p3 &&& (7 : Int32)) + (1 : Int32))), .val (.int (((p3.toUInt32 >>> ((3 : Int32) &&& 31).toUInt32).toInt32) &&& (3 : Int32))), .val (.double (FP.ddiv (FP.i2d ((p3 &&& (7 : Int32)) + (1 : Int32))) (FP.i2d ((1 : Int32) <<< ((((p3.toUInt32 >>> ((3 : Int32) &&& 31).toUInt32).toInt32) &&& (3 : Int32)) &&& 31))))), .second, .val (.int ((p4 &&& (255 : Int32)) + (1 : Int32))), .val (.int ((((p4.toUInt32 >>> ((8 : Int32) &&& 31).toUInt32).toInt32) &&& (255 : Int32)) + (1 : Int32))), .unset, .unset, .unset, .unset, .unset, .unset, .unset] [(.double (FP.ddiv (FP.i2d ((p3 &&& (7 : Int32)) + (1 : Int32))) (FP.i2d ((1 : Int32) <<< ((((p3.toUInt32 >>> ((3 : Int32) &&& 31).toUInt32).toInt32) &&& (3 : Int32)) &&& 31))))), (.int p1), (.int p0), (.ref b1), (.ref b1)])) t
    refine XS.iload X1.here hx rfl (hb hby at_57) rfl ?_
    show Steps p.tables e below (T1.setTop (mkF m 59 #[.val (.int p0), .val (.int p1), .val (.int p2), .val (.int p3), .val (.int p4), .val (.int ((p3 &&& (7 : Int32)) + (1 : Int32))), .val (.int (((p3.toUInt32 >>> ((3 : Int32) &&& 31).toUInt32).toInt32) &&& (3 : Int32))), .val (.double (FP.ddiv (FP.i2d ((p3 &&& (7 : Int32)) + (1 : Int32))) (FP.i2d ((1 : Int32) <<< ((((p3.toUInt32 >>> ((3 : Int32) &&& 31).toUInt32).toInt32) &&& (3 : Int32)) &&& 31))))), .second, .val (.int ((p4 &&& (255 : Int32)) + (1 : Int32))), .val (.int ((((p4.toUInt32 >>> ((8 : Int32) &&& 31).toUInt32).toInt32) &&& (255 : Int32)) + (1 : Int32))), .unset, .unset, .unset, .unset, .unset, .unset, .unset] [(.int ((p4 &&& (255 : Int32)) + (1 : Int32))), (.double (FP.ddiv (FP.i2d ((p3 &&& (7 : Int32)) + (1 : Int32))) (FP.i2d ((1 : Int32) <<< ((((p3.toUInt32 >>> ((3 : Int32) &&& 31).toUInt32).toInt32) &&& (3 : Int32)) &&& 31))))), (.int p1), (.int p0), (.ref b1), (.ref b1)])) t
    refine XS.iload X1.here hx rfl (hb hby at_59) rfl ?_
    exact k
  obtain ⟨_, _, ⟨T9, L9, k9, n9⟩, -, X9, ⟨Lc9, hQ9, l9, y9, z9⟩, st9⟩ := X1.specialBack hx (y := (⟨"com/example/weirbench/weirbench/grid/GridGeometry", "<init>", "(IIDII)V"⟩ : MethodName)) rfl hown (mvT hZ (hw _ (List.mem_of_getElem? (i := 3) rfl))) (mvT hZ (hw _ (List.mem_of_getElem? (i := 4) rfl))) (mvT hZ (hw _ (List.mem_of_getElem? (i := 5) rfl))) (by decide) (backOf (W := 1) (rm1 l Z ar hw [] b1 p0 p1 ((FP.ddiv (FP.i2d ((p3 &&& (7 : Int32)) + (1 : Int32))) (FP.i2d ((1 : Int32) <<< ((((p3.toUInt32 >>> ((3 : Int32) &&& 31).toUInt32).toInt32) &&& (3 : Int32)) &&& 31))))) (((p4 &&& (255 : Int32)) + (1 : Int32))) (((((p4.toUInt32 >>> ((8 : Int32) &&& 31).toUInt32).toInt32) &&& (255 : Int32)) + (1 : Int32))) ((.int (0 : Int32))) ((.int (0 : Int32))) ((.double (0 : UInt64))) ((.int (0 : Int32))) ((.int (0 : Int32))) h1 n0 z2 A1 f4 f5 f6 f7 f8 h61_hq_6 hn23 h61_h11_hb8 h61_hb34 h61_hb40 g_b1) hZ (hw _ (List.mem_of_getElem? (i := 5) rfl)) (hw _ (List.mem_of_getElem? (i := 2) rfl)) (by decide) (by decide)) (g := (mkF m 61 #[.val (.int p0), .val (.int p1), .val (.int p2), .val (.int p3), .val (.int p4), .val (.int ((p3 &&& (7 : Int32)) + (1 : Int32))), .val (.int (((p3.toUInt32 >>> ((3 : Int32) &&& 31).toUInt32).toInt32) &&& (3 : Int32))), .val (.double (FP.ddiv (FP.i2d ((p3 &&& (7 : Int32)) + (1 : Int32))) (FP.i2d ((1 : Int32) <<< ((((p3.toUInt32 >>> ((3 : Int32) &&& 31).toUInt32).toInt32) &&& (3 : Int32)) &&& 31))))), .second, .val (.int ((p4 &&& (255 : Int32)) + (1 : Int32))), .val (.int ((((p4.toUInt32 >>> ((8 : Int32) &&& 31).toUInt32).toInt32) &&& (255 : Int32)) + (1 : Int32))), .unset, .unset, .unset, .unset, .unset, .unset, .unset] [(.int ((((p4.toUInt32 >>> ((8 : Int32) &&& 31).toUInt32).toInt32) &&& (255 : Int32)) + (1 : Int32))), (.int ((p4 &&& (255 : Int32)) + (1 : Int32))), (.double (FP.ddiv (FP.i2d ((p3 &&& (7 : Int32)) + (1 : Int32))) (FP.i2d ((1 : Int32) <<< ((((p3.toUInt32 >>> ((3 : Int32) &&& 31).toUInt32).toInt32) &&& (3 : Int32)) &&& 31))))), (.int p1), (.int p0), (.ref b1), (.ref b1)])) rfl (by rw [hml]; rfl) (Steps.refl _) (a := b1) (argsL := [(.int p0), (.int p1), (.double (FP.ddiv (FP.i2d ((p3 &&& (7 : Int32)) + (1 : Int32))) (FP.i2d ((1 : Int32) <<< ((((p3.toUInt32 >>> ((3 : Int32) &&& 31).toUInt32).toInt32) &&& (3 : Int32)) &&& 31))))), (.int ((p4 &&& (255 : Int32)) + (1 : Int32))), (.int ((((p4.toUInt32 >>> ((8 : Int32) &&& 31).toUInt32).toInt32) &&& (255 : Int32)) + (1 : Int32)))]) (rest := [(.ref b1)]) (lenOf pd0_0 rfl) rfl (by show 2 * 0 + _ ≤ _; exact Nat.le_of_eq rfl) (hb hby at_61) (fun _ _ => ⟨rfl, e1, (by decide : 1 + 0 ≤ _), (by decide : 5 + 0 ≤ _)⟩)
  dsimp only [Pt.U, Pt.locs, Pt.cells, Pt.slots] at X9 l9 y9 z9 st9 hQ9
  subst l9 y9 z9
  obtain ⟨rfl, N9q, K9, f10, f11, f12, f13, f14, f15⟩ := hQ9
  have n16 := Fr.app N0 N9q
  have f17 := A1.keep K9
  have z18 := Nat.le_trans z2 K9.1
  have k19 := k3.trans K9 (allS (Or.inr sz_b1) all0)
  refine own_tr (T' := T9) (g' := (mkF m 64 #[.val (.int p0), .val (.int p1), .val (.int p2), .val (.int p3), .val (.int p4), .val (.int ((p3 &&& (7 : Int32)) + (1 : Int32))), .val (.int (((p3.toUInt32 >>> ((3 : Int32) &&& 31).toUInt32).toInt32) &&& (3 : Int32))), .val (.double (FP.ddiv (FP.i2d ((p3 &&& (7 : Int32)) + (1 : Int32))) (FP.i2d ((1 : Int32) <<< ((((p3.toUInt32 >>> ((3 : Int32) &&& 31).toUInt32).toInt32) &&& (3 : Int32)) &&& 31))))), .second, .val (.int ((p4 &&& (255 : Int32)) + (1 : Int32))), .val (.int ((((p4.toUInt32 >>> ((8 : Int32) &&& 31).toUInt32).toInt32) &&& (255 : Int32)) + (1 : Int32))), .unset, .unset, .unset, .unset, .unset, .unset, .unset] [(.ref b1)])) st9 ?_
  refine own_st (T' := T9) (g' := (mkF m 69 #[.val (.int p0), .val (.int p1), .val (.int p2), .val (.int p3), .val (.int p4), .val (.int ((p3 &&& (7 : Int32)) + (1 : Int32))), .val (.int (((p3.toUInt32 >>> ((3 : Int32) &&& 31).toUInt32).toInt32) &&& (3 : Int32))), .val (.double (FP.ddiv (FP.i2d ((p3 &&& (7 : Int32)) + (1 : Int32))) (FP.i2d ((1 : Int32) <<< ((((p3.toUInt32 >>> ((3 : Int32) &&& 31).toUInt32).toInt32) &&& (3 : Int32)) &&& 31))))), .second, .val (.int ((p4 &&& (255 : Int32)) + (1 : Int32))), .val (.int ((((p4.toUInt32 >>> ((8 : Int32) &&& 31).toUInt32).toInt32) &&& (255 : Int32)) + (1 : Int32))), .val (.ref b1), .unset, .unset, .unset, .unset, .unset, .unset] [(.int p2), (.ref b1)])) (fun t k => ?_) ?_
  · show Steps p.tables e below (T9.setTop (mkF m 64 #[.val (.int p0), .val (.int p1), .val (.int p2), .val (.int p3), .val (.int p4), .val (.int ((p3 &&& (7 : Int32)) + (1 : Int32))), .val (.int (((p3.toUInt32 >>> ((3 : Int32) &&& 31).toUInt32).toInt32) &&& (3 : Int32))), .val (.double (FP.ddiv (FP.i2d ((p3 &&& (7 : Int32)) + (1 : Int32))) (FP.i2d ((1 : Int32) <<< ((((p3.toUInt32 >>> ((3 : Int32) &&& 31).toUInt32).toInt32) &&& (3 : Int32)) &&& 31))))), .second, .val (.int ((p4 &&& (255 : Int32)) + (1 : Int32))), .val (.int ((((p4.toUInt32 >>> ((8 : Int32) &&& 31).toUInt32).toInt32) &&& (255 : Int32)) + (1 : Int32))), .unset, .unset, .unset, .unset, .unset, .unset, .unset] [(.ref b1)])) t
    refine XS.astore X9.here hx rfl (hb hby at_64) rfl rfl (l' := #[.val (.int p0), .val (.int p1), .val (.int p2), .val (.int p3), .val (.int p4), .val (.int ((p3 &&& (7 : Int32)) + (1 : Int32))), .val (.int (((p3.toUInt32 >>> ((3 : Int32) &&& 31).toUInt32).toInt32) &&& (3 : Int32))), .val (.double (FP.ddiv (FP.i2d ((p3 &&& (7 : Int32)) + (1 : Int32))) (FP.i2d ((1 : Int32) <<< ((((p3.toUInt32 >>> ((3 : Int32) &&& 31).toUInt32).toInt32) &&& (3 : Int32)) &&& 31))))), .second, .val (.int ((p4 &&& (255 : Int32)) + (1 : Int32))), .val (.int ((((p4.toUInt32 >>> ((8 : Int32) &&& 31).toUInt32).toInt32) &&& (255 : Int32)) + (1 : Int32))), .val (.ref b1), .unset, .unset, .unset, .unset, .unset, .unset]) rfl ?_
    show Steps p.tables e below (T9.setTop (mkF m 66 #[.val (.int p0), .val (.int p1), .val (.int p2), .val (.int p3), .val (.int p4), .val (.int ((p3 &&& (7 : Int32)) + (1 : Int32))), .val (.int (((p3.toUInt32 >>> ((3 : Int32) &&& 31).toUInt32).toInt32) &&& (3 : Int32))), .val (.double (FP.ddiv (FP.i2d ((p3 &&& (7 : Int32)) + (1 : Int32))) (FP.i2d ((1 : Int32) <<< ((((p3.toUInt32 >>> ((3 : Int32) &&& 31).toUInt32).toInt32) &&& (3 : Int32)) &&& 31))))), .second, .val (.int ((p4 &&& (255 : Int32)) + (1 : Int32))), .val (.int ((((p4.toUInt32 >>> ((8 : Int32) &&& 31).toUInt32).toInt32) &&& (255 : Int32)) + (1 : Int32))), .val (.ref b1), .unset, .unset, .unset, .unset, .unset, .unset] [])) t
    refine XS.aload X9.here hx rfl (hb hby at_66) rfl rfl ?_
    show Steps p.tables e below (T9.setTop (mkF m 68 #[.val (.int p0), .val (.int p1), .val (.int p2), .val (.int p3), .val (.int p4), .val (.int ((p3 &&& (7 : Int32)) + (1 : Int32))), .val (.int (((p3.toUInt32 >>> ((3 : Int32) &&& 31).toUInt32).toInt32) &&& (3 : Int32))), .val (.double (FP.ddiv (FP.i2d ((p3 &&& (7 : Int32)) + (1 : Int32))) (FP.i2d ((1 : Int32) <<< ((((p3.toUInt32 >>> ((3 : Int32) &&& 31).toUInt32).toInt32) &&& (3 : Int32)) &&& 31))))), .second, .val (.int ((p4 &&& (255 : Int32)) + (1 : Int32))), .val (.int ((((p4.toUInt32 >>> ((8 : Int32) &&& 31).toUInt32).toInt32) &&& (255 : Int32)) + (1 : Int32))), .val (.ref b1), .unset, .unset, .unset, .unset, .unset, .unset] [(.ref b1)])) t
    refine XS.iloadN X9.here hx rfl (hb hby at_68) rfl ?_
    exact k
  obtain ⟨cq20, kq20, qa20, qb20, qc20⟩ := isOf hZ (rfl : T9.heap = T9.heap) f10
  obtain ⟨_, _, ⟨T20, L20, k20, n20⟩, -, X20, ⟨Lc20, hQ20, l20, y20, z20⟩, st20⟩ := X9.virtualBack hx (y := (⟨"com/example/weirbench/weirbench/grid/GridGeometry", "centreY", "(I)D"⟩ : MethodName)) (z := (⟨"com/example/weirbench/weirbench/grid/GridGeometry", "centreY", "(I)D"⟩ : MethodName)) hown (mvT hZ (hw _ (List.mem_of_getElem? (i := 33) rfl))) (mvT hZ (hw _ (List.mem_of_getElem? (i := 34) rfl))) (notFace_of_selects (args := #[]) (mvT hZ (hw _ (List.mem_of_getElem? (i := 36) rfl)))) (mvT hZ (hw _ (List.mem_of_getElem? (i := 36) rfl))) (mvT hZ (hw _ (List.mem_of_getElem? (i := 35) rfl))) (by decide) (backOf (W := 0) (rm6 l Z ar hw [] b1 p2 p1 ((FP.ddiv (FP.i2d ((p3 &&& (7 : Int32)) + (1 : Int32))) (FP.i2d ((1 : Int32) <<< ((((p3.toUInt32 >>> ((3 : Int32) &&& 31).toUInt32).toInt32) &&& (3 : Int32)) &&& 31))))) T9.heap n0 z18 f12 f13 h69_hn16) hZ (hw _ (List.mem_of_getElem? (i := 37) rfl)) (hw _ (List.mem_of_getElem? (i := 2) rfl)) (by decide) (by decide)) qa20 qc20 (g := (mkF m 69 #[.val (.int p0), .val (.int p1), .val (.int p2), .val (.int p3), .val (.int p4), .val (.int ((p3 &&& (7 : Int32)) + (1 : Int32))), .val (.int (((p3.toUInt32 >>> ((3 : Int32) &&& 31).toUInt32).toInt32) &&& (3 : Int32))), .val (.double (FP.ddiv (FP.i2d ((p3 &&& (7 : Int32)) + (1 : Int32))) (FP.i2d ((1 : Int32) <<< ((((p3.toUInt32 >>> ((3 : Int32) &&& 31).toUInt32).toInt32) &&& (3 : Int32)) &&& 31))))), .second, .val (.int ((p4 &&& (255 : Int32)) + (1 : Int32))), .val (.int ((((p4.toUInt32 >>> ((8 : Int32) &&& 31).toUInt32).toInt32) &&& (255 : Int32)) + (1 : Int32))), .val (.ref b1), .unset, .unset, .unset, .unset, .unset, .unset] [(.int p2), (.ref b1)])) rfl (by rw [hml]; rfl) (Steps.refl _) (argsL := [(.int p2)]) (rest := []) (lenOf pd0_1 rfl) rfl (by show 2 * 0 + _ ≤ _; exact Nat.le_of_eq rfl) (hb hby at_69) (fun _ _ => ⟨rfl, (rfl : T9.heap = T9.heap), (by decide : 1 + 0 ≤ _), (by decide : 5 + 0 ≤ _)⟩)
  dsimp only [Pt.U, Pt.locs, Pt.cells, Pt.slots] at X20 l20 y20 z20 st20 hQ20
  subst l20 y20 z20
  obtain ⟨rfl, N20q, e20⟩ := hQ20
  have n21 := Fr.app n16 N20q
  refine own_tr (T' := T20) (g' := (mkF m 72 #[.val (.int p0), .val (.int p1), .val (.int p2), .val (.int p3), .val (.int p4), .val (.int ((p3 &&& (7 : Int32)) + (1 : Int32))), .val (.int (((p3.toUInt32 >>> ((3 : Int32) &&& 31).toUInt32).toInt32) &&& (3 : Int32))), .val (.double (FP.ddiv (FP.i2d ((p3 &&& (7 : Int32)) + (1 : Int32))) (FP.i2d ((1 : Int32) <<< ((((p3.toUInt32 >>> ((3 : Int32) &&& 31).toUInt32).toInt32) &&& (3 : Int32)) &&& 31))))), .second, .val (.int ((p4 &&& (255 : Int32)) + (1 : Int32))), .val (.int ((((p4.toUInt32 >>> ((8 : Int32) &&& 31).toUInt32).toInt32) &&& (255 : Int32)) + (1 : Int32))), .val (.ref b1), .unset, .unset, .unset, .unset, .unset, .unset] [(.double (FP.dmul (FP.dadd (FP.dadd (FP.i2d p1) (FP.i2d p2)) (4602678819172646912 : UInt64)) (FP.ddiv (FP.i2d ((p3 &&& (7 : Int32)) + (1 : Int32))) (FP.i2d ((1 : Int32) <<< ((((p3.toUInt32 >>> ((3 : Int32) &&& 31).toUInt32).toInt32) &&& (3 : Int32)) &&& 31))))))])) st20 ?_
  refine own_st (T' := T20) (g' := (mkF m 119 #[.val (.int p0), .val (.int p1), .val (.int p2), .val (.int p3), .val (.int p4), .val (.int ((p3 &&& (7 : Int32)) + (1 : Int32))), .val (.int (((p3.toUInt32 >>> ((3 : Int32) &&& 31).toUInt32).toInt32) &&& (3 : Int32))), .val (.double (FP.ddiv (FP.i2d ((p3 &&& (7 : Int32)) + (1 : Int32))) (FP.i2d ((1 : Int32) <<< ((((p3.toUInt32 >>> ((3 : Int32) &&& 31).toUInt32).toInt32) &&& (3 : Int32)) &&& 31))))), .second, .val (.int ((p4 &&& (255 : Int32)) + (1 : Int32))), .val (.int ((((p4.toUInt32 >>> ((8 : Int32) &&& 31).toUInt32).toInt32) &&& (255 : Int32)) + (1 : Int32))), .val (.ref b1), .val (.double (FP.dmul (FP.dadd (FP.dadd (FP.i2d p1) (FP.i2d p2)) (4602678819172646912 : UInt64)) (FP.ddiv (FP.i2d ((p3 &&& (7 : Int32)) + (1 : Int32))) (FP.i2d ((1 : Int32) <<< ((((p3.toUInt32 >>> ((3 : Int32) &&& 31).toUInt32).toInt32) &&& (3 : Int32)) &&& 31)))))), .second, .val (.long ((((2 : Int64) * (p1.toInt64)) + ((2 : Int64) * (p2.toInt64))) + (1 : Int64))), .second, .val (.double (FP.l2d (((((2 : Int64) * (p1.toInt64)) + ((2 : Int64) * (p2.toInt64))) + (1 : Int64)) * (((p3 &&& (7 : Int32)) + (1 : Int32)).toInt64)))), .second] [(.int (1 : Int32))])) (fun t k => ?_) ?_
  · show Steps p.tables e below (T20.setTop (mkF m 72 #[.val (.int p0), .val (.int p1), .val (.int p2), .val (.int p3), .val (.int p4), .val (.int ((p3 &&& (7 : Int32)) + (1 : Int32))), .val (.int (((p3.toUInt32 >>> ((3 : Int32) &&& 31).toUInt32).toInt32) &&& (3 : Int32))), .val (.double (FP.ddiv (FP.i2d ((p3 &&& (7 : Int32)) + (1 : Int32))) (FP.i2d ((1 : Int32) <<< ((((p3.toUInt32 >>> ((3 : Int32) &&& 31).toUInt32).toInt32) &&& (3 : Int32)) &&& 31))))), .second, .val (.int ((p4 &&& (255 : Int32)) + (1 : Int32))), .val (.int ((((p4.toUInt32 >>> ((8 : Int32) &&& 31).toUInt32).toInt32) &&& (255 : Int32)) + (1 : Int32))), .val (.ref b1), .unset, .unset, .unset, .unset, .unset, .unset] [(.double (FP.dmul (FP.dadd (FP.dadd (FP.i2d p1) (FP.i2d p2)) (4602678819172646912 : UInt64)) (FP.ddiv (FP.i2d ((p3 &&& (7 : Int32)) + (1 : Int32))) (FP.i2d ((1 : Int32) <<< ((((p3.toUInt32 >>> ((3 : Int32) &&& 31).toUInt32).toInt32) &&& (3 : Int32)) &&& 31))))))])) t
    refine XS.dstore X20.here hx rfl (hb hby at_72) rfl (l' := #[.val (.int p0), .val (.int p1), .val (.int p2), .val (.int p3), .val (.int p4), .val (.int ((p3 &&& (7 : Int32)) + (1 : Int32))), .val (.int (((p3.toUInt32 >>> ((3 : Int32) &&& 31).toUInt32).toInt32) &&& (3 : Int32))), .val (.double (FP.ddiv (FP.i2d ((p3 &&& (7 : Int32)) + (1 : Int32))) (FP.i2d ((1 : Int32) <<< ((((p3.toUInt32 >>> ((3 : Int32) &&& 31).toUInt32).toInt32) &&& (3 : Int32)) &&& 31))))), .second, .val (.int ((p4 &&& (255 : Int32)) + (1 : Int32))), .val (.int ((((p4.toUInt32 >>> ((8 : Int32) &&& 31).toUInt32).toInt32) &&& (255 : Int32)) + (1 : Int32))), .val (.ref b1), .val (.double (FP.dmul (FP.dadd (FP.dadd (FP.i2d p1) (FP.i2d p2)) (4602678819172646912 : UInt64)) (FP.ddiv (FP.i2d ((p3 &&& (7 : Int32)) + (1 : Int32))) (FP.i2d ((1 : Int32) <<< ((((p3.toUInt32 >>> ((3 : Int32) &&& 31).toUInt32).toInt32) &&& (3 : Int32)) &&& 31)))))), .second, .unset, .unset, .unset, .unset]) rfl ?_
    show Steps p.tables e below (T20.setTop (mkF m 74 #[.val (.int p0), .val (.int p1), .val (.int p2), .val (.int p3), .val (.int p4), .val (.int ((p3 &&& (7 : Int32)) + (1 : Int32))), .val (.int (((p3.toUInt32 >>> ((3 : Int32) &&& 31).toUInt32).toInt32) &&& (3 : Int32))), .val (.double (FP.ddiv (FP.i2d ((p3 &&& (7 : Int32)) + (1 : Int32))) (FP.i2d ((1 : Int32) <<< ((((p3.toUInt32 >>> ((3 : Int32) &&& 31).toUInt32).toInt32) &&& (3 : Int32)) &&& 31))))), .second, .val (.int ((p4 &&& (255 : Int32)) + (1 : Int32))), .val (.int ((((p4.toUInt32 >>> ((8 : Int32) &&& 31).toUInt32).toInt32) &&& (255 : Int32)) + (1 : Int32))), .val (.ref b1), .val (.double (FP.dmul (FP.dadd (FP.dadd (FP.i2d p1) (FP.i2d p2)) (4602678819172646912 : UInt64)) (FP.ddiv (FP.i2d ((p3 &&& (7 : Int32)) + (1 : Int32))) (FP.i2d ((1 : Int32) <<< ((((p3.toUInt32 >>> ((3 : Int32) &&& 31).toUInt32).toInt32) &&& (3 : Int32)) &&& 31)))))), .second, .unset, .unset, .unset, .unset] [])) t
    refine X20.ldc2Long hx hown (mvT hZ (hw _ (List.mem_of_getElem? (i := 39) rfl))) (g := (mkF m 74 #[.val (.int p0), .val (.int p1), .val (.int p2), .val (.int p3), .val (.int p4), .val (.int ((p3 &&& (7 : Int32)) + (1 : Int32))), .val (.int (((p3.toUInt32 >>> ((3 : Int32) &&& 31).toUInt32).toInt32) &&& (3 : Int32))), .val (.double (FP.ddiv (FP.i2d ((p3 &&& (7 : Int32)) + (1 : Int32))) (FP.i2d ((1 : Int32) <<< ((((p3.toUInt32 >>> ((3 : Int32) &&& 31).toUInt32).toInt32) &&& (3 : Int32)) &&& 31))))), .second, .val (.int ((p4 &&& (255 : Int32)) + (1 : Int32))), .val (.int ((((p4.toUInt32 >>> ((8 : Int32) &&& 31).toUInt32).toInt32) &&& (255 : Int32)) + (1 : Int32))), .val (.ref b1), .val (.double (FP.dmul (FP.dadd (FP.dadd (FP.i2d p1) (FP.i2d p2)) (4602678819172646912 : UInt64)) (FP.ddiv (FP.i2d ((p3 &&& (7 : Int32)) + (1 : Int32))) (FP.i2d ((1 : Int32) <<< ((((p3.toUInt32 >>> ((3 : Int32) &&& 31).toUInt32).toInt32) &&& (3 : Int32)) &&& 31)))))), .second, .unset, .unset, .unset, .unset] [])) rfl (hb hby at_74) _ ?_
    show Steps p.tables e below (T20.setTop (mkF m 77 #[.val (.int p0), .val (.int p1), .val (.int p2), .val (.int p3), .val (.int p4), .val (.int ((p3 &&& (7 : Int32)) + (1 : Int32))), .val (.int (((p3.toUInt32 >>> ((3 : Int32) &&& 31).toUInt32).toInt32) &&& (3 : Int32))), .val (.double (FP.ddiv (FP.i2d ((p3 &&& (7 : Int32)) + (1 : Int32))) (FP.i2d ((1 : Int32) <<< ((((p3.toUInt32 >>> ((3 : Int32) &&& 31).toUInt32).toInt32) &&& (3 : Int32)) &&& 31))))), .second, .val (.int ((p4 &&& (255 : Int32)) + (1 : Int32))), .val (.int ((((p4.toUInt32 >>> ((8 : Int32) &&& 31).toUInt32).toInt32) &&& (255 : Int32)) + (1 : Int32))), .val (.ref b1), .val (.double (FP.dmul (FP.dadd (FP.dadd (FP.i2d p1) (FP.i2d p2)) (4602678819172646912 : UInt64)) (FP.ddiv (FP.i2d ((p3 &&& (7 : Int32)) + (1 : Int32))) (FP.i2d ((1 : Int32) <<< ((((p3.toUInt32 >>> ((3 : Int32) &&& 31).toUInt32).toInt32) &&& (3 : Int32)) &&& 31)))))), .second, .unset, .unset, .unset, .unset] [(.long (2 : Int64))])) t
    refine XS.iloadN X20.here hx rfl (hb hby at_77) rfl ?_
    show Steps p.tables e below (T20.setTop (mkF m 78 #[.val (.int p0), .val (.int p1), .val (.int p2), .val (.int p3), .val (.int p4), .val (.int ((p3 &&& (7 : Int32)) + (1 : Int32))), .val (.int (((p3.toUInt32 >>> ((3 : Int32) &&& 31).toUInt32).toInt32) &&& (3 : Int32))), .val (.double (FP.ddiv (FP.i2d ((p3 &&& (7 : Int32)) + (1 : Int32))) (FP.i2d ((1 : Int32) <<< ((((p3.toUInt32 >>> ((3 : Int32) &&& 31).toUInt32).toInt32) &&& (3 : Int32)) &&& 31))))), .second, .val (.int ((p4 &&& (255 : Int32)) + (1 : Int32))), .val (.int ((((p4.toUInt32 >>> ((8 : Int32) &&& 31).toUInt32).toInt32) &&& (255 : Int32)) + (1 : Int32))), .val (.ref b1), .val (.double (FP.dmul (FP.dadd (FP.dadd (FP.i2d p1) (FP.i2d p2)) (4602678819172646912 : UInt64)) (FP.ddiv (FP.i2d ((p3 &&& (7 : Int32)) + (1 : Int32))) (FP.i2d ((1 : Int32) <<< ((((p3.toUInt32 >>> ((3 : Int32) &&& 31).toUInt32).toInt32) &&& (3 : Int32)) &&& 31)))))), .second, .unset, .unset, .unset, .unset] [(.int p1), (.long (2 : Int64))])) t
    refine XS.i2l X20.here hx rfl (hb hby at_78) rfl ?_
    show Steps p.tables e below (T20.setTop (mkF m 79 #[.val (.int p0), .val (.int p1), .val (.int p2), .val (.int p3), .val (.int p4), .val (.int ((p3 &&& (7 : Int32)) + (1 : Int32))), .val (.int (((p3.toUInt32 >>> ((3 : Int32) &&& 31).toUInt32).toInt32) &&& (3 : Int32))), .val (.double (FP.ddiv (FP.i2d ((p3 &&& (7 : Int32)) + (1 : Int32))) (FP.i2d ((1 : Int32) <<< ((((p3.toUInt32 >>> ((3 : Int32) &&& 31).toUInt32).toInt32) &&& (3 : Int32)) &&& 31))))), .second, .val (.int ((p4 &&& (255 : Int32)) + (1 : Int32))), .val (.int ((((p4.toUInt32 >>> ((8 : Int32) &&& 31).toUInt32).toInt32) &&& (255 : Int32)) + (1 : Int32))), .val (.ref b1), .val (.double (FP.dmul (FP.dadd (FP.dadd (FP.i2d p1) (FP.i2d p2)) (4602678819172646912 : UInt64)) (FP.ddiv (FP.i2d ((p3 &&& (7 : Int32)) + (1 : Int32))) (FP.i2d ((1 : Int32) <<< ((((p3.toUInt32 >>> ((3 : Int32) &&& 31).toUInt32).toInt32) &&& (3 : Int32)) &&& 31)))))), .second, .unset, .unset, .unset, .unset] [(.long (p1.toInt64)), (.long (2 : Int64))])) t
    refine XS.lmul X20.here hx rfl (hb hby at_79) rfl ?_
    show Steps p.tables e below (T20.setTop (mkF m 80 #[.val (.int p0), .val (.int p1), .val (.int p2), .val (.int p3), .val (.int p4), .val (.int ((p3 &&& (7 : Int32)) + (1 : Int32))), .val (.int (((p3.toUInt32 >>> ((3 : Int32) &&& 31).toUInt32).toInt32) &&& (3 : Int32))), .val (.double (FP.ddiv (FP.i2d ((p3 &&& (7 : Int32)) + (1 : Int32))) (FP.i2d ((1 : Int32) <<< ((((p3.toUInt32 >>> ((3 : Int32) &&& 31).toUInt32).toInt32) &&& (3 : Int32)) &&& 31))))), .second, .val (.int ((p4 &&& (255 : Int32)) + (1 : Int32))), .val (.int ((((p4.toUInt32 >>> ((8 : Int32) &&& 31).toUInt32).toInt32) &&& (255 : Int32)) + (1 : Int32))), .val (.ref b1), .val (.double (FP.dmul (FP.dadd (FP.dadd (FP.i2d p1) (FP.i2d p2)) (4602678819172646912 : UInt64)) (FP.ddiv (FP.i2d ((p3 &&& (7 : Int32)) + (1 : Int32))) (FP.i2d ((1 : Int32) <<< ((((p3.toUInt32 >>> ((3 : Int32) &&& 31).toUInt32).toInt32) &&& (3 : Int32)) &&& 31)))))), .second, .unset, .unset, .unset, .unset] [(.long ((2 : Int64) * (p1.toInt64)))])) t
    refine X20.ldc2Long hx hown (mvT hZ (hw _ (List.mem_of_getElem? (i := 39) rfl))) (g := (mkF m 80 #[.val (.int p0), .val (.int p1), .val (.int p2), .val (.int p3), .val (.int p4), .val (.int ((p3 &&& (7 : Int32)) + (1 : Int32))), .val (.int (((p3.toUInt32 >>> ((3 : Int32) &&& 31).toUInt32).toInt32) &&& (3 : Int32))), .val (.double (FP.ddiv (FP.i2d ((p3 &&& (7 : Int32)) + (1 : Int32))) (FP.i2d ((1 : Int32) <<< ((((p3.toUInt32 >>> ((3 : Int32) &&& 31).toUInt32).toInt32) &&& (3 : Int32)) &&& 31))))), .second, .val (.int ((p4 &&& (255 : Int32)) + (1 : Int32))), .val (.int ((((p4.toUInt32 >>> ((8 : Int32) &&& 31).toUInt32).toInt32) &&& (255 : Int32)) + (1 : Int32))), .val (.ref b1), .val (.double (FP.dmul (FP.dadd (FP.dadd (FP.i2d p1) (FP.i2d p2)) (4602678819172646912 : UInt64)) (FP.ddiv (FP.i2d ((p3 &&& (7 : Int32)) + (1 : Int32))) (FP.i2d ((1 : Int32) <<< ((((p3.toUInt32 >>> ((3 : Int32) &&& 31).toUInt32).toInt32) &&& (3 : Int32)) &&& 31)))))), .second, .unset, .unset, .unset, .unset] [(.long ((2 : Int64) * (p1.toInt64)))])) rfl (hb hby at_80) _ ?_
    show Steps p.tables e below (T20.setTop (mkF m 83 #[.val (.int p0), .val (.int p1), .val (.int p2), .val (.int p3), .val (.int p4), .val (.int ((p3 &&& (7 : Int32)) + (1 : Int32))), .val (.int (((p3.toUInt32 >>> ((3 : Int32) &&& 31).toUInt32).toInt32) &&& (3 : Int32))), .val (.double (FP.ddiv (FP.i2d ((p3 &&& (7 : Int32)) + (1 : Int32))) (FP.i2d ((1 : Int32) <<< ((((p3.toUInt32 >>> ((3 : Int32) &&& 31).toUInt32).toInt32) &&& (3 : Int32)) &&& 31))))), .second, .val (.int ((p4 &&& (255 : Int32)) + (1 : Int32))), .val (.int ((((p4.toUInt32 >>> ((8 : Int32) &&& 31).toUInt32).toInt32) &&& (255 : Int32)) + (1 : Int32))), .val (.ref b1), .val (.double (FP.dmul (FP.dadd (FP.dadd (FP.i2d p1) (FP.i2d p2)) (4602678819172646912 : UInt64)) (FP.ddiv (FP.i2d ((p3 &&& (7 : Int32)) + (1 : Int32))) (FP.i2d ((1 : Int32) <<< ((((p3.toUInt32 >>> ((3 : Int32) &&& 31).toUInt32).toInt32) &&& (3 : Int32)) &&& 31)))))), .second, .unset, .unset, .unset, .unset] [(.long (2 : Int64)), (.long ((2 : Int64) * (p1.toInt64)))])) t
    refine XS.iloadN X20.here hx rfl (hb hby at_83) rfl ?_
    show Steps p.tables e below (T20.setTop (mkF m 84 #[.val (.int p0), .val (.int p1), .val (.int p2), .val (.int p3), .val (.int p4), .val (.int ((p3 &&& (7 : Int32)) + (1 : Int32))), .val (.int (((p3.toUInt32 >>> ((3 : Int32) &&& 31).toUInt32).toInt32) &&& (3 : Int32))), .val (.double (FP.ddiv (FP.i2d ((p3 &&& (7 : Int32)) + (1 : Int32))) (FP.i2d ((1 : Int32) <<< ((((p3.toUInt32 >>> ((3 : Int32) &&& 31).toUInt32).toInt32) &&& (3 : Int32)) &&& 31))))), .second, .val (.int ((p4 &&& (255 : Int32)) + (1 : Int32))), .val (.int ((((p4.toUInt32 >>> ((8 : Int32) &&& 31).toUInt32).toInt32) &&& (255 : Int32)) + (1 : Int32))), .val (.ref b1), .val (.double (FP.dmul (FP.dadd (FP.dadd (FP.i2d p1) (FP.i2d p2)) (4602678819172646912 : UInt64)) (FP.ddiv (FP.i2d ((p3 &&& (7 : Int32)) + (1 : Int32))) (FP.i2d ((1 : Int32) <<< ((((p3.toUInt32 >>> ((3 : Int32) &&& 31).toUInt32).toInt32) &&& (3 : Int32)) &&& 31)))))), .second, .unset, .unset, .unset, .unset] [(.int p2), (.long (2 : Int64)), (.long ((2 : Int64) * (p1.toInt64)))])) t
    refine XS.i2l X20.here hx rfl (hb hby at_84) rfl ?_
    show Steps p.tables e below (T20.setTop (mkF m 85 #[.val (.int p0), .val (.int p1), .val (.int p2), .val (.int p3), .val (.int p4), .val (.int ((p3 &&& (7 : Int32)) + (1 : Int32))), .val (.int (((p3.toUInt32 >>> ((3 : Int32) &&& 31).toUInt32).toInt32) &&& (3 : Int32))), .val (.double (FP.ddiv (FP.i2d ((p3 &&& (7 : Int32)) + (1 : Int32))) (FP.i2d ((1 : Int32) <<< ((((p3.toUInt32 >>> ((3 : Int32) &&& 31).toUInt32).toInt32) &&& (3 : Int32)) &&& 31))))), .second, .val (.int ((p4 &&& (255 : Int32)) + (1 : Int32))), .val (.int ((((p4.toUInt32 >>> ((8 : Int32) &&& 31).toUInt32).toInt32) &&& (255 : Int32)) + (1 : Int32))), .val (.ref b1), .val (.double (FP.dmul (FP.dadd (FP.dadd (FP.i2d p1) (FP.i2d p2)) (4602678819172646912 : UInt64)) (FP.ddiv (FP.i2d ((p3 &&& (7 : Int32)) + (1 : Int32))) (FP.i2d ((1 : Int32) <<< ((((p3.toUInt32 >>> ((3 : Int32) &&& 31).toUInt32).toInt32) &&& (3 : Int32)) &&& 31)))))), .second, .unset, .unset, .unset, .unset] [(.long (p2.toInt64)), (.long (2 : Int64)), (.long ((2 : Int64) * (p1.toInt64)))])) t
    refine XS.lmul X20.here hx rfl (hb hby at_85) rfl ?_
    show Steps p.tables e below (T20.setTop (mkF m 86 #[.val (.int p0), .val (.int p1), .val (.int p2), .val (.int p3), .val (.int p4), .val (.int ((p3 &&& (7 : Int32)) + (1 : Int32))), .val (.int (((p3.toUInt32 >>> ((3 : Int32) &&& 31).toUInt32).toInt32) &&& (3 : Int32))), .val (.double (FP.ddiv (FP.i2d ((p3 &&& (7 : Int32)) + (1 : Int32))) (FP.i2d ((1 : Int32) <<< ((((p3.toUInt32 >>> ((3 : Int32) &&& 31).toUInt32).toInt32) &&& (3 : Int32)) &&& 31))))), .second, .val (.int ((p4 &&& (255 : Int32)) + (1 : Int32))), .val (.int ((((p4.toUInt32 >>> ((8 : Int32) &&& 31).toUInt32).toInt32) &&& (255 : Int32)) + (1 : Int32))), .val (.ref b1), .val (.double (FP.dmul (FP.dadd (FP.dadd (FP.i2d p1) (FP.i2d p2)) (4602678819172646912 : UInt64)) (FP.ddiv (FP.i2d ((p3 &&& (7 : Int32)) + (1 : Int32))) (FP.i2d ((1 : Int32) <<< ((((p3.toUInt32 >>> ((3 : Int32) &&& 31).toUInt32).toInt32) &&& (3 : Int32)) &&& 31)))))), .second, .unset, .unset, .unset, .unset] [(.long ((2 : Int64) * (p2.toInt64))), (.long ((2 : Int64) * (p1.toInt64)))])) t
    refine XS.ladd X20.here hx rfl (hb hby at_86) rfl ?_
    show Steps p.tables e below (T20.setTop (mkF m 87 #[.val (.int p0), .val (.int p1), .val (.int p2), .val (.int p3), .val (.int p4), .val (.int ((p3 &&& (7 : Int32)) + (1 : Int32))), .val (.int (((p3.toUInt32 >>> ((3 : Int32) &&& 31).toUInt32).toInt32) &&& (3 : Int32))), .val (.double (FP.ddiv (FP.i2d ((p3 &&& (7 : Int32)) + (1 : Int32))) (FP.i2d ((1 : Int32) <<< ((((p3.toUInt32 >>> ((3 : Int32) &&& 31).toUInt32).toInt32) &&& (3 : Int32)) &&& 31))))), .second, .val (.int ((p4 &&& (255 : Int32)) + (1 : Int32))), .val (.int ((((p4.toUInt32 >>> ((8 : Int32) &&& 31).toUInt32).toInt32) &&& (255 : Int32)) + (1 : Int32))), .val (.ref b1), .val (.double (FP.dmul (FP.dadd (FP.dadd (FP.i2d p1) (FP.i2d p2)) (4602678819172646912 : UInt64)) (FP.ddiv (FP.i2d ((p3 &&& (7 : Int32)) + (1 : Int32))) (FP.i2d ((1 : Int32) <<< ((((p3.toUInt32 >>> ((3 : Int32) &&& 31).toUInt32).toInt32) &&& (3 : Int32)) &&& 31)))))), .second, .unset, .unset, .unset, .unset] [(.long (((2 : Int64) * (p1.toInt64)) + ((2 : Int64) * (p2.toInt64))))])) t
    refine XS.lconst X20.here hx rfl (hb hby at_87) ?_
    show Steps p.tables e below (T20.setTop (mkF m 88 #[.val (.int p0), .val (.int p1), .val (.int p2), .val (.int p3), .val (.int p4), .val (.int ((p3 &&& (7 : Int32)) + (1 : Int32))), .val (.int (((p3.toUInt32 >>> ((3 : Int32) &&& 31).toUInt32).toInt32) &&& (3 : Int32))), .val (.double (FP.ddiv (FP.i2d ((p3 &&& (7 : Int32)) + (1 : Int32))) (FP.i2d ((1 : Int32) <<< ((((p3.toUInt32 >>> ((3 : Int32) &&& 31).toUInt32).toInt32) &&& (3 : Int32)) &&& 31))))), .second, .val (.int ((p4 &&& (255 : Int32)) + (1 : Int32))), .val (.int ((((p4.toUInt32 >>> ((8 : Int32) &&& 31).toUInt32).toInt32) &&& (255 : Int32)) + (1 : Int32))), .val (.ref b1), .val (.double (FP.dmul (FP.dadd (FP.dadd (FP.i2d p1) (FP.i2d p2)) (4602678819172646912 : UInt64)) (FP.ddiv (FP.i2d ((p3 &&& (7 : Int32)) + (1 : Int32))) (FP.i2d ((1 : Int32) <<< ((((p3.toUInt32 >>> ((3 : Int32) &&& 31).toUInt32).toInt32) &&& (3 : Int32)) &&& 31)))))), .second, .unset, .unset, .unset, .unset] [(.long (1 : Int64)), (.long (((2 : Int64) * (p1.toInt64)) + ((2 : Int64) * (p2.toInt64))))])) t
    refine XS.ladd X20.here hx rfl (hb hby at_88) rfl ?_
    show Steps p.tables e below (T20.setTop (mkF m 89 #[.val (.int p0), .val (.int p1), .val (.int p2), .val (.int p3), .val (.int p4), .val (.int ((p3 &&& (7 : Int32)) + (1 : Int32))), .val (.int (((p3.toUInt32 >>> ((3 : Int32) &&& 31).toUInt32).toInt32) &&& (3 : Int32))), .val (.double (FP.ddiv (FP.i2d ((p3 &&& (7 : Int32)) + (1 : Int32))) (FP.i2d ((1 : Int32) <<< ((((p3.toUInt32 >>> ((3 : Int32) &&& 31).toUInt32).toInt32) &&& (3 : Int32)) &&& 31))))), .second, .val (.int ((p4 &&& (255 : Int32)) + (1 : Int32))), .val (.int ((((p4.toUInt32 >>> ((8 : Int32) &&& 31).toUInt32).toInt32) &&& (255 : Int32)) + (1 : Int32))), .val (.ref b1), .val (.double (FP.dmul (FP.dadd (FP.dadd (FP.i2d p1) (FP.i2d p2)) (4602678819172646912 : UInt64)) (FP.ddiv (FP.i2d ((p3 &&& (7 : Int32)) + (1 : Int32))) (FP.i2d ((1 : Int32) <<< ((((p3.toUInt32 >>> ((3 : Int32) &&& 31).toUInt32).toInt32) &&& (3 : Int32)) &&& 31)))))), .second, .unset, .unset, .unset, .unset] [(.long ((((2 : Int64) * (p1.toInt64)) + ((2 : Int64) * (p2.toInt64))) + (1 : Int64)))])) t
    refine XS.lstore X20.here hx rfl (hb hby at_89) rfl (l' := #[.val (.int p0), .val (.int p1), .val (.int p2), .val (.int p3), .val (.int p4), .val (.int ((p3 &&& (7 : Int32)) + (1 : Int32))), .val (.int (((p3.toUInt32 >>> ((3 : Int32) &&& 31).toUInt32).toInt32) &&& (3 : Int32))), .val (.double (FP.ddiv (FP.i2d ((p3 &&& (7 : Int32)) + (1 : Int32))) (FP.i2d ((1 : Int32) <<< ((((p3.toUInt32 >>> ((3 : Int32) &&& 31).toUInt32).toInt32) &&& (3 : Int32)) &&& 31))))), .second, .val (.int ((p4 &&& (255 : Int32)) + (1 : Int32))), .val (.int ((((p4.toUInt32 >>> ((8 : Int32) &&& 31).toUInt32).toInt32) &&& (255 : Int32)) + (1 : Int32))), .val (.ref b1), .val (.double (FP.dmul (FP.dadd (FP.dadd (FP.i2d p1) (FP.i2d p2)) (4602678819172646912 : UInt64)) (FP.ddiv (FP.i2d ((p3 &&& (7 : Int32)) + (1 : Int32))) (FP.i2d ((1 : Int32) <<< ((((p3.toUInt32 >>> ((3 : Int32) &&& 31).toUInt32).toInt32) &&& (3 : Int32)) &&& 31)))))), .second, .val (.long ((((2 : Int64) * (p1.toInt64)) + ((2 : Int64) * (p2.toInt64))) + (1 : Int64))), .second, .unset, .unset]) rfl ?_
    show Steps p.tables e below (T20.setTop (mkF m 91 #[.val (.int p0), .val (.int p1), .val (.int p2), .val (.int p3), .val (.int p4), .val (.int ((p3 &&& (7 : Int32)) + (1 : Int32))), .val (.int (((p3.toUInt32 >>> ((3 : Int32) &&& 31).toUInt32).toInt32) &&& (3 : Int32))), .val (.double (FP.ddiv (FP.i2d ((p3 &&& (7 : Int32)) + (1 : Int32))) (FP.i2d ((1 : Int32) <<< ((((p3.toUInt32 >>> ((3 : Int32) &&& 31).toUInt32).toInt32) &&& (3 : Int32)) &&& 31))))), .second, .val (.int ((p4 &&& (255 : Int32)) + (1 : Int32))), .val (.int ((((p4.toUInt32 >>> ((8 : Int32) &&& 31).toUInt32).toInt32) &&& (255 : Int32)) + (1 : Int32))), .val (.ref b1), .val (.double (FP.dmul (FP.dadd (FP.dadd (FP.i2d p1) (FP.i2d p2)) (4602678819172646912 : UInt64)) (FP.ddiv (FP.i2d ((p3 &&& (7 : Int32)) + (1 : Int32))) (FP.i2d ((1 : Int32) <<< ((((p3.toUInt32 >>> ((3 : Int32) &&& 31).toUInt32).toInt32) &&& (3 : Int32)) &&& 31)))))), .second, .val (.long ((((2 : Int64) * (p1.toInt64)) + ((2 : Int64) * (p2.toInt64))) + (1 : Int64))), .second, .unset, .unset] [])) t
    refine XS.lload X20.here hx rfl (hb hby at_91) rfl ?_
    show Steps p.tables e below (T20.setTop (mkF m 93 #[.val (.int p0), .val (.int p1), .val (.int p2), .val (.int p3), .val (.int p4), .val (.int ((p3 &&& (7 : Int32)) + (1 : Int32))), .val (.int (((p3.toUInt32 >>> ((3 : Int32) &&& 31).toUInt32).toInt32) &&& (3 : Int32))), .val (.double (FP.ddiv (FP.i2d ((p3 &&& (7 : Int32)) + (1 : Int32))) (FP.i2d ((1 : Int32) <<< ((((p3.toUInt32 >>> ((3 : Int32) &&& 31).toUInt32).toInt32) &&& (3 : Int32)) &&& 31))))), .second, .val (.int ((p4 &&& (255 : Int32)) + (1 : Int32))), .val (.int ((((p4.toUInt32 >>> ((8 : Int32) &&& 31).toUInt32).toInt32) &&& (255 : Int32)) + (1 : Int32))), .val (.ref b1), .val (.double (FP.dmul (FP.dadd (FP.dadd (FP.i2d p1) (FP.i2d p2)) (4602678819172646912 : UInt64)) (FP.ddiv (FP.i2d ((p3 &&& (7 : Int32)) + (1 : Int32))) (FP.i2d ((1 : Int32) <<< ((((p3.toUInt32 >>> ((3 : Int32) &&& 31).toUInt32).toInt32) &&& (3 : Int32)) &&& 31)))))), .second, .val (.long ((((2 : Int64) * (p1.toInt64)) + ((2 : Int64) * (p2.toInt64))) + (1 : Int64))), .second, .unset, .unset] [(.long ((((2 : Int64) * (p1.toInt64)) + ((2 : Int64) * (p2.toInt64))) + (1 : Int64)))])) t
    refine XS.iload X20.here hx rfl (hb hby at_93) rfl ?_
    show Steps p.tables e below (T20.setTop (mkF m 95 #[.val (.int p0), .val (.int p1), .val (.int p2), .val (.int p3), .val (.int p4), .val (.int ((p3 &&& (7 : Int32)) + (1 : Int32))), .val (.int (((p3.toUInt32 >>> ((3 : Int32) &&& 31).toUInt32).toInt32) &&& (3 : Int32))), .val (.double (FP.ddiv (FP.i2d ((p3 &&& (7 : Int32)) + (1 : Int32))) (FP.i2d ((1 : Int32) <<< ((((p3.toUInt32 >>> ((3 : Int32) &&& 31).toUInt32).toInt32) &&& (3 : Int32)) &&& 31))))), .second, .val (.int ((p4 &&& (255 : Int32)) + (1 : Int32))), .val (.int ((((p4.toUInt32 >>> ((8 : Int32) &&& 31).toUInt32).toInt32) &&& (255 : Int32)) + (1 : Int32))), .val (.ref b1), .val (.double (FP.dmul (FP.dadd (FP.dadd (FP.i2d p1) (FP.i2d p2)) (4602678819172646912 : UInt64)) (FP.ddiv (FP.i2d ((p3 &&& (7 : Int32)) + (1 : Int32))) (FP.i2d ((1 : Int32) <<< ((((p3.toUInt32 >>> ((3 : Int32) &&& 31).toUInt32).toInt32) &&& (3 : Int32)) &&& 31)))))), .second, .val (.long ((((2 : Int64) * (p1.toInt64)) + ((2 : Int64) * (p2.toInt64))) + (1 : Int64))), .second, .unset, .unset] [(.int ((p3 &&& (7 : Int32)) + (1 : Int32))), (.long ((((2 : Int64) * (p1.toInt64)) + ((2 : Int64) * (p2.toInt64))) + (1 : Int64)))])) t
    refine XS.i2l X20.here hx rfl (hb hby at_95) rfl ?_
    show Steps p.tables e below (T20.setTop (mkF m 96 #[.val (.int p0), .val (.int p1), .val (.int p2), .val (.int p3), .val (.int p4), .val (.int ((p3 &&& (7 : Int32)) + (1 : Int32))), .val (.int (((p3.toUInt32 >>> ((3 : Int32) &&& 31).toUInt32).toInt32) &&& (3 : Int32))), .val (.double (FP.ddiv (FP.i2d ((p3 &&& (7 : Int32)) + (1 : Int32))) (FP.i2d ((1 : Int32) <<< ((((p3.toUInt32 >>> ((3 : Int32) &&& 31).toUInt32).toInt32) &&& (3 : Int32)) &&& 31))))), .second, .val (.int ((p4 &&& (255 : Int32)) + (1 : Int32))), .val (.int ((((p4.toUInt32 >>> ((8 : Int32) &&& 31).toUInt32).toInt32) &&& (255 : Int32)) + (1 : Int32))), .val (.ref b1), .val (.double (FP.dmul (FP.dadd (FP.dadd (FP.i2d p1) (FP.i2d p2)) (4602678819172646912 : UInt64)) (FP.ddiv (FP.i2d ((p3 &&& (7 : Int32)) + (1 : Int32))) (FP.i2d ((1 : Int32) <<< ((((p3.toUInt32 >>> ((3 : Int32) &&& 31).toUInt32).toInt32) &&& (3 : Int32)) &&& 31)))))), .second, .val (.long ((((2 : Int64) * (p1.toInt64)) + ((2 : Int64) * (p2.toInt64))) + (1 : Int64))), .second, .unset, .unset] [(.long (((p3 &&& (7 : Int32)) + (1 : Int32)).toInt64)), (.long ((((2 : Int64) * (p1.toInt64)) + ((2 : Int64) * (p2.toInt64))) + (1 : Int64)))])) t
    refine XS.lmul X20.here hx rfl (hb hby at_96) rfl ?_
    show Steps p.tables e below (T20.setTop (mkF m 97 #[.val (.int p0), .val (.int p1), .val (.int p2), .val (.int p3), .val (.int p4), .val (.int ((p3 &&& (7 : Int32)) + (1 : Int32))), .val (.int (((p3.toUInt32 >>> ((3 : Int32) &&& 31).toUInt32).toInt32) &&& (3 : Int32))), .val (.double (FP.ddiv (FP.i2d ((p3 &&& (7 : Int32)) + (1 : Int32))) (FP.i2d ((1 : Int32) <<< ((((p3.toUInt32 >>> ((3 : Int32) &&& 31).toUInt32).toInt32) &&& (3 : Int32)) &&& 31))))), .second, .val (.int ((p4 &&& (255 : Int32)) + (1 : Int32))), .val (.int ((((p4.toUInt32 >>> ((8 : Int32) &&& 31).toUInt32).toInt32) &&& (255 : Int32)) + (1 : Int32))), .val (.ref b1), .val (.double (FP.dmul (FP.dadd (FP.dadd (FP.i2d p1) (FP.i2d p2)) (4602678819172646912 : UInt64)) (FP.ddiv (FP.i2d ((p3 &&& (7 : Int32)) + (1 : Int32))) (FP.i2d ((1 : Int32) <<< ((((p3.toUInt32 >>> ((3 : Int32) &&& 31).toUInt32).toInt32) &&& (3 : Int32)) &&& 31)))))), .second, .val (.long ((((2 : Int64) * (p1.toInt64)) + ((2 : Int64) * (p2.toInt64))) + (1 : Int64))), .second, .unset, .unset] [(.long (((((2 : Int64) * (p1.toInt64)) + ((2 : Int64) * (p2.toInt64))) + (1 : Int64)) * (((p3 &&& (7 : Int32)) + (1 : Int32)).toInt64)))])) t
    refine XS.l2dS X20.here hx rfl (hb hby at_97) rfl rfl ?_
    show Steps p.tables e below (T20.setTop (mkF m 98 #[.val (.int p0), .val (.int p1), .val (.int p2), .val (.int p3), .val (.int p4), .val (.int ((p3 &&& (7 : Int32)) + (1 : Int32))), .val (.int (((p3.toUInt32 >>> ((3 : Int32) &&& 31).toUInt32).toInt32) &&& (3 : Int32))), .val (.double (FP.ddiv (FP.i2d ((p3 &&& (7 : Int32)) + (1 : Int32))) (FP.i2d ((1 : Int32) <<< ((((p3.toUInt32 >>> ((3 : Int32) &&& 31).toUInt32).toInt32) &&& (3 : Int32)) &&& 31))))), .second, .val (.int ((p4 &&& (255 : Int32)) + (1 : Int32))), .val (.int ((((p4.toUInt32 >>> ((8 : Int32) &&& 31).toUInt32).toInt32) &&& (255 : Int32)) + (1 : Int32))), .val (.ref b1), .val (.double (FP.dmul (FP.dadd (FP.dadd (FP.i2d p1) (FP.i2d p2)) (4602678819172646912 : UInt64)) (FP.ddiv (FP.i2d ((p3 &&& (7 : Int32)) + (1 : Int32))) (FP.i2d ((1 : Int32) <<< ((((p3.toUInt32 >>> ((3 : Int32) &&& 31).toUInt32).toInt32) &&& (3 : Int32)) &&& 31)))))), .second, .val (.long ((((2 : Int64) * (p1.toInt64)) + ((2 : Int64) * (p2.toInt64))) + (1 : Int64))), .second, .unset, .unset] [(.double (FP.l2d (((((2 : Int64) * (p1.toInt64)) + ((2 : Int64) * (p2.toInt64))) + (1 : Int64)) * (((p3 &&& (7 : Int32)) + (1 : Int32)).toInt64))))])) t
    refine XS.dstore X20.here hx rfl (hb hby at_98) rfl (l' := #[.val (.int p0), .val (.int p1), .val (.int p2), .val (.int p3), .val (.int p4), .val (.int ((p3 &&& (7 : Int32)) + (1 : Int32))), .val (.int (((p3.toUInt32 >>> ((3 : Int32) &&& 31).toUInt32).toInt32) &&& (3 : Int32))), .val (.double (FP.ddiv (FP.i2d ((p3 &&& (7 : Int32)) + (1 : Int32))) (FP.i2d ((1 : Int32) <<< ((((p3.toUInt32 >>> ((3 : Int32) &&& 31).toUInt32).toInt32) &&& (3 : Int32)) &&& 31))))), .second, .val (.int ((p4 &&& (255 : Int32)) + (1 : Int32))), .val (.int ((((p4.toUInt32 >>> ((8 : Int32) &&& 31).toUInt32).toInt32) &&& (255 : Int32)) + (1 : Int32))), .val (.ref b1), .val (.double (FP.dmul (FP.dadd (FP.dadd (FP.i2d p1) (FP.i2d p2)) (4602678819172646912 : UInt64)) (FP.ddiv (FP.i2d ((p3 &&& (7 : Int32)) + (1 : Int32))) (FP.i2d ((1 : Int32) <<< ((((p3.toUInt32 >>> ((3 : Int32) &&& 31).toUInt32).toInt32) &&& (3 : Int32)) &&& 31)))))), .second, .val (.long ((((2 : Int64) * (p1.toInt64)) + ((2 : Int64) * (p2.toInt64))) + (1 : Int64))), .second, .val (.double (FP.l2d (((((2 : Int64) * (p1.toInt64)) + ((2 : Int64) * (p2.toInt64))) + (1 : Int64)) * (((p3 &&& (7 : Int32)) + (1 : Int32)).toInt64)))), .second]) rfl ?_
    show Steps p.tables e below (T20.setTop (mkF m 100 #[.val (.int p0), .val (.int p1), .val (.int p2), .val (.int p3), .val (.int p4), .val (.int ((p3 &&& (7 : Int32)) + (1 : Int32))), .val (.int (((p3.toUInt32 >>> ((3 : Int32) &&& 31).toUInt32).toInt32) &&& (3 : Int32))), .val (.double (FP.ddiv (FP.i2d ((p3 &&& (7 : Int32)) + (1 : Int32))) (FP.i2d ((1 : Int32) <<< ((((p3.toUInt32 >>> ((3 : Int32) &&& 31).toUInt32).toInt32) &&& (3 : Int32)) &&& 31))))), .second, .val (.int ((p4 &&& (255 : Int32)) + (1 : Int32))), .val (.int ((((p4.toUInt32 >>> ((8 : Int32) &&& 31).toUInt32).toInt32) &&& (255 : Int32)) + (1 : Int32))), .val (.ref b1), .val (.double (FP.dmul (FP.dadd (FP.dadd (FP.i2d p1) (FP.i2d p2)) (4602678819172646912 : UInt64)) (FP.ddiv (FP.i2d ((p3 &&& (7 : Int32)) + (1 : Int32))) (FP.i2d ((1 : Int32) <<< ((((p3.toUInt32 >>> ((3 : Int32) &&& 31).toUInt32).toInt32) &&& (3 : Int32)) &&& 31)))))), .second, .val (.long ((((2 : Int64) * (p1.toInt64)) + ((2 : Int64) * (p2.toInt64))) + (1 : Int64))), .second, .val (.double (FP.l2d (((((2 : Int64) * (p1.toInt64)) + ((2 : Int64) * (p2.toInt64))) + (1 : Int64)) * (((p3 &&& (7 : Int32)) + (1 : Int32)).toInt64)))), .second] [])) t
    refine XS.dload X20.here hx rfl (hb hby at_100) rfl ?_
    show Steps p.tables e below (T20.setTop (mkF m 102 #[.val (.int p0), .val (.int p1), .val (.int p2), .val (.int p3), .val (.int p4), .val (.int ((p3 &&& (7 : Int32)) + (1 : Int32))), .val (.int (((p3.toUInt32 >>> ((3 : Int32) &&& 31).toUInt32).toInt32) &&& (3 : Int32))), .val (.double (FP.ddiv (FP.i2d ((p3 &&& (7 : Int32)) + (1 : Int32))) (FP.i2d ((1 : Int32) <<< ((((p3.toUInt32 >>> ((3 : Int32) &&& 31).toUInt32).toInt32) &&& (3 : Int32)) &&& 31))))), .second, .val (.int ((p4 &&& (255 : Int32)) + (1 : Int32))), .val (.int ((((p4.toUInt32 >>> ((8 : Int32) &&& 31).toUInt32).toInt32) &&& (255 : Int32)) + (1 : Int32))), .val (.ref b1), .val (.double (FP.dmul (FP.dadd (FP.dadd (FP.i2d p1) (FP.i2d p2)) (4602678819172646912 : UInt64)) (FP.ddiv (FP.i2d ((p3 &&& (7 : Int32)) + (1 : Int32))) (FP.i2d ((1 : Int32) <<< ((((p3.toUInt32 >>> ((3 : Int32) &&& 31).toUInt32).toInt32) &&& (3 : Int32)) &&& 31)))))), .second, .val (.long ((((2 : Int64) * (p1.toInt64)) + ((2 : Int64) * (p2.toInt64))) + (1 : Int64))), .second, .val (.double (FP.l2d (((((2 : Int64) * (p1.toInt64)) + ((2 : Int64) * (p2.toInt64))) + (1 : Int64)) * (((p3 &&& (7 : Int32)) + (1 : Int32)).toInt64)))), .second] [(.double (FP.dmul (FP.dadd (FP.dadd (FP.i2d p1) (FP.i2d p2)) (4602678819172646912 : UInt64)) (FP.ddiv (FP.i2d ((p3 &&& (7 : Int32)) + (1 : Int32))) (FP.i2d ((1 : Int32) <<< ((((p3.toUInt32 >>> ((3 : Int32) &&& 31).toUInt32).toInt32) &&& (3 : Int32)) &&& 31))))))])) t
    refine XS.iconst X20.here hx rfl (hb hby at_102) ?_
    show Steps p.tables e below (T20.setTop (mkF m 103 #[.val (.int p0), .val (.int p1), .val (.int p2), .val (.int p3), .val (.int p4), .val (.int ((p3 &&& (7 : Int32)) + (1 : Int32))), .val (.int (((p3.toUInt32 >>> ((3 : Int32) &&& 31).toUInt32).toInt32) &&& (3 : Int32))), .val (.double (FP.ddiv (FP.i2d ((p3 &&& (7 : Int32)) + (1 : Int32))) (FP.i2d ((1 : Int32) <<< ((((p3.toUInt32 >>> ((3 : Int32) &&& 31).toUInt32).toInt32) &&& (3 : Int32)) &&& 31))))), .second, .val (.int ((p4 &&& (255 : Int32)) + (1 : Int32))), .val (.int ((((p4.toUInt32 >>> ((8 : Int32) &&& 31).toUInt32).toInt32) &&& (255 : Int32)) + (1 : Int32))), .val (.ref b1), .val (.double (FP.dmul (FP.dadd (FP.dadd (FP.i2d p1) (FP.i2d p2)) (4602678819172646912 : UInt64)) (FP.ddiv (FP.i2d ((p3 &&& (7 : Int32)) + (1 : Int32))) (FP.i2d ((1 : Int32) <<< ((((p3.toUInt32 >>> ((3 : Int32) &&& 31).toUInt32).toInt32) &&& (3 : Int32)) &&& 31)))))), .second, .val (.long ((((2 : Int64) * (p1.toInt64)) + ((2 : Int64) * (p2.toInt64))) + (1 : Int64))), .second, .val (.double (FP.l2d (((((2 : Int64) * (p1.toInt64)) + ((2 : Int64) * (p2.toInt64))) + (1 : Int64)) * (((p3 &&& (7 : Int32)) + (1 : Int32)).toInt64)))), .second] [(.int (2 : Int32)), (.double (FP.dmul (FP.dadd (FP.dadd (FP.i2d p1) (FP.i2d p2)) (4602678819172646912 : UInt64)) (FP.ddiv (FP.i2d ((p3 &&& (7 : Int32)) + (1 : Int32))) (FP.i2d ((1 : Int32) <<< ((((p3.toUInt32 >>> ((3 : Int32) &&& 31).toUInt32).toInt32) &&& (3 : Int32)) &&& 31))))))])) t
    refine XS.iload X20.here hx rfl (hb hby at_103) rfl ?_
    show Steps p.tables e below (T20.setTop (mkF m 105 #[.val (.int p0), .val (.int p1), .val (.int p2), .val (.int p3), .val (.int p4), .val (.int ((p3 &&& (7 : Int32)) + (1 : Int32))), .val (.int (((p3.toUInt32 >>> ((3 : Int32) &&& 31).toUInt32).toInt32) &&& (3 : Int32))), .val (.double (FP.ddiv (FP.i2d ((p3 &&& (7 : Int32)) + (1 : Int32))) (FP.i2d ((1 : Int32) <<< ((((p3.toUInt32 >>> ((3 : Int32) &&& 31).toUInt32).toInt32) &&& (3 : Int32)) &&& 31))))), .second, .val (.int ((p4 &&& (255 : Int32)) + (1 : Int32))), .val (.int ((((p4.toUInt32 >>> ((8 : Int32) &&& 31).toUInt32).toInt32) &&& (255 : Int32)) + (1 : Int32))), .val (.ref b1), .val (.double (FP.dmul (FP.dadd (FP.dadd (FP.i2d p1) (FP.i2d p2)) (4602678819172646912 : UInt64)) (FP.ddiv (FP.i2d ((p3 &&& (7 : Int32)) + (1 : Int32))) (FP.i2d ((1 : Int32) <<< ((((p3.toUInt32 >>> ((3 : Int32) &&& 31).toUInt32).toInt32) &&& (3 : Int32)) &&& 31)))))), .second, .val (.long ((((2 : Int64) * (p1.toInt64)) + ((2 : Int64) * (p2.toInt64))) + (1 : Int64))), .second, .val (.double (FP.l2d (((((2 : Int64) * (p1.toInt64)) + ((2 : Int64) * (p2.toInt64))) + (1 : Int64)) * (((p3 &&& (7 : Int32)) + (1 : Int32)).toInt64)))), .second] [(.int (((p3.toUInt32 >>> ((3 : Int32) &&& 31).toUInt32).toInt32) &&& (3 : Int32))), (.int (2 : Int32)), (.double (FP.dmul (FP.dadd (FP.dadd (FP.i2d p1) (FP.i2d p2)) (4602678819172646912 : UInt64)) (FP.ddiv (FP.i2d ((p3 &&& (7 : Int32)) + (1 : Int32))) (FP.i2d ((1 : Int32) <<< ((((p3.toUInt32 >>> ((3 : Int32) &&& 31).toUInt32).toInt32) &&& (3 : Int32)) &&& 31))))))])) t
    refine XS.ishl X20.here hx rfl (hb hby at_105) rfl ?_
    show Steps p.tables e below (T20.setTop (mkF m 106 #[.val (.int p0), .val (.int p1), .val (.int p2), .val (.int p3), .val (.int p4), .val (.int ((p3 &&& (7 : Int32)) + (1 : Int32))), .val (.int (((p3.toUInt32 >>> ((3 : Int32) &&& 31).toUInt32).toInt32) &&& (3 : Int32))), .val (.double (FP.ddiv (FP.i2d ((p3 &&& (7 : Int32)) + (1 : Int32))) (FP.i2d ((1 : Int32) <<< ((((p3.toUInt32 >>> ((3 : Int32) &&& 31).toUInt32).toInt32) &&& (3 : Int32)) &&& 31))))), .second, .val (.int ((p4 &&& (255 : Int32)) + (1 : Int32))), .val (.int ((((p4.toUInt32 >>> ((8 : Int32) &&& 31).toUInt32).toInt32) &&& (255 : Int32)) + (1 : Int32))), .val (.ref b1), .val (.double (FP.dmul (FP.dadd (FP.dadd (FP.i2d p1) (FP.i2d p2)) (4602678819172646912 : UInt64)) (FP.ddiv (FP.i2d ((p3 &&& (7 : Int32)) + (1 : Int32))) (FP.i2d ((1 : Int32) <<< ((((p3.toUInt32 >>> ((3 : Int32) &&& 31).toUInt32).toInt32) &&& (3 : Int32)) &&& 31)))))), .second, .val (.long ((((2 : Int64) * (p1.toInt64)) + ((2 : Int64) * (p2.toInt64))) + (1 : Int64))), .second, .val (.double (FP.l2d (((((2 : Int64) * (p1.toInt64)) + ((2 : Int64) * (p2.toInt64))) + (1 : Int64)) * (((p3 &&& (7 : Int32)) + (1 : Int32)).toInt64)))), .second] [(.int ((2 : Int32) <<< ((((p3.toUInt32 >>> ((3 : Int32) &&& 31).toUInt32).toInt32) &&& (3 : Int32)) &&& 31))), (.double (FP.dmul (FP.dadd (FP.dadd (FP.i2d p1) (FP.i2d p2)) (4602678819172646912 : UInt64)) (FP.ddiv (FP.i2d ((p3 &&& (7 : Int32)) + (1 : Int32))) (FP.i2d ((1 : Int32) <<< ((((p3.toUInt32 >>> ((3 : Int32) &&& 31).toUInt32).toInt32) &&& (3 : Int32)) &&& 31))))))])) t
    refine XS.i2dS X20.here hx rfl (hb hby at_106) rfl rfl ?_
    show Steps p.tables e below (T20.setTop (mkF m 107 #[.val (.int p0), .val (.int p1), .val (.int p2), .val (.int p3), .val (.int p4), .val (.int ((p3 &&& (7 : Int32)) + (1 : Int32))), .val (.int (((p3.toUInt32 >>> ((3 : Int32) &&& 31).toUInt32).toInt32) &&& (3 : Int32))), .val (.double (FP.ddiv (FP.i2d ((p3 &&& (7 : Int32)) + (1 : Int32))) (FP.i2d ((1 : Int32) <<< ((((p3.toUInt32 >>> ((3 : Int32) &&& 31).toUInt32).toInt32) &&& (3 : Int32)) &&& 31))))), .second, .val (.int ((p4 &&& (255 : Int32)) + (1 : Int32))), .val (.int ((((p4.toUInt32 >>> ((8 : Int32) &&& 31).toUInt32).toInt32) &&& (255 : Int32)) + (1 : Int32))), .val (.ref b1), .val (.double (FP.dmul (FP.dadd (FP.dadd (FP.i2d p1) (FP.i2d p2)) (4602678819172646912 : UInt64)) (FP.ddiv (FP.i2d ((p3 &&& (7 : Int32)) + (1 : Int32))) (FP.i2d ((1 : Int32) <<< ((((p3.toUInt32 >>> ((3 : Int32) &&& 31).toUInt32).toInt32) &&& (3 : Int32)) &&& 31)))))), .second, .val (.long ((((2 : Int64) * (p1.toInt64)) + ((2 : Int64) * (p2.toInt64))) + (1 : Int64))), .second, .val (.double (FP.l2d (((((2 : Int64) * (p1.toInt64)) + ((2 : Int64) * (p2.toInt64))) + (1 : Int64)) * (((p3 &&& (7 : Int32)) + (1 : Int32)).toInt64)))), .second] [(.double (FP.i2d ((2 : Int32) <<< ((((p3.toUInt32 >>> ((3 : Int32) &&& 31).toUInt32).toInt32) &&& (3 : Int32)) &&& 31)))), (.double (FP.dmul (FP.dadd (FP.dadd (FP.i2d p1) (FP.i2d p2)) (4602678819172646912 : UInt64)) (FP.ddiv (FP.i2d ((p3 &&& (7 : Int32)) + (1 : Int32))) (FP.i2d ((1 : Int32) <<< ((((p3.toUInt32 >>> ((3 : Int32) &&& 31).toUInt32).toInt32) &&& (3 : Int32)) &&& 31))))))])) t
    refine XS.dmulS X20.here hx rfl (hb hby at_107) rfl hn107 rfl ?_
    show Steps p.tables e below (T20.setTop (mkF m 108 #[.val (.int p0), .val (.int p1), .val (.int p2), .val (.int p3), .val (.int p4), .val (.int ((p3 &&& (7 : Int32)) + (1 : Int32))), .val (.int (((p3.toUInt32 >>> ((3 : Int32) &&& 31).toUInt32).toInt32) &&& (3 : Int32))), .val (.double (FP.ddiv (FP.i2d ((p3 &&& (7 : Int32)) + (1 : Int32))) (FP.i2d ((1 : Int32) <<< ((((p3.toUInt32 >>> ((3 : Int32) &&& 31).toUInt32).toInt32) &&& (3 : Int32)) &&& 31))))), .second, .val (.int ((p4 &&& (255 : Int32)) + (1 : Int32))), .val (.int ((((p4.toUInt32 >>> ((8 : Int32) &&& 31).toUInt32).toInt32) &&& (255 : Int32)) + (1 : Int32))), .val (.ref b1), .val (.double (FP.dmul (FP.dadd (FP.dadd (FP.i2d p1) (FP.i2d p2)) (4602678819172646912 : UInt64)) (FP.ddiv (FP.i2d ((p3 &&& (7 : Int32)) + (1 : Int32))) (FP.i2d ((1 : Int32) <<< ((((p3.toUInt32 >>> ((3 : Int32) &&& 31).toUInt32).toInt32) &&& (3 : Int32)) &&& 31)))))), .second, .val (.long ((((2 : Int64) * (p1.toInt64)) + ((2 : Int64) * (p2.toInt64))) + (1 : Int64))), .second, .val (.double (FP.l2d (((((2 : Int64) * (p1.toInt64)) + ((2 : Int64) * (p2.toInt64))) + (1 : Int64)) * (((p3 &&& (7 : Int32)) + (1 : Int32)).toInt64)))), .second] [(.double (FP.dmul (FP.dmul (FP.dadd (FP.dadd (FP.i2d p1) (FP.i2d p2)) (4602678819172646912 : UInt64)) (FP.ddiv (FP.i2d ((p3 &&& (7 : Int32)) + (1 : Int32))) (FP.i2d ((1 : Int32) <<< ((((p3.toUInt32 >>> ((3 : Int32) &&& 31).toUInt32).toInt32) &&& (3 : Int32)) &&& 31))))) (FP.i2d ((2 : Int32) <<< ((((p3.toUInt32 >>> ((3 : Int32) &&& 31).toUInt32).toInt32) &&& (3 : Int32)) &&& 31)))))])) t
    refine XS.dload X20.here hx rfl (hb hby at_108) rfl ?_
    show Steps p.tables e below (T20.setTop (mkF m 110 #[.val (.int p0), .val (.int p1), .val (.int p2), .val (.int p3), .val (.int p4), .val (.int ((p3 &&& (7 : Int32)) + (1 : Int32))), .val (.int (((p3.toUInt32 >>> ((3 : Int32) &&& 31).toUInt32).toInt32) &&& (3 : Int32))), .val (.double (FP.ddiv (FP.i2d ((p3 &&& (7 : Int32)) + (1 : Int32))) (FP.i2d ((1 : Int32) <<< ((((p3.toUInt32 >>> ((3 : Int32) &&& 31).toUInt32).toInt32) &&& (3 : Int32)) &&& 31))))), .second, .val (.int ((p4 &&& (255 : Int32)) + (1 : Int32))), .val (.int ((((p4.toUInt32 >>> ((8 : Int32) &&& 31).toUInt32).toInt32) &&& (255 : Int32)) + (1 : Int32))), .val (.ref b1), .val (.double (FP.dmul (FP.dadd (FP.dadd (FP.i2d p1) (FP.i2d p2)) (4602678819172646912 : UInt64)) (FP.ddiv (FP.i2d ((p3 &&& (7 : Int32)) + (1 : Int32))) (FP.i2d ((1 : Int32) <<< ((((p3.toUInt32 >>> ((3 : Int32) &&& 31).toUInt32).toInt32) &&& (3 : Int32)) &&& 31)))))), .second, .val (.long ((((2 : Int64) * (p1.toInt64)) + ((2 : Int64) * (p2.toInt64))) + (1 : Int64))), .second, .val (.double (FP.l2d (((((2 : Int64) * (p1.toInt64)) + ((2 : Int64) * (p2.toInt64))) + (1 : Int64)) * (((p3 &&& (7 : Int32)) + (1 : Int32)).toInt64)))), .second] [(.double (FP.l2d (((((2 : Int64) * (p1.toInt64)) + ((2 : Int64) * (p2.toInt64))) + (1 : Int64)) * (((p3 &&& (7 : Int32)) + (1 : Int32)).toInt64)))), (.double (FP.dmul (FP.dmul (FP.dadd (FP.dadd (FP.i2d p1) (FP.i2d p2)) (4602678819172646912 : UInt64)) (FP.ddiv (FP.i2d ((p3 &&& (7 : Int32)) + (1 : Int32))) (FP.i2d ((1 : Int32) <<< ((((p3.toUInt32 >>> ((3 : Int32) &&& 31).toUInt32).toInt32) &&& (3 : Int32)) &&& 31))))) (FP.i2d ((2 : Int32) <<< ((((p3.toUInt32 >>> ((3 : Int32) &&& 31).toUInt32).toInt32) &&& (3 : Int32)) &&& 31)))))])) t
    refine XS.dcmpS X20.here hx rfl (hb hby at_110) rfl hq110 ?_
    show Steps p.tables e below (T20.setTop (mkF m 111 #[.val (.int p0), .val (.int p1), .val (.int p2), .val (.int p3), .val (.int p4), .val (.int ((p3 &&& (7 : Int32)) + (1 : Int32))), .val (.int (((p3.toUInt32 >>> ((3 : Int32) &&& 31).toUInt32).toInt32) &&& (3 : Int32))), .val (.double (FP.ddiv (FP.i2d ((p3 &&& (7 : Int32)) + (1 : Int32))) (FP.i2d ((1 : Int32) <<< ((((p3.toUInt32 >>> ((3 : Int32) &&& 31).toUInt32).toInt32) &&& (3 : Int32)) &&& 31))))), .second, .val (.int ((p4 &&& (255 : Int32)) + (1 : Int32))), .val (.int ((((p4.toUInt32 >>> ((8 : Int32) &&& 31).toUInt32).toInt32) &&& (255 : Int32)) + (1 : Int32))), .val (.ref b1), .val (.double (FP.dmul (FP.dadd (FP.dadd (FP.i2d p1) (FP.i2d p2)) (4602678819172646912 : UInt64)) (FP.ddiv (FP.i2d ((p3 &&& (7 : Int32)) + (1 : Int32))) (FP.i2d ((1 : Int32) <<< ((((p3.toUInt32 >>> ((3 : Int32) &&& 31).toUInt32).toInt32) &&& (3 : Int32)) &&& 31)))))), .second, .val (.long ((((2 : Int64) * (p1.toInt64)) + ((2 : Int64) * (p2.toInt64))) + (1 : Int64))), .second, .val (.double (FP.l2d (((((2 : Int64) * (p1.toInt64)) + ((2 : Int64) * (p2.toInt64))) + (1 : Int64)) * (((p3 &&& (7 : Int32)) + (1 : Int32)).toInt64)))), .second] [(.int (0 : Int32))])) t
    refine XS.ifNo X20.here hx rfl (hb hby at_111) rfl (by decide) ?_
    show Steps p.tables e below (T20.setTop (mkF m 114 #[.val (.int p0), .val (.int p1), .val (.int p2), .val (.int p3), .val (.int p4), .val (.int ((p3 &&& (7 : Int32)) + (1 : Int32))), .val (.int (((p3.toUInt32 >>> ((3 : Int32) &&& 31).toUInt32).toInt32) &&& (3 : Int32))), .val (.double (FP.ddiv (FP.i2d ((p3 &&& (7 : Int32)) + (1 : Int32))) (FP.i2d ((1 : Int32) <<< ((((p3.toUInt32 >>> ((3 : Int32) &&& 31).toUInt32).toInt32) &&& (3 : Int32)) &&& 31))))), .second, .val (.int ((p4 &&& (255 : Int32)) + (1 : Int32))), .val (.int ((((p4.toUInt32 >>> ((8 : Int32) &&& 31).toUInt32).toInt32) &&& (255 : Int32)) + (1 : Int32))), .val (.ref b1), .val (.double (FP.dmul (FP.dadd (FP.dadd (FP.i2d p1) (FP.i2d p2)) (4602678819172646912 : UInt64)) (FP.ddiv (FP.i2d ((p3 &&& (7 : Int32)) + (1 : Int32))) (FP.i2d ((1 : Int32) <<< ((((p3.toUInt32 >>> ((3 : Int32) &&& 31).toUInt32).toInt32) &&& (3 : Int32)) &&& 31)))))), .second, .val (.long ((((2 : Int64) * (p1.toInt64)) + ((2 : Int64) * (p2.toInt64))) + (1 : Int64))), .second, .val (.double (FP.l2d (((((2 : Int64) * (p1.toInt64)) + ((2 : Int64) * (p2.toInt64))) + (1 : Int64)) * (((p3 &&& (7 : Int32)) + (1 : Int32)).toInt64)))), .second] [])) t
    refine XS.iconst X20.here hx rfl (hb hby at_114) ?_
    show Steps p.tables e below (T20.setTop (mkF m 115 #[.val (.int p0), .val (.int p1), .val (.int p2), .val (.int p3), .val (.int p4), .val (.int ((p3 &&& (7 : Int32)) + (1 : Int32))), .val (.int (((p3.toUInt32 >>> ((3 : Int32) &&& 31).toUInt32).toInt32) &&& (3 : Int32))), .val (.double (FP.ddiv (FP.i2d ((p3 &&& (7 : Int32)) + (1 : Int32))) (FP.i2d ((1 : Int32) <<< ((((p3.toUInt32 >>> ((3 : Int32) &&& 31).toUInt32).toInt32) &&& (3 : Int32)) &&& 31))))), .second, .val (.int ((p4 &&& (255 : Int32)) + (1 : Int32))), .val (.int ((((p4.toUInt32 >>> ((8 : Int32) &&& 31).toUInt32).toInt32) &&& (255 : Int32)) + (1 : Int32))), .val (.ref b1), .val (.double (FP.dmul (FP.dadd (FP.dadd (FP.i2d p1) (FP.i2d p2)) (4602678819172646912 : UInt64)) (FP.ddiv (FP.i2d ((p3 &&& (7 : Int32)) + (1 : Int32))) (FP.i2d ((1 : Int32) <<< ((((p3.toUInt32 >>> ((3 : Int32) &&& 31).toUInt32).toInt32) &&& (3 : Int32)) &&& 31)))))), .second, .val (.long ((((2 : Int64) * (p1.toInt64)) + ((2 : Int64) * (p2.toInt64))) + (1 : Int64))), .second, .val (.double (FP.l2d (((((2 : Int64) * (p1.toInt64)) + ((2 : Int64) * (p2.toInt64))) + (1 : Int64)) * (((p3 &&& (7 : Int32)) + (1 : Int32)).toInt64)))), .second] [(.int (1 : Int32))])) t
    refine XS.goto X20.here hx rfl (pc0 := 115) (pc' := 119) rfl (hb hby at_115) (by decide) (by decide) ?_
    exact k
  refine own_retZ X20 hx hlk Bd.returns (hb hby at_119) rfl (by decide) (by decide) ?_
  show Q0 Z p0 p1 p2 p3 p4 h0 n0 (some (.int (1 : Int32))) T20.heap _
  exact ⟨rfl, n21⟩
set_option maxRecDepth 65536 in
set_option maxHeartbeats 40000000 in
theorem comes_1 {Post : Tables → Env → Array Value → State → Outcome → State → Prop} (hpost : ∀ tb e args s v u, (limb_1_1.after args s (.returned v) u = true ∧ limb_1_2.after args s (.returned v) u = true ∧ True) → FrameEnd s (.returned v) u (Jvm.fieldLocs frame_1_writes args s ++ Jvm.arrayLocs frame_1_arrays args s ++ Jvm.staticLocs frame_1_statics s) 16 128 → Post tb e args s (.returned v) u) :
    ArmFor flags0 classFile x code maxLocals ret World_1 tables_1 room_1 Calls_1 rest_1 Pre_1 Post := by
  intro l hfl _ _ p e ha hc hk s m args below hf hA hF happ hP
  obtain ⟨hcalls, hrest, hpre⟩ := hP
  obtain ⟨-, -, -, hnamed, -, -, -, hat⟩ := (Spec.applies_iff hf).mp happ
  obtain ⟨hg, hn⟩ := and_e (Cond.before_iff.mp (show (Jvm.Cond.and given_1 narrow_1).before args s = true from hpre))
  obtain ⟨g0, gg0⟩ := and_e hg
  obtain ⟨g1, gg1⟩ := and_e gg0
  obtain ⟨g2, gg2⟩ := and_e gg1
  obtain ⟨g3, gg3⟩ := and_e gg2
  obtain ⟨g4, gg4⟩ := and_e gg3
  obtain ⟨w0, w1, w2, w3, w4, rfl⟩ : ∃ w0 w1 w2 w3 w4 : Value, args = #[w0, w1, w2, w3, w4] := by
    have hs : args.size = 5 := by simpa [Cond.value, given_1] using g0
    obtain ⟨L⟩ := args
    match L, hs with
    | [w0, w1, w2, w3, w4], _ => exact ⟨w0, w1, w2, w3, w4, rfl⟩
  have hw := fun d (hd : d ∈ tables_1) => atoms_spec (ws := Jvm.Cond.code x code maxLocals ret :: tables_1) hat d (List.mem_cons_of_mem _ hd)
  have hfit : Fit s := fun {y c} hc i hi => by
    obtain ⟨ha, rfl⟩ := Array.getElem?_eq_some_iff.mp hc
    have q := List.all_eq_true.mp ((Array.all_eq_true_iff_forall_mem.mp hF) _ (Array.getElem_mem ha)) i (List.mem_range.mpr hi)
    simpa [Array.getElem?_eq_getElem hi] using q
  obtain ⟨p0, ei0⟩ := is_v g1
  obtain rfl : w0 = (.int p0) := Option.some.inj ei0
  obtain ⟨p1, ei1⟩ := is_v g2
  obtain rfl : w1 = (.int p1) := Option.some.inj ei1
  obtain ⟨p2, ei2⟩ := is_v g3
  obtain rfl : w2 = (.int p2) := Option.some.inj ei2
  obtain ⟨p3, ei3⟩ := is_v g4
  obtain rfl : w3 = (.int p3) := Option.some.inj ei3
  obtain ⟨p4, ei4⟩ := is_v gg4
  obtain rfl : w4 = (.int p4) := Option.some.inj ei4
  obtain ⟨n, o, h1, h2, h3, _, L, rfl, ⟨rfl, N⟩, hq⟩ := rm0 l s _ hw tables_1 p0 p1 p2 p3 p4 s.heap s.heap.size (Nat.le_refl _) ((own_d p3).elim fun _ h => h.nn) ((own_d p3).elim fun _ h => own_pos h (by have := own_s p3; omega) .l) ((own_d p3).elim fun _ h => own_max h.fin .l) (own_rows p4) (own_rows _) (own_mul p1 p2 p3) ((own_law p1 p2 p3).nn) ((own_law p1 p2 p3).eq (own_want p1 p2 p3) rfl .l) p e ha hc hk s m _ below hf ((Spec.applies_iff_loose hf).mp happ).1 ⟨rfl, State.Warmed39.refl s, rfl⟩ trivial
  refine ⟨n, _, h1, h2, h3, hpost _ _ _ _ _ _ ⟨Cond.after_iff.mpr rfl, Cond.after_iff.mpr (eq_i res_at (Term.int_eval (1)) rfl), trivial⟩ ⟨hq.1, hq.2.1, (hq.2.2.sift fun y hy => Or.inr (N y hy)).mono (by decide) (by decide)⟩⟩
theorem main_1_1 : Claimed_1_1 := comes_1 fun _ _ _ _ _ _ h hF => ⟨h.1, hF⟩
theorem main_1_2 : Claimed_1_2 := comes_1 fun _ _ _ _ _ _ h hF => ⟨h.2.1, hF⟩
end Jvm.Pilot.@@N@@
namespace Jvm.Pilot.@@N@@
open Jvm Jvm.ClassFile Sem Op Lib Jvm.Free Jvm.Stand Jvm.Pilot.@@N@@.Jvm.D
/-! MADE BY PROGRAM (witnessworld.py) out of the Statement's table words and the real class files: 16 classes; the members and pool entries that the words name. The judged class is class 1, her method 1. -/
namespace start1
open Jvm.ClassFile
def u (s : String) : CpInfo := .utf8 (stringToUtf16 s)
/-- a pool by its gaps: so many unusable entries, then the entry; so many at the end -/
def gap : Nat → List CpInfo → List CpInfo
  | 0, r => r
  | n + 1, r => .unusable :: gap n r
def poolList (es : List (Nat × CpInfo)) (last : Nat) : List CpInfo := es.foldr (fun e r => gap e.1 (e.2 :: r)) (gap last [])
def pool (es : List (Nat × CpInfo)) (last : Nat) : Array CpInfo := ⟨poolList es last⟩
def fileOf (pool : Array CpInfo) (this : Nat) (attrs : Array Attribute := #[]) (ms : Array MethodInfo := #[]) (fl : Nat := 33) (sup : Nat := 0) (ifs : Array Nat := #[]) (fds : Array FieldInfo := #[]) : ClassFile where
  minorVersion := 0
  majorVersion := 65
  constantPool := pool
  accessFlags := fl
  thisClass := this
  superClass := sup
  interfaces := ifs
  fields := fds
  methods := ms
  attributes := attrs
def plain (name : String) (sup : Option ClassId) : Class where
  name := name
  kind := .ordinary
  loader := none
  accessFlags := 33
  super := sup
  interfaces := #[]
  cf := none
  fields := #[]
  methods := #[]
  instanceTypes := #[]
  staticTypes := #[]
  resolved := #[]
  callSites := []
  init := .initialized
  statics := none
  mirror := none

def pool0 : Array CpInfo := pool [(5, u "<init>"), (0, u "()V"), (1, .class_ 10), (1, u "java/lang/Object")] 113

def k0c0 : Code := { maxStack := 0, maxLocals := 1, code := object_method_1_code, exceptionTable := #[], attributes := #[] }
def k0m0 : Method := { name := "<init>", desc := "()V", sig := { parameters := [], returnType := none }, accessFlags := 1, code := some k0c0 }
/-- java/lang/Object -/
def k0 : Class := { plain "java/lang/Object" none with
  accessFlags := 33
  interfaces := #[]
  cf := some (fileOf pool0 8 #[] #[{ accessFlags := 1, nameIndex := 5, descriptorIndex := 6, attributes := #[] }] 33 0 #[] #[])
  fields := #[]
  methods := #[k0m0]
  instanceTypes := #[]
  staticTypes := #[]
  resolved := Array.replicate 124 none
  statics := none }

def pool1 : Array CpInfo := pool [(2, .class_ 4), (1, u "java/lang/Object"), (0, u "<init>"), (0, u "()V"), (0, .class_ 8), (0, u "com/example/weirbench/weirbench/grid/GridGeometry"), (0, .methodref 7 10), (0, .nameAndType 5 11), (0, u "(IIDII)V"), (0, .methodref 7 13), (0, .nameAndType 14 15), (0, u "centreY"), (0, u "(I)D"), (0, .long 2), (1, .class_ 19), (0, u "com/example/weirbench/weirbench/grid/GridGeometryCentreYPinLaw"), (2, u "law"), (0, u "(IIIII)Z")] 3

def k1m0 : Method := { name := "<init>", desc := "()V", sig := { parameters := [], returnType := none }, accessFlags := 2, code := none }
def k1c1 : Code := { maxStack := 8, maxLocals := 18, code := code, exceptionTable := #[], attributes := #[] }
def k1m1 : Method := { name := "law", desc := "(IIIII)Z", sig := { parameters := [.int, .int, .int, .int, .int], returnType := some .boolean }, accessFlags := 9, code := some k1c1 }
/-- com/example/weirbench/weirbench/grid/GridGeometryCentreYPinLaw -/
def k1 : Class := { plain "com/example/weirbench/weirbench/grid/GridGeometryCentreYPinLaw" (some 0) with
  accessFlags := 49
  interfaces := #[]
  cf := some (fileOf pool1 18 #[] #[{ accessFlags := 2, nameIndex := 5, descriptorIndex := 6, attributes := #[] }, { accessFlags := 9, nameIndex := 22, descriptorIndex := 23, attributes := #[] }] 49 2 #[] #[])
  fields := #[]
  methods := #[k1m0, k1m1]
  instanceTypes := #[]
  staticTypes := #[]
  resolved := Array.replicate 27 none
  statics := none }

def pool2 : Array CpInfo := pool [(1, .methodref 2 3), (0, .class_ 4), (0, .nameAndType 5 6), (0, u "java/lang/Object"), (0, u "<init>"), (0, u "()V"), (0, .class_ 8), (0, u "java/lang/Record")] 13

def k2c0 : Code := { maxStack := 1, maxLocals := 1, code := jdk_30_method_1_code, exceptionTable := #[], attributes := #[] }
def k2m0 : Method := { name := "<init>", desc := "()V", sig := { parameters := [], returnType := none }, accessFlags := 4, code := some k2c0 }
/-- java/lang/Record -/
def k2 : Class := { plain "java/lang/Record" (some 0) with
  accessFlags := 1057
  interfaces := #[]
  cf := some (fileOf pool2 7 #[] #[{ accessFlags := 4, nameIndex := 5, descriptorIndex := 6, attributes := #[] }] 1057 2 #[] #[])
  fields := #[]
  methods := #[k2m0]
  instanceTypes := #[]
  staticTypes := #[]
  resolved := Array.replicate 22 none
  statics := none }

def pool3 : Array CpInfo := pool [(1, .methodref 2 3), (0, .class_ 4), (0, .nameAndType 5 6), (0, u "java/lang/Record"), (0, u "<init>"), (0, u "()V"), (0, .methodref 8 9), (0, .class_ 10), (0, .nameAndType 11 12), (0, u "java/lang/Double"), (0, u "isInfinite"), (0, u "(D)Z"), (12, .fieldref 26 27), (0, .class_ 28), (0, .nameAndType 29 30), (0, u "com/example/weirbench/weirbench/grid/GridGeometry"), (0, u "originColumn"), (0, u "I"), (0, .fieldref 26 32), (0, .nameAndType 33 30), (0, u "originRow"), (0, .fieldref 26 35), (0, .nameAndType 36 37), (0, u "cellSize"), (0, u "D"), (0, .fieldref 26 39), (0, .nameAndType 40 30), (0, u "rows"), (0, .fieldref 26 42), (0, .nameAndType 43 30), (0, u "columns"), (30, u "(IIDII)V"), (22, .double 4602678819172646912), (28, u "(I)D"), (0, u "centreY")] 40

def k3c0 : Code := { maxStack := 4, maxLocals := 7, code := prog_32_method_1_code, exceptionTable := #[], attributes := #[] }
def k3m0 : Method := { name := "<init>", desc := "(IIDII)V", sig := { parameters := [.int, .int, .double, .int, .int], returnType := none }, accessFlags := 1, code := some k3c0 }
def k3c1 : Code := { maxStack := 4, maxLocals := 2, code := prog_32_method_9_code, exceptionTable := #[], attributes := #[] }
def k3m1 : Method := { name := "centreY", desc := "(I)D", sig := { parameters := [.int], returnType := some .double }, accessFlags := 1, code := some k3c1 }
/-- com/example/weirbench/weirbench/grid/GridGeometry -/
def k3 : Class := { plain "com/example/weirbench/weirbench/grid/GridGeometry" (some 2) with
  accessFlags := 49
  interfaces := #[]
  cf := some (fileOf pool3 26 #[] #[{ accessFlags := 1, nameIndex := 5, descriptorIndex := 74, attributes := #[] }, { accessFlags := 1, nameIndex := 127, descriptorIndex := 126, attributes := #[] }] 49 2 #[] #[{ accessFlags := 18, nameIndex := 29, descriptorIndex := 30, attributes := #[] }, { accessFlags := 18, nameIndex := 33, descriptorIndex := 30, attributes := #[] }, { accessFlags := 18, nameIndex := 36, descriptorIndex := 37, attributes := #[] }, { accessFlags := 18, nameIndex := 40, descriptorIndex := 30, attributes := #[] }, { accessFlags := 18, nameIndex := 43, descriptorIndex := 30, attributes := #[] }])
  fields := #[{ name := "originColumn", type := .int, accessFlags := 18, slot := 0, constantValue := 0 }, { name := "originRow", type := .int, accessFlags := 18, slot := 1, constantValue := 0 }, { name := "cellSize", type := .double, accessFlags := 18, slot := 2, constantValue := 0 }, { name := "rows", type := .int, accessFlags := 18, slot := 3, constantValue := 0 }, { name := "columns", type := .int, accessFlags := 18, slot := 4, constantValue := 0 }]
  methods := #[k3m0, k3m1]
  instanceTypes := #[.int, .int, .double, .int, .int]
  staticTypes := #[]
  resolved := Array.replicate 168 none
  statics := none }

def pool4 : Array CpInfo := pool [(1, .class_ 2), (0, u "java/io/Serializable"), (0, .class_ 4), (0, u "java/lang/Object")] 2

/-- java/io/Serializable -/
def k4 : Class := { plain "java/io/Serializable" (some 0) with
  accessFlags := 1537
  interfaces := #[]
  cf := some (fileOf pool4 1 #[] #[] 1537 3 #[] #[])
  fields := #[]
  methods := #[]
  instanceTypes := #[]
  staticTypes := #[]
  resolved := Array.replicate 7 none
  statics := none }

def pool5 : Array CpInfo := pool [(2, .class_ 4), (1, u "java/lang/Object"), (0, u "<init>"), (0, u "()V"), (1, .class_ 10), (1, u "java/lang/Number"), (2, .class_ 14), (0, u "java/io/Serializable"), (0, u "serialVersionUID"), (0, u "J")] 20

def k5m0 : Method := { name := "<init>", desc := "()V", sig := { parameters := [], returnType := none }, accessFlags := 1, code := none }
/-- java/lang/Number -/
def k5 : Class := { plain "java/lang/Number" (some 0) with
  accessFlags := 1057
  interfaces := #[4]
  cf := some (fileOf pool5 8 #[] #[{ accessFlags := 1, nameIndex := 5, descriptorIndex := 6, attributes := #[] }] 1057 2 #[13] #[{ accessFlags := 26, nameIndex := 15, descriptorIndex := 16, attributes := #[] }])
  fields := #[{ name := "serialVersionUID", type := .long, accessFlags := 26, slot := 0, constantValue := 0 }]
  methods := #[k5m0]
  instanceTypes := #[]
  staticTypes := #[.long]
  resolved := Array.replicate 37 none
  statics := none }

def pool6 : Array CpInfo := pool [(1, .class_ 2), (0, u "java/lang/Comparable"), (0, .class_ 4), (0, u "java/lang/Object")] 7

/-- java/lang/Comparable -/
def k6 : Class := { plain "java/lang/Comparable" (some 0) with
  accessFlags := 1537
  interfaces := #[]
  cf := some (fileOf pool6 1 #[] #[] 1537 3 #[] #[])
  fields := #[]
  methods := #[]
  instanceTypes := #[]
  staticTypes := #[]
  resolved := Array.replicate 12 none
  statics := none }

def pool7 : Array CpInfo := pool [(1, .class_ 2), (0, u "java/lang/constant/Constable"), (0, .class_ 4), (0, u "java/lang/Object")] 6

/-- java/lang/constant/Constable -/
def k7 : Class := { plain "java/lang/constant/Constable" (some 0) with
  accessFlags := 1537
  interfaces := #[]
  cf := some (fileOf pool7 1 #[] #[] 1537 3 #[] #[])
  fields := #[]
  methods := #[]
  instanceTypes := #[]
  staticTypes := #[]
  resolved := Array.replicate 11 none
  statics := none }

def pool8 : Array CpInfo := pool [(1, .class_ 2), (0, u "java/lang/constant/ConstantDesc"), (0, .class_ 4), (0, u "java/lang/Object")] 32

/-- java/lang/constant/ConstantDesc -/
def k8 : Class := { plain "java/lang/constant/ConstantDesc" (some 0) with
  accessFlags := 1537
  interfaces := #[]
  cf := some (fileOf pool8 1 #[] #[] 1537 3 #[] #[])
  fields := #[]
  methods := #[]
  instanceTypes := #[]
  staticTypes := #[]
  resolved := Array.replicate 37 none
  statics := none }

def pool9 : Array CpInfo := pool [(1, .class_ 2), (0, u "java/lang/Double"), (11, u "(D)Z"), (8, .class_ 25), (1, u "java/lang/Math"), (12, .methodref 23 39), (0, .nameAndType 40 41), (0, u "abs"), (0, u "(D)D"), (69, .double 9218868437227405311), (2, .class_ 116), (1, u "java/lang/Number"), (3, u "value"), (0, u "D"), (5, u "isInfinite"), (45, u "TYPE"), (0, u "Ljava/lang/Class;"), (0, .class_ 176), (0, u "java/lang/Comparable"), (0, .class_ 178), (0, u "java/lang/constant/Constable"), (0, .class_ 180), (0, u "java/lang/constant/ConstantDesc"), (0, u "POSITIVE_INFINITY"), (3, u "NEGATIVE_INFINITY"), (2, u "NaN"), (2, u "MAX_VALUE"), (0, u "MIN_NORMAL"), (0, u "MIN_VALUE"), (2, u "SIZE"), (0, u "I"), (1, u "PRECISION"), (1, u "MAX_EXPONENT"), (1, u "MIN_EXPONENT"), (1, u "BYTES"), (3, u "serialVersionUID"), (0, u "J")] 79

def k9c0 : Code := { maxStack := 4, maxLocals := 2, code := jdk_117_method_7_code, exceptionTable := #[], attributes := #[] }
def k9m0 : Method := { name := "isInfinite", desc := "(D)Z", sig := { parameters := [.double], returnType := some .boolean }, accessFlags := 9, code := some k9c0 }
/-- java/lang/Double -/
def k9 : Class := { plain "java/lang/Double" (some 5) with
  accessFlags := 49
  interfaces := #[6, 7, 8]
  cf := some (fileOf pool9 1 #[] #[{ accessFlags := 9, nameIndex := 127, descriptorIndex := 14, attributes := #[] }] 49 114 #[175, 177, 179] #[{ accessFlags := 25, nameIndex := 181, descriptorIndex := 121, attributes := #[] }, { accessFlags := 25, nameIndex := 185, descriptorIndex := 121, attributes := #[] }, { accessFlags := 25, nameIndex := 188, descriptorIndex := 121, attributes := #[] }, { accessFlags := 25, nameIndex := 191, descriptorIndex := 121, attributes := #[] }, { accessFlags := 25, nameIndex := 192, descriptorIndex := 121, attributes := #[] }, { accessFlags := 25, nameIndex := 193, descriptorIndex := 121, attributes := #[] }, { accessFlags := 25, nameIndex := 196, descriptorIndex := 197, attributes := #[] }, { accessFlags := 25, nameIndex := 199, descriptorIndex := 197, attributes := #[] }, { accessFlags := 25, nameIndex := 201, descriptorIndex := 197, attributes := #[] }, { accessFlags := 25, nameIndex := 203, descriptorIndex := 197, attributes := #[] }, { accessFlags := 25, nameIndex := 205, descriptorIndex := 197, attributes := #[] }, { accessFlags := 25, nameIndex := 173, descriptorIndex := 174, attributes := #[] }, { accessFlags := 18, nameIndex := 120, descriptorIndex := 121, attributes := #[] }, { accessFlags := 26, nameIndex := 209, descriptorIndex := 210, attributes := #[] }])
  fields := #[{ name := "POSITIVE_INFINITY", type := .double, accessFlags := 25, slot := 0, constantValue := 0 }, { name := "NEGATIVE_INFINITY", type := .double, accessFlags := 25, slot := 1, constantValue := 0 }, { name := "NaN", type := .double, accessFlags := 25, slot := 2, constantValue := 0 }, { name := "MAX_VALUE", type := .double, accessFlags := 25, slot := 3, constantValue := 0 }, { name := "MIN_NORMAL", type := .double, accessFlags := 25, slot := 4, constantValue := 0 }, { name := "MIN_VALUE", type := .double, accessFlags := 25, slot := 5, constantValue := 0 }, { name := "SIZE", type := .int, accessFlags := 25, slot := 6, constantValue := 0 }, { name := "PRECISION", type := .int, accessFlags := 25, slot := 7, constantValue := 0 }, { name := "MAX_EXPONENT", type := .int, accessFlags := 25, slot := 8, constantValue := 0 }, { name := "MIN_EXPONENT", type := .int, accessFlags := 25, slot := 9, constantValue := 0 }, { name := "BYTES", type := .int, accessFlags := 25, slot := 10, constantValue := 0 }, { name := "TYPE", type := (.object "java/lang/Class"), accessFlags := 25, slot := 11, constantValue := 0 }, { name := "value", type := .double, accessFlags := 18, slot := 0, constantValue := 0 }, { name := "serialVersionUID", type := .long, accessFlags := 26, slot := 12, constantValue := 0 }]
  methods := #[k9m0]
  instanceTypes := #[.double]
  staticTypes := #[.double, .double, .double, .double, .double, .double, .int, .int, .int, .int, .int, (.object "java/lang/Class"), .long]
  resolved := Array.replicate 290 none
  statics := none }

def pool10 : Array CpInfo := pool [(1, .class_ 2), (0, u "java/lang/Math"), (1, .class_ 6), (1, u "java/lang/Object"), (0, u "<init>"), (0, u "()V"), (5, u "(D)D"), (83, .class_ 100), (1, u "java/lang/Math$RandomNumberGeneratorHolder"), (23, u "abs"), (47, u "negativeZeroFloatBits"), (0, u "J"), (2, u "negativeZeroDoubleBits"), (68, u "$assertionsDisabled"), (0, u "Z"), (91, u "twoToTheDoubleScaleDown"), (0, u "D"), (4, u "twoToTheDoubleScaleUp"), (9, u "E"), (3, u "PI"), (2, u "TAU"), (2, u "DEGREES_TO_RADIANS"), (0, u "RADIANS_TO_DEGREES")] 94

def k10m0 : Method := { name := "<init>", desc := "()V", sig := { parameters := [], returnType := none }, accessFlags := 2, code := none }
def k10c1 : Code := { maxStack := 4, maxLocals := 2, code := jdk_29_method_64_code, exceptionTable := #[], attributes := #[] }
def k10m1 : Method := { name := "abs", desc := "(D)D", sig := { parameters := [.double], returnType := some .double }, accessFlags := 9, code := some k10c1 }
/-- java/lang/Math -/
def k10 : Class := { plain "java/lang/Math" (some 0) with
  accessFlags := 49
  interfaces := #[]
  cf := some (fileOf pool10 1 #[.nestMembers #[98]] #[{ accessFlags := 2, nameIndex := 7, descriptorIndex := 8, attributes := #[] }, { accessFlags := 9, nameIndex := 124, descriptorIndex := 14, attributes := #[] }] 49 4 #[] #[{ accessFlags := 25, nameIndex := 354, descriptorIndex := 339, attributes := #[] }, { accessFlags := 25, nameIndex := 358, descriptorIndex := 339, attributes := #[] }, { accessFlags := 25, nameIndex := 361, descriptorIndex := 339, attributes := #[] }, { accessFlags := 26, nameIndex := 364, descriptorIndex := 339, attributes := #[] }, { accessFlags := 26, nameIndex := 365, descriptorIndex := 339, attributes := #[] }, { accessFlags := 26, nameIndex := 172, descriptorIndex := 173, attributes := #[] }, { accessFlags := 26, nameIndex := 176, descriptorIndex := 173, attributes := #[] }, { accessFlags := 8, nameIndex := 344, descriptorIndex := 339, attributes := #[] }, { accessFlags := 8, nameIndex := 338, descriptorIndex := 339, attributes := #[] }, { accessFlags := 4120, nameIndex := 245, descriptorIndex := 246, attributes := #[] }])
  fields := #[{ name := "E", type := .double, accessFlags := 25, slot := 0, constantValue := 0 }, { name := "PI", type := .double, accessFlags := 25, slot := 1, constantValue := 0 }, { name := "TAU", type := .double, accessFlags := 25, slot := 2, constantValue := 0 }, { name := "DEGREES_TO_RADIANS", type := .double, accessFlags := 26, slot := 3, constantValue := 0 }, { name := "RADIANS_TO_DEGREES", type := .double, accessFlags := 26, slot := 4, constantValue := 0 }, { name := "negativeZeroFloatBits", type := .long, accessFlags := 26, slot := 5, constantValue := 0 }, { name := "negativeZeroDoubleBits", type := .long, accessFlags := 26, slot := 6, constantValue := 0 }, { name := "twoToTheDoubleScaleUp", type := .double, accessFlags := 8, slot := 7, constantValue := 0 }, { name := "twoToTheDoubleScaleDown", type := .double, accessFlags := 8, slot := 8, constantValue := 0 }, { name := "$assertionsDisabled", type := .boolean, accessFlags := 4120, slot := 9, constantValue := 0 }]
  methods := #[k10m0, k10m1]
  instanceTypes := #[]
  staticTypes := #[.double, .double, .double, .double, .double, .long, .long, .double, .double, .boolean]
  resolved := Array.replicate 460 none
  statics := none }

def pool11 : Array CpInfo := pool [(1, u "java/lang/Cloneable"), (0, .class_ 1), (0, u "java/lang/Object"), (0, .class_ 3)] 3

/-- java/lang/Cloneable -/
def k11 : Class := { plain "java/lang/Cloneable" (some 0) with
  accessFlags := 1537
  interfaces := #[]
  cf := some (fileOf pool11 2 #[] #[] 1537 4 #[] #[])
  fields := #[]
  methods := #[]
  instanceTypes := #[]
  staticTypes := #[]
  resolved := Array.replicate 8 none
  statics := none }

/-- the primitive byte -/
def k12 : Class := { plain "byte" none with kind := .primitive 'B', accessFlags := 0x411 }
/-- [B -/
def k13 : Class := { plain "[B" (some 0) with kind := .array 12 .byte, interfaces := #[11, 4], accessFlags := 1041 }

/-- the primitive int -/
def k14 : Class := { plain "int" none with kind := .primitive 'I', accessFlags := 0x411 }
/-- [I -/
def k15 : Class := { plain "[I" (some 0) with kind := .array 14 .int, interfaces := #[11, 4], accessFlags := 1041 }

def heap : Heap := #[]
def classes : Array Class := #[k0, k1, k2, k3, k4, k5, k6, k7, k8, k9, k10, k11, k12, k13, k14, k15]
def interned : List (Array UInt16 × Addr) := []
def slotsUsed : Nat := 0
def theMethod : MethodId := ⟨1, 1⟩
def args0 : Array Value := #[.int 1, .int 1, .int 1, .int 1, .int 1]
def aboutOver (below : List Frame) : State where
  vm := { classes := classes, interned := interned.toArray }
  heap := heap
  slotsUsed := slotsUsed
  threads := #[{ frames := .invoking theMethod args0 :: below }]
def below0 : List Frame := [.native { method := ⟨0, 0⟩, args := #[] }]
def about1 : State := aboutOver below0
def p0 : Program := .bare "" "" ""
def e0 : Env := launch0.env 0 0 0
theorem w_frames : about1.frames = Frame.invoking theMethod args0 :: below0 := rfl
set_option maxRecDepth 65536 in
theorem w_args : argsFit about1.vm theMethod args0 = true := by decide +kernel
set_option maxRecDepth 65536 in
theorem w_heap : heapFits about1 = true := by decide +kernel
set_option maxRecDepth 65536 in
theorem w_runnable : about1.curStatus? = some .runnable := by decide +kernel
set_option maxRecDepth 65536 in
theorem w_alone : about1.alone = true := by decide +kernel
set_option maxRecDepth 65536 in
theorem w_named : about1.methodNamed? x = some theMethod := by decide +kernel
set_option maxRecDepth 65536 in
theorem w_hears : about1.hears theMethod below0 = true := by decide +kernel
set_option maxRecDepth 65536 in
theorem w_ripe : about1.ripe theMethod args0 below0 = true := by decide +kernel
theorem w_running : about1.status = .running := rfl
set_option maxRecDepth 65536 in
theorem w_room : about1.hasRoom e0.platform room_1 = true :=
  launch0.hasRoom_least _ room_1 (by decide +kernel) (by decide +kernel) (by decide +kernel) (by decide +kernel) (by decide +kernel) (by decide +kernel)
theorem allAtoms_all (ts : List Jvm.Cond) (a : Array Jvm.Value) (st : Jvm.State) : (allAtoms ts).before a st = ts.all (fun c => c.before a st) := by
  induction ts with
  | nil => rfl
  | cons c t ih =>
    show (Jvm.Cond.and c (allAtoms t)).before a st = _
    rw [Jvm.Cond.before_and, ih, List.all_cons]
def words1 : List Jvm.Cond := Jvm.Cond.code x code maxLocals ret :: tables_1
/-- a 'code' word, met by the world's own term for the bytes: nothing is compared byte by byte -/
theorem code_word {y : MethodName} {bytes : ByteArray} {mx : Nat} {rt : Option FieldType} {a : Array Value} {s : State} {m : MethodId} {meth : Method} {c : Code} (h1 : s.methodNamed? y = some m) (h2 : s.vm.method? m = some meth) (h3 : meth.code = some c) (h4 : c.code = bytes)
    (h5 : (c.maxLocals == mx && c.exceptionTable.isEmpty && decide (c.maxStack ≤ mostOperands) && decide (meth.sig.returnType = rt) && !meth.locks && decide (parseMethodDescriptor y.desc = some meth.sig)) = true) : (Jvm.Cond.code y bytes mx rt).before a s = true := by
  simp only [Bool.and_eq_true, beq_iff_eq, Bool.not_eq_true', decide_eq_true_eq] at h5
  obtain ⟨⟨⟨⟨⟨g1, g2⟩, g3⟩, g4⟩, g5⟩, g6⟩ := h5
  simp [Cond.before, Cond.holds, Cond.value, h1, h2, h3, h4, g1, g2, g3, g4, g5, g6]
def isCode : Jvm.Cond → Bool
  | .code _ _ _ _ => true
  | _ => false
theorem all_split {L : List Jvm.Cond} {P : Jvm.Cond → Bool} (h1 : L.all (fun c => isCode c || P c) = true) (h2 : ∀ c ∈ L.filter isCode, P c = true) : L.all P = true := by
  refine List.all_eq_true.mpr fun c hc => ?_
  have h := List.all_eq_true.mp h1 c hc
  rcases Bool.eq_false_or_eq_true (isCode c) with hi | hi
  · exact h2 c (List.mem_filter.mpr ⟨hc, hi⟩)
  · simpa [hi] using h
set_option maxRecDepth 65536 in
theorem w_c0 : (Jvm.Cond.code x code maxLocals ret).before args0 about1 = true := code_word (m := ⟨1, 1⟩) (meth := k1m1) (c := k1c1) (by decide +kernel) rfl rfl rfl (by decide +kernel)
set_option maxRecDepth 65536 in
theorem w_c1 : (Jvm.Cond.code ({ cls := "com/example/weirbench/weirbench/grid/GridGeometry", name := "<init>", desc := "(IIDII)V" } : Jvm.MethodName) prog_32_method_1_code (7 : Nat) (Option.none : Option Jvm.ClassFile.FieldType)).before args0 about1 = true := code_word (m := ⟨3, 0⟩) (meth := k3m0) (c := k3c0) (by decide +kernel) rfl rfl rfl (by decide +kernel)
set_option maxRecDepth 65536 in
theorem w_c2 : (Jvm.Cond.code ({ cls := "java/lang/Record", name := "<init>", desc := "()V" } : Jvm.MethodName) jdk_30_method_1_code (1 : Nat) (Option.none : Option Jvm.ClassFile.FieldType)).before args0 about1 = true := code_word (m := ⟨2, 0⟩) (meth := k2m0) (c := k2c0) (by decide +kernel) rfl rfl rfl (by decide +kernel)
set_option maxRecDepth 65536 in
theorem w_c3 : (Jvm.Cond.code ({ cls := "java/lang/Object", name := "<init>", desc := "()V" } : Jvm.MethodName) object_method_1_code (1 : Nat) (Option.none : Option Jvm.ClassFile.FieldType)).before args0 about1 = true := code_word (m := ⟨0, 0⟩) (meth := k0m0) (c := k0c0) (by decide +kernel) rfl rfl rfl (by decide +kernel)
set_option maxRecDepth 65536 in
theorem w_c4 : (Jvm.Cond.code ({ cls := "java/lang/Double", name := "isInfinite", desc := "(D)Z" } : Jvm.MethodName) jdk_117_method_7_code (2 : Nat) (Option.some Jvm.ClassFile.FieldType.boolean)).before args0 about1 = true := code_word (m := ⟨9, 0⟩) (meth := k9m0) (c := k9c0) (by decide +kernel) rfl rfl rfl (by decide +kernel)
set_option maxRecDepth 65536 in
theorem w_c5 : (Jvm.Cond.code ({ cls := "java/lang/Math", name := "abs", desc := "(D)D" } : Jvm.MethodName) jdk_29_method_64_code (2 : Nat) (Option.some Jvm.ClassFile.FieldType.double)).before args0 about1 = true := code_word (m := ⟨10, 1⟩) (meth := k10m1) (c := k10c1) (by decide +kernel) rfl rfl rfl (by decide +kernel)
set_option maxRecDepth 65536 in
theorem w_c6 : (Jvm.Cond.code ({ cls := "com/example/weirbench/weirbench/grid/GridGeometry", name := "centreY", desc := "(I)D" } : Jvm.MethodName) prog_32_method_9_code (2 : Nat) (Option.some Jvm.ClassFile.FieldType.double)).before args0 about1 = true := code_word (m := ⟨3, 1⟩) (meth := k3m1) (c := k3c1) (by decide +kernel) rfl rfl rfl (by decide +kernel)
def codes1 : List Jvm.Cond := [Jvm.Cond.code x code maxLocals ret, Jvm.Cond.code ({ cls := "com/example/weirbench/weirbench/grid/GridGeometry", name := "<init>", desc := "(IIDII)V" } : Jvm.MethodName) prog_32_method_1_code (7 : Nat) (Option.none : Option Jvm.ClassFile.FieldType), Jvm.Cond.code ({ cls := "java/lang/Record", name := "<init>", desc := "()V" } : Jvm.MethodName) jdk_30_method_1_code (1 : Nat) (Option.none : Option Jvm.ClassFile.FieldType), Jvm.Cond.code ({ cls := "java/lang/Object", name := "<init>", desc := "()V" } : Jvm.MethodName) object_method_1_code (1 : Nat) (Option.none : Option Jvm.ClassFile.FieldType), Jvm.Cond.code ({ cls := "java/lang/Double", name := "isInfinite", desc := "(D)Z" } : Jvm.MethodName) jdk_117_method_7_code (2 : Nat) (Option.some Jvm.ClassFile.FieldType.boolean), Jvm.Cond.code ({ cls := "java/lang/Math", name := "abs", desc := "(D)D" } : Jvm.MethodName) jdk_29_method_64_code (2 : Nat) (Option.some Jvm.ClassFile.FieldType.double), Jvm.Cond.code ({ cls := "com/example/weirbench/weirbench/grid/GridGeometry", name := "centreY", desc := "(I)D" } : Jvm.MethodName) prog_32_method_9_code (2 : Nat) (Option.some Jvm.ClassFile.FieldType.double)]
set_option maxRecDepth 65536 in
theorem codes_eq : words1.filter isCode = codes1 := rfl
theorem w_codes : ∀ c ∈ words1.filter isCode, c.before args0 about1 = true := by
  rw [codes_eq]
  intro c hc
  simp only [codes1, List.mem_cons, List.not_mem_nil, or_false] at hc
  rcases hc with rfl | rfl | rfl | rfl | rfl | rfl | rfl
  · exact w_c0
  · exact w_c1
  · exact w_c2
  · exact w_c3
  · exact w_c4
  · exact w_c5
  · exact w_c6
set_option maxRecDepth 65536 in
theorem w_t1 : (words1.take 24).all (fun c => isCode c || c.before args0 about1) = true := by decide +kernel
set_option maxRecDepth 65536 in
theorem w_t2 : (words1.drop 24).all (fun c => isCode c || c.before args0 about1) = true := by decide +kernel
theorem w_tables : (allAtoms (Jvm.Cond.code x code maxLocals ret :: tables_1)).before args0 about1 = true := by
  rw [allAtoms_all]
  show words1.all (fun c => c.before args0 about1) = true
  refine all_split ?_ w_codes
  rw [← List.take_append_drop 24 words1, List.all_append, w_t1, w_t2]
  rfl
set_option maxRecDepth 65536 in
theorem w_case : (Jvm.Cond.and given_1 narrow_1).before args0 about1 = true := by decide +kernel
theorem w_applies : (headSpec (Jvm.Cond.code x code maxLocals ret :: tables_1) room_1).applies x e0.platform about1 = true :=
  (Spec.applies_iff w_frames).mpr ⟨w_running, w_runnable, w_alone, w_named, w_hears, w_ripe, w_room, w_tables⟩
theorem atStart : AtStart classFile x code maxLocals ret World_1 tables_1 room_1 Calls_1 rest_1 Pre_1 launch0 p0 e0 about1 theMethod args0 below0 :=
  ⟨lists_1, trivial, launch0.admits_env _ _ _, launch0.least_env, fairChoices_fair.cas, fairChoices_fair.clock, w_frames, w_args, w_heap, w_applies, trivial, trivial, w_case⟩
end start1
theorem witness_1 : WitnessClaimed_1 := ⟨start1.p0, start1.e0, start1.about1, start1.theMethod, start1.args0, start1.below0, start1.atStart⟩
end Jvm.Pilot.@@N@@
