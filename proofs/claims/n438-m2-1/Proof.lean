import JvmDerived
import JvmDerived.Pilot.@@N@@Statement
import JvmDerived.Pilot.@@N@@Code
set_option linter.unusedVariables false
set_option linter.unusedSimpArgs false
namespace Jvm.Pilot.@@N@@
open Jvm Jvm.ClassFile Sem Op Lib Jvm.Free Jvm.Stand Jvm.LawKit Jvm.RoadKit Bundle Jvm.Pilot.@@N@@.Jvm.D
section OwnWalk
variable {p : Program} {l : Launch} {e : Env} {R : Room} {s : State} {m : MethodId} {args : Array Value} {below : List Frame} {meth : Method} {c : Code} {T T' : State} {locs : List Loc} {cells slots kc ks : Nat} {g g' : JFrame} {Q : Option Value → Heap → List Loc → Prop}
/-- from here the run comes to its end, and the end is as Q says -/
def own_G (p : Program) (e : Env) (below : List Frame) (s : State) (Q : Option Value → Heap → List Loc → Prop) (kc ks : Nat) (T : State) (g : JFrame) : Prop :=
  ∃ s₂ o, Steps p.tables e below (T.setTop g) s₂ ∧ s₂.status = .running ∧ Ended s₂ below o ∧ ∃ v L, o = .returned v ∧ Q v s₂.heap L ∧ FrameEnd s o s₂ L kc ks
theorem own_enter (q : g = g') (k : own_G p e below s Q kc ks T g') : own_G p e below s Q kc ks T g := q ▸ k
theorem own_st (st : ∀ t, Steps p.tables e below (T'.setTop g') t → Steps p.tables e below (T.setTop g) t) (k : own_G p e below s Q kc ks T' g') : own_G p e below s Q kc ks T g := by
  obtain ⟨s₂, o, h1, h2⟩ := k
  exact ⟨s₂, o, st _ h1, h2⟩
theorem own_tr (st : Steps p.tables e below (T.setTop g) (T'.setTop g')) (k : own_G p e below s Q kc ks T' g') : own_G p e below s Q kc ks T g := own_st (fun _ h => st.trans h) k
theorem own_ret (X : Stand p l e R s m args below meth c T locs cells slots) (hx : p.tables.exec = Jvm.exec) (hlk : meth.locks = false) {pc : Nat} {Ls : Array Slot} {w : Value} {t : FieldType} {i : Instr} {rest : List Value} (hret : meth.sig.returnType = some t) (hn : narrow t w = w)
    (hi : (i = .ireturn ∧ (t = .int ∨ t = .boolean ∨ t = .byte ∨ t = .char ∨ t = .short) ∧ ∃ z, w = .int z) ∨ (i = .lreturn ∧ t = .long ∧ ∃ z, w = .long z) ∨ (i = .dreturn ∧ t = .double ∧ ∃ z, w = .double z) ∨ (i = .freturn ∧ t = .float ∧ ∃ z, w = .float z) ∨ (i = .areturn ∧ t.isReference = true ∧ w.isRef = true))
    (hd : decode c.code pc = .ok (i, 1)) (hc : cells ≤ kc) (hs : slots ≤ ks) (hQ : Q (some w) T.heap locs) : own_G p e below s Q kc ks T (mkF m pc Ls (w :: rest)) := by
  obtain ⟨fs, hr, hrun, hended, hW, hsame⟩ := X.leave (v := some w) (fun h => by rw [hret] at h; cases h) hlk
  exact ⟨_, _, retOut X hx hret hn hi hd hr, hrun, hended, _, _, rfl, hQ, ⟨_, rfl⟩, hW, hsame.mono hc hs⟩
theorem own_retI (X : Stand p l e R s m args below meth c T locs cells slots) (hx : p.tables.exec = Jvm.exec) (hlk : meth.locks = false) {pc : Nat} {Ls : Array Slot} {z : Int32} {rest : List Value} (hret : meth.sig.returnType = some .int)
    (hd : decode c.code pc = .ok (.ireturn, 1)) (hc : cells ≤ kc) (hs : slots ≤ ks) (hQ : Q (some (.int z)) T.heap locs) : own_G p e below s Q kc ks T (mkF m pc Ls (.int z :: rest)) :=
  own_ret X hx hlk hret rfl (Or.inl ⟨rfl, Or.inl rfl, z, rfl⟩) hd hc hs hQ
theorem own_retZ (X : Stand p l e R s m args below meth c T locs cells slots) (hx : p.tables.exec = Jvm.exec) (hlk : meth.locks = false) {pc : Nat} {Ls : Array Slot} {z : Int32} {rest : List Value} (hret : meth.sig.returnType = some .boolean)
    (hd : decode c.code pc = .ok (.ireturn, 1)) (hn : narrow .boolean (.int z) = .int z) (hc : cells ≤ kc) (hs : slots ≤ ks) (hQ : Q (some (.int z)) T.heap locs) : own_G p e below s Q kc ks T (mkF m pc Ls (.int z :: rest)) :=
  own_ret X hx hlk hret hn (Or.inl ⟨rfl, Or.inr (Or.inl rfl), z, rfl⟩) hd hc hs hQ
theorem own_retJ (X : Stand p l e R s m args below meth c T locs cells slots) (hx : p.tables.exec = Jvm.exec) (hlk : meth.locks = false) {pc : Nat} {Ls : Array Slot} {z : Int64} {rest : List Value} (hret : meth.sig.returnType = some .long)
    (hd : decode c.code pc = .ok (.lreturn, 1)) (hc : cells ≤ kc) (hs : slots ≤ ks) (hQ : Q (some (.long z)) T.heap locs) : own_G p e below s Q kc ks T (mkF m pc Ls (.long z :: rest)) :=
  own_ret X hx hlk hret rfl (Or.inr (Or.inl ⟨rfl, rfl, z, rfl⟩)) hd hc hs hQ
theorem own_retD (X : Stand p l e R s m args below meth c T locs cells slots) (hx : p.tables.exec = Jvm.exec) (hlk : meth.locks = false) {pc : Nat} {Ls : Array Slot} {z : UInt64} {rest : List Value} (hret : meth.sig.returnType = some .double)
    (hd : decode c.code pc = .ok (.dreturn, 1)) (hc : cells ≤ kc) (hs : slots ≤ ks) (hQ : Q (some (.double z)) T.heap locs) : own_G p e below s Q kc ks T (mkF m pc Ls (.double z :: rest)) :=
  own_ret X hx hlk hret rfl (Or.inr (Or.inr (Or.inl ⟨rfl, rfl, z, rfl⟩))) hd hc hs hQ
theorem own_retA (X : Stand p l e R s m args below meth c T locs cells slots) (hx : p.tables.exec = Jvm.exec) (hlk : meth.locks = false) {pc : Nat} {Ls : Array Slot} {w : Value} {t : FieldType} {rest : List Value} (hret : meth.sig.returnType = some t) (ht : t.isReference = true) (hw : w.isRef = true)
    (hd : decode c.code pc = .ok (.areturn, 1)) (hc : cells ≤ kc) (hs : slots ≤ ks) (hQ : Q (some w) T.heap locs) : own_G p e below s Q kc ks T (mkF m pc Ls (w :: rest)) :=
  own_ret X hx hlk hret (by cases t <;> first | (cases ht; done) | (cases w <;> first | (cases hw; done) | rfl)) (Or.inr (Or.inr (Or.inr (Or.inr ⟨rfl, ht, hw⟩)))) hd hc hs hQ
theorem own_retV (X : Stand p l e R s m args below meth c T locs cells slots) (hx : p.tables.exec = Jvm.exec) (hlk : meth.locks = false) {pc : Nat} {Ls : Array Slot} (hret : meth.sig.returnType = none)
    (hd : decode c.code pc = .ok (.return_, 1)) (hc : cells ≤ kc) (hs : slots ≤ ks) (hQ : Q none T.heap locs) : own_G p e below s Q kc ks T (mkF m pc Ls []) := by
  obtain ⟨fs, hr, hrun, hended, hW, hsame⟩ := X.leave (v := none) (fun _ => rfl) hlk
  exact ⟨_, _, X.returnOut hx hret hd hr, hrun, hended, _, _, rfl, hQ, ⟨_, rfl⟩, hW, hsame.mono hc hs⟩
end OwnWalk
section OwnFloat
/-! ## Doubles as fractions: x is n / 2^k, exactly -/
def own_Dy (x : UInt64) (n : Int) (k : Nat) : Prop :=
  (∃ s c q, FP.Core.val64 x = .fin s c q) ∧ k ≤ 1074 ∧ FP.Core.zval FP.Core.b64 (FP.Core.val64 x) = n * ((2 ^ (1074 - k) : Nat) : Int)
theorem own_qmax : FP.Core.b64.qmax = 971 := by decide
theorem own_p : FP.Core.b64.p = 53 := by decide
theorem own_signed_abs (n : Int) : FP.Core.signed (decide (n < 0)) n.natAbs = n := by
  unfold FP.Core.signed; by_cases h : n < 0 <;> simp [h] <;> omega
/-- every n / 2^k with |n| < 2^53 is a double's value -/
theorem own_fitV {n : Int} {k : Nat} (hk : k ≤ 1074) (hn : n.natAbs < 9007199254740992) :
    ∃ V, FP.Core.fits FP.Core.b64 V ∧ (∃ s c q, V = .fin s c q) ∧ FP.Core.zval FP.Core.b64 V = n * ((2 ^ (1074 - k) : Nat) : Int) := by
  obtain ⟨c', q', h1, h2⟩ := FP.Core.round_exact FP.Core.good_b64 (decide (n < 0)) (c := n.natAbs) (q := -(k : Int)) (by rw [own_p]; exact hn) (by rw [FP.Core.qmin_b64]; omega) (by rw [own_qmax]; omega)
  refine ⟨_, FP.Core.round_fits FP.Core.good_b64 (.fin (decide (n < 0)) n.natAbs (-(k : Int))), ⟨_, _, _, h1⟩, ?_⟩
  rw [h1]
  show FP.Core.signed (decide (n < 0)) (FP.Core.inUnits c' q' FP.Core.b64.qmin) = _
  rw [h2]
  unfold FP.Core.inUnits
  rw [FP.Core.qmin_b64, show (-(k : Int) - -1074).toNat = 1074 - k by omega, FP.Core.signed_mul, own_signed_abs]
/-- what is worth n / 2^k rounds to that -/
theorem own_round {s : Bool} {c : Nat} {q e0 n : Int} {k : Nat} (hk : k ≤ 1074) (hn : n.natAbs < 9007199254740992) (h0 : e0 ≤ -1074) (h1 : e0 ≤ q)
    (h : FP.Core.signed s (FP.Core.inUnits c q e0) = n * ((2 ^ (1074 - k) : Nat) : Int) * ((2 ^ (-1074 - e0).toNat : Nat) : Int)) :
    (∃ s' c' q', FP.Core.round FP.Core.b64 (.fin s c q) = .fin s' c' q') ∧ FP.Core.zval FP.Core.b64 (FP.Core.round FP.Core.b64 (.fin s c q)) = n * ((2 ^ (1074 - k) : Nat) : Int) := by
  obtain ⟨V, v1, ⟨vs, vc, vq, v2⟩, v3⟩ := own_fitV hk hn
  have hne : V ≠ .nan := by rw [v2]; exact FP.Core.Datum.noConfusion
  have hq := FP.Core.qmin_b64
  have le := FP.Core.zval_round_le FP.Core.good_b64 (s := s) (c := c) (q := q) (e0 := e0) v1 hne (by rw [hq]; exact h0) h1 (by rw [hq, v3, h]; exact Int.le_refl _)
  have ge := FP.Core.zval_round_ge FP.Core.good_b64 (s := s) (c := c) (q := q) (e0 := e0) v1 hne (by rw [hq]; exact h0) h1 (by rw [hq, v3, h]; exact Int.le_refl _)
  have e : FP.Core.zval FP.Core.b64 (FP.Core.round FP.Core.b64 (.fin s c q)) = FP.Core.zval FP.Core.b64 V := Int.le_antisymm le ge
  refine ⟨?_, e.trans v3⟩
  rcases FP.Core.roundRatio_cases FP.Core.b64 s c 1 q with ⟨c', q', h'⟩ | h'
  · exact ⟨_, _, _, h'⟩
  · exfalso
    have e' : FP.Core.zval FP.Core.b64 (FP.Core.roundRatio FP.Core.b64 s c 1 q) = FP.Core.zval FP.Core.b64 V := e
    rw [h', v2] at e'
    rw [v2] at v1
    have hlt := FP.Core.zmag_lt_top FP.Core.good_b64 v1
    have e2 : FP.Core.signed s (FP.Core.b64.tails * 2 ^ (FP.Core.b64.exps - 2)) = FP.Core.signed vs (FP.Core.inUnits vc vq FP.Core.b64.qmin) := e'
    clear e'
    generalize FP.Core.inUnits vc vq FP.Core.b64.qmin = a at e2 hlt
    generalize FP.Core.b64.tails * 2 ^ (FP.Core.b64.exps - 2) = b at e2 hlt
    cases s <;> cases vs <;> simp only [FP.Core.signed, if_true, Bool.false_eq_true, if_false] at e2 <;> omega
theorem own_Dy.fin {x : UInt64} {n : Int} {k : Nat} (h : own_Dy x n k) : Fl.Fin64 x := by
  obtain ⟨⟨s, c, q, h1⟩, -⟩ := h
  exact Fl.fin64_core.mpr ⟨s, c, q, h1⟩
theorem own_Dy.nn {x : UInt64} {n : Int} {k : Nat} (h : own_Dy x n k) : Fl.NoNaN64 x := h.fin.noNaN
theorem own_Dy.ne {x : UInt64} {n : Int} {k : Nat} (h : own_Dy x n k) : FP.Core.val64 x ≠ .nan := by
  obtain ⟨⟨s, c, q, h1⟩, -⟩ := h; rw [h1]; exact FP.Core.Datum.noConfusion
theorem own_pow {j k : Nat} (h : j + k ≤ 1074) : ((2 ^ (1074 - j) : Nat) : Int) = ((2 ^ k : Nat) : Int) * ((2 ^ (1074 - (j + k)) : Nat) : Int) := by
  rw [← Int.natCast_mul, ← Nat.pow_add]; congr 2; omega
/-- the same number, with a greater denominator -/
theorem own_Dy.up {x : UInt64} {n : Int} {k : Nat} (h : own_Dy x n k) (j : Nat) (hj : k + j ≤ 1074) : own_Dy x (n * ((2 ^ j : Nat) : Int)) (k + j) := by
  obtain ⟨h1, -, h3⟩ := h
  refine ⟨h1, hj, ?_⟩
  rw [h3, own_pow hj, Int.mul_assoc]
theorem own_Dy.dn {x : UInt64} {n : Int} {k j : Nat} (h : own_Dy x (n * ((2 ^ j : Nat) : Int)) (k + j)) : own_Dy x n k := by
  obtain ⟨h1, h2, h3⟩ := h
  refine ⟨h1, by omega, ?_⟩
  rw [h3, own_pow h2, Int.mul_assoc]
theorem own_dy_l2d {a : Int64} (h1 : -9007199254740992 < a.toInt) (h2 : a.toInt < 9007199254740992) : own_Dy (FP.l2d a) a.toInt 0 := by
  have hr := own_round (s := decide (a.toInt < 0)) (c := a.toInt.natAbs) (q := 0) (e0 := -1074) (n := a.toInt) (k := 0) (by omega) (by omega) (by omega) (by omega) (by
    unfold FP.Core.inUnits
    rw [FP.Core.signed_mul, own_signed_abs, show (0 - -1074 : Int).toNat = 1074 from rfl, show (-1074 - -1074 : Int).toNat = 0 from rfl, Nat.pow_zero, Int.natCast_one, Int.mul_one])
  have hv : FP.Core.val64 (FP.l2d a) = FP.Core.round FP.Core.b64 (.fin (decide (a.toInt < 0)) a.toInt.natAbs 0) := FP.Core.val64_l2d a
  unfold own_Dy
  rw [hv]
  exact ⟨hr.1, by omega, hr.2⟩
theorem own_dy_i2d (a : Int32) : own_Dy (FP.i2d a) a.toInt 0 := by
  have h := Int32.toInt_lt a
  have h' := Int32.le_toInt a
  have e : a.toInt64.toInt = a.toInt := Int32.toInt_toInt64 a
  have := own_dy_l2d (a := a.toInt64) (by omega) (by omega)
  rw [e] at this
  exact (FP.Core.i2d_l2d a ▸ this : own_Dy (FP.Core.i2d a) a.toInt 0)
theorem own_Dy.add {x y : UInt64} {n m : Int} {k : Nat} (hx : own_Dy x n k) (hy : own_Dy y m k) (h : (n + m).natAbs < 9007199254740992) : own_Dy (FP.dadd x y) (n + m) k := by
  obtain ⟨⟨s, c, q, hx1⟩, hk, hx3⟩ := hx
  obtain ⟨⟨t, d, r, hy1⟩, -, hy3⟩ := hy
  obtain ⟨sg, w, e, h1, h2, h3⟩ := FP.Core.sum_units (f := FP.Core.b64) (hx1 ▸ FP.Core.val64_fits x) (hy1 ▸ FP.Core.val64_fits y)
  have hq := FP.Core.qmin_b64
  rw [← hx1, ← hy1, hx3, hy3, ← Int.add_mul] at h3
  have hr := own_round (s := sg) (c := w) (q := e) (e0 := -1074) (n := n + m) (k := k) hk h (by omega) (by rw [hq] at h2; exact h2) (by
    rw [hq] at h3; rw [h3, show (-1074 - -1074 : Int).toNat = 0 from rfl, Nat.pow_zero, Int.natCast_one, Int.mul_one])
  have hv : FP.Core.val64 (FP.dadd x y) = FP.Core.round FP.Core.b64 (.fin sg w e) := by
    have := FP.Core.val64_dadd x y
    rw [hx1, hy1, h1] at this
    exact this
  unfold own_Dy
  rw [hv]
  exact ⟨hr.1, hk, hr.2⟩
theorem own_Dy.sub {x y : UInt64} {n m : Int} {k : Nat} (hx : own_Dy x n k) (hy : own_Dy y m k) (h : (n - m).natAbs < 9007199254740992) : own_Dy (FP.dsub x y) (n - m) k := by
  obtain ⟨⟨s, c, q, hx1⟩, hk, hx3⟩ := hx
  obtain ⟨⟨t, d, r, hy1⟩, -, hy3⟩ := hy
  have hyn : FP.Core.fits FP.Core.b64 (FP.Core.negate (.fin t d r)) := FP.Core.negate_fits (hy1 ▸ FP.Core.val64_fits y)
  obtain ⟨sg, w, e, h1, h2, h3⟩ := FP.Core.sum_units (f := FP.Core.b64) (s := s) (c := c) (q := q) (t := !t) (d := d) (r := r) (hx1 ▸ FP.Core.val64_fits x) hyn
  have hq := FP.Core.qmin_b64
  have hneg : FP.Core.zval FP.Core.b64 (.fin (!t) d r) = -(m * ((2 ^ (1074 - k) : Nat) : Int)) := by
    rw [← hy3, hy1]; exact FP.Core.zval_negate FP.Core.b64 (.fin t d r)
  rw [← hx1, hx3, hneg, ← Int.sub_eq_add_neg, ← Int.sub_mul] at h3
  have hr := own_round (s := sg) (c := w) (q := e) (e0 := -1074) (n := n - m) (k := k) hk h (by omega) (by rw [hq] at h2; exact h2) (by
    rw [hq] at h3; rw [h3, show (-1074 - -1074 : Int).toNat = 0 from rfl, Nat.pow_zero, Int.natCast_one, Int.mul_one])
  have hv : FP.Core.val64 (FP.dsub x y) = FP.Core.round FP.Core.b64 (.fin sg w e) := by
    have := FP.Core.val64_dsub x y
    rw [hx1, hy1] at this
    exact this.trans (congrArg _ h1)
  unfold own_Dy
  rw [hv]
  exact ⟨hr.1, hk, hr.2⟩
theorem own_Dy.mul {x y : UInt64} {n m : Int} {k j : Nat} (hx : own_Dy x n k) (hy : own_Dy y m j) (hkj : k + j ≤ 1074) (h : (n * m).natAbs < 9007199254740992) : own_Dy (FP.dmul x y) (n * m) (k + j) := by
  obtain ⟨⟨s, c, q, hx1⟩, hk, hx3⟩ := hx
  obtain ⟨⟨t, d, r, hy1⟩, hj, hy3⟩ := hy
  obtain ⟨h1, h2, h3⟩ := FP.Core.product_units (f := FP.Core.b64) (hx1 ▸ FP.Core.val64_fits x) (hy1 ▸ FP.Core.val64_fits y)
  have hq := FP.Core.qmin_b64
  have hs : FP.Core.signed (s != t) (FP.Core.zmag FP.Core.b64 (.fin s c q) * FP.Core.zmag FP.Core.b64 (.fin t d r)) = FP.Core.zval FP.Core.b64 (.fin s c q) * FP.Core.zval FP.Core.b64 (.fin t d r) := by
    show _ = FP.Core.signed s (FP.Core.zmag FP.Core.b64 (.fin s c q)) * FP.Core.signed t (FP.Core.zmag FP.Core.b64 (.fin t d r))
    generalize FP.Core.zmag FP.Core.b64 (.fin s c q) = a
    generalize FP.Core.zmag FP.Core.b64 (.fin t d r) = b
    cases s <;> cases t <;> simp [FP.Core.signed, Int.natCast_mul, Int.neg_mul, Int.mul_neg]
  have hr := own_round (s := s != t) (c := c * d) (q := q + r) (e0 := -2148) (n := n * m) (k := k + j) hkj h (by omega) (by rw [hq] at h2; omega) (by
    rw [hq] at h3
    have h3' : FP.Core.inUnits (c * d) (q + r) (-2148) = FP.Core.zmag FP.Core.b64 (FP.Core.Datum.fin s c q) * FP.Core.zmag FP.Core.b64 (FP.Core.Datum.fin t d r) := h3
    rw [h3', hs, ← hx1, ← hy1, hx3, hy3, show (-1074 - -2148 : Int).toNat = 1074 from rfl]
    have e1 : ((2 ^ (1074 - k) : Nat) : Int) * ((2 ^ (1074 - j) : Nat) : Int) = ((2 ^ (1074 - (k + j)) : Nat) : Int) * ((2 ^ 1074 : Nat) : Int) := by
      rw [← Int.natCast_mul, ← Int.natCast_mul, ← Nat.pow_add, ← Nat.pow_add]; congr 2; omega
    generalize ((2 ^ (1074 - k) : Nat) : Int) = A at e1 ⊢
    generalize ((2 ^ (1074 - j) : Nat) : Int) = B at e1 ⊢
    generalize ((2 ^ (1074 - (k + j)) : Nat) : Int) = C at e1 ⊢
    generalize ((2 ^ 1074 : Nat) : Int) = D at e1 ⊢
    calc n * A * (m * B) = n * m * (A * B) := by ac_rfl
      _ = n * m * C * D := by rw [e1]; ac_rfl)
  have hv : FP.Core.val64 (FP.dmul x y) = FP.Core.round FP.Core.b64 (.fin (s != t) (c * d) (q + r)) := by
    have := FP.Core.val64_dmul x y
    rw [hx1, hy1] at this
    exact this.trans (congrArg _ h1)
  unfold own_Dy
  rw [hv]
  exact ⟨hr.1, hkj, hr.2⟩
theorem own_Dy.cmp {x y : UInt64} {n m : Int} {k : Nat} (hx : own_Dy x n k) (hy : own_Dy y m k) : FP.dcmp x y = some (compare n m) := by
  have h := FP.Core.dcmp_zval hx.ne hy.ne
  rw [hx.2.2, hy.2.2, FP.Core.compare_mul_pos _ _ _ (by have := Nat.two_pow_pos (1074 - k); omega)] at h
  exact h
theorem own_Dy.eq {x y : UInt64} {n m : Int} {k : Nat} (hx : own_Dy x n k) (hy : own_Dy y m k) (h : n = m) (o : CmpOp) : cmpValue (FP.dcmp x y) o = 0 := by
  rw [hx.cmp hy, (FP.Core.compare_eq_iff n m).mpr h]; rfl
theorem own_Dy.lt {x y : UInt64} {n m : Int} {k : Nat} (hx : own_Dy x n k) (hy : own_Dy y m k) (h : n < m) (o : CmpOp) : cmpValue (FP.dcmp x y) o = -1 := by
  rw [hx.cmp hy, (FP.Core.compare_lt_iff n m).mpr h]; rfl
theorem own_Dy.gt {x y : UInt64} {n m : Int} {k : Nat} (hx : own_Dy x n k) (hy : own_Dy y m k) (h : m < n) (o : CmpOp) : cmpValue (FP.dcmp x y) o = 1 := by
  rw [hx.cmp hy, (FP.Core.compare_gt_iff n m).mpr h]; rfl
end OwnFloat
section OwnInt
theorem own_ladd {a b : Int64} (h : (a.toInt + b.toInt).natAbs < 9223372036854775808) : (a + b).toInt = a.toInt + b.toInt := by
  have q := c_ladd a b; have r := rng64 (a + b); omega
theorem own_lsub {a b : Int64} (h : (a.toInt - b.toInt).natAbs < 9223372036854775808) : (a - b).toInt = a.toInt - b.toInt := by
  have q := c_lsub a b; have r := rng64 (a - b); omega
theorem own_lmul {a b : Int64} (h : (a.toInt * b.toInt).natAbs < 9223372036854775808) : (a * b).toInt = a.toInt * b.toInt := by
  have q := c_lmul a b; have r := rng64 (a * b); generalize a.toInt * b.toInt = z at *; omega
theorem own_iadd {a b : Int32} (h : (a.toInt + b.toInt).natAbs < 2147483648) : (a + b).toInt = a.toInt + b.toInt := by
  have q := c_iadd a b; have r := rng32 (a + b); omega
theorem own_isub {a b : Int32} (h : (a.toInt - b.toInt).natAbs < 2147483648) : (a - b).toInt = a.toInt - b.toInt := by
  have q := c_isub a b; have r := rng32 (a - b); omega
theorem own_imul {a b : Int32} (h : (a.toInt * b.toInt).natAbs < 2147483648) : (a * b).toInt = a.toInt * b.toInt := by
  have q := c_imul a b; have r := rng32 (a * b); generalize a.toInt * b.toInt = z at *; omega
theorem own_absmul {n m : Int} {A B : Nat} (hn : n.natAbs ≤ A) (hm : m.natAbs ≤ B) : (n * m).natAbs ≤ A * B := by
  rw [Int.natAbs_mul]; exact Nat.mul_le_mul hn hm
end OwnInt
section OwnShift
theorem own_bv {q : Int32} {n : Nat} (h : q.toInt = (n : Int)) : q.toBitVec.toNat = n := by
  have h1 : q.toBitVec.toInt = (n : Int) := h
  have h2 := BitVec.toInt_eq_toNat_cond q.toBitVec
  have h3 := q.toBitVec.isLt
  split at h2 <;> omega
theorem own_lshl {x : Int64} {q : Int32} {n : Nat} (hq : q.toInt = (n : Int)) (hn : n < 64) (hb : (x.toInt * ((2 ^ n : Nat) : Int)).natAbs < 9223372036854775808) : (x <<< (q &&& 0x3f).toInt64).toInt = x.toInt * ((2 ^ n : Nat) : Int) := by
  have h1 := c_lshl x q n (by rw [own_bv hq]; omega)
  have h2 := rng64 (x <<< (q &&& 0x3f).toInt64)
  generalize x.toInt * ((2 ^ n : Nat) : Int) = z at *
  omega
theorem own_ishl {x : Int32} {q : Int32} {n : Nat} (hq : q.toInt = (n : Int)) (hn : n < 32) (hb : (x.toInt * ((2 ^ n : Nat) : Int)).natAbs < 2147483648) : (x <<< (q &&& 31)).toInt = x.toInt * ((2 ^ n : Nat) : Int) := by
  have h1 := c_ishl x q n (by rw [own_bv hq]; omega)
  have h2 := rng32 (x <<< (q &&& 31))
  generalize x.toInt * ((2 ^ n : Nat) : Int) = z at *
  omega
theorem own_ishl1 {q : Int32} {n : Nat} (hq : q.toInt = (n : Int)) (hn : n < 31) : ((1 : Int32) <<< (q &&& 31)).toInt = ((2 ^ n : Nat) : Int) := by
  have e : (1 : Int32).toInt = 1 := by decide
  have hp : 2 ^ n ≤ 2 ^ 30 := Nat.pow_le_pow_right (by omega) (by omega)
  rw [own_ishl hq (by omega) (by rw [e, Int.one_mul, Int.natAbs_natCast]; omega), e, Int.one_mul]
theorem own_lshl1 {q : Int32} {n : Nat} (hq : q.toInt = (n : Int)) (hn : n < 63) : ((1 : Int64) <<< (q &&& 0x3f).toInt64).toInt = ((2 ^ n : Nat) : Int) := by
  have e : (1 : Int64).toInt = 1 := by decide
  have hp : 2 ^ n ≤ 2 ^ 62 := Nat.pow_le_pow_right (by omega) (by omega)
  rw [own_lshl hq (by omega) (by rw [e, Int.one_mul, Int.natAbs_natCast]; omega), e, Int.one_mul]
/-- a mask of ones: what is left is some natural below the power -/
theorem own_andN (x : Int32) (mk : Int32) (M : Nat) (hM : mk.toInt = (M : Int)) : ∃ n : Nat, (x &&& mk).toInt = (n : Int) ∧ n ≤ M := by
  have h := c_and x mk (by omega)
  exact ⟨(x &&& mk).toInt.toNat, by omega, by omega⟩
theorem own_andL (x : Int64) (mk : Int64) (k : Nat) (hk : k ≤ 63) (hm : mk.toBitVec.toNat = 2 ^ k - 1) : ∃ n : Nat, (x &&& mk).toInt = (n : Int) ∧ n < 2 ^ k := by
  have h := c_maskL x mk k hk hm
  have hp := Nat.two_pow_pos k
  have h1 := Int.emod_nonneg x.toInt (show ((2 ^ k : Nat) : Int) ≠ 0 by omega)
  have h2 := Int.emod_lt_of_pos x.toInt (show (0 : Int) < ((2 ^ k : Nat) : Int) by omega)
  exact ⟨(x &&& mk).toInt.toNat, by omega, by omega⟩
theorem own_irem {x y : Int32} (hx : 0 ≤ x.toInt) (hy : 0 < y.toInt) : (x % y).toInt = x.toInt % y.toInt := by
  rw [Int32.toInt_mod, Int.tmod_eq_emod_of_nonneg hx]
theorem own_lrem {x y : Int64} (hx : 0 ≤ x.toInt) (hy : 0 < y.toInt) : (x - x / y * y).toInt = x.toInt % y.toInt := by
  rw [lrem_mod, Int64.toInt_mod, Int.tmod_eq_emod_of_nonneg hx]
end OwnShift
section OwnDiv
theorem own_zmag_of {x : UInt64} {n : Int} {k : Nat} {s : Bool} {c : Nat} {q : Int} (h : FP.Core.val64 x = .fin s c q) (hz : FP.Core.zval FP.Core.b64 (FP.Core.val64 x) = n * ((2 ^ (1074 - k) : Nat) : Int)) :
    c * 2 ^ (q + 1074).toNat = n.natAbs * 2 ^ (1074 - k) ∧ -1074 ≤ q ∧ q ≤ 971 := by
  have hf : FP.Core.fits FP.Core.b64 (.fin s c q) := h ▸ FP.Core.val64_fits x
  obtain ⟨-, h1, h2, -⟩ := hf
  rw [FP.Core.qmin_b64] at h1
  rw [own_qmax] at h2
  refine ⟨?_, h1, h2⟩
  have e := congrArg Int.natAbs hz
  rw [h, Int.natAbs_mul, Int.natAbs_natCast] at e
  unfold FP.Core.zval at e
  rw [FP.Core.natAbs_signed] at e
  have e2 : FP.Core.zmag FP.Core.b64 (.fin s c q) = c * 2 ^ (q + 1074).toNat := by
    show c * 2 ^ (q - FP.Core.b64.qmin).toNat = _
    rw [FP.Core.qmin_b64, show q - -1074 = q + 1074 by omega]
  rw [← e2]; exact e
theorem own_sgn_of {x : UInt64} {n : Int} {k : Nat} {s : Bool} {c : Nat} {q : Int} (h : FP.Core.val64 x = .fin s c q) (hz : FP.Core.zval FP.Core.b64 (FP.Core.val64 x) = n * ((2 ^ (1074 - k) : Nat) : Int)) (hn : n ≠ 0) : s = decide (n < 0) := by
  rw [h] at hz
  have hp : (0 : Int) < ((2 ^ (1074 - k) : Nat) : Int) := by have := Nat.two_pow_pos (1074 - k); omega
  have hz' : FP.Core.signed s (FP.Core.zmag FP.Core.b64 (.fin s c q)) = n * ((2 ^ (1074 - k) : Nat) : Int) := hz
  generalize FP.Core.zmag FP.Core.b64 (.fin s c q) = z at hz'
  generalize ((2 ^ (1074 - k) : Nat) : Int) = P at hz' hp
  cases s
  · have e : (z : Int) = n * P := hz'
    have : ¬ n < 0 := fun u => by have := Int.mul_neg_of_neg_of_pos u hp; omega
    simp [this]
  · have e : -(z : Int) = n * P := hz'
    have : n < 0 := by
      refine Int.lt_of_not_ge fun u => ?_
      have h2 : 0 < n := by omega
      have := Int.mul_pos h2 hp; omega
    simp [this]
/-- a quotient that is a fraction n / 2^i with |n| below 2^53 comes out exactly -/
theorem own_Dy.div {x y : UInt64} {n m w : Int} {k j : Nat} (i : Nat) (hx : own_Dy x n k) (hy : own_Dy y m j) (hm : m ≠ 0) (hi : i ≤ 1074) (hw : w.natAbs < 9007199254740992) (h : n * ((2 ^ (j + i) : Nat) : Int) = w * m * ((2 ^ k : Nat) : Int)) : own_Dy (FP.ddiv x y) w i := by
  obtain ⟨⟨s, c, q, hx1⟩, hk, hx3⟩ := hx
  obtain ⟨⟨t, d, r, hy1⟩, hj, hy3⟩ := hy
  obtain ⟨cx, qx1, qx2⟩ := own_zmag_of hx1 hx3
  obtain ⟨cy, qy1, qy2⟩ := own_zmag_of hy1 hy3
  have hd : d ≠ 0 := fun z => by
    subst z
    rw [Nat.zero_mul] at cy
    rcases Nat.mul_eq_zero.mp cy.symm with u | u
    · omega
    · have := Nat.two_pow_pos (1074 - j); omega
  have hv : FP.Core.val64 (FP.ddiv x y) = FP.Core.roundRatio FP.Core.b64 (s != t) c d (q - r) := by
    have e : FP.Core.val64 (FP.ddiv x y) = FP.Core.quotient FP.Core.b64 (FP.Core.val64 x) (FP.Core.val64 y) := FP.Core.val64_ddiv x y
    rw [e, hx1, hy1]
    show (if d = 0 then _ else _) = _
    rw [if_neg hd]
  obtain ⟨V, v1, ⟨vs, vc, vq, v2⟩, v3⟩ := own_fitV hi hw
  have hne : V ≠ .nan := by rw [v2]; exact FP.Core.Datum.noConfusion
  have hzV : FP.Core.zmag FP.Core.b64 V = w.natAbs * 2 ^ (1074 - i) := by
    have e := congrArg Int.natAbs v3
    unfold FP.Core.zval at e
    rw [FP.Core.natAbs_signed, Int.natAbs_mul, Int.natAbs_natCast] at e
    exact e
  obtain ⟨N, hN⟩ : ∃ N : Nat, N = 4000 := ⟨_, rfl⟩
  have key : FP.Core.inUnits c (q - r) (-(N : Int)) = w.natAbs * 2 ^ (1074 - i) * 2 ^ (N - 1074) * d := by
    have hh : n.natAbs * 2 ^ (j + i) = w.natAbs * m.natAbs * 2 ^ k := by
      have e := congrArg Int.natAbs h
      rw [Int.natAbs_mul, Int.natAbs_natCast, Int.natAbs_mul, Int.natAbs_natCast, Int.natAbs_mul] at e
      exact e
    refine Nat.eq_of_mul_eq_mul_right (Nat.two_pow_pos (r + 1074).toNat) ?_
    unfold FP.Core.inUnits
    have l1 : c * 2 ^ (q - r - -(N : Int)).toNat * 2 ^ (r + 1074).toNat = c * 2 ^ (q + 1074).toNat * 2 ^ N := by
      rw [Nat.mul_assoc, Nat.mul_assoc, ← Nat.pow_add, ← Nat.pow_add]; congr 2; omega
    have l2 : w.natAbs * 2 ^ (1074 - i) * 2 ^ (N - 1074) * d * 2 ^ (r + 1074).toNat = w.natAbs * 2 ^ (1074 - i) * 2 ^ (N - 1074) * (d * 2 ^ (r + 1074).toNat) := by rw [Nat.mul_assoc]
    rw [l1, l2, cx, cy]
    have l3 : n.natAbs * 2 ^ (1074 - k) * 2 ^ N = n.natAbs * 2 ^ (j + i) * 2 ^ (N + 1074 - k - (j + i)) := by
      rw [Nat.mul_assoc, Nat.mul_assoc, ← Nat.pow_add, ← Nat.pow_add]; congr 2; omega
    have l4 : w.natAbs * 2 ^ (1074 - i) * 2 ^ (N - 1074) * (m.natAbs * 2 ^ (1074 - j)) = w.natAbs * m.natAbs * 2 ^ k * 2 ^ (N + 1074 - k - (j + i)) := by
      have this : 2 ^ (1074 - i) * 2 ^ (N - 1074) * 2 ^ (1074 - j) = 2 ^ k * 2 ^ (N + 1074 - k - (j + i)) := by
        rw [← Nat.pow_add, ← Nat.pow_add, ← Nat.pow_add]; exact congrArg (2 ^ ·) (by omega)
      generalize 2 ^ (1074 - i) = X1 at this ⊢
      generalize 2 ^ (N - 1074) = X2 at this ⊢
      generalize 2 ^ (1074 - j) = X3 at this ⊢
      generalize 2 ^ (N + 1074 - k - (j + i)) = X5 at this ⊢
      generalize 2 ^ k = X4 at this ⊢
      calc w.natAbs * X1 * X2 * (m.natAbs * X3) = w.natAbs * m.natAbs * (X1 * X2 * X3) := by ac_rfl
        _ = w.natAbs * m.natAbs * (X4 * X5) := by rw [this]
        _ = _ := by ac_rfl
    rw [l3, l4, hh]
  have le := FP.Core.zmag_roundRatio_le FP.Core.good_b64 (s := s != t) (A := c) (B := d) (e := q - r) (e0 := -(N : Int)) (Nat.pos_of_ne_zero hd) v1 hne (by rw [FP.Core.qmin_b64]; omega) (by omega) (by rw [FP.Core.qmin_b64, key, hzV, show (-1074 - -(N : Int)).toNat = N - 1074 by omega]; exact Nat.le_refl _)
  have ge := FP.Core.zmag_roundRatio_ge FP.Core.good_b64 (s := s != t) (A := c) (B := d) (e := q - r) (e0 := -(N : Int)) (Nat.pos_of_ne_zero hd) v1 (by rw [FP.Core.qmin_b64]; omega) (by omega) (by rw [FP.Core.qmin_b64, key, hzV, show (-1074 - -(N : Int)).toNat = N - 1074 by omega]; exact Nat.le_refl _)
  have eq := Nat.le_antisymm le ge
  have hfin : ∃ s' c' q', FP.Core.roundRatio FP.Core.b64 (s != t) c d (q - r) = .fin s' c' q' := by
    rcases FP.Core.roundRatio_cases FP.Core.b64 (s != t) c d (q - r) with ⟨c', q', h'⟩ | h'
    · exact ⟨_, _, _, h'⟩
    · exfalso
      rw [h', v2] at eq
      rw [v2] at v1
      have hlt := FP.Core.zmag_lt_top FP.Core.good_b64 v1
      have eq2 : FP.Core.b64.tails * 2 ^ (FP.Core.b64.exps - 2) = FP.Core.inUnits vc vq FP.Core.b64.qmin := eq
      rw [eq2] at hlt
      exact Nat.lt_irrefl _ hlt
  refine ⟨by rw [hv]; exact hfin, hi, ?_⟩
  rw [hv]
  unfold FP.Core.zval
  rw [FP.Core.sgn_roundRatio, eq, hzV]
  by_cases hw0 : w = 0
  · subst hw0
    simp [FP.Core.signed]
  · have hn0 : n ≠ 0 := fun z => by
      subst z
      rw [Int.zero_mul] at h
      rcases Int.mul_eq_zero.mp h.symm with u | u
      · rcases Int.mul_eq_zero.mp u with u | u
        · exact hw0 u
        · exact hm u
      · have := Nat.two_pow_pos k; omega
    rw [own_sgn_of hx1 hx3 hn0, own_sgn_of hy1 hy3 hm, FP.Core.signed_mul]
    congr 1
    have hP : (0 : Int) < ((2 ^ (j + i) : Nat) : Int) := by have := Nat.two_pow_pos (j + i); omega
    have hK : (0 : Int) < ((2 ^ k : Nat) : Int) := by have := Nat.two_pow_pos k; omega
    generalize ((2 ^ (j + i) : Nat) : Int) = P at h hP
    generalize ((2 ^ k : Nat) : Int) = R at h hK
    have sg : (n < 0 ↔ ¬ (w < 0 ↔ m < 0)) := by
      have a1 : n < 0 ↔ n * P < 0 := ⟨fun u => Int.mul_neg_of_neg_of_pos u hP, fun u => Int.lt_of_not_ge fun v => by have := Int.mul_nonneg v (Int.le_of_lt hP); omega⟩
      have a2 : w * m < 0 ↔ w * m * R < 0 := ⟨fun u => Int.mul_neg_of_neg_of_pos u hK, fun u => Int.lt_of_not_ge fun v => by have := Int.mul_nonneg v (Int.le_of_lt hK); omega⟩
      rw [a1, h, ← a2]
      rcases Int.lt_or_gt_of_ne hw0 with u | u <;> rcases Int.lt_or_gt_of_ne hm with v | v
      · have := Int.mul_pos_of_neg_of_neg u v; omega
      · have := Int.mul_neg_of_neg_of_pos u v; omega
      · have := Int.mul_neg_of_pos_of_neg u v; omega
      · have := Int.mul_pos u v; omega
    unfold FP.Core.signed
    by_cases u : w < 0 <;> by_cases v : m < 0 <;> by_cases z : n < 0 <;> simp [u, v, z] at sg ⊢ <;> omega
/-- two quotients of one value compare as equal -/
theorem own_div_eq {x y x' y' : UInt64} {n m n' m' : Int} {k k' : Nat} (hx : own_Dy x n k) (hy : own_Dy y m k) (hx' : own_Dy x' n' k') (hy' : own_Dy y' m' k') (hm : 0 < m) (hm' : 0 < m') (h : n * m' = n' * m) (o : CmpOp) :
    cmpValue (FP.dcmp (FP.ddiv x y) (FP.ddiv x' y')) o = 0 ∧ Fl.NoNaN64 (FP.ddiv x y) ∧ Fl.NoNaN64 (FP.ddiv x' y') ∧ FP.Core.zval FP.Core.b64 (FP.Core.val64 (FP.ddiv x y)) = FP.Core.zval FP.Core.b64 (FP.Core.val64 (FP.ddiv x' y')) := by
  obtain ⟨⟨s, c, q, hx1⟩, hk, hx3⟩ := hx
  obtain ⟨⟨t, d, r, hy1⟩, -, hy3⟩ := hy
  obtain ⟨⟨s', c', q', hx1'⟩, hk', hx3'⟩ := hx'
  obtain ⟨⟨t', d', r', hy1'⟩, -, hy3'⟩ := hy'
  obtain ⟨cx, qx1, qx2⟩ := own_zmag_of hx1 hx3
  obtain ⟨cy, qy1, qy2⟩ := own_zmag_of hy1 hy3
  obtain ⟨cx', qx1', qx2'⟩ := own_zmag_of hx1' hx3'
  obtain ⟨cy', qy1', qy2'⟩ := own_zmag_of hy1' hy3'
  have hd : d ≠ 0 := fun z => by
    subst z; rw [Nat.zero_mul] at cy
    rcases Nat.mul_eq_zero.mp cy.symm with u | u
    · omega
    · have := Nat.two_pow_pos (1074 - k); omega
  have hd' : d' ≠ 0 := fun z => by
    subst z; rw [Nat.zero_mul] at cy'
    rcases Nat.mul_eq_zero.mp cy'.symm with u | u
    · omega
    · have := Nat.two_pow_pos (1074 - k'); omega
  have hv : FP.Core.val64 (FP.ddiv x y) = FP.Core.roundRatio FP.Core.b64 (s != t) c d (q - r) := by
    have e : FP.Core.val64 (FP.ddiv x y) = FP.Core.quotient FP.Core.b64 (FP.Core.val64 x) (FP.Core.val64 y) := FP.Core.val64_ddiv x y
    rw [e, hx1, hy1]
    show (if d = 0 then _ else _) = _
    rw [if_neg hd]
  have hv' : FP.Core.val64 (FP.ddiv x' y') = FP.Core.roundRatio FP.Core.b64 (s' != t') c' d' (q' - r') := by
    have e : FP.Core.val64 (FP.ddiv x' y') = FP.Core.quotient FP.Core.b64 (FP.Core.val64 x') (FP.Core.val64 y') := FP.Core.val64_ddiv x' y'
    rw [e, hx1', hy1']
    show (if d' = 0 then _ else _) = _
    rw [if_neg hd']
  have cong : c * d' * 2 ^ ((q - r) - (q' - r')).toNat = c' * d * 2 ^ ((q' - r') - (q - r)).toNat := by
    have hh : n.natAbs * m'.natAbs = n'.natAbs * m.natAbs := by rw [← Int.natAbs_mul, ← Int.natAbs_mul, h]
    obtain ⟨N, hN⟩ : ∃ N : Nat, N = 4000 := ⟨_, rfl⟩
    refine Nat.eq_of_mul_eq_mul_right (Nat.two_pow_pos ((q' + 1074).toNat + (r + 1074).toNat + N)) ?_
    have e1 : c * d' * 2 ^ ((q - r) - (q' - r')).toNat * 2 ^ ((q' + 1074).toNat + (r + 1074).toNat + N) = (c * 2 ^ (q + 1074).toNat) * (d' * 2 ^ (r' + 1074).toNat) * 2 ^ (N + ((q' - r') - (q - r)).toNat) := by
      have : 2 ^ ((q - r) - (q' - r')).toNat * 2 ^ ((q' + 1074).toNat + (r + 1074).toNat + N) = 2 ^ (q + 1074).toNat * 2 ^ (r' + 1074).toNat * 2 ^ (N + ((q' - r') - (q - r)).toNat) := by
        rw [← Nat.pow_add, ← Nat.pow_add, ← Nat.pow_add]; congr 1; omega
      calc _ = c * d' * (2 ^ ((q - r) - (q' - r')).toNat * 2 ^ ((q' + 1074).toNat + (r + 1074).toNat + N)) := by rw [Nat.mul_assoc]
        _ = _ := by rw [this]; ac_rfl
    have e2 : c' * d * 2 ^ ((q' - r') - (q - r)).toNat * 2 ^ ((q' + 1074).toNat + (r + 1074).toNat + N) = (c' * 2 ^ (q' + 1074).toNat) * (d * 2 ^ (r + 1074).toNat) * 2 ^ (N + ((q' - r') - (q - r)).toNat) := by
      have : 2 ^ ((q' - r') - (q - r)).toNat * 2 ^ ((q' + 1074).toNat + (r + 1074).toNat + N) = 2 ^ (q' + 1074).toNat * 2 ^ (r + 1074).toNat * 2 ^ (N + ((q' - r') - (q - r)).toNat) := by
        rw [← Nat.pow_add, ← Nat.pow_add, ← Nat.pow_add]; congr 1; omega
      calc _ = c' * d * (2 ^ ((q' - r') - (q - r)).toNat * 2 ^ ((q' + 1074).toNat + (r + 1074).toNat + N)) := by rw [Nat.mul_assoc]
        _ = _ := by rw [this]; ac_rfl
    rw [e1, e2, cx, cy, cx', cy']
    have : n.natAbs * 2 ^ (1074 - k) * (m'.natAbs * 2 ^ (1074 - k')) = n'.natAbs * 2 ^ (1074 - k') * (m.natAbs * 2 ^ (1074 - k)) := by
      calc _ = n.natAbs * m'.natAbs * (2 ^ (1074 - k) * 2 ^ (1074 - k')) := by ac_rfl
        _ = n'.natAbs * m.natAbs * (2 ^ (1074 - k) * 2 ^ (1074 - k')) := by rw [hh]
        _ = _ := by ac_rfl
    rw [this]
  have n1 : FP.Core.val64 (FP.ddiv x y) ≠ .nan := by rw [hv]; exact FP.Core.roundRatio_ne_nan _ _ _ _ _
  have n2 : FP.Core.val64 (FP.ddiv x' y') ≠ .nan := by rw [hv']; exact FP.Core.roundRatio_ne_nan _ _ _ _ _
  have sgn_eq : n < 0 ↔ n' < 0 := by
    constructor
    · intro u
      have := Int.mul_neg_of_neg_of_pos u hm'
      rw [h] at this
      exact Int.lt_of_not_ge fun v => by have := Int.mul_nonneg v (Int.le_of_lt hm); omega
    · intro u
      have := Int.mul_neg_of_neg_of_pos u hm
      rw [← h] at this
      exact Int.lt_of_not_ge fun v => by have := Int.mul_nonneg v (Int.le_of_lt hm'); omega
  have hz : FP.Core.zval FP.Core.b64 (FP.Core.val64 (FP.ddiv x y)) = FP.Core.zval FP.Core.b64 (FP.Core.val64 (FP.ddiv x' y')) := by
    rw [hv, hv']
    by_cases h0 : n = 0
    · have h0' : n' = 0 := by
        subst h0; rw [Int.zero_mul] at h
        rcases Int.mul_eq_zero.mp h.symm with u | u
        · exact u
        · omega
      have c0 : c = 0 := by
        subst h0; rw [Int.natAbs_zero, Nat.zero_mul] at cx
        rcases Nat.mul_eq_zero.mp cx with u | u
        · exact u
        · have := Nat.two_pow_pos (q + 1074).toNat; omega
      have c0' : c' = 0 := by
        subst h0'; rw [Int.natAbs_zero, Nat.zero_mul] at cx'
        rcases Nat.mul_eq_zero.mp cx' with u | u
        · exact u
        · have := Nat.two_pow_pos (q' + 1074).toNat; omega
      subst c0 c0'
      simp [FP.Core.roundRatio, FP.Core.zval, FP.Core.zmag, FP.Core.inUnits, FP.Core.signed_zero]
    · have h0' : n' ≠ 0 := fun z => by
        subst z; rw [Int.zero_mul] at h
        rcases Int.mul_eq_zero.mp h with u | u
        · exact h0 u
        · omega
      have s1 := own_sgn_of hx1 hx3 h0
      have s2 := own_sgn_of hy1 hy3 (by omega)
      have s3 := own_sgn_of hx1' hx3' h0'
      have s4 := own_sgn_of hy1' hy3' (by omega)
      have es : (s != t) = (s' != t') := by
        rw [s1, s2, s3, s4]
        rw [decide_eq_decide.mpr sgn_eq, decide_eq_false (show ¬ m < 0 by omega), decide_eq_false (show ¬ m' < 0 by omega)]
      rw [es, FP.Core.roundRatio_congr (Nat.pos_of_ne_zero hd) (Nat.pos_of_ne_zero hd') cong]
  refine ⟨?_, Fl.val64_no.mpr n1, Fl.val64_no.mpr n2, hz⟩
  have hc := FP.Core.dcmp_zval n1 n2
  rw [hz, (FP.Core.compare_eq_iff _ _).mpr rfl] at hc
  rw [show FP.dcmp (FP.ddiv x y) (FP.ddiv x' y') = some .eq from hc]
  rfl
end OwnDiv
section OwnMore
theorem own_max {d : UInt64} (h : Fl.Fin64 d) (o : CmpOp) : ¬ ((0 : Int32) < (cmpValue (FP.dcmp (d &&& 0x7fffffffffffffff) (9218868437227405311 : UInt64)) o)) := by
  have q : FP.dcmp (d &&& 0x7fffffffffffffff) (9218868437227405311 : UInt64) = some .lt ∨ FP.dcmp (d &&& 0x7fffffffffffffff) (9218868437227405311 : UInt64) = some .eq := (FP.Core.le_max (Fl.noNaN64_no.mp h.noNaN)).mpr (Fl.fin64_core.mp h)
  rcases q with q | q <;> rw [q] <;> cases o <;> decide
theorem own_dy0 : own_Dy (0 : UInt64) 0 0 := ⟨⟨false, 0, -1074, by decide +kernel⟩, by omega, by decide +kernel⟩
theorem own_pos {d : UInt64} {n : Int} {k : Nat} (h : own_Dy d n k) (hn : 0 < n) (o : CmpOp) : cmpValue (FP.dcmp d (0 : UInt64)) o = (1 : Int32) := by
  have z : own_Dy (0 : UInt64) 0 k := by
    have := own_dy0.up k (by have := h.2.1; omega)
    rw [Int.zero_mul, Nat.zero_add] at this; exact this
  exact h.gt z hn o
end OwnMore
section OwnMono
/-- rounding is monotone (where both come out finite) -/
theorem own_mono_mag {s s' : Bool} {A A' B : Nat} {e e' e0 : Int} (hB : 0 < B) (h0 : e0 ≤ -1074) (he : e0 ≤ e) (he' : e0 ≤ e')
    (f1 : ∃ t c q, FP.Core.roundRatio FP.Core.b64 s A B e = .fin t c q) (f2 : ∃ t c q, FP.Core.roundRatio FP.Core.b64 s' A' B e' = .fin t c q)
    (h : FP.Core.inUnits A e e0 ≤ FP.Core.inUnits A' e' e0) : FP.Core.zmag FP.Core.b64 (FP.Core.roundRatio FP.Core.b64 s A B e) ≤ FP.Core.zmag FP.Core.b64 (FP.Core.roundRatio FP.Core.b64 s' A' B e') := by
  refine Nat.le_of_not_lt fun hlt => ?_
  have hq := FP.Core.qmin_b64
  have g0 : e0 ≤ FP.Core.b64.qmin := by rw [hq]; exact h0
  have fit1 := FP.Core.roundRatio_fits FP.Core.good_b64 s A hB e
  have fit2 := FP.Core.roundRatio_fits FP.Core.good_b64 s' A' hB e'
  obtain ⟨t, c, q, r1⟩ := f1
  obtain ⟨t', c', q', r2⟩ := f2
  have n1 : FP.Core.roundRatio FP.Core.b64 s A B e ≠ .nan := FP.Core.roundRatio_ne_nan _ _ _ _ _
  have n2 : FP.Core.roundRatio FP.Core.b64 s' A' B e' ≠ .nan := FP.Core.roundRatio_ne_nan _ _ _ _ _
  have k1 : FP.Core.inUnits A' e' e0 < FP.Core.zmag FP.Core.b64 (FP.Core.roundRatio FP.Core.b64 s A B e) * 2 ^ (FP.Core.b64.qmin - e0).toNat * B := Nat.lt_of_not_le fun z => by
    have := FP.Core.zmag_roundRatio_ge FP.Core.good_b64 (s := s') hB fit1 g0 he' z; omega
  have k2 : FP.Core.zmag FP.Core.b64 (FP.Core.roundRatio FP.Core.b64 s' A' B e') * 2 ^ (FP.Core.b64.qmin - e0).toNat * B < FP.Core.inUnits A e e0 := Nat.lt_of_not_le fun z => by
    have := FP.Core.zmag_roundRatio_le FP.Core.good_b64 (s := s) hB fit2 n2 g0 he z; omega
  rw [r1] at fit1 k1; rw [r2] at fit2 k2
  have d1 := FP.Core.roundRatio_nearest FP.Core.good_b64 hB r1 fit2.1 fit2.2.1 g0 he
  have d2 := FP.Core.roundRatio_nearest FP.Core.good_b64 hB r2 fit1.1 fit1.2.1 g0 he'
  unfold FP.Core.distance at d1 d2
  rw [FP.Core.units_fin fit1 g0, FP.Core.units_fin fit2 g0] at d1 d2
  rw [r1, r2] at hlt
  rw [← Int.natCast_mul, ← Int.natCast_mul] at d1 d2
  have eqA : FP.Core.inUnits A e e0 = FP.Core.inUnits A' e' e0 := by
    generalize FP.Core.zmag FP.Core.b64 (.fin t c q) * 2 ^ (FP.Core.b64.qmin - e0).toNat * B = v at *
    generalize FP.Core.zmag FP.Core.b64 (.fin t' c' q') * 2 ^ (FP.Core.b64.qmin - e0).toNat * B = v' at *
    generalize FP.Core.inUnits A e e0 = a at *
    generalize FP.Core.inUnits A' e' e0 = a' at *
    omega
  have cg : A * B * 2 ^ (e - e').toNat = A' * B * 2 ^ (e' - e).toNat := by
    unfold FP.Core.inUnits at eqA
    refine Nat.eq_of_mul_eq_mul_right (Nat.two_pow_pos (min e e' - e0).toNat) ?_
    have x1 : A * B * 2 ^ (e - e').toNat * 2 ^ (min e e' - e0).toNat = A * 2 ^ (e - e0).toNat * B := by
      rw [show (e - e0).toNat = (e - e').toNat + (min e e' - e0).toNat by omega, Nat.pow_add]; ac_rfl
    have x2 : A' * B * 2 ^ (e' - e).toNat * 2 ^ (min e e' - e0).toNat = A' * 2 ^ (e' - e0).toNat * B := by
      rw [show (e' - e0).toNat = (e' - e).toNat + (min e e' - e0).toNat by omega, Nat.pow_add]; ac_rfl
    rw [x1, x2, eqA]
  have same := FP.Core.roundRatio_congr (f := FP.Core.b64) (s := s) hB hB cg
  have hz : FP.Core.zmag FP.Core.b64 (FP.Core.roundRatio FP.Core.b64 s A' B e') = FP.Core.zmag FP.Core.b64 (FP.Core.roundRatio FP.Core.b64 s' A' B e') := by
    by_cases es : s = s'
    · rw [es]
    · have : s' = !s := by cases s <;> cases s' <;> simp at es ⊢
      rw [this, ← FP.Core.negate_roundRatio]
      cases FP.Core.roundRatio FP.Core.b64 s A' B e' <;> rfl
  rw [← r1, ← r2, same, hz] at hlt
  omega
theorem own_mono_z {s s' : Bool} {A A' B : Nat} {e e' e0 : Int} (hB : 0 < B) (h0 : e0 ≤ -1074) (he : e0 ≤ e) (he' : e0 ≤ e')
    (f1 : ∃ t c q, FP.Core.roundRatio FP.Core.b64 s A B e = .fin t c q) (f2 : ∃ t c q, FP.Core.roundRatio FP.Core.b64 s' A' B e' = .fin t c q)
    (h : FP.Core.signed s (FP.Core.inUnits A e e0) ≤ FP.Core.signed s' (FP.Core.inUnits A' e' e0)) : FP.Core.zval FP.Core.b64 (FP.Core.roundRatio FP.Core.b64 s A B e) ≤ FP.Core.zval FP.Core.b64 (FP.Core.roundRatio FP.Core.b64 s' A' B e') := by
  have m1 := own_mono_mag hB h0 he he' f1 f2
  have m2 := own_mono_mag hB h0 he' he f2 f1
  unfold FP.Core.zval
  rw [FP.Core.sgn_roundRatio, FP.Core.sgn_roundRatio]
  have z1 : FP.Core.inUnits A e e0 = 0 → FP.Core.zmag FP.Core.b64 (FP.Core.roundRatio FP.Core.b64 s A B e) = 0 := fun z => by
    unfold FP.Core.inUnits at z
    have hA : A = 0 := by
      rcases Nat.mul_eq_zero.mp z with u | u
      · exact u
      · have := Nat.two_pow_pos (e - e0).toNat; omega
    subst hA
    simp [FP.Core.roundRatio, FP.Core.zmag, FP.Core.inUnits]
  have z2 : FP.Core.inUnits A' e' e0 = 0 → FP.Core.zmag FP.Core.b64 (FP.Core.roundRatio FP.Core.b64 s' A' B e') = 0 := fun z => by
    unfold FP.Core.inUnits at z
    have hA : A' = 0 := by
      rcases Nat.mul_eq_zero.mp z with u | u
      · exact u
      · have := Nat.two_pow_pos (e' - e0).toNat; omega
    subst hA
    simp [FP.Core.roundRatio, FP.Core.zmag, FP.Core.inUnits]
  generalize FP.Core.zmag FP.Core.b64 (FP.Core.roundRatio FP.Core.b64 s A B e) = x at *
  generalize FP.Core.zmag FP.Core.b64 (FP.Core.roundRatio FP.Core.b64 s' A' B e') = y at *
  generalize FP.Core.inUnits A e e0 = a at *
  generalize FP.Core.inUnits A' e' e0 = b at *
  cases s <;> cases s' <;> simp only [FP.Core.signed, if_true, Bool.false_eq_true, if_false] at h ⊢
  · have := m1 (by omega); omega
  · have := z1 (by omega); have := z2 (by omega); omega
  · omega
  · have := m2 (by omega); omega
abbrev own_zv (x : UInt64) : Int := FP.Core.zval FP.Core.b64 (FP.Core.val64 x)
theorem own_shape {x : UInt64} (h : Fl.Fin64 x) : ∃ s c q, FP.Core.val64 x = .fin s c q := Fl.fin64_core.mp h
theorem own_mono_mul {C x y : UInt64} (hC : Fl.Fin64 C) (hpos : 0 ≤ own_zv C) (hx : Fl.Fin64 x) (hy : Fl.Fin64 y) (f1 : Fl.Fin64 (FP.dmul C x)) (f2 : Fl.Fin64 (FP.dmul C y)) (h : own_zv x ≤ own_zv y) : own_zv (FP.dmul C x) ≤ own_zv (FP.dmul C y) := by
  obtain ⟨t, d, r, c1⟩ := own_shape hC
  obtain ⟨s, c, q, x1⟩ := own_shape hx
  obtain ⟨s', c', q', y1⟩ := own_shape hy
  have hq := FP.Core.qmin_b64
  obtain ⟨p1, p2, p3⟩ := FP.Core.product_units (f := FP.Core.b64) (c1 ▸ FP.Core.val64_fits C) (x1 ▸ FP.Core.val64_fits x)
  obtain ⟨p1', p2', p3'⟩ := FP.Core.product_units (f := FP.Core.b64) (c1 ▸ FP.Core.val64_fits C) (y1 ▸ FP.Core.val64_fits y)
  have vx : FP.Core.val64 (FP.dmul C x) = FP.Core.roundRatio FP.Core.b64 (t != s) (d * c) 1 (r + q) := by
    have : FP.Core.val64 (FP.dmul C x) = FP.Core.round FP.Core.b64 (FP.Core.exactProduct (FP.Core.val64 C) (FP.Core.val64 x)) := FP.Core.val64_dmul C x
    rw [this, c1, x1, p1]; rfl
  have vy : FP.Core.val64 (FP.dmul C y) = FP.Core.roundRatio FP.Core.b64 (t != s') (d * c') 1 (r + q') := by
    have : FP.Core.val64 (FP.dmul C y) = FP.Core.round FP.Core.b64 (FP.Core.exactProduct (FP.Core.val64 C) (FP.Core.val64 y)) := FP.Core.val64_dmul C y
    rw [this, c1, y1, p1']; rfl
  have g1 := own_shape f1; have g2 := own_shape f2
  unfold own_zv at *
  rw [vx] at g1 ⊢; rw [vy] at g2 ⊢
  refine own_mono_z (e0 := -2148) (by decide) (by omega) (by rw [hq] at p2; omega) (by rw [hq] at p2'; omega) g1 g2 ?_
  rw [hq] at p3 p3'
  have p4 : FP.Core.inUnits (d * c) (r + q) (-2148) = _ := p3
  have p4' : FP.Core.inUnits (d * c') (r + q') (-2148) = _ := p3'
  rw [p4, p4']
  rw [c1] at hpos; rw [x1, y1] at h
  have sg : ∀ (a b : Bool) (m n : Nat), FP.Core.signed (a != b) (m * n) = FP.Core.signed a m * FP.Core.signed b n := by
    intro a b m n
    cases a <;> cases b <;> simp [FP.Core.signed, Int.natCast_mul, Int.neg_mul, Int.mul_neg]
  rw [sg, sg]
  exact Int.mul_le_mul_of_nonneg_left h hpos
theorem own_mono_add {C x y : UInt64} (hC : Fl.Fin64 C) (hx : Fl.Fin64 x) (hy : Fl.Fin64 y) (f1 : Fl.Fin64 (FP.dadd C x)) (f2 : Fl.Fin64 (FP.dadd C y)) (h : own_zv x ≤ own_zv y) : own_zv (FP.dadd C x) ≤ own_zv (FP.dadd C y) := by
  obtain ⟨t, d, r, c1⟩ := own_shape hC
  obtain ⟨s, c, q, x1⟩ := own_shape hx
  obtain ⟨s', c', q', y1⟩ := own_shape hy
  have hq := FP.Core.qmin_b64
  obtain ⟨sg, n, e, p1, p2, p3⟩ := FP.Core.sum_units (f := FP.Core.b64) (c1 ▸ FP.Core.val64_fits C) (x1 ▸ FP.Core.val64_fits x)
  obtain ⟨sg', n', e', p1', p2', p3'⟩ := FP.Core.sum_units (f := FP.Core.b64) (c1 ▸ FP.Core.val64_fits C) (y1 ▸ FP.Core.val64_fits y)
  have vx : FP.Core.val64 (FP.dadd C x) = FP.Core.roundRatio FP.Core.b64 sg n 1 e := by
    have : FP.Core.val64 (FP.dadd C x) = FP.Core.round FP.Core.b64 (FP.Core.exactSum (FP.Core.val64 C) (FP.Core.val64 x)) := FP.Core.val64_dadd C x
    rw [this, c1, x1, p1]; rfl
  have vy : FP.Core.val64 (FP.dadd C y) = FP.Core.roundRatio FP.Core.b64 sg' n' 1 e' := by
    have : FP.Core.val64 (FP.dadd C y) = FP.Core.round FP.Core.b64 (FP.Core.exactSum (FP.Core.val64 C) (FP.Core.val64 y)) := FP.Core.val64_dadd C y
    rw [this, c1, y1, p1']; rfl
  have g1 := own_shape f1; have g2 := own_shape f2
  unfold own_zv at *
  rw [vx] at g1 ⊢; rw [vy] at g2 ⊢
  refine own_mono_z (e0 := -1074) (by decide) (by omega) (by rw [hq] at p2; omega) (by rw [hq] at p2'; omega) g1 g2 ?_
  rw [hq] at p3 p3'
  rw [x1, y1] at h
  rw [p3, p3']
  omega
theorem own_mono_div {x y d : UInt64} (hd : Fl.Fin64 d) (hpos : 0 < own_zv d) (hx : Fl.Fin64 x) (hy : Fl.Fin64 y) (f1 : Fl.Fin64 (FP.ddiv x d)) (f2 : Fl.Fin64 (FP.ddiv y d)) (h : own_zv x ≤ own_zv y) : own_zv (FP.ddiv x d) ≤ own_zv (FP.ddiv y d) := by
  obtain ⟨t, m, r, c1⟩ := own_shape hd
  obtain ⟨s, c, q, x1⟩ := own_shape hx
  obtain ⟨s', c', q', y1⟩ := own_shape hy
  have hq := FP.Core.qmin_b64
  have ft1 : FP.Core.fits FP.Core.b64 (.fin t m r) := c1 ▸ FP.Core.val64_fits d
  have ft2 : FP.Core.fits FP.Core.b64 (.fin s c q) := x1 ▸ FP.Core.val64_fits x
  have ft3 : FP.Core.fits FP.Core.b64 (.fin s' c' q') := y1 ▸ FP.Core.val64_fits y
  have b1 := ft1.2.1; have b2 := ft1.2.2.1; have b3 := ft2.2.1; have b4 := ft3.2.1
  rw [hq] at b1 b3 b4; rw [own_qmax] at b2
  have ht : t = false ∧ m ≠ 0 := by
    unfold own_zv FP.Core.zval FP.Core.sgn FP.Core.zmag FP.Core.inUnits at hpos
    rw [c1] at hpos
    refine ⟨?_, fun z => ?_⟩
    · cases t
      · rfl
      · have hp : (0 : Int) < -((m * 2 ^ (r - FP.Core.b64.qmin).toNat : Nat) : Int) := hpos
        omega
    · subst z; simp [FP.Core.signed_zero] at hpos
  obtain ⟨rfl, hm⟩ := ht
  have vx : FP.Core.val64 (FP.ddiv x d) = FP.Core.roundRatio FP.Core.b64 (s != false) c m (q - r) := by
    have : FP.Core.val64 (FP.ddiv x d) = FP.Core.quotient FP.Core.b64 (FP.Core.val64 x) (FP.Core.val64 d) := FP.Core.val64_ddiv x d
    rw [this, c1, x1]
    show (if m = 0 then _ else _) = _
    rw [if_neg hm]
  have vy : FP.Core.val64 (FP.ddiv y d) = FP.Core.roundRatio FP.Core.b64 (s' != false) c' m (q' - r) := by
    have : FP.Core.val64 (FP.ddiv y d) = FP.Core.quotient FP.Core.b64 (FP.Core.val64 y) (FP.Core.val64 d) := FP.Core.val64_ddiv y d
    rw [this, c1, y1]
    show (if m = 0 then _ else _) = _
    rw [if_neg hm]
  have g1 := own_shape f1; have g2 := own_shape f2
  unfold own_zv at *
  rw [vx] at g1 ⊢; rw [vy] at g2 ⊢
  obtain ⟨N, hN⟩ : ∃ N : Nat, N = 4000 := ⟨_, rfl⟩
  refine own_mono_z (e0 := -(N : Int)) (Nat.pos_of_ne_zero hm) (by omega) (by omega) (by omega) g1 g2 ?_
  rw [x1, y1] at h
  have u : ∀ (s : Bool) (c : Nat) (q : Int), -1074 ≤ q → FP.Core.signed (s != false) (FP.Core.inUnits c (q - r) (-(N : Int))) = FP.Core.zval FP.Core.b64 (.fin s c q) * ((2 ^ ((N : Int) - 1074 - r).toNat : Nat) : Int) := by
    intro s c q hq'
    unfold FP.Core.zval FP.Core.sgn FP.Core.zmag FP.Core.inUnits
    rw [hq, ← FP.Core.signed_mul, Nat.mul_assoc, ← Nat.pow_add, show (q - r - -(N : Int)).toNat = (q - -1074).toNat + ((N : Int) - 1074 - r).toNat by omega]
    cases s <;> rfl
  rw [u s c q b3, u s' c' q' b4]
  exact Int.mul_le_mul_of_nonneg_right h (Int.natCast_nonneg _)
end OwnMono
section OwnPlain
open Jvm.Free.Fl
def own_g (r : UInt64) : UInt64 := FP.dmul (4608083138725491507 : UInt64) (FP.dadd (4598175219545276416 : UInt64) (FP.dmul (4604930618986332160 : UInt64) r))
def own_f (w : Int32) (d : UInt64) : UInt64 := own_g (FP.ddiv (FP.i2d w) d)
def own_ok (w : Int32) (d : UInt64) : Prop := NoNaN64 (FP.ddiv (FP.i2d w) d) ∧ NoNaN64 (FP.dmul (4604930618986332160 : UInt64) (FP.ddiv (FP.i2d w) d)) ∧ NoNaN64 (FP.dadd (4598175219545276416 : UInt64) (FP.dmul (4604930618986332160 : UInt64) (FP.ddiv (FP.i2d w) d))) ∧ NoNaN64 (FP.dmul (4608083138725491507 : UInt64) (FP.dadd (4598175219545276416 : UInt64) (FP.dmul (4604930618986332160 : UInt64) (FP.ddiv (FP.i2d w) d))))
theorem own_m75 : Mag64 1023 (4604930618986332160 : UInt64) := by unfold Mag64; decide
theorem own_m25 : Mag64 1022 (4598175219545276416 : UInt64) := by unfold Mag64; decide
theorem own_m12 : Mag64 1024 (4608083138725491507 : UInt64) := by unfold Mag64; decide
theorem own_t1 {r : UInt64} (h : Mag64 1057 r) : Mag64 1058 (FP.dmul (4604930618986332160 : UInt64) r) := by have q := dmul_mag own_m75 h (by decide) (by decide); exact q
theorem own_t2 {r : UInt64} (h : Mag64 1057 r) : Mag64 1060 (FP.dadd (4598175219545276416 : UInt64) (FP.dmul (4604930618986332160 : UInt64) r)) := by have q := dadd_mag (own_m25.mono (show 1022 ≤ 1058 by decide)) (own_t1 h) (by decide); exact q
theorem own_t3 {r : UInt64} (h : Mag64 1057 r) : Mag64 1062 (own_g r) := by have q := dmul_mag own_m12 (own_t2 h) (by decide) (by decide); exact q
theorem own_t0 (w : Int32) {m : Int32} (hm : 0 < m.toInt) : Mag64 1057 (FP.ddiv (FP.i2d w) (FP.i2d m)) := by
  have b : Jvm.RoadKit.Big64 1023 (FP.i2d m) := FP.Core.i2d_big (by omega)
  have q := Jvm.RoadKit.ddiv_mag (i2d_mag w) b (by decide) (by decide)
  exact q
theorem own_okM (w : Int32) {m : Int32} (hm : 0 < m.toInt) : own_ok w (FP.i2d m) := ⟨((own_t0 w hm).fin (by decide)).noNaN, ((own_t1 (own_t0 w hm)).fin (by decide)).noNaN, ((own_t2 (own_t0 w hm)).fin (by decide)).noNaN, ((own_t3 (own_t0 w hm)).fin (by decide)).noNaN⟩
theorem own_g_mono {r r' : UInt64} (h : Mag64 1057 r) (h' : Mag64 1057 r') (hz : own_zv r ≤ own_zv r') : own_zv (own_g r) ≤ own_zv (own_g r') := by
  have a1 := own_mono_mul (C := 4604930618986332160) (own_m75.fin (by decide)) (by decide +kernel) (h.fin (by decide)) (h'.fin (by decide)) ((own_t1 h).fin (by decide)) ((own_t1 h').fin (by decide)) hz
  have a2 := own_mono_add (C := 4598175219545276416) (own_m25.fin (by decide)) ((own_t1 h).fin (by decide)) ((own_t1 h').fin (by decide)) ((own_t2 h).fin (by decide)) ((own_t2 h').fin (by decide)) a1
  exact own_mono_mul (C := 4608083138725491507) (own_m12.fin (by decide)) (by decide +kernel) ((own_t2 h).fin (by decide)) ((own_t2 h').fin (by decide)) ((own_t3 h).fin (by decide)) ((own_t3 h').fin (by decide)) a2
theorem own_g_same {r r' : UInt64} (h : Mag64 1057 r) (h' : Mag64 1057 r') (hz : own_zv r = own_zv r') : own_zv (own_g r) = own_zv (own_g r') :=
  Int.le_antisymm (own_g_mono h h' (Int.le_of_eq hz)) (own_g_mono h' h (Int.le_of_eq hz.symm))
theorem own_zi (w : Int32) : own_zv (FP.i2d w) = w.toInt * ((2 ^ 1074 : Nat) : Int) := (own_dy_i2d w).2.2
theorem own_two : (0 : Int) < ((2 ^ 1074 : Nat) : Int) := by have := Nat.two_pow_pos 1074; omega
theorem own_zpos {m : Int32} (hm : 0 < m.toInt) : 0 < own_zv (FP.i2d m) := by rw [own_zi]; exact Int.mul_pos hm own_two
theorem own_r_mono {w w' m : Int32} (hm : 0 < m.toInt) (h : w.toInt ≤ w'.toInt) : own_zv (FP.ddiv (FP.i2d w) (FP.i2d m)) ≤ own_zv (FP.ddiv (FP.i2d w') (FP.i2d m)) :=
  own_mono_div (i2d_fin m) (own_zpos hm) (i2d_fin w) (i2d_fin w') ((own_t0 w hm).fin (by decide)) ((own_t0 w' hm).fin (by decide)) (by
    rw [own_zi, own_zi]; exact Int.mul_le_mul_of_nonneg_right h (Int.le_of_lt own_two))
theorem own_f_mono {w w' m : Int32} (hm : 0 < m.toInt) (h : w.toInt ≤ w'.toInt) : own_zv (own_f w (FP.i2d m)) ≤ own_zv (own_f w' (FP.i2d m)) := own_g_mono (own_t0 w hm) (own_t0 w' hm) (own_r_mono hm h)
theorem own_nnv {x : UInt64} {K : Nat} (h : Mag64 K x) (hK : K ≤ 2047) : FP.Core.val64 x ≠ .nan := val64_no.mp (h.fin hK).noNaN
theorem own_cle {x y : UInt64} (hx : FP.Core.val64 x ≠ .nan) (hy : FP.Core.val64 y ≠ .nan) (h : own_zv x ≤ own_zv y) (o : CmpOp) : ¬ ((0 : Int32) < cmpValue (FP.dcmp x y) o) := by
  have e : FP.dcmp x y = some (compare (own_zv x) (own_zv y)) := FP.Core.dcmp_zval hx hy
  rw [e]
  rcases Int.lt_or_eq_of_le h with q | q
  · rw [(FP.Core.compare_lt_iff _ _).mpr q]; cases o <;> decide
  · rw [(FP.Core.compare_eq_iff _ _).mpr q]; cases o <;> decide
theorem own_clt {x y : UInt64} (hx : FP.Core.val64 x ≠ .nan) (hy : FP.Core.val64 y ≠ .nan) (h : own_zv x < own_zv y) (o : CmpOp) : cmpValue (FP.dcmp x y) o = -1 := by
  have e : FP.dcmp x y = some (compare (own_zv x) (own_zv y)) := FP.Core.dcmp_zval hx hy
  rw [e, (FP.Core.compare_lt_iff _ _).mpr h]; rfl
theorem own_cgt {x y : UInt64} (hx : FP.Core.val64 x ≠ .nan) (hy : FP.Core.val64 y ≠ .nan) (h : own_zv y < own_zv x) (o : CmpOp) : cmpValue (FP.dcmp x y) o = 1 := by
  have e : FP.dcmp x y = some (compare (own_zv x) (own_zv y)) := FP.Core.dcmp_zval hx hy
  rw [e, (FP.Core.compare_gt_iff _ _).mpr h]; rfl
theorem own_ceq {x y : UInt64} (hx : FP.Core.val64 x ≠ .nan) (hy : FP.Core.val64 y ≠ .nan) (h : own_zv x = own_zv y) (o : CmpOp) : cmpValue (FP.dcmp x y) o = 0 := by
  have e : FP.dcmp x y = some (compare (own_zv x) (own_zv y)) := FP.Core.dcmp_zval hx hy
  rw [e, (FP.Core.compare_eq_iff _ _).mpr h]; rfl
/-- the ratio is a known fraction -/
theorem own_ratio {w m : Int32} (hm : 0 < m.toInt) (v : Int) (i : Nat) (hi : i ≤ 1074) (hv : v.natAbs < 9007199254740992) (h : w.toInt * ((2 ^ i : Nat) : Int) = v * m.toInt) : own_zv (FP.ddiv (FP.i2d w) (FP.i2d m)) = v * ((2 ^ (1074 - i) : Nat) : Int) := by
  have := own_Dy.div i (own_dy_i2d w) (own_dy_i2d m) (by omega) hi hv (w := v) (by rw [Nat.zero_add, h]; simp)
  exact this.2.2
/-- 1/65536 and its negative -/
theorem own_tiny (m : Int32) (h1 : 0 < m.toInt) (h2 : m.toInt ≤ 65536) (w : Int32) (hw : 0 < w.toInt) : own_zv (4535124824762089472 : UInt64) ≤ own_zv (FP.ddiv (FP.i2d w) (FP.i2d m)) := by
  have c : own_Dy (4535124824762089472 : UInt64) 1 16 := ⟨⟨false, 2 ^ 52, -68, by decide +kernel⟩, by omega, by decide +kernel⟩
  have p := c.mul (own_dy_i2d m) (by omega) (by omega)
  rw [Int.one_mul, Nat.add_zero] at p
  have q := own_Dy.div 16 p (own_dy_i2d m) (w := 1) (by omega) (by omega) (by decide) (by rw [Nat.zero_add, Int.one_mul])
  have e : own_zv (4535124824762089472 : UInt64) = own_zv (FP.ddiv (FP.dmul (4535124824762089472 : UInt64) (FP.i2d m)) (FP.i2d m)) := c.2.2.trans q.2.2.symm
  rw [e]
  refine own_mono_div (i2d_fin m) (own_zpos h1) p.fin (i2d_fin w) q.fin ((own_t0 w h1).fin (by decide)) ?_
  have pz : own_zv (FP.dmul (4535124824762089472 : UInt64) (FP.i2d m)) = m.toInt * ((2 ^ (1074 - 16) : Nat) : Int) := p.2.2
  rw [pz, own_zi, show ((2 ^ 1074 : Nat) : Int) = 65536 * ((2 ^ (1074 - 16) : Nat) : Int) by decide +kernel, ← Int.mul_assoc]
  exact Int.mul_le_mul_of_nonneg_right (by omega) (Int.natCast_nonneg _)
theorem own_tinyN (m : Int32) (h1 : 0 < m.toInt) (h2 : m.toInt ≤ 65536) (w : Int32) (hw : w.toInt < 0) : own_zv (FP.ddiv (FP.i2d w) (FP.i2d m)) ≤ own_zv (13758496861616865280 : UInt64) := by
  have c : own_Dy (13758496861616865280 : UInt64) (-1) 16 := ⟨⟨true, 2 ^ 52, -68, by decide +kernel⟩, by omega, by decide +kernel⟩
  have p := c.mul (own_dy_i2d m) (by omega) (by omega)
  rw [Nat.add_zero] at p
  have q := own_Dy.div 16 p (own_dy_i2d m) (w := -1) (by omega) (by omega) (by decide) (by rw [Nat.zero_add])
  have e : own_zv (13758496861616865280 : UInt64) = own_zv (FP.ddiv (FP.dmul (13758496861616865280 : UInt64) (FP.i2d m)) (FP.i2d m)) := c.2.2.trans q.2.2.symm
  rw [e]
  refine own_mono_div (i2d_fin m) (own_zpos h1) (i2d_fin w) p.fin ((own_t0 w h1).fin (by decide)) q.fin ?_
  have pz : own_zv (FP.dmul (13758496861616865280 : UInt64) (FP.i2d m)) = -1 * m.toInt * ((2 ^ (1074 - 16) : Nat) : Int) := p.2.2
  rw [pz, own_zi, show ((2 ^ 1074 : Nat) : Int) = 65536 * ((2 ^ (1074 - 16) : Nat) : Int) by decide +kernel, ← Int.mul_assoc]
  exact Int.mul_le_mul_of_nonneg_right (by omega) (Int.natCast_nonneg _)
def own_n (a : Int32) : Int32 := (a &&& (65535 : Int32)) + (1 : Int32)
theorem own_hn (a : Int32) : 1 ≤ (own_n a).toInt ∧ (own_n a).toInt ≤ 65536 := by
  obtain ⟨n, h, hn⟩ := own_andN a 65535 65535 (by decide)
  have e : (1 : Int32).toInt = 1 := by decide
  unfold own_n
  rw [own_iadd (by omega), e, h]; omega
theorem own_2n (a : Int32) : ((2 : Int32) * own_n a).toInt = 2 * (own_n a).toInt := by
  have h := own_hn a
  have e : (2 : Int32).toInt = 2 := by decide
  rw [own_imul (by rw [e]; omega), e]
/-- 2.0 * avg is the double of 2 n -/
theorem own_dbl (a : Int32) : FP.dmul (4611686018427387904 : UInt64) (FP.i2d (own_n a)) = FP.i2d ((2 : Int32) * own_n a) := by
  have h := own_hn a
  have c : own_Dy (4611686018427387904 : UInt64) 2 0 := ⟨⟨false, 2 ^ 52, -51, by decide +kernel⟩, by omega, by decide +kernel⟩
  have p := c.mul (own_dy_i2d (own_n a)) (by omega) (by omega)
  have q := own_dy_i2d ((2 : Int32) * own_n a)
  rw [own_2n] at q
  have hc := p.cmp q
  rw [(FP.Core.compare_eq_iff _ _).mpr rfl] at hc
  refine FP.Core.eq_bits (fun z => ?_) hc
  have e := FP.Core.DZero.zval z
  have q2 := q.2.2
  rw [q2] at e
  rcases Int.mul_eq_zero.mp e with u | u
  · omega
  · have := Nat.two_pow_pos (1074 - 0); omega
theorem own_shr (b : Int32) : (b >>> ((1 : Int32) &&& 31)).toInt = b.toInt / 2 := c_ishr b 1 1 (by decide)
theorem own_2k (b : Int32) : ((2 : Int32) * (b >>> ((1 : Int32) &&& 31))).toInt = 2 * (b >>> ((1 : Int32) &&& 31)).toInt := by
  have h := rng32 b; have h2 := own_shr b
  have e : (2 : Int32).toInt = 2 := by decide
  have q := c_imul (2 : Int32) (b >>> ((1 : Int32) &&& 31)); have r := rng32 ((2 : Int32) * (b >>> ((1 : Int32) &&& 31)))
  rw [e] at q
  omega
theorem own_fnn (w : Int32) {m : Int32} (hm : 0 < m.toInt) : FP.Core.val64 (own_f w (FP.i2d m)) ≠ .nan := own_nnv (own_t3 (own_t0 w hm)) (by decide)
theorem own_hpos (a : Int32) : 0 < (own_n a).toInt := by have := own_hn a; omega
theorem own_hpos2 (a : Int32) : 0 < ((2 : Int32) * own_n a).toInt := by have := own_hn a; rw [own_2n]; omega
-- the law's parts
theorem own_le {b1 b2 a : Int32} (h : ¬ b2 < b1) : ¬ ((0 : Int32) < cmpValue (FP.dcmp (own_f b1 (FP.i2d (own_n a))) (own_f b2 (FP.i2d (own_n a)))) .g) :=
  own_cle (own_fnn _ (own_hpos a)) (own_fnn _ (own_hpos a)) (own_f_mono (own_hpos a) (by rw [Int32.lt_iff_toInt_lt] at h; omega)) .g
theorem own_ge {b1 b2 a : Int32} (h : b2 < b1) : ¬ ((0 : Int32) < cmpValue (FP.dcmp (own_f b2 (FP.i2d (own_n a))) (own_f b1 (FP.i2d (own_n a)))) .g) :=
  own_cle (own_fnn _ (own_hpos a)) (own_fnn _ (own_hpos a)) (own_f_mono (own_hpos a) (by rw [Int32.lt_iff_toInt_lt] at h; omega)) .g
theorem own_03 : FP.Core.val64 (4599075939470750515 : UInt64) ≠ .nan := by decide +kernel
theorem own_sp {b1 a : Int32} (h : (0 : Int32) < b1) : cmpValue (FP.dcmp (own_f b1 (FP.i2d (own_n a))) (4599075939470750515 : UInt64)) .l = 1 := by
  have hb : 0 < b1.toInt := by rw [Int32.lt_iff_toInt_lt] at h; exact h
  have q := own_g_mono (r := 4535124824762089472) (by unfold Mag64; decide) (own_t0 b1 (own_hpos a)) (own_tiny (own_n a) (own_hpos a) (own_hn a).2 b1 hb)
  exact own_cgt (own_fnn _ (own_hpos a)) own_03 (Int.lt_of_lt_of_le (by decide +kernel) q) .l
theorem own_sn {b1 a : Int32} (h : b1 < (0 : Int32)) : cmpValue (FP.dcmp (own_f b1 (FP.i2d (own_n a))) (4599075939470750515 : UInt64)) .g = -1 := by
  have hb : b1.toInt < 0 := by rw [Int32.lt_iff_toInt_lt] at h; exact h
  have q := own_g_mono (r' := 13758496861616865280) (own_t0 b1 (own_hpos a)) (by unfold Mag64; decide) (own_tinyN (own_n a) (own_hpos a) (own_hn a).2 b1 hb)
  exact own_clt (own_fnn _ (own_hpos a)) own_03 (Int.lt_of_le_of_lt q (by decide +kernel)) .g
theorem own_sz {b1 a : Int32} (h : ¬ (0 : Int32) < b1) (h2 : ¬ b1 < (0 : Int32)) : cmpValue (FP.dcmp (own_f b1 (FP.i2d (own_n a))) (4599075939470750515 : UInt64)) .l = 0 := by
  have hb : b1.toInt = 0 := by rw [Int32.lt_iff_toInt_lt] at h h2; have e : (0 : Int32).toInt = 0 := by decide
                               omega
  have q := own_g_same (r' := 0) (own_t0 b1 (own_hpos a)) (by unfold Mag64; decide) ((own_ratio (own_hpos a) 0 0 (by omega) (by decide) (by rw [hb, Int.zero_mul, Int.zero_mul])).trans (by decide +kernel))
  exact own_ceq (own_fnn _ (own_hpos a)) own_03 (q.trans (by decide +kernel)) .l
theorem own_mean (a : Int32) : cmpValue (FP.dcmp (own_f (own_n a) (FP.i2d (own_n a))) (4608083138725491507 : UInt64)) .l = 0 := by
  have q := own_g_same (r' := 4607182418800017408) (own_t0 (own_n a) (own_hpos a)) (by unfold Mag64; decide) ((own_ratio (own_hpos a) 1 0 (by omega) (by decide) (by rw [Nat.pow_zero, Int.one_mul]; exact Int.mul_one _)).trans (by decide +kernel))
  exact own_ceq (own_fnn _ (own_hpos a)) (by decide +kernel) (q.trans (by decide +kernel)) .l
theorem own_scale (b1 a : Int32) : cmpValue (FP.dcmp (own_f ((2 : Int32) * (b1 >>> ((1 : Int32) &&& 31))) (FP.dmul (4611686018427387904 : UInt64) (FP.i2d (own_n a)))) (own_f (b1 >>> ((1 : Int32) &&& 31)) (FP.i2d (own_n a)))) .l = 0 := by
  rw [own_dbl]
  have h := own_hn a
  have x1 := own_dy_i2d ((2 : Int32) * (b1 >>> ((1 : Int32) &&& 31)))
  have y1 := own_dy_i2d ((2 : Int32) * own_n a)
  rw [own_2k] at x1; rw [own_2n] at y1
  have q := (own_div_eq x1 y1 (own_dy_i2d (b1 >>> ((1 : Int32) &&& 31))) (own_dy_i2d (own_n a)) (by omega) (by omega) (by generalize (b1 >>> ((1 : Int32) &&& 31)).toInt = z; generalize (own_n a).toInt = w; rw [Int.mul_assoc, Int.mul_left_comm]) .l).2.2.2
  exact own_ceq (own_fnn _ (own_hpos2 a)) (own_fnn _ (own_hpos a)) (own_g_same (own_t0 _ (own_hpos2 a)) (own_t0 _ (own_hpos a)) q) .l
theorem own_tw (a : Int32) : own_zv (own_f ((2 : Int32) * own_n a) (FP.i2d (own_n a))) = own_zv (own_g 4611686018427387904) :=
  own_g_same (own_t0 _ (own_hpos a)) (by unfold Mag64; decide) ((own_ratio (own_hpos a) 2 0 (by omega) (by decide) (by rw [own_2n, Nat.pow_zero]; exact Int.mul_one _)).trans (by decide +kernel))
theorem own_hf (a : Int32) : own_zv (own_f (own_n a) (FP.dmul (4611686018427387904 : UInt64) (FP.i2d (own_n a)))) = own_zv (own_g 4602678819172646912) := by
  rw [own_dbl]
  exact own_g_same (own_t0 _ (own_hpos2 a)) (by unfold Mag64; decide) ((own_ratio (own_hpos2 a) 1 1 (by omega) (by decide) (by rw [own_2n, Nat.pow_one, Int.one_mul]; exact Int.mul_comm _ _)).trans (by decide +kernel))
theorem own_hfn (a : Int32) : FP.Core.val64 (own_f (own_n a) (FP.dmul (4611686018427387904 : UInt64) (FP.i2d (own_n a)))) ≠ .nan := by rw [own_dbl]; exact own_fnn _ (own_hpos2 a)
theorem own_ok2 (w a : Int32) : own_ok w (FP.dmul (4611686018427387904 : UInt64) (FP.i2d (own_n a))) := by rw [own_dbl]; exact own_okM w (own_hpos2 a)
end OwnPlain
theorem d1_0 : decode prog_58_method_6_code 0 = .ok (.iload_n 0, 1) := by decide +kernel
theorem d1_1 : decode prog_58_method_6_code 1 = .ok (.i2d, 1) := by decide +kernel
theorem d1_2 : decode prog_58_method_6_code 2 = .ok (.dload_n 1, 1) := by decide +kernel
theorem d1_3 : decode prog_58_method_6_code 3 = .ok (.ddiv, 1) := by decide +kernel
theorem d1_4 : decode prog_58_method_6_code 4 = .ok (.dstore_n 3, 1) := by decide +kernel
theorem d1_5 : decode prog_58_method_6_code 5 = .ok (.ldc2_w 31, 3) := by decide +kernel
theorem d1_8 : decode prog_58_method_6_code 8 = .ok (.ldc2_w 33, 3) := by decide +kernel
theorem d1_11 : decode prog_58_method_6_code 11 = .ok (.ldc2_w 35, 3) := by decide +kernel
theorem d1_14 : decode prog_58_method_6_code 14 = .ok (.dload_n 3, 1) := by decide +kernel
theorem d1_15 : decode prog_58_method_6_code 15 = .ok (.dmul, 1) := by decide +kernel
theorem d1_16 : decode prog_58_method_6_code 16 = .ok (.dadd, 1) := by decide +kernel
theorem d1_17 : decode prog_58_method_6_code 17 = .ok (.dmul, 1) := by decide +kernel
theorem d1_18 : decode prog_58_method_6_code 18 = .ok (.dreturn, 1) := by decide +kernel
theorem pn1 : plainName "com/example/parkville/parkville/scoring/OkapiWeighting" = true := by first | (simp [plainName, overriddenIn]; done) | decide +kernel
theorem ef1 (m : MethodId) (p0 : Int32) (d1 : UInt64) : entryFrame m #[(.int p0), (.double d1)] 5 = mkF m 0 #[.val (.int p0), .val (.double d1), .second, .unset, .unset] [] := by first | (simp [entryFrame, mkF, argsToLocals, Value.category]; done) | rfl
def Q1 (Z : State) (p0 : Int32) (d1 : UInt64) (h0 : Heap) (n0 : Nat) (v : Option Value) (h : Heap) (L : List Loc) : Prop := v = some (.double (own_f p0 d1)) ∧ Fr n0 L ∧ h = h0
set_option maxRecDepth 65536 in
set_option maxHeartbeats 40000000 in
theorem rm1 (l : Launch) (Z : State) (ar : Array Value) (hw : ∀ d ∈ tables_1, d.before ar Z = true) (ws : List Jvm.Cond) (p0 : Int32) (d1 : UInt64) (h0 : Heap) (n0 : Nat) (Z0 : n0 ≤ h0.size) (hok : own_ok p0 d1) :
    MetFree l (⟨"com/example/parkville/parkville/scoring/OkapiWeighting", "lengthNorm", "(ID)D"⟩ : MethodName) (head1 (Jvm.Cond.code (⟨"com/example/parkville/parkville/scoring/OkapiWeighting", "lengthNorm", "(ID)D"⟩ : MethodName) prog_58_method_6_code 5 (some .double) :: ws) ({ frames := 0, cells := 0, slots := 0, locals := 0 } : Room)) (fun a U => a = #[(.int p0), (.double d1)] ∧ Z.Warmed39 U.vm ∧ U.heap = h0) (fun _ _ _ _ _ => True) (fun _ U o U' => ∃ v L, o = .returned v ∧ Q1 Z p0 d1 h0 n0 v U'.heap L ∧ FrameEnd U o U' L ({ frames := 0, cells := 0, slots := 0, locals := 0 } : Room).cells ({ frames := 0, cells := 0, slots := 0, locals := 0 } : Room).slots) := by
  refine MetFree.of_bodySF (plainFor_of_name pn1) hisR ?_
  intro p e s m args below meth c s₁ Bd hml0 hP hK
  obtain ⟨rfl, hZ, hh⟩ := hP
  have hx := Bd.exec
  have hby := Bd.bytes
  have hlk := Bd.notSynchronized
  have hml : c.maxLocals = 5 := hml0
  have hown : s.vm.findClass "com/example/parkville/parkville/scoring/OkapiWeighting" = some m.cls := findClass_of_methodNamed Bd.named
  have hnm := (name_of_methodNamed Bd.named Bd.method).1
  have X0 : Stand p l e ({ frames := 0, cells := 0, slots := 0, locals := 0 } : Room) s m #[(.int p0), (.double d1)] below meth c s₁ [] 0 0 := Stand.of_body Bd
  have e0 : s₁.heap = h0 := by rw [← hh, Bd.state]; rfl
  have N0 := Fr.nil n0
  have K0 := Keep.refl h0 []
  refine own_enter (Q := Q1 Z p0 d1 h0 n0) (ef1 m p0 d1) ?_
  refine own_st (T' := s₁) (g' := (mkF m 18 #[.val (.int p0), .val (.double d1), .second, .val (.double (FP.ddiv (FP.i2d p0) d1)), .second] [(.double (FP.dmul (4608083138725491507 : UInt64) (FP.dadd (4598175219545276416 : UInt64) (FP.dmul (4604930618986332160 : UInt64) (FP.ddiv (FP.i2d p0) d1)))))])) (fun t k => ?_) ?_
  · show Steps p.tables e below (s₁.setTop (mkF m 0 #[.val (.int p0), .val (.double d1), .second, .unset, .unset] [])) t
    refine XS.iloadN X0.here hx rfl (hb hby d1_0) rfl ?_
    show Steps p.tables e below (s₁.setTop (mkF m 1 #[.val (.int p0), .val (.double d1), .second, .unset, .unset] [(.int p0)])) t
    refine XS.i2dS X0.here hx rfl (hb hby d1_1) rfl rfl ?_
    show Steps p.tables e below (s₁.setTop (mkF m 2 #[.val (.int p0), .val (.double d1), .second, .unset, .unset] [(.double (FP.i2d p0))])) t
    refine XS.dloadN X0.here hx rfl (hb hby d1_2) rfl ?_
    show Steps p.tables e below (s₁.setTop (mkF m 3 #[.val (.int p0), .val (.double d1), .second, .unset, .unset] [(.double d1), (.double (FP.i2d p0))])) t
    refine XS.ddivS X0.here hx rfl (hb hby d1_3) rfl hok.1 rfl ?_
    show Steps p.tables e below (s₁.setTop (mkF m 4 #[.val (.int p0), .val (.double d1), .second, .unset, .unset] [(.double (FP.ddiv (FP.i2d p0) d1))])) t
    refine XS.dstoreN X0.here hx rfl (hb hby d1_4) rfl (l' := #[.val (.int p0), .val (.double d1), .second, .val (.double (FP.ddiv (FP.i2d p0) d1)), .second]) rfl ?_
    show Steps p.tables e below (s₁.setTop (mkF m 5 #[.val (.int p0), .val (.double d1), .second, .val (.double (FP.ddiv (FP.i2d p0) d1)), .second] [])) t
    refine X0.ldc2DoubleC hx hown (mvT hZ (hw _ (List.mem_of_getElem? (i := 5) rfl))) (g := (mkF m 5 #[.val (.int p0), .val (.double d1), .second, .val (.double (FP.ddiv (FP.i2d p0) d1)), .second] [])) rfl (hb hby d1_5) _ ?_
    show Steps p.tables e below (s₁.setTop (mkF m 8 #[.val (.int p0), .val (.double d1), .second, .val (.double (FP.ddiv (FP.i2d p0) d1)), .second] [(.double (4608083138725491507 : UInt64))])) t
    refine X0.ldc2DoubleC hx hown (mvT hZ (hw _ (List.mem_of_getElem? (i := 6) rfl))) (g := (mkF m 8 #[.val (.int p0), .val (.double d1), .second, .val (.double (FP.ddiv (FP.i2d p0) d1)), .second] [(.double (4608083138725491507 : UInt64))])) rfl (hb hby d1_8) _ ?_
    show Steps p.tables e below (s₁.setTop (mkF m 11 #[.val (.int p0), .val (.double d1), .second, .val (.double (FP.ddiv (FP.i2d p0) d1)), .second] [(.double (4598175219545276416 : UInt64)), (.double (4608083138725491507 : UInt64))])) t
    refine X0.ldc2DoubleC hx hown (mvT hZ (hw _ (List.mem_of_getElem? (i := 7) rfl))) (g := (mkF m 11 #[.val (.int p0), .val (.double d1), .second, .val (.double (FP.ddiv (FP.i2d p0) d1)), .second] [(.double (4598175219545276416 : UInt64)), (.double (4608083138725491507 : UInt64))])) rfl (hb hby d1_11) _ ?_
    show Steps p.tables e below (s₁.setTop (mkF m 14 #[.val (.int p0), .val (.double d1), .second, .val (.double (FP.ddiv (FP.i2d p0) d1)), .second] [(.double (4604930618986332160 : UInt64)), (.double (4598175219545276416 : UInt64)), (.double (4608083138725491507 : UInt64))])) t
    refine XS.dloadN X0.here hx rfl (hb hby d1_14) rfl ?_
    show Steps p.tables e below (s₁.setTop (mkF m 15 #[.val (.int p0), .val (.double d1), .second, .val (.double (FP.ddiv (FP.i2d p0) d1)), .second] [(.double (FP.ddiv (FP.i2d p0) d1)), (.double (4604930618986332160 : UInt64)), (.double (4598175219545276416 : UInt64)), (.double (4608083138725491507 : UInt64))])) t
    refine XS.dmulS X0.here hx rfl (hb hby d1_15) rfl hok.2.1 rfl ?_
    show Steps p.tables e below (s₁.setTop (mkF m 16 #[.val (.int p0), .val (.double d1), .second, .val (.double (FP.ddiv (FP.i2d p0) d1)), .second] [(.double (FP.dmul (4604930618986332160 : UInt64) (FP.ddiv (FP.i2d p0) d1))), (.double (4598175219545276416 : UInt64)), (.double (4608083138725491507 : UInt64))])) t
    refine XS.daddS X0.here hx rfl (hb hby d1_16) rfl hok.2.2.1 rfl ?_
    show Steps p.tables e below (s₁.setTop (mkF m 17 #[.val (.int p0), .val (.double d1), .second, .val (.double (FP.ddiv (FP.i2d p0) d1)), .second] [(.double (FP.dadd (4598175219545276416 : UInt64) (FP.dmul (4604930618986332160 : UInt64) (FP.ddiv (FP.i2d p0) d1)))), (.double (4608083138725491507 : UInt64))])) t
    refine XS.dmulS X0.here hx rfl (hb hby d1_17) rfl hok.2.2.2 rfl ?_
    exact k
  refine own_retD X0 hx hlk Bd.returns (hb hby d1_18) (by decide) (by decide) ?_
  show Q1 Z p0 d1 h0 n0 (some (.double (FP.dmul (4608083138725491507 : UInt64) (FP.dadd (4598175219545276416 : UInt64) (FP.dmul (4604930618986332160 : UInt64) (FP.ddiv (FP.i2d p0) d1)))))) s₁.heap _
  rw [(e0 : s₁.heap = h0)]
  exact ⟨rfl, N0, rfl⟩
theorem pn0 : plainName "com/example/parkville/parkville/scoring/OkapiWeightingLengthNormPinLaw" = true := by first | (simp [plainName, overriddenIn]; done) | decide +kernel
theorem pd0_0 : parseMethodDescriptor "(ID)D" = some ⟨[.int, .double], some .double⟩ := by decide +kernel
theorem ef0 (m : MethodId) (p0 : Int32) (p1 : Int32) (p2 : Int32) : entryFrame m #[(.int p0), (.int p1), (.int p2)] maxLocals = mkF m 0 #[.val (.int p0), .val (.int p1), .val (.int p2), .unset, .unset, .unset, .unset, .unset, .unset, .unset, .unset, .unset, .unset, .unset, .unset, .unset, .unset, .unset, .unset, .unset, .unset] [] := by first | (simp [entryFrame, mkF, argsToLocals, Value.category, maxLocals]; done) | rfl
def Q0 (Z : State) (p0 : Int32) (p1 : Int32) (p2 : Int32) (h0 : Heap) (n0 : Nat) (v : Option Value) (h : Heap) (L : List Loc) : Prop := v = some (.int (1 : Int32)) ∧ Fr n0 L
set_option maxRecDepth 65536 in
set_option maxHeartbeats 40000000 in
theorem rm0 (l : Launch) (Z : State) (ar : Array Value) (hw : ∀ d ∈ tables_1, d.before ar Z = true) (ws : List Jvm.Cond) (p0 : Int32) (p1 : Int32) (p2 : Int32) (h0 : Heap) (n0 : Nat) (Z0 : n0 ≤ h0.size) :
    MetFree l x (head1 (Jvm.Cond.code x code maxLocals ret :: ws) room_1) (fun a U => a = #[(.int p0), (.int p1), (.int p2)] ∧ Z.Warmed39 U.vm ∧ U.heap = h0) (fun _ _ _ _ _ => True) (fun _ U o U' => ∃ v L, o = .returned v ∧ Q0 Z p0 p1 p2 h0 n0 v U'.heap L ∧ FrameEnd U o U' L room_1.cells room_1.slots) := by
  refine MetFree.of_bodySF (plainFor_of_name pn0) hisR ?_
  intro p e s m args below meth c s₁ Bd hml0 hP hK
  obtain ⟨rfl, hZ, hh⟩ := hP
  have hx := Bd.exec
  have hby := Bd.bytes
  have hlk := Bd.notSynchronized
  have hml : c.maxLocals = 21 := hml0
  have hown : s.vm.findClass "com/example/parkville/parkville/scoring/OkapiWeightingLengthNormPinLaw" = some m.cls := findClass_of_methodNamed Bd.named
  have hnm := (name_of_methodNamed Bd.named Bd.method).1
  have X0 : Stand p l e room_1 s m #[(.int p0), (.int p1), (.int p2)] below meth c s₁ [] 0 0 := Stand.of_body Bd
  have e0 : s₁.heap = h0 := by rw [← hh, Bd.state]; rfl
  have N0 := Fr.nil n0
  have K0 := Keep.refl h0 []
  refine own_enter (Q := Q0 Z p0 p1 p2 h0 n0) (ef0 m p0 p1 p2) ?_
  refine own_st (T' := s₁) (g' := (mkF m 14 #[.val (.int p0), .val (.int p1), .val (.int p2), .val (.int ((p2 &&& (65535 : Int32)) + (1 : Int32))), .val (.double (FP.i2d ((p2 &&& (65535 : Int32)) + (1 : Int32)))), .second, .unset, .unset, .unset, .unset, .unset, .unset, .unset, .unset, .unset, .unset, .unset, .unset, .unset, .unset, .unset] [(.double (FP.i2d ((p2 &&& (65535 : Int32)) + (1 : Int32)))), (.int p0)])) (fun t k => ?_) ?_
  · show Steps p.tables e below (s₁.setTop (mkF m 0 #[.val (.int p0), .val (.int p1), .val (.int p2), .unset, .unset, .unset, .unset, .unset, .unset, .unset, .unset, .unset, .unset, .unset, .unset, .unset, .unset, .unset, .unset, .unset, .unset] [])) t
    refine XS.iloadN X0.here hx rfl (hb hby at_0) rfl ?_
    show Steps p.tables e below (s₁.setTop (mkF m 1 #[.val (.int p0), .val (.int p1), .val (.int p2), .unset, .unset, .unset, .unset, .unset, .unset, .unset, .unset, .unset, .unset, .unset, .unset, .unset, .unset, .unset, .unset, .unset, .unset] [(.int p2)])) t
    refine X0.ldcInt hx hown (mvT hZ (hw _ (List.mem_of_getElem? (i := 0) rfl))) (g := (mkF m 1 #[.val (.int p0), .val (.int p1), .val (.int p2), .unset, .unset, .unset, .unset, .unset, .unset, .unset, .unset, .unset, .unset, .unset, .unset, .unset, .unset, .unset, .unset, .unset, .unset] [(.int p2)])) rfl (hb hby at_1) _ ?_
    show Steps p.tables e below (s₁.setTop (mkF m 3 #[.val (.int p0), .val (.int p1), .val (.int p2), .unset, .unset, .unset, .unset, .unset, .unset, .unset, .unset, .unset, .unset, .unset, .unset, .unset, .unset, .unset, .unset, .unset, .unset] [(.int (65535 : Int32)), (.int p2)])) t
    refine XS.iand X0.here hx rfl (hb hby at_3) rfl ?_
    show Steps p.tables e below (s₁.setTop (mkF m 4 #[.val (.int p0), .val (.int p1), .val (.int p2), .unset, .unset, .unset, .unset, .unset, .unset, .unset, .unset, .unset, .unset, .unset, .unset, .unset, .unset, .unset, .unset, .unset, .unset] [(.int (p2 &&& (65535 : Int32)))])) t
    refine XS.iconst X0.here hx rfl (hb hby at_4) ?_
    show Steps p.tables e below (s₁.setTop (mkF m 5 #[.val (.int p0), .val (.int p1), .val (.int p2), .unset, .unset, .unset, .unset, .unset, .unset, .unset, .unset, .unset, .unset, .unset, .unset, .unset, .unset, .unset, .unset, .unset, .unset] [(.int (1 : Int32)), (.int (p2 &&& (65535 : Int32)))])) t
    refine XS.iadd X0.here hx rfl (hb hby at_5) rfl ?_
    show Steps p.tables e below (s₁.setTop (mkF m 6 #[.val (.int p0), .val (.int p1), .val (.int p2), .unset, .unset, .unset, .unset, .unset, .unset, .unset, .unset, .unset, .unset, .unset, .unset, .unset, .unset, .unset, .unset, .unset, .unset] [(.int ((p2 &&& (65535 : Int32)) + (1 : Int32)))])) t
    refine XS.istoreN X0.here hx rfl (hb hby at_6) rfl (l' := #[.val (.int p0), .val (.int p1), .val (.int p2), .val (.int ((p2 &&& (65535 : Int32)) + (1 : Int32))), .unset, .unset, .unset, .unset, .unset, .unset, .unset, .unset, .unset, .unset, .unset, .unset, .unset, .unset, .unset, .unset, .unset]) rfl ?_
    show Steps p.tables e below (s₁.setTop (mkF m 7 #[.val (.int p0), .val (.int p1), .val (.int p2), .val (.int ((p2 &&& (65535 : Int32)) + (1 : Int32))), .unset, .unset, .unset, .unset, .unset, .unset, .unset, .unset, .unset, .unset, .unset, .unset, .unset, .unset, .unset, .unset, .unset] [])) t
    refine XS.iloadN X0.here hx rfl (hb hby at_7) rfl ?_
    show Steps p.tables e below (s₁.setTop (mkF m 8 #[.val (.int p0), .val (.int p1), .val (.int p2), .val (.int ((p2 &&& (65535 : Int32)) + (1 : Int32))), .unset, .unset, .unset, .unset, .unset, .unset, .unset, .unset, .unset, .unset, .unset, .unset, .unset, .unset, .unset, .unset, .unset] [(.int ((p2 &&& (65535 : Int32)) + (1 : Int32)))])) t
    refine XS.i2dS X0.here hx rfl (hb hby at_8) rfl rfl ?_
    show Steps p.tables e below (s₁.setTop (mkF m 9 #[.val (.int p0), .val (.int p1), .val (.int p2), .val (.int ((p2 &&& (65535 : Int32)) + (1 : Int32))), .unset, .unset, .unset, .unset, .unset, .unset, .unset, .unset, .unset, .unset, .unset, .unset, .unset, .unset, .unset, .unset, .unset] [(.double (FP.i2d ((p2 &&& (65535 : Int32)) + (1 : Int32))))])) t
    refine XS.dstore X0.here hx rfl (hb hby at_9) rfl (l' := #[.val (.int p0), .val (.int p1), .val (.int p2), .val (.int ((p2 &&& (65535 : Int32)) + (1 : Int32))), .val (.double (FP.i2d ((p2 &&& (65535 : Int32)) + (1 : Int32)))), .second, .unset, .unset, .unset, .unset, .unset, .unset, .unset, .unset, .unset, .unset, .unset, .unset, .unset, .unset, .unset]) rfl ?_
    show Steps p.tables e below (s₁.setTop (mkF m 11 #[.val (.int p0), .val (.int p1), .val (.int p2), .val (.int ((p2 &&& (65535 : Int32)) + (1 : Int32))), .val (.double (FP.i2d ((p2 &&& (65535 : Int32)) + (1 : Int32)))), .second, .unset, .unset, .unset, .unset, .unset, .unset, .unset, .unset, .unset, .unset, .unset, .unset, .unset, .unset, .unset] [])) t
    refine XS.iloadN X0.here hx rfl (hb hby at_11) rfl ?_
    show Steps p.tables e below (s₁.setTop (mkF m 12 #[.val (.int p0), .val (.int p1), .val (.int p2), .val (.int ((p2 &&& (65535 : Int32)) + (1 : Int32))), .val (.double (FP.i2d ((p2 &&& (65535 : Int32)) + (1 : Int32)))), .second, .unset, .unset, .unset, .unset, .unset, .unset, .unset, .unset, .unset, .unset, .unset, .unset, .unset, .unset, .unset] [(.int p0)])) t
    refine XS.dload X0.here hx rfl (hb hby at_12) rfl ?_
    exact k
  obtain ⟨_, _, ⟨T1, L1, k1, n1⟩, -, X1, ⟨Lc1, hQ1, l1, y1, z1⟩, st1⟩ := Jvm.LawKit.callS X0 hx (y := (⟨"com/example/parkville/parkville/scoring/OkapiWeighting", "lengthNorm", "(ID)D"⟩ : MethodName)) hown (mvT hZ (hw _ (List.mem_of_getElem? (i := 1) rfl))) (mvT hZ (hw _ (List.mem_of_getElem? (i := 2) rfl))) (mvT hZ (hw _ (List.mem_of_getElem? (i := 3) rfl))) (mvT hZ (hw _ (List.mem_of_getElem? (i := 4) rfl))) (by decide) (backOf (W := 0) (rm1 l Z ar hw [] p0 ((FP.i2d ((p2 &&& (65535 : Int32)) + (1 : Int32)))) h0 n0 Z0 (own_okM _ (own_hpos p2))) hZ (hw _ (List.mem_of_getElem? (i := 4) rfl)) (hw _ (List.mem_of_getElem? (i := 3) rfl)) (by decide) (by decide)) (g := (mkF m 14 #[.val (.int p0), .val (.int p1), .val (.int p2), .val (.int ((p2 &&& (65535 : Int32)) + (1 : Int32))), .val (.double (FP.i2d ((p2 &&& (65535 : Int32)) + (1 : Int32)))), .second, .unset, .unset, .unset, .unset, .unset, .unset, .unset, .unset, .unset, .unset, .unset, .unset, .unset, .unset, .unset] [(.double (FP.i2d ((p2 &&& (65535 : Int32)) + (1 : Int32)))), (.int p0)])) rfl (by rw [hml]; rfl) (argsL := [(.int p0), (.double (FP.i2d ((p2 &&& (65535 : Int32)) + (1 : Int32))))]) (rest := []) (lenOf pd0_0 rfl) rfl (by show 2 * 0 + _ ≤ _; exact Nat.le_of_eq rfl) (hb hby at_14) (fun _ _ => ⟨rfl, e0, (by decide : 0 + 0 ≤ _), (by decide : 0 + 0 ≤ _)⟩)
  dsimp only [Pt.U, Pt.locs, Pt.cells, Pt.slots] at X1 l1 y1 z1 st1 hQ1
  subst l1 y1 z1
  obtain ⟨rfl, N1q, e1⟩ := hQ1
  have n2 := Fr.app N0 N1q
  refine own_st (T' := T1) (g' := (mkF m 17 #[.val (.int p0), .val (.int p1), .val (.int p2), .val (.int ((p2 &&& (65535 : Int32)) + (1 : Int32))), .val (.double (FP.i2d ((p2 &&& (65535 : Int32)) + (1 : Int32)))), .second, .unset, .unset, .unset, .unset, .unset, .unset, .unset, .unset, .unset, .unset, .unset, .unset, .unset, .unset, .unset] [(.double (own_f p0 (FP.i2d ((p2 &&& (65535 : Int32)) + (1 : Int32)))))])) st1 ?_
  refine own_st (T' := T1) (g' := (mkF m 22 #[.val (.int p0), .val (.int p1), .val (.int p2), .val (.int ((p2 &&& (65535 : Int32)) + (1 : Int32))), .val (.double (FP.i2d ((p2 &&& (65535 : Int32)) + (1 : Int32)))), .second, .val (.double (own_f p0 (FP.i2d ((p2 &&& (65535 : Int32)) + (1 : Int32))))), .second, .unset, .unset, .unset, .unset, .unset, .unset, .unset, .unset, .unset, .unset, .unset, .unset, .unset] [(.double (FP.i2d ((p2 &&& (65535 : Int32)) + (1 : Int32)))), (.int p1)])) (fun t k => ?_) ?_
  · show Steps p.tables e below (T1.setTop (mkF m 17 #[.val (.int p0), .val (.int p1), .val (.int p2), .val (.int ((p2 &&& (65535 : Int32)) + (1 : Int32))), .val (.double (FP.i2d ((p2 &&& (65535 : Int32)) + (1 : Int32)))), .second, .unset, .unset, .unset, .unset, .unset, .unset, .unset, .unset, .unset, .unset, .unset, .unset, .unset, .unset, .unset] [(.double (own_f p0 (FP.i2d ((p2 &&& (65535 : Int32)) + (1 : Int32)))))])) t
    refine XS.dstore X1.here hx rfl (hb hby at_17) rfl (l' := #[.val (.int p0), .val (.int p1), .val (.int p2), .val (.int ((p2 &&& (65535 : Int32)) + (1 : Int32))), .val (.double (FP.i2d ((p2 &&& (65535 : Int32)) + (1 : Int32)))), .second, .val (.double (own_f p0 (FP.i2d ((p2 &&& (65535 : Int32)) + (1 : Int32))))), .second, .unset, .unset, .unset, .unset, .unset, .unset, .unset, .unset, .unset, .unset, .unset, .unset, .unset]) rfl ?_
    show Steps p.tables e below (T1.setTop (mkF m 19 #[.val (.int p0), .val (.int p1), .val (.int p2), .val (.int ((p2 &&& (65535 : Int32)) + (1 : Int32))), .val (.double (FP.i2d ((p2 &&& (65535 : Int32)) + (1 : Int32)))), .second, .val (.double (own_f p0 (FP.i2d ((p2 &&& (65535 : Int32)) + (1 : Int32))))), .second, .unset, .unset, .unset, .unset, .unset, .unset, .unset, .unset, .unset, .unset, .unset, .unset, .unset] [])) t
    refine XS.iloadN X1.here hx rfl (hb hby at_19) rfl ?_
    show Steps p.tables e below (T1.setTop (mkF m 20 #[.val (.int p0), .val (.int p1), .val (.int p2), .val (.int ((p2 &&& (65535 : Int32)) + (1 : Int32))), .val (.double (FP.i2d ((p2 &&& (65535 : Int32)) + (1 : Int32)))), .second, .val (.double (own_f p0 (FP.i2d ((p2 &&& (65535 : Int32)) + (1 : Int32))))), .second, .unset, .unset, .unset, .unset, .unset, .unset, .unset, .unset, .unset, .unset, .unset, .unset, .unset] [(.int p1)])) t
    refine XS.dload X1.here hx rfl (hb hby at_20) rfl ?_
    exact k
  obtain ⟨_, _, ⟨T3, L3, k3, n3⟩, -, X3, ⟨Lc3, hQ3, l3, y3, z3⟩, st3⟩ := Jvm.LawKit.callS X1 hx (y := (⟨"com/example/parkville/parkville/scoring/OkapiWeighting", "lengthNorm", "(ID)D"⟩ : MethodName)) hown (mvT hZ (hw _ (List.mem_of_getElem? (i := 1) rfl))) (mvT hZ (hw _ (List.mem_of_getElem? (i := 2) rfl))) (mvT hZ (hw _ (List.mem_of_getElem? (i := 3) rfl))) (mvT hZ (hw _ (List.mem_of_getElem? (i := 4) rfl))) (by decide) (backOf (W := 0) (rm1 l Z ar hw [] p1 ((FP.i2d ((p2 &&& (65535 : Int32)) + (1 : Int32)))) h0 n0 Z0 (own_okM _ (own_hpos p2))) hZ (hw _ (List.mem_of_getElem? (i := 4) rfl)) (hw _ (List.mem_of_getElem? (i := 3) rfl)) (by decide) (by decide)) (g := (mkF m 22 #[.val (.int p0), .val (.int p1), .val (.int p2), .val (.int ((p2 &&& (65535 : Int32)) + (1 : Int32))), .val (.double (FP.i2d ((p2 &&& (65535 : Int32)) + (1 : Int32)))), .second, .val (.double (own_f p0 (FP.i2d ((p2 &&& (65535 : Int32)) + (1 : Int32))))), .second, .unset, .unset, .unset, .unset, .unset, .unset, .unset, .unset, .unset, .unset, .unset, .unset, .unset] [(.double (FP.i2d ((p2 &&& (65535 : Int32)) + (1 : Int32)))), (.int p1)])) rfl (by rw [hml]; rfl) (argsL := [(.int p1), (.double (FP.i2d ((p2 &&& (65535 : Int32)) + (1 : Int32))))]) (rest := []) (lenOf pd0_0 rfl) rfl (by show 2 * 0 + _ ≤ _; exact Nat.le_of_eq rfl) (hb hby at_22) (fun _ _ => ⟨rfl, e1, (by decide : 0 + 0 ≤ _), (by decide : 0 + 0 ≤ _)⟩)
  dsimp only [Pt.U, Pt.locs, Pt.cells, Pt.slots] at X3 l3 y3 z3 st3 hQ3
  subst l3 y3 z3
  obtain ⟨rfl, N3q, e3⟩ := hQ3
  have n4 := Fr.app n2 N3q
  refine own_st (T' := T3) (g' := (mkF m 25 #[.val (.int p0), .val (.int p1), .val (.int p2), .val (.int ((p2 &&& (65535 : Int32)) + (1 : Int32))), .val (.double (FP.i2d ((p2 &&& (65535 : Int32)) + (1 : Int32)))), .second, .val (.double (own_f p0 (FP.i2d ((p2 &&& (65535 : Int32)) + (1 : Int32))))), .second, .unset, .unset, .unset, .unset, .unset, .unset, .unset, .unset, .unset, .unset, .unset, .unset, .unset] [(.double (own_f p1 (FP.i2d ((p2 &&& (65535 : Int32)) + (1 : Int32)))))])) st3 ?_
  refine own_st (T' := T3) (g' := (mkF m 29 #[.val (.int p0), .val (.int p1), .val (.int p2), .val (.int ((p2 &&& (65535 : Int32)) + (1 : Int32))), .val (.double (FP.i2d ((p2 &&& (65535 : Int32)) + (1 : Int32)))), .second, .val (.double (own_f p0 (FP.i2d ((p2 &&& (65535 : Int32)) + (1 : Int32))))), .second, .val (.double (own_f p1 (FP.i2d ((p2 &&& (65535 : Int32)) + (1 : Int32))))), .second, .unset, .unset, .unset, .unset, .unset, .unset, .unset, .unset, .unset, .unset, .unset] [(.int p1), (.int p0)])) (fun t k => ?_) ?_
  · show Steps p.tables e below (T3.setTop (mkF m 25 #[.val (.int p0), .val (.int p1), .val (.int p2), .val (.int ((p2 &&& (65535 : Int32)) + (1 : Int32))), .val (.double (FP.i2d ((p2 &&& (65535 : Int32)) + (1 : Int32)))), .second, .val (.double (own_f p0 (FP.i2d ((p2 &&& (65535 : Int32)) + (1 : Int32))))), .second, .unset, .unset, .unset, .unset, .unset, .unset, .unset, .unset, .unset, .unset, .unset, .unset, .unset] [(.double (own_f p1 (FP.i2d ((p2 &&& (65535 : Int32)) + (1 : Int32)))))])) t
    refine XS.dstore X3.here hx rfl (hb hby at_25) rfl (l' := #[.val (.int p0), .val (.int p1), .val (.int p2), .val (.int ((p2 &&& (65535 : Int32)) + (1 : Int32))), .val (.double (FP.i2d ((p2 &&& (65535 : Int32)) + (1 : Int32)))), .second, .val (.double (own_f p0 (FP.i2d ((p2 &&& (65535 : Int32)) + (1 : Int32))))), .second, .val (.double (own_f p1 (FP.i2d ((p2 &&& (65535 : Int32)) + (1 : Int32))))), .second, .unset, .unset, .unset, .unset, .unset, .unset, .unset, .unset, .unset, .unset, .unset]) rfl ?_
    show Steps p.tables e below (T3.setTop (mkF m 27 #[.val (.int p0), .val (.int p1), .val (.int p2), .val (.int ((p2 &&& (65535 : Int32)) + (1 : Int32))), .val (.double (FP.i2d ((p2 &&& (65535 : Int32)) + (1 : Int32)))), .second, .val (.double (own_f p0 (FP.i2d ((p2 &&& (65535 : Int32)) + (1 : Int32))))), .second, .val (.double (own_f p1 (FP.i2d ((p2 &&& (65535 : Int32)) + (1 : Int32))))), .second, .unset, .unset, .unset, .unset, .unset, .unset, .unset, .unset, .unset, .unset, .unset] [])) t
    refine XS.iloadN X3.here hx rfl (hb hby at_27) rfl ?_
    show Steps p.tables e below (T3.setTop (mkF m 28 #[.val (.int p0), .val (.int p1), .val (.int p2), .val (.int ((p2 &&& (65535 : Int32)) + (1 : Int32))), .val (.double (FP.i2d ((p2 &&& (65535 : Int32)) + (1 : Int32)))), .second, .val (.double (own_f p0 (FP.i2d ((p2 &&& (65535 : Int32)) + (1 : Int32))))), .second, .val (.double (own_f p1 (FP.i2d ((p2 &&& (65535 : Int32)) + (1 : Int32))))), .second, .unset, .unset, .unset, .unset, .unset, .unset, .unset, .unset, .unset, .unset, .unset] [(.int p0)])) t
    refine XS.iloadN X3.here hx rfl (hb hby at_28) rfl ?_
    exact k
  have hJ61 : own_G p e below s (Q0 Z p0 p1 p2 h0 n0) (room_1).cells (room_1).slots T3 (mkF m 61 #[.val (.int p0), .val (.int p1), .val (.int p2), .val (.int ((p2 &&& (65535 : Int32)) + (1 : Int32))), .val (.double (FP.i2d ((p2 &&& (65535 : Int32)) + (1 : Int32)))), .second, .val (.double (own_f p0 (FP.i2d ((p2 &&& (65535 : Int32)) + (1 : Int32))))), .second, .val (.double (own_f p1 (FP.i2d ((p2 &&& (65535 : Int32)) + (1 : Int32))))), .second, .unset, .unset, .unset, .unset, .unset, .unset, .unset, .unset, .unset, .unset, .unset] [(.int (1 : Int32))]) := by
    refine own_st (T' := T3) (g' := (mkF m 64 #[.val (.int p0), .val (.int p1), .val (.int p2), .val (.int ((p2 &&& (65535 : Int32)) + (1 : Int32))), .val (.double (FP.i2d ((p2 &&& (65535 : Int32)) + (1 : Int32)))), .second, .val (.double (own_f p0 (FP.i2d ((p2 &&& (65535 : Int32)) + (1 : Int32))))), .second, .val (.double (own_f p1 (FP.i2d ((p2 &&& (65535 : Int32)) + (1 : Int32))))), .second, .val (.int (1 : Int32)), .unset, .unset, .unset, .unset, .unset, .unset, .unset, .unset, .unset, .unset] [(.int p0)])) (fun t k => ?_) ?_
    · show Steps p.tables e below (T3.setTop (mkF m 61 #[.val (.int p0), .val (.int p1), .val (.int p2), .val (.int ((p2 &&& (65535 : Int32)) + (1 : Int32))), .val (.double (FP.i2d ((p2 &&& (65535 : Int32)) + (1 : Int32)))), .second, .val (.double (own_f p0 (FP.i2d ((p2 &&& (65535 : Int32)) + (1 : Int32))))), .second, .val (.double (own_f p1 (FP.i2d ((p2 &&& (65535 : Int32)) + (1 : Int32))))), .second, .unset, .unset, .unset, .unset, .unset, .unset, .unset, .unset, .unset, .unset, .unset] [(.int (1 : Int32))])) t
      refine XS.istore X3.here hx rfl (hb hby at_61) rfl (l' := #[.val (.int p0), .val (.int p1), .val (.int p2), .val (.int ((p2 &&& (65535 : Int32)) + (1 : Int32))), .val (.double (FP.i2d ((p2 &&& (65535 : Int32)) + (1 : Int32)))), .second, .val (.double (own_f p0 (FP.i2d ((p2 &&& (65535 : Int32)) + (1 : Int32))))), .second, .val (.double (own_f p1 (FP.i2d ((p2 &&& (65535 : Int32)) + (1 : Int32))))), .second, .val (.int (1 : Int32)), .unset, .unset, .unset, .unset, .unset, .unset, .unset, .unset, .unset, .unset]) rfl ?_
      show Steps p.tables e below (T3.setTop (mkF m 63 #[.val (.int p0), .val (.int p1), .val (.int p2), .val (.int ((p2 &&& (65535 : Int32)) + (1 : Int32))), .val (.double (FP.i2d ((p2 &&& (65535 : Int32)) + (1 : Int32)))), .second, .val (.double (own_f p0 (FP.i2d ((p2 &&& (65535 : Int32)) + (1 : Int32))))), .second, .val (.double (own_f p1 (FP.i2d ((p2 &&& (65535 : Int32)) + (1 : Int32))))), .second, .val (.int (1 : Int32)), .unset, .unset, .unset, .unset, .unset, .unset, .unset, .unset, .unset, .unset] [])) t
      refine XS.iloadN X3.here hx rfl (hb hby at_63) rfl ?_
      exact k
    have hJ125 : own_G p e below s (Q0 Z p0 p1 p2 h0 n0) (room_1).cells (room_1).slots T3 (mkF m 125 #[.val (.int p0), .val (.int p1), .val (.int p2), .val (.int ((p2 &&& (65535 : Int32)) + (1 : Int32))), .val (.double (FP.i2d ((p2 &&& (65535 : Int32)) + (1 : Int32)))), .second, .val (.double (own_f p0 (FP.i2d ((p2 &&& (65535 : Int32)) + (1 : Int32))))), .second, .val (.double (own_f p1 (FP.i2d ((p2 &&& (65535 : Int32)) + (1 : Int32))))), .second, .val (.int (1 : Int32)), .val (.int (1 : Int32)), .unset, .unset, .unset, .unset, .unset, .unset, .unset, .unset, .unset] []) := by
      refine own_st (T' := T3) (g' := (mkF m 128 #[.val (.int p0), .val (.int p1), .val (.int p2), .val (.int ((p2 &&& (65535 : Int32)) + (1 : Int32))), .val (.double (FP.i2d ((p2 &&& (65535 : Int32)) + (1 : Int32)))), .second, .val (.double (own_f p0 (FP.i2d ((p2 &&& (65535 : Int32)) + (1 : Int32))))), .second, .val (.double (own_f p1 (FP.i2d ((p2 &&& (65535 : Int32)) + (1 : Int32))))), .second, .val (.int (1 : Int32)), .val (.int (1 : Int32)), .unset, .unset, .unset, .unset, .unset, .unset, .unset, .unset, .unset] [(.double (FP.i2d ((p2 &&& (65535 : Int32)) + (1 : Int32)))), (.int ((p2 &&& (65535 : Int32)) + (1 : Int32)))])) (fun t k => ?_) ?_
      · show Steps p.tables e below (T3.setTop (mkF m 125 #[.val (.int p0), .val (.int p1), .val (.int p2), .val (.int ((p2 &&& (65535 : Int32)) + (1 : Int32))), .val (.double (FP.i2d ((p2 &&& (65535 : Int32)) + (1 : Int32)))), .second, .val (.double (own_f p0 (FP.i2d ((p2 &&& (65535 : Int32)) + (1 : Int32))))), .second, .val (.double (own_f p1 (FP.i2d ((p2 &&& (65535 : Int32)) + (1 : Int32))))), .second, .val (.int (1 : Int32)), .val (.int (1 : Int32)), .unset, .unset, .unset, .unset, .unset, .unset, .unset, .unset, .unset] [])) t
        refine XS.iloadN X3.here hx rfl (hb hby at_125) rfl ?_
        show Steps p.tables e below (T3.setTop (mkF m 126 #[.val (.int p0), .val (.int p1), .val (.int p2), .val (.int ((p2 &&& (65535 : Int32)) + (1 : Int32))), .val (.double (FP.i2d ((p2 &&& (65535 : Int32)) + (1 : Int32)))), .second, .val (.double (own_f p0 (FP.i2d ((p2 &&& (65535 : Int32)) + (1 : Int32))))), .second, .val (.double (own_f p1 (FP.i2d ((p2 &&& (65535 : Int32)) + (1 : Int32))))), .second, .val (.int (1 : Int32)), .val (.int (1 : Int32)), .unset, .unset, .unset, .unset, .unset, .unset, .unset, .unset, .unset] [(.int ((p2 &&& (65535 : Int32)) + (1 : Int32)))])) t
        refine XS.dload X3.here hx rfl (hb hby at_126) rfl ?_
        exact k
      obtain ⟨_, _, ⟨T5, L5, k5, n5⟩, -, X5, ⟨Lc5, hQ5, l5, y5, z5⟩, st5⟩ := Jvm.LawKit.callS X3 hx (y := (⟨"com/example/parkville/parkville/scoring/OkapiWeighting", "lengthNorm", "(ID)D"⟩ : MethodName)) hown (mvT hZ (hw _ (List.mem_of_getElem? (i := 1) rfl))) (mvT hZ (hw _ (List.mem_of_getElem? (i := 2) rfl))) (mvT hZ (hw _ (List.mem_of_getElem? (i := 3) rfl))) (mvT hZ (hw _ (List.mem_of_getElem? (i := 4) rfl))) (by decide) (backOf (W := 0) (rm1 l Z ar hw [] (((p2 &&& (65535 : Int32)) + (1 : Int32))) ((FP.i2d ((p2 &&& (65535 : Int32)) + (1 : Int32)))) h0 n0 Z0 (own_okM _ (own_hpos p2))) hZ (hw _ (List.mem_of_getElem? (i := 4) rfl)) (hw _ (List.mem_of_getElem? (i := 3) rfl)) (by decide) (by decide)) (g := (mkF m 128 #[.val (.int p0), .val (.int p1), .val (.int p2), .val (.int ((p2 &&& (65535 : Int32)) + (1 : Int32))), .val (.double (FP.i2d ((p2 &&& (65535 : Int32)) + (1 : Int32)))), .second, .val (.double (own_f p0 (FP.i2d ((p2 &&& (65535 : Int32)) + (1 : Int32))))), .second, .val (.double (own_f p1 (FP.i2d ((p2 &&& (65535 : Int32)) + (1 : Int32))))), .second, .val (.int (1 : Int32)), .val (.int (1 : Int32)), .unset, .unset, .unset, .unset, .unset, .unset, .unset, .unset, .unset] [(.double (FP.i2d ((p2 &&& (65535 : Int32)) + (1 : Int32)))), (.int ((p2 &&& (65535 : Int32)) + (1 : Int32)))])) rfl (by rw [hml]; rfl) (argsL := [(.int ((p2 &&& (65535 : Int32)) + (1 : Int32))), (.double (FP.i2d ((p2 &&& (65535 : Int32)) + (1 : Int32))))]) (rest := []) (lenOf pd0_0 rfl) rfl (by show 2 * 0 + _ ≤ _; exact Nat.le_of_eq rfl) (hb hby at_128) (fun _ _ => ⟨rfl, e3, (by decide : 0 + 0 ≤ _), (by decide : 0 + 0 ≤ _)⟩)
      dsimp only [Pt.U, Pt.locs, Pt.cells, Pt.slots] at X5 l5 y5 z5 st5 hQ5
      subst l5 y5 z5
      obtain ⟨rfl, N5q, e5⟩ := hQ5
      have n6 := Fr.app n4 N5q
      refine own_st (T' := T5) (g' := (mkF m 131 #[.val (.int p0), .val (.int p1), .val (.int p2), .val (.int ((p2 &&& (65535 : Int32)) + (1 : Int32))), .val (.double (FP.i2d ((p2 &&& (65535 : Int32)) + (1 : Int32)))), .second, .val (.double (own_f p0 (FP.i2d ((p2 &&& (65535 : Int32)) + (1 : Int32))))), .second, .val (.double (own_f p1 (FP.i2d ((p2 &&& (65535 : Int32)) + (1 : Int32))))), .second, .val (.int (1 : Int32)), .val (.int (1 : Int32)), .unset, .unset, .unset, .unset, .unset, .unset, .unset, .unset, .unset] [(.double (own_f ((p2 &&& (65535 : Int32)) + (1 : Int32)) (FP.i2d ((p2 &&& (65535 : Int32)) + (1 : Int32)))))])) st5 ?_
      refine own_st (T' := T5) (g' := (mkF m 160 #[.val (.int p0), .val (.int p1), .val (.int p2), .val (.int ((p2 &&& (65535 : Int32)) + (1 : Int32))), .val (.double (FP.i2d ((p2 &&& (65535 : Int32)) + (1 : Int32)))), .second, .val (.double (own_f p0 (FP.i2d ((p2 &&& (65535 : Int32)) + (1 : Int32))))), .second, .val (.double (own_f p1 (FP.i2d ((p2 &&& (65535 : Int32)) + (1 : Int32))))), .second, .val (.int (1 : Int32)), .val (.int (1 : Int32)), .val (.int (1 : Int32)), .val (.int (p0 >>> ((1 : Int32) &&& 31))), .unset, .unset, .unset, .unset, .unset, .unset, .unset] [(.double (FP.dmul (4611686018427387904 : UInt64) (FP.i2d ((p2 &&& (65535 : Int32)) + (1 : Int32))))), (.int ((2 : Int32) * (p0 >>> ((1 : Int32) &&& 31))))])) (fun t k => ?_) ?_
      · show Steps p.tables e below (T5.setTop (mkF m 131 #[.val (.int p0), .val (.int p1), .val (.int p2), .val (.int ((p2 &&& (65535 : Int32)) + (1 : Int32))), .val (.double (FP.i2d ((p2 &&& (65535 : Int32)) + (1 : Int32)))), .second, .val (.double (own_f p0 (FP.i2d ((p2 &&& (65535 : Int32)) + (1 : Int32))))), .second, .val (.double (own_f p1 (FP.i2d ((p2 &&& (65535 : Int32)) + (1 : Int32))))), .second, .val (.int (1 : Int32)), .val (.int (1 : Int32)), .unset, .unset, .unset, .unset, .unset, .unset, .unset, .unset, .unset] [(.double (own_f ((p2 &&& (65535 : Int32)) + (1 : Int32)) (FP.i2d ((p2 &&& (65535 : Int32)) + (1 : Int32)))))])) t
        refine X5.ldc2DoubleC hx hown (mvT hZ (hw _ (List.mem_of_getElem? (i := 9) rfl))) (g := (mkF m 131 #[.val (.int p0), .val (.int p1), .val (.int p2), .val (.int ((p2 &&& (65535 : Int32)) + (1 : Int32))), .val (.double (FP.i2d ((p2 &&& (65535 : Int32)) + (1 : Int32)))), .second, .val (.double (own_f p0 (FP.i2d ((p2 &&& (65535 : Int32)) + (1 : Int32))))), .second, .val (.double (own_f p1 (FP.i2d ((p2 &&& (65535 : Int32)) + (1 : Int32))))), .second, .val (.int (1 : Int32)), .val (.int (1 : Int32)), .unset, .unset, .unset, .unset, .unset, .unset, .unset, .unset, .unset] [(.double (own_f ((p2 &&& (65535 : Int32)) + (1 : Int32)) (FP.i2d ((p2 &&& (65535 : Int32)) + (1 : Int32)))))])) rfl (hb hby at_131) _ ?_
        show Steps p.tables e below (T5.setTop (mkF m 134 #[.val (.int p0), .val (.int p1), .val (.int p2), .val (.int ((p2 &&& (65535 : Int32)) + (1 : Int32))), .val (.double (FP.i2d ((p2 &&& (65535 : Int32)) + (1 : Int32)))), .second, .val (.double (own_f p0 (FP.i2d ((p2 &&& (65535 : Int32)) + (1 : Int32))))), .second, .val (.double (own_f p1 (FP.i2d ((p2 &&& (65535 : Int32)) + (1 : Int32))))), .second, .val (.int (1 : Int32)), .val (.int (1 : Int32)), .unset, .unset, .unset, .unset, .unset, .unset, .unset, .unset, .unset] [(.double (4608083138725491507 : UInt64)), (.double (own_f ((p2 &&& (65535 : Int32)) + (1 : Int32)) (FP.i2d ((p2 &&& (65535 : Int32)) + (1 : Int32)))))])) t
        refine XS.dcmpS X5.here hx rfl (hb hby at_134) rfl (own_mean p2) ?_
        show Steps p.tables e below (T5.setTop (mkF m 135 #[.val (.int p0), .val (.int p1), .val (.int p2), .val (.int ((p2 &&& (65535 : Int32)) + (1 : Int32))), .val (.double (FP.i2d ((p2 &&& (65535 : Int32)) + (1 : Int32)))), .second, .val (.double (own_f p0 (FP.i2d ((p2 &&& (65535 : Int32)) + (1 : Int32))))), .second, .val (.double (own_f p1 (FP.i2d ((p2 &&& (65535 : Int32)) + (1 : Int32))))), .second, .val (.int (1 : Int32)), .val (.int (1 : Int32)), .unset, .unset, .unset, .unset, .unset, .unset, .unset, .unset, .unset] [(.int (0 : Int32))])) t
        refine XS.ifNo X5.here hx rfl (hb hby at_135) rfl (by decide) ?_
        show Steps p.tables e below (T5.setTop (mkF m 138 #[.val (.int p0), .val (.int p1), .val (.int p2), .val (.int ((p2 &&& (65535 : Int32)) + (1 : Int32))), .val (.double (FP.i2d ((p2 &&& (65535 : Int32)) + (1 : Int32)))), .second, .val (.double (own_f p0 (FP.i2d ((p2 &&& (65535 : Int32)) + (1 : Int32))))), .second, .val (.double (own_f p1 (FP.i2d ((p2 &&& (65535 : Int32)) + (1 : Int32))))), .second, .val (.int (1 : Int32)), .val (.int (1 : Int32)), .unset, .unset, .unset, .unset, .unset, .unset, .unset, .unset, .unset] [])) t
        refine XS.iconst X5.here hx rfl (hb hby at_138) ?_
        show Steps p.tables e below (T5.setTop (mkF m 139 #[.val (.int p0), .val (.int p1), .val (.int p2), .val (.int ((p2 &&& (65535 : Int32)) + (1 : Int32))), .val (.double (FP.i2d ((p2 &&& (65535 : Int32)) + (1 : Int32)))), .second, .val (.double (own_f p0 (FP.i2d ((p2 &&& (65535 : Int32)) + (1 : Int32))))), .second, .val (.double (own_f p1 (FP.i2d ((p2 &&& (65535 : Int32)) + (1 : Int32))))), .second, .val (.int (1 : Int32)), .val (.int (1 : Int32)), .unset, .unset, .unset, .unset, .unset, .unset, .unset, .unset, .unset] [(.int (1 : Int32))])) t
        refine XS.goto X5.here hx rfl (pc0 := 139) (pc' := 143) rfl (hb hby at_139) (by decide) (by decide) ?_
        show Steps p.tables e below (T5.setTop (mkF m 143 #[.val (.int p0), .val (.int p1), .val (.int p2), .val (.int ((p2 &&& (65535 : Int32)) + (1 : Int32))), .val (.double (FP.i2d ((p2 &&& (65535 : Int32)) + (1 : Int32)))), .second, .val (.double (own_f p0 (FP.i2d ((p2 &&& (65535 : Int32)) + (1 : Int32))))), .second, .val (.double (own_f p1 (FP.i2d ((p2 &&& (65535 : Int32)) + (1 : Int32))))), .second, .val (.int (1 : Int32)), .val (.int (1 : Int32)), .unset, .unset, .unset, .unset, .unset, .unset, .unset, .unset, .unset] [(.int (1 : Int32))])) t
        refine XS.istore X5.here hx rfl (hb hby at_143) rfl (l' := #[.val (.int p0), .val (.int p1), .val (.int p2), .val (.int ((p2 &&& (65535 : Int32)) + (1 : Int32))), .val (.double (FP.i2d ((p2 &&& (65535 : Int32)) + (1 : Int32)))), .second, .val (.double (own_f p0 (FP.i2d ((p2 &&& (65535 : Int32)) + (1 : Int32))))), .second, .val (.double (own_f p1 (FP.i2d ((p2 &&& (65535 : Int32)) + (1 : Int32))))), .second, .val (.int (1 : Int32)), .val (.int (1 : Int32)), .val (.int (1 : Int32)), .unset, .unset, .unset, .unset, .unset, .unset, .unset, .unset]) rfl ?_
        show Steps p.tables e below (T5.setTop (mkF m 145 #[.val (.int p0), .val (.int p1), .val (.int p2), .val (.int ((p2 &&& (65535 : Int32)) + (1 : Int32))), .val (.double (FP.i2d ((p2 &&& (65535 : Int32)) + (1 : Int32)))), .second, .val (.double (own_f p0 (FP.i2d ((p2 &&& (65535 : Int32)) + (1 : Int32))))), .second, .val (.double (own_f p1 (FP.i2d ((p2 &&& (65535 : Int32)) + (1 : Int32))))), .second, .val (.int (1 : Int32)), .val (.int (1 : Int32)), .val (.int (1 : Int32)), .unset, .unset, .unset, .unset, .unset, .unset, .unset, .unset] [])) t
        refine XS.iloadN X5.here hx rfl (hb hby at_145) rfl ?_
        show Steps p.tables e below (T5.setTop (mkF m 146 #[.val (.int p0), .val (.int p1), .val (.int p2), .val (.int ((p2 &&& (65535 : Int32)) + (1 : Int32))), .val (.double (FP.i2d ((p2 &&& (65535 : Int32)) + (1 : Int32)))), .second, .val (.double (own_f p0 (FP.i2d ((p2 &&& (65535 : Int32)) + (1 : Int32))))), .second, .val (.double (own_f p1 (FP.i2d ((p2 &&& (65535 : Int32)) + (1 : Int32))))), .second, .val (.int (1 : Int32)), .val (.int (1 : Int32)), .val (.int (1 : Int32)), .unset, .unset, .unset, .unset, .unset, .unset, .unset, .unset] [(.int p0)])) t
        refine XS.iconst X5.here hx rfl (hb hby at_146) ?_
        show Steps p.tables e below (T5.setTop (mkF m 147 #[.val (.int p0), .val (.int p1), .val (.int p2), .val (.int ((p2 &&& (65535 : Int32)) + (1 : Int32))), .val (.double (FP.i2d ((p2 &&& (65535 : Int32)) + (1 : Int32)))), .second, .val (.double (own_f p0 (FP.i2d ((p2 &&& (65535 : Int32)) + (1 : Int32))))), .second, .val (.double (own_f p1 (FP.i2d ((p2 &&& (65535 : Int32)) + (1 : Int32))))), .second, .val (.int (1 : Int32)), .val (.int (1 : Int32)), .val (.int (1 : Int32)), .unset, .unset, .unset, .unset, .unset, .unset, .unset, .unset] [(.int (1 : Int32)), (.int p0)])) t
        refine XS.ishr X5.here hx rfl (hb hby at_147) rfl ?_
        show Steps p.tables e below (T5.setTop (mkF m 148 #[.val (.int p0), .val (.int p1), .val (.int p2), .val (.int ((p2 &&& (65535 : Int32)) + (1 : Int32))), .val (.double (FP.i2d ((p2 &&& (65535 : Int32)) + (1 : Int32)))), .second, .val (.double (own_f p0 (FP.i2d ((p2 &&& (65535 : Int32)) + (1 : Int32))))), .second, .val (.double (own_f p1 (FP.i2d ((p2 &&& (65535 : Int32)) + (1 : Int32))))), .second, .val (.int (1 : Int32)), .val (.int (1 : Int32)), .val (.int (1 : Int32)), .unset, .unset, .unset, .unset, .unset, .unset, .unset, .unset] [(.int (p0 >>> ((1 : Int32) &&& 31)))])) t
        refine XS.istore X5.here hx rfl (hb hby at_148) rfl (l' := #[.val (.int p0), .val (.int p1), .val (.int p2), .val (.int ((p2 &&& (65535 : Int32)) + (1 : Int32))), .val (.double (FP.i2d ((p2 &&& (65535 : Int32)) + (1 : Int32)))), .second, .val (.double (own_f p0 (FP.i2d ((p2 &&& (65535 : Int32)) + (1 : Int32))))), .second, .val (.double (own_f p1 (FP.i2d ((p2 &&& (65535 : Int32)) + (1 : Int32))))), .second, .val (.int (1 : Int32)), .val (.int (1 : Int32)), .val (.int (1 : Int32)), .val (.int (p0 >>> ((1 : Int32) &&& 31))), .unset, .unset, .unset, .unset, .unset, .unset, .unset]) rfl ?_
        show Steps p.tables e below (T5.setTop (mkF m 150 #[.val (.int p0), .val (.int p1), .val (.int p2), .val (.int ((p2 &&& (65535 : Int32)) + (1 : Int32))), .val (.double (FP.i2d ((p2 &&& (65535 : Int32)) + (1 : Int32)))), .second, .val (.double (own_f p0 (FP.i2d ((p2 &&& (65535 : Int32)) + (1 : Int32))))), .second, .val (.double (own_f p1 (FP.i2d ((p2 &&& (65535 : Int32)) + (1 : Int32))))), .second, .val (.int (1 : Int32)), .val (.int (1 : Int32)), .val (.int (1 : Int32)), .val (.int (p0 >>> ((1 : Int32) &&& 31))), .unset, .unset, .unset, .unset, .unset, .unset, .unset] [])) t
        refine XS.iconst X5.here hx rfl (hb hby at_150) ?_
        show Steps p.tables e below (T5.setTop (mkF m 151 #[.val (.int p0), .val (.int p1), .val (.int p2), .val (.int ((p2 &&& (65535 : Int32)) + (1 : Int32))), .val (.double (FP.i2d ((p2 &&& (65535 : Int32)) + (1 : Int32)))), .second, .val (.double (own_f p0 (FP.i2d ((p2 &&& (65535 : Int32)) + (1 : Int32))))), .second, .val (.double (own_f p1 (FP.i2d ((p2 &&& (65535 : Int32)) + (1 : Int32))))), .second, .val (.int (1 : Int32)), .val (.int (1 : Int32)), .val (.int (1 : Int32)), .val (.int (p0 >>> ((1 : Int32) &&& 31))), .unset, .unset, .unset, .unset, .unset, .unset, .unset] [(.int (2 : Int32))])) t
        refine XS.iload X5.here hx rfl (hb hby at_151) rfl ?_
        show Steps p.tables e below (T5.setTop (mkF m 153 #[.val (.int p0), .val (.int p1), .val (.int p2), .val (.int ((p2 &&& (65535 : Int32)) + (1 : Int32))), .val (.double (FP.i2d ((p2 &&& (65535 : Int32)) + (1 : Int32)))), .second, .val (.double (own_f p0 (FP.i2d ((p2 &&& (65535 : Int32)) + (1 : Int32))))), .second, .val (.double (own_f p1 (FP.i2d ((p2 &&& (65535 : Int32)) + (1 : Int32))))), .second, .val (.int (1 : Int32)), .val (.int (1 : Int32)), .val (.int (1 : Int32)), .val (.int (p0 >>> ((1 : Int32) &&& 31))), .unset, .unset, .unset, .unset, .unset, .unset, .unset] [(.int (p0 >>> ((1 : Int32) &&& 31))), (.int (2 : Int32))])) t
        refine XS.imul X5.here hx rfl (hb hby at_153) rfl ?_
        show Steps p.tables e below (T5.setTop (mkF m 154 #[.val (.int p0), .val (.int p1), .val (.int p2), .val (.int ((p2 &&& (65535 : Int32)) + (1 : Int32))), .val (.double (FP.i2d ((p2 &&& (65535 : Int32)) + (1 : Int32)))), .second, .val (.double (own_f p0 (FP.i2d ((p2 &&& (65535 : Int32)) + (1 : Int32))))), .second, .val (.double (own_f p1 (FP.i2d ((p2 &&& (65535 : Int32)) + (1 : Int32))))), .second, .val (.int (1 : Int32)), .val (.int (1 : Int32)), .val (.int (1 : Int32)), .val (.int (p0 >>> ((1 : Int32) &&& 31))), .unset, .unset, .unset, .unset, .unset, .unset, .unset] [(.int ((2 : Int32) * (p0 >>> ((1 : Int32) &&& 31))))])) t
        refine X5.ldc2DoubleC hx hown (mvT hZ (hw _ (List.mem_of_getElem? (i := 10) rfl))) (g := (mkF m 154 #[.val (.int p0), .val (.int p1), .val (.int p2), .val (.int ((p2 &&& (65535 : Int32)) + (1 : Int32))), .val (.double (FP.i2d ((p2 &&& (65535 : Int32)) + (1 : Int32)))), .second, .val (.double (own_f p0 (FP.i2d ((p2 &&& (65535 : Int32)) + (1 : Int32))))), .second, .val (.double (own_f p1 (FP.i2d ((p2 &&& (65535 : Int32)) + (1 : Int32))))), .second, .val (.int (1 : Int32)), .val (.int (1 : Int32)), .val (.int (1 : Int32)), .val (.int (p0 >>> ((1 : Int32) &&& 31))), .unset, .unset, .unset, .unset, .unset, .unset, .unset] [(.int ((2 : Int32) * (p0 >>> ((1 : Int32) &&& 31))))])) rfl (hb hby at_154) _ ?_
        show Steps p.tables e below (T5.setTop (mkF m 157 #[.val (.int p0), .val (.int p1), .val (.int p2), .val (.int ((p2 &&& (65535 : Int32)) + (1 : Int32))), .val (.double (FP.i2d ((p2 &&& (65535 : Int32)) + (1 : Int32)))), .second, .val (.double (own_f p0 (FP.i2d ((p2 &&& (65535 : Int32)) + (1 : Int32))))), .second, .val (.double (own_f p1 (FP.i2d ((p2 &&& (65535 : Int32)) + (1 : Int32))))), .second, .val (.int (1 : Int32)), .val (.int (1 : Int32)), .val (.int (1 : Int32)), .val (.int (p0 >>> ((1 : Int32) &&& 31))), .unset, .unset, .unset, .unset, .unset, .unset, .unset] [(.double (4611686018427387904 : UInt64)), (.int ((2 : Int32) * (p0 >>> ((1 : Int32) &&& 31))))])) t
        refine XS.dload X5.here hx rfl (hb hby at_157) rfl ?_
        show Steps p.tables e below (T5.setTop (mkF m 159 #[.val (.int p0), .val (.int p1), .val (.int p2), .val (.int ((p2 &&& (65535 : Int32)) + (1 : Int32))), .val (.double (FP.i2d ((p2 &&& (65535 : Int32)) + (1 : Int32)))), .second, .val (.double (own_f p0 (FP.i2d ((p2 &&& (65535 : Int32)) + (1 : Int32))))), .second, .val (.double (own_f p1 (FP.i2d ((p2 &&& (65535 : Int32)) + (1 : Int32))))), .second, .val (.int (1 : Int32)), .val (.int (1 : Int32)), .val (.int (1 : Int32)), .val (.int (p0 >>> ((1 : Int32) &&& 31))), .unset, .unset, .unset, .unset, .unset, .unset, .unset] [(.double (FP.i2d ((p2 &&& (65535 : Int32)) + (1 : Int32)))), (.double (4611686018427387904 : UInt64)), (.int ((2 : Int32) * (p0 >>> ((1 : Int32) &&& 31))))])) t
        refine XS.dmulS X5.here hx rfl (hb hby at_159) rfl ((Jvm.Free.Fl.Mag64.fin (Jvm.Free.Fl.dmul_mag (show Jvm.Free.Fl.Mag64 1025 (4611686018427387904 : UInt64) by unfold Jvm.Free.Fl.Mag64; decide) (Jvm.Free.Fl.i2d_mag ((p2 &&& (65535 : Int32)) + (1 : Int32))) (by decide) (by decide)) (by decide)).noNaN) rfl ?_
        exact k
      obtain ⟨_, _, ⟨T7, L7, k7, n7⟩, -, X7, ⟨Lc7, hQ7, l7, y7, z7⟩, st7⟩ := Jvm.LawKit.callS X5 hx (y := (⟨"com/example/parkville/parkville/scoring/OkapiWeighting", "lengthNorm", "(ID)D"⟩ : MethodName)) hown (mvT hZ (hw _ (List.mem_of_getElem? (i := 1) rfl))) (mvT hZ (hw _ (List.mem_of_getElem? (i := 2) rfl))) (mvT hZ (hw _ (List.mem_of_getElem? (i := 3) rfl))) (mvT hZ (hw _ (List.mem_of_getElem? (i := 4) rfl))) (by decide) (backOf (W := 0) (rm1 l Z ar hw [] (((2 : Int32) * (p0 >>> ((1 : Int32) &&& 31)))) ((FP.dmul (4611686018427387904 : UInt64) (FP.i2d ((p2 &&& (65535 : Int32)) + (1 : Int32))))) h0 n0 Z0 (own_ok2 _ p2)) hZ (hw _ (List.mem_of_getElem? (i := 4) rfl)) (hw _ (List.mem_of_getElem? (i := 3) rfl)) (by decide) (by decide)) (g := (mkF m 160 #[.val (.int p0), .val (.int p1), .val (.int p2), .val (.int ((p2 &&& (65535 : Int32)) + (1 : Int32))), .val (.double (FP.i2d ((p2 &&& (65535 : Int32)) + (1 : Int32)))), .second, .val (.double (own_f p0 (FP.i2d ((p2 &&& (65535 : Int32)) + (1 : Int32))))), .second, .val (.double (own_f p1 (FP.i2d ((p2 &&& (65535 : Int32)) + (1 : Int32))))), .second, .val (.int (1 : Int32)), .val (.int (1 : Int32)), .val (.int (1 : Int32)), .val (.int (p0 >>> ((1 : Int32) &&& 31))), .unset, .unset, .unset, .unset, .unset, .unset, .unset] [(.double (FP.dmul (4611686018427387904 : UInt64) (FP.i2d ((p2 &&& (65535 : Int32)) + (1 : Int32))))), (.int ((2 : Int32) * (p0 >>> ((1 : Int32) &&& 31))))])) rfl (by rw [hml]; rfl) (argsL := [(.int ((2 : Int32) * (p0 >>> ((1 : Int32) &&& 31)))), (.double (FP.dmul (4611686018427387904 : UInt64) (FP.i2d ((p2 &&& (65535 : Int32)) + (1 : Int32)))))]) (rest := []) (lenOf pd0_0 rfl) rfl (by show 2 * 0 + _ ≤ _; exact Nat.le_of_eq rfl) (hb hby at_160) (fun _ _ => ⟨rfl, e5, (by decide : 0 + 0 ≤ _), (by decide : 0 + 0 ≤ _)⟩)
      dsimp only [Pt.U, Pt.locs, Pt.cells, Pt.slots] at X7 l7 y7 z7 st7 hQ7
      subst l7 y7 z7
      obtain ⟨rfl, N7q, e7⟩ := hQ7
      have n8 := Fr.app n6 N7q
      refine own_st (T' := T7) (g' := (mkF m 163 #[.val (.int p0), .val (.int p1), .val (.int p2), .val (.int ((p2 &&& (65535 : Int32)) + (1 : Int32))), .val (.double (FP.i2d ((p2 &&& (65535 : Int32)) + (1 : Int32)))), .second, .val (.double (own_f p0 (FP.i2d ((p2 &&& (65535 : Int32)) + (1 : Int32))))), .second, .val (.double (own_f p1 (FP.i2d ((p2 &&& (65535 : Int32)) + (1 : Int32))))), .second, .val (.int (1 : Int32)), .val (.int (1 : Int32)), .val (.int (1 : Int32)), .val (.int (p0 >>> ((1 : Int32) &&& 31))), .unset, .unset, .unset, .unset, .unset, .unset, .unset] [(.double (own_f ((2 : Int32) * (p0 >>> ((1 : Int32) &&& 31))) (FP.dmul (4611686018427387904 : UInt64) (FP.i2d ((p2 &&& (65535 : Int32)) + (1 : Int32))))))])) st7 ?_
      refine own_st (T' := T7) (g' := (mkF m 167 #[.val (.int p0), .val (.int p1), .val (.int p2), .val (.int ((p2 &&& (65535 : Int32)) + (1 : Int32))), .val (.double (FP.i2d ((p2 &&& (65535 : Int32)) + (1 : Int32)))), .second, .val (.double (own_f p0 (FP.i2d ((p2 &&& (65535 : Int32)) + (1 : Int32))))), .second, .val (.double (own_f p1 (FP.i2d ((p2 &&& (65535 : Int32)) + (1 : Int32))))), .second, .val (.int (1 : Int32)), .val (.int (1 : Int32)), .val (.int (1 : Int32)), .val (.int (p0 >>> ((1 : Int32) &&& 31))), .unset, .unset, .unset, .unset, .unset, .unset, .unset] [(.double (FP.i2d ((p2 &&& (65535 : Int32)) + (1 : Int32)))), (.int (p0 >>> ((1 : Int32) &&& 31))), (.double (own_f ((2 : Int32) * (p0 >>> ((1 : Int32) &&& 31))) (FP.dmul (4611686018427387904 : UInt64) (FP.i2d ((p2 &&& (65535 : Int32)) + (1 : Int32))))))])) (fun t k => ?_) ?_
      · show Steps p.tables e below (T7.setTop (mkF m 163 #[.val (.int p0), .val (.int p1), .val (.int p2), .val (.int ((p2 &&& (65535 : Int32)) + (1 : Int32))), .val (.double (FP.i2d ((p2 &&& (65535 : Int32)) + (1 : Int32)))), .second, .val (.double (own_f p0 (FP.i2d ((p2 &&& (65535 : Int32)) + (1 : Int32))))), .second, .val (.double (own_f p1 (FP.i2d ((p2 &&& (65535 : Int32)) + (1 : Int32))))), .second, .val (.int (1 : Int32)), .val (.int (1 : Int32)), .val (.int (1 : Int32)), .val (.int (p0 >>> ((1 : Int32) &&& 31))), .unset, .unset, .unset, .unset, .unset, .unset, .unset] [(.double (own_f ((2 : Int32) * (p0 >>> ((1 : Int32) &&& 31))) (FP.dmul (4611686018427387904 : UInt64) (FP.i2d ((p2 &&& (65535 : Int32)) + (1 : Int32))))))])) t
        refine XS.iload X7.here hx rfl (hb hby at_163) rfl ?_
        show Steps p.tables e below (T7.setTop (mkF m 165 #[.val (.int p0), .val (.int p1), .val (.int p2), .val (.int ((p2 &&& (65535 : Int32)) + (1 : Int32))), .val (.double (FP.i2d ((p2 &&& (65535 : Int32)) + (1 : Int32)))), .second, .val (.double (own_f p0 (FP.i2d ((p2 &&& (65535 : Int32)) + (1 : Int32))))), .second, .val (.double (own_f p1 (FP.i2d ((p2 &&& (65535 : Int32)) + (1 : Int32))))), .second, .val (.int (1 : Int32)), .val (.int (1 : Int32)), .val (.int (1 : Int32)), .val (.int (p0 >>> ((1 : Int32) &&& 31))), .unset, .unset, .unset, .unset, .unset, .unset, .unset] [(.int (p0 >>> ((1 : Int32) &&& 31))), (.double (own_f ((2 : Int32) * (p0 >>> ((1 : Int32) &&& 31))) (FP.dmul (4611686018427387904 : UInt64) (FP.i2d ((p2 &&& (65535 : Int32)) + (1 : Int32))))))])) t
        refine XS.dload X7.here hx rfl (hb hby at_165) rfl ?_
        exact k
      obtain ⟨_, _, ⟨T9, L9, k9, n9⟩, -, X9, ⟨Lc9, hQ9, l9, y9, z9⟩, st9⟩ := Jvm.LawKit.callS X7 hx (y := (⟨"com/example/parkville/parkville/scoring/OkapiWeighting", "lengthNorm", "(ID)D"⟩ : MethodName)) hown (mvT hZ (hw _ (List.mem_of_getElem? (i := 1) rfl))) (mvT hZ (hw _ (List.mem_of_getElem? (i := 2) rfl))) (mvT hZ (hw _ (List.mem_of_getElem? (i := 3) rfl))) (mvT hZ (hw _ (List.mem_of_getElem? (i := 4) rfl))) (by decide) (backOf (W := 2) (rm1 l Z ar hw [] ((p0 >>> ((1 : Int32) &&& 31))) ((FP.i2d ((p2 &&& (65535 : Int32)) + (1 : Int32)))) h0 n0 Z0 (own_okM _ (own_hpos p2))) hZ (hw _ (List.mem_of_getElem? (i := 4) rfl)) (hw _ (List.mem_of_getElem? (i := 3) rfl)) (by decide) (by decide)) (g := (mkF m 167 #[.val (.int p0), .val (.int p1), .val (.int p2), .val (.int ((p2 &&& (65535 : Int32)) + (1 : Int32))), .val (.double (FP.i2d ((p2 &&& (65535 : Int32)) + (1 : Int32)))), .second, .val (.double (own_f p0 (FP.i2d ((p2 &&& (65535 : Int32)) + (1 : Int32))))), .second, .val (.double (own_f p1 (FP.i2d ((p2 &&& (65535 : Int32)) + (1 : Int32))))), .second, .val (.int (1 : Int32)), .val (.int (1 : Int32)), .val (.int (1 : Int32)), .val (.int (p0 >>> ((1 : Int32) &&& 31))), .unset, .unset, .unset, .unset, .unset, .unset, .unset] [(.double (FP.i2d ((p2 &&& (65535 : Int32)) + (1 : Int32)))), (.int (p0 >>> ((1 : Int32) &&& 31))), (.double (own_f ((2 : Int32) * (p0 >>> ((1 : Int32) &&& 31))) (FP.dmul (4611686018427387904 : UInt64) (FP.i2d ((p2 &&& (65535 : Int32)) + (1 : Int32))))))])) rfl (by rw [hml]; rfl) (argsL := [(.int (p0 >>> ((1 : Int32) &&& 31))), (.double (FP.i2d ((p2 &&& (65535 : Int32)) + (1 : Int32))))]) (rest := [(.double (own_f ((2 : Int32) * (p0 >>> ((1 : Int32) &&& 31))) (FP.dmul (4611686018427387904 : UInt64) (FP.i2d ((p2 &&& (65535 : Int32)) + (1 : Int32))))))]) (lenOf pd0_0 rfl) rfl (by show 2 * 0 + _ ≤ _; exact Nat.le_of_eq rfl) (hb hby at_167) (fun _ _ => ⟨rfl, e7, (by decide : 0 + 0 ≤ _), (by decide : 0 + 0 ≤ _)⟩)
      dsimp only [Pt.U, Pt.locs, Pt.cells, Pt.slots] at X9 l9 y9 z9 st9 hQ9
      subst l9 y9 z9
      obtain ⟨rfl, N9q, e9⟩ := hQ9
      have n10 := Fr.app n8 N9q
      refine own_st (T' := T9) (g' := (mkF m 170 #[.val (.int p0), .val (.int p1), .val (.int p2), .val (.int ((p2 &&& (65535 : Int32)) + (1 : Int32))), .val (.double (FP.i2d ((p2 &&& (65535 : Int32)) + (1 : Int32)))), .second, .val (.double (own_f p0 (FP.i2d ((p2 &&& (65535 : Int32)) + (1 : Int32))))), .second, .val (.double (own_f p1 (FP.i2d ((p2 &&& (65535 : Int32)) + (1 : Int32))))), .second, .val (.int (1 : Int32)), .val (.int (1 : Int32)), .val (.int (1 : Int32)), .val (.int (p0 >>> ((1 : Int32) &&& 31))), .unset, .unset, .unset, .unset, .unset, .unset, .unset] [(.double (own_f (p0 >>> ((1 : Int32) &&& 31)) (FP.i2d ((p2 &&& (65535 : Int32)) + (1 : Int32))))), (.double (own_f ((2 : Int32) * (p0 >>> ((1 : Int32) &&& 31))) (FP.dmul (4611686018427387904 : UInt64) (FP.i2d ((p2 &&& (65535 : Int32)) + (1 : Int32))))))])) st9 ?_
      refine own_st (T' := T9) (g' := (mkF m 186 #[.val (.int p0), .val (.int p1), .val (.int p2), .val (.int ((p2 &&& (65535 : Int32)) + (1 : Int32))), .val (.double (FP.i2d ((p2 &&& (65535 : Int32)) + (1 : Int32)))), .second, .val (.double (own_f p0 (FP.i2d ((p2 &&& (65535 : Int32)) + (1 : Int32))))), .second, .val (.double (own_f p1 (FP.i2d ((p2 &&& (65535 : Int32)) + (1 : Int32))))), .second, .val (.int (1 : Int32)), .val (.int (1 : Int32)), .val (.int (1 : Int32)), .val (.int (p0 >>> ((1 : Int32) &&& 31))), .val (.int (1 : Int32)), .unset, .unset, .unset, .unset, .unset, .unset] [(.double (FP.i2d ((p2 &&& (65535 : Int32)) + (1 : Int32)))), (.int ((2 : Int32) * ((p2 &&& (65535 : Int32)) + (1 : Int32))))])) (fun t k => ?_) ?_
      · show Steps p.tables e below (T9.setTop (mkF m 170 #[.val (.int p0), .val (.int p1), .val (.int p2), .val (.int ((p2 &&& (65535 : Int32)) + (1 : Int32))), .val (.double (FP.i2d ((p2 &&& (65535 : Int32)) + (1 : Int32)))), .second, .val (.double (own_f p0 (FP.i2d ((p2 &&& (65535 : Int32)) + (1 : Int32))))), .second, .val (.double (own_f p1 (FP.i2d ((p2 &&& (65535 : Int32)) + (1 : Int32))))), .second, .val (.int (1 : Int32)), .val (.int (1 : Int32)), .val (.int (1 : Int32)), .val (.int (p0 >>> ((1 : Int32) &&& 31))), .unset, .unset, .unset, .unset, .unset, .unset, .unset] [(.double (own_f (p0 >>> ((1 : Int32) &&& 31)) (FP.i2d ((p2 &&& (65535 : Int32)) + (1 : Int32))))), (.double (own_f ((2 : Int32) * (p0 >>> ((1 : Int32) &&& 31))) (FP.dmul (4611686018427387904 : UInt64) (FP.i2d ((p2 &&& (65535 : Int32)) + (1 : Int32))))))])) t
        refine XS.dcmpS X9.here hx rfl (hb hby at_170) rfl (own_scale p0 p2) ?_
        show Steps p.tables e below (T9.setTop (mkF m 171 #[.val (.int p0), .val (.int p1), .val (.int p2), .val (.int ((p2 &&& (65535 : Int32)) + (1 : Int32))), .val (.double (FP.i2d ((p2 &&& (65535 : Int32)) + (1 : Int32)))), .second, .val (.double (own_f p0 (FP.i2d ((p2 &&& (65535 : Int32)) + (1 : Int32))))), .second, .val (.double (own_f p1 (FP.i2d ((p2 &&& (65535 : Int32)) + (1 : Int32))))), .second, .val (.int (1 : Int32)), .val (.int (1 : Int32)), .val (.int (1 : Int32)), .val (.int (p0 >>> ((1 : Int32) &&& 31))), .unset, .unset, .unset, .unset, .unset, .unset, .unset] [(.int (0 : Int32))])) t
        refine XS.ifNo X9.here hx rfl (hb hby at_171) rfl (by decide) ?_
        show Steps p.tables e below (T9.setTop (mkF m 174 #[.val (.int p0), .val (.int p1), .val (.int p2), .val (.int ((p2 &&& (65535 : Int32)) + (1 : Int32))), .val (.double (FP.i2d ((p2 &&& (65535 : Int32)) + (1 : Int32)))), .second, .val (.double (own_f p0 (FP.i2d ((p2 &&& (65535 : Int32)) + (1 : Int32))))), .second, .val (.double (own_f p1 (FP.i2d ((p2 &&& (65535 : Int32)) + (1 : Int32))))), .second, .val (.int (1 : Int32)), .val (.int (1 : Int32)), .val (.int (1 : Int32)), .val (.int (p0 >>> ((1 : Int32) &&& 31))), .unset, .unset, .unset, .unset, .unset, .unset, .unset] [])) t
        refine XS.iconst X9.here hx rfl (hb hby at_174) ?_
        show Steps p.tables e below (T9.setTop (mkF m 175 #[.val (.int p0), .val (.int p1), .val (.int p2), .val (.int ((p2 &&& (65535 : Int32)) + (1 : Int32))), .val (.double (FP.i2d ((p2 &&& (65535 : Int32)) + (1 : Int32)))), .second, .val (.double (own_f p0 (FP.i2d ((p2 &&& (65535 : Int32)) + (1 : Int32))))), .second, .val (.double (own_f p1 (FP.i2d ((p2 &&& (65535 : Int32)) + (1 : Int32))))), .second, .val (.int (1 : Int32)), .val (.int (1 : Int32)), .val (.int (1 : Int32)), .val (.int (p0 >>> ((1 : Int32) &&& 31))), .unset, .unset, .unset, .unset, .unset, .unset, .unset] [(.int (1 : Int32))])) t
        refine XS.goto X9.here hx rfl (pc0 := 175) (pc' := 179) rfl (hb hby at_175) (by decide) (by decide) ?_
        show Steps p.tables e below (T9.setTop (mkF m 179 #[.val (.int p0), .val (.int p1), .val (.int p2), .val (.int ((p2 &&& (65535 : Int32)) + (1 : Int32))), .val (.double (FP.i2d ((p2 &&& (65535 : Int32)) + (1 : Int32)))), .second, .val (.double (own_f p0 (FP.i2d ((p2 &&& (65535 : Int32)) + (1 : Int32))))), .second, .val (.double (own_f p1 (FP.i2d ((p2 &&& (65535 : Int32)) + (1 : Int32))))), .second, .val (.int (1 : Int32)), .val (.int (1 : Int32)), .val (.int (1 : Int32)), .val (.int (p0 >>> ((1 : Int32) &&& 31))), .unset, .unset, .unset, .unset, .unset, .unset, .unset] [(.int (1 : Int32))])) t
        refine XS.istore X9.here hx rfl (hb hby at_179) rfl (l' := #[.val (.int p0), .val (.int p1), .val (.int p2), .val (.int ((p2 &&& (65535 : Int32)) + (1 : Int32))), .val (.double (FP.i2d ((p2 &&& (65535 : Int32)) + (1 : Int32)))), .second, .val (.double (own_f p0 (FP.i2d ((p2 &&& (65535 : Int32)) + (1 : Int32))))), .second, .val (.double (own_f p1 (FP.i2d ((p2 &&& (65535 : Int32)) + (1 : Int32))))), .second, .val (.int (1 : Int32)), .val (.int (1 : Int32)), .val (.int (1 : Int32)), .val (.int (p0 >>> ((1 : Int32) &&& 31))), .val (.int (1 : Int32)), .unset, .unset, .unset, .unset, .unset, .unset]) rfl ?_
        show Steps p.tables e below (T9.setTop (mkF m 181 #[.val (.int p0), .val (.int p1), .val (.int p2), .val (.int ((p2 &&& (65535 : Int32)) + (1 : Int32))), .val (.double (FP.i2d ((p2 &&& (65535 : Int32)) + (1 : Int32)))), .second, .val (.double (own_f p0 (FP.i2d ((p2 &&& (65535 : Int32)) + (1 : Int32))))), .second, .val (.double (own_f p1 (FP.i2d ((p2 &&& (65535 : Int32)) + (1 : Int32))))), .second, .val (.int (1 : Int32)), .val (.int (1 : Int32)), .val (.int (1 : Int32)), .val (.int (p0 >>> ((1 : Int32) &&& 31))), .val (.int (1 : Int32)), .unset, .unset, .unset, .unset, .unset, .unset] [])) t
        refine XS.iconst X9.here hx rfl (hb hby at_181) ?_
        show Steps p.tables e below (T9.setTop (mkF m 182 #[.val (.int p0), .val (.int p1), .val (.int p2), .val (.int ((p2 &&& (65535 : Int32)) + (1 : Int32))), .val (.double (FP.i2d ((p2 &&& (65535 : Int32)) + (1 : Int32)))), .second, .val (.double (own_f p0 (FP.i2d ((p2 &&& (65535 : Int32)) + (1 : Int32))))), .second, .val (.double (own_f p1 (FP.i2d ((p2 &&& (65535 : Int32)) + (1 : Int32))))), .second, .val (.int (1 : Int32)), .val (.int (1 : Int32)), .val (.int (1 : Int32)), .val (.int (p0 >>> ((1 : Int32) &&& 31))), .val (.int (1 : Int32)), .unset, .unset, .unset, .unset, .unset, .unset] [(.int (2 : Int32))])) t
        refine XS.iloadN X9.here hx rfl (hb hby at_182) rfl ?_
        show Steps p.tables e below (T9.setTop (mkF m 183 #[.val (.int p0), .val (.int p1), .val (.int p2), .val (.int ((p2 &&& (65535 : Int32)) + (1 : Int32))), .val (.double (FP.i2d ((p2 &&& (65535 : Int32)) + (1 : Int32)))), .second, .val (.double (own_f p0 (FP.i2d ((p2 &&& (65535 : Int32)) + (1 : Int32))))), .second, .val (.double (own_f p1 (FP.i2d ((p2 &&& (65535 : Int32)) + (1 : Int32))))), .second, .val (.int (1 : Int32)), .val (.int (1 : Int32)), .val (.int (1 : Int32)), .val (.int (p0 >>> ((1 : Int32) &&& 31))), .val (.int (1 : Int32)), .unset, .unset, .unset, .unset, .unset, .unset] [(.int ((p2 &&& (65535 : Int32)) + (1 : Int32))), (.int (2 : Int32))])) t
        refine XS.imul X9.here hx rfl (hb hby at_183) rfl ?_
        show Steps p.tables e below (T9.setTop (mkF m 184 #[.val (.int p0), .val (.int p1), .val (.int p2), .val (.int ((p2 &&& (65535 : Int32)) + (1 : Int32))), .val (.double (FP.i2d ((p2 &&& (65535 : Int32)) + (1 : Int32)))), .second, .val (.double (own_f p0 (FP.i2d ((p2 &&& (65535 : Int32)) + (1 : Int32))))), .second, .val (.double (own_f p1 (FP.i2d ((p2 &&& (65535 : Int32)) + (1 : Int32))))), .second, .val (.int (1 : Int32)), .val (.int (1 : Int32)), .val (.int (1 : Int32)), .val (.int (p0 >>> ((1 : Int32) &&& 31))), .val (.int (1 : Int32)), .unset, .unset, .unset, .unset, .unset, .unset] [(.int ((2 : Int32) * ((p2 &&& (65535 : Int32)) + (1 : Int32))))])) t
        refine XS.dload X9.here hx rfl (hb hby at_184) rfl ?_
        exact k
      obtain ⟨_, _, ⟨T11, L11, k11, n11⟩, -, X11, ⟨Lc11, hQ11, l11, y11, z11⟩, st11⟩ := Jvm.LawKit.callS X9 hx (y := (⟨"com/example/parkville/parkville/scoring/OkapiWeighting", "lengthNorm", "(ID)D"⟩ : MethodName)) hown (mvT hZ (hw _ (List.mem_of_getElem? (i := 1) rfl))) (mvT hZ (hw _ (List.mem_of_getElem? (i := 2) rfl))) (mvT hZ (hw _ (List.mem_of_getElem? (i := 3) rfl))) (mvT hZ (hw _ (List.mem_of_getElem? (i := 4) rfl))) (by decide) (backOf (W := 0) (rm1 l Z ar hw [] (((2 : Int32) * ((p2 &&& (65535 : Int32)) + (1 : Int32)))) ((FP.i2d ((p2 &&& (65535 : Int32)) + (1 : Int32)))) h0 n0 Z0 (own_okM _ (own_hpos p2))) hZ (hw _ (List.mem_of_getElem? (i := 4) rfl)) (hw _ (List.mem_of_getElem? (i := 3) rfl)) (by decide) (by decide)) (g := (mkF m 186 #[.val (.int p0), .val (.int p1), .val (.int p2), .val (.int ((p2 &&& (65535 : Int32)) + (1 : Int32))), .val (.double (FP.i2d ((p2 &&& (65535 : Int32)) + (1 : Int32)))), .second, .val (.double (own_f p0 (FP.i2d ((p2 &&& (65535 : Int32)) + (1 : Int32))))), .second, .val (.double (own_f p1 (FP.i2d ((p2 &&& (65535 : Int32)) + (1 : Int32))))), .second, .val (.int (1 : Int32)), .val (.int (1 : Int32)), .val (.int (1 : Int32)), .val (.int (p0 >>> ((1 : Int32) &&& 31))), .val (.int (1 : Int32)), .unset, .unset, .unset, .unset, .unset, .unset] [(.double (FP.i2d ((p2 &&& (65535 : Int32)) + (1 : Int32)))), (.int ((2 : Int32) * ((p2 &&& (65535 : Int32)) + (1 : Int32))))])) rfl (by rw [hml]; rfl) (argsL := [(.int ((2 : Int32) * ((p2 &&& (65535 : Int32)) + (1 : Int32)))), (.double (FP.i2d ((p2 &&& (65535 : Int32)) + (1 : Int32))))]) (rest := []) (lenOf pd0_0 rfl) rfl (by show 2 * 0 + _ ≤ _; exact Nat.le_of_eq rfl) (hb hby at_186) (fun _ _ => ⟨rfl, e9, (by decide : 0 + 0 ≤ _), (by decide : 0 + 0 ≤ _)⟩)
      dsimp only [Pt.U, Pt.locs, Pt.cells, Pt.slots] at X11 l11 y11 z11 st11 hQ11
      subst l11 y11 z11
      obtain ⟨rfl, N11q, e11⟩ := hQ11
      have n12 := Fr.app n10 N11q
      refine own_st (T' := T11) (g' := (mkF m 189 #[.val (.int p0), .val (.int p1), .val (.int p2), .val (.int ((p2 &&& (65535 : Int32)) + (1 : Int32))), .val (.double (FP.i2d ((p2 &&& (65535 : Int32)) + (1 : Int32)))), .second, .val (.double (own_f p0 (FP.i2d ((p2 &&& (65535 : Int32)) + (1 : Int32))))), .second, .val (.double (own_f p1 (FP.i2d ((p2 &&& (65535 : Int32)) + (1 : Int32))))), .second, .val (.int (1 : Int32)), .val (.int (1 : Int32)), .val (.int (1 : Int32)), .val (.int (p0 >>> ((1 : Int32) &&& 31))), .val (.int (1 : Int32)), .unset, .unset, .unset, .unset, .unset, .unset] [(.double (own_f ((2 : Int32) * ((p2 &&& (65535 : Int32)) + (1 : Int32))) (FP.i2d ((p2 &&& (65535 : Int32)) + (1 : Int32)))))])) st11 ?_
      refine own_st (T' := T11) (g' := (mkF m 223 #[.val (.int p0), .val (.int p1), .val (.int p2), .val (.int ((p2 &&& (65535 : Int32)) + (1 : Int32))), .val (.double (FP.i2d ((p2 &&& (65535 : Int32)) + (1 : Int32)))), .second, .val (.double (own_f p0 (FP.i2d ((p2 &&& (65535 : Int32)) + (1 : Int32))))), .second, .val (.double (own_f p1 (FP.i2d ((p2 &&& (65535 : Int32)) + (1 : Int32))))), .second, .val (.int (1 : Int32)), .val (.int (1 : Int32)), .val (.int (1 : Int32)), .val (.int (p0 >>> ((1 : Int32) &&& 31))), .val (.int (1 : Int32)), .val (.double (own_f ((2 : Int32) * ((p2 &&& (65535 : Int32)) + (1 : Int32))) (FP.i2d ((p2 &&& (65535 : Int32)) + (1 : Int32))))), .second, .val (.int (1 : Int32)), .unset, .unset, .unset] [(.double (FP.dmul (4611686018427387904 : UInt64) (FP.i2d ((p2 &&& (65535 : Int32)) + (1 : Int32))))), (.int ((p2 &&& (65535 : Int32)) + (1 : Int32)))])) (fun t k => ?_) ?_
      · show Steps p.tables e below (T11.setTop (mkF m 189 #[.val (.int p0), .val (.int p1), .val (.int p2), .val (.int ((p2 &&& (65535 : Int32)) + (1 : Int32))), .val (.double (FP.i2d ((p2 &&& (65535 : Int32)) + (1 : Int32)))), .second, .val (.double (own_f p0 (FP.i2d ((p2 &&& (65535 : Int32)) + (1 : Int32))))), .second, .val (.double (own_f p1 (FP.i2d ((p2 &&& (65535 : Int32)) + (1 : Int32))))), .second, .val (.int (1 : Int32)), .val (.int (1 : Int32)), .val (.int (1 : Int32)), .val (.int (p0 >>> ((1 : Int32) &&& 31))), .val (.int (1 : Int32)), .unset, .unset, .unset, .unset, .unset, .unset] [(.double (own_f ((2 : Int32) * ((p2 &&& (65535 : Int32)) + (1 : Int32))) (FP.i2d ((p2 &&& (65535 : Int32)) + (1 : Int32)))))])) t
        refine XS.dstore X11.here hx rfl (hb hby at_189) rfl (l' := #[.val (.int p0), .val (.int p1), .val (.int p2), .val (.int ((p2 &&& (65535 : Int32)) + (1 : Int32))), .val (.double (FP.i2d ((p2 &&& (65535 : Int32)) + (1 : Int32)))), .second, .val (.double (own_f p0 (FP.i2d ((p2 &&& (65535 : Int32)) + (1 : Int32))))), .second, .val (.double (own_f p1 (FP.i2d ((p2 &&& (65535 : Int32)) + (1 : Int32))))), .second, .val (.int (1 : Int32)), .val (.int (1 : Int32)), .val (.int (1 : Int32)), .val (.int (p0 >>> ((1 : Int32) &&& 31))), .val (.int (1 : Int32)), .val (.double (own_f ((2 : Int32) * ((p2 &&& (65535 : Int32)) + (1 : Int32))) (FP.i2d ((p2 &&& (65535 : Int32)) + (1 : Int32))))), .second, .unset, .unset, .unset, .unset]) rfl ?_
        show Steps p.tables e below (T11.setTop (mkF m 191 #[.val (.int p0), .val (.int p1), .val (.int p2), .val (.int ((p2 &&& (65535 : Int32)) + (1 : Int32))), .val (.double (FP.i2d ((p2 &&& (65535 : Int32)) + (1 : Int32)))), .second, .val (.double (own_f p0 (FP.i2d ((p2 &&& (65535 : Int32)) + (1 : Int32))))), .second, .val (.double (own_f p1 (FP.i2d ((p2 &&& (65535 : Int32)) + (1 : Int32))))), .second, .val (.int (1 : Int32)), .val (.int (1 : Int32)), .val (.int (1 : Int32)), .val (.int (p0 >>> ((1 : Int32) &&& 31))), .val (.int (1 : Int32)), .val (.double (own_f ((2 : Int32) * ((p2 &&& (65535 : Int32)) + (1 : Int32))) (FP.i2d ((p2 &&& (65535 : Int32)) + (1 : Int32))))), .second, .unset, .unset, .unset, .unset] [])) t
        refine X11.ldc2DoubleC hx hown (mvT hZ (hw _ (List.mem_of_getElem? (i := 11) rfl))) (g := (mkF m 191 #[.val (.int p0), .val (.int p1), .val (.int p2), .val (.int ((p2 &&& (65535 : Int32)) + (1 : Int32))), .val (.double (FP.i2d ((p2 &&& (65535 : Int32)) + (1 : Int32)))), .second, .val (.double (own_f p0 (FP.i2d ((p2 &&& (65535 : Int32)) + (1 : Int32))))), .second, .val (.double (own_f p1 (FP.i2d ((p2 &&& (65535 : Int32)) + (1 : Int32))))), .second, .val (.int (1 : Int32)), .val (.int (1 : Int32)), .val (.int (1 : Int32)), .val (.int (p0 >>> ((1 : Int32) &&& 31))), .val (.int (1 : Int32)), .val (.double (own_f ((2 : Int32) * ((p2 &&& (65535 : Int32)) + (1 : Int32))) (FP.i2d ((p2 &&& (65535 : Int32)) + (1 : Int32))))), .second, .unset, .unset, .unset, .unset] [])) rfl (hb hby at_191) _ ?_
        show Steps p.tables e below (T11.setTop (mkF m 194 #[.val (.int p0), .val (.int p1), .val (.int p2), .val (.int ((p2 &&& (65535 : Int32)) + (1 : Int32))), .val (.double (FP.i2d ((p2 &&& (65535 : Int32)) + (1 : Int32)))), .second, .val (.double (own_f p0 (FP.i2d ((p2 &&& (65535 : Int32)) + (1 : Int32))))), .second, .val (.double (own_f p1 (FP.i2d ((p2 &&& (65535 : Int32)) + (1 : Int32))))), .second, .val (.int (1 : Int32)), .val (.int (1 : Int32)), .val (.int (1 : Int32)), .val (.int (p0 >>> ((1 : Int32) &&& 31))), .val (.int (1 : Int32)), .val (.double (own_f ((2 : Int32) * ((p2 &&& (65535 : Int32)) + (1 : Int32))) (FP.i2d ((p2 &&& (65535 : Int32)) + (1 : Int32))))), .second, .unset, .unset, .unset, .unset] [(.double (4611888680410619576 : UInt64))])) t
        refine XS.dload X11.here hx rfl (hb hby at_194) rfl ?_
        show Steps p.tables e below (T11.setTop (mkF m 196 #[.val (.int p0), .val (.int p1), .val (.int p2), .val (.int ((p2 &&& (65535 : Int32)) + (1 : Int32))), .val (.double (FP.i2d ((p2 &&& (65535 : Int32)) + (1 : Int32)))), .second, .val (.double (own_f p0 (FP.i2d ((p2 &&& (65535 : Int32)) + (1 : Int32))))), .second, .val (.double (own_f p1 (FP.i2d ((p2 &&& (65535 : Int32)) + (1 : Int32))))), .second, .val (.int (1 : Int32)), .val (.int (1 : Int32)), .val (.int (1 : Int32)), .val (.int (p0 >>> ((1 : Int32) &&& 31))), .val (.int (1 : Int32)), .val (.double (own_f ((2 : Int32) * ((p2 &&& (65535 : Int32)) + (1 : Int32))) (FP.i2d ((p2 &&& (65535 : Int32)) + (1 : Int32))))), .second, .unset, .unset, .unset, .unset] [(.double (own_f ((2 : Int32) * ((p2 &&& (65535 : Int32)) + (1 : Int32))) (FP.i2d ((p2 &&& (65535 : Int32)) + (1 : Int32))))), (.double (4611888680410619576 : UInt64))])) t
        refine XS.dcmpS X11.here hx rfl (hb hby at_196) rfl (own_clt (by decide +kernel) (own_fnn _ (own_hpos p2)) (Int.lt_of_lt_of_le (b := own_zv (own_g 4611686018427387904)) (by decide +kernel) (Int.le_of_eq (own_tw p2).symm)) .g) ?_
        show Steps p.tables e below (T11.setTop (mkF m 197 #[.val (.int p0), .val (.int p1), .val (.int p2), .val (.int ((p2 &&& (65535 : Int32)) + (1 : Int32))), .val (.double (FP.i2d ((p2 &&& (65535 : Int32)) + (1 : Int32)))), .second, .val (.double (own_f p0 (FP.i2d ((p2 &&& (65535 : Int32)) + (1 : Int32))))), .second, .val (.double (own_f p1 (FP.i2d ((p2 &&& (65535 : Int32)) + (1 : Int32))))), .second, .val (.int (1 : Int32)), .val (.int (1 : Int32)), .val (.int (1 : Int32)), .val (.int (p0 >>> ((1 : Int32) &&& 31))), .val (.int (1 : Int32)), .val (.double (own_f ((2 : Int32) * ((p2 &&& (65535 : Int32)) + (1 : Int32))) (FP.i2d ((p2 &&& (65535 : Int32)) + (1 : Int32))))), .second, .unset, .unset, .unset, .unset] [(.int (-1 : Int32))])) t
        refine XS.ifNo X11.here hx rfl (hb hby at_197) rfl (by decide) ?_
        show Steps p.tables e below (T11.setTop (mkF m 200 #[.val (.int p0), .val (.int p1), .val (.int p2), .val (.int ((p2 &&& (65535 : Int32)) + (1 : Int32))), .val (.double (FP.i2d ((p2 &&& (65535 : Int32)) + (1 : Int32)))), .second, .val (.double (own_f p0 (FP.i2d ((p2 &&& (65535 : Int32)) + (1 : Int32))))), .second, .val (.double (own_f p1 (FP.i2d ((p2 &&& (65535 : Int32)) + (1 : Int32))))), .second, .val (.int (1 : Int32)), .val (.int (1 : Int32)), .val (.int (1 : Int32)), .val (.int (p0 >>> ((1 : Int32) &&& 31))), .val (.int (1 : Int32)), .val (.double (own_f ((2 : Int32) * ((p2 &&& (65535 : Int32)) + (1 : Int32))) (FP.i2d ((p2 &&& (65535 : Int32)) + (1 : Int32))))), .second, .unset, .unset, .unset, .unset] [])) t
        refine XS.dload X11.here hx rfl (hb hby at_200) rfl ?_
        show Steps p.tables e below (T11.setTop (mkF m 202 #[.val (.int p0), .val (.int p1), .val (.int p2), .val (.int ((p2 &&& (65535 : Int32)) + (1 : Int32))), .val (.double (FP.i2d ((p2 &&& (65535 : Int32)) + (1 : Int32)))), .second, .val (.double (own_f p0 (FP.i2d ((p2 &&& (65535 : Int32)) + (1 : Int32))))), .second, .val (.double (own_f p1 (FP.i2d ((p2 &&& (65535 : Int32)) + (1 : Int32))))), .second, .val (.int (1 : Int32)), .val (.int (1 : Int32)), .val (.int (1 : Int32)), .val (.int (p0 >>> ((1 : Int32) &&& 31))), .val (.int (1 : Int32)), .val (.double (own_f ((2 : Int32) * ((p2 &&& (65535 : Int32)) + (1 : Int32))) (FP.i2d ((p2 &&& (65535 : Int32)) + (1 : Int32))))), .second, .unset, .unset, .unset, .unset] [(.double (own_f ((2 : Int32) * ((p2 &&& (65535 : Int32)) + (1 : Int32))) (FP.i2d ((p2 &&& (65535 : Int32)) + (1 : Int32)))))])) t
        refine X11.ldc2DoubleC hx hown (mvT hZ (hw _ (List.mem_of_getElem? (i := 12) rfl))) (g := (mkF m 202 #[.val (.int p0), .val (.int p1), .val (.int p2), .val (.int ((p2 &&& (65535 : Int32)) + (1 : Int32))), .val (.double (FP.i2d ((p2 &&& (65535 : Int32)) + (1 : Int32)))), .second, .val (.double (own_f p0 (FP.i2d ((p2 &&& (65535 : Int32)) + (1 : Int32))))), .second, .val (.double (own_f p1 (FP.i2d ((p2 &&& (65535 : Int32)) + (1 : Int32))))), .second, .val (.int (1 : Int32)), .val (.int (1 : Int32)), .val (.int (1 : Int32)), .val (.int (p0 >>> ((1 : Int32) &&& 31))), .val (.int (1 : Int32)), .val (.double (own_f ((2 : Int32) * ((p2 &&& (65535 : Int32)) + (1 : Int32))) (FP.i2d ((p2 &&& (65535 : Int32)) + (1 : Int32))))), .second, .unset, .unset, .unset, .unset] [(.double (own_f ((2 : Int32) * ((p2 &&& (65535 : Int32)) + (1 : Int32))) (FP.i2d ((p2 &&& (65535 : Int32)) + (1 : Int32)))))])) rfl (hb hby at_202) _ ?_
        show Steps p.tables e below (T11.setTop (mkF m 205 #[.val (.int p0), .val (.int p1), .val (.int p2), .val (.int ((p2 &&& (65535 : Int32)) + (1 : Int32))), .val (.double (FP.i2d ((p2 &&& (65535 : Int32)) + (1 : Int32)))), .second, .val (.double (own_f p0 (FP.i2d ((p2 &&& (65535 : Int32)) + (1 : Int32))))), .second, .val (.double (own_f p1 (FP.i2d ((p2 &&& (65535 : Int32)) + (1 : Int32))))), .second, .val (.int (1 : Int32)), .val (.int (1 : Int32)), .val (.int (1 : Int32)), .val (.int (p0 >>> ((1 : Int32) &&& 31))), .val (.int (1 : Int32)), .val (.double (own_f ((2 : Int32) * ((p2 &&& (65535 : Int32)) + (1 : Int32))) (FP.i2d ((p2 &&& (65535 : Int32)) + (1 : Int32))))), .second, .unset, .unset, .unset, .unset] [(.double (4611933716406893281 : UInt64)), (.double (own_f ((2 : Int32) * ((p2 &&& (65535 : Int32)) + (1 : Int32))) (FP.i2d ((p2 &&& (65535 : Int32)) + (1 : Int32)))))])) t
        refine XS.dcmpS X11.here hx rfl (hb hby at_205) rfl (own_clt (own_fnn _ (own_hpos p2)) (by decide +kernel) (Int.lt_of_le_of_lt (b := own_zv (own_g 4611686018427387904)) (Int.le_of_eq (own_tw p2)) (by decide +kernel)) .g) ?_
        show Steps p.tables e below (T11.setTop (mkF m 206 #[.val (.int p0), .val (.int p1), .val (.int p2), .val (.int ((p2 &&& (65535 : Int32)) + (1 : Int32))), .val (.double (FP.i2d ((p2 &&& (65535 : Int32)) + (1 : Int32)))), .second, .val (.double (own_f p0 (FP.i2d ((p2 &&& (65535 : Int32)) + (1 : Int32))))), .second, .val (.double (own_f p1 (FP.i2d ((p2 &&& (65535 : Int32)) + (1 : Int32))))), .second, .val (.int (1 : Int32)), .val (.int (1 : Int32)), .val (.int (1 : Int32)), .val (.int (p0 >>> ((1 : Int32) &&& 31))), .val (.int (1 : Int32)), .val (.double (own_f ((2 : Int32) * ((p2 &&& (65535 : Int32)) + (1 : Int32))) (FP.i2d ((p2 &&& (65535 : Int32)) + (1 : Int32))))), .second, .unset, .unset, .unset, .unset] [(.int (-1 : Int32))])) t
        refine XS.ifNo X11.here hx rfl (hb hby at_206) rfl (by decide) ?_
        show Steps p.tables e below (T11.setTop (mkF m 209 #[.val (.int p0), .val (.int p1), .val (.int p2), .val (.int ((p2 &&& (65535 : Int32)) + (1 : Int32))), .val (.double (FP.i2d ((p2 &&& (65535 : Int32)) + (1 : Int32)))), .second, .val (.double (own_f p0 (FP.i2d ((p2 &&& (65535 : Int32)) + (1 : Int32))))), .second, .val (.double (own_f p1 (FP.i2d ((p2 &&& (65535 : Int32)) + (1 : Int32))))), .second, .val (.int (1 : Int32)), .val (.int (1 : Int32)), .val (.int (1 : Int32)), .val (.int (p0 >>> ((1 : Int32) &&& 31))), .val (.int (1 : Int32)), .val (.double (own_f ((2 : Int32) * ((p2 &&& (65535 : Int32)) + (1 : Int32))) (FP.i2d ((p2 &&& (65535 : Int32)) + (1 : Int32))))), .second, .unset, .unset, .unset, .unset] [])) t
        refine XS.iconst X11.here hx rfl (hb hby at_209) ?_
        show Steps p.tables e below (T11.setTop (mkF m 210 #[.val (.int p0), .val (.int p1), .val (.int p2), .val (.int ((p2 &&& (65535 : Int32)) + (1 : Int32))), .val (.double (FP.i2d ((p2 &&& (65535 : Int32)) + (1 : Int32)))), .second, .val (.double (own_f p0 (FP.i2d ((p2 &&& (65535 : Int32)) + (1 : Int32))))), .second, .val (.double (own_f p1 (FP.i2d ((p2 &&& (65535 : Int32)) + (1 : Int32))))), .second, .val (.int (1 : Int32)), .val (.int (1 : Int32)), .val (.int (1 : Int32)), .val (.int (p0 >>> ((1 : Int32) &&& 31))), .val (.int (1 : Int32)), .val (.double (own_f ((2 : Int32) * ((p2 &&& (65535 : Int32)) + (1 : Int32))) (FP.i2d ((p2 &&& (65535 : Int32)) + (1 : Int32))))), .second, .unset, .unset, .unset, .unset] [(.int (1 : Int32))])) t
        refine XS.goto X11.here hx rfl (pc0 := 210) (pc' := 214) rfl (hb hby at_210) (by decide) (by decide) ?_
        show Steps p.tables e below (T11.setTop (mkF m 214 #[.val (.int p0), .val (.int p1), .val (.int p2), .val (.int ((p2 &&& (65535 : Int32)) + (1 : Int32))), .val (.double (FP.i2d ((p2 &&& (65535 : Int32)) + (1 : Int32)))), .second, .val (.double (own_f p0 (FP.i2d ((p2 &&& (65535 : Int32)) + (1 : Int32))))), .second, .val (.double (own_f p1 (FP.i2d ((p2 &&& (65535 : Int32)) + (1 : Int32))))), .second, .val (.int (1 : Int32)), .val (.int (1 : Int32)), .val (.int (1 : Int32)), .val (.int (p0 >>> ((1 : Int32) &&& 31))), .val (.int (1 : Int32)), .val (.double (own_f ((2 : Int32) * ((p2 &&& (65535 : Int32)) + (1 : Int32))) (FP.i2d ((p2 &&& (65535 : Int32)) + (1 : Int32))))), .second, .unset, .unset, .unset, .unset] [(.int (1 : Int32))])) t
        refine XS.istore X11.here hx rfl (hb hby at_214) rfl (l' := #[.val (.int p0), .val (.int p1), .val (.int p2), .val (.int ((p2 &&& (65535 : Int32)) + (1 : Int32))), .val (.double (FP.i2d ((p2 &&& (65535 : Int32)) + (1 : Int32)))), .second, .val (.double (own_f p0 (FP.i2d ((p2 &&& (65535 : Int32)) + (1 : Int32))))), .second, .val (.double (own_f p1 (FP.i2d ((p2 &&& (65535 : Int32)) + (1 : Int32))))), .second, .val (.int (1 : Int32)), .val (.int (1 : Int32)), .val (.int (1 : Int32)), .val (.int (p0 >>> ((1 : Int32) &&& 31))), .val (.int (1 : Int32)), .val (.double (own_f ((2 : Int32) * ((p2 &&& (65535 : Int32)) + (1 : Int32))) (FP.i2d ((p2 &&& (65535 : Int32)) + (1 : Int32))))), .second, .val (.int (1 : Int32)), .unset, .unset, .unset]) rfl ?_
        show Steps p.tables e below (T11.setTop (mkF m 216 #[.val (.int p0), .val (.int p1), .val (.int p2), .val (.int ((p2 &&& (65535 : Int32)) + (1 : Int32))), .val (.double (FP.i2d ((p2 &&& (65535 : Int32)) + (1 : Int32)))), .second, .val (.double (own_f p0 (FP.i2d ((p2 &&& (65535 : Int32)) + (1 : Int32))))), .second, .val (.double (own_f p1 (FP.i2d ((p2 &&& (65535 : Int32)) + (1 : Int32))))), .second, .val (.int (1 : Int32)), .val (.int (1 : Int32)), .val (.int (1 : Int32)), .val (.int (p0 >>> ((1 : Int32) &&& 31))), .val (.int (1 : Int32)), .val (.double (own_f ((2 : Int32) * ((p2 &&& (65535 : Int32)) + (1 : Int32))) (FP.i2d ((p2 &&& (65535 : Int32)) + (1 : Int32))))), .second, .val (.int (1 : Int32)), .unset, .unset, .unset] [])) t
        refine XS.iloadN X11.here hx rfl (hb hby at_216) rfl ?_
        show Steps p.tables e below (T11.setTop (mkF m 217 #[.val (.int p0), .val (.int p1), .val (.int p2), .val (.int ((p2 &&& (65535 : Int32)) + (1 : Int32))), .val (.double (FP.i2d ((p2 &&& (65535 : Int32)) + (1 : Int32)))), .second, .val (.double (own_f p0 (FP.i2d ((p2 &&& (65535 : Int32)) + (1 : Int32))))), .second, .val (.double (own_f p1 (FP.i2d ((p2 &&& (65535 : Int32)) + (1 : Int32))))), .second, .val (.int (1 : Int32)), .val (.int (1 : Int32)), .val (.int (1 : Int32)), .val (.int (p0 >>> ((1 : Int32) &&& 31))), .val (.int (1 : Int32)), .val (.double (own_f ((2 : Int32) * ((p2 &&& (65535 : Int32)) + (1 : Int32))) (FP.i2d ((p2 &&& (65535 : Int32)) + (1 : Int32))))), .second, .val (.int (1 : Int32)), .unset, .unset, .unset] [(.int ((p2 &&& (65535 : Int32)) + (1 : Int32)))])) t
        refine X11.ldc2DoubleC hx hown (mvT hZ (hw _ (List.mem_of_getElem? (i := 10) rfl))) (g := (mkF m 217 #[.val (.int p0), .val (.int p1), .val (.int p2), .val (.int ((p2 &&& (65535 : Int32)) + (1 : Int32))), .val (.double (FP.i2d ((p2 &&& (65535 : Int32)) + (1 : Int32)))), .second, .val (.double (own_f p0 (FP.i2d ((p2 &&& (65535 : Int32)) + (1 : Int32))))), .second, .val (.double (own_f p1 (FP.i2d ((p2 &&& (65535 : Int32)) + (1 : Int32))))), .second, .val (.int (1 : Int32)), .val (.int (1 : Int32)), .val (.int (1 : Int32)), .val (.int (p0 >>> ((1 : Int32) &&& 31))), .val (.int (1 : Int32)), .val (.double (own_f ((2 : Int32) * ((p2 &&& (65535 : Int32)) + (1 : Int32))) (FP.i2d ((p2 &&& (65535 : Int32)) + (1 : Int32))))), .second, .val (.int (1 : Int32)), .unset, .unset, .unset] [(.int ((p2 &&& (65535 : Int32)) + (1 : Int32)))])) rfl (hb hby at_217) _ ?_
        show Steps p.tables e below (T11.setTop (mkF m 220 #[.val (.int p0), .val (.int p1), .val (.int p2), .val (.int ((p2 &&& (65535 : Int32)) + (1 : Int32))), .val (.double (FP.i2d ((p2 &&& (65535 : Int32)) + (1 : Int32)))), .second, .val (.double (own_f p0 (FP.i2d ((p2 &&& (65535 : Int32)) + (1 : Int32))))), .second, .val (.double (own_f p1 (FP.i2d ((p2 &&& (65535 : Int32)) + (1 : Int32))))), .second, .val (.int (1 : Int32)), .val (.int (1 : Int32)), .val (.int (1 : Int32)), .val (.int (p0 >>> ((1 : Int32) &&& 31))), .val (.int (1 : Int32)), .val (.double (own_f ((2 : Int32) * ((p2 &&& (65535 : Int32)) + (1 : Int32))) (FP.i2d ((p2 &&& (65535 : Int32)) + (1 : Int32))))), .second, .val (.int (1 : Int32)), .unset, .unset, .unset] [(.double (4611686018427387904 : UInt64)), (.int ((p2 &&& (65535 : Int32)) + (1 : Int32)))])) t
        refine XS.dload X11.here hx rfl (hb hby at_220) rfl ?_
        show Steps p.tables e below (T11.setTop (mkF m 222 #[.val (.int p0), .val (.int p1), .val (.int p2), .val (.int ((p2 &&& (65535 : Int32)) + (1 : Int32))), .val (.double (FP.i2d ((p2 &&& (65535 : Int32)) + (1 : Int32)))), .second, .val (.double (own_f p0 (FP.i2d ((p2 &&& (65535 : Int32)) + (1 : Int32))))), .second, .val (.double (own_f p1 (FP.i2d ((p2 &&& (65535 : Int32)) + (1 : Int32))))), .second, .val (.int (1 : Int32)), .val (.int (1 : Int32)), .val (.int (1 : Int32)), .val (.int (p0 >>> ((1 : Int32) &&& 31))), .val (.int (1 : Int32)), .val (.double (own_f ((2 : Int32) * ((p2 &&& (65535 : Int32)) + (1 : Int32))) (FP.i2d ((p2 &&& (65535 : Int32)) + (1 : Int32))))), .second, .val (.int (1 : Int32)), .unset, .unset, .unset] [(.double (FP.i2d ((p2 &&& (65535 : Int32)) + (1 : Int32)))), (.double (4611686018427387904 : UInt64)), (.int ((p2 &&& (65535 : Int32)) + (1 : Int32)))])) t
        refine XS.dmulS X11.here hx rfl (hb hby at_222) rfl ((Jvm.Free.Fl.Mag64.fin (Jvm.Free.Fl.dmul_mag (show Jvm.Free.Fl.Mag64 1025 (4611686018427387904 : UInt64) by unfold Jvm.Free.Fl.Mag64; decide) (Jvm.Free.Fl.i2d_mag ((p2 &&& (65535 : Int32)) + (1 : Int32))) (by decide) (by decide)) (by decide)).noNaN) rfl ?_
        exact k
      obtain ⟨_, _, ⟨T13, L13, k13, n13⟩, -, X13, ⟨Lc13, hQ13, l13, y13, z13⟩, st13⟩ := Jvm.LawKit.callS X11 hx (y := (⟨"com/example/parkville/parkville/scoring/OkapiWeighting", "lengthNorm", "(ID)D"⟩ : MethodName)) hown (mvT hZ (hw _ (List.mem_of_getElem? (i := 1) rfl))) (mvT hZ (hw _ (List.mem_of_getElem? (i := 2) rfl))) (mvT hZ (hw _ (List.mem_of_getElem? (i := 3) rfl))) (mvT hZ (hw _ (List.mem_of_getElem? (i := 4) rfl))) (by decide) (backOf (W := 0) (rm1 l Z ar hw [] (((p2 &&& (65535 : Int32)) + (1 : Int32))) ((FP.dmul (4611686018427387904 : UInt64) (FP.i2d ((p2 &&& (65535 : Int32)) + (1 : Int32))))) h0 n0 Z0 (own_ok2 _ p2)) hZ (hw _ (List.mem_of_getElem? (i := 4) rfl)) (hw _ (List.mem_of_getElem? (i := 3) rfl)) (by decide) (by decide)) (g := (mkF m 223 #[.val (.int p0), .val (.int p1), .val (.int p2), .val (.int ((p2 &&& (65535 : Int32)) + (1 : Int32))), .val (.double (FP.i2d ((p2 &&& (65535 : Int32)) + (1 : Int32)))), .second, .val (.double (own_f p0 (FP.i2d ((p2 &&& (65535 : Int32)) + (1 : Int32))))), .second, .val (.double (own_f p1 (FP.i2d ((p2 &&& (65535 : Int32)) + (1 : Int32))))), .second, .val (.int (1 : Int32)), .val (.int (1 : Int32)), .val (.int (1 : Int32)), .val (.int (p0 >>> ((1 : Int32) &&& 31))), .val (.int (1 : Int32)), .val (.double (own_f ((2 : Int32) * ((p2 &&& (65535 : Int32)) + (1 : Int32))) (FP.i2d ((p2 &&& (65535 : Int32)) + (1 : Int32))))), .second, .val (.int (1 : Int32)), .unset, .unset, .unset] [(.double (FP.dmul (4611686018427387904 : UInt64) (FP.i2d ((p2 &&& (65535 : Int32)) + (1 : Int32))))), (.int ((p2 &&& (65535 : Int32)) + (1 : Int32)))])) rfl (by rw [hml]; rfl) (argsL := [(.int ((p2 &&& (65535 : Int32)) + (1 : Int32))), (.double (FP.dmul (4611686018427387904 : UInt64) (FP.i2d ((p2 &&& (65535 : Int32)) + (1 : Int32)))))]) (rest := []) (lenOf pd0_0 rfl) rfl (by show 2 * 0 + _ ≤ _; exact Nat.le_of_eq rfl) (hb hby at_223) (fun _ _ => ⟨rfl, e11, (by decide : 0 + 0 ≤ _), (by decide : 0 + 0 ≤ _)⟩)
      dsimp only [Pt.U, Pt.locs, Pt.cells, Pt.slots] at X13 l13 y13 z13 st13 hQ13
      subst l13 y13 z13
      obtain ⟨rfl, N13q, e13⟩ := hQ13
      have n14 := Fr.app n12 N13q
      refine own_st (T' := T13) (g' := (mkF m 226 #[.val (.int p0), .val (.int p1), .val (.int p2), .val (.int ((p2 &&& (65535 : Int32)) + (1 : Int32))), .val (.double (FP.i2d ((p2 &&& (65535 : Int32)) + (1 : Int32)))), .second, .val (.double (own_f p0 (FP.i2d ((p2 &&& (65535 : Int32)) + (1 : Int32))))), .second, .val (.double (own_f p1 (FP.i2d ((p2 &&& (65535 : Int32)) + (1 : Int32))))), .second, .val (.int (1 : Int32)), .val (.int (1 : Int32)), .val (.int (1 : Int32)), .val (.int (p0 >>> ((1 : Int32) &&& 31))), .val (.int (1 : Int32)), .val (.double (own_f ((2 : Int32) * ((p2 &&& (65535 : Int32)) + (1 : Int32))) (FP.i2d ((p2 &&& (65535 : Int32)) + (1 : Int32))))), .second, .val (.int (1 : Int32)), .unset, .unset, .unset] [(.double (own_f ((p2 &&& (65535 : Int32)) + (1 : Int32)) (FP.dmul (4611686018427387904 : UInt64) (FP.i2d ((p2 &&& (65535 : Int32)) + (1 : Int32))))))])) st13 ?_
      refine own_st (T' := T13) (g' := (mkF m 288 #[.val (.int p0), .val (.int p1), .val (.int p2), .val (.int ((p2 &&& (65535 : Int32)) + (1 : Int32))), .val (.double (FP.i2d ((p2 &&& (65535 : Int32)) + (1 : Int32)))), .second, .val (.double (own_f p0 (FP.i2d ((p2 &&& (65535 : Int32)) + (1 : Int32))))), .second, .val (.double (own_f p1 (FP.i2d ((p2 &&& (65535 : Int32)) + (1 : Int32))))), .second, .val (.int (1 : Int32)), .val (.int (1 : Int32)), .val (.int (1 : Int32)), .val (.int (p0 >>> ((1 : Int32) &&& 31))), .val (.int (1 : Int32)), .val (.double (own_f ((2 : Int32) * ((p2 &&& (65535 : Int32)) + (1 : Int32))) (FP.i2d ((p2 &&& (65535 : Int32)) + (1 : Int32))))), .second, .val (.int (1 : Int32)), .val (.double (own_f ((p2 &&& (65535 : Int32)) + (1 : Int32)) (FP.dmul (4611686018427387904 : UInt64) (FP.i2d ((p2 &&& (65535 : Int32)) + (1 : Int32)))))), .second, .val (.int (1 : Int32))] [(.int (1 : Int32))])) (fun t k => ?_) ?_
      · show Steps p.tables e below (T13.setTop (mkF m 226 #[.val (.int p0), .val (.int p1), .val (.int p2), .val (.int ((p2 &&& (65535 : Int32)) + (1 : Int32))), .val (.double (FP.i2d ((p2 &&& (65535 : Int32)) + (1 : Int32)))), .second, .val (.double (own_f p0 (FP.i2d ((p2 &&& (65535 : Int32)) + (1 : Int32))))), .second, .val (.double (own_f p1 (FP.i2d ((p2 &&& (65535 : Int32)) + (1 : Int32))))), .second, .val (.int (1 : Int32)), .val (.int (1 : Int32)), .val (.int (1 : Int32)), .val (.int (p0 >>> ((1 : Int32) &&& 31))), .val (.int (1 : Int32)), .val (.double (own_f ((2 : Int32) * ((p2 &&& (65535 : Int32)) + (1 : Int32))) (FP.i2d ((p2 &&& (65535 : Int32)) + (1 : Int32))))), .second, .val (.int (1 : Int32)), .unset, .unset, .unset] [(.double (own_f ((p2 &&& (65535 : Int32)) + (1 : Int32)) (FP.dmul (4611686018427387904 : UInt64) (FP.i2d ((p2 &&& (65535 : Int32)) + (1 : Int32))))))])) t
        refine XS.dstore X13.here hx rfl (hb hby at_226) rfl (l' := #[.val (.int p0), .val (.int p1), .val (.int p2), .val (.int ((p2 &&& (65535 : Int32)) + (1 : Int32))), .val (.double (FP.i2d ((p2 &&& (65535 : Int32)) + (1 : Int32)))), .second, .val (.double (own_f p0 (FP.i2d ((p2 &&& (65535 : Int32)) + (1 : Int32))))), .second, .val (.double (own_f p1 (FP.i2d ((p2 &&& (65535 : Int32)) + (1 : Int32))))), .second, .val (.int (1 : Int32)), .val (.int (1 : Int32)), .val (.int (1 : Int32)), .val (.int (p0 >>> ((1 : Int32) &&& 31))), .val (.int (1 : Int32)), .val (.double (own_f ((2 : Int32) * ((p2 &&& (65535 : Int32)) + (1 : Int32))) (FP.i2d ((p2 &&& (65535 : Int32)) + (1 : Int32))))), .second, .val (.int (1 : Int32)), .val (.double (own_f ((p2 &&& (65535 : Int32)) + (1 : Int32)) (FP.dmul (4611686018427387904 : UInt64) (FP.i2d ((p2 &&& (65535 : Int32)) + (1 : Int32)))))), .second, .unset]) rfl ?_
        show Steps p.tables e below (T13.setTop (mkF m 228 #[.val (.int p0), .val (.int p1), .val (.int p2), .val (.int ((p2 &&& (65535 : Int32)) + (1 : Int32))), .val (.double (FP.i2d ((p2 &&& (65535 : Int32)) + (1 : Int32)))), .second, .val (.double (own_f p0 (FP.i2d ((p2 &&& (65535 : Int32)) + (1 : Int32))))), .second, .val (.double (own_f p1 (FP.i2d ((p2 &&& (65535 : Int32)) + (1 : Int32))))), .second, .val (.int (1 : Int32)), .val (.int (1 : Int32)), .val (.int (1 : Int32)), .val (.int (p0 >>> ((1 : Int32) &&& 31))), .val (.int (1 : Int32)), .val (.double (own_f ((2 : Int32) * ((p2 &&& (65535 : Int32)) + (1 : Int32))) (FP.i2d ((p2 &&& (65535 : Int32)) + (1 : Int32))))), .second, .val (.int (1 : Int32)), .val (.double (own_f ((p2 &&& (65535 : Int32)) + (1 : Int32)) (FP.dmul (4611686018427387904 : UInt64) (FP.i2d ((p2 &&& (65535 : Int32)) + (1 : Int32)))))), .second, .unset] [])) t
        refine X13.ldc2DoubleC hx hown (mvT hZ (hw _ (List.mem_of_getElem? (i := 13) rfl))) (g := (mkF m 228 #[.val (.int p0), .val (.int p1), .val (.int p2), .val (.int ((p2 &&& (65535 : Int32)) + (1 : Int32))), .val (.double (FP.i2d ((p2 &&& (65535 : Int32)) + (1 : Int32)))), .second, .val (.double (own_f p0 (FP.i2d ((p2 &&& (65535 : Int32)) + (1 : Int32))))), .second, .val (.double (own_f p1 (FP.i2d ((p2 &&& (65535 : Int32)) + (1 : Int32))))), .second, .val (.int (1 : Int32)), .val (.int (1 : Int32)), .val (.int (1 : Int32)), .val (.int (p0 >>> ((1 : Int32) &&& 31))), .val (.int (1 : Int32)), .val (.double (own_f ((2 : Int32) * ((p2 &&& (65535 : Int32)) + (1 : Int32))) (FP.i2d ((p2 &&& (65535 : Int32)) + (1 : Int32))))), .second, .val (.int (1 : Int32)), .val (.double (own_f ((p2 &&& (65535 : Int32)) + (1 : Int32)) (FP.dmul (4611686018427387904 : UInt64) (FP.i2d ((p2 &&& (65535 : Int32)) + (1 : Int32)))))), .second, .unset] [])) rfl (hb hby at_228) _ ?_
        show Steps p.tables e below (T13.setTop (mkF m 231 #[.val (.int p0), .val (.int p1), .val (.int p2), .val (.int ((p2 &&& (65535 : Int32)) + (1 : Int32))), .val (.double (FP.i2d ((p2 &&& (65535 : Int32)) + (1 : Int32)))), .second, .val (.double (own_f p0 (FP.i2d ((p2 &&& (65535 : Int32)) + (1 : Int32))))), .second, .val (.double (own_f p1 (FP.i2d ((p2 &&& (65535 : Int32)) + (1 : Int32))))), .second, .val (.int (1 : Int32)), .val (.int (1 : Int32)), .val (.int (1 : Int32)), .val (.int (p0 >>> ((1 : Int32) &&& 31))), .val (.int (1 : Int32)), .val (.double (own_f ((2 : Int32) * ((p2 &&& (65535 : Int32)) + (1 : Int32))) (FP.i2d ((p2 &&& (65535 : Int32)) + (1 : Int32))))), .second, .val (.int (1 : Int32)), .val (.double (own_f ((p2 &&& (65535 : Int32)) + (1 : Int32)) (FP.dmul (4611686018427387904 : UInt64) (FP.i2d ((p2 &&& (65535 : Int32)) + (1 : Int32)))))), .second, .unset] [(.double (4604840546993784750 : UInt64))])) t
        refine XS.dload X13.here hx rfl (hb hby at_231) rfl ?_
        show Steps p.tables e below (T13.setTop (mkF m 233 #[.val (.int p0), .val (.int p1), .val (.int p2), .val (.int ((p2 &&& (65535 : Int32)) + (1 : Int32))), .val (.double (FP.i2d ((p2 &&& (65535 : Int32)) + (1 : Int32)))), .second, .val (.double (own_f p0 (FP.i2d ((p2 &&& (65535 : Int32)) + (1 : Int32))))), .second, .val (.double (own_f p1 (FP.i2d ((p2 &&& (65535 : Int32)) + (1 : Int32))))), .second, .val (.int (1 : Int32)), .val (.int (1 : Int32)), .val (.int (1 : Int32)), .val (.int (p0 >>> ((1 : Int32) &&& 31))), .val (.int (1 : Int32)), .val (.double (own_f ((2 : Int32) * ((p2 &&& (65535 : Int32)) + (1 : Int32))) (FP.i2d ((p2 &&& (65535 : Int32)) + (1 : Int32))))), .second, .val (.int (1 : Int32)), .val (.double (own_f ((p2 &&& (65535 : Int32)) + (1 : Int32)) (FP.dmul (4611686018427387904 : UInt64) (FP.i2d ((p2 &&& (65535 : Int32)) + (1 : Int32)))))), .second, .unset] [(.double (own_f ((p2 &&& (65535 : Int32)) + (1 : Int32)) (FP.dmul (4611686018427387904 : UInt64) (FP.i2d ((p2 &&& (65535 : Int32)) + (1 : Int32)))))), (.double (4604840546993784750 : UInt64))])) t
        refine XS.dcmpS X13.here hx rfl (hb hby at_233) rfl (own_clt (by decide +kernel) (own_hfn p2) (Int.lt_of_lt_of_le (b := own_zv (own_g 4602678819172646912)) (by decide +kernel) (Int.le_of_eq (own_hf p2).symm)) .g) ?_
        show Steps p.tables e below (T13.setTop (mkF m 234 #[.val (.int p0), .val (.int p1), .val (.int p2), .val (.int ((p2 &&& (65535 : Int32)) + (1 : Int32))), .val (.double (FP.i2d ((p2 &&& (65535 : Int32)) + (1 : Int32)))), .second, .val (.double (own_f p0 (FP.i2d ((p2 &&& (65535 : Int32)) + (1 : Int32))))), .second, .val (.double (own_f p1 (FP.i2d ((p2 &&& (65535 : Int32)) + (1 : Int32))))), .second, .val (.int (1 : Int32)), .val (.int (1 : Int32)), .val (.int (1 : Int32)), .val (.int (p0 >>> ((1 : Int32) &&& 31))), .val (.int (1 : Int32)), .val (.double (own_f ((2 : Int32) * ((p2 &&& (65535 : Int32)) + (1 : Int32))) (FP.i2d ((p2 &&& (65535 : Int32)) + (1 : Int32))))), .second, .val (.int (1 : Int32)), .val (.double (own_f ((p2 &&& (65535 : Int32)) + (1 : Int32)) (FP.dmul (4611686018427387904 : UInt64) (FP.i2d ((p2 &&& (65535 : Int32)) + (1 : Int32)))))), .second, .unset] [(.int (-1 : Int32))])) t
        refine XS.ifNo X13.here hx rfl (hb hby at_234) rfl (by decide) ?_
        show Steps p.tables e below (T13.setTop (mkF m 237 #[.val (.int p0), .val (.int p1), .val (.int p2), .val (.int ((p2 &&& (65535 : Int32)) + (1 : Int32))), .val (.double (FP.i2d ((p2 &&& (65535 : Int32)) + (1 : Int32)))), .second, .val (.double (own_f p0 (FP.i2d ((p2 &&& (65535 : Int32)) + (1 : Int32))))), .second, .val (.double (own_f p1 (FP.i2d ((p2 &&& (65535 : Int32)) + (1 : Int32))))), .second, .val (.int (1 : Int32)), .val (.int (1 : Int32)), .val (.int (1 : Int32)), .val (.int (p0 >>> ((1 : Int32) &&& 31))), .val (.int (1 : Int32)), .val (.double (own_f ((2 : Int32) * ((p2 &&& (65535 : Int32)) + (1 : Int32))) (FP.i2d ((p2 &&& (65535 : Int32)) + (1 : Int32))))), .second, .val (.int (1 : Int32)), .val (.double (own_f ((p2 &&& (65535 : Int32)) + (1 : Int32)) (FP.dmul (4611686018427387904 : UInt64) (FP.i2d ((p2 &&& (65535 : Int32)) + (1 : Int32)))))), .second, .unset] [])) t
        refine XS.dload X13.here hx rfl (hb hby at_237) rfl ?_
        show Steps p.tables e below (T13.setTop (mkF m 239 #[.val (.int p0), .val (.int p1), .val (.int p2), .val (.int ((p2 &&& (65535 : Int32)) + (1 : Int32))), .val (.double (FP.i2d ((p2 &&& (65535 : Int32)) + (1 : Int32)))), .second, .val (.double (own_f p0 (FP.i2d ((p2 &&& (65535 : Int32)) + (1 : Int32))))), .second, .val (.double (own_f p1 (FP.i2d ((p2 &&& (65535 : Int32)) + (1 : Int32))))), .second, .val (.int (1 : Int32)), .val (.int (1 : Int32)), .val (.int (1 : Int32)), .val (.int (p0 >>> ((1 : Int32) &&& 31))), .val (.int (1 : Int32)), .val (.double (own_f ((2 : Int32) * ((p2 &&& (65535 : Int32)) + (1 : Int32))) (FP.i2d ((p2 &&& (65535 : Int32)) + (1 : Int32))))), .second, .val (.int (1 : Int32)), .val (.double (own_f ((p2 &&& (65535 : Int32)) + (1 : Int32)) (FP.dmul (4611686018427387904 : UInt64) (FP.i2d ((p2 &&& (65535 : Int32)) + (1 : Int32)))))), .second, .unset] [(.double (own_f ((p2 &&& (65535 : Int32)) + (1 : Int32)) (FP.dmul (4611686018427387904 : UInt64) (FP.i2d ((p2 &&& (65535 : Int32)) + (1 : Int32))))))])) t
        refine X13.ldc2DoubleC hx hown (mvT hZ (hw _ (List.mem_of_getElem? (i := 14) rfl))) (g := (mkF m 239 #[.val (.int p0), .val (.int p1), .val (.int p2), .val (.int ((p2 &&& (65535 : Int32)) + (1 : Int32))), .val (.double (FP.i2d ((p2 &&& (65535 : Int32)) + (1 : Int32)))), .second, .val (.double (own_f p0 (FP.i2d ((p2 &&& (65535 : Int32)) + (1 : Int32))))), .second, .val (.double (own_f p1 (FP.i2d ((p2 &&& (65535 : Int32)) + (1 : Int32))))), .second, .val (.int (1 : Int32)), .val (.int (1 : Int32)), .val (.int (1 : Int32)), .val (.int (p0 >>> ((1 : Int32) &&& 31))), .val (.int (1 : Int32)), .val (.double (own_f ((2 : Int32) * ((p2 &&& (65535 : Int32)) + (1 : Int32))) (FP.i2d ((p2 &&& (65535 : Int32)) + (1 : Int32))))), .second, .val (.int (1 : Int32)), .val (.double (own_f ((p2 &&& (65535 : Int32)) + (1 : Int32)) (FP.dmul (4611686018427387904 : UInt64) (FP.i2d ((p2 &&& (65535 : Int32)) + (1 : Int32)))))), .second, .unset] [(.double (own_f ((p2 &&& (65535 : Int32)) + (1 : Int32)) (FP.dmul (4611686018427387904 : UInt64) (FP.i2d ((p2 &&& (65535 : Int32)) + (1 : Int32))))))])) rfl (hb hby at_239) _ ?_
        show Steps p.tables e below (T13.setTop (mkF m 242 #[.val (.int p0), .val (.int p1), .val (.int p2), .val (.int ((p2 &&& (65535 : Int32)) + (1 : Int32))), .val (.double (FP.i2d ((p2 &&& (65535 : Int32)) + (1 : Int32)))), .second, .val (.double (own_f p0 (FP.i2d ((p2 &&& (65535 : Int32)) + (1 : Int32))))), .second, .val (.double (own_f p1 (FP.i2d ((p2 &&& (65535 : Int32)) + (1 : Int32))))), .second, .val (.int (1 : Int32)), .val (.int (1 : Int32)), .val (.int (1 : Int32)), .val (.int (p0 >>> ((1 : Int32) &&& 31))), .val (.int (1 : Int32)), .val (.double (own_f ((2 : Int32) * ((p2 &&& (65535 : Int32)) + (1 : Int32))) (FP.i2d ((p2 &&& (65535 : Int32)) + (1 : Int32))))), .second, .val (.int (1 : Int32)), .val (.double (own_f ((p2 &&& (65535 : Int32)) + (1 : Int32)) (FP.dmul (4611686018427387904 : UInt64) (FP.i2d ((p2 &&& (65535 : Int32)) + (1 : Int32)))))), .second, .unset] [(.double (4605020690978879570 : UInt64)), (.double (own_f ((p2 &&& (65535 : Int32)) + (1 : Int32)) (FP.dmul (4611686018427387904 : UInt64) (FP.i2d ((p2 &&& (65535 : Int32)) + (1 : Int32))))))])) t
        refine XS.dcmpS X13.here hx rfl (hb hby at_242) rfl (own_clt (own_hfn p2) (by decide +kernel) (Int.lt_of_le_of_lt (b := own_zv (own_g 4602678819172646912)) (Int.le_of_eq (own_hf p2)) (by decide +kernel)) .g) ?_
        show Steps p.tables e below (T13.setTop (mkF m 243 #[.val (.int p0), .val (.int p1), .val (.int p2), .val (.int ((p2 &&& (65535 : Int32)) + (1 : Int32))), .val (.double (FP.i2d ((p2 &&& (65535 : Int32)) + (1 : Int32)))), .second, .val (.double (own_f p0 (FP.i2d ((p2 &&& (65535 : Int32)) + (1 : Int32))))), .second, .val (.double (own_f p1 (FP.i2d ((p2 &&& (65535 : Int32)) + (1 : Int32))))), .second, .val (.int (1 : Int32)), .val (.int (1 : Int32)), .val (.int (1 : Int32)), .val (.int (p0 >>> ((1 : Int32) &&& 31))), .val (.int (1 : Int32)), .val (.double (own_f ((2 : Int32) * ((p2 &&& (65535 : Int32)) + (1 : Int32))) (FP.i2d ((p2 &&& (65535 : Int32)) + (1 : Int32))))), .second, .val (.int (1 : Int32)), .val (.double (own_f ((p2 &&& (65535 : Int32)) + (1 : Int32)) (FP.dmul (4611686018427387904 : UInt64) (FP.i2d ((p2 &&& (65535 : Int32)) + (1 : Int32)))))), .second, .unset] [(.int (-1 : Int32))])) t
        refine XS.ifNo X13.here hx rfl (hb hby at_243) rfl (by decide) ?_
        show Steps p.tables e below (T13.setTop (mkF m 246 #[.val (.int p0), .val (.int p1), .val (.int p2), .val (.int ((p2 &&& (65535 : Int32)) + (1 : Int32))), .val (.double (FP.i2d ((p2 &&& (65535 : Int32)) + (1 : Int32)))), .second, .val (.double (own_f p0 (FP.i2d ((p2 &&& (65535 : Int32)) + (1 : Int32))))), .second, .val (.double (own_f p1 (FP.i2d ((p2 &&& (65535 : Int32)) + (1 : Int32))))), .second, .val (.int (1 : Int32)), .val (.int (1 : Int32)), .val (.int (1 : Int32)), .val (.int (p0 >>> ((1 : Int32) &&& 31))), .val (.int (1 : Int32)), .val (.double (own_f ((2 : Int32) * ((p2 &&& (65535 : Int32)) + (1 : Int32))) (FP.i2d ((p2 &&& (65535 : Int32)) + (1 : Int32))))), .second, .val (.int (1 : Int32)), .val (.double (own_f ((p2 &&& (65535 : Int32)) + (1 : Int32)) (FP.dmul (4611686018427387904 : UInt64) (FP.i2d ((p2 &&& (65535 : Int32)) + (1 : Int32)))))), .second, .unset] [])) t
        refine XS.iconst X13.here hx rfl (hb hby at_246) ?_
        show Steps p.tables e below (T13.setTop (mkF m 247 #[.val (.int p0), .val (.int p1), .val (.int p2), .val (.int ((p2 &&& (65535 : Int32)) + (1 : Int32))), .val (.double (FP.i2d ((p2 &&& (65535 : Int32)) + (1 : Int32)))), .second, .val (.double (own_f p0 (FP.i2d ((p2 &&& (65535 : Int32)) + (1 : Int32))))), .second, .val (.double (own_f p1 (FP.i2d ((p2 &&& (65535 : Int32)) + (1 : Int32))))), .second, .val (.int (1 : Int32)), .val (.int (1 : Int32)), .val (.int (1 : Int32)), .val (.int (p0 >>> ((1 : Int32) &&& 31))), .val (.int (1 : Int32)), .val (.double (own_f ((2 : Int32) * ((p2 &&& (65535 : Int32)) + (1 : Int32))) (FP.i2d ((p2 &&& (65535 : Int32)) + (1 : Int32))))), .second, .val (.int (1 : Int32)), .val (.double (own_f ((p2 &&& (65535 : Int32)) + (1 : Int32)) (FP.dmul (4611686018427387904 : UInt64) (FP.i2d ((p2 &&& (65535 : Int32)) + (1 : Int32)))))), .second, .unset] [(.int (1 : Int32))])) t
        refine XS.goto X13.here hx rfl (pc0 := 247) (pc' := 251) rfl (hb hby at_247) (by decide) (by decide) ?_
        show Steps p.tables e below (T13.setTop (mkF m 251 #[.val (.int p0), .val (.int p1), .val (.int p2), .val (.int ((p2 &&& (65535 : Int32)) + (1 : Int32))), .val (.double (FP.i2d ((p2 &&& (65535 : Int32)) + (1 : Int32)))), .second, .val (.double (own_f p0 (FP.i2d ((p2 &&& (65535 : Int32)) + (1 : Int32))))), .second, .val (.double (own_f p1 (FP.i2d ((p2 &&& (65535 : Int32)) + (1 : Int32))))), .second, .val (.int (1 : Int32)), .val (.int (1 : Int32)), .val (.int (1 : Int32)), .val (.int (p0 >>> ((1 : Int32) &&& 31))), .val (.int (1 : Int32)), .val (.double (own_f ((2 : Int32) * ((p2 &&& (65535 : Int32)) + (1 : Int32))) (FP.i2d ((p2 &&& (65535 : Int32)) + (1 : Int32))))), .second, .val (.int (1 : Int32)), .val (.double (own_f ((p2 &&& (65535 : Int32)) + (1 : Int32)) (FP.dmul (4611686018427387904 : UInt64) (FP.i2d ((p2 &&& (65535 : Int32)) + (1 : Int32)))))), .second, .unset] [(.int (1 : Int32))])) t
        refine XS.istore X13.here hx rfl (hb hby at_251) rfl (l' := #[.val (.int p0), .val (.int p1), .val (.int p2), .val (.int ((p2 &&& (65535 : Int32)) + (1 : Int32))), .val (.double (FP.i2d ((p2 &&& (65535 : Int32)) + (1 : Int32)))), .second, .val (.double (own_f p0 (FP.i2d ((p2 &&& (65535 : Int32)) + (1 : Int32))))), .second, .val (.double (own_f p1 (FP.i2d ((p2 &&& (65535 : Int32)) + (1 : Int32))))), .second, .val (.int (1 : Int32)), .val (.int (1 : Int32)), .val (.int (1 : Int32)), .val (.int (p0 >>> ((1 : Int32) &&& 31))), .val (.int (1 : Int32)), .val (.double (own_f ((2 : Int32) * ((p2 &&& (65535 : Int32)) + (1 : Int32))) (FP.i2d ((p2 &&& (65535 : Int32)) + (1 : Int32))))), .second, .val (.int (1 : Int32)), .val (.double (own_f ((p2 &&& (65535 : Int32)) + (1 : Int32)) (FP.dmul (4611686018427387904 : UInt64) (FP.i2d ((p2 &&& (65535 : Int32)) + (1 : Int32)))))), .second, .val (.int (1 : Int32))]) rfl ?_
        show Steps p.tables e below (T13.setTop (mkF m 253 #[.val (.int p0), .val (.int p1), .val (.int p2), .val (.int ((p2 &&& (65535 : Int32)) + (1 : Int32))), .val (.double (FP.i2d ((p2 &&& (65535 : Int32)) + (1 : Int32)))), .second, .val (.double (own_f p0 (FP.i2d ((p2 &&& (65535 : Int32)) + (1 : Int32))))), .second, .val (.double (own_f p1 (FP.i2d ((p2 &&& (65535 : Int32)) + (1 : Int32))))), .second, .val (.int (1 : Int32)), .val (.int (1 : Int32)), .val (.int (1 : Int32)), .val (.int (p0 >>> ((1 : Int32) &&& 31))), .val (.int (1 : Int32)), .val (.double (own_f ((2 : Int32) * ((p2 &&& (65535 : Int32)) + (1 : Int32))) (FP.i2d ((p2 &&& (65535 : Int32)) + (1 : Int32))))), .second, .val (.int (1 : Int32)), .val (.double (own_f ((p2 &&& (65535 : Int32)) + (1 : Int32)) (FP.dmul (4611686018427387904 : UInt64) (FP.i2d ((p2 &&& (65535 : Int32)) + (1 : Int32)))))), .second, .val (.int (1 : Int32))] [])) t
        refine XS.iload X13.here hx rfl (hb hby at_253) rfl ?_
        show Steps p.tables e below (T13.setTop (mkF m 255 #[.val (.int p0), .val (.int p1), .val (.int p2), .val (.int ((p2 &&& (65535 : Int32)) + (1 : Int32))), .val (.double (FP.i2d ((p2 &&& (65535 : Int32)) + (1 : Int32)))), .second, .val (.double (own_f p0 (FP.i2d ((p2 &&& (65535 : Int32)) + (1 : Int32))))), .second, .val (.double (own_f p1 (FP.i2d ((p2 &&& (65535 : Int32)) + (1 : Int32))))), .second, .val (.int (1 : Int32)), .val (.int (1 : Int32)), .val (.int (1 : Int32)), .val (.int (p0 >>> ((1 : Int32) &&& 31))), .val (.int (1 : Int32)), .val (.double (own_f ((2 : Int32) * ((p2 &&& (65535 : Int32)) + (1 : Int32))) (FP.i2d ((p2 &&& (65535 : Int32)) + (1 : Int32))))), .second, .val (.int (1 : Int32)), .val (.double (own_f ((p2 &&& (65535 : Int32)) + (1 : Int32)) (FP.dmul (4611686018427387904 : UInt64) (FP.i2d ((p2 &&& (65535 : Int32)) + (1 : Int32)))))), .second, .val (.int (1 : Int32))] [(.int (1 : Int32))])) t
        refine XS.ifNo X13.here hx rfl (hb hby at_255) rfl (by decide) ?_
        show Steps p.tables e below (T13.setTop (mkF m 258 #[.val (.int p0), .val (.int p1), .val (.int p2), .val (.int ((p2 &&& (65535 : Int32)) + (1 : Int32))), .val (.double (FP.i2d ((p2 &&& (65535 : Int32)) + (1 : Int32)))), .second, .val (.double (own_f p0 (FP.i2d ((p2 &&& (65535 : Int32)) + (1 : Int32))))), .second, .val (.double (own_f p1 (FP.i2d ((p2 &&& (65535 : Int32)) + (1 : Int32))))), .second, .val (.int (1 : Int32)), .val (.int (1 : Int32)), .val (.int (1 : Int32)), .val (.int (p0 >>> ((1 : Int32) &&& 31))), .val (.int (1 : Int32)), .val (.double (own_f ((2 : Int32) * ((p2 &&& (65535 : Int32)) + (1 : Int32))) (FP.i2d ((p2 &&& (65535 : Int32)) + (1 : Int32))))), .second, .val (.int (1 : Int32)), .val (.double (own_f ((p2 &&& (65535 : Int32)) + (1 : Int32)) (FP.dmul (4611686018427387904 : UInt64) (FP.i2d ((p2 &&& (65535 : Int32)) + (1 : Int32)))))), .second, .val (.int (1 : Int32))] [])) t
        refine XS.iload X13.here hx rfl (hb hby at_258) rfl ?_
        show Steps p.tables e below (T13.setTop (mkF m 260 #[.val (.int p0), .val (.int p1), .val (.int p2), .val (.int ((p2 &&& (65535 : Int32)) + (1 : Int32))), .val (.double (FP.i2d ((p2 &&& (65535 : Int32)) + (1 : Int32)))), .second, .val (.double (own_f p0 (FP.i2d ((p2 &&& (65535 : Int32)) + (1 : Int32))))), .second, .val (.double (own_f p1 (FP.i2d ((p2 &&& (65535 : Int32)) + (1 : Int32))))), .second, .val (.int (1 : Int32)), .val (.int (1 : Int32)), .val (.int (1 : Int32)), .val (.int (p0 >>> ((1 : Int32) &&& 31))), .val (.int (1 : Int32)), .val (.double (own_f ((2 : Int32) * ((p2 &&& (65535 : Int32)) + (1 : Int32))) (FP.i2d ((p2 &&& (65535 : Int32)) + (1 : Int32))))), .second, .val (.int (1 : Int32)), .val (.double (own_f ((p2 &&& (65535 : Int32)) + (1 : Int32)) (FP.dmul (4611686018427387904 : UInt64) (FP.i2d ((p2 &&& (65535 : Int32)) + (1 : Int32)))))), .second, .val (.int (1 : Int32))] [(.int (1 : Int32))])) t
        refine XS.ifNo X13.here hx rfl (hb hby at_260) rfl (by decide) ?_
        show Steps p.tables e below (T13.setTop (mkF m 263 #[.val (.int p0), .val (.int p1), .val (.int p2), .val (.int ((p2 &&& (65535 : Int32)) + (1 : Int32))), .val (.double (FP.i2d ((p2 &&& (65535 : Int32)) + (1 : Int32)))), .second, .val (.double (own_f p0 (FP.i2d ((p2 &&& (65535 : Int32)) + (1 : Int32))))), .second, .val (.double (own_f p1 (FP.i2d ((p2 &&& (65535 : Int32)) + (1 : Int32))))), .second, .val (.int (1 : Int32)), .val (.int (1 : Int32)), .val (.int (1 : Int32)), .val (.int (p0 >>> ((1 : Int32) &&& 31))), .val (.int (1 : Int32)), .val (.double (own_f ((2 : Int32) * ((p2 &&& (65535 : Int32)) + (1 : Int32))) (FP.i2d ((p2 &&& (65535 : Int32)) + (1 : Int32))))), .second, .val (.int (1 : Int32)), .val (.double (own_f ((p2 &&& (65535 : Int32)) + (1 : Int32)) (FP.dmul (4611686018427387904 : UInt64) (FP.i2d ((p2 &&& (65535 : Int32)) + (1 : Int32)))))), .second, .val (.int (1 : Int32))] [])) t
        refine XS.iload X13.here hx rfl (hb hby at_263) rfl ?_
        show Steps p.tables e below (T13.setTop (mkF m 265 #[.val (.int p0), .val (.int p1), .val (.int p2), .val (.int ((p2 &&& (65535 : Int32)) + (1 : Int32))), .val (.double (FP.i2d ((p2 &&& (65535 : Int32)) + (1 : Int32)))), .second, .val (.double (own_f p0 (FP.i2d ((p2 &&& (65535 : Int32)) + (1 : Int32))))), .second, .val (.double (own_f p1 (FP.i2d ((p2 &&& (65535 : Int32)) + (1 : Int32))))), .second, .val (.int (1 : Int32)), .val (.int (1 : Int32)), .val (.int (1 : Int32)), .val (.int (p0 >>> ((1 : Int32) &&& 31))), .val (.int (1 : Int32)), .val (.double (own_f ((2 : Int32) * ((p2 &&& (65535 : Int32)) + (1 : Int32))) (FP.i2d ((p2 &&& (65535 : Int32)) + (1 : Int32))))), .second, .val (.int (1 : Int32)), .val (.double (own_f ((p2 &&& (65535 : Int32)) + (1 : Int32)) (FP.dmul (4611686018427387904 : UInt64) (FP.i2d ((p2 &&& (65535 : Int32)) + (1 : Int32)))))), .second, .val (.int (1 : Int32))] [(.int (1 : Int32))])) t
        refine XS.ifNo X13.here hx rfl (hb hby at_265) rfl (by decide) ?_
        show Steps p.tables e below (T13.setTop (mkF m 268 #[.val (.int p0), .val (.int p1), .val (.int p2), .val (.int ((p2 &&& (65535 : Int32)) + (1 : Int32))), .val (.double (FP.i2d ((p2 &&& (65535 : Int32)) + (1 : Int32)))), .second, .val (.double (own_f p0 (FP.i2d ((p2 &&& (65535 : Int32)) + (1 : Int32))))), .second, .val (.double (own_f p1 (FP.i2d ((p2 &&& (65535 : Int32)) + (1 : Int32))))), .second, .val (.int (1 : Int32)), .val (.int (1 : Int32)), .val (.int (1 : Int32)), .val (.int (p0 >>> ((1 : Int32) &&& 31))), .val (.int (1 : Int32)), .val (.double (own_f ((2 : Int32) * ((p2 &&& (65535 : Int32)) + (1 : Int32))) (FP.i2d ((p2 &&& (65535 : Int32)) + (1 : Int32))))), .second, .val (.int (1 : Int32)), .val (.double (own_f ((p2 &&& (65535 : Int32)) + (1 : Int32)) (FP.dmul (4611686018427387904 : UInt64) (FP.i2d ((p2 &&& (65535 : Int32)) + (1 : Int32)))))), .second, .val (.int (1 : Int32))] [])) t
        refine XS.iload X13.here hx rfl (hb hby at_268) rfl ?_
        show Steps p.tables e below (T13.setTop (mkF m 270 #[.val (.int p0), .val (.int p1), .val (.int p2), .val (.int ((p2 &&& (65535 : Int32)) + (1 : Int32))), .val (.double (FP.i2d ((p2 &&& (65535 : Int32)) + (1 : Int32)))), .second, .val (.double (own_f p0 (FP.i2d ((p2 &&& (65535 : Int32)) + (1 : Int32))))), .second, .val (.double (own_f p1 (FP.i2d ((p2 &&& (65535 : Int32)) + (1 : Int32))))), .second, .val (.int (1 : Int32)), .val (.int (1 : Int32)), .val (.int (1 : Int32)), .val (.int (p0 >>> ((1 : Int32) &&& 31))), .val (.int (1 : Int32)), .val (.double (own_f ((2 : Int32) * ((p2 &&& (65535 : Int32)) + (1 : Int32))) (FP.i2d ((p2 &&& (65535 : Int32)) + (1 : Int32))))), .second, .val (.int (1 : Int32)), .val (.double (own_f ((p2 &&& (65535 : Int32)) + (1 : Int32)) (FP.dmul (4611686018427387904 : UInt64) (FP.i2d ((p2 &&& (65535 : Int32)) + (1 : Int32)))))), .second, .val (.int (1 : Int32))] [(.int (1 : Int32))])) t
        refine XS.ifNo X13.here hx rfl (hb hby at_270) rfl (by decide) ?_
        show Steps p.tables e below (T13.setTop (mkF m 273 #[.val (.int p0), .val (.int p1), .val (.int p2), .val (.int ((p2 &&& (65535 : Int32)) + (1 : Int32))), .val (.double (FP.i2d ((p2 &&& (65535 : Int32)) + (1 : Int32)))), .second, .val (.double (own_f p0 (FP.i2d ((p2 &&& (65535 : Int32)) + (1 : Int32))))), .second, .val (.double (own_f p1 (FP.i2d ((p2 &&& (65535 : Int32)) + (1 : Int32))))), .second, .val (.int (1 : Int32)), .val (.int (1 : Int32)), .val (.int (1 : Int32)), .val (.int (p0 >>> ((1 : Int32) &&& 31))), .val (.int (1 : Int32)), .val (.double (own_f ((2 : Int32) * ((p2 &&& (65535 : Int32)) + (1 : Int32))) (FP.i2d ((p2 &&& (65535 : Int32)) + (1 : Int32))))), .second, .val (.int (1 : Int32)), .val (.double (own_f ((p2 &&& (65535 : Int32)) + (1 : Int32)) (FP.dmul (4611686018427387904 : UInt64) (FP.i2d ((p2 &&& (65535 : Int32)) + (1 : Int32)))))), .second, .val (.int (1 : Int32))] [])) t
        refine XS.iload X13.here hx rfl (hb hby at_273) rfl ?_
        show Steps p.tables e below (T13.setTop (mkF m 275 #[.val (.int p0), .val (.int p1), .val (.int p2), .val (.int ((p2 &&& (65535 : Int32)) + (1 : Int32))), .val (.double (FP.i2d ((p2 &&& (65535 : Int32)) + (1 : Int32)))), .second, .val (.double (own_f p0 (FP.i2d ((p2 &&& (65535 : Int32)) + (1 : Int32))))), .second, .val (.double (own_f p1 (FP.i2d ((p2 &&& (65535 : Int32)) + (1 : Int32))))), .second, .val (.int (1 : Int32)), .val (.int (1 : Int32)), .val (.int (1 : Int32)), .val (.int (p0 >>> ((1 : Int32) &&& 31))), .val (.int (1 : Int32)), .val (.double (own_f ((2 : Int32) * ((p2 &&& (65535 : Int32)) + (1 : Int32))) (FP.i2d ((p2 &&& (65535 : Int32)) + (1 : Int32))))), .second, .val (.int (1 : Int32)), .val (.double (own_f ((p2 &&& (65535 : Int32)) + (1 : Int32)) (FP.dmul (4611686018427387904 : UInt64) (FP.i2d ((p2 &&& (65535 : Int32)) + (1 : Int32)))))), .second, .val (.int (1 : Int32))] [(.int (1 : Int32))])) t
        refine XS.ifNo X13.here hx rfl (hb hby at_275) rfl (by decide) ?_
        show Steps p.tables e below (T13.setTop (mkF m 278 #[.val (.int p0), .val (.int p1), .val (.int p2), .val (.int ((p2 &&& (65535 : Int32)) + (1 : Int32))), .val (.double (FP.i2d ((p2 &&& (65535 : Int32)) + (1 : Int32)))), .second, .val (.double (own_f p0 (FP.i2d ((p2 &&& (65535 : Int32)) + (1 : Int32))))), .second, .val (.double (own_f p1 (FP.i2d ((p2 &&& (65535 : Int32)) + (1 : Int32))))), .second, .val (.int (1 : Int32)), .val (.int (1 : Int32)), .val (.int (1 : Int32)), .val (.int (p0 >>> ((1 : Int32) &&& 31))), .val (.int (1 : Int32)), .val (.double (own_f ((2 : Int32) * ((p2 &&& (65535 : Int32)) + (1 : Int32))) (FP.i2d ((p2 &&& (65535 : Int32)) + (1 : Int32))))), .second, .val (.int (1 : Int32)), .val (.double (own_f ((p2 &&& (65535 : Int32)) + (1 : Int32)) (FP.dmul (4611686018427387904 : UInt64) (FP.i2d ((p2 &&& (65535 : Int32)) + (1 : Int32)))))), .second, .val (.int (1 : Int32))] [])) t
        refine XS.iload X13.here hx rfl (hb hby at_278) rfl ?_
        show Steps p.tables e below (T13.setTop (mkF m 280 #[.val (.int p0), .val (.int p1), .val (.int p2), .val (.int ((p2 &&& (65535 : Int32)) + (1 : Int32))), .val (.double (FP.i2d ((p2 &&& (65535 : Int32)) + (1 : Int32)))), .second, .val (.double (own_f p0 (FP.i2d ((p2 &&& (65535 : Int32)) + (1 : Int32))))), .second, .val (.double (own_f p1 (FP.i2d ((p2 &&& (65535 : Int32)) + (1 : Int32))))), .second, .val (.int (1 : Int32)), .val (.int (1 : Int32)), .val (.int (1 : Int32)), .val (.int (p0 >>> ((1 : Int32) &&& 31))), .val (.int (1 : Int32)), .val (.double (own_f ((2 : Int32) * ((p2 &&& (65535 : Int32)) + (1 : Int32))) (FP.i2d ((p2 &&& (65535 : Int32)) + (1 : Int32))))), .second, .val (.int (1 : Int32)), .val (.double (own_f ((p2 &&& (65535 : Int32)) + (1 : Int32)) (FP.dmul (4611686018427387904 : UInt64) (FP.i2d ((p2 &&& (65535 : Int32)) + (1 : Int32)))))), .second, .val (.int (1 : Int32))] [(.int (1 : Int32))])) t
        refine XS.ifNo X13.here hx rfl (hb hby at_280) rfl (by decide) ?_
        show Steps p.tables e below (T13.setTop (mkF m 283 #[.val (.int p0), .val (.int p1), .val (.int p2), .val (.int ((p2 &&& (65535 : Int32)) + (1 : Int32))), .val (.double (FP.i2d ((p2 &&& (65535 : Int32)) + (1 : Int32)))), .second, .val (.double (own_f p0 (FP.i2d ((p2 &&& (65535 : Int32)) + (1 : Int32))))), .second, .val (.double (own_f p1 (FP.i2d ((p2 &&& (65535 : Int32)) + (1 : Int32))))), .second, .val (.int (1 : Int32)), .val (.int (1 : Int32)), .val (.int (1 : Int32)), .val (.int (p0 >>> ((1 : Int32) &&& 31))), .val (.int (1 : Int32)), .val (.double (own_f ((2 : Int32) * ((p2 &&& (65535 : Int32)) + (1 : Int32))) (FP.i2d ((p2 &&& (65535 : Int32)) + (1 : Int32))))), .second, .val (.int (1 : Int32)), .val (.double (own_f ((p2 &&& (65535 : Int32)) + (1 : Int32)) (FP.dmul (4611686018427387904 : UInt64) (FP.i2d ((p2 &&& (65535 : Int32)) + (1 : Int32)))))), .second, .val (.int (1 : Int32))] [])) t
        refine XS.iconst X13.here hx rfl (hb hby at_283) ?_
        show Steps p.tables e below (T13.setTop (mkF m 284 #[.val (.int p0), .val (.int p1), .val (.int p2), .val (.int ((p2 &&& (65535 : Int32)) + (1 : Int32))), .val (.double (FP.i2d ((p2 &&& (65535 : Int32)) + (1 : Int32)))), .second, .val (.double (own_f p0 (FP.i2d ((p2 &&& (65535 : Int32)) + (1 : Int32))))), .second, .val (.double (own_f p1 (FP.i2d ((p2 &&& (65535 : Int32)) + (1 : Int32))))), .second, .val (.int (1 : Int32)), .val (.int (1 : Int32)), .val (.int (1 : Int32)), .val (.int (p0 >>> ((1 : Int32) &&& 31))), .val (.int (1 : Int32)), .val (.double (own_f ((2 : Int32) * ((p2 &&& (65535 : Int32)) + (1 : Int32))) (FP.i2d ((p2 &&& (65535 : Int32)) + (1 : Int32))))), .second, .val (.int (1 : Int32)), .val (.double (own_f ((p2 &&& (65535 : Int32)) + (1 : Int32)) (FP.dmul (4611686018427387904 : UInt64) (FP.i2d ((p2 &&& (65535 : Int32)) + (1 : Int32)))))), .second, .val (.int (1 : Int32))] [(.int (1 : Int32))])) t
        refine XS.goto X13.here hx rfl (pc0 := 284) (pc' := 288) rfl (hb hby at_284) (by decide) (by decide) ?_
        exact k
      refine own_retZ X13 hx hlk Bd.returns (hb hby at_288) rfl (by decide) (by decide) ?_
      show Q0 Z p0 p1 p2 h0 n0 (some (.int (1 : Int32))) T13.heap _
      rw [(e13 : T13.heap = h0)]
      exact ⟨rfl, n14⟩
    by_cases hc64_15 : (0 : Int32) < p0
    · refine own_st (T' := T3) (g' := (mkF m 125 #[.val (.int p0), .val (.int p1), .val (.int p2), .val (.int ((p2 &&& (65535 : Int32)) + (1 : Int32))), .val (.double (FP.i2d ((p2 &&& (65535 : Int32)) + (1 : Int32)))), .second, .val (.double (own_f p0 (FP.i2d ((p2 &&& (65535 : Int32)) + (1 : Int32))))), .second, .val (.double (own_f p1 (FP.i2d ((p2 &&& (65535 : Int32)) + (1 : Int32))))), .second, .val (.int (1 : Int32)), .val (.int (1 : Int32)), .unset, .unset, .unset, .unset, .unset, .unset, .unset, .unset, .unset] [])) (fun t k => ?_) ?_
      · show Steps p.tables e below (T3.setTop (mkF m 64 #[.val (.int p0), .val (.int p1), .val (.int p2), .val (.int ((p2 &&& (65535 : Int32)) + (1 : Int32))), .val (.double (FP.i2d ((p2 &&& (65535 : Int32)) + (1 : Int32)))), .second, .val (.double (own_f p0 (FP.i2d ((p2 &&& (65535 : Int32)) + (1 : Int32))))), .second, .val (.double (own_f p1 (FP.i2d ((p2 &&& (65535 : Int32)) + (1 : Int32))))), .second, .val (.int (1 : Int32)), .unset, .unset, .unset, .unset, .unset, .unset, .unset, .unset, .unset, .unset] [(.int p0)])) t
        refine XS.ifNo X3.here hx rfl (hb hby at_64) rfl ((if0 _ _).trans (tlt hc64_15).2.2.2) ?_
        show Steps p.tables e below (T3.setTop (mkF m 67 #[.val (.int p0), .val (.int p1), .val (.int p2), .val (.int ((p2 &&& (65535 : Int32)) + (1 : Int32))), .val (.double (FP.i2d ((p2 &&& (65535 : Int32)) + (1 : Int32)))), .second, .val (.double (own_f p0 (FP.i2d ((p2 &&& (65535 : Int32)) + (1 : Int32))))), .second, .val (.double (own_f p1 (FP.i2d ((p2 &&& (65535 : Int32)) + (1 : Int32))))), .second, .val (.int (1 : Int32)), .unset, .unset, .unset, .unset, .unset, .unset, .unset, .unset, .unset, .unset] [])) t
        refine XS.dload X3.here hx rfl (hb hby at_67) rfl ?_
        show Steps p.tables e below (T3.setTop (mkF m 69 #[.val (.int p0), .val (.int p1), .val (.int p2), .val (.int ((p2 &&& (65535 : Int32)) + (1 : Int32))), .val (.double (FP.i2d ((p2 &&& (65535 : Int32)) + (1 : Int32)))), .second, .val (.double (own_f p0 (FP.i2d ((p2 &&& (65535 : Int32)) + (1 : Int32))))), .second, .val (.double (own_f p1 (FP.i2d ((p2 &&& (65535 : Int32)) + (1 : Int32))))), .second, .val (.int (1 : Int32)), .unset, .unset, .unset, .unset, .unset, .unset, .unset, .unset, .unset, .unset] [(.double (own_f p0 (FP.i2d ((p2 &&& (65535 : Int32)) + (1 : Int32)))))])) t
        refine X3.ldc2DoubleC hx hown (mvT hZ (hw _ (List.mem_of_getElem? (i := 8) rfl))) (g := (mkF m 69 #[.val (.int p0), .val (.int p1), .val (.int p2), .val (.int ((p2 &&& (65535 : Int32)) + (1 : Int32))), .val (.double (FP.i2d ((p2 &&& (65535 : Int32)) + (1 : Int32)))), .second, .val (.double (own_f p0 (FP.i2d ((p2 &&& (65535 : Int32)) + (1 : Int32))))), .second, .val (.double (own_f p1 (FP.i2d ((p2 &&& (65535 : Int32)) + (1 : Int32))))), .second, .val (.int (1 : Int32)), .unset, .unset, .unset, .unset, .unset, .unset, .unset, .unset, .unset, .unset] [(.double (own_f p0 (FP.i2d ((p2 &&& (65535 : Int32)) + (1 : Int32)))))])) rfl (hb hby at_69) _ ?_
        show Steps p.tables e below (T3.setTop (mkF m 72 #[.val (.int p0), .val (.int p1), .val (.int p2), .val (.int ((p2 &&& (65535 : Int32)) + (1 : Int32))), .val (.double (FP.i2d ((p2 &&& (65535 : Int32)) + (1 : Int32)))), .second, .val (.double (own_f p0 (FP.i2d ((p2 &&& (65535 : Int32)) + (1 : Int32))))), .second, .val (.double (own_f p1 (FP.i2d ((p2 &&& (65535 : Int32)) + (1 : Int32))))), .second, .val (.int (1 : Int32)), .unset, .unset, .unset, .unset, .unset, .unset, .unset, .unset, .unset, .unset] [(.double (4599075939470750515 : UInt64)), (.double (own_f p0 (FP.i2d ((p2 &&& (65535 : Int32)) + (1 : Int32)))))])) t
        refine XS.dcmpS X3.here hx rfl (hb hby at_72) rfl (own_sp hc64_15) ?_
        show Steps p.tables e below (T3.setTop (mkF m 73 #[.val (.int p0), .val (.int p1), .val (.int p2), .val (.int ((p2 &&& (65535 : Int32)) + (1 : Int32))), .val (.double (FP.i2d ((p2 &&& (65535 : Int32)) + (1 : Int32)))), .second, .val (.double (own_f p0 (FP.i2d ((p2 &&& (65535 : Int32)) + (1 : Int32))))), .second, .val (.double (own_f p1 (FP.i2d ((p2 &&& (65535 : Int32)) + (1 : Int32))))), .second, .val (.int (1 : Int32)), .unset, .unset, .unset, .unset, .unset, .unset, .unset, .unset, .unset, .unset] [(.int (1 : Int32))])) t
        refine XS.ifNo X3.here hx rfl (hb hby at_73) rfl (by decide) ?_
        show Steps p.tables e below (T3.setTop (mkF m 76 #[.val (.int p0), .val (.int p1), .val (.int p2), .val (.int ((p2 &&& (65535 : Int32)) + (1 : Int32))), .val (.double (FP.i2d ((p2 &&& (65535 : Int32)) + (1 : Int32)))), .second, .val (.double (own_f p0 (FP.i2d ((p2 &&& (65535 : Int32)) + (1 : Int32))))), .second, .val (.double (own_f p1 (FP.i2d ((p2 &&& (65535 : Int32)) + (1 : Int32))))), .second, .val (.int (1 : Int32)), .unset, .unset, .unset, .unset, .unset, .unset, .unset, .unset, .unset, .unset] [])) t
        refine XS.iconst X3.here hx rfl (hb hby at_76) ?_
        show Steps p.tables e below (T3.setTop (mkF m 77 #[.val (.int p0), .val (.int p1), .val (.int p2), .val (.int ((p2 &&& (65535 : Int32)) + (1 : Int32))), .val (.double (FP.i2d ((p2 &&& (65535 : Int32)) + (1 : Int32)))), .second, .val (.double (own_f p0 (FP.i2d ((p2 &&& (65535 : Int32)) + (1 : Int32))))), .second, .val (.double (own_f p1 (FP.i2d ((p2 &&& (65535 : Int32)) + (1 : Int32))))), .second, .val (.int (1 : Int32)), .unset, .unset, .unset, .unset, .unset, .unset, .unset, .unset, .unset, .unset] [(.int (1 : Int32))])) t
        refine XS.goto X3.here hx rfl (pc0 := 77) (pc' := 81) rfl (hb hby at_77) (by decide) (by decide) ?_
        show Steps p.tables e below (T3.setTop (mkF m 81 #[.val (.int p0), .val (.int p1), .val (.int p2), .val (.int ((p2 &&& (65535 : Int32)) + (1 : Int32))), .val (.double (FP.i2d ((p2 &&& (65535 : Int32)) + (1 : Int32)))), .second, .val (.double (own_f p0 (FP.i2d ((p2 &&& (65535 : Int32)) + (1 : Int32))))), .second, .val (.double (own_f p1 (FP.i2d ((p2 &&& (65535 : Int32)) + (1 : Int32))))), .second, .val (.int (1 : Int32)), .unset, .unset, .unset, .unset, .unset, .unset, .unset, .unset, .unset, .unset] [(.int (1 : Int32))])) t
        refine XS.istore X3.here hx rfl (hb hby at_81) rfl (l' := #[.val (.int p0), .val (.int p1), .val (.int p2), .val (.int ((p2 &&& (65535 : Int32)) + (1 : Int32))), .val (.double (FP.i2d ((p2 &&& (65535 : Int32)) + (1 : Int32)))), .second, .val (.double (own_f p0 (FP.i2d ((p2 &&& (65535 : Int32)) + (1 : Int32))))), .second, .val (.double (own_f p1 (FP.i2d ((p2 &&& (65535 : Int32)) + (1 : Int32))))), .second, .val (.int (1 : Int32)), .val (.int (1 : Int32)), .unset, .unset, .unset, .unset, .unset, .unset, .unset, .unset, .unset]) rfl ?_
        show Steps p.tables e below (T3.setTop (mkF m 83 #[.val (.int p0), .val (.int p1), .val (.int p2), .val (.int ((p2 &&& (65535 : Int32)) + (1 : Int32))), .val (.double (FP.i2d ((p2 &&& (65535 : Int32)) + (1 : Int32)))), .second, .val (.double (own_f p0 (FP.i2d ((p2 &&& (65535 : Int32)) + (1 : Int32))))), .second, .val (.double (own_f p1 (FP.i2d ((p2 &&& (65535 : Int32)) + (1 : Int32))))), .second, .val (.int (1 : Int32)), .val (.int (1 : Int32)), .unset, .unset, .unset, .unset, .unset, .unset, .unset, .unset, .unset] [])) t
        refine XS.goto X3.here hx rfl (pc0 := 83) (pc' := 125) rfl (hb hby at_83) (by decide) (by decide) ?_
        exact k
      exact hJ125 
    · refine own_st (T' := T3) (g' := (mkF m 87 #[.val (.int p0), .val (.int p1), .val (.int p2), .val (.int ((p2 &&& (65535 : Int32)) + (1 : Int32))), .val (.double (FP.i2d ((p2 &&& (65535 : Int32)) + (1 : Int32)))), .second, .val (.double (own_f p0 (FP.i2d ((p2 &&& (65535 : Int32)) + (1 : Int32))))), .second, .val (.double (own_f p1 (FP.i2d ((p2 &&& (65535 : Int32)) + (1 : Int32))))), .second, .val (.int (1 : Int32)), .unset, .unset, .unset, .unset, .unset, .unset, .unset, .unset, .unset, .unset] [(.int p0)])) (fun t k => ?_) ?_
      · show Steps p.tables e below (T3.setTop (mkF m 64 #[.val (.int p0), .val (.int p1), .val (.int p2), .val (.int ((p2 &&& (65535 : Int32)) + (1 : Int32))), .val (.double (FP.i2d ((p2 &&& (65535 : Int32)) + (1 : Int32)))), .second, .val (.double (own_f p0 (FP.i2d ((p2 &&& (65535 : Int32)) + (1 : Int32))))), .second, .val (.double (own_f p1 (FP.i2d ((p2 &&& (65535 : Int32)) + (1 : Int32))))), .second, .val (.int (1 : Int32)), .unset, .unset, .unset, .unset, .unset, .unset, .unset, .unset, .unset, .unset] [(.int p0)])) t
        refine XS.ifYes X3.here hx rfl (pc0 := 64) (pc' := 86) rfl (hb hby at_64) rfl ((if0 _ _).trans (flt hc64_15).2.2.2) (by decide) (by decide) ?_
        show Steps p.tables e below (T3.setTop (mkF m 86 #[.val (.int p0), .val (.int p1), .val (.int p2), .val (.int ((p2 &&& (65535 : Int32)) + (1 : Int32))), .val (.double (FP.i2d ((p2 &&& (65535 : Int32)) + (1 : Int32)))), .second, .val (.double (own_f p0 (FP.i2d ((p2 &&& (65535 : Int32)) + (1 : Int32))))), .second, .val (.double (own_f p1 (FP.i2d ((p2 &&& (65535 : Int32)) + (1 : Int32))))), .second, .val (.int (1 : Int32)), .unset, .unset, .unset, .unset, .unset, .unset, .unset, .unset, .unset, .unset] [])) t
        refine XS.iloadN X3.here hx rfl (hb hby at_86) rfl ?_
        exact k
      by_cases hc87_16 : p0 < (0 : Int32)
      · refine own_st (T' := T3) (g' := (mkF m 125 #[.val (.int p0), .val (.int p1), .val (.int p2), .val (.int ((p2 &&& (65535 : Int32)) + (1 : Int32))), .val (.double (FP.i2d ((p2 &&& (65535 : Int32)) + (1 : Int32)))), .second, .val (.double (own_f p0 (FP.i2d ((p2 &&& (65535 : Int32)) + (1 : Int32))))), .second, .val (.double (own_f p1 (FP.i2d ((p2 &&& (65535 : Int32)) + (1 : Int32))))), .second, .val (.int (1 : Int32)), .val (.int (1 : Int32)), .unset, .unset, .unset, .unset, .unset, .unset, .unset, .unset, .unset] [])) (fun t k => ?_) ?_
        · show Steps p.tables e below (T3.setTop (mkF m 87 #[.val (.int p0), .val (.int p1), .val (.int p2), .val (.int ((p2 &&& (65535 : Int32)) + (1 : Int32))), .val (.double (FP.i2d ((p2 &&& (65535 : Int32)) + (1 : Int32)))), .second, .val (.double (own_f p0 (FP.i2d ((p2 &&& (65535 : Int32)) + (1 : Int32))))), .second, .val (.double (own_f p1 (FP.i2d ((p2 &&& (65535 : Int32)) + (1 : Int32))))), .second, .val (.int (1 : Int32)), .unset, .unset, .unset, .unset, .unset, .unset, .unset, .unset, .unset, .unset] [(.int p0)])) t
          refine XS.ifNo X3.here hx rfl (hb hby at_87) rfl ((if0 _ _).trans (tlt hc87_16).2.1) ?_
          show Steps p.tables e below (T3.setTop (mkF m 90 #[.val (.int p0), .val (.int p1), .val (.int p2), .val (.int ((p2 &&& (65535 : Int32)) + (1 : Int32))), .val (.double (FP.i2d ((p2 &&& (65535 : Int32)) + (1 : Int32)))), .second, .val (.double (own_f p0 (FP.i2d ((p2 &&& (65535 : Int32)) + (1 : Int32))))), .second, .val (.double (own_f p1 (FP.i2d ((p2 &&& (65535 : Int32)) + (1 : Int32))))), .second, .val (.int (1 : Int32)), .unset, .unset, .unset, .unset, .unset, .unset, .unset, .unset, .unset, .unset] [])) t
          refine XS.dload X3.here hx rfl (hb hby at_90) rfl ?_
          show Steps p.tables e below (T3.setTop (mkF m 92 #[.val (.int p0), .val (.int p1), .val (.int p2), .val (.int ((p2 &&& (65535 : Int32)) + (1 : Int32))), .val (.double (FP.i2d ((p2 &&& (65535 : Int32)) + (1 : Int32)))), .second, .val (.double (own_f p0 (FP.i2d ((p2 &&& (65535 : Int32)) + (1 : Int32))))), .second, .val (.double (own_f p1 (FP.i2d ((p2 &&& (65535 : Int32)) + (1 : Int32))))), .second, .val (.int (1 : Int32)), .unset, .unset, .unset, .unset, .unset, .unset, .unset, .unset, .unset, .unset] [(.double (own_f p0 (FP.i2d ((p2 &&& (65535 : Int32)) + (1 : Int32)))))])) t
          refine X3.ldc2DoubleC hx hown (mvT hZ (hw _ (List.mem_of_getElem? (i := 8) rfl))) (g := (mkF m 92 #[.val (.int p0), .val (.int p1), .val (.int p2), .val (.int ((p2 &&& (65535 : Int32)) + (1 : Int32))), .val (.double (FP.i2d ((p2 &&& (65535 : Int32)) + (1 : Int32)))), .second, .val (.double (own_f p0 (FP.i2d ((p2 &&& (65535 : Int32)) + (1 : Int32))))), .second, .val (.double (own_f p1 (FP.i2d ((p2 &&& (65535 : Int32)) + (1 : Int32))))), .second, .val (.int (1 : Int32)), .unset, .unset, .unset, .unset, .unset, .unset, .unset, .unset, .unset, .unset] [(.double (own_f p0 (FP.i2d ((p2 &&& (65535 : Int32)) + (1 : Int32)))))])) rfl (hb hby at_92) _ ?_
          show Steps p.tables e below (T3.setTop (mkF m 95 #[.val (.int p0), .val (.int p1), .val (.int p2), .val (.int ((p2 &&& (65535 : Int32)) + (1 : Int32))), .val (.double (FP.i2d ((p2 &&& (65535 : Int32)) + (1 : Int32)))), .second, .val (.double (own_f p0 (FP.i2d ((p2 &&& (65535 : Int32)) + (1 : Int32))))), .second, .val (.double (own_f p1 (FP.i2d ((p2 &&& (65535 : Int32)) + (1 : Int32))))), .second, .val (.int (1 : Int32)), .unset, .unset, .unset, .unset, .unset, .unset, .unset, .unset, .unset, .unset] [(.double (4599075939470750515 : UInt64)), (.double (own_f p0 (FP.i2d ((p2 &&& (65535 : Int32)) + (1 : Int32)))))])) t
          refine XS.dcmpS X3.here hx rfl (hb hby at_95) rfl (own_sn hc87_16) ?_
          show Steps p.tables e below (T3.setTop (mkF m 96 #[.val (.int p0), .val (.int p1), .val (.int p2), .val (.int ((p2 &&& (65535 : Int32)) + (1 : Int32))), .val (.double (FP.i2d ((p2 &&& (65535 : Int32)) + (1 : Int32)))), .second, .val (.double (own_f p0 (FP.i2d ((p2 &&& (65535 : Int32)) + (1 : Int32))))), .second, .val (.double (own_f p1 (FP.i2d ((p2 &&& (65535 : Int32)) + (1 : Int32))))), .second, .val (.int (1 : Int32)), .unset, .unset, .unset, .unset, .unset, .unset, .unset, .unset, .unset, .unset] [(.int (-1 : Int32))])) t
          refine XS.ifNo X3.here hx rfl (hb hby at_96) rfl (by decide) ?_
          show Steps p.tables e below (T3.setTop (mkF m 99 #[.val (.int p0), .val (.int p1), .val (.int p2), .val (.int ((p2 &&& (65535 : Int32)) + (1 : Int32))), .val (.double (FP.i2d ((p2 &&& (65535 : Int32)) + (1 : Int32)))), .second, .val (.double (own_f p0 (FP.i2d ((p2 &&& (65535 : Int32)) + (1 : Int32))))), .second, .val (.double (own_f p1 (FP.i2d ((p2 &&& (65535 : Int32)) + (1 : Int32))))), .second, .val (.int (1 : Int32)), .unset, .unset, .unset, .unset, .unset, .unset, .unset, .unset, .unset, .unset] [])) t
          refine XS.iconst X3.here hx rfl (hb hby at_99) ?_
          show Steps p.tables e below (T3.setTop (mkF m 100 #[.val (.int p0), .val (.int p1), .val (.int p2), .val (.int ((p2 &&& (65535 : Int32)) + (1 : Int32))), .val (.double (FP.i2d ((p2 &&& (65535 : Int32)) + (1 : Int32)))), .second, .val (.double (own_f p0 (FP.i2d ((p2 &&& (65535 : Int32)) + (1 : Int32))))), .second, .val (.double (own_f p1 (FP.i2d ((p2 &&& (65535 : Int32)) + (1 : Int32))))), .second, .val (.int (1 : Int32)), .unset, .unset, .unset, .unset, .unset, .unset, .unset, .unset, .unset, .unset] [(.int (1 : Int32))])) t
          refine XS.goto X3.here hx rfl (pc0 := 100) (pc' := 104) rfl (hb hby at_100) (by decide) (by decide) ?_
          show Steps p.tables e below (T3.setTop (mkF m 104 #[.val (.int p0), .val (.int p1), .val (.int p2), .val (.int ((p2 &&& (65535 : Int32)) + (1 : Int32))), .val (.double (FP.i2d ((p2 &&& (65535 : Int32)) + (1 : Int32)))), .second, .val (.double (own_f p0 (FP.i2d ((p2 &&& (65535 : Int32)) + (1 : Int32))))), .second, .val (.double (own_f p1 (FP.i2d ((p2 &&& (65535 : Int32)) + (1 : Int32))))), .second, .val (.int (1 : Int32)), .unset, .unset, .unset, .unset, .unset, .unset, .unset, .unset, .unset, .unset] [(.int (1 : Int32))])) t
          refine XS.istore X3.here hx rfl (hb hby at_104) rfl (l' := #[.val (.int p0), .val (.int p1), .val (.int p2), .val (.int ((p2 &&& (65535 : Int32)) + (1 : Int32))), .val (.double (FP.i2d ((p2 &&& (65535 : Int32)) + (1 : Int32)))), .second, .val (.double (own_f p0 (FP.i2d ((p2 &&& (65535 : Int32)) + (1 : Int32))))), .second, .val (.double (own_f p1 (FP.i2d ((p2 &&& (65535 : Int32)) + (1 : Int32))))), .second, .val (.int (1 : Int32)), .val (.int (1 : Int32)), .unset, .unset, .unset, .unset, .unset, .unset, .unset, .unset, .unset]) rfl ?_
          show Steps p.tables e below (T3.setTop (mkF m 106 #[.val (.int p0), .val (.int p1), .val (.int p2), .val (.int ((p2 &&& (65535 : Int32)) + (1 : Int32))), .val (.double (FP.i2d ((p2 &&& (65535 : Int32)) + (1 : Int32)))), .second, .val (.double (own_f p0 (FP.i2d ((p2 &&& (65535 : Int32)) + (1 : Int32))))), .second, .val (.double (own_f p1 (FP.i2d ((p2 &&& (65535 : Int32)) + (1 : Int32))))), .second, .val (.int (1 : Int32)), .val (.int (1 : Int32)), .unset, .unset, .unset, .unset, .unset, .unset, .unset, .unset, .unset] [])) t
          refine XS.goto X3.here hx rfl (pc0 := 106) (pc' := 125) rfl (hb hby at_106) (by decide) (by decide) ?_
          exact k
        exact hJ125 
      · refine own_st (T' := T3) (g' := (mkF m 125 #[.val (.int p0), .val (.int p1), .val (.int p2), .val (.int ((p2 &&& (65535 : Int32)) + (1 : Int32))), .val (.double (FP.i2d ((p2 &&& (65535 : Int32)) + (1 : Int32)))), .second, .val (.double (own_f p0 (FP.i2d ((p2 &&& (65535 : Int32)) + (1 : Int32))))), .second, .val (.double (own_f p1 (FP.i2d ((p2 &&& (65535 : Int32)) + (1 : Int32))))), .second, .val (.int (1 : Int32)), .val (.int (1 : Int32)), .unset, .unset, .unset, .unset, .unset, .unset, .unset, .unset, .unset] [])) (fun t k => ?_) ?_
        · show Steps p.tables e below (T3.setTop (mkF m 87 #[.val (.int p0), .val (.int p1), .val (.int p2), .val (.int ((p2 &&& (65535 : Int32)) + (1 : Int32))), .val (.double (FP.i2d ((p2 &&& (65535 : Int32)) + (1 : Int32)))), .second, .val (.double (own_f p0 (FP.i2d ((p2 &&& (65535 : Int32)) + (1 : Int32))))), .second, .val (.double (own_f p1 (FP.i2d ((p2 &&& (65535 : Int32)) + (1 : Int32))))), .second, .val (.int (1 : Int32)), .unset, .unset, .unset, .unset, .unset, .unset, .unset, .unset, .unset, .unset] [(.int p0)])) t
          refine XS.ifYes X3.here hx rfl (pc0 := 87) (pc' := 109) rfl (hb hby at_87) rfl ((if0 _ _).trans (flt hc87_16).2.1) (by decide) (by decide) ?_
          show Steps p.tables e below (T3.setTop (mkF m 109 #[.val (.int p0), .val (.int p1), .val (.int p2), .val (.int ((p2 &&& (65535 : Int32)) + (1 : Int32))), .val (.double (FP.i2d ((p2 &&& (65535 : Int32)) + (1 : Int32)))), .second, .val (.double (own_f p0 (FP.i2d ((p2 &&& (65535 : Int32)) + (1 : Int32))))), .second, .val (.double (own_f p1 (FP.i2d ((p2 &&& (65535 : Int32)) + (1 : Int32))))), .second, .val (.int (1 : Int32)), .unset, .unset, .unset, .unset, .unset, .unset, .unset, .unset, .unset, .unset] [])) t
          refine XS.dload X3.here hx rfl (hb hby at_109) rfl ?_
          show Steps p.tables e below (T3.setTop (mkF m 111 #[.val (.int p0), .val (.int p1), .val (.int p2), .val (.int ((p2 &&& (65535 : Int32)) + (1 : Int32))), .val (.double (FP.i2d ((p2 &&& (65535 : Int32)) + (1 : Int32)))), .second, .val (.double (own_f p0 (FP.i2d ((p2 &&& (65535 : Int32)) + (1 : Int32))))), .second, .val (.double (own_f p1 (FP.i2d ((p2 &&& (65535 : Int32)) + (1 : Int32))))), .second, .val (.int (1 : Int32)), .unset, .unset, .unset, .unset, .unset, .unset, .unset, .unset, .unset, .unset] [(.double (own_f p0 (FP.i2d ((p2 &&& (65535 : Int32)) + (1 : Int32)))))])) t
          refine X3.ldc2DoubleC hx hown (mvT hZ (hw _ (List.mem_of_getElem? (i := 8) rfl))) (g := (mkF m 111 #[.val (.int p0), .val (.int p1), .val (.int p2), .val (.int ((p2 &&& (65535 : Int32)) + (1 : Int32))), .val (.double (FP.i2d ((p2 &&& (65535 : Int32)) + (1 : Int32)))), .second, .val (.double (own_f p0 (FP.i2d ((p2 &&& (65535 : Int32)) + (1 : Int32))))), .second, .val (.double (own_f p1 (FP.i2d ((p2 &&& (65535 : Int32)) + (1 : Int32))))), .second, .val (.int (1 : Int32)), .unset, .unset, .unset, .unset, .unset, .unset, .unset, .unset, .unset, .unset] [(.double (own_f p0 (FP.i2d ((p2 &&& (65535 : Int32)) + (1 : Int32)))))])) rfl (hb hby at_111) _ ?_
          show Steps p.tables e below (T3.setTop (mkF m 114 #[.val (.int p0), .val (.int p1), .val (.int p2), .val (.int ((p2 &&& (65535 : Int32)) + (1 : Int32))), .val (.double (FP.i2d ((p2 &&& (65535 : Int32)) + (1 : Int32)))), .second, .val (.double (own_f p0 (FP.i2d ((p2 &&& (65535 : Int32)) + (1 : Int32))))), .second, .val (.double (own_f p1 (FP.i2d ((p2 &&& (65535 : Int32)) + (1 : Int32))))), .second, .val (.int (1 : Int32)), .unset, .unset, .unset, .unset, .unset, .unset, .unset, .unset, .unset, .unset] [(.double (4599075939470750515 : UInt64)), (.double (own_f p0 (FP.i2d ((p2 &&& (65535 : Int32)) + (1 : Int32)))))])) t
          refine XS.dcmpS X3.here hx rfl (hb hby at_114) rfl (own_sz hc64_15 hc87_16) ?_
          show Steps p.tables e below (T3.setTop (mkF m 115 #[.val (.int p0), .val (.int p1), .val (.int p2), .val (.int ((p2 &&& (65535 : Int32)) + (1 : Int32))), .val (.double (FP.i2d ((p2 &&& (65535 : Int32)) + (1 : Int32)))), .second, .val (.double (own_f p0 (FP.i2d ((p2 &&& (65535 : Int32)) + (1 : Int32))))), .second, .val (.double (own_f p1 (FP.i2d ((p2 &&& (65535 : Int32)) + (1 : Int32))))), .second, .val (.int (1 : Int32)), .unset, .unset, .unset, .unset, .unset, .unset, .unset, .unset, .unset, .unset] [(.int (0 : Int32))])) t
          refine XS.ifNo X3.here hx rfl (hb hby at_115) rfl (by decide) ?_
          show Steps p.tables e below (T3.setTop (mkF m 118 #[.val (.int p0), .val (.int p1), .val (.int p2), .val (.int ((p2 &&& (65535 : Int32)) + (1 : Int32))), .val (.double (FP.i2d ((p2 &&& (65535 : Int32)) + (1 : Int32)))), .second, .val (.double (own_f p0 (FP.i2d ((p2 &&& (65535 : Int32)) + (1 : Int32))))), .second, .val (.double (own_f p1 (FP.i2d ((p2 &&& (65535 : Int32)) + (1 : Int32))))), .second, .val (.int (1 : Int32)), .unset, .unset, .unset, .unset, .unset, .unset, .unset, .unset, .unset, .unset] [])) t
          refine XS.iconst X3.here hx rfl (hb hby at_118) ?_
          show Steps p.tables e below (T3.setTop (mkF m 119 #[.val (.int p0), .val (.int p1), .val (.int p2), .val (.int ((p2 &&& (65535 : Int32)) + (1 : Int32))), .val (.double (FP.i2d ((p2 &&& (65535 : Int32)) + (1 : Int32)))), .second, .val (.double (own_f p0 (FP.i2d ((p2 &&& (65535 : Int32)) + (1 : Int32))))), .second, .val (.double (own_f p1 (FP.i2d ((p2 &&& (65535 : Int32)) + (1 : Int32))))), .second, .val (.int (1 : Int32)), .unset, .unset, .unset, .unset, .unset, .unset, .unset, .unset, .unset, .unset] [(.int (1 : Int32))])) t
          refine XS.goto X3.here hx rfl (pc0 := 119) (pc' := 123) rfl (hb hby at_119) (by decide) (by decide) ?_
          show Steps p.tables e below (T3.setTop (mkF m 123 #[.val (.int p0), .val (.int p1), .val (.int p2), .val (.int ((p2 &&& (65535 : Int32)) + (1 : Int32))), .val (.double (FP.i2d ((p2 &&& (65535 : Int32)) + (1 : Int32)))), .second, .val (.double (own_f p0 (FP.i2d ((p2 &&& (65535 : Int32)) + (1 : Int32))))), .second, .val (.double (own_f p1 (FP.i2d ((p2 &&& (65535 : Int32)) + (1 : Int32))))), .second, .val (.int (1 : Int32)), .unset, .unset, .unset, .unset, .unset, .unset, .unset, .unset, .unset, .unset] [(.int (1 : Int32))])) t
          refine XS.istore X3.here hx rfl (hb hby at_123) rfl (l' := #[.val (.int p0), .val (.int p1), .val (.int p2), .val (.int ((p2 &&& (65535 : Int32)) + (1 : Int32))), .val (.double (FP.i2d ((p2 &&& (65535 : Int32)) + (1 : Int32)))), .second, .val (.double (own_f p0 (FP.i2d ((p2 &&& (65535 : Int32)) + (1 : Int32))))), .second, .val (.double (own_f p1 (FP.i2d ((p2 &&& (65535 : Int32)) + (1 : Int32))))), .second, .val (.int (1 : Int32)), .val (.int (1 : Int32)), .unset, .unset, .unset, .unset, .unset, .unset, .unset, .unset, .unset]) rfl ?_
          exact k
        exact hJ125 
  by_cases hc29_17 : p1 < p0
  · refine own_st (T' := T3) (g' := (mkF m 61 #[.val (.int p0), .val (.int p1), .val (.int p2), .val (.int ((p2 &&& (65535 : Int32)) + (1 : Int32))), .val (.double (FP.i2d ((p2 &&& (65535 : Int32)) + (1 : Int32)))), .second, .val (.double (own_f p0 (FP.i2d ((p2 &&& (65535 : Int32)) + (1 : Int32))))), .second, .val (.double (own_f p1 (FP.i2d ((p2 &&& (65535 : Int32)) + (1 : Int32))))), .second, .unset, .unset, .unset, .unset, .unset, .unset, .unset, .unset, .unset, .unset, .unset] [(.int (1 : Int32))])) (fun t k => ?_) ?_
    · show Steps p.tables e below (T3.setTop (mkF m 29 #[.val (.int p0), .val (.int p1), .val (.int p2), .val (.int ((p2 &&& (65535 : Int32)) + (1 : Int32))), .val (.double (FP.i2d ((p2 &&& (65535 : Int32)) + (1 : Int32)))), .second, .val (.double (own_f p0 (FP.i2d ((p2 &&& (65535 : Int32)) + (1 : Int32))))), .second, .val (.double (own_f p1 (FP.i2d ((p2 &&& (65535 : Int32)) + (1 : Int32))))), .second, .unset, .unset, .unset, .unset, .unset, .unset, .unset, .unset, .unset, .unset, .unset] [(.int p1), (.int p0)])) t
      refine XS.icmpYes X3.here hx rfl (pc0 := 29) (pc' := 48) rfl (hb hby at_29) rfl (tlt hc29_17).2.2.1 (by decide) (by decide) ?_
      show Steps p.tables e below (T3.setTop (mkF m 48 #[.val (.int p0), .val (.int p1), .val (.int p2), .val (.int ((p2 &&& (65535 : Int32)) + (1 : Int32))), .val (.double (FP.i2d ((p2 &&& (65535 : Int32)) + (1 : Int32)))), .second, .val (.double (own_f p0 (FP.i2d ((p2 &&& (65535 : Int32)) + (1 : Int32))))), .second, .val (.double (own_f p1 (FP.i2d ((p2 &&& (65535 : Int32)) + (1 : Int32))))), .second, .unset, .unset, .unset, .unset, .unset, .unset, .unset, .unset, .unset, .unset, .unset] [])) t
      refine XS.dload X3.here hx rfl (hb hby at_48) rfl ?_
      show Steps p.tables e below (T3.setTop (mkF m 50 #[.val (.int p0), .val (.int p1), .val (.int p2), .val (.int ((p2 &&& (65535 : Int32)) + (1 : Int32))), .val (.double (FP.i2d ((p2 &&& (65535 : Int32)) + (1 : Int32)))), .second, .val (.double (own_f p0 (FP.i2d ((p2 &&& (65535 : Int32)) + (1 : Int32))))), .second, .val (.double (own_f p1 (FP.i2d ((p2 &&& (65535 : Int32)) + (1 : Int32))))), .second, .unset, .unset, .unset, .unset, .unset, .unset, .unset, .unset, .unset, .unset, .unset] [(.double (own_f p1 (FP.i2d ((p2 &&& (65535 : Int32)) + (1 : Int32)))))])) t
      refine XS.dload X3.here hx rfl (hb hby at_50) rfl ?_
      show Steps p.tables e below (T3.setTop (mkF m 52 #[.val (.int p0), .val (.int p1), .val (.int p2), .val (.int ((p2 &&& (65535 : Int32)) + (1 : Int32))), .val (.double (FP.i2d ((p2 &&& (65535 : Int32)) + (1 : Int32)))), .second, .val (.double (own_f p0 (FP.i2d ((p2 &&& (65535 : Int32)) + (1 : Int32))))), .second, .val (.double (own_f p1 (FP.i2d ((p2 &&& (65535 : Int32)) + (1 : Int32))))), .second, .unset, .unset, .unset, .unset, .unset, .unset, .unset, .unset, .unset, .unset, .unset] [(.double (own_f p0 (FP.i2d ((p2 &&& (65535 : Int32)) + (1 : Int32))))), (.double (own_f p1 (FP.i2d ((p2 &&& (65535 : Int32)) + (1 : Int32)))))])) t
      refine XS.dcmpS X3.here hx rfl (hb hby at_52) rfl rfl ?_
      show Steps p.tables e below (T3.setTop (mkF m 53 #[.val (.int p0), .val (.int p1), .val (.int p2), .val (.int ((p2 &&& (65535 : Int32)) + (1 : Int32))), .val (.double (FP.i2d ((p2 &&& (65535 : Int32)) + (1 : Int32)))), .second, .val (.double (own_f p0 (FP.i2d ((p2 &&& (65535 : Int32)) + (1 : Int32))))), .second, .val (.double (own_f p1 (FP.i2d ((p2 &&& (65535 : Int32)) + (1 : Int32))))), .second, .unset, .unset, .unset, .unset, .unset, .unset, .unset, .unset, .unset, .unset, .unset] [(.int (cmpValue (FP.dcmp (own_f p1 (FP.i2d ((p2 &&& (65535 : Int32)) + (1 : Int32)))) (own_f p0 (FP.i2d ((p2 &&& (65535 : Int32)) + (1 : Int32))))) .g))])) t
      refine XS.ifNo X3.here hx rfl (hb hby at_53) rfl ((if0 _ _).trans (flt (own_ge hc29_17 : ¬ ((0 : Int32) < (cmpValue (FP.dcmp (own_f p1 (FP.i2d ((p2 &&& (65535 : Int32)) + (1 : Int32)))) (own_f p0 (FP.i2d ((p2 &&& (65535 : Int32)) + (1 : Int32))))) .g)))).2.2.1) ?_
      show Steps p.tables e below (T3.setTop (mkF m 56 #[.val (.int p0), .val (.int p1), .val (.int p2), .val (.int ((p2 &&& (65535 : Int32)) + (1 : Int32))), .val (.double (FP.i2d ((p2 &&& (65535 : Int32)) + (1 : Int32)))), .second, .val (.double (own_f p0 (FP.i2d ((p2 &&& (65535 : Int32)) + (1 : Int32))))), .second, .val (.double (own_f p1 (FP.i2d ((p2 &&& (65535 : Int32)) + (1 : Int32))))), .second, .unset, .unset, .unset, .unset, .unset, .unset, .unset, .unset, .unset, .unset, .unset] [])) t
      refine XS.iconst X3.here hx rfl (hb hby at_56) ?_
      show Steps p.tables e below (T3.setTop (mkF m 57 #[.val (.int p0), .val (.int p1), .val (.int p2), .val (.int ((p2 &&& (65535 : Int32)) + (1 : Int32))), .val (.double (FP.i2d ((p2 &&& (65535 : Int32)) + (1 : Int32)))), .second, .val (.double (own_f p0 (FP.i2d ((p2 &&& (65535 : Int32)) + (1 : Int32))))), .second, .val (.double (own_f p1 (FP.i2d ((p2 &&& (65535 : Int32)) + (1 : Int32))))), .second, .unset, .unset, .unset, .unset, .unset, .unset, .unset, .unset, .unset, .unset, .unset] [(.int (1 : Int32))])) t
      refine XS.goto X3.here hx rfl (pc0 := 57) (pc' := 61) rfl (hb hby at_57) (by decide) (by decide) ?_
      exact k
    exact hJ61 
  · refine own_st (T' := T3) (g' := (mkF m 61 #[.val (.int p0), .val (.int p1), .val (.int p2), .val (.int ((p2 &&& (65535 : Int32)) + (1 : Int32))), .val (.double (FP.i2d ((p2 &&& (65535 : Int32)) + (1 : Int32)))), .second, .val (.double (own_f p0 (FP.i2d ((p2 &&& (65535 : Int32)) + (1 : Int32))))), .second, .val (.double (own_f p1 (FP.i2d ((p2 &&& (65535 : Int32)) + (1 : Int32))))), .second, .unset, .unset, .unset, .unset, .unset, .unset, .unset, .unset, .unset, .unset, .unset] [(.int (1 : Int32))])) (fun t k => ?_) ?_
    · show Steps p.tables e below (T3.setTop (mkF m 29 #[.val (.int p0), .val (.int p1), .val (.int p2), .val (.int ((p2 &&& (65535 : Int32)) + (1 : Int32))), .val (.double (FP.i2d ((p2 &&& (65535 : Int32)) + (1 : Int32)))), .second, .val (.double (own_f p0 (FP.i2d ((p2 &&& (65535 : Int32)) + (1 : Int32))))), .second, .val (.double (own_f p1 (FP.i2d ((p2 &&& (65535 : Int32)) + (1 : Int32))))), .second, .unset, .unset, .unset, .unset, .unset, .unset, .unset, .unset, .unset, .unset, .unset] [(.int p1), (.int p0)])) t
      refine XS.icmpNo X3.here hx rfl (hb hby at_29) rfl (flt hc29_17).2.2.1 ?_
      show Steps p.tables e below (T3.setTop (mkF m 32 #[.val (.int p0), .val (.int p1), .val (.int p2), .val (.int ((p2 &&& (65535 : Int32)) + (1 : Int32))), .val (.double (FP.i2d ((p2 &&& (65535 : Int32)) + (1 : Int32)))), .second, .val (.double (own_f p0 (FP.i2d ((p2 &&& (65535 : Int32)) + (1 : Int32))))), .second, .val (.double (own_f p1 (FP.i2d ((p2 &&& (65535 : Int32)) + (1 : Int32))))), .second, .unset, .unset, .unset, .unset, .unset, .unset, .unset, .unset, .unset, .unset, .unset] [])) t
      refine XS.dload X3.here hx rfl (hb hby at_32) rfl ?_
      show Steps p.tables e below (T3.setTop (mkF m 34 #[.val (.int p0), .val (.int p1), .val (.int p2), .val (.int ((p2 &&& (65535 : Int32)) + (1 : Int32))), .val (.double (FP.i2d ((p2 &&& (65535 : Int32)) + (1 : Int32)))), .second, .val (.double (own_f p0 (FP.i2d ((p2 &&& (65535 : Int32)) + (1 : Int32))))), .second, .val (.double (own_f p1 (FP.i2d ((p2 &&& (65535 : Int32)) + (1 : Int32))))), .second, .unset, .unset, .unset, .unset, .unset, .unset, .unset, .unset, .unset, .unset, .unset] [(.double (own_f p0 (FP.i2d ((p2 &&& (65535 : Int32)) + (1 : Int32)))))])) t
      refine XS.dload X3.here hx rfl (hb hby at_34) rfl ?_
      show Steps p.tables e below (T3.setTop (mkF m 36 #[.val (.int p0), .val (.int p1), .val (.int p2), .val (.int ((p2 &&& (65535 : Int32)) + (1 : Int32))), .val (.double (FP.i2d ((p2 &&& (65535 : Int32)) + (1 : Int32)))), .second, .val (.double (own_f p0 (FP.i2d ((p2 &&& (65535 : Int32)) + (1 : Int32))))), .second, .val (.double (own_f p1 (FP.i2d ((p2 &&& (65535 : Int32)) + (1 : Int32))))), .second, .unset, .unset, .unset, .unset, .unset, .unset, .unset, .unset, .unset, .unset, .unset] [(.double (own_f p1 (FP.i2d ((p2 &&& (65535 : Int32)) + (1 : Int32))))), (.double (own_f p0 (FP.i2d ((p2 &&& (65535 : Int32)) + (1 : Int32)))))])) t
      refine XS.dcmpS X3.here hx rfl (hb hby at_36) rfl rfl ?_
      show Steps p.tables e below (T3.setTop (mkF m 37 #[.val (.int p0), .val (.int p1), .val (.int p2), .val (.int ((p2 &&& (65535 : Int32)) + (1 : Int32))), .val (.double (FP.i2d ((p2 &&& (65535 : Int32)) + (1 : Int32)))), .second, .val (.double (own_f p0 (FP.i2d ((p2 &&& (65535 : Int32)) + (1 : Int32))))), .second, .val (.double (own_f p1 (FP.i2d ((p2 &&& (65535 : Int32)) + (1 : Int32))))), .second, .unset, .unset, .unset, .unset, .unset, .unset, .unset, .unset, .unset, .unset, .unset] [(.int (cmpValue (FP.dcmp (own_f p0 (FP.i2d ((p2 &&& (65535 : Int32)) + (1 : Int32)))) (own_f p1 (FP.i2d ((p2 &&& (65535 : Int32)) + (1 : Int32))))) .g))])) t
      refine XS.ifNo X3.here hx rfl (hb hby at_37) rfl ((if0 _ _).trans (flt (own_le hc29_17 : ¬ ((0 : Int32) < (cmpValue (FP.dcmp (own_f p0 (FP.i2d ((p2 &&& (65535 : Int32)) + (1 : Int32)))) (own_f p1 (FP.i2d ((p2 &&& (65535 : Int32)) + (1 : Int32))))) .g)))).2.2.1) ?_
      show Steps p.tables e below (T3.setTop (mkF m 40 #[.val (.int p0), .val (.int p1), .val (.int p2), .val (.int ((p2 &&& (65535 : Int32)) + (1 : Int32))), .val (.double (FP.i2d ((p2 &&& (65535 : Int32)) + (1 : Int32)))), .second, .val (.double (own_f p0 (FP.i2d ((p2 &&& (65535 : Int32)) + (1 : Int32))))), .second, .val (.double (own_f p1 (FP.i2d ((p2 &&& (65535 : Int32)) + (1 : Int32))))), .second, .unset, .unset, .unset, .unset, .unset, .unset, .unset, .unset, .unset, .unset, .unset] [])) t
      refine XS.iconst X3.here hx rfl (hb hby at_40) ?_
      show Steps p.tables e below (T3.setTop (mkF m 41 #[.val (.int p0), .val (.int p1), .val (.int p2), .val (.int ((p2 &&& (65535 : Int32)) + (1 : Int32))), .val (.double (FP.i2d ((p2 &&& (65535 : Int32)) + (1 : Int32)))), .second, .val (.double (own_f p0 (FP.i2d ((p2 &&& (65535 : Int32)) + (1 : Int32))))), .second, .val (.double (own_f p1 (FP.i2d ((p2 &&& (65535 : Int32)) + (1 : Int32))))), .second, .unset, .unset, .unset, .unset, .unset, .unset, .unset, .unset, .unset, .unset, .unset] [(.int (1 : Int32))])) t
      refine XS.goto X3.here hx rfl (pc0 := 41) (pc' := 61) rfl (hb hby at_41) (by decide) (by decide) ?_
      exact k
    exact hJ61 
set_option maxRecDepth 65536 in
set_option maxHeartbeats 40000000 in
theorem comes_1 {Post : Tables → Env → Array Value → State → Outcome → State → Prop} (hpost : ∀ tb e args s v u, (limb_1_1.after args s (.returned v) u = true ∧ limb_1_2.after args s (.returned v) u = true ∧ True) → FrameEnd s (.returned v) u (Jvm.fieldLocs frame_1_writes args s ++ Jvm.arrayLocs frame_1_arrays args s ++ Jvm.staticLocs frame_1_statics s) 0 0 → Post tb e args s (.returned v) u) :
    ArmFor flags0 classFile x code maxLocals ret World_1 tables_1 room_1 Calls_1 rest_1 Pre_1 Post := by
  intro l hfl _ _ p e ha hc hk s m args below hf hA hF happ hP
  obtain ⟨hcalls, hrest, hpre⟩ := hP
  obtain ⟨-, -, -, hnamed, -, -, -, hat⟩ := (Spec.applies_iff hf).mp happ
  obtain ⟨hg, hn⟩ := and_e (Cond.before_iff.mp (show (Jvm.Cond.and given_1 narrow_1).before args s = true from hpre))
  obtain ⟨g0, gg0⟩ := and_e hg
  obtain ⟨g1, gg1⟩ := and_e gg0
  obtain ⟨g2, gg2⟩ := and_e gg1
  obtain ⟨w0, w1, w2, rfl⟩ : ∃ w0 w1 w2 : Value, args = #[w0, w1, w2] := by
    have hs : args.size = 3 := by simpa [Cond.value, given_1] using g0
    obtain ⟨L⟩ := args
    match L, hs with
    | [w0, w1, w2], _ => exact ⟨w0, w1, w2, rfl⟩
  have hw := fun d (hd : d ∈ tables_1) => atoms_spec (ws := Jvm.Cond.code x code maxLocals ret :: tables_1) hat d (List.mem_cons_of_mem _ hd)
  have hfit : Fit s := fun {y c} hc i hi => by
    obtain ⟨ha, rfl⟩ := Array.getElem?_eq_some_iff.mp hc
    have q := List.all_eq_true.mp ((Array.all_eq_true_iff_forall_mem.mp hF) _ (Array.getElem_mem ha)) i (List.mem_range.mpr hi)
    simpa [Array.getElem?_eq_getElem hi] using q
  obtain ⟨p0, ei0⟩ := is_v g1
  obtain rfl : w0 = (.int p0) := Option.some.inj ei0
  obtain ⟨p1, ei1⟩ := is_v g2
  obtain rfl : w1 = (.int p1) := Option.some.inj ei1
  obtain ⟨p2, ei2⟩ := is_v gg2
  obtain rfl : w2 = (.int p2) := Option.some.inj ei2
  obtain ⟨n, o, h1, h2, h3, _, L, rfl, ⟨rfl, N⟩, hq⟩ := rm0 l s _ hw tables_1 p0 p1 p2 s.heap s.heap.size (Nat.le_refl _) p e ha hc hk s m _ below hf ((Spec.applies_iff_loose hf).mp happ).1 ⟨rfl, State.Warmed39.refl s, rfl⟩ trivial
  refine ⟨n, _, h1, h2, h3, hpost _ _ _ _ _ _ ⟨Cond.after_iff.mpr rfl, Cond.after_iff.mpr (eq_i res_at (Term.int_eval (1)) rfl), trivial⟩ ⟨hq.1, hq.2.1, (hq.2.2.sift fun y hy => Or.inr (N y hy)).mono (by decide) (by decide)⟩⟩
theorem main_1_1 : Claimed_1_1 := comes_1 fun _ _ _ _ _ _ h hF => ⟨h.1, hF⟩
theorem main_1_2 : Claimed_1_2 := comes_1 fun _ _ _ _ _ _ h hF => ⟨h.2.1, hF⟩
end Jvm.Pilot.@@N@@
namespace Jvm.Pilot.@@N@@
open Jvm Jvm.ClassFile Sem Op Lib Jvm.Free Jvm.Stand Jvm.Pilot.@@N@@.Jvm.D
/-! MADE BY PROGRAM (witnessworld.py) out of the Statement's table words and the real class files: 9 classes; the members and pool entries that the words name. The judged class is class 1, her method 1. -/
namespace start1
open Jvm.ClassFile
def u (s : String) : CpInfo := .utf8 (stringToUtf16 s)
/-- a pool by its gaps: so many unusable entries, then the entry; so many at the end -/
def gap : Nat → List CpInfo → List CpInfo
  | 0, r => r
  | n + 1, r => .unusable :: gap n r
def poolList (es : List (Nat × CpInfo)) (last : Nat) : List CpInfo := es.foldr (fun e r => gap e.1 (e.2 :: r)) (gap last [])
def pool (es : List (Nat × CpInfo)) (last : Nat) : Array CpInfo := ⟨poolList es last⟩
def fileOf (pool : Array CpInfo) (this : Nat) (attrs : Array Attribute := #[]) (ms : Array MethodInfo := #[]) (fl : Nat := 33) (sup : Nat := 0) (ifs : Array Nat := #[]) (fds : Array FieldInfo := #[]) : ClassFile where
  minorVersion := 0
  majorVersion := 65
  constantPool := pool
  accessFlags := fl
  thisClass := this
  superClass := sup
  interfaces := ifs
  fields := fds
  methods := ms
  attributes := attrs
def plain (name : String) (sup : Option ClassId) : Class where
  name := name
  kind := .ordinary
  loader := none
  accessFlags := 33
  super := sup
  interfaces := #[]
  cf := none
  fields := #[]
  methods := #[]
  instanceTypes := #[]
  staticTypes := #[]
  resolved := #[]
  callSites := []
  init := .initialized
  statics := none
  mirror := none

def pool0 : Array CpInfo := pool [(5, u "<init>"), (0, u "()V"), (1, .class_ 10), (1, u "java/lang/Object")] 113

def k0m0 : Method := { name := "<init>", desc := "()V", sig := { parameters := [], returnType := none }, accessFlags := 1, code := none }
/-- java/lang/Object -/
def k0 : Class := { plain "java/lang/Object" none with
  accessFlags := 33
  interfaces := #[]
  cf := some (fileOf pool0 8 #[] #[{ accessFlags := 1, nameIndex := 5, descriptorIndex := 6, attributes := #[] }] 33 0 #[] #[])
  fields := #[]
  methods := #[k0m0]
  instanceTypes := #[]
  staticTypes := #[]
  resolved := Array.replicate 124 none
  statics := none }

def pool1 : Array CpInfo := pool [(2, .class_ 4), (1, u "java/lang/Object"), (0, u "<init>"), (0, u "()V"), (0, .integer 65535), (0, .methodref 9 10), (0, .class_ 11), (0, .nameAndType 12 13), (0, u "com/example/parkville/parkville/scoring/OkapiWeighting"), (0, u "lengthNorm"), (0, u "(ID)D"), (0, .double 4599075939470750515), (1, .double 4608083138725491507), (1, .double 4611686018427387904), (1, .double 4611888680410619576), (1, .double 4611933716406893281), (1, .double 4604840546993784750), (1, .double 4605020690978879570), (1, .class_ 29), (0, u "com/example/parkville/parkville/scoring/OkapiWeightingLengthNormPinLaw"), (2, u "law"), (0, u "(III)Z")] 3

def k1m0 : Method := { name := "<init>", desc := "()V", sig := { parameters := [], returnType := none }, accessFlags := 2, code := none }
def k1c1 : Code := { maxStack := 5, maxLocals := 21, code := code, exceptionTable := #[], attributes := #[] }
def k1m1 : Method := { name := "law", desc := "(III)Z", sig := { parameters := [.int, .int, .int], returnType := some .boolean }, accessFlags := 9, code := some k1c1 }
/-- com/example/parkville/parkville/scoring/OkapiWeightingLengthNormPinLaw -/
def k1 : Class := { plain "com/example/parkville/parkville/scoring/OkapiWeightingLengthNormPinLaw" (some 0) with
  accessFlags := 49
  interfaces := #[]
  cf := some (fileOf pool1 28 #[] #[{ accessFlags := 2, nameIndex := 5, descriptorIndex := 6, attributes := #[] }, { accessFlags := 9, nameIndex := 32, descriptorIndex := 33, attributes := #[] }] 49 2 #[] #[])
  fields := #[]
  methods := #[k1m0, k1m1]
  instanceTypes := #[]
  staticTypes := #[]
  resolved := Array.replicate 37 none
  statics := none }

def pool2 : Array CpInfo := pool [(1, .class_ 2), (0, u "com/example/parkville/parkville/scoring/OkapiWeighting"), (1, .class_ 6), (1, u "java/lang/Object"), (0, u "<init>"), (0, u "()V"), (10, u "lengthNorm"), (0, u "(ID)D"), (8, u "LEAST_LENGTH_NORM"), (0, u "D"), (0, .double 4608083138725491507), (1, .double 4598175219545276416), (1, .double 4604930618986332160), (1, u "K1"), (1, u "B"), (0, u "OCCURRENCE_WEIGHT_BOUND"), (0, u "GROWING_COUNTS"), (0, u "I")] 11

def k2m0 : Method := { name := "<init>", desc := "()V", sig := { parameters := [], returnType := none }, accessFlags := 2, code := none }
def k2c1 : Code := { maxStack := 8, maxLocals := 5, code := prog_58_method_6_code, exceptionTable := #[], attributes := #[] }
def k2m1 : Method := { name := "lengthNorm", desc := "(ID)D", sig := { parameters := [.int, .double], returnType := some .double }, accessFlags := 8, code := some k2c1 }
/-- com/example/parkville/parkville/scoring/OkapiWeighting -/
def k2 : Class := { plain "com/example/parkville/parkville/scoring/OkapiWeighting" (some 0) with
  accessFlags := 49
  interfaces := #[]
  cf := some (fileOf pool2 1 #[] #[{ accessFlags := 2, nameIndex := 7, descriptorIndex := 8, attributes := #[] }, { accessFlags := 8, nameIndex := 19, descriptorIndex := 20, attributes := #[] }] 49 4 #[] #[{ accessFlags := 26, nameIndex := 37, descriptorIndex := 30, attributes := #[] }, { accessFlags := 26, nameIndex := 39, descriptorIndex := 30, attributes := #[] }, { accessFlags := 24, nameIndex := 40, descriptorIndex := 30, attributes := #[] }, { accessFlags := 26, nameIndex := 41, descriptorIndex := 42, attributes := #[] }, { accessFlags := 26, nameIndex := 29, descriptorIndex := 30, attributes := #[] }])
  fields := #[{ name := "K1", type := .double, accessFlags := 26, slot := 0, constantValue := 0 }, { name := "B", type := .double, accessFlags := 26, slot := 1, constantValue := 0 }, { name := "OCCURRENCE_WEIGHT_BOUND", type := .double, accessFlags := 24, slot := 2, constantValue := 0 }, { name := "GROWING_COUNTS", type := .int, accessFlags := 26, slot := 3, constantValue := 0 }, { name := "LEAST_LENGTH_NORM", type := .double, accessFlags := 26, slot := 4, constantValue := 0 }]
  methods := #[k2m0, k2m1]
  instanceTypes := #[]
  staticTypes := #[.double, .double, .double, .int, .double]
  resolved := Array.replicate 54 none
  statics := none }

def pool3 : Array CpInfo := pool [(1, u "java/lang/Cloneable"), (0, .class_ 1), (0, u "java/lang/Object"), (0, .class_ 3)] 3

/-- java/lang/Cloneable -/
def k3 : Class := { plain "java/lang/Cloneable" (some 0) with
  accessFlags := 1537
  interfaces := #[]
  cf := some (fileOf pool3 2 #[] #[] 1537 4 #[] #[])
  fields := #[]
  methods := #[]
  instanceTypes := #[]
  staticTypes := #[]
  resolved := Array.replicate 8 none
  statics := none }

def pool4 : Array CpInfo := pool [(1, u "java/io/Serializable"), (0, .class_ 1), (0, u "java/lang/Object"), (0, .class_ 3)] 3

/-- java/io/Serializable -/
def k4 : Class := { plain "java/io/Serializable" (some 0) with
  accessFlags := 1537
  interfaces := #[]
  cf := some (fileOf pool4 2 #[] #[] 1537 4 #[] #[])
  fields := #[]
  methods := #[]
  instanceTypes := #[]
  staticTypes := #[]
  resolved := Array.replicate 8 none
  statics := none }

/-- the primitive byte -/
def k5 : Class := { plain "byte" none with kind := .primitive 'B', accessFlags := 0x411 }
/-- [B -/
def k6 : Class := { plain "[B" (some 0) with kind := .array 5 .byte, interfaces := #[3, 4], accessFlags := 1041 }

/-- the primitive int -/
def k7 : Class := { plain "int" none with kind := .primitive 'I', accessFlags := 0x411 }
/-- [I -/
def k8 : Class := { plain "[I" (some 0) with kind := .array 7 .int, interfaces := #[3, 4], accessFlags := 1041 }

def heap : Heap := #[]
def classes : Array Class := #[k0, k1, k2, k3, k4, k5, k6, k7, k8]
def interned : List (Array UInt16 × Addr) := []
def slotsUsed : Nat := 0
def theMethod : MethodId := ⟨1, 1⟩
def args0 : Array Value := #[.int 1, .int 1, .int 1]
def aboutOver (below : List Frame) : State where
  vm := { classes := classes, interned := interned.toArray }
  heap := heap
  slotsUsed := slotsUsed
  threads := #[{ frames := .invoking theMethod args0 :: below }]
def below0 : List Frame := [.native { method := ⟨0, 0⟩, args := #[] }]
def about1 : State := aboutOver below0
def p0 : Program := .bare "" "" ""
def e0 : Env := launch0.env 0 0 0
theorem w_frames : about1.frames = Frame.invoking theMethod args0 :: below0 := rfl
set_option maxRecDepth 65536 in
theorem w_args : argsFit about1.vm theMethod args0 = true := by decide +kernel
set_option maxRecDepth 65536 in
theorem w_heap : heapFits about1 = true := by decide +kernel
set_option maxRecDepth 65536 in
theorem w_runnable : about1.curStatus? = some .runnable := by decide +kernel
set_option maxRecDepth 65536 in
theorem w_alone : about1.alone = true := by decide +kernel
set_option maxRecDepth 65536 in
theorem w_named : about1.methodNamed? x = some theMethod := by decide +kernel
set_option maxRecDepth 65536 in
theorem w_hears : about1.hears theMethod below0 = true := by decide +kernel
set_option maxRecDepth 65536 in
theorem w_ripe : about1.ripe theMethod args0 below0 = true := by decide +kernel
theorem w_running : about1.status = .running := rfl
set_option maxRecDepth 65536 in
theorem w_room : about1.hasRoom e0.platform room_1 = true :=
  launch0.hasRoom_least _ room_1 (by decide +kernel) (by decide +kernel) (by decide +kernel) (by decide +kernel) (by decide +kernel) (by decide +kernel)
theorem allAtoms_all (ts : List Jvm.Cond) (a : Array Jvm.Value) (st : Jvm.State) : (allAtoms ts).before a st = ts.all (fun c => c.before a st) := by
  induction ts with
  | nil => rfl
  | cons c t ih =>
    show (Jvm.Cond.and c (allAtoms t)).before a st = _
    rw [Jvm.Cond.before_and, ih, List.all_cons]
def words1 : List Jvm.Cond := Jvm.Cond.code x code maxLocals ret :: tables_1
/-- a 'code' word, met by the world's own term for the bytes: nothing is compared byte by byte -/
theorem code_word {y : MethodName} {bytes : ByteArray} {mx : Nat} {rt : Option FieldType} {a : Array Value} {s : State} {m : MethodId} {meth : Method} {c : Code} (h1 : s.methodNamed? y = some m) (h2 : s.vm.method? m = some meth) (h3 : meth.code = some c) (h4 : c.code = bytes)
    (h5 : (c.maxLocals == mx && c.exceptionTable.isEmpty && decide (c.maxStack ≤ mostOperands) && decide (meth.sig.returnType = rt) && !meth.locks && decide (parseMethodDescriptor y.desc = some meth.sig)) = true) : (Jvm.Cond.code y bytes mx rt).before a s = true := by
  simp only [Bool.and_eq_true, beq_iff_eq, Bool.not_eq_true', decide_eq_true_eq] at h5
  obtain ⟨⟨⟨⟨⟨g1, g2⟩, g3⟩, g4⟩, g5⟩, g6⟩ := h5
  simp [Cond.before, Cond.holds, Cond.value, h1, h2, h3, h4, g1, g2, g3, g4, g5, g6]
def isCode : Jvm.Cond → Bool
  | .code _ _ _ _ => true
  | _ => false
theorem all_split {L : List Jvm.Cond} {P : Jvm.Cond → Bool} (h1 : L.all (fun c => isCode c || P c) = true) (h2 : ∀ c ∈ L.filter isCode, P c = true) : L.all P = true := by
  refine List.all_eq_true.mpr fun c hc => ?_
  have h := List.all_eq_true.mp h1 c hc
  rcases Bool.eq_false_or_eq_true (isCode c) with hi | hi
  · exact h2 c (List.mem_filter.mpr ⟨hc, hi⟩)
  · simpa [hi] using h
set_option maxRecDepth 65536 in
theorem w_c0 : (Jvm.Cond.code x code maxLocals ret).before args0 about1 = true := code_word (m := ⟨1, 1⟩) (meth := k1m1) (c := k1c1) (by decide +kernel) rfl rfl rfl (by decide +kernel)
set_option maxRecDepth 65536 in
theorem w_c1 : (Jvm.Cond.code ({ cls := "com/example/parkville/parkville/scoring/OkapiWeighting", name := "lengthNorm", desc := "(ID)D" } : Jvm.MethodName) prog_58_method_6_code (5 : Nat) (Option.some Jvm.ClassFile.FieldType.double)).before args0 about1 = true := code_word (m := ⟨2, 1⟩) (meth := k2m1) (c := k2c1) (by decide +kernel) rfl rfl rfl (by decide +kernel)
def codes1 : List Jvm.Cond := [Jvm.Cond.code x code maxLocals ret, Jvm.Cond.code ({ cls := "com/example/parkville/parkville/scoring/OkapiWeighting", name := "lengthNorm", desc := "(ID)D" } : Jvm.MethodName) prog_58_method_6_code (5 : Nat) (Option.some Jvm.ClassFile.FieldType.double)]
set_option maxRecDepth 65536 in
theorem codes_eq : words1.filter isCode = codes1 := rfl
theorem w_codes : ∀ c ∈ words1.filter isCode, c.before args0 about1 = true := by
  rw [codes_eq]
  intro c hc
  simp only [codes1, List.mem_cons, List.not_mem_nil, or_false] at hc
  rcases hc with rfl | rfl
  · exact w_c0
  · exact w_c1
set_option maxRecDepth 65536 in
theorem w_t1 : words1.all (fun c => isCode c || c.before args0 about1) = true := by decide +kernel
theorem w_tables : (allAtoms (Jvm.Cond.code x code maxLocals ret :: tables_1)).before args0 about1 = true := by
  rw [allAtoms_all]
  show words1.all (fun c => c.before args0 about1) = true
  refine all_split ?_ w_codes
  rw [w_t1]
set_option maxRecDepth 65536 in
theorem w_case : (Jvm.Cond.and given_1 narrow_1).before args0 about1 = true := by decide +kernel
theorem w_applies : (headSpec (Jvm.Cond.code x code maxLocals ret :: tables_1) room_1).applies x e0.platform about1 = true :=
  (Spec.applies_iff w_frames).mpr ⟨w_running, w_runnable, w_alone, w_named, w_hears, w_ripe, w_room, w_tables⟩
theorem atStart : AtStart classFile x code maxLocals ret World_1 tables_1 room_1 Calls_1 rest_1 Pre_1 launch0 p0 e0 about1 theMethod args0 below0 :=
  ⟨lists_1, trivial, launch0.admits_env _ _ _, launch0.least_env, fairChoices_fair.cas, fairChoices_fair.clock, w_frames, w_args, w_heap, w_applies, trivial, trivial, w_case⟩
end start1
theorem witness_1 : WitnessClaimed_1 := ⟨start1.p0, start1.e0, start1.about1, start1.theMethod, start1.args0, start1.below0, start1.atStart⟩
end Jvm.Pilot.@@N@@
