import JvmDerived
import JvmDerived.Pilot.@@N@@Statement
import JvmDerived.Pilot.@@N@@Code
set_option linter.unusedVariables false
set_option linter.unusedSimpArgs false
namespace Jvm.Pilot.@@N@@
open Jvm Jvm.ClassFile Sem Op Lib Jvm.Free Jvm.Stand Jvm.LawKit Jvm.RoadKit Bundle Jvm.Pilot.@@N@@.Jvm.D
section OwnWalk
variable {p : Program} {l : Launch} {e : Env} {R : Room} {s : State} {m : MethodId} {args : Array Value} {below : List Frame} {meth : Method} {c : Code} {T T' : State} {locs : List Loc} {cells slots kc ks : Nat} {g g' : JFrame} {Q : Option Value → Heap → List Loc → Prop}
/-- from here the run comes to its end, and the end is as Q says -/
def own_G (p : Program) (e : Env) (below : List Frame) (s : State) (Q : Option Value → Heap → List Loc → Prop) (kc ks : Nat) (T : State) (g : JFrame) : Prop :=
  ∃ s₂ o, Steps p.tables e below (T.setTop g) s₂ ∧ s₂.status = .running ∧ Ended s₂ below o ∧ ∃ v L, o = .returned v ∧ Q v s₂.heap L ∧ FrameEnd s o s₂ L kc ks
theorem own_fe {Z : State} {h : Heap} {a : Addr} {C n d : String} {v v' : Value} (q : Fld Z h a C n d v) (e : v = v') : Fld Z h a C n d v' := e ▸ q
theorem own_ve {Z : State} {h : Heap} {a : Addr} {k : ClassId} {ty : FieldType} {n : Int32} {vs vs' : List Value} {d : Value} (q : Arv Z h a k ty n vs d) (e : vs = vs') : Arv Z h a k ty n vs' d := e ▸ q
theorem own_gs {vs : List Value} {j : Nat} {v d : Value} (h : j < vs.length) : (vs.set j v).getD j d = v := by simp [List.getD_eq_getElem?_getD, h]
theorem own_ge {vs : List Value} {i j : Nat} {v d : Value} (e : i = j) (h : j < vs.length) : (vs.set i v).getD j d = v := by subst e; exact own_gs h
theorem own_gn {vs : List Value} {i j : Nat} {v w d : Value} (h : i ≠ j) (q : vs.getD j d = w) : (vs.set i v).getD j d = w := by rw [List.getD_eq_getElem?_getD, List.getElem?_set_ne h, ← List.getD_eq_getElem?_getD]; exact q
theorem own_ls {vs : List Value} {i j : Nat} {v : Value} (h : j < vs.length) : j < (vs.set i v).length := by rw [List.length_set]; exact h
theorem own_enter (q : g = g') (k : own_G p e below s Q kc ks T g') : own_G p e below s Q kc ks T g := q ▸ k
theorem own_st (st : ∀ t, Steps p.tables e below (T'.setTop g') t → Steps p.tables e below (T.setTop g) t) (k : own_G p e below s Q kc ks T' g') : own_G p e below s Q kc ks T g := by
  obtain ⟨s₂, o, h1, h2⟩ := k
  exact ⟨s₂, o, st _ h1, h2⟩
theorem own_tr (st : Steps p.tables e below (T.setTop g) (T'.setTop g')) (k : own_G p e below s Q kc ks T' g') : own_G p e below s Q kc ks T g := own_st (fun _ h => st.trans h) k
theorem own_ret (X : Stand p l e R s m args below meth c T locs cells slots) (hx : p.tables.exec = Jvm.exec) (hlk : meth.locks = false) {pc : Nat} {Ls : Array Slot} {w : Value} {t : FieldType} {i : Instr} {rest : List Value} (hret : meth.sig.returnType = some t) (hn : narrow t w = w)
    (hi : (i = .ireturn ∧ (t = .int ∨ t = .boolean ∨ t = .byte ∨ t = .char ∨ t = .short) ∧ ∃ z, w = .int z) ∨ (i = .lreturn ∧ t = .long ∧ ∃ z, w = .long z) ∨ (i = .dreturn ∧ t = .double ∧ ∃ z, w = .double z) ∨ (i = .freturn ∧ t = .float ∧ ∃ z, w = .float z) ∨ (i = .areturn ∧ t.isReference = true ∧ w.isRef = true))
    (hd : decode c.code pc = .ok (i, 1)) (hc : cells ≤ kc) (hs : slots ≤ ks) (hQ : Q (some w) T.heap locs) : own_G p e below s Q kc ks T (mkF m pc Ls (w :: rest)) := by
  obtain ⟨fs, hr, hrun, hended, hW, hsame⟩ := X.leave (v := some w) (fun h => by rw [hret] at h; cases h) hlk
  exact ⟨_, _, retOut X hx hret hn hi hd hr, hrun, hended, _, _, rfl, hQ, ⟨_, rfl⟩, hW, hsame.mono hc hs⟩
theorem own_retI (X : Stand p l e R s m args below meth c T locs cells slots) (hx : p.tables.exec = Jvm.exec) (hlk : meth.locks = false) {pc : Nat} {Ls : Array Slot} {z : Int32} {rest : List Value} (hret : meth.sig.returnType = some .int)
    (hd : decode c.code pc = .ok (.ireturn, 1)) (hc : cells ≤ kc) (hs : slots ≤ ks) (hQ : Q (some (.int z)) T.heap locs) : own_G p e below s Q kc ks T (mkF m pc Ls (.int z :: rest)) :=
  own_ret X hx hlk hret rfl (Or.inl ⟨rfl, Or.inl rfl, z, rfl⟩) hd hc hs hQ
theorem own_retZ (X : Stand p l e R s m args below meth c T locs cells slots) (hx : p.tables.exec = Jvm.exec) (hlk : meth.locks = false) {pc : Nat} {Ls : Array Slot} {z : Int32} {rest : List Value} (hret : meth.sig.returnType = some .boolean)
    (hd : decode c.code pc = .ok (.ireturn, 1)) (hn : narrow .boolean (.int z) = .int z) (hc : cells ≤ kc) (hs : slots ≤ ks) (hQ : Q (some (.int z)) T.heap locs) : own_G p e below s Q kc ks T (mkF m pc Ls (.int z :: rest)) :=
  own_ret X hx hlk hret hn (Or.inl ⟨rfl, Or.inr (Or.inl rfl), z, rfl⟩) hd hc hs hQ
theorem own_retJ (X : Stand p l e R s m args below meth c T locs cells slots) (hx : p.tables.exec = Jvm.exec) (hlk : meth.locks = false) {pc : Nat} {Ls : Array Slot} {z : Int64} {rest : List Value} (hret : meth.sig.returnType = some .long)
    (hd : decode c.code pc = .ok (.lreturn, 1)) (hc : cells ≤ kc) (hs : slots ≤ ks) (hQ : Q (some (.long z)) T.heap locs) : own_G p e below s Q kc ks T (mkF m pc Ls (.long z :: rest)) :=
  own_ret X hx hlk hret rfl (Or.inr (Or.inl ⟨rfl, rfl, z, rfl⟩)) hd hc hs hQ
theorem own_retD (X : Stand p l e R s m args below meth c T locs cells slots) (hx : p.tables.exec = Jvm.exec) (hlk : meth.locks = false) {pc : Nat} {Ls : Array Slot} {z : UInt64} {rest : List Value} (hret : meth.sig.returnType = some .double)
    (hd : decode c.code pc = .ok (.dreturn, 1)) (hc : cells ≤ kc) (hs : slots ≤ ks) (hQ : Q (some (.double z)) T.heap locs) : own_G p e below s Q kc ks T (mkF m pc Ls (.double z :: rest)) :=
  own_ret X hx hlk hret rfl (Or.inr (Or.inr (Or.inl ⟨rfl, rfl, z, rfl⟩))) hd hc hs hQ
theorem own_retA (X : Stand p l e R s m args below meth c T locs cells slots) (hx : p.tables.exec = Jvm.exec) (hlk : meth.locks = false) {pc : Nat} {Ls : Array Slot} {w : Value} {t : FieldType} {rest : List Value} (hret : meth.sig.returnType = some t) (ht : t.isReference = true) (hw : w.isRef = true)
    (hd : decode c.code pc = .ok (.areturn, 1)) (hc : cells ≤ kc) (hs : slots ≤ ks) (hQ : Q (some w) T.heap locs) : own_G p e below s Q kc ks T (mkF m pc Ls (w :: rest)) :=
  own_ret X hx hlk hret (by cases t <;> first | (cases ht; done) | (cases w <;> first | (cases hw; done) | rfl)) (Or.inr (Or.inr (Or.inr (Or.inr ⟨rfl, ht, hw⟩)))) hd hc hs hQ
theorem own_retV (X : Stand p l e R s m args below meth c T locs cells slots) (hx : p.tables.exec = Jvm.exec) (hlk : meth.locks = false) {pc : Nat} {Ls : Array Slot} (hret : meth.sig.returnType = none)
    (hd : decode c.code pc = .ok (.return_, 1)) (hc : cells ≤ kc) (hs : slots ≤ ks) (hQ : Q none T.heap locs) : own_G p e below s Q kc ks T (mkF m pc Ls []) := by
  obtain ⟨fs, hr, hrun, hended, hW, hsame⟩ := X.leave (v := none) (fun _ => rfl) hlk
  exact ⟨_, _, X.returnOut hx hret hd hr, hrun, hended, _, _, rfl, hQ, ⟨_, rfl⟩, hW, hsame.mono hc hs⟩
end OwnWalk
section OwnFloat
/-! ## Doubles as fractions: x is n / 2^k, exactly -/
def own_Dy (x : UInt64) (n : Int) (k : Nat) : Prop :=
  (∃ s c q, FP.Core.val64 x = .fin s c q) ∧ k ≤ 1074 ∧ FP.Core.zval FP.Core.b64 (FP.Core.val64 x) = n * ((2 ^ (1074 - k) : Nat) : Int)
theorem own_qmax : FP.Core.b64.qmax = 971 := by decide
theorem own_p : FP.Core.b64.p = 53 := by decide
theorem own_signed_abs (n : Int) : FP.Core.signed (decide (n < 0)) n.natAbs = n := by
  unfold FP.Core.signed; by_cases h : n < 0 <;> simp [h] <;> omega
/-- every n / 2^k with |n| < 2^53 is a double's value -/
theorem own_fitV {n : Int} {k : Nat} (hk : k ≤ 1074) (hn : n.natAbs < 9007199254740992) :
    ∃ V, FP.Core.fits FP.Core.b64 V ∧ (∃ s c q, V = .fin s c q) ∧ FP.Core.zval FP.Core.b64 V = n * ((2 ^ (1074 - k) : Nat) : Int) := by
  obtain ⟨c', q', h1, h2⟩ := FP.Core.round_exact FP.Core.good_b64 (decide (n < 0)) (c := n.natAbs) (q := -(k : Int)) (by rw [own_p]; exact hn) (by rw [FP.Core.qmin_b64]; omega) (by rw [own_qmax]; omega)
  refine ⟨_, FP.Core.round_fits FP.Core.good_b64 (.fin (decide (n < 0)) n.natAbs (-(k : Int))), ⟨_, _, _, h1⟩, ?_⟩
  rw [h1]
  show FP.Core.signed (decide (n < 0)) (FP.Core.inUnits c' q' FP.Core.b64.qmin) = _
  rw [h2]
  unfold FP.Core.inUnits
  rw [FP.Core.qmin_b64, show (-(k : Int) - -1074).toNat = 1074 - k by omega, FP.Core.signed_mul, own_signed_abs]
/-- what is worth n / 2^k rounds to that -/
theorem own_round {s : Bool} {c : Nat} {q e0 n : Int} {k : Nat} (hk : k ≤ 1074) (hn : n.natAbs < 9007199254740992) (h0 : e0 ≤ -1074) (h1 : e0 ≤ q)
    (h : FP.Core.signed s (FP.Core.inUnits c q e0) = n * ((2 ^ (1074 - k) : Nat) : Int) * ((2 ^ (-1074 - e0).toNat : Nat) : Int)) :
    (∃ s' c' q', FP.Core.round FP.Core.b64 (.fin s c q) = .fin s' c' q') ∧ FP.Core.zval FP.Core.b64 (FP.Core.round FP.Core.b64 (.fin s c q)) = n * ((2 ^ (1074 - k) : Nat) : Int) := by
  obtain ⟨V, v1, ⟨vs, vc, vq, v2⟩, v3⟩ := own_fitV hk hn
  have hne : V ≠ .nan := by rw [v2]; exact FP.Core.Datum.noConfusion
  have hq := FP.Core.qmin_b64
  have le := FP.Core.zval_round_le FP.Core.good_b64 (s := s) (c := c) (q := q) (e0 := e0) v1 hne (by rw [hq]; exact h0) h1 (by rw [hq, v3, h]; exact Int.le_refl _)
  have ge := FP.Core.zval_round_ge FP.Core.good_b64 (s := s) (c := c) (q := q) (e0 := e0) v1 hne (by rw [hq]; exact h0) h1 (by rw [hq, v3, h]; exact Int.le_refl _)
  have e : FP.Core.zval FP.Core.b64 (FP.Core.round FP.Core.b64 (.fin s c q)) = FP.Core.zval FP.Core.b64 V := Int.le_antisymm le ge
  refine ⟨?_, e.trans v3⟩
  rcases FP.Core.roundRatio_cases FP.Core.b64 s c 1 q with ⟨c', q', h'⟩ | h'
  · exact ⟨_, _, _, h'⟩
  · exfalso
    have e' : FP.Core.zval FP.Core.b64 (FP.Core.roundRatio FP.Core.b64 s c 1 q) = FP.Core.zval FP.Core.b64 V := e
    rw [h', v2] at e'
    rw [v2] at v1
    have hlt := FP.Core.zmag_lt_top FP.Core.good_b64 v1
    have e2 : FP.Core.signed s (FP.Core.b64.tails * 2 ^ (FP.Core.b64.exps - 2)) = FP.Core.signed vs (FP.Core.inUnits vc vq FP.Core.b64.qmin) := e'
    clear e'
    generalize FP.Core.inUnits vc vq FP.Core.b64.qmin = a at e2 hlt
    generalize FP.Core.b64.tails * 2 ^ (FP.Core.b64.exps - 2) = b at e2 hlt
    cases s <;> cases vs <;> simp only [FP.Core.signed, if_true, Bool.false_eq_true, if_false] at e2 <;> omega
theorem own_Dy.fin {x : UInt64} {n : Int} {k : Nat} (h : own_Dy x n k) : Fl.Fin64 x := by
  obtain ⟨⟨s, c, q, h1⟩, -⟩ := h
  exact Fl.fin64_core.mpr ⟨s, c, q, h1⟩
theorem own_Dy.nn {x : UInt64} {n : Int} {k : Nat} (h : own_Dy x n k) : Fl.NoNaN64 x := h.fin.noNaN
theorem own_Dy.ne {x : UInt64} {n : Int} {k : Nat} (h : own_Dy x n k) : FP.Core.val64 x ≠ .nan := by
  obtain ⟨⟨s, c, q, h1⟩, -⟩ := h; rw [h1]; exact FP.Core.Datum.noConfusion
theorem own_pow {j k : Nat} (h : j + k ≤ 1074) : ((2 ^ (1074 - j) : Nat) : Int) = ((2 ^ k : Nat) : Int) * ((2 ^ (1074 - (j + k)) : Nat) : Int) := by
  rw [← Int.natCast_mul, ← Nat.pow_add]; congr 2; omega
/-- the same number, with a greater denominator -/
theorem own_Dy.up {x : UInt64} {n : Int} {k : Nat} (h : own_Dy x n k) (j : Nat) (hj : k + j ≤ 1074) : own_Dy x (n * ((2 ^ j : Nat) : Int)) (k + j) := by
  obtain ⟨h1, -, h3⟩ := h
  refine ⟨h1, hj, ?_⟩
  rw [h3, own_pow hj, Int.mul_assoc]
theorem own_Dy.dn {x : UInt64} {n : Int} {k j : Nat} (h : own_Dy x (n * ((2 ^ j : Nat) : Int)) (k + j)) : own_Dy x n k := by
  obtain ⟨h1, h2, h3⟩ := h
  refine ⟨h1, by omega, ?_⟩
  rw [h3, own_pow h2, Int.mul_assoc]
theorem own_dy_l2d {a : Int64} (h1 : -9007199254740992 < a.toInt) (h2 : a.toInt < 9007199254740992) : own_Dy (FP.l2d a) a.toInt 0 := by
  have hr := own_round (s := decide (a.toInt < 0)) (c := a.toInt.natAbs) (q := 0) (e0 := -1074) (n := a.toInt) (k := 0) (by omega) (by omega) (by omega) (by omega) (by
    unfold FP.Core.inUnits
    rw [FP.Core.signed_mul, own_signed_abs, show (0 - -1074 : Int).toNat = 1074 from rfl, show (-1074 - -1074 : Int).toNat = 0 from rfl, Nat.pow_zero, Int.natCast_one, Int.mul_one])
  have hv : FP.Core.val64 (FP.l2d a) = FP.Core.round FP.Core.b64 (.fin (decide (a.toInt < 0)) a.toInt.natAbs 0) := FP.Core.val64_l2d a
  unfold own_Dy
  rw [hv]
  exact ⟨hr.1, by omega, hr.2⟩
theorem own_dy_i2d (a : Int32) : own_Dy (FP.i2d a) a.toInt 0 := by
  have h := Int32.toInt_lt a
  have h' := Int32.le_toInt a
  have e : a.toInt64.toInt = a.toInt := Int32.toInt_toInt64 a
  have := own_dy_l2d (a := a.toInt64) (by omega) (by omega)
  rw [e] at this
  exact (FP.Core.i2d_l2d a ▸ this : own_Dy (FP.Core.i2d a) a.toInt 0)
theorem own_Dy.add {x y : UInt64} {n m : Int} {k : Nat} (hx : own_Dy x n k) (hy : own_Dy y m k) (h : (n + m).natAbs < 9007199254740992) : own_Dy (FP.dadd x y) (n + m) k := by
  obtain ⟨⟨s, c, q, hx1⟩, hk, hx3⟩ := hx
  obtain ⟨⟨t, d, r, hy1⟩, -, hy3⟩ := hy
  obtain ⟨sg, w, e, h1, h2, h3⟩ := FP.Core.sum_units (f := FP.Core.b64) (hx1 ▸ FP.Core.val64_fits x) (hy1 ▸ FP.Core.val64_fits y)
  have hq := FP.Core.qmin_b64
  rw [← hx1, ← hy1, hx3, hy3, ← Int.add_mul] at h3
  have hr := own_round (s := sg) (c := w) (q := e) (e0 := -1074) (n := n + m) (k := k) hk h (by omega) (by rw [hq] at h2; exact h2) (by
    rw [hq] at h3; rw [h3, show (-1074 - -1074 : Int).toNat = 0 from rfl, Nat.pow_zero, Int.natCast_one, Int.mul_one])
  have hv : FP.Core.val64 (FP.dadd x y) = FP.Core.round FP.Core.b64 (.fin sg w e) := by
    have := FP.Core.val64_dadd x y
    rw [hx1, hy1, h1] at this
    exact this
  unfold own_Dy
  rw [hv]
  exact ⟨hr.1, hk, hr.2⟩
theorem own_Dy.sub {x y : UInt64} {n m : Int} {k : Nat} (hx : own_Dy x n k) (hy : own_Dy y m k) (h : (n - m).natAbs < 9007199254740992) : own_Dy (FP.dsub x y) (n - m) k := by
  obtain ⟨⟨s, c, q, hx1⟩, hk, hx3⟩ := hx
  obtain ⟨⟨t, d, r, hy1⟩, -, hy3⟩ := hy
  have hyn : FP.Core.fits FP.Core.b64 (FP.Core.negate (.fin t d r)) := FP.Core.negate_fits (hy1 ▸ FP.Core.val64_fits y)
  obtain ⟨sg, w, e, h1, h2, h3⟩ := FP.Core.sum_units (f := FP.Core.b64) (s := s) (c := c) (q := q) (t := !t) (d := d) (r := r) (hx1 ▸ FP.Core.val64_fits x) hyn
  have hq := FP.Core.qmin_b64
  have hneg : FP.Core.zval FP.Core.b64 (.fin (!t) d r) = -(m * ((2 ^ (1074 - k) : Nat) : Int)) := by
    rw [← hy3, hy1]; exact FP.Core.zval_negate FP.Core.b64 (.fin t d r)
  rw [← hx1, hx3, hneg, ← Int.sub_eq_add_neg, ← Int.sub_mul] at h3
  have hr := own_round (s := sg) (c := w) (q := e) (e0 := -1074) (n := n - m) (k := k) hk h (by omega) (by rw [hq] at h2; exact h2) (by
    rw [hq] at h3; rw [h3, show (-1074 - -1074 : Int).toNat = 0 from rfl, Nat.pow_zero, Int.natCast_one, Int.mul_one])
  have hv : FP.Core.val64 (FP.dsub x y) = FP.Core.round FP.Core.b64 (.fin sg w e) := by
    have := FP.Core.val64_dsub x y
    rw [hx1, hy1] at this
    exact this.trans (congrArg _ h1)
  unfold own_Dy
  rw [hv]
  exact ⟨hr.1, hk, hr.2⟩
theorem own_Dy.mul {x y : UInt64} {n m : Int} {k j : Nat} (hx : own_Dy x n k) (hy : own_Dy y m j) (hkj : k + j ≤ 1074) (h : (n * m).natAbs < 9007199254740992) : own_Dy (FP.dmul x y) (n * m) (k + j) := by
  obtain ⟨⟨s, c, q, hx1⟩, hk, hx3⟩ := hx
  obtain ⟨⟨t, d, r, hy1⟩, hj, hy3⟩ := hy
  obtain ⟨h1, h2, h3⟩ := FP.Core.product_units (f := FP.Core.b64) (hx1 ▸ FP.Core.val64_fits x) (hy1 ▸ FP.Core.val64_fits y)
  have hq := FP.Core.qmin_b64
  have hs : FP.Core.signed (s != t) (FP.Core.zmag FP.Core.b64 (.fin s c q) * FP.Core.zmag FP.Core.b64 (.fin t d r)) = FP.Core.zval FP.Core.b64 (.fin s c q) * FP.Core.zval FP.Core.b64 (.fin t d r) := by
    show _ = FP.Core.signed s (FP.Core.zmag FP.Core.b64 (.fin s c q)) * FP.Core.signed t (FP.Core.zmag FP.Core.b64 (.fin t d r))
    generalize FP.Core.zmag FP.Core.b64 (.fin s c q) = a
    generalize FP.Core.zmag FP.Core.b64 (.fin t d r) = b
    cases s <;> cases t <;> simp [FP.Core.signed, Int.natCast_mul, Int.neg_mul, Int.mul_neg]
  have hr := own_round (s := s != t) (c := c * d) (q := q + r) (e0 := -2148) (n := n * m) (k := k + j) hkj h (by omega) (by rw [hq] at h2; omega) (by
    rw [hq] at h3
    have h3' : FP.Core.inUnits (c * d) (q + r) (-2148) = FP.Core.zmag FP.Core.b64 (FP.Core.Datum.fin s c q) * FP.Core.zmag FP.Core.b64 (FP.Core.Datum.fin t d r) := h3
    rw [h3', hs, ← hx1, ← hy1, hx3, hy3, show (-1074 - -2148 : Int).toNat = 1074 from rfl]
    have e1 : ((2 ^ (1074 - k) : Nat) : Int) * ((2 ^ (1074 - j) : Nat) : Int) = ((2 ^ (1074 - (k + j)) : Nat) : Int) * ((2 ^ 1074 : Nat) : Int) := by
      rw [← Int.natCast_mul, ← Int.natCast_mul, ← Nat.pow_add, ← Nat.pow_add]; congr 2; omega
    generalize ((2 ^ (1074 - k) : Nat) : Int) = A at e1 ⊢
    generalize ((2 ^ (1074 - j) : Nat) : Int) = B at e1 ⊢
    generalize ((2 ^ (1074 - (k + j)) : Nat) : Int) = C at e1 ⊢
    generalize ((2 ^ 1074 : Nat) : Int) = D at e1 ⊢
    calc n * A * (m * B) = n * m * (A * B) := by ac_rfl
      _ = n * m * C * D := by rw [e1]; ac_rfl)
  have hv : FP.Core.val64 (FP.dmul x y) = FP.Core.round FP.Core.b64 (.fin (s != t) (c * d) (q + r)) := by
    have := FP.Core.val64_dmul x y
    rw [hx1, hy1] at this
    exact this.trans (congrArg _ h1)
  unfold own_Dy
  rw [hv]
  exact ⟨hr.1, hkj, hr.2⟩
theorem own_Dy.cmp {x y : UInt64} {n m : Int} {k : Nat} (hx : own_Dy x n k) (hy : own_Dy y m k) : FP.dcmp x y = some (compare n m) := by
  have h := FP.Core.dcmp_zval hx.ne hy.ne
  rw [hx.2.2, hy.2.2, FP.Core.compare_mul_pos _ _ _ (by have := Nat.two_pow_pos (1074 - k); omega)] at h
  exact h
theorem own_Dy.eq {x y : UInt64} {n m : Int} {k : Nat} (hx : own_Dy x n k) (hy : own_Dy y m k) (h : n = m) (o : CmpOp) : cmpValue (FP.dcmp x y) o = 0 := by
  rw [hx.cmp hy, (FP.Core.compare_eq_iff n m).mpr h]; rfl
theorem own_Dy.lt {x y : UInt64} {n m : Int} {k : Nat} (hx : own_Dy x n k) (hy : own_Dy y m k) (h : n < m) (o : CmpOp) : cmpValue (FP.dcmp x y) o = -1 := by
  rw [hx.cmp hy, (FP.Core.compare_lt_iff n m).mpr h]; rfl
theorem own_Dy.gt {x y : UInt64} {n m : Int} {k : Nat} (hx : own_Dy x n k) (hy : own_Dy y m k) (h : m < n) (o : CmpOp) : cmpValue (FP.dcmp x y) o = 1 := by
  rw [hx.cmp hy, (FP.Core.compare_gt_iff n m).mpr h]; rfl
end OwnFloat
section OwnInt
theorem own_ladd {a b : Int64} (h : (a.toInt + b.toInt).natAbs < 9223372036854775808) : (a + b).toInt = a.toInt + b.toInt := by
  have q := c_ladd a b; have r := rng64 (a + b); omega
theorem own_lsub {a b : Int64} (h : (a.toInt - b.toInt).natAbs < 9223372036854775808) : (a - b).toInt = a.toInt - b.toInt := by
  have q := c_lsub a b; have r := rng64 (a - b); omega
theorem own_lmul {a b : Int64} (h : (a.toInt * b.toInt).natAbs < 9223372036854775808) : (a * b).toInt = a.toInt * b.toInt := by
  have q := c_lmul a b; have r := rng64 (a * b); generalize a.toInt * b.toInt = z at *; omega
theorem own_iadd {a b : Int32} (h : (a.toInt + b.toInt).natAbs < 2147483648) : (a + b).toInt = a.toInt + b.toInt := by
  have q := c_iadd a b; have r := rng32 (a + b); omega
theorem own_isub {a b : Int32} (h : (a.toInt - b.toInt).natAbs < 2147483648) : (a - b).toInt = a.toInt - b.toInt := by
  have q := c_isub a b; have r := rng32 (a - b); omega
theorem own_imul {a b : Int32} (h : (a.toInt * b.toInt).natAbs < 2147483648) : (a * b).toInt = a.toInt * b.toInt := by
  have q := c_imul a b; have r := rng32 (a * b); generalize a.toInt * b.toInt = z at *; omega
theorem own_absmul {n m : Int} {A B : Nat} (hn : n.natAbs ≤ A) (hm : m.natAbs ≤ B) : (n * m).natAbs ≤ A * B := by
  rw [Int.natAbs_mul]; exact Nat.mul_le_mul hn hm
end OwnInt
section OwnShift
theorem own_bv {q : Int32} {n : Nat} (h : q.toInt = (n : Int)) : q.toBitVec.toNat = n := by
  have h1 : q.toBitVec.toInt = (n : Int) := h
  have h2 := BitVec.toInt_eq_toNat_cond q.toBitVec
  have h3 := q.toBitVec.isLt
  split at h2 <;> omega
theorem own_lshl {x : Int64} {q : Int32} {n : Nat} (hq : q.toInt = (n : Int)) (hn : n < 64) (hb : (x.toInt * ((2 ^ n : Nat) : Int)).natAbs < 9223372036854775808) : (x <<< (q &&& 0x3f).toInt64).toInt = x.toInt * ((2 ^ n : Nat) : Int) := by
  have h1 := c_lshl x q n (by rw [own_bv hq]; omega)
  have h2 := rng64 (x <<< (q &&& 0x3f).toInt64)
  generalize x.toInt * ((2 ^ n : Nat) : Int) = z at *
  omega
theorem own_ishl {x : Int32} {q : Int32} {n : Nat} (hq : q.toInt = (n : Int)) (hn : n < 32) (hb : (x.toInt * ((2 ^ n : Nat) : Int)).natAbs < 2147483648) : (x <<< (q &&& 31)).toInt = x.toInt * ((2 ^ n : Nat) : Int) := by
  have h1 := c_ishl x q n (by rw [own_bv hq]; omega)
  have h2 := rng32 (x <<< (q &&& 31))
  generalize x.toInt * ((2 ^ n : Nat) : Int) = z at *
  omega
theorem own_ishl1 {q : Int32} {n : Nat} (hq : q.toInt = (n : Int)) (hn : n < 31) : ((1 : Int32) <<< (q &&& 31)).toInt = ((2 ^ n : Nat) : Int) := by
  have e : (1 : Int32).toInt = 1 := by decide
  have hp : 2 ^ n ≤ 2 ^ 30 := Nat.pow_le_pow_right (by omega) (by omega)
  rw [own_ishl hq (by omega) (by rw [e, Int.one_mul, Int.natAbs_natCast]; omega), e, Int.one_mul]
theorem own_lshl1 {q : Int32} {n : Nat} (hq : q.toInt = (n : Int)) (hn : n < 63) : ((1 : Int64) <<< (q &&& 0x3f).toInt64).toInt = ((2 ^ n : Nat) : Int) := by
  have e : (1 : Int64).toInt = 1 := by decide
  have hp : 2 ^ n ≤ 2 ^ 62 := Nat.pow_le_pow_right (by omega) (by omega)
  rw [own_lshl hq (by omega) (by rw [e, Int.one_mul, Int.natAbs_natCast]; omega), e, Int.one_mul]
/-- a mask of ones: what is left is some natural below the power -/
theorem own_andN (x : Int32) (mk : Int32) (M : Nat) (hM : mk.toInt = (M : Int)) : ∃ n : Nat, (x &&& mk).toInt = (n : Int) ∧ n ≤ M := by
  have h := c_and x mk (by omega)
  exact ⟨(x &&& mk).toInt.toNat, by omega, by omega⟩
theorem own_andL (x : Int64) (mk : Int64) (k : Nat) (hk : k ≤ 63) (hm : mk.toBitVec.toNat = 2 ^ k - 1) : ∃ n : Nat, (x &&& mk).toInt = (n : Int) ∧ n < 2 ^ k := by
  have h := c_maskL x mk k hk hm
  have hp := Nat.two_pow_pos k
  have h1 := Int.emod_nonneg x.toInt (show ((2 ^ k : Nat) : Int) ≠ 0 by omega)
  have h2 := Int.emod_lt_of_pos x.toInt (show (0 : Int) < ((2 ^ k : Nat) : Int) by omega)
  exact ⟨(x &&& mk).toInt.toNat, by omega, by omega⟩
theorem own_irem {x y : Int32} (hx : 0 ≤ x.toInt) (hy : 0 < y.toInt) : (x % y).toInt = x.toInt % y.toInt := by
  rw [Int32.toInt_mod, Int.tmod_eq_emod_of_nonneg hx]
theorem own_lrem {x y : Int64} (hx : 0 ≤ x.toInt) (hy : 0 < y.toInt) : (x - x / y * y).toInt = x.toInt % y.toInt := by
  rw [lrem_mod, Int64.toInt_mod, Int.tmod_eq_emod_of_nonneg hx]
end OwnShift
section OwnDiv
theorem own_zmag_of {x : UInt64} {n : Int} {k : Nat} {s : Bool} {c : Nat} {q : Int} (h : FP.Core.val64 x = .fin s c q) (hz : FP.Core.zval FP.Core.b64 (FP.Core.val64 x) = n * ((2 ^ (1074 - k) : Nat) : Int)) :
    c * 2 ^ (q + 1074).toNat = n.natAbs * 2 ^ (1074 - k) ∧ -1074 ≤ q ∧ q ≤ 971 := by
  have hf : FP.Core.fits FP.Core.b64 (.fin s c q) := h ▸ FP.Core.val64_fits x
  obtain ⟨-, h1, h2, -⟩ := hf
  rw [FP.Core.qmin_b64] at h1
  rw [own_qmax] at h2
  refine ⟨?_, h1, h2⟩
  have e := congrArg Int.natAbs hz
  rw [h, Int.natAbs_mul, Int.natAbs_natCast] at e
  unfold FP.Core.zval at e
  rw [FP.Core.natAbs_signed] at e
  have e2 : FP.Core.zmag FP.Core.b64 (.fin s c q) = c * 2 ^ (q + 1074).toNat := by
    show c * 2 ^ (q - FP.Core.b64.qmin).toNat = _
    rw [FP.Core.qmin_b64, show q - -1074 = q + 1074 by omega]
  rw [← e2]; exact e
theorem own_sgn_of {x : UInt64} {n : Int} {k : Nat} {s : Bool} {c : Nat} {q : Int} (h : FP.Core.val64 x = .fin s c q) (hz : FP.Core.zval FP.Core.b64 (FP.Core.val64 x) = n * ((2 ^ (1074 - k) : Nat) : Int)) (hn : n ≠ 0) : s = decide (n < 0) := by
  rw [h] at hz
  have hp : (0 : Int) < ((2 ^ (1074 - k) : Nat) : Int) := by have := Nat.two_pow_pos (1074 - k); omega
  have hz' : FP.Core.signed s (FP.Core.zmag FP.Core.b64 (.fin s c q)) = n * ((2 ^ (1074 - k) : Nat) : Int) := hz
  generalize FP.Core.zmag FP.Core.b64 (.fin s c q) = z at hz'
  generalize ((2 ^ (1074 - k) : Nat) : Int) = P at hz' hp
  cases s
  · have e : (z : Int) = n * P := hz'
    have : ¬ n < 0 := fun u => by have := Int.mul_neg_of_neg_of_pos u hp; omega
    simp [this]
  · have e : -(z : Int) = n * P := hz'
    have : n < 0 := by
      refine Int.lt_of_not_ge fun u => ?_
      have h2 : 0 < n := by omega
      have := Int.mul_pos h2 hp; omega
    simp [this]
/-- a quotient that is a fraction n / 2^i with |n| below 2^53 comes out exactly -/
theorem own_Dy.div {x y : UInt64} {n m w : Int} {k j : Nat} (i : Nat) (hx : own_Dy x n k) (hy : own_Dy y m j) (hm : m ≠ 0) (hi : i ≤ 1074) (hw : w.natAbs < 9007199254740992) (h : n * ((2 ^ (j + i) : Nat) : Int) = w * m * ((2 ^ k : Nat) : Int)) : own_Dy (FP.ddiv x y) w i := by
  obtain ⟨⟨s, c, q, hx1⟩, hk, hx3⟩ := hx
  obtain ⟨⟨t, d, r, hy1⟩, hj, hy3⟩ := hy
  obtain ⟨cx, qx1, qx2⟩ := own_zmag_of hx1 hx3
  obtain ⟨cy, qy1, qy2⟩ := own_zmag_of hy1 hy3
  have hd : d ≠ 0 := fun z => by
    subst z
    rw [Nat.zero_mul] at cy
    rcases Nat.mul_eq_zero.mp cy.symm with u | u
    · omega
    · have := Nat.two_pow_pos (1074 - j); omega
  have hv : FP.Core.val64 (FP.ddiv x y) = FP.Core.roundRatio FP.Core.b64 (s != t) c d (q - r) := by
    have e : FP.Core.val64 (FP.ddiv x y) = FP.Core.quotient FP.Core.b64 (FP.Core.val64 x) (FP.Core.val64 y) := FP.Core.val64_ddiv x y
    rw [e, hx1, hy1]
    show (if d = 0 then _ else _) = _
    rw [if_neg hd]
  obtain ⟨V, v1, ⟨vs, vc, vq, v2⟩, v3⟩ := own_fitV hi hw
  have hne : V ≠ .nan := by rw [v2]; exact FP.Core.Datum.noConfusion
  have hzV : FP.Core.zmag FP.Core.b64 V = w.natAbs * 2 ^ (1074 - i) := by
    have e := congrArg Int.natAbs v3
    unfold FP.Core.zval at e
    rw [FP.Core.natAbs_signed, Int.natAbs_mul, Int.natAbs_natCast] at e
    exact e
  obtain ⟨N, hN⟩ : ∃ N : Nat, N = 4000 := ⟨_, rfl⟩
  have key : FP.Core.inUnits c (q - r) (-(N : Int)) = w.natAbs * 2 ^ (1074 - i) * 2 ^ (N - 1074) * d := by
    have hh : n.natAbs * 2 ^ (j + i) = w.natAbs * m.natAbs * 2 ^ k := by
      have e := congrArg Int.natAbs h
      rw [Int.natAbs_mul, Int.natAbs_natCast, Int.natAbs_mul, Int.natAbs_natCast, Int.natAbs_mul] at e
      exact e
    refine Nat.eq_of_mul_eq_mul_right (Nat.two_pow_pos (r + 1074).toNat) ?_
    unfold FP.Core.inUnits
    have l1 : c * 2 ^ (q - r - -(N : Int)).toNat * 2 ^ (r + 1074).toNat = c * 2 ^ (q + 1074).toNat * 2 ^ N := by
      rw [Nat.mul_assoc, Nat.mul_assoc, ← Nat.pow_add, ← Nat.pow_add]; congr 2; omega
    have l2 : w.natAbs * 2 ^ (1074 - i) * 2 ^ (N - 1074) * d * 2 ^ (r + 1074).toNat = w.natAbs * 2 ^ (1074 - i) * 2 ^ (N - 1074) * (d * 2 ^ (r + 1074).toNat) := by rw [Nat.mul_assoc]
    rw [l1, l2, cx, cy]
    have l3 : n.natAbs * 2 ^ (1074 - k) * 2 ^ N = n.natAbs * 2 ^ (j + i) * 2 ^ (N + 1074 - k - (j + i)) := by
      rw [Nat.mul_assoc, Nat.mul_assoc, ← Nat.pow_add, ← Nat.pow_add]; congr 2; omega
    have l4 : w.natAbs * 2 ^ (1074 - i) * 2 ^ (N - 1074) * (m.natAbs * 2 ^ (1074 - j)) = w.natAbs * m.natAbs * 2 ^ k * 2 ^ (N + 1074 - k - (j + i)) := by
      have this : 2 ^ (1074 - i) * 2 ^ (N - 1074) * 2 ^ (1074 - j) = 2 ^ k * 2 ^ (N + 1074 - k - (j + i)) := by
        rw [← Nat.pow_add, ← Nat.pow_add, ← Nat.pow_add]; exact congrArg (2 ^ ·) (by omega)
      generalize 2 ^ (1074 - i) = X1 at this ⊢
      generalize 2 ^ (N - 1074) = X2 at this ⊢
      generalize 2 ^ (1074 - j) = X3 at this ⊢
      generalize 2 ^ (N + 1074 - k - (j + i)) = X5 at this ⊢
      generalize 2 ^ k = X4 at this ⊢
      calc w.natAbs * X1 * X2 * (m.natAbs * X3) = w.natAbs * m.natAbs * (X1 * X2 * X3) := by ac_rfl
        _ = w.natAbs * m.natAbs * (X4 * X5) := by rw [this]
        _ = _ := by ac_rfl
    rw [l3, l4, hh]
  have le := FP.Core.zmag_roundRatio_le FP.Core.good_b64 (s := s != t) (A := c) (B := d) (e := q - r) (e0 := -(N : Int)) (Nat.pos_of_ne_zero hd) v1 hne (by rw [FP.Core.qmin_b64]; omega) (by omega) (by rw [FP.Core.qmin_b64, key, hzV, show (-1074 - -(N : Int)).toNat = N - 1074 by omega]; exact Nat.le_refl _)
  have ge := FP.Core.zmag_roundRatio_ge FP.Core.good_b64 (s := s != t) (A := c) (B := d) (e := q - r) (e0 := -(N : Int)) (Nat.pos_of_ne_zero hd) v1 (by rw [FP.Core.qmin_b64]; omega) (by omega) (by rw [FP.Core.qmin_b64, key, hzV, show (-1074 - -(N : Int)).toNat = N - 1074 by omega]; exact Nat.le_refl _)
  have eq := Nat.le_antisymm le ge
  have hfin : ∃ s' c' q', FP.Core.roundRatio FP.Core.b64 (s != t) c d (q - r) = .fin s' c' q' := by
    rcases FP.Core.roundRatio_cases FP.Core.b64 (s != t) c d (q - r) with ⟨c', q', h'⟩ | h'
    · exact ⟨_, _, _, h'⟩
    · exfalso
      rw [h', v2] at eq
      rw [v2] at v1
      have hlt := FP.Core.zmag_lt_top FP.Core.good_b64 v1
      have eq2 : FP.Core.b64.tails * 2 ^ (FP.Core.b64.exps - 2) = FP.Core.inUnits vc vq FP.Core.b64.qmin := eq
      rw [eq2] at hlt
      exact Nat.lt_irrefl _ hlt
  refine ⟨by rw [hv]; exact hfin, hi, ?_⟩
  rw [hv]
  unfold FP.Core.zval
  rw [FP.Core.sgn_roundRatio, eq, hzV]
  by_cases hw0 : w = 0
  · subst hw0
    simp [FP.Core.signed]
  · have hn0 : n ≠ 0 := fun z => by
      subst z
      rw [Int.zero_mul] at h
      rcases Int.mul_eq_zero.mp h.symm with u | u
      · rcases Int.mul_eq_zero.mp u with u | u
        · exact hw0 u
        · exact hm u
      · have := Nat.two_pow_pos k; omega
    rw [own_sgn_of hx1 hx3 hn0, own_sgn_of hy1 hy3 hm, FP.Core.signed_mul]
    congr 1
    have hP : (0 : Int) < ((2 ^ (j + i) : Nat) : Int) := by have := Nat.two_pow_pos (j + i); omega
    have hK : (0 : Int) < ((2 ^ k : Nat) : Int) := by have := Nat.two_pow_pos k; omega
    generalize ((2 ^ (j + i) : Nat) : Int) = P at h hP
    generalize ((2 ^ k : Nat) : Int) = R at h hK
    have sg : (n < 0 ↔ ¬ (w < 0 ↔ m < 0)) := by
      have a1 : n < 0 ↔ n * P < 0 := ⟨fun u => Int.mul_neg_of_neg_of_pos u hP, fun u => Int.lt_of_not_ge fun v => by have := Int.mul_nonneg v (Int.le_of_lt hP); omega⟩
      have a2 : w * m < 0 ↔ w * m * R < 0 := ⟨fun u => Int.mul_neg_of_neg_of_pos u hK, fun u => Int.lt_of_not_ge fun v => by have := Int.mul_nonneg v (Int.le_of_lt hK); omega⟩
      rw [a1, h, ← a2]
      rcases Int.lt_or_gt_of_ne hw0 with u | u <;> rcases Int.lt_or_gt_of_ne hm with v | v
      · have := Int.mul_pos_of_neg_of_neg u v; omega
      · have := Int.mul_neg_of_neg_of_pos u v; omega
      · have := Int.mul_neg_of_pos_of_neg u v; omega
      · have := Int.mul_pos u v; omega
    unfold FP.Core.signed
    by_cases u : w < 0 <;> by_cases v : m < 0 <;> by_cases z : n < 0 <;> simp [u, v, z] at sg ⊢ <;> omega
/-- two quotients of one value compare as equal -/
theorem own_div_eq {x y x' y' : UInt64} {n m n' m' : Int} {k k' : Nat} (hx : own_Dy x n k) (hy : own_Dy y m k) (hx' : own_Dy x' n' k') (hy' : own_Dy y' m' k') (hm : 0 < m) (hm' : 0 < m') (h : n * m' = n' * m) (o : CmpOp) :
    cmpValue (FP.dcmp (FP.ddiv x y) (FP.ddiv x' y')) o = 0 ∧ Fl.NoNaN64 (FP.ddiv x y) ∧ Fl.NoNaN64 (FP.ddiv x' y') ∧ FP.Core.zval FP.Core.b64 (FP.Core.val64 (FP.ddiv x y)) = FP.Core.zval FP.Core.b64 (FP.Core.val64 (FP.ddiv x' y')) := by
  obtain ⟨⟨s, c, q, hx1⟩, hk, hx3⟩ := hx
  obtain ⟨⟨t, d, r, hy1⟩, -, hy3⟩ := hy
  obtain ⟨⟨s', c', q', hx1'⟩, hk', hx3'⟩ := hx'
  obtain ⟨⟨t', d', r', hy1'⟩, -, hy3'⟩ := hy'
  obtain ⟨cx, qx1, qx2⟩ := own_zmag_of hx1 hx3
  obtain ⟨cy, qy1, qy2⟩ := own_zmag_of hy1 hy3
  obtain ⟨cx', qx1', qx2'⟩ := own_zmag_of hx1' hx3'
  obtain ⟨cy', qy1', qy2'⟩ := own_zmag_of hy1' hy3'
  have hd : d ≠ 0 := fun z => by
    subst z; rw [Nat.zero_mul] at cy
    rcases Nat.mul_eq_zero.mp cy.symm with u | u
    · omega
    · have := Nat.two_pow_pos (1074 - k); omega
  have hd' : d' ≠ 0 := fun z => by
    subst z; rw [Nat.zero_mul] at cy'
    rcases Nat.mul_eq_zero.mp cy'.symm with u | u
    · omega
    · have := Nat.two_pow_pos (1074 - k'); omega
  have hv : FP.Core.val64 (FP.ddiv x y) = FP.Core.roundRatio FP.Core.b64 (s != t) c d (q - r) := by
    have e : FP.Core.val64 (FP.ddiv x y) = FP.Core.quotient FP.Core.b64 (FP.Core.val64 x) (FP.Core.val64 y) := FP.Core.val64_ddiv x y
    rw [e, hx1, hy1]
    show (if d = 0 then _ else _) = _
    rw [if_neg hd]
  have hv' : FP.Core.val64 (FP.ddiv x' y') = FP.Core.roundRatio FP.Core.b64 (s' != t') c' d' (q' - r') := by
    have e : FP.Core.val64 (FP.ddiv x' y') = FP.Core.quotient FP.Core.b64 (FP.Core.val64 x') (FP.Core.val64 y') := FP.Core.val64_ddiv x' y'
    rw [e, hx1', hy1']
    show (if d' = 0 then _ else _) = _
    rw [if_neg hd']
  have cong : c * d' * 2 ^ ((q - r) - (q' - r')).toNat = c' * d * 2 ^ ((q' - r') - (q - r)).toNat := by
    have hh : n.natAbs * m'.natAbs = n'.natAbs * m.natAbs := by rw [← Int.natAbs_mul, ← Int.natAbs_mul, h]
    obtain ⟨N, hN⟩ : ∃ N : Nat, N = 4000 := ⟨_, rfl⟩
    refine Nat.eq_of_mul_eq_mul_right (Nat.two_pow_pos ((q' + 1074).toNat + (r + 1074).toNat + N)) ?_
    have e1 : c * d' * 2 ^ ((q - r) - (q' - r')).toNat * 2 ^ ((q' + 1074).toNat + (r + 1074).toNat + N) = (c * 2 ^ (q + 1074).toNat) * (d' * 2 ^ (r' + 1074).toNat) * 2 ^ (N + ((q' - r') - (q - r)).toNat) := by
      have : 2 ^ ((q - r) - (q' - r')).toNat * 2 ^ ((q' + 1074).toNat + (r + 1074).toNat + N) = 2 ^ (q + 1074).toNat * 2 ^ (r' + 1074).toNat * 2 ^ (N + ((q' - r') - (q - r)).toNat) := by
        rw [← Nat.pow_add, ← Nat.pow_add, ← Nat.pow_add]; congr 1; omega
      calc _ = c * d' * (2 ^ ((q - r) - (q' - r')).toNat * 2 ^ ((q' + 1074).toNat + (r + 1074).toNat + N)) := by rw [Nat.mul_assoc]
        _ = _ := by rw [this]; ac_rfl
    have e2 : c' * d * 2 ^ ((q' - r') - (q - r)).toNat * 2 ^ ((q' + 1074).toNat + (r + 1074).toNat + N) = (c' * 2 ^ (q' + 1074).toNat) * (d * 2 ^ (r + 1074).toNat) * 2 ^ (N + ((q' - r') - (q - r)).toNat) := by
      have : 2 ^ ((q' - r') - (q - r)).toNat * 2 ^ ((q' + 1074).toNat + (r + 1074).toNat + N) = 2 ^ (q' + 1074).toNat * 2 ^ (r + 1074).toNat * 2 ^ (N + ((q' - r') - (q - r)).toNat) := by
        rw [← Nat.pow_add, ← Nat.pow_add, ← Nat.pow_add]; congr 1; omega
      calc _ = c' * d * (2 ^ ((q' - r') - (q - r)).toNat * 2 ^ ((q' + 1074).toNat + (r + 1074).toNat + N)) := by rw [Nat.mul_assoc]
        _ = _ := by rw [this]; ac_rfl
    rw [e1, e2, cx, cy, cx', cy']
    have : n.natAbs * 2 ^ (1074 - k) * (m'.natAbs * 2 ^ (1074 - k')) = n'.natAbs * 2 ^ (1074 - k') * (m.natAbs * 2 ^ (1074 - k)) := by
      calc _ = n.natAbs * m'.natAbs * (2 ^ (1074 - k) * 2 ^ (1074 - k')) := by ac_rfl
        _ = n'.natAbs * m.natAbs * (2 ^ (1074 - k) * 2 ^ (1074 - k')) := by rw [hh]
        _ = _ := by ac_rfl
    rw [this]
  have n1 : FP.Core.val64 (FP.ddiv x y) ≠ .nan := by rw [hv]; exact FP.Core.roundRatio_ne_nan _ _ _ _ _
  have n2 : FP.Core.val64 (FP.ddiv x' y') ≠ .nan := by rw [hv']; exact FP.Core.roundRatio_ne_nan _ _ _ _ _
  have sgn_eq : n < 0 ↔ n' < 0 := by
    constructor
    · intro u
      have := Int.mul_neg_of_neg_of_pos u hm'
      rw [h] at this
      exact Int.lt_of_not_ge fun v => by have := Int.mul_nonneg v (Int.le_of_lt hm); omega
    · intro u
      have := Int.mul_neg_of_neg_of_pos u hm
      rw [← h] at this
      exact Int.lt_of_not_ge fun v => by have := Int.mul_nonneg v (Int.le_of_lt hm'); omega
  have hz : FP.Core.zval FP.Core.b64 (FP.Core.val64 (FP.ddiv x y)) = FP.Core.zval FP.Core.b64 (FP.Core.val64 (FP.ddiv x' y')) := by
    rw [hv, hv']
    by_cases h0 : n = 0
    · have h0' : n' = 0 := by
        subst h0; rw [Int.zero_mul] at h
        rcases Int.mul_eq_zero.mp h.symm with u | u
        · exact u
        · omega
      have c0 : c = 0 := by
        subst h0; rw [Int.natAbs_zero, Nat.zero_mul] at cx
        rcases Nat.mul_eq_zero.mp cx with u | u
        · exact u
        · have := Nat.two_pow_pos (q + 1074).toNat; omega
      have c0' : c' = 0 := by
        subst h0'; rw [Int.natAbs_zero, Nat.zero_mul] at cx'
        rcases Nat.mul_eq_zero.mp cx' with u | u
        · exact u
        · have := Nat.two_pow_pos (q' + 1074).toNat; omega
      subst c0 c0'
      simp [FP.Core.roundRatio, FP.Core.zval, FP.Core.zmag, FP.Core.inUnits, FP.Core.signed_zero]
    · have h0' : n' ≠ 0 := fun z => by
        subst z; rw [Int.zero_mul] at h
        rcases Int.mul_eq_zero.mp h with u | u
        · exact h0 u
        · omega
      have s1 := own_sgn_of hx1 hx3 h0
      have s2 := own_sgn_of hy1 hy3 (by omega)
      have s3 := own_sgn_of hx1' hx3' h0'
      have s4 := own_sgn_of hy1' hy3' (by omega)
      have es : (s != t) = (s' != t') := by
        rw [s1, s2, s3, s4]
        rw [decide_eq_decide.mpr sgn_eq, decide_eq_false (show ¬ m < 0 by omega), decide_eq_false (show ¬ m' < 0 by omega)]
      rw [es, FP.Core.roundRatio_congr (Nat.pos_of_ne_zero hd) (Nat.pos_of_ne_zero hd') cong]
  refine ⟨?_, Fl.val64_no.mpr n1, Fl.val64_no.mpr n2, hz⟩
  have hc := FP.Core.dcmp_zval n1 n2
  rw [hz, (FP.Core.compare_eq_iff _ _).mpr rfl] at hc
  rw [show FP.dcmp (FP.ddiv x y) (FP.ddiv x' y') = some .eq from hc]
  rfl
end OwnDiv
section OwnMore
theorem own_max {d : UInt64} (h : Fl.Fin64 d) (o : CmpOp) : ¬ ((0 : Int32) < (cmpValue (FP.dcmp (d &&& 0x7fffffffffffffff) (9218868437227405311 : UInt64)) o)) := by
  have q : FP.dcmp (d &&& 0x7fffffffffffffff) (9218868437227405311 : UInt64) = some .lt ∨ FP.dcmp (d &&& 0x7fffffffffffffff) (9218868437227405311 : UInt64) = some .eq := (FP.Core.le_max (Fl.noNaN64_no.mp h.noNaN)).mpr (Fl.fin64_core.mp h)
  rcases q with q | q <;> rw [q] <;> cases o <;> decide
theorem own_dy0 : own_Dy (0 : UInt64) 0 0 := ⟨⟨false, 0, -1074, by decide +kernel⟩, by omega, by decide +kernel⟩
theorem own_pos {d : UInt64} {n : Int} {k : Nat} (h : own_Dy d n k) (hn : 0 < n) (o : CmpOp) : cmpValue (FP.dcmp d (0 : UInt64)) o = (1 : Int32) := by
  have z : own_Dy (0 : UInt64) 0 k := by
    have := own_dy0.up k (by have := h.2.1; omega)
    rw [Int.zero_mul, Nat.zero_add] at this; exact this
  exact h.gt z hn o
end OwnMore
section OwnPlain
open Jvm.Free.Fl
def own_T (l1 l2 l3 v1 v2 v3 c0 c1 c2 c3 x : Int64) : Prop := ∃ j1 j2 j3 : Nat, j1 ≤ 7 ∧ j2 ≤ 7 ∧ j3 ≤ 7 ∧ l1.toInt = ((2 ^ j1 : Nat) : Int) ∧ l2.toInt = ((2 ^ j2 : Nat) : Int) ∧ l3.toInt = ((2 ^ j3 : Nat) : Int) ∧
  v1.toInt = l1.toInt ∧ v2.toInt = l1.toInt + l2.toInt ∧ v3.toInt = l1.toInt + l2.toInt + l3.toInt ∧ (0 ≤ c0.toInt ∧ c0.toInt < 2147483648) ∧ (0 ≤ c1.toInt ∧ c1.toInt < 2147483648) ∧ (0 ≤ c2.toInt ∧ c2.toInt < 2147483648) ∧ (0 ≤ c3.toInt ∧ c3.toInt < 2147483648) ∧ 0 ≤ x.toInt ∧ x.toInt ≤ v3.toInt
theorem own_sh (p : Int32) : ∃ j : Nat, j ≤ 7 ∧ ((1 : Int64) <<< ((p &&& (7 : Int32)) &&& 0x3f).toInt64).toInt = ((2 ^ j : Nat) : Int) := by
  obtain ⟨n, h, hn⟩ := own_andN p 7 7 (by decide)
  exact ⟨n, hn, own_lshl1 h (by omega)⟩
theorem own_pj {j : Nat} (h : j ≤ 7) : 1 ≤ 2 ^ j ∧ 2 ^ j ≤ 128 := ⟨Nat.two_pow_pos j, Nat.pow_le_pow_right (by decide : 0 < 2) h⟩
theorem own_cc (p : Int32) : 0 ≤ ((p &&& (2147483647 : Int32)).toInt64).toInt ∧ ((p &&& (2147483647 : Int32)).toInt64).toInt < 2147483648 := by
  obtain ⟨n, h, hn⟩ := own_andN p 2147483647 2147483647 (by decide)
  rw [c_i2l, h]; omega
theorem own_sums (x y z : Int32) : ∃ j1 j2 j3 : Nat, j1 ≤ 7 ∧ j2 ≤ 7 ∧ j3 ≤ 7 ∧ ((1 : Int64) <<< ((x &&& (7 : Int32)) &&& 0x3f).toInt64).toInt = ((2 ^ j1 : Nat) : Int) ∧ ((1 : Int64) <<< ((y &&& (7 : Int32)) &&& 0x3f).toInt64).toInt = ((2 ^ j2 : Nat) : Int) ∧ ((1 : Int64) <<< ((z &&& (7 : Int32)) &&& 0x3f).toInt64).toInt = ((2 ^ j3 : Nat) : Int) ∧
    (((1 : Int64) <<< ((x &&& (7 : Int32)) &&& 0x3f).toInt64) + ((1 : Int64) <<< ((y &&& (7 : Int32)) &&& 0x3f).toInt64)).toInt = ((2 ^ j1 : Nat) : Int) + ((2 ^ j2 : Nat) : Int) ∧ ((((1 : Int64) <<< ((x &&& (7 : Int32)) &&& 0x3f).toInt64) + ((1 : Int64) <<< ((y &&& (7 : Int32)) &&& 0x3f).toInt64)) + ((1 : Int64) <<< ((z &&& (7 : Int32)) &&& 0x3f).toInt64)).toInt = ((2 ^ j1 : Nat) : Int) + ((2 ^ j2 : Nat) : Int) + ((2 ^ j3 : Nat) : Int) ∧
    (((((1 : Int64) <<< ((x &&& (7 : Int32)) &&& 0x3f).toInt64) + ((1 : Int64) <<< ((y &&& (7 : Int32)) &&& 0x3f).toInt64)) + ((1 : Int64) <<< ((z &&& (7 : Int32)) &&& 0x3f).toInt64)) + (1 : Int64)).toInt = ((2 ^ j1 : Nat) : Int) + ((2 ^ j2 : Nat) : Int) + ((2 ^ j3 : Nat) : Int) + 1 := by
  obtain ⟨j1, a1, b1⟩ := own_sh x
  obtain ⟨j2, a2, b2⟩ := own_sh y
  obtain ⟨j3, a3, b3⟩ := own_sh z
  have p1 := own_pj a1; have p2 := own_pj a2; have p3 := own_pj a3
  have e : (1 : Int64).toInt = 1 := by decide
  refine ⟨j1, j2, j3, a1, a2, a3, b1, b2, b3, ?_⟩
  generalize ((1 : Int64) <<< ((x &&& (7 : Int32)) &&& 0x3f).toInt64) = u at *
  generalize ((1 : Int64) <<< ((y &&& (7 : Int32)) &&& 0x3f).toInt64) = v at *
  generalize ((1 : Int64) <<< ((z &&& (7 : Int32)) &&& 0x3f).toInt64) = w at *
  generalize 2 ^ j1 = k1 at *
  generalize 2 ^ j2 = k2 at *
  generalize 2 ^ j3 = k3 at *
  have s1 : (u + v).toInt = (k1 : Int) + (k2 : Int) := by rw [own_ladd (by omega), b1, b2]
  have s2 : (u + v + w).toInt = (k1 : Int) + (k2 : Int) + (k3 : Int) := by rw [own_ladd (by omega), s1, b3]
  have s3 : (u + v + w + 1).toInt = (k1 : Int) + (k2 : Int) + (k3 : Int) + 1 := by rw [own_ladd (by omega), s2, e]
  exact ⟨s1, s2, s3⟩
theorem own_nz (x y z : Int32) : ((((1 : Int64) <<< ((x &&& (7 : Int32)) &&& 0x3f).toInt64) + ((1 : Int64) <<< ((y &&& (7 : Int32)) &&& 0x3f).toInt64)) + ((1 : Int64) <<< ((z &&& (7 : Int32)) &&& 0x3f).toInt64)) + (1 : Int64) ≠ 0 := fun q => by
  obtain ⟨j1, j2, j3, a1, a2, a3, b1, b2, b3, s1, s2, s3⟩ := own_sums x y z
  rw [q] at s3
  have e : (0 : Int64).toInt = 0 := by decide
  rw [e] at s3
  generalize 2 ^ j1 = k1 at s3; generalize 2 ^ j2 = k2 at s3; generalize 2 ^ j3 = k3 at s3; omega
theorem own_hT (x y z b0 b1 b2 b3 xs : Int32) : own_T ((1 : Int64) <<< ((x &&& (7 : Int32)) &&& 0x3f).toInt64) ((1 : Int64) <<< ((y &&& (7 : Int32)) &&& 0x3f).toInt64) ((1 : Int64) <<< ((z &&& (7 : Int32)) &&& 0x3f).toInt64) ((1 : Int64) <<< ((x &&& (7 : Int32)) &&& 0x3f).toInt64) (((1 : Int64) <<< ((x &&& (7 : Int32)) &&& 0x3f).toInt64) + ((1 : Int64) <<< ((y &&& (7 : Int32)) &&& 0x3f).toInt64)) ((((1 : Int64) <<< ((x &&& (7 : Int32)) &&& 0x3f).toInt64) + ((1 : Int64) <<< ((y &&& (7 : Int32)) &&& 0x3f).toInt64)) + ((1 : Int64) <<< ((z &&& (7 : Int32)) &&& 0x3f).toInt64))
    ((b0 &&& (2147483647 : Int32)).toInt64) ((b1 &&& (2147483647 : Int32)).toInt64) ((b2 &&& (2147483647 : Int32)).toInt64) ((b3 &&& (2147483647 : Int32)).toInt64)
    (((xs &&& (2147483647 : Int32)).toInt64) - ((xs &&& (2147483647 : Int32)).toInt64) / (((((1 : Int64) <<< ((x &&& (7 : Int32)) &&& 0x3f).toInt64) + ((1 : Int64) <<< ((y &&& (7 : Int32)) &&& 0x3f).toInt64)) + ((1 : Int64) <<< ((z &&& (7 : Int32)) &&& 0x3f).toInt64)) + (1 : Int64)) * (((((1 : Int64) <<< ((x &&& (7 : Int32)) &&& 0x3f).toInt64) + ((1 : Int64) <<< ((y &&& (7 : Int32)) &&& 0x3f).toInt64)) + ((1 : Int64) <<< ((z &&& (7 : Int32)) &&& 0x3f).toInt64)) + (1 : Int64))) := by
  obtain ⟨j1, j2, j3, a1, a2, a3, e1, e2, e3, s1, s2, s3⟩ := own_sums x y z
  have c := own_cc xs
  have pos : 0 < (((((1 : Int64) <<< ((x &&& (7 : Int32)) &&& 0x3f).toInt64) + ((1 : Int64) <<< ((y &&& (7 : Int32)) &&& 0x3f).toInt64)) + ((1 : Int64) <<< ((z &&& (7 : Int32)) &&& 0x3f).toInt64)) + (1 : Int64)).toInt := by
    rw [s3]; generalize 2 ^ j1 = k1; generalize 2 ^ j2 = k2; generalize 2 ^ j3 = k3; omega
  have q := own_lrem c.1 (y := ((((1 : Int64) <<< ((x &&& (7 : Int32)) &&& 0x3f).toInt64) + ((1 : Int64) <<< ((y &&& (7 : Int32)) &&& 0x3f).toInt64)) + ((1 : Int64) <<< ((z &&& (7 : Int32)) &&& 0x3f).toInt64)) + (1 : Int64)) pos
  refine ⟨j1, j2, j3, a1, a2, a3, e1, e2, e3, rfl, by rw [s1, e1, e2], by rw [s2, e1, e2, e3], own_cc _, own_cc _, own_cc _, own_cc _, ?_, ?_⟩
  · rw [q]; exact Int.emod_nonneg _ (Int.ne_of_gt pos)
  · rw [q, s2]
    have t := Int.emod_lt_of_pos ((xs &&& (2147483647 : Int32)).toInt64).toInt pos
    rw [s3] at t ⊢
    exact Int.le_of_lt_add_one t
variable {l1 l2 l3 v1 v2 v3 c0 c1 c2 c3 x : Int64}
/-- what omega is told -/
theorem own_T.inc (h : own_T l1 l2 l3 v1 v2 v3 c0 c1 c2 c3 x) : 0 < v1.toInt ∧ v1.toInt < v2.toInt ∧ v2.toInt < v3.toInt ∧ v3.toInt ≤ 384 ∧ 0 ≤ x.toInt ∧ x.toInt ≤ v3.toInt := by
  obtain ⟨j1, j2, j3, a1, a2, a3, e1, e2, e3, f1, f2, f3, -, -, -, -, g1, g2⟩ := h
  have p1 := own_pj a1; have p2 := own_pj a2; have p3 := own_pj a3
  omega
theorem own_T.d1 (h : own_T l1 l2 l3 v1 v2 v3 c0 c1 c2 c3 x) : own_Dy (FP.l2d v1) v1.toInt 0 := by have := h.inc; exact own_dy_l2d (by omega) (by omega)
theorem own_T.d2 (h : own_T l1 l2 l3 v1 v2 v3 c0 c1 c2 c3 x) : own_Dy (FP.l2d v2) v2.toInt 0 := by have := h.inc; exact own_dy_l2d (by omega) (by omega)
theorem own_T.d3 (h : own_T l1 l2 l3 v1 v2 v3 c0 c1 c2 c3 x) : own_Dy (FP.l2d v3) v3.toInt 0 := by have := h.inc; exact own_dy_l2d (by omega) (by omega)
theorem own_T.dx (h : own_T l1 l2 l3 v1 v2 v3 c0 c1 c2 c3 x) : own_Dy (FP.l2d x) x.toInt 0 := by have := h.inc; exact own_dy_l2d (by omega) (by omega)
theorem own_ltG {a b : UInt64} {n m : Int} (ha : own_Dy a n 0) (hb : own_Dy b m 0) (h : n < m) : (cmpValue (FP.dcmp a b) .g) < (0 : Int32) := by rw [ha.lt hb h .g]; decide
theorem own_nltG {a b : UInt64} {n m : Int} (ha : own_Dy a n 0) (hb : own_Dy b m 0) (h : ¬ n < m) : ¬ ((cmpValue (FP.dcmp a b) .g) < (0 : Int32)) := by
  rcases Int.lt_or_eq_of_le (Int.not_lt.mp h) with q | q
  · rw [ha.gt hb q .g]; decide
  · rw [ha.eq hb q.symm .g]; decide
theorem own_gtL {a b : UInt64} {n m : Int} (ha : own_Dy a n 0) (hb : own_Dy b m 0) (h : m < n) : (0 : Int32) < (cmpValue (FP.dcmp a b) .l) := by rw [ha.gt hb h .l]; decide
theorem own_ngtL {a b : UInt64} {n m : Int} (ha : own_Dy a n 0) (hb : own_Dy b m 0) (h : ¬ m < n) : ¬ ((0 : Int32) < (cmpValue (FP.dcmp a b) .l)) := by
  rcases Int.lt_or_eq_of_le (Int.not_lt.mp h) with q | q
  · rw [ha.lt hb q .l]; decide
  · rw [ha.eq hb q .l]; decide
theorem own_z64 {a : Int64} (h : a = 0) : (0 : UInt64).toInt64 = (FP.l2d a).toInt64 := by rw [h]; decide +kernel
theorem own_nbb {c : Int64} (h : 0 ≤ c.toInt ∧ c.toInt < 2147483648) : ¬ ((cmpValue (FP.dcmp (FP.l2d c) (0 : UInt64)) .l) < (0 : Int32)) := by
  have d := own_dy_l2d (a := c) (by omega) (by omega)
  rcases Int.lt_or_eq_of_le h.1 with q | q
  · rw [d.gt own_dy0 q .l]; decide
  · rw [d.eq own_dy0 q.symm .l]; decide
theorem own_T.nb0 (h : own_T l1 l2 l3 v1 v2 v3 c0 c1 c2 c3 x) : ¬ ((cmpValue (FP.dcmp (FP.l2d c0) (0 : UInt64)) .l) < (0 : Int32)) := by obtain ⟨j1, j2, j3, a1, a2, a3, e1, e2, e3, f1, f2, f3, q0, q1, q2, q3, g1, g2⟩ := h; exact own_nbb q0
theorem own_T.nb1 (h : own_T l1 l2 l3 v1 v2 v3 c0 c1 c2 c3 x) : ¬ ((cmpValue (FP.dcmp (FP.l2d c1) (0 : UInt64)) .l) < (0 : Int32)) := by obtain ⟨j1, j2, j3, a1, a2, a3, e1, e2, e3, f1, f2, f3, q0, q1, q2, q3, g1, g2⟩ := h; exact own_nbb q1
theorem own_T.nb2 (h : own_T l1 l2 l3 v1 v2 v3 c0 c1 c2 c3 x) : ¬ ((cmpValue (FP.dcmp (FP.l2d c2) (0 : UInt64)) .l) < (0 : Int32)) := by obtain ⟨j1, j2, j3, a1, a2, a3, e1, e2, e3, f1, f2, f3, q0, q1, q2, q3, g1, g2⟩ := h; exact own_nbb q2
theorem own_T.nb3 (h : own_T l1 l2 l3 v1 v2 v3 c0 c1 c2 c3 x) : ¬ ((cmpValue (FP.dcmp (FP.l2d c3) (0 : UInt64)) .l) < (0 : Int32)) := by obtain ⟨j1, j2, j3, a1, a2, a3, e1, e2, e3, f1, f2, f3, q0, q1, q2, q3, g1, g2⟩ := h; exact own_nbb q3
-- where x lies
theorem own_ne {a b : Int64} (h : ¬ a = b) : a.toInt ≠ b.toInt := fun q => h (Int64.toInt_inj.mp q)
theorem own_r_ge (hT : own_T l1 l2 l3 v1 v2 v3 c0 c1 c2 c3 x) (h : x < v1) (h0 : x = 0) : x.toInt < v1.toInt ∧ x.toInt = 0 := by
  rw [Int64.lt_iff_toInt_lt] at h; exact ⟨h, by rw [h0]; rfl⟩
theorem own_r_gl (hT : own_T l1 l2 l3 v1 v2 v3 c0 c1 c2 c3 x) (h : x < v1) (h0 : ¬ x = 0) : x.toInt < v1.toInt ∧ 0 < x.toInt := by
  rw [Int64.lt_iff_toInt_lt] at h
  have := own_ne h0; have i := hT.inc; have e : (0 : Int64).toInt = 0 := by decide
  omega
theorem own_r_e (hT : own_T l1 l2 l3 v1 v2 v3 c0 c1 c2 c3 x) (h : ¬ x < v1) (h2 : x < v2) (h0 : x = v1) : x.toInt = v1.toInt ∧ x.toInt < v2.toInt := by
  rw [Int64.lt_iff_toInt_lt] at h2; exact ⟨by rw [h0], h2⟩
theorem own_r_lg (hT : own_T l1 l2 l3 v1 v2 v3 c0 c1 c2 c3 x) (h : ¬ x < v1) (h2 : x < v2) (h0 : ¬ x = v1) : v1.toInt < x.toInt ∧ x.toInt < v2.toInt := by
  rw [Int64.lt_iff_toInt_lt] at h h2
  have := own_ne h0; omega
theorem own_r_le (hT : own_T l1 l2 l3 v1 v2 v3 c0 c1 c2 c3 x) (h : ¬ x < v1) (h2 : ¬ x < v2) (h0 : x = v2) : v1.toInt < x.toInt ∧ x.toInt = v2.toInt ∧ v2.toInt < v3.toInt := by
  have i := hT.inc; rw [h0]; omega
theorem own_r_lle (hT : own_T l1 l2 l3 v1 v2 v3 c0 c1 c2 c3 x) (h : ¬ x < v1) (h2 : ¬ x < v2) (h0 : ¬ x = v2) (h3 : x = v3) : v1.toInt < x.toInt ∧ v2.toInt < x.toInt ∧ x.toInt = v3.toInt := by
  have i := hT.inc; rw [h3]; omega
theorem own_r_llg (hT : own_T l1 l2 l3 v1 v2 v3 c0 c1 c2 c3 x) (h : ¬ x < v1) (h2 : ¬ x < v2) (h0 : ¬ x = v2) (h3 : ¬ x = v3) : v1.toInt < x.toInt ∧ v2.toInt < x.toInt ∧ x.toInt < v3.toInt := by
  have i := hT.inc; have := own_ne h0; have := own_ne h3
  rw [Int64.lt_iff_toInt_lt] at h2; omega
/-- one stretch of the line -/
theorem own_seg {a lo hi bl bh L : UInt64} {X LO HI BL BH : Int} {j : Nat} (hj : j ≤ 7) (ha : own_Dy a X 0) (hlo : own_Dy lo LO 0) (hhi : own_Dy hi HI 0) (hbl : own_Dy bl BL 0) (hbh : own_Dy bh BH 0) (hL : own_Dy L ((2 ^ j : Nat) : Int) 0) (hlen : HI - LO = ((2 ^ j : Nat) : Int))
    (h1 : (X - LO).natAbs ≤ 128) (h2 : BL.natAbs < 2147483648) (h3 : BH.natAbs < 2147483648) (h4 : LO.natAbs ≤ 384) (h5 : HI.natAbs ≤ 384) {num : Int64} (hn : num.toInt = BL * ((2 ^ j : Nat) : Int) + (X - LO) * (BH - BL)) :
    NoNaN64 (FP.ddiv (FP.dsub a lo) (FP.dsub hi lo)) ∧ NoNaN64 (FP.dmul (FP.ddiv (FP.dsub a lo) (FP.dsub hi lo)) (FP.dsub bh bl)) ∧ NoNaN64 (FP.dadd bl (FP.dmul (FP.ddiv (FP.dsub a lo) (FP.dsub hi lo)) (FP.dsub bh bl))) ∧ NoNaN64 (FP.dmul (FP.dadd bl (FP.dmul (FP.ddiv (FP.dsub a lo) (FP.dsub hi lo)) (FP.dsub bh bl))) L) ∧
    (cmpValue (FP.dcmp (FP.dmul (FP.dadd bl (FP.dmul (FP.ddiv (FP.dsub a lo) (FP.dsub hi lo)) (FP.dsub bh bl))) L) (FP.l2d num)) .l) = 0 := by
  have pj := own_pj hj
  have s1 := ha.sub hlo (by omega)
  have s2 := hhi.sub hlo (by omega)
  rw [hlen] at s2
  have s3 := hbh.sub hbl (by omega)
  have q := own_Dy.div j s1 s2 (w := X - LO) (by omega) (by omega) (by omega) (by rw [Nat.zero_add, Nat.pow_zero]; simp)
  have b1 : ((X - LO) * (BH - BL)).natAbs ≤ 128 * 4294967296 := own_absmul h1 (by omega)
  have b2 : (BL * ((2 ^ j : Nat) : Int)).natAbs ≤ 2147483648 * 128 := own_absmul (by omega) (by omega)
  have m := q.mul s3 (by omega) (by omega)
  rw [Nat.add_zero] at m
  have u := hbl.up j (by omega)
  rw [Nat.zero_add] at u
  have r := u.add m (by omega)
  have b3 : ((BL * ((2 ^ j : Nat) : Int) + (X - LO) * (BH - BL)) * ((2 ^ j : Nat) : Int)).natAbs ≤ (2147483648 * 128 + 128 * 4294967296) * 128 := own_absmul (by omega) (by omega)
  have f := r.mul hL (by omega) (by omega)
  have f2 : own_Dy (FP.dmul (FP.dadd bl (FP.dmul (FP.ddiv (FP.dsub a lo) (FP.dsub hi lo)) (FP.dsub bh bl))) L) (BL * ((2 ^ j : Nat) : Int) + (X - LO) * (BH - BL)) 0 := own_Dy.dn (j := j) (by rw [Nat.zero_add]; rw [Nat.add_zero] at f; exact f)
  have g := own_dy_l2d (a := num) (by rw [hn]; omega) (by rw [hn]; omega)
  rw [hn] at g
  exact ⟨q.nn, m.nn, r.nn, f.nn, f2.eq g rfl .l⟩
theorem own_num {bl len y lo bh : Int64} {k : Int} (hlen : len.toInt = k) (hk : 0 ≤ k ∧ k ≤ 128) (h1 : (y.toInt - lo.toInt).natAbs ≤ 128) (hb : 0 ≤ bl.toInt ∧ bl.toInt < 2147483648) (hh : 0 ≤ bh.toInt ∧ bh.toInt < 2147483648) : ((bl * len) + ((y - lo) * (bh - bl))).toInt = bl.toInt * k + (y.toInt - lo.toInt) * (bh.toInt - bl.toInt) := by
  subst hlen
  have b1 : (bl.toInt * len.toInt).natAbs ≤ 2147483648 * 128 := own_absmul (by omega) (by omega)
  have b2 : ((y.toInt - lo.toInt) * (bh.toInt - bl.toInt)).natAbs ≤ 128 * 4294967296 := own_absmul h1 (by omega)
  have e1 : (bl * len).toInt = bl.toInt * len.toInt := own_lmul (by omega)
  have e2 : (y - lo).toInt = y.toInt - lo.toInt := own_lsub (by omega)
  have e3 : (bh - bl).toInt = bh.toInt - bl.toInt := own_lsub (by omega)
  have e4 : ((y - lo) * (bh - bl)).toInt = (y.toInt - lo.toInt) * (bh.toInt - bl.toInt) := by rw [own_lmul (by rw [e2, e3]; omega), e2, e3]
  rw [own_ladd (by rw [e1, e4]; omega), e1, e4]
theorem own_dc {c : Int64} (h : 0 ≤ c.toInt ∧ c.toInt < 2147483648) : own_Dy (FP.l2d c) c.toInt 0 := own_dy_l2d (by omega) (by omega)
theorem own_T.s1 (h : own_T l1 l2 l3 v1 v2 v3 c0 c1 c2 c3 x) (hx : x.toInt < v1.toInt) :
    NoNaN64 (FP.ddiv (FP.dsub (FP.l2d x) (0 : UInt64)) (FP.dsub (FP.l2d v1) (0 : UInt64))) ∧ NoNaN64 (FP.dmul (FP.ddiv (FP.dsub (FP.l2d x) (0 : UInt64)) (FP.dsub (FP.l2d v1) (0 : UInt64))) (FP.dsub (FP.l2d c1) (FP.l2d c0))) ∧ NoNaN64 (FP.dadd (FP.l2d c0) (FP.dmul (FP.ddiv (FP.dsub (FP.l2d x) (0 : UInt64)) (FP.dsub (FP.l2d v1) (0 : UInt64))) (FP.dsub (FP.l2d c1) (FP.l2d c0)))) ∧ NoNaN64 (FP.dmul (FP.dadd (FP.l2d c0) (FP.dmul (FP.ddiv (FP.dsub (FP.l2d x) (0 : UInt64)) (FP.dsub (FP.l2d v1) (0 : UInt64))) (FP.dsub (FP.l2d c1) (FP.l2d c0)))) (FP.l2d l1)) ∧
    (cmpValue (FP.dcmp (FP.dmul (FP.dadd (FP.l2d c0) (FP.dmul (FP.ddiv (FP.dsub (FP.l2d x) (0 : UInt64)) (FP.dsub (FP.l2d v1) (0 : UInt64))) (FP.dsub (FP.l2d c1) (FP.l2d c0)))) (FP.l2d l1)) (FP.l2d ((c0 * l1) + ((x - (0 : Int64)) * (c1 - c0))))) .l) = 0 := by
  have i := h.inc; have dx := h.dx; have d1 := h.d1
  obtain ⟨j1, j2, j3, a1, a2, a3, e1, e2, e3, f1, f2, f3, q0, q1, q2, q3, g1, g2⟩ := h
  have p1 := own_pj a1
  have z : (0 : Int64).toInt = 0 := by decide
  have dl := own_dy_l2d (a := l1) (by omega) (by omega)
  rw [e1] at dl
  exact own_seg a1 dx own_dy0 d1 (own_dc q0) (own_dc q1) dl (by omega) (by omega) (by omega) (by omega) (by omega) (by omega) (by rw [own_num e1 (by omega) (by omega) q0 q1, z])
theorem own_T.s2 (h : own_T l1 l2 l3 v1 v2 v3 c0 c1 c2 c3 x) (hx : v1.toInt ≤ x.toInt ∧ x.toInt < v2.toInt) :
    NoNaN64 (FP.ddiv (FP.dsub (FP.l2d x) (FP.l2d v1)) (FP.dsub (FP.l2d v2) (FP.l2d v1))) ∧ NoNaN64 (FP.dmul (FP.ddiv (FP.dsub (FP.l2d x) (FP.l2d v1)) (FP.dsub (FP.l2d v2) (FP.l2d v1))) (FP.dsub (FP.l2d c2) (FP.l2d c1))) ∧ NoNaN64 (FP.dadd (FP.l2d c1) (FP.dmul (FP.ddiv (FP.dsub (FP.l2d x) (FP.l2d v1)) (FP.dsub (FP.l2d v2) (FP.l2d v1))) (FP.dsub (FP.l2d c2) (FP.l2d c1)))) ∧ NoNaN64 (FP.dmul (FP.dadd (FP.l2d c1) (FP.dmul (FP.ddiv (FP.dsub (FP.l2d x) (FP.l2d v1)) (FP.dsub (FP.l2d v2) (FP.l2d v1))) (FP.dsub (FP.l2d c2) (FP.l2d c1)))) (FP.l2d l2)) ∧
    (cmpValue (FP.dcmp (FP.dmul (FP.dadd (FP.l2d c1) (FP.dmul (FP.ddiv (FP.dsub (FP.l2d x) (FP.l2d v1)) (FP.dsub (FP.l2d v2) (FP.l2d v1))) (FP.dsub (FP.l2d c2) (FP.l2d c1)))) (FP.l2d l2)) (FP.l2d ((c1 * l2) + ((x - v1) * (c2 - c1))))) .l) = 0 := by
  have i := h.inc; have dx := h.dx; have d1 := h.d1; have d2 := h.d2
  obtain ⟨j1, j2, j3, a1, a2, a3, e1, e2, e3, f1, f2, f3, q0, q1, q2, q3, g1, g2⟩ := h
  have p1 := own_pj a1; have p2 := own_pj a2
  have dl := own_dy_l2d (a := l2) (by omega) (by omega)
  rw [e2] at dl
  exact own_seg a2 dx d1 d2 (own_dc q1) (own_dc q2) dl (by omega) (by omega) (by omega) (by omega) (by omega) (by omega) (own_num e2 (by omega) (by omega) q1 q2)
theorem own_T.s3 (h : own_T l1 l2 l3 v1 v2 v3 c0 c1 c2 c3 x) (hx : v2.toInt ≤ x.toInt) :
    NoNaN64 (FP.ddiv (FP.dsub (FP.l2d x) (FP.l2d v2)) (FP.dsub (FP.l2d v3) (FP.l2d v2))) ∧ NoNaN64 (FP.dmul (FP.ddiv (FP.dsub (FP.l2d x) (FP.l2d v2)) (FP.dsub (FP.l2d v3) (FP.l2d v2))) (FP.dsub (FP.l2d c3) (FP.l2d c2))) ∧ NoNaN64 (FP.dadd (FP.l2d c2) (FP.dmul (FP.ddiv (FP.dsub (FP.l2d x) (FP.l2d v2)) (FP.dsub (FP.l2d v3) (FP.l2d v2))) (FP.dsub (FP.l2d c3) (FP.l2d c2)))) ∧ NoNaN64 (FP.dmul (FP.dadd (FP.l2d c2) (FP.dmul (FP.ddiv (FP.dsub (FP.l2d x) (FP.l2d v2)) (FP.dsub (FP.l2d v3) (FP.l2d v2))) (FP.dsub (FP.l2d c3) (FP.l2d c2)))) (FP.l2d l3)) ∧
    (cmpValue (FP.dcmp (FP.dmul (FP.dadd (FP.l2d c2) (FP.dmul (FP.ddiv (FP.dsub (FP.l2d x) (FP.l2d v2)) (FP.dsub (FP.l2d v3) (FP.l2d v2))) (FP.dsub (FP.l2d c3) (FP.l2d c2)))) (FP.l2d l3)) (FP.l2d ((c2 * l3) + ((x - v2) * (c3 - c2))))) .l) = 0 := by
  have i := h.inc; have dx := h.dx; have d1 := h.d2; have d2 := h.d3
  obtain ⟨j1, j2, j3, a1, a2, a3, e1, e2, e3, f1, f2, f3, q0, q1, q2, q3, g1, g2⟩ := h
  have p1 := own_pj a1; have p2 := own_pj a2; have p3 := own_pj a3
  have dl := own_dy_l2d (a := l3) (by omega) (by omega)
  rw [e3] at dl
  exact own_seg a3 dx d1 d2 (own_dc q2) (own_dc q3) dl (by omega) (by omega) (by omega) (by omega) (by omega) (by omega) (own_num e3 (by omega) (by omega) q2 q3)
end OwnPlain
theorem d3_0 : decode jdk_117_method_7_code 0 = .ok (.dload_n 0, 1) := by decide +kernel
theorem d3_1 : decode jdk_117_method_7_code 1 = .ok (.invokestatic 38, 3) := by decide +kernel
theorem d3_4 : decode jdk_117_method_7_code 4 = .ok (.ldc2_w 111, 3) := by decide +kernel
theorem d3_7 : decode jdk_117_method_7_code 7 = .ok (.dcmp .l, 1) := by decide +kernel
theorem d3_8 : decode jdk_117_method_7_code 8 = .ok (.ifCond .le 7, 3) := by decide +kernel
theorem d3_15 : decode jdk_117_method_7_code 15 = .ok (.iconst 0, 1) := by decide +kernel
theorem d3_16 : decode jdk_117_method_7_code 16 = .ok (.ireturn, 1) := by decide +kernel
theorem pn3 : plainName "java/lang/Double" = true := by first | (simp [plainName, overriddenIn]; done) | decide +kernel
theorem pd3_0 : parseMethodDescriptor "(D)D" = some ⟨[.double], some .double⟩ := by decide +kernel
theorem ef3 (m : MethodId) (d0 : UInt64) : entryFrame m #[(.double d0)] 2 = mkF m 0 #[.val (.double d0), .second] [] := by first | (simp [entryFrame, mkF, argsToLocals, Value.category]; done) | rfl
def Q3 (Z : State) (d0 : UInt64) (h0 : Heap) (n0 : Nat) (v : Option Value) (h : Heap) (L : List Loc) : Prop := v = some (.int (0 : Int32)) ∧ Fr n0 L ∧ h = h0
set_option maxRecDepth 65536 in
set_option maxHeartbeats 40000000 in
theorem rm3 (l : Launch) (Z : State) (ar : Array Value) (hw : ∀ d ∈ tables_1, d.before ar Z = true) (ws : List Jvm.Cond) (d0 : UInt64) (h0 : Heap) (n0 : Nat) (Z0 : n0 ≤ h0.size) (hn1 : Jvm.Free.Fl.NoNaN64 d0) (hb8 : ¬ ((0 : Int32) < (cmpValue (FP.dcmp (d0 &&& 0x7fffffffffffffff) (9218868437227405311 : UInt64)) .l))) :
    MetFree l (⟨"java/lang/Double", "isInfinite", "(D)Z"⟩ : MethodName) (head1 (Jvm.Cond.code (⟨"java/lang/Double", "isInfinite", "(D)Z"⟩ : MethodName) jdk_117_method_7_code 2 (some .boolean) :: ws) ({ frames := 1, cells := 0, slots := 0, locals := 13 } : Room)) (fun a U => a = #[(.double d0)] ∧ Z.Warmed39 U.vm ∧ U.heap = h0) (fun _ _ _ _ _ => True) (fun _ U o U' => ∃ v L, o = .returned v ∧ Q3 Z d0 h0 n0 v U'.heap L ∧ FrameEnd U o U' L ({ frames := 1, cells := 0, slots := 0, locals := 13 } : Room).cells ({ frames := 1, cells := 0, slots := 0, locals := 13 } : Room).slots) := by
  refine MetFree.of_bodySF (plainFor_of_name pn3) hisR ?_
  intro p e s m args below meth c s₁ Bd hml0 hP hK
  obtain ⟨rfl, hZ, hh⟩ := hP
  have hx := Bd.exec
  have hby := Bd.bytes
  have hlk := Bd.notSynchronized
  have hml : c.maxLocals = 2 := hml0
  have hown : s.vm.findClass "java/lang/Double" = some m.cls := findClass_of_methodNamed Bd.named
  have hnm := (name_of_methodNamed Bd.named Bd.method).1
  have X0 : Stand p l e ({ frames := 1, cells := 0, slots := 0, locals := 13 } : Room) s m #[(.double d0)] below meth c s₁ [] 0 0 := Stand.of_body Bd
  have e0 : s₁.heap = h0 := by rw [← hh, Bd.state]; rfl
  have N0 := Fr.nil n0
  have K0 := Keep.refl h0 []
  refine own_enter (Q := Q3 Z d0 h0 n0) (ef3 m d0) ?_
  refine own_st (T' := s₁) (g' := (mkF m 1 #[.val (.double d0), .second] [(.double d0)])) (fun t k => ?_) ?_
  · show Steps p.tables e below (s₁.setTop (mkF m 0 #[.val (.double d0), .second] [])) t
    refine XS.dloadN X0.here hx rfl (hb hby d3_0) rfl ?_
    exact k
  obtain ⟨T1, X1, e1, st1⟩ := natS X0 hx hZ (y := (⟨"java/lang/Math", "abs", "(D)D"⟩ : MethodName)) hown (hw _ (List.mem_of_getElem? (i := 15) rfl)) (hw _ (List.mem_of_getElem? (i := 16) rfl)) (hw _ (List.mem_of_getElem? (i := 17) rfl)) (hw _ (List.mem_of_getElem? (i := 18) rfl)) (by decide) e0 (W := 0) (fun q => Jvm.Free.Fl.Abs.absD_pays d0 q (by decide) (by decide)) (g := (mkF m 1 #[.val (.double d0), .second] [(.double d0)])) rfl (by rw [hml]; rfl) (argsL := [(.double d0)]) (rest := []) (lenOf pd3_0 rfl) rfl (by show 2 * 0 + _ ≤ _; exact Nat.le_of_eq rfl) (hb hby d3_1) (by decide) (by decide) ⟨rfl, hn1⟩ rfl
  refine own_st (T' := T1) (g' := (mkF m 4 #[.val (.double d0), .second] [(.double (d0 &&& 0x7fffffffffffffff))])) st1 ?_
  refine own_st (T' := T1) (g' := (mkF m 16 #[.val (.double d0), .second] [(.int (0 : Int32))])) (fun t k => ?_) ?_
  · show Steps p.tables e below (T1.setTop (mkF m 4 #[.val (.double d0), .second] [(.double (d0 &&& 0x7fffffffffffffff))])) t
    refine X1.ldc2DoubleC hx hown (mvT hZ (hw _ (List.mem_of_getElem? (i := 19) rfl))) (g := (mkF m 4 #[.val (.double d0), .second] [(.double (d0 &&& 0x7fffffffffffffff))])) rfl (hb hby d3_4) _ ?_
    refine XS.dcmpS X1.here hx rfl (hb hby d3_7) rfl rfl ?_
    refine XS.ifYes X1.here hx rfl (pc0 := 8) (pc' := 15) rfl (hb hby d3_8) rfl ((if0 _ _).trans (flt (hb8 : ¬ ((0 : Int32) < (cmpValue (FP.dcmp (d0 &&& 0x7fffffffffffffff) (9218868437227405311 : UInt64)) .l)))).2.2.2) (by decide) (by decide) ?_
    refine XS.iconst X1.here hx rfl (hb hby d3_15) ?_
    exact k
  refine own_retZ X1 hx hlk Bd.returns (hb hby d3_16) rfl (by decide) (by decide) ?_
  show Q3 Z d0 h0 n0 (some (.int (0 : Int32))) T1.heap _
  rw [(e1 : T1.heap = h0)]
  exact ⟨rfl, N0, rfl⟩
theorem d1_0 : decode prog_21_method_2_code 0 = .ok (.aload_n 0, 1) := by decide +kernel
theorem d1_1 : decode prog_21_method_2_code 1 = .ok (.invokespecial 11, 3) := by decide +kernel
theorem d1_4 : decode prog_21_method_2_code 4 = .ok (.aload_n 1, 1) := by decide +kernel
theorem d1_5 : decode prog_21_method_2_code 5 = .ok (.arraylength, 1) := by decide +kernel
theorem d1_6 : decode prog_21_method_2_code 6 = .ok (.iconst 2, 1) := by decide +kernel
theorem d1_7 : decode prog_21_method_2_code 7 = .ok (.if_icmp .ge 13, 3) := by decide +kernel
theorem d1_20 : decode prog_21_method_2_code 20 = .ok (.aload_n 2, 1) := by decide +kernel
theorem d1_21 : decode prog_21_method_2_code 21 = .ok (.arraylength, 1) := by decide +kernel
theorem d1_22 : decode prog_21_method_2_code 22 = .ok (.aload_n 1, 1) := by decide +kernel
theorem d1_23 : decode prog_21_method_2_code 23 = .ok (.arraylength, 1) := by decide +kernel
theorem d1_24 : decode prog_21_method_2_code 24 = .ok (.if_icmp .eq 20, 3) := by decide +kernel
theorem d1_44 : decode prog_21_method_2_code 44 = .ok (.aload_n 1, 1) := by decide +kernel
theorem d1_45 : decode prog_21_method_2_code 45 = .ok (.iconst 0, 1) := by decide +kernel
theorem d1_46 : decode prog_21_method_2_code 46 = .ok (.daload, 1) := by decide +kernel
theorem d1_47 : decode prog_21_method_2_code 47 = .ok (.dconst 0, 1) := by decide +kernel
theorem d1_48 : decode prog_21_method_2_code 48 = .ok (.dcmp .l, 1) := by decide +kernel
theorem d1_49 : decode prog_21_method_2_code 49 = .ok (.ifCond .ne 15, 3) := by decide +kernel
theorem d1_52 : decode prog_21_method_2_code 52 = .ok (.aload_n 1, 1) := by decide +kernel
theorem d1_53 : decode prog_21_method_2_code 53 = .ok (.aload_n 1, 1) := by decide +kernel
theorem d1_54 : decode prog_21_method_2_code 54 = .ok (.arraylength, 1) := by decide +kernel
theorem d1_55 : decode prog_21_method_2_code 55 = .ok (.iconst 1, 1) := by decide +kernel
theorem d1_56 : decode prog_21_method_2_code 56 = .ok (.isub, 1) := by decide +kernel
theorem d1_57 : decode prog_21_method_2_code 57 = .ok (.daload, 1) := by decide +kernel
theorem d1_58 : decode prog_21_method_2_code 58 = .ok (.invokestatic 27, 3) := by decide +kernel
theorem d1_61 : decode prog_21_method_2_code 61 = .ok (.ifCond .eq 13, 3) := by decide +kernel
theorem d1_74 : decode prog_21_method_2_code 74 = .ok (.iconst 1, 1) := by decide +kernel
theorem d1_75 : decode prog_21_method_2_code 75 = .ok (.istore_n 3, 1) := by decide +kernel
theorem d1_76 : decode prog_21_method_2_code 76 = .ok (.iload_n 3, 1) := by decide +kernel
theorem d1_77 : decode prog_21_method_2_code 77 = .ok (.aload_n 1, 1) := by decide +kernel
theorem d1_78 : decode prog_21_method_2_code 78 = .ok (.arraylength, 1) := by decide +kernel
theorem d1_79 : decode prog_21_method_2_code 79 = .ok (.if_icmp .ge 37, 3) := by decide +kernel
theorem d1_82 : decode prog_21_method_2_code 82 = .ok (.aload_n 1, 1) := by decide +kernel
theorem d1_83 : decode prog_21_method_2_code 83 = .ok (.iload_n 3, 1) := by decide +kernel
theorem d1_84 : decode prog_21_method_2_code 84 = .ok (.daload, 1) := by decide +kernel
theorem d1_85 : decode prog_21_method_2_code 85 = .ok (.aload_n 1, 1) := by decide +kernel
theorem d1_86 : decode prog_21_method_2_code 86 = .ok (.iload_n 3, 1) := by decide +kernel
theorem d1_87 : decode prog_21_method_2_code 87 = .ok (.iconst 1, 1) := by decide +kernel
theorem d1_88 : decode prog_21_method_2_code 88 = .ok (.isub, 1) := by decide +kernel
theorem d1_89 : decode prog_21_method_2_code 89 = .ok (.daload, 1) := by decide +kernel
theorem d1_90 : decode prog_21_method_2_code 90 = .ok (.dcmp .l, 1) := by decide +kernel
theorem d1_91 : decode prog_21_method_2_code 91 = .ok (.ifCond .gt 19, 3) := by decide +kernel
theorem d1_110 : decode prog_21_method_2_code 110 = .ok (.iinc 3 1, 3) := by decide +kernel
theorem d1_113 : decode prog_21_method_2_code 113 = .ok (.goto (-37), 3) := by decide +kernel
theorem d1_116 : decode prog_21_method_2_code 116 = .ok (.aload_n 2, 1) := by decide +kernel
theorem d1_117 : decode prog_21_method_2_code 117 = .ok (.astore_n 3, 1) := by decide +kernel
theorem d1_118 : decode prog_21_method_2_code 118 = .ok (.aload_n 3, 1) := by decide +kernel
theorem d1_119 : decode prog_21_method_2_code 119 = .ok (.arraylength, 1) := by decide +kernel
theorem d1_120 : decode prog_21_method_2_code 120 = .ok (.istore 4, 2) := by decide +kernel
theorem d1_122 : decode prog_21_method_2_code 122 = .ok (.iconst 0, 1) := by decide +kernel
theorem d1_123 : decode prog_21_method_2_code 123 = .ok (.istore 5, 2) := by decide +kernel
theorem d1_125 : decode prog_21_method_2_code 125 = .ok (.iload 5, 2) := by decide +kernel
theorem d1_127 : decode prog_21_method_2_code 127 = .ok (.iload 4, 2) := by decide +kernel
theorem d1_129 : decode prog_21_method_2_code 129 = .ok (.if_icmp .ge 45, 3) := by decide +kernel
theorem d1_132 : decode prog_21_method_2_code 132 = .ok (.aload_n 3, 1) := by decide +kernel
theorem d1_133 : decode prog_21_method_2_code 133 = .ok (.iload 5, 2) := by decide +kernel
theorem d1_135 : decode prog_21_method_2_code 135 = .ok (.daload, 1) := by decide +kernel
theorem d1_136 : decode prog_21_method_2_code 136 = .ok (.dstore 6, 2) := by decide +kernel
theorem d1_138 : decode prog_21_method_2_code 138 = .ok (.dload 6, 2) := by decide +kernel
theorem d1_140 : decode prog_21_method_2_code 140 = .ok (.dconst 0, 1) := by decide +kernel
theorem d1_141 : decode prog_21_method_2_code 141 = .ok (.dcmp .l, 1) := by decide +kernel
theorem d1_142 : decode prog_21_method_2_code 142 = .ok (.ifCond .lt 11, 3) := by decide +kernel
theorem d1_145 : decode prog_21_method_2_code 145 = .ok (.dload 6, 2) := by decide +kernel
theorem d1_147 : decode prog_21_method_2_code 147 = .ok (.invokestatic 27, 3) := by decide +kernel
theorem d1_150 : decode prog_21_method_2_code 150 = .ok (.ifCond .eq 18, 3) := by decide +kernel
theorem d1_168 : decode prog_21_method_2_code 168 = .ok (.iinc 5 1, 3) := by decide +kernel
theorem d1_171 : decode prog_21_method_2_code 171 = .ok (.goto (-46), 3) := by decide +kernel
theorem d1_174 : decode prog_21_method_2_code 174 = .ok (.aload_n 0, 1) := by decide +kernel
theorem d1_175 : decode prog_21_method_2_code 175 = .ok (.aload_n 1, 1) := by decide +kernel
theorem d1_176 : decode prog_21_method_2_code 176 = .ok (.invokevirtual 39, 3) := by decide +kernel
theorem d1_179 : decode prog_21_method_2_code 179 = .ok (.checkcast 40, 3) := by decide +kernel
theorem d1_182 : decode prog_21_method_2_code 182 = .ok (.putfield 45, 3) := by decide +kernel
theorem d1_185 : decode prog_21_method_2_code 185 = .ok (.aload_n 0, 1) := by decide +kernel
theorem d1_186 : decode prog_21_method_2_code 186 = .ok (.aload_n 2, 1) := by decide +kernel
theorem d1_187 : decode prog_21_method_2_code 187 = .ok (.invokevirtual 39, 3) := by decide +kernel
theorem d1_190 : decode prog_21_method_2_code 190 = .ok (.checkcast 40, 3) := by decide +kernel
theorem d1_193 : decode prog_21_method_2_code 193 = .ok (.putfield 48, 3) := by decide +kernel
theorem d1_196 : decode prog_21_method_2_code 196 = .ok (.return_, 1) := by decide +kernel
theorem pn1 : plainName "com/example/corewright/corewright/equilibrium/Strategy" = true := by first | (simp [plainName, overriddenIn]; done) | decide +kernel
theorem pd1_0 : parseMethodDescriptor "(D)Z" = some ⟨[.double], some .boolean⟩ := by decide +kernel
theorem ef1 (m : MethodId) (a0 : Addr) (a1 : Addr) (a2 : Addr) : entryFrame m #[(.ref a0), (.ref a1), (.ref a2)] 8 = mkF m 0 #[.val (.ref a0), .val (.ref a1), .val (.ref a2), .unset, .unset, .unset, .unset, .unset] [] := by first | (simp [entryFrame, mkF, argsToLocals, Value.category]; done) | rfl
def Q1 (Z : State) (a0 : Addr) (a1 : Addr) (a2 : Addr) (u_values_a0 : Value) (u_bids_a0 : Value) (kk_a1 : ClassId) (ev0 : UInt64) (ev1 : UInt64) (ev2 : UInt64) (ev3 : UInt64) (kk_a2 : ClassId) (eb0 : UInt64) (eb1 : UInt64) (eb2 : UInt64) (eb3 : UInt64) (h0 : Heap) (n0 : Nat) (v : Option Value) (h : Heap) (L : List Loc) : Prop := ∃ (x0 : Addr) (x1 : Addr), v = none ∧ Fr n0 L ∧ Keep h0 h [a0] ∧ h0.size ≤ x0 ∧ h0.size ≤ x1 ∧ x0 ≠ x1 ∧ Exa Z h a0 "com/example/corewright/corewright/equilibrium/Strategy" ∧ Fld Z h a0 "com/example/corewright/corewright/equilibrium/Strategy" "values" "[D" (.ref x0) ∧ Fld Z h a0 "com/example/corewright/corewright/equilibrium/Strategy" "bids" "[D" (.ref x1) ∧ Arv Z h x0 kk_a1 .double (4 : Int32) [(.double ev0), (.double ev1), (.double ev2), (.double ev3)] (.double (0 : UInt64)) ∧ Exa Z h x0 "[D" ∧ Arv Z h x1 kk_a2 .double (4 : Int32) [(.double eb0), (.double eb1), (.double eb2), (.double eb3)] (.double (0 : UInt64)) ∧ Exa Z h x1 "[D"
set_option maxRecDepth 65536 in
set_option maxHeartbeats 40000000 in
theorem rm1 (l : Launch) (Z : State) (ar : Array Value) (hw : ∀ d ∈ tables_1, d.before ar Z = true) (ws : List Jvm.Cond) (a0 : Addr) (a1 : Addr) (a2 : Addr) (u_values_a0 : Value) (u_bids_a0 : Value) (kk_a1 : ClassId) (ev0 : UInt64) (ev1 : UInt64) (ev2 : UInt64) (ev3 : UInt64) (kk_a2 : ClassId) (eb0 : UInt64) (eb1 : UInt64) (eb2 : UInt64) (eb3 : UInt64) (h0 : Heap) (n0 : Nat) (Z0 : n0 ≤ h0.size) (E_a0 : Exa Z h0 a0 "com/example/corewright/corewright/equilibrium/Strategy") (F_values_a0 : Fld Z h0 a0 "com/example/corewright/corewright/equilibrium/Strategy" "values" "[D" u_values_a0) (F_bids_a0 : Fld Z h0 a0 "com/example/corewright/corewright/equilibrium/Strategy" "bids" "[D" u_bids_a0) (E_a1 : Exa Z h0 a1 "[D") (V_a1 : Arv Z h0 a1 kk_a1 .double (4 : Int32) [(.double ev0), (.double ev1), (.double ev2), (.double ev3)] (.double (0 : UInt64))) (E_a2 : Exa Z h0 a2 "[D") (V_a2 : Arv Z h0 a2 kk_a2 .double (4 : Int32) [(.double eb0), (.double eb1), (.double eb2), (.double eb3)] (.double (0 : UInt64))) (hq_7 : (cmpValue (FP.dcmp ev0 (0 : UInt64)) .l) = (0 : Int32)) (h58_hn1 : Jvm.Free.Fl.NoNaN64 ev3) (h58_hb8 : ¬ ((0 : Int32) < (cmpValue (FP.dcmp (ev3 &&& 0x7fffffffffffffff) (9218868437227405311 : UInt64)) .l))) (hq_10 : (cmpValue (FP.dcmp ev1 ev0) .l) = (1 : Int32)) (hq_11 : (cmpValue (FP.dcmp ev2 ev1) .l) = (1 : Int32)) (hq_12 : (cmpValue (FP.dcmp ev3 ev2) .l) = (1 : Int32)) (hb142 : ¬ ((cmpValue (FP.dcmp eb0 (0 : UInt64)) .l) < (0 : Int32))) (h147_hn1 : Jvm.Free.Fl.NoNaN64 eb0) (h147_hb8 : ¬ ((0 : Int32) < (cmpValue (FP.dcmp (eb0 &&& 0x7fffffffffffffff) (9218868437227405311 : UInt64)) .l))) (hb142_1 : ¬ ((cmpValue (FP.dcmp eb1 (0 : UInt64)) .l) < (0 : Int32))) (h147_hn1_1 : Jvm.Free.Fl.NoNaN64 eb1) (h147_hb8_1 : ¬ ((0 : Int32) < (cmpValue (FP.dcmp (eb1 &&& 0x7fffffffffffffff) (9218868437227405311 : UInt64)) .l))) (hb142_2 : ¬ ((cmpValue (FP.dcmp eb2 (0 : UInt64)) .l) < (0 : Int32))) (h147_hn1_2 : Jvm.Free.Fl.NoNaN64 eb2) (h147_hb8_2 : ¬ ((0 : Int32) < (cmpValue (FP.dcmp (eb2 &&& 0x7fffffffffffffff) (9218868437227405311 : UInt64)) .l))) (hb142_3 : ¬ ((cmpValue (FP.dcmp eb3 (0 : UInt64)) .l) < (0 : Int32))) (h147_hn1_3 : Jvm.Free.Fl.NoNaN64 eb3) (h147_hb8_3 : ¬ ((0 : Int32) < (cmpValue (FP.dcmp (eb3 &&& 0x7fffffffffffffff) (9218868437227405311 : UInt64)) .l))) (ne_a1_a0 : a1 ≠ a0) (ne_a2_a0 : a2 ≠ a0) (g_a0 : n0 ≤ a0) :
    MetFree l (⟨"com/example/corewright/corewright/equilibrium/Strategy", "<init>", "([D[D)V"⟩ : MethodName) (head1 (Jvm.Cond.code (⟨"com/example/corewright/corewright/equilibrium/Strategy", "<init>", "([D[D)V"⟩ : MethodName) prog_21_method_2_code 8 none :: ws) ({ frames := 2, cells := 2, slots := 8, locals := 26 } : Room)) (fun a U => a = #[(.ref a0), (.ref a1), (.ref a2)] ∧ Z.Warmed39 U.vm ∧ U.heap = h0) (fun _ _ _ _ _ => True) (fun _ U o U' => ∃ v L, o = .returned v ∧ Q1 Z a0 a1 a2 u_values_a0 u_bids_a0 kk_a1 ev0 ev1 ev2 ev3 kk_a2 eb0 eb1 eb2 eb3 h0 n0 v U'.heap L ∧ FrameEnd U o U' L ({ frames := 2, cells := 2, slots := 8, locals := 26 } : Room).cells ({ frames := 2, cells := 2, slots := 8, locals := 26 } : Room).slots) := by
  refine MetFree.of_bodySF (plainFor_of_name pn1) hisR ?_
  intro p e s m args below meth c s₁ Bd hml0 hP hK
  obtain ⟨rfl, hZ, hh⟩ := hP
  have hx := Bd.exec
  have hby := Bd.bytes
  have hlk := Bd.notSynchronized
  have hml : c.maxLocals = 8 := hml0
  have hown : s.vm.findClass "com/example/corewright/corewright/equilibrium/Strategy" = some m.cls := findClass_of_methodNamed Bd.named
  have hnm := (name_of_methodNamed Bd.named Bd.method).1
  have X0 : Stand p l e ({ frames := 2, cells := 2, slots := 8, locals := 26 } : Room) s m #[(.ref a0), (.ref a1), (.ref a2)] below meth c s₁ [] 0 0 := Stand.of_body Bd
  have e0 : s₁.heap = h0 := by rw [← hh, Bd.state]; rfl
  have N0 := Fr.nil n0
  have K0 := Keep.refl h0 [a0]
  refine own_enter (Q := Q1 Z a0 a1 a2 u_values_a0 u_bids_a0 kk_a1 ev0 ev1 ev2 ev3 kk_a2 eb0 eb1 eb2 eb3 h0 n0) (ef1 m a0 a1 a2) ?_
  refine own_st (T' := s₁) (g' := (mkF m 1 #[.val (.ref a0), .val (.ref a1), .val (.ref a2), .unset, .unset, .unset, .unset, .unset] [(.ref a0)])) (fun t k => ?_) ?_
  · show Steps p.tables e below (s₁.setTop (mkF m 0 #[.val (.ref a0), .val (.ref a1), .val (.ref a2), .unset, .unset, .unset, .unset, .unset] [])) t
    refine XS.aloadN X0.here hx rfl (hb hby d1_0) rfl rfl ?_
    exact k
  obtain ⟨T1, X1, e1, st1⟩ := initO X0 hx hZ hown (hw _ (List.mem_of_getElem? (i := 8) rfl)) (hw _ (List.mem_of_getElem? (i := 9) rfl)) (hw _ (List.mem_of_getElem? (i := 10) rfl)) e0 (g := (mkF m 1 #[.val (.ref a0), .val (.ref a1), .val (.ref a2), .unset, .unset, .unset, .unset, .unset] [(.ref a0)])) rfl (by rw [hml]; rfl) rfl (hb hby d1_1) (by decide) (W := 0) (by show 2 * 0 + _ ≤ _; exact Nat.le_of_eq rfl) (by decide)
  refine own_st (T' := T1) (g' := (mkF m 4 #[.val (.ref a0), .val (.ref a1), .val (.ref a2), .unset, .unset, .unset, .unset, .unset] [])) st1 ?_
  refine own_st (T' := T1) (g' := (mkF m 5 #[.val (.ref a0), .val (.ref a1), .val (.ref a2), .unset, .unset, .unset, .unset, .unset] [(.ref a1)])) (fun t k => ?_) ?_
  · show Steps p.tables e below (T1.setTop (mkF m 4 #[.val (.ref a0), .val (.ref a1), .val (.ref a2), .unset, .unset, .unset, .unset, .unset] [])) t
    refine XS.aloadN X1.here hx rfl (hb hby d1_4) rfl rfl ?_
    exact k
  obtain ⟨c2, r2a, -, r2c, r2d, -, -⟩ := id V_a1
  refine own_st (T' := T1) (g' := (mkF m 21 #[.val (.ref a0), .val (.ref a1), .val (.ref a2), .unset, .unset, .unset, .unset, .unset] [(.ref a2)])) (fun t k => ?_) ?_
  · show Steps p.tables e below (T1.setTop (mkF m 5 #[.val (.ref a0), .val (.ref a1), .val (.ref a2), .unset, .unset, .unset, .unset, .unset] [(.ref a1)])) t
    refine X1.arraylength hx (by rw [e1]; exact r2a.1) (State.isArrayOf_alike hZ.alike r2a.2.1) (g := (mkF m 5 #[.val (.ref a0), .val (.ref a1), .val (.ref a2), .unset, .unset, .unset, .unset, .unset] [(.ref a1)])) rfl rfl (hb hby d1_5) _ ?_
    rw [len_of r2c r2d]
    refine XS.iconst X1.here hx rfl (hb hby d1_6) ?_
    refine XS.icmpYes X1.here hx rfl (pc0 := 7) (pc' := 20) rfl (hb hby d1_7) rfl (by decide) (by decide) (by decide) ?_
    refine XS.aloadN X1.here hx rfl (hb hby d1_20) rfl rfl ?_
    exact k
  obtain ⟨c3, r3a, -, r3c, r3d, -, -⟩ := id V_a2
  refine own_st (T' := T1) (g' := (mkF m 23 #[.val (.ref a0), .val (.ref a1), .val (.ref a2), .unset, .unset, .unset, .unset, .unset] [(.ref a1), (.int (4 : Int32))])) (fun t k => ?_) ?_
  · show Steps p.tables e below (T1.setTop (mkF m 21 #[.val (.ref a0), .val (.ref a1), .val (.ref a2), .unset, .unset, .unset, .unset, .unset] [(.ref a2)])) t
    refine X1.arraylength hx (by rw [e1]; exact r3a.1) (State.isArrayOf_alike hZ.alike r3a.2.1) (g := (mkF m 21 #[.val (.ref a0), .val (.ref a1), .val (.ref a2), .unset, .unset, .unset, .unset, .unset] [(.ref a2)])) rfl rfl (hb hby d1_21) _ ?_
    rw [len_of r3c r3d]
    refine XS.aloadN X1.here hx rfl (hb hby d1_22) rfl rfl ?_
    exact k
  obtain ⟨c4, r4a, -, r4c, r4d, -, -⟩ := id V_a1
  refine own_st (T' := T1) (g' := (mkF m 46 #[.val (.ref a0), .val (.ref a1), .val (.ref a2), .unset, .unset, .unset, .unset, .unset] [(.int (0 : Int32)), (.ref a1)])) (fun t k => ?_) ?_
  · show Steps p.tables e below (T1.setTop (mkF m 23 #[.val (.ref a0), .val (.ref a1), .val (.ref a2), .unset, .unset, .unset, .unset, .unset] [(.ref a1), (.int (4 : Int32))])) t
    refine X1.arraylength hx (by rw [e1]; exact r4a.1) (State.isArrayOf_alike hZ.alike r4a.2.1) (g := (mkF m 23 #[.val (.ref a0), .val (.ref a1), .val (.ref a2), .unset, .unset, .unset, .unset, .unset] [(.ref a1), (.int (4 : Int32))])) rfl rfl (hb hby d1_23) _ ?_
    rw [len_of r4c r4d]
    refine XS.icmpYes X1.here hx rfl (pc0 := 24) (pc' := 44) rfl (hb hby d1_24) rfl (by decide) (by decide) (by decide) ?_
    refine XS.aloadN X1.here hx rfl (hb hby d1_44) rfl rfl ?_
    refine XS.iconst X1.here hx rfl (hb hby d1_45) ?_
    exact k
  obtain ⟨c5, r5a, r5b, r5c, r5d, r5e, r5f⟩ := id V_a1
  have i5 : ¬ ((0 : Int32) < 0 ∨ c5.slots.size ≤ ((0 : Int32)).toNatClampNeg) := inb_of r5c ⟨by decide, by decide⟩
  have y5 : c5.slots[((0 : Int32)).toNatClampNeg]? = some (.double ev0) := r5e.at i5 rfl
  refine own_st (T' := T1) (g' := (mkF m 54 #[.val (.ref a0), .val (.ref a1), .val (.ref a2), .unset, .unset, .unset, .unset, .unset] [(.ref a1), (.ref a1)])) (fun t k => ?_) ?_
  · show Steps p.tables e below (T1.setTop (mkF m 46 #[.val (.ref a0), .val (.ref a1), .val (.ref a2), .unset, .unset, .unset, .unset, .unset] [(.int (0 : Int32)), (.ref a1)])) t
    refine X1.daload hx (j := (0 : Int32)) (v := (.double ev0)) (by rw [e1]; exact r5a.1) (State.isArrayOf_alike hZ.alike r5a.2.1) r5a.2.2 i5 y5 (g := (mkF m 46 #[.val (.ref a0), .val (.ref a1), .val (.ref a2), .unset, .unset, .unset, .unset, .unset] [(.int (0 : Int32)), (.ref a1)])) rfl rfl (hb hby d1_46) _ ?_
    refine XS.dconst0 X1.here hx rfl (hb hby d1_47) rfl ?_
    refine XS.dcmpS X1.here hx rfl (hb hby d1_48) rfl hq_7 ?_
    refine XS.ifNo X1.here hx rfl (hb hby d1_49) rfl (by decide) ?_
    refine XS.aloadN X1.here hx rfl (hb hby d1_52) rfl rfl ?_
    refine XS.aloadN X1.here hx rfl (hb hby d1_53) rfl rfl ?_
    exact k
  obtain ⟨c6, r6a, -, r6c, r6d, -, -⟩ := id V_a1
  refine own_st (T' := T1) (g' := (mkF m 57 #[.val (.ref a0), .val (.ref a1), .val (.ref a2), .unset, .unset, .unset, .unset, .unset] [(.int (3 : Int32)), (.ref a1)])) (fun t k => ?_) ?_
  · show Steps p.tables e below (T1.setTop (mkF m 54 #[.val (.ref a0), .val (.ref a1), .val (.ref a2), .unset, .unset, .unset, .unset, .unset] [(.ref a1), (.ref a1)])) t
    refine X1.arraylength hx (by rw [e1]; exact r6a.1) (State.isArrayOf_alike hZ.alike r6a.2.1) (g := (mkF m 54 #[.val (.ref a0), .val (.ref a1), .val (.ref a2), .unset, .unset, .unset, .unset, .unset] [(.ref a1), (.ref a1)])) rfl rfl (hb hby d1_54) _ ?_
    rw [len_of r6c r6d]
    refine XS.iconst X1.here hx rfl (hb hby d1_55) ?_
    refine XS.isub X1.here hx rfl (hb hby d1_56) rfl ?_
    exact k
  obtain ⟨c7, r7a, r7b, r7c, r7d, r7e, r7f⟩ := id V_a1
  have i7 : ¬ ((3 : Int32) < 0 ∨ c7.slots.size ≤ ((3 : Int32)).toNatClampNeg) := inb_of r7c ⟨by decide, by decide⟩
  have y7 : c7.slots[((3 : Int32)).toNatClampNeg]? = some (.double ev3) := r7e.at i7 rfl
  refine own_st (T' := T1) (g' := (mkF m 58 #[.val (.ref a0), .val (.ref a1), .val (.ref a2), .unset, .unset, .unset, .unset, .unset] [(.double ev3)])) (fun t k => ?_) ?_
  · show Steps p.tables e below (T1.setTop (mkF m 57 #[.val (.ref a0), .val (.ref a1), .val (.ref a2), .unset, .unset, .unset, .unset, .unset] [(.int (3 : Int32)), (.ref a1)])) t
    refine X1.daload hx (j := (3 : Int32)) (v := (.double ev3)) (by rw [e1]; exact r7a.1) (State.isArrayOf_alike hZ.alike r7a.2.1) r7a.2.2 i7 y7 (g := (mkF m 57 #[.val (.ref a0), .val (.ref a1), .val (.ref a2), .unset, .unset, .unset, .unset, .unset] [(.int (3 : Int32)), (.ref a1)])) rfl rfl (hb hby d1_57) _ ?_
    exact k
  obtain ⟨_, _, ⟨T8, L8, k8, n8⟩, -, X8, ⟨Lc8, hQ8, l8, y8, z8⟩, st8⟩ := Jvm.LawKit.callS X1 hx (y := (⟨"java/lang/Double", "isInfinite", "(D)Z"⟩ : MethodName)) hown (mvT hZ (hw _ (List.mem_of_getElem? (i := 11) rfl))) (mvT hZ (hw _ (List.mem_of_getElem? (i := 12) rfl))) (mvT hZ (hw _ (List.mem_of_getElem? (i := 13) rfl))) (mvT hZ (hw _ (List.mem_of_getElem? (i := 14) rfl))) (by decide) (backOf (W := 0) (rm3 l Z ar hw [] ev3 h0 n0 Z0 h58_hn1 h58_hb8) hZ (hw _ (List.mem_of_getElem? (i := 14) rfl)) (hw _ (List.mem_of_getElem? (i := 13) rfl)) (by decide) (by decide)) (g := (mkF m 58 #[.val (.ref a0), .val (.ref a1), .val (.ref a2), .unset, .unset, .unset, .unset, .unset] [(.double ev3)])) rfl (by rw [hml]; rfl) (argsL := [(.double ev3)]) (rest := []) (lenOf pd1_0 rfl) rfl (by show 2 * 0 + _ ≤ _; exact Nat.le_of_eq rfl) (hb hby d1_58) (fun _ _ => ⟨rfl, e1, (by decide : 0 + 0 ≤ _), (by decide : 0 + 0 ≤ _)⟩)
  dsimp only [Pt.U, Pt.locs, Pt.cells, Pt.slots] at X8 l8 y8 z8 st8 hQ8
  subst l8 y8 z8
  obtain ⟨rfl, N8q, e8⟩ := hQ8
  have n9 := Fr.app N0 N8q
  refine own_st (T' := T8) (g' := (mkF m 61 #[.val (.ref a0), .val (.ref a1), .val (.ref a2), .unset, .unset, .unset, .unset, .unset] [(.int (0 : Int32))])) st8 ?_
  refine own_st (T' := T8) (g' := (mkF m 78 #[.val (.ref a0), .val (.ref a1), .val (.ref a2), .val (.int (1 : Int32)), .unset, .unset, .unset, .unset] [(.ref a1), (.int (1 : Int32))])) (fun t k => ?_) ?_
  · show Steps p.tables e below (T8.setTop (mkF m 61 #[.val (.ref a0), .val (.ref a1), .val (.ref a2), .unset, .unset, .unset, .unset, .unset] [(.int (0 : Int32))])) t
    refine XS.ifYes X8.here hx rfl (pc0 := 61) (pc' := 74) rfl (hb hby d1_61) rfl (by decide) (by decide) (by decide) ?_
    refine XS.iconst X8.here hx rfl (hb hby d1_74) ?_
    refine XS.istoreN X8.here hx rfl (hb hby d1_75) rfl (l' := #[.val (.ref a0), .val (.ref a1), .val (.ref a2), .val (.int (1 : Int32)), .unset, .unset, .unset, .unset]) rfl ?_
    refine XS.iloadN X8.here hx rfl (hb hby d1_76) rfl ?_
    refine XS.aloadN X8.here hx rfl (hb hby d1_77) rfl rfl ?_
    exact k
  obtain ⟨c10, r10a, -, r10c, r10d, -, -⟩ := id V_a1
  refine own_st (T' := T8) (g' := (mkF m 84 #[.val (.ref a0), .val (.ref a1), .val (.ref a2), .val (.int (1 : Int32)), .unset, .unset, .unset, .unset] [(.int (1 : Int32)), (.ref a1)])) (fun t k => ?_) ?_
  · show Steps p.tables e below (T8.setTop (mkF m 78 #[.val (.ref a0), .val (.ref a1), .val (.ref a2), .val (.int (1 : Int32)), .unset, .unset, .unset, .unset] [(.ref a1), (.int (1 : Int32))])) t
    refine X8.arraylength hx (by rw [e8]; exact r10a.1) (State.isArrayOf_alike hZ.alike r10a.2.1) (g := (mkF m 78 #[.val (.ref a0), .val (.ref a1), .val (.ref a2), .val (.int (1 : Int32)), .unset, .unset, .unset, .unset] [(.ref a1), (.int (1 : Int32))])) rfl rfl (hb hby d1_78) _ ?_
    rw [len_of r10c r10d]
    refine XS.icmpNo X8.here hx rfl (hb hby d1_79) rfl (by decide) ?_
    refine XS.aloadN X8.here hx rfl (hb hby d1_82) rfl rfl ?_
    refine XS.iloadN X8.here hx rfl (hb hby d1_83) rfl ?_
    exact k
  obtain ⟨c11, r11a, r11b, r11c, r11d, r11e, r11f⟩ := id V_a1
  have i11 : ¬ ((1 : Int32) < 0 ∨ c11.slots.size ≤ ((1 : Int32)).toNatClampNeg) := inb_of r11c ⟨by decide, by decide⟩
  have y11 : c11.slots[((1 : Int32)).toNatClampNeg]? = some (.double ev1) := r11e.at i11 rfl
  refine own_st (T' := T8) (g' := (mkF m 89 #[.val (.ref a0), .val (.ref a1), .val (.ref a2), .val (.int (1 : Int32)), .unset, .unset, .unset, .unset] [(.int (0 : Int32)), (.ref a1), (.double ev1)])) (fun t k => ?_) ?_
  · show Steps p.tables e below (T8.setTop (mkF m 84 #[.val (.ref a0), .val (.ref a1), .val (.ref a2), .val (.int (1 : Int32)), .unset, .unset, .unset, .unset] [(.int (1 : Int32)), (.ref a1)])) t
    refine X8.daload hx (j := (1 : Int32)) (v := (.double ev1)) (by rw [e8]; exact r11a.1) (State.isArrayOf_alike hZ.alike r11a.2.1) r11a.2.2 i11 y11 (g := (mkF m 84 #[.val (.ref a0), .val (.ref a1), .val (.ref a2), .val (.int (1 : Int32)), .unset, .unset, .unset, .unset] [(.int (1 : Int32)), (.ref a1)])) rfl rfl (hb hby d1_84) _ ?_
    refine XS.aloadN X8.here hx rfl (hb hby d1_85) rfl rfl ?_
    refine XS.iloadN X8.here hx rfl (hb hby d1_86) rfl ?_
    refine XS.iconst X8.here hx rfl (hb hby d1_87) ?_
    refine XS.isub X8.here hx rfl (hb hby d1_88) rfl ?_
    exact k
  obtain ⟨c12, r12a, r12b, r12c, r12d, r12e, r12f⟩ := id V_a1
  have i12 : ¬ ((0 : Int32) < 0 ∨ c12.slots.size ≤ ((0 : Int32)).toNatClampNeg) := inb_of r12c ⟨by decide, by decide⟩
  have y12 : c12.slots[((0 : Int32)).toNatClampNeg]? = some (.double ev0) := r12e.at i12 rfl
  refine own_st (T' := T8) (g' := (mkF m 78 #[.val (.ref a0), .val (.ref a1), .val (.ref a2), .val (.int (2 : Int32)), .unset, .unset, .unset, .unset] [(.ref a1), (.int (2 : Int32))])) (fun t k => ?_) ?_
  · show Steps p.tables e below (T8.setTop (mkF m 89 #[.val (.ref a0), .val (.ref a1), .val (.ref a2), .val (.int (1 : Int32)), .unset, .unset, .unset, .unset] [(.int (0 : Int32)), (.ref a1), (.double ev1)])) t
    refine X8.daload hx (j := (0 : Int32)) (v := (.double ev0)) (by rw [e8]; exact r12a.1) (State.isArrayOf_alike hZ.alike r12a.2.1) r12a.2.2 i12 y12 (g := (mkF m 89 #[.val (.ref a0), .val (.ref a1), .val (.ref a2), .val (.int (1 : Int32)), .unset, .unset, .unset, .unset] [(.int (0 : Int32)), (.ref a1), (.double ev1)])) rfl rfl (hb hby d1_89) _ ?_
    refine XS.dcmpS X8.here hx rfl (hb hby d1_90) rfl hq_10 ?_
    refine XS.ifYes X8.here hx rfl (pc0 := 91) (pc' := 110) rfl (hb hby d1_91) rfl (by decide) (by decide) (by decide) ?_
    refine XS.iinc X8.here hx rfl (hb hby d1_110) rfl (l' := #[.val (.ref a0), .val (.ref a1), .val (.ref a2), .val (.int (2 : Int32)), .unset, .unset, .unset, .unset]) rfl ?_
    refine XS.goto X8.here hx rfl (pc0 := 113) (pc' := 76) rfl (hb hby d1_113) (by decide) (by decide) ?_
    refine XS.iloadN X8.here hx rfl (hb hby d1_76) rfl ?_
    refine XS.aloadN X8.here hx rfl (hb hby d1_77) rfl rfl ?_
    exact k
  obtain ⟨c13, r13a, -, r13c, r13d, -, -⟩ := id V_a1
  refine own_st (T' := T8) (g' := (mkF m 84 #[.val (.ref a0), .val (.ref a1), .val (.ref a2), .val (.int (2 : Int32)), .unset, .unset, .unset, .unset] [(.int (2 : Int32)), (.ref a1)])) (fun t k => ?_) ?_
  · show Steps p.tables e below (T8.setTop (mkF m 78 #[.val (.ref a0), .val (.ref a1), .val (.ref a2), .val (.int (2 : Int32)), .unset, .unset, .unset, .unset] [(.ref a1), (.int (2 : Int32))])) t
    refine X8.arraylength hx (by rw [e8]; exact r13a.1) (State.isArrayOf_alike hZ.alike r13a.2.1) (g := (mkF m 78 #[.val (.ref a0), .val (.ref a1), .val (.ref a2), .val (.int (2 : Int32)), .unset, .unset, .unset, .unset] [(.ref a1), (.int (2 : Int32))])) rfl rfl (hb hby d1_78) _ ?_
    rw [len_of r13c r13d]
    refine XS.icmpNo X8.here hx rfl (hb hby d1_79) rfl (by decide) ?_
    refine XS.aloadN X8.here hx rfl (hb hby d1_82) rfl rfl ?_
    refine XS.iloadN X8.here hx rfl (hb hby d1_83) rfl ?_
    exact k
  obtain ⟨c14, r14a, r14b, r14c, r14d, r14e, r14f⟩ := id V_a1
  have i14 : ¬ ((2 : Int32) < 0 ∨ c14.slots.size ≤ ((2 : Int32)).toNatClampNeg) := inb_of r14c ⟨by decide, by decide⟩
  have y14 : c14.slots[((2 : Int32)).toNatClampNeg]? = some (.double ev2) := r14e.at i14 rfl
  refine own_st (T' := T8) (g' := (mkF m 89 #[.val (.ref a0), .val (.ref a1), .val (.ref a2), .val (.int (2 : Int32)), .unset, .unset, .unset, .unset] [(.int (1 : Int32)), (.ref a1), (.double ev2)])) (fun t k => ?_) ?_
  · show Steps p.tables e below (T8.setTop (mkF m 84 #[.val (.ref a0), .val (.ref a1), .val (.ref a2), .val (.int (2 : Int32)), .unset, .unset, .unset, .unset] [(.int (2 : Int32)), (.ref a1)])) t
    refine X8.daload hx (j := (2 : Int32)) (v := (.double ev2)) (by rw [e8]; exact r14a.1) (State.isArrayOf_alike hZ.alike r14a.2.1) r14a.2.2 i14 y14 (g := (mkF m 84 #[.val (.ref a0), .val (.ref a1), .val (.ref a2), .val (.int (2 : Int32)), .unset, .unset, .unset, .unset] [(.int (2 : Int32)), (.ref a1)])) rfl rfl (hb hby d1_84) _ ?_
    refine XS.aloadN X8.here hx rfl (hb hby d1_85) rfl rfl ?_
    refine XS.iloadN X8.here hx rfl (hb hby d1_86) rfl ?_
    refine XS.iconst X8.here hx rfl (hb hby d1_87) ?_
    refine XS.isub X8.here hx rfl (hb hby d1_88) rfl ?_
    exact k
  obtain ⟨c15, r15a, r15b, r15c, r15d, r15e, r15f⟩ := id V_a1
  have i15 : ¬ ((1 : Int32) < 0 ∨ c15.slots.size ≤ ((1 : Int32)).toNatClampNeg) := inb_of r15c ⟨by decide, by decide⟩
  have y15 : c15.slots[((1 : Int32)).toNatClampNeg]? = some (.double ev1) := r15e.at i15 rfl
  refine own_st (T' := T8) (g' := (mkF m 78 #[.val (.ref a0), .val (.ref a1), .val (.ref a2), .val (.int (3 : Int32)), .unset, .unset, .unset, .unset] [(.ref a1), (.int (3 : Int32))])) (fun t k => ?_) ?_
  · show Steps p.tables e below (T8.setTop (mkF m 89 #[.val (.ref a0), .val (.ref a1), .val (.ref a2), .val (.int (2 : Int32)), .unset, .unset, .unset, .unset] [(.int (1 : Int32)), (.ref a1), (.double ev2)])) t
    refine X8.daload hx (j := (1 : Int32)) (v := (.double ev1)) (by rw [e8]; exact r15a.1) (State.isArrayOf_alike hZ.alike r15a.2.1) r15a.2.2 i15 y15 (g := (mkF m 89 #[.val (.ref a0), .val (.ref a1), .val (.ref a2), .val (.int (2 : Int32)), .unset, .unset, .unset, .unset] [(.int (1 : Int32)), (.ref a1), (.double ev2)])) rfl rfl (hb hby d1_89) _ ?_
    refine XS.dcmpS X8.here hx rfl (hb hby d1_90) rfl hq_11 ?_
    refine XS.ifYes X8.here hx rfl (pc0 := 91) (pc' := 110) rfl (hb hby d1_91) rfl (by decide) (by decide) (by decide) ?_
    refine XS.iinc X8.here hx rfl (hb hby d1_110) rfl (l' := #[.val (.ref a0), .val (.ref a1), .val (.ref a2), .val (.int (3 : Int32)), .unset, .unset, .unset, .unset]) rfl ?_
    refine XS.goto X8.here hx rfl (pc0 := 113) (pc' := 76) rfl (hb hby d1_113) (by decide) (by decide) ?_
    refine XS.iloadN X8.here hx rfl (hb hby d1_76) rfl ?_
    refine XS.aloadN X8.here hx rfl (hb hby d1_77) rfl rfl ?_
    exact k
  obtain ⟨c16, r16a, -, r16c, r16d, -, -⟩ := id V_a1
  refine own_st (T' := T8) (g' := (mkF m 84 #[.val (.ref a0), .val (.ref a1), .val (.ref a2), .val (.int (3 : Int32)), .unset, .unset, .unset, .unset] [(.int (3 : Int32)), (.ref a1)])) (fun t k => ?_) ?_
  · show Steps p.tables e below (T8.setTop (mkF m 78 #[.val (.ref a0), .val (.ref a1), .val (.ref a2), .val (.int (3 : Int32)), .unset, .unset, .unset, .unset] [(.ref a1), (.int (3 : Int32))])) t
    refine X8.arraylength hx (by rw [e8]; exact r16a.1) (State.isArrayOf_alike hZ.alike r16a.2.1) (g := (mkF m 78 #[.val (.ref a0), .val (.ref a1), .val (.ref a2), .val (.int (3 : Int32)), .unset, .unset, .unset, .unset] [(.ref a1), (.int (3 : Int32))])) rfl rfl (hb hby d1_78) _ ?_
    rw [len_of r16c r16d]
    refine XS.icmpNo X8.here hx rfl (hb hby d1_79) rfl (by decide) ?_
    refine XS.aloadN X8.here hx rfl (hb hby d1_82) rfl rfl ?_
    refine XS.iloadN X8.here hx rfl (hb hby d1_83) rfl ?_
    exact k
  obtain ⟨c17, r17a, r17b, r17c, r17d, r17e, r17f⟩ := id V_a1
  have i17 : ¬ ((3 : Int32) < 0 ∨ c17.slots.size ≤ ((3 : Int32)).toNatClampNeg) := inb_of r17c ⟨by decide, by decide⟩
  have y17 : c17.slots[((3 : Int32)).toNatClampNeg]? = some (.double ev3) := r17e.at i17 rfl
  refine own_st (T' := T8) (g' := (mkF m 89 #[.val (.ref a0), .val (.ref a1), .val (.ref a2), .val (.int (3 : Int32)), .unset, .unset, .unset, .unset] [(.int (2 : Int32)), (.ref a1), (.double ev3)])) (fun t k => ?_) ?_
  · show Steps p.tables e below (T8.setTop (mkF m 84 #[.val (.ref a0), .val (.ref a1), .val (.ref a2), .val (.int (3 : Int32)), .unset, .unset, .unset, .unset] [(.int (3 : Int32)), (.ref a1)])) t
    refine X8.daload hx (j := (3 : Int32)) (v := (.double ev3)) (by rw [e8]; exact r17a.1) (State.isArrayOf_alike hZ.alike r17a.2.1) r17a.2.2 i17 y17 (g := (mkF m 84 #[.val (.ref a0), .val (.ref a1), .val (.ref a2), .val (.int (3 : Int32)), .unset, .unset, .unset, .unset] [(.int (3 : Int32)), (.ref a1)])) rfl rfl (hb hby d1_84) _ ?_
    refine XS.aloadN X8.here hx rfl (hb hby d1_85) rfl rfl ?_
    refine XS.iloadN X8.here hx rfl (hb hby d1_86) rfl ?_
    refine XS.iconst X8.here hx rfl (hb hby d1_87) ?_
    refine XS.isub X8.here hx rfl (hb hby d1_88) rfl ?_
    exact k
  obtain ⟨c18, r18a, r18b, r18c, r18d, r18e, r18f⟩ := id V_a1
  have i18 : ¬ ((2 : Int32) < 0 ∨ c18.slots.size ≤ ((2 : Int32)).toNatClampNeg) := inb_of r18c ⟨by decide, by decide⟩
  have y18 : c18.slots[((2 : Int32)).toNatClampNeg]? = some (.double ev2) := r18e.at i18 rfl
  refine own_st (T' := T8) (g' := (mkF m 78 #[.val (.ref a0), .val (.ref a1), .val (.ref a2), .val (.int (4 : Int32)), .unset, .unset, .unset, .unset] [(.ref a1), (.int (4 : Int32))])) (fun t k => ?_) ?_
  · show Steps p.tables e below (T8.setTop (mkF m 89 #[.val (.ref a0), .val (.ref a1), .val (.ref a2), .val (.int (3 : Int32)), .unset, .unset, .unset, .unset] [(.int (2 : Int32)), (.ref a1), (.double ev3)])) t
    refine X8.daload hx (j := (2 : Int32)) (v := (.double ev2)) (by rw [e8]; exact r18a.1) (State.isArrayOf_alike hZ.alike r18a.2.1) r18a.2.2 i18 y18 (g := (mkF m 89 #[.val (.ref a0), .val (.ref a1), .val (.ref a2), .val (.int (3 : Int32)), .unset, .unset, .unset, .unset] [(.int (2 : Int32)), (.ref a1), (.double ev3)])) rfl rfl (hb hby d1_89) _ ?_
    refine XS.dcmpS X8.here hx rfl (hb hby d1_90) rfl hq_12 ?_
    refine XS.ifYes X8.here hx rfl (pc0 := 91) (pc' := 110) rfl (hb hby d1_91) rfl (by decide) (by decide) (by decide) ?_
    refine XS.iinc X8.here hx rfl (hb hby d1_110) rfl (l' := #[.val (.ref a0), .val (.ref a1), .val (.ref a2), .val (.int (4 : Int32)), .unset, .unset, .unset, .unset]) rfl ?_
    refine XS.goto X8.here hx rfl (pc0 := 113) (pc' := 76) rfl (hb hby d1_113) (by decide) (by decide) ?_
    refine XS.iloadN X8.here hx rfl (hb hby d1_76) rfl ?_
    refine XS.aloadN X8.here hx rfl (hb hby d1_77) rfl rfl ?_
    exact k
  obtain ⟨c19, r19a, -, r19c, r19d, -, -⟩ := id V_a1
  refine own_st (T' := T8) (g' := (mkF m 119 #[.val (.ref a0), .val (.ref a1), .val (.ref a2), .val (.ref a2), .unset, .unset, .unset, .unset] [(.ref a2)])) (fun t k => ?_) ?_
  · show Steps p.tables e below (T8.setTop (mkF m 78 #[.val (.ref a0), .val (.ref a1), .val (.ref a2), .val (.int (4 : Int32)), .unset, .unset, .unset, .unset] [(.ref a1), (.int (4 : Int32))])) t
    refine X8.arraylength hx (by rw [e8]; exact r19a.1) (State.isArrayOf_alike hZ.alike r19a.2.1) (g := (mkF m 78 #[.val (.ref a0), .val (.ref a1), .val (.ref a2), .val (.int (4 : Int32)), .unset, .unset, .unset, .unset] [(.ref a1), (.int (4 : Int32))])) rfl rfl (hb hby d1_78) _ ?_
    rw [len_of r19c r19d]
    refine XS.icmpYes X8.here hx rfl (pc0 := 79) (pc' := 116) rfl (hb hby d1_79) rfl (by decide) (by decide) (by decide) ?_
    refine XS.aloadN X8.here hx rfl (hb hby d1_116) rfl rfl ?_
    refine XS.astoreN X8.here hx rfl (hb hby d1_117) rfl rfl (l' := #[.val (.ref a0), .val (.ref a1), .val (.ref a2), .val (.ref a2), .unset, .unset, .unset, .unset]) rfl ?_
    refine XS.aloadN X8.here hx rfl (hb hby d1_118) rfl rfl ?_
    exact k
  obtain ⟨c20, r20a, -, r20c, r20d, -, -⟩ := id V_a2
  refine own_st (T' := T8) (g' := (mkF m 135 #[.val (.ref a0), .val (.ref a1), .val (.ref a2), .val (.ref a2), .val (.int (4 : Int32)), .val (.int (0 : Int32)), .unset, .unset] [(.int (0 : Int32)), (.ref a2)])) (fun t k => ?_) ?_
  · show Steps p.tables e below (T8.setTop (mkF m 119 #[.val (.ref a0), .val (.ref a1), .val (.ref a2), .val (.ref a2), .unset, .unset, .unset, .unset] [(.ref a2)])) t
    refine X8.arraylength hx (by rw [e8]; exact r20a.1) (State.isArrayOf_alike hZ.alike r20a.2.1) (g := (mkF m 119 #[.val (.ref a0), .val (.ref a1), .val (.ref a2), .val (.ref a2), .unset, .unset, .unset, .unset] [(.ref a2)])) rfl rfl (hb hby d1_119) _ ?_
    rw [len_of r20c r20d]
    refine XS.istore X8.here hx rfl (hb hby d1_120) rfl (l' := #[.val (.ref a0), .val (.ref a1), .val (.ref a2), .val (.ref a2), .val (.int (4 : Int32)), .unset, .unset, .unset]) rfl ?_
    refine XS.iconst X8.here hx rfl (hb hby d1_122) ?_
    refine XS.istore X8.here hx rfl (hb hby d1_123) rfl (l' := #[.val (.ref a0), .val (.ref a1), .val (.ref a2), .val (.ref a2), .val (.int (4 : Int32)), .val (.int (0 : Int32)), .unset, .unset]) rfl ?_
    refine XS.iload X8.here hx rfl (hb hby d1_125) rfl ?_
    refine XS.iload X8.here hx rfl (hb hby d1_127) rfl ?_
    refine XS.icmpNo X8.here hx rfl (hb hby d1_129) rfl (by decide) ?_
    refine XS.aloadN X8.here hx rfl (hb hby d1_132) rfl rfl ?_
    show Steps p.tables e below (T8.setTop (mkF m 133 #[.val (.ref a0), .val (.ref a1), .val (.ref a2), .val (.ref a2), .val (.int (4 : Int32)), .val (.int (0 : Int32)), .unset, .unset] [(.ref a2)])) t
    refine XS.iload X8.here hx rfl (hb hby d1_133) rfl ?_
    exact k
  obtain ⟨c21, r21a, r21b, r21c, r21d, r21e, r21f⟩ := id V_a2
  have i21 : ¬ ((0 : Int32) < 0 ∨ c21.slots.size ≤ ((0 : Int32)).toNatClampNeg) := inb_of r21c ⟨by decide, by decide⟩
  have y21 : c21.slots[((0 : Int32)).toNatClampNeg]? = some (.double eb0) := r21e.at i21 rfl
  refine own_st (T' := T8) (g' := (mkF m 147 #[.val (.ref a0), .val (.ref a1), .val (.ref a2), .val (.ref a2), .val (.int (4 : Int32)), .val (.int (0 : Int32)), .val (.double eb0), .second] [(.double eb0)])) (fun t k => ?_) ?_
  · show Steps p.tables e below (T8.setTop (mkF m 135 #[.val (.ref a0), .val (.ref a1), .val (.ref a2), .val (.ref a2), .val (.int (4 : Int32)), .val (.int (0 : Int32)), .unset, .unset] [(.int (0 : Int32)), (.ref a2)])) t
    refine X8.daload hx (j := (0 : Int32)) (v := (.double eb0)) (by rw [e8]; exact r21a.1) (State.isArrayOf_alike hZ.alike r21a.2.1) r21a.2.2 i21 y21 (g := (mkF m 135 #[.val (.ref a0), .val (.ref a1), .val (.ref a2), .val (.ref a2), .val (.int (4 : Int32)), .val (.int (0 : Int32)), .unset, .unset] [(.int (0 : Int32)), (.ref a2)])) rfl rfl (hb hby d1_135) _ ?_
    refine XS.dstore X8.here hx rfl (hb hby d1_136) rfl (l' := #[.val (.ref a0), .val (.ref a1), .val (.ref a2), .val (.ref a2), .val (.int (4 : Int32)), .val (.int (0 : Int32)), .val (.double eb0), .second]) rfl ?_
    refine XS.dload X8.here hx rfl (hb hby d1_138) rfl ?_
    refine XS.dconst0 X8.here hx rfl (hb hby d1_140) rfl ?_
    refine XS.dcmpS X8.here hx rfl (hb hby d1_141) rfl rfl ?_
    refine XS.ifNo X8.here hx rfl (hb hby d1_142) rfl ((if0 _ _).trans (flt (hb142 : ¬ ((cmpValue (FP.dcmp eb0 (0 : UInt64)) .l) < (0 : Int32)))).1) ?_
    refine XS.dload X8.here hx rfl (hb hby d1_145) rfl ?_
    exact k
  obtain ⟨_, _, ⟨T22, L22, k22, n22⟩, -, X22, ⟨Lc22, hQ22, l22, y22, z22⟩, st22⟩ := Jvm.LawKit.callS X8 hx (y := (⟨"java/lang/Double", "isInfinite", "(D)Z"⟩ : MethodName)) hown (mvT hZ (hw _ (List.mem_of_getElem? (i := 11) rfl))) (mvT hZ (hw _ (List.mem_of_getElem? (i := 12) rfl))) (mvT hZ (hw _ (List.mem_of_getElem? (i := 13) rfl))) (mvT hZ (hw _ (List.mem_of_getElem? (i := 14) rfl))) (by decide) (backOf (W := 0) (rm3 l Z ar hw [] eb0 h0 n0 Z0 h147_hn1 h147_hb8) hZ (hw _ (List.mem_of_getElem? (i := 14) rfl)) (hw _ (List.mem_of_getElem? (i := 13) rfl)) (by decide) (by decide)) (g := (mkF m 147 #[.val (.ref a0), .val (.ref a1), .val (.ref a2), .val (.ref a2), .val (.int (4 : Int32)), .val (.int (0 : Int32)), .val (.double eb0), .second] [(.double eb0)])) rfl (by rw [hml]; rfl) (argsL := [(.double eb0)]) (rest := []) (lenOf pd1_0 rfl) rfl (by show 2 * 0 + _ ≤ _; exact Nat.le_of_eq rfl) (hb hby d1_147) (fun _ _ => ⟨rfl, e8, (by decide : 0 + 0 ≤ _), (by decide : 0 + 0 ≤ _)⟩)
  dsimp only [Pt.U, Pt.locs, Pt.cells, Pt.slots] at X22 l22 y22 z22 st22 hQ22
  subst l22 y22 z22
  obtain ⟨rfl, N22q, e22⟩ := hQ22
  have n23 := Fr.app n9 N22q
  refine own_st (T' := T22) (g' := (mkF m 150 #[.val (.ref a0), .val (.ref a1), .val (.ref a2), .val (.ref a2), .val (.int (4 : Int32)), .val (.int (0 : Int32)), .val (.double eb0), .second] [(.int (0 : Int32))])) st22 ?_
  refine own_st (T' := T22) (g' := (mkF m 135 #[.val (.ref a0), .val (.ref a1), .val (.ref a2), .val (.ref a2), .val (.int (4 : Int32)), .val (.int (1 : Int32)), .val (.double eb0), .second] [(.int (1 : Int32)), (.ref a2)])) (fun t k => ?_) ?_
  · show Steps p.tables e below (T22.setTop (mkF m 150 #[.val (.ref a0), .val (.ref a1), .val (.ref a2), .val (.ref a2), .val (.int (4 : Int32)), .val (.int (0 : Int32)), .val (.double eb0), .second] [(.int (0 : Int32))])) t
    refine XS.ifYes X22.here hx rfl (pc0 := 150) (pc' := 168) rfl (hb hby d1_150) rfl (by decide) (by decide) (by decide) ?_
    refine XS.iinc X22.here hx rfl (hb hby d1_168) rfl (l' := #[.val (.ref a0), .val (.ref a1), .val (.ref a2), .val (.ref a2), .val (.int (4 : Int32)), .val (.int (1 : Int32)), .val (.double eb0), .second]) rfl ?_
    refine XS.goto X22.here hx rfl (pc0 := 171) (pc' := 125) rfl (hb hby d1_171) (by decide) (by decide) ?_
    refine XS.iload X22.here hx rfl (hb hby d1_125) rfl ?_
    refine XS.iload X22.here hx rfl (hb hby d1_127) rfl ?_
    refine XS.icmpNo X22.here hx rfl (hb hby d1_129) rfl (by decide) ?_
    refine XS.aloadN X22.here hx rfl (hb hby d1_132) rfl rfl ?_
    refine XS.iload X22.here hx rfl (hb hby d1_133) rfl ?_
    exact k
  obtain ⟨c24, r24a, r24b, r24c, r24d, r24e, r24f⟩ := id V_a2
  have i24 : ¬ ((1 : Int32) < 0 ∨ c24.slots.size ≤ ((1 : Int32)).toNatClampNeg) := inb_of r24c ⟨by decide, by decide⟩
  have y24 : c24.slots[((1 : Int32)).toNatClampNeg]? = some (.double eb1) := r24e.at i24 rfl
  refine own_st (T' := T22) (g' := (mkF m 147 #[.val (.ref a0), .val (.ref a1), .val (.ref a2), .val (.ref a2), .val (.int (4 : Int32)), .val (.int (1 : Int32)), .val (.double eb1), .second] [(.double eb1)])) (fun t k => ?_) ?_
  · show Steps p.tables e below (T22.setTop (mkF m 135 #[.val (.ref a0), .val (.ref a1), .val (.ref a2), .val (.ref a2), .val (.int (4 : Int32)), .val (.int (1 : Int32)), .val (.double eb0), .second] [(.int (1 : Int32)), (.ref a2)])) t
    refine X22.daload hx (j := (1 : Int32)) (v := (.double eb1)) (by rw [e22]; exact r24a.1) (State.isArrayOf_alike hZ.alike r24a.2.1) r24a.2.2 i24 y24 (g := (mkF m 135 #[.val (.ref a0), .val (.ref a1), .val (.ref a2), .val (.ref a2), .val (.int (4 : Int32)), .val (.int (1 : Int32)), .val (.double eb0), .second] [(.int (1 : Int32)), (.ref a2)])) rfl rfl (hb hby d1_135) _ ?_
    refine XS.dstore X22.here hx rfl (hb hby d1_136) rfl (l' := #[.val (.ref a0), .val (.ref a1), .val (.ref a2), .val (.ref a2), .val (.int (4 : Int32)), .val (.int (1 : Int32)), .val (.double eb1), .second]) rfl ?_
    refine XS.dload X22.here hx rfl (hb hby d1_138) rfl ?_
    refine XS.dconst0 X22.here hx rfl (hb hby d1_140) rfl ?_
    refine XS.dcmpS X22.here hx rfl (hb hby d1_141) rfl rfl ?_
    refine XS.ifNo X22.here hx rfl (hb hby d1_142) rfl ((if0 _ _).trans (flt (hb142_1 : ¬ ((cmpValue (FP.dcmp eb1 (0 : UInt64)) .l) < (0 : Int32)))).1) ?_
    refine XS.dload X22.here hx rfl (hb hby d1_145) rfl ?_
    exact k
  obtain ⟨_, _, ⟨T25, L25, k25, n25⟩, -, X25, ⟨Lc25, hQ25, l25, y25, z25⟩, st25⟩ := Jvm.LawKit.callS X22 hx (y := (⟨"java/lang/Double", "isInfinite", "(D)Z"⟩ : MethodName)) hown (mvT hZ (hw _ (List.mem_of_getElem? (i := 11) rfl))) (mvT hZ (hw _ (List.mem_of_getElem? (i := 12) rfl))) (mvT hZ (hw _ (List.mem_of_getElem? (i := 13) rfl))) (mvT hZ (hw _ (List.mem_of_getElem? (i := 14) rfl))) (by decide) (backOf (W := 0) (rm3 l Z ar hw [] eb1 h0 n0 Z0 h147_hn1_1 h147_hb8_1) hZ (hw _ (List.mem_of_getElem? (i := 14) rfl)) (hw _ (List.mem_of_getElem? (i := 13) rfl)) (by decide) (by decide)) (g := (mkF m 147 #[.val (.ref a0), .val (.ref a1), .val (.ref a2), .val (.ref a2), .val (.int (4 : Int32)), .val (.int (1 : Int32)), .val (.double eb1), .second] [(.double eb1)])) rfl (by rw [hml]; rfl) (argsL := [(.double eb1)]) (rest := []) (lenOf pd1_0 rfl) rfl (by show 2 * 0 + _ ≤ _; exact Nat.le_of_eq rfl) (hb hby d1_147) (fun _ _ => ⟨rfl, e22, (by decide : 0 + 0 ≤ _), (by decide : 0 + 0 ≤ _)⟩)
  dsimp only [Pt.U, Pt.locs, Pt.cells, Pt.slots] at X25 l25 y25 z25 st25 hQ25
  subst l25 y25 z25
  obtain ⟨rfl, N25q, e25⟩ := hQ25
  have n26 := Fr.app n23 N25q
  refine own_st (T' := T25) (g' := (mkF m 150 #[.val (.ref a0), .val (.ref a1), .val (.ref a2), .val (.ref a2), .val (.int (4 : Int32)), .val (.int (1 : Int32)), .val (.double eb1), .second] [(.int (0 : Int32))])) st25 ?_
  refine own_st (T' := T25) (g' := (mkF m 135 #[.val (.ref a0), .val (.ref a1), .val (.ref a2), .val (.ref a2), .val (.int (4 : Int32)), .val (.int (2 : Int32)), .val (.double eb1), .second] [(.int (2 : Int32)), (.ref a2)])) (fun t k => ?_) ?_
  · show Steps p.tables e below (T25.setTop (mkF m 150 #[.val (.ref a0), .val (.ref a1), .val (.ref a2), .val (.ref a2), .val (.int (4 : Int32)), .val (.int (1 : Int32)), .val (.double eb1), .second] [(.int (0 : Int32))])) t
    refine XS.ifYes X25.here hx rfl (pc0 := 150) (pc' := 168) rfl (hb hby d1_150) rfl (by decide) (by decide) (by decide) ?_
    refine XS.iinc X25.here hx rfl (hb hby d1_168) rfl (l' := #[.val (.ref a0), .val (.ref a1), .val (.ref a2), .val (.ref a2), .val (.int (4 : Int32)), .val (.int (2 : Int32)), .val (.double eb1), .second]) rfl ?_
    refine XS.goto X25.here hx rfl (pc0 := 171) (pc' := 125) rfl (hb hby d1_171) (by decide) (by decide) ?_
    refine XS.iload X25.here hx rfl (hb hby d1_125) rfl ?_
    refine XS.iload X25.here hx rfl (hb hby d1_127) rfl ?_
    refine XS.icmpNo X25.here hx rfl (hb hby d1_129) rfl (by decide) ?_
    refine XS.aloadN X25.here hx rfl (hb hby d1_132) rfl rfl ?_
    refine XS.iload X25.here hx rfl (hb hby d1_133) rfl ?_
    exact k
  obtain ⟨c27, r27a, r27b, r27c, r27d, r27e, r27f⟩ := id V_a2
  have i27 : ¬ ((2 : Int32) < 0 ∨ c27.slots.size ≤ ((2 : Int32)).toNatClampNeg) := inb_of r27c ⟨by decide, by decide⟩
  have y27 : c27.slots[((2 : Int32)).toNatClampNeg]? = some (.double eb2) := r27e.at i27 rfl
  refine own_st (T' := T25) (g' := (mkF m 147 #[.val (.ref a0), .val (.ref a1), .val (.ref a2), .val (.ref a2), .val (.int (4 : Int32)), .val (.int (2 : Int32)), .val (.double eb2), .second] [(.double eb2)])) (fun t k => ?_) ?_
  · show Steps p.tables e below (T25.setTop (mkF m 135 #[.val (.ref a0), .val (.ref a1), .val (.ref a2), .val (.ref a2), .val (.int (4 : Int32)), .val (.int (2 : Int32)), .val (.double eb1), .second] [(.int (2 : Int32)), (.ref a2)])) t
    refine X25.daload hx (j := (2 : Int32)) (v := (.double eb2)) (by rw [e25]; exact r27a.1) (State.isArrayOf_alike hZ.alike r27a.2.1) r27a.2.2 i27 y27 (g := (mkF m 135 #[.val (.ref a0), .val (.ref a1), .val (.ref a2), .val (.ref a2), .val (.int (4 : Int32)), .val (.int (2 : Int32)), .val (.double eb1), .second] [(.int (2 : Int32)), (.ref a2)])) rfl rfl (hb hby d1_135) _ ?_
    refine XS.dstore X25.here hx rfl (hb hby d1_136) rfl (l' := #[.val (.ref a0), .val (.ref a1), .val (.ref a2), .val (.ref a2), .val (.int (4 : Int32)), .val (.int (2 : Int32)), .val (.double eb2), .second]) rfl ?_
    refine XS.dload X25.here hx rfl (hb hby d1_138) rfl ?_
    refine XS.dconst0 X25.here hx rfl (hb hby d1_140) rfl ?_
    refine XS.dcmpS X25.here hx rfl (hb hby d1_141) rfl rfl ?_
    refine XS.ifNo X25.here hx rfl (hb hby d1_142) rfl ((if0 _ _).trans (flt (hb142_2 : ¬ ((cmpValue (FP.dcmp eb2 (0 : UInt64)) .l) < (0 : Int32)))).1) ?_
    refine XS.dload X25.here hx rfl (hb hby d1_145) rfl ?_
    exact k
  obtain ⟨_, _, ⟨T28, L28, k28, n28⟩, -, X28, ⟨Lc28, hQ28, l28, y28, z28⟩, st28⟩ := Jvm.LawKit.callS X25 hx (y := (⟨"java/lang/Double", "isInfinite", "(D)Z"⟩ : MethodName)) hown (mvT hZ (hw _ (List.mem_of_getElem? (i := 11) rfl))) (mvT hZ (hw _ (List.mem_of_getElem? (i := 12) rfl))) (mvT hZ (hw _ (List.mem_of_getElem? (i := 13) rfl))) (mvT hZ (hw _ (List.mem_of_getElem? (i := 14) rfl))) (by decide) (backOf (W := 0) (rm3 l Z ar hw [] eb2 h0 n0 Z0 h147_hn1_2 h147_hb8_2) hZ (hw _ (List.mem_of_getElem? (i := 14) rfl)) (hw _ (List.mem_of_getElem? (i := 13) rfl)) (by decide) (by decide)) (g := (mkF m 147 #[.val (.ref a0), .val (.ref a1), .val (.ref a2), .val (.ref a2), .val (.int (4 : Int32)), .val (.int (2 : Int32)), .val (.double eb2), .second] [(.double eb2)])) rfl (by rw [hml]; rfl) (argsL := [(.double eb2)]) (rest := []) (lenOf pd1_0 rfl) rfl (by show 2 * 0 + _ ≤ _; exact Nat.le_of_eq rfl) (hb hby d1_147) (fun _ _ => ⟨rfl, e25, (by decide : 0 + 0 ≤ _), (by decide : 0 + 0 ≤ _)⟩)
  dsimp only [Pt.U, Pt.locs, Pt.cells, Pt.slots] at X28 l28 y28 z28 st28 hQ28
  subst l28 y28 z28
  obtain ⟨rfl, N28q, e28⟩ := hQ28
  have n29 := Fr.app n26 N28q
  refine own_st (T' := T28) (g' := (mkF m 150 #[.val (.ref a0), .val (.ref a1), .val (.ref a2), .val (.ref a2), .val (.int (4 : Int32)), .val (.int (2 : Int32)), .val (.double eb2), .second] [(.int (0 : Int32))])) st28 ?_
  refine own_st (T' := T28) (g' := (mkF m 135 #[.val (.ref a0), .val (.ref a1), .val (.ref a2), .val (.ref a2), .val (.int (4 : Int32)), .val (.int (3 : Int32)), .val (.double eb2), .second] [(.int (3 : Int32)), (.ref a2)])) (fun t k => ?_) ?_
  · show Steps p.tables e below (T28.setTop (mkF m 150 #[.val (.ref a0), .val (.ref a1), .val (.ref a2), .val (.ref a2), .val (.int (4 : Int32)), .val (.int (2 : Int32)), .val (.double eb2), .second] [(.int (0 : Int32))])) t
    refine XS.ifYes X28.here hx rfl (pc0 := 150) (pc' := 168) rfl (hb hby d1_150) rfl (by decide) (by decide) (by decide) ?_
    refine XS.iinc X28.here hx rfl (hb hby d1_168) rfl (l' := #[.val (.ref a0), .val (.ref a1), .val (.ref a2), .val (.ref a2), .val (.int (4 : Int32)), .val (.int (3 : Int32)), .val (.double eb2), .second]) rfl ?_
    refine XS.goto X28.here hx rfl (pc0 := 171) (pc' := 125) rfl (hb hby d1_171) (by decide) (by decide) ?_
    refine XS.iload X28.here hx rfl (hb hby d1_125) rfl ?_
    refine XS.iload X28.here hx rfl (hb hby d1_127) rfl ?_
    refine XS.icmpNo X28.here hx rfl (hb hby d1_129) rfl (by decide) ?_
    refine XS.aloadN X28.here hx rfl (hb hby d1_132) rfl rfl ?_
    refine XS.iload X28.here hx rfl (hb hby d1_133) rfl ?_
    exact k
  obtain ⟨c30, r30a, r30b, r30c, r30d, r30e, r30f⟩ := id V_a2
  have i30 : ¬ ((3 : Int32) < 0 ∨ c30.slots.size ≤ ((3 : Int32)).toNatClampNeg) := inb_of r30c ⟨by decide, by decide⟩
  have y30 : c30.slots[((3 : Int32)).toNatClampNeg]? = some (.double eb3) := r30e.at i30 rfl
  refine own_st (T' := T28) (g' := (mkF m 147 #[.val (.ref a0), .val (.ref a1), .val (.ref a2), .val (.ref a2), .val (.int (4 : Int32)), .val (.int (3 : Int32)), .val (.double eb3), .second] [(.double eb3)])) (fun t k => ?_) ?_
  · show Steps p.tables e below (T28.setTop (mkF m 135 #[.val (.ref a0), .val (.ref a1), .val (.ref a2), .val (.ref a2), .val (.int (4 : Int32)), .val (.int (3 : Int32)), .val (.double eb2), .second] [(.int (3 : Int32)), (.ref a2)])) t
    refine X28.daload hx (j := (3 : Int32)) (v := (.double eb3)) (by rw [e28]; exact r30a.1) (State.isArrayOf_alike hZ.alike r30a.2.1) r30a.2.2 i30 y30 (g := (mkF m 135 #[.val (.ref a0), .val (.ref a1), .val (.ref a2), .val (.ref a2), .val (.int (4 : Int32)), .val (.int (3 : Int32)), .val (.double eb2), .second] [(.int (3 : Int32)), (.ref a2)])) rfl rfl (hb hby d1_135) _ ?_
    refine XS.dstore X28.here hx rfl (hb hby d1_136) rfl (l' := #[.val (.ref a0), .val (.ref a1), .val (.ref a2), .val (.ref a2), .val (.int (4 : Int32)), .val (.int (3 : Int32)), .val (.double eb3), .second]) rfl ?_
    refine XS.dload X28.here hx rfl (hb hby d1_138) rfl ?_
    refine XS.dconst0 X28.here hx rfl (hb hby d1_140) rfl ?_
    refine XS.dcmpS X28.here hx rfl (hb hby d1_141) rfl rfl ?_
    refine XS.ifNo X28.here hx rfl (hb hby d1_142) rfl ((if0 _ _).trans (flt (hb142_3 : ¬ ((cmpValue (FP.dcmp eb3 (0 : UInt64)) .l) < (0 : Int32)))).1) ?_
    refine XS.dload X28.here hx rfl (hb hby d1_145) rfl ?_
    exact k
  obtain ⟨_, _, ⟨T31, L31, k31, n31⟩, -, X31, ⟨Lc31, hQ31, l31, y31, z31⟩, st31⟩ := Jvm.LawKit.callS X28 hx (y := (⟨"java/lang/Double", "isInfinite", "(D)Z"⟩ : MethodName)) hown (mvT hZ (hw _ (List.mem_of_getElem? (i := 11) rfl))) (mvT hZ (hw _ (List.mem_of_getElem? (i := 12) rfl))) (mvT hZ (hw _ (List.mem_of_getElem? (i := 13) rfl))) (mvT hZ (hw _ (List.mem_of_getElem? (i := 14) rfl))) (by decide) (backOf (W := 0) (rm3 l Z ar hw [] eb3 h0 n0 Z0 h147_hn1_3 h147_hb8_3) hZ (hw _ (List.mem_of_getElem? (i := 14) rfl)) (hw _ (List.mem_of_getElem? (i := 13) rfl)) (by decide) (by decide)) (g := (mkF m 147 #[.val (.ref a0), .val (.ref a1), .val (.ref a2), .val (.ref a2), .val (.int (4 : Int32)), .val (.int (3 : Int32)), .val (.double eb3), .second] [(.double eb3)])) rfl (by rw [hml]; rfl) (argsL := [(.double eb3)]) (rest := []) (lenOf pd1_0 rfl) rfl (by show 2 * 0 + _ ≤ _; exact Nat.le_of_eq rfl) (hb hby d1_147) (fun _ _ => ⟨rfl, e28, (by decide : 0 + 0 ≤ _), (by decide : 0 + 0 ≤ _)⟩)
  dsimp only [Pt.U, Pt.locs, Pt.cells, Pt.slots] at X31 l31 y31 z31 st31 hQ31
  subst l31 y31 z31
  obtain ⟨rfl, N31q, e31⟩ := hQ31
  have n32 := Fr.app n29 N31q
  refine own_st (T' := T31) (g' := (mkF m 150 #[.val (.ref a0), .val (.ref a1), .val (.ref a2), .val (.ref a2), .val (.int (4 : Int32)), .val (.int (3 : Int32)), .val (.double eb3), .second] [(.int (0 : Int32))])) st31 ?_
  refine own_st (T' := T31) (g' := (mkF m 176 #[.val (.ref a0), .val (.ref a1), .val (.ref a2), .val (.ref a2), .val (.int (4 : Int32)), .val (.int (4 : Int32)), .val (.double eb3), .second] [(.ref a1), (.ref a0)])) (fun t k => ?_) ?_
  · show Steps p.tables e below (T31.setTop (mkF m 150 #[.val (.ref a0), .val (.ref a1), .val (.ref a2), .val (.ref a2), .val (.int (4 : Int32)), .val (.int (3 : Int32)), .val (.double eb3), .second] [(.int (0 : Int32))])) t
    refine XS.ifYes X31.here hx rfl (pc0 := 150) (pc' := 168) rfl (hb hby d1_150) rfl (by decide) (by decide) (by decide) ?_
    refine XS.iinc X31.here hx rfl (hb hby d1_168) rfl (l' := #[.val (.ref a0), .val (.ref a1), .val (.ref a2), .val (.ref a2), .val (.int (4 : Int32)), .val (.int (4 : Int32)), .val (.double eb3), .second]) rfl ?_
    refine XS.goto X31.here hx rfl (pc0 := 171) (pc' := 125) rfl (hb hby d1_171) (by decide) (by decide) ?_
    refine XS.iload X31.here hx rfl (hb hby d1_125) rfl ?_
    refine XS.iload X31.here hx rfl (hb hby d1_127) rfl ?_
    refine XS.icmpYes X31.here hx rfl (pc0 := 129) (pc' := 174) rfl (hb hby d1_129) rfl (by decide) (by decide) (by decide) ?_
    refine XS.aloadN X31.here hx rfl (hb hby d1_174) rfl rfl ?_
    refine XS.aloadN X31.here hx rfl (hb hby d1_175) rfl rfl ?_
    exact k
  obtain ⟨T33, h33, X33, e33, E33, A33, B33, st33⟩ := cloneH X31 hx hZ hown (hw _ (List.mem_of_getElem? (i := 20) rfl)) (hw _ (List.mem_of_getElem? (i := 21) rfl)) (hw _ (List.mem_of_getElem? (i := 25) rfl)) (hw _ (List.mem_of_getElem? (i := 23) rfl)) (hw _ (List.mem_of_getElem? (i := 24) rfl)) (hw _ (List.mem_of_getElem? (i := 26) rfl)) e31 (Arv.arh V_a1) E_a1 (g := (mkF m 176 #[.val (.ref a0), .val (.ref a1), .val (.ref a2), .val (.ref a2), .val (.int (4 : Int32)), .val (.int (4 : Int32)), .val (.double eb3), .second] [(.ref a1), (.ref a0)])) rfl (by rw [hml]; rfl) rfl (hb hby d1_176) (by decide) (W := 1) (by show 2 * 0 + _ ≤ _; exact Nat.le_of_eq rfl) (by decide) (cap := 4) (by decide) (by decide) (by decide)
  obtain ⟨b33, g33⟩ : ∃ z, z = h0.size := ⟨_, rfl⟩
  rw [← g33] at A33 B33 st33
  have ne_a0_b33 : a0 ≠ b33 := Nat.ne_of_lt (Nat.lt_of_lt_of_le E_a0.lt (Nat.le_of_eq g33.symm))
  have ne_a1_b33 : a1 ≠ b33 := Nat.ne_of_lt (Nat.lt_of_lt_of_le E_a1.lt (Nat.le_of_eq g33.symm))
  have ne_a2_b33 : a2 ≠ b33 := Nat.ne_of_lt (Nat.lt_of_lt_of_le E_a2.lt (Nat.le_of_eq g33.symm))
  have g_b33 : n0 ≤ b33 := Nat.le_trans Z0 (Nat.le_of_eq g33.symm)
  have sz_b33 : h0.size ≤ b33 := Nat.le_trans K0.1 (Nat.le_of_eq g33.symm)
  have f34 := E_a0.ext E33
  have f35 := F_values_a0.ext E33
  have f36 := F_bids_a0.ext E33
  have f37 := E_a1.ext E33
  have f38 := V_a1.ext E33
  have f39 := E_a2.ext E33
  have f40 := V_a2.ext E33
  have z41 := Nat.le_trans Z0 E33.1
  have k42 := K0.ext E33
  have v43 : Arv Z h33 b33 kk_a1 .double (4 : Int32) [(.double ev0), (.double ev1), (.double ev2), (.double ev3)] (.double (0 : UInt64)) := A33
  refine own_st (T' := T33) (g' := (mkF m 179 #[.val (.ref a0), .val (.ref a1), .val (.ref a2), .val (.ref a2), .val (.int (4 : Int32)), .val (.int (4 : Int32)), .val (.double eb3), .second] [(.ref b33), (.ref a0)])) st33 ?_
  obtain ⟨T44, X44, e44, st44⟩ := castY X33 hx hZ hown (hw _ (List.mem_of_getElem? (i := 27) rfl)) e33 (Ins.self B33) (g := (mkF m 179 #[.val (.ref a0), .val (.ref a1), .val (.ref a2), .val (.ref a2), .val (.int (4 : Int32)), .val (.int (4 : Int32)), .val (.double eb3), .second] [(.ref b33), (.ref a0)])) rfl rfl (hb hby d1_179)
  refine own_st (T' := T44) (g' := (mkF m 182 #[.val (.ref a0), .val (.ref a1), .val (.ref a2), .val (.ref a2), .val (.int (4 : Int32)), .val (.int (4 : Int32)), .val (.double eb3), .second] [(.ref b33), (.ref a0)])) st44 ?_
  obtain ⟨T45, h45, X45, e45, W45, st45⟩ := putF X44 hx hZ hown (host := "") (Or.inl (hw _ (List.mem_of_getElem? (i := 29) rfl))) Via.refl e44 f35 f34 (Or.inr ⟨(hw _ (List.mem_of_getElem? (i := 30) rfl)), rfl, hnm⟩) (hw _ (List.mem_of_getElem? (i := 3) rfl)) (ty := (.array .double)) (by decide) rfl rfl (g := (mkF m 182 #[.val (.ref a0), .val (.ref a1), .val (.ref a2), .val (.ref a2), .val (.int (4 : Int32)), .val (.int (4 : Int32)), .val (.double eb3), .second] [(.ref b33), (.ref a0)])) rfl rfl (hb hby d1_182)
  have f46 := f34.wr W45
  have f47 := f35.same W45
  have f48 := f36.other W45 (Or.inr (slot_ne (Or.inr (hw _ (List.mem_of_getElem? (i := 32) rfl))) (Or.inr (hw _ (List.mem_of_getElem? (i := 30) rfl))) (by decide) (t := (.array .double)) (t' := (.array .double)) (by decide) (by decide)))
  have f49 := f37.wr W45
  have f50 := f38.other W45 ne_a1_a0
  have f51 := f39.wr W45
  have f52 := f40.other W45 ne_a2_a0
  have f53 := v43.other W45 (Ne.symm ne_a0_b33)
  have f54 := B33.wr W45
  have z55 := Nat.le_trans z41 (Keep.of_wr W45).1
  have k56 := k42.wr W45 (Or.inl (List.mem_of_getElem? (i := 0) rfl))
  have n57 := Fr.snoc X45 n32 g_a0
  refine own_st (T' := T45) (g' := (mkF m 185 #[.val (.ref a0), .val (.ref a1), .val (.ref a2), .val (.ref a2), .val (.int (4 : Int32)), .val (.int (4 : Int32)), .val (.double eb3), .second] [])) st45 ?_
  refine own_st (T' := T45) (g' := (mkF m 187 #[.val (.ref a0), .val (.ref a1), .val (.ref a2), .val (.ref a2), .val (.int (4 : Int32)), .val (.int (4 : Int32)), .val (.double eb3), .second] [(.ref a2), (.ref a0)])) (fun t k => ?_) ?_
  · show Steps p.tables e below (T45.setTop (mkF m 185 #[.val (.ref a0), .val (.ref a1), .val (.ref a2), .val (.ref a2), .val (.int (4 : Int32)), .val (.int (4 : Int32)), .val (.double eb3), .second] [])) t
    refine XS.aloadN X45.here hx rfl (hb hby d1_185) rfl rfl ?_
    refine XS.aloadN X45.here hx rfl (hb hby d1_186) rfl rfl ?_
    exact k
  obtain ⟨T58, h58, X58, e58, E58, A58, B58, st58⟩ := cloneH X45 hx hZ hown (hw _ (List.mem_of_getElem? (i := 20) rfl)) (hw _ (List.mem_of_getElem? (i := 21) rfl)) (hw _ (List.mem_of_getElem? (i := 25) rfl)) (hw _ (List.mem_of_getElem? (i := 23) rfl)) (hw _ (List.mem_of_getElem? (i := 24) rfl)) (hw _ (List.mem_of_getElem? (i := 26) rfl)) e45 (Arv.arh f52) f51 (g := (mkF m 187 #[.val (.ref a0), .val (.ref a1), .val (.ref a2), .val (.ref a2), .val (.int (4 : Int32)), .val (.int (4 : Int32)), .val (.double eb3), .second] [(.ref a2), (.ref a0)])) rfl (by rw [hml]; rfl) rfl (hb hby d1_187) (by decide) (W := 1) (by show 2 * 0 + _ ≤ _; exact Nat.le_of_eq rfl) (by decide) (cap := 4) (by decide) (by decide) (by decide)
  obtain ⟨b58, g58⟩ : ∃ z, z = h45.size := ⟨_, rfl⟩
  rw [← g58] at A58 B58 st58
  have ne_a0_b58 : a0 ≠ b58 := Nat.ne_of_lt (Nat.lt_of_lt_of_le f46.lt (Nat.le_of_eq g58.symm))
  have ne_a1_b58 : a1 ≠ b58 := Nat.ne_of_lt (Nat.lt_of_lt_of_le f49.lt (Nat.le_of_eq g58.symm))
  have ne_a2_b58 : a2 ≠ b58 := Nat.ne_of_lt (Nat.lt_of_lt_of_le f51.lt (Nat.le_of_eq g58.symm))
  have ne_b33_b58 : b33 ≠ b58 := Nat.ne_of_lt (Nat.lt_of_lt_of_le f53.lt (Nat.le_of_eq g58.symm))
  have g_b58 : n0 ≤ b58 := Nat.le_trans z55 (Nat.le_of_eq g58.symm)
  have sz_b58 : h0.size ≤ b58 := Nat.le_trans k56.1 (Nat.le_of_eq g58.symm)
  have f59 := f46.ext E58
  have f60 := f47.ext E58
  have f61 := f48.ext E58
  have f62 := f49.ext E58
  have f63 := f50.ext E58
  have f64 := f51.ext E58
  have f65 := f52.ext E58
  have f66 := f53.ext E58
  have f67 := f54.ext E58
  have z68 := Nat.le_trans z55 E58.1
  have k69 := k56.ext E58
  have v70 : Arv Z h58 b58 kk_a2 .double (4 : Int32) [(.double eb0), (.double eb1), (.double eb2), (.double eb3)] (.double (0 : UInt64)) := A58
  refine own_st (T' := T58) (g' := (mkF m 190 #[.val (.ref a0), .val (.ref a1), .val (.ref a2), .val (.ref a2), .val (.int (4 : Int32)), .val (.int (4 : Int32)), .val (.double eb3), .second] [(.ref b58), (.ref a0)])) st58 ?_
  obtain ⟨T71, X71, e71, st71⟩ := castY X58 hx hZ hown (hw _ (List.mem_of_getElem? (i := 27) rfl)) e58 (Ins.self B58) (g := (mkF m 190 #[.val (.ref a0), .val (.ref a1), .val (.ref a2), .val (.ref a2), .val (.int (4 : Int32)), .val (.int (4 : Int32)), .val (.double eb3), .second] [(.ref b58), (.ref a0)])) rfl rfl (hb hby d1_190)
  refine own_st (T' := T71) (g' := (mkF m 193 #[.val (.ref a0), .val (.ref a1), .val (.ref a2), .val (.ref a2), .val (.int (4 : Int32)), .val (.int (4 : Int32)), .val (.double eb3), .second] [(.ref b58), (.ref a0)])) st71 ?_
  obtain ⟨T72, h72, X72, e72, W72, st72⟩ := putF X71 hx hZ hown (host := "") (Or.inl (hw _ (List.mem_of_getElem? (i := 31) rfl))) Via.refl e71 f61 f59 (Or.inr ⟨(hw _ (List.mem_of_getElem? (i := 32) rfl)), rfl, hnm⟩) (hw _ (List.mem_of_getElem? (i := 3) rfl)) (ty := (.array .double)) (by decide) rfl rfl (g := (mkF m 193 #[.val (.ref a0), .val (.ref a1), .val (.ref a2), .val (.ref a2), .val (.int (4 : Int32)), .val (.int (4 : Int32)), .val (.double eb3), .second] [(.ref b58), (.ref a0)])) rfl rfl (hb hby d1_193)
  have f73 := f59.wr W72
  have f74 := f60.other W72 (Or.inr (slot_ne (Or.inr (hw _ (List.mem_of_getElem? (i := 30) rfl))) (Or.inr (hw _ (List.mem_of_getElem? (i := 32) rfl))) (by decide) (t := (.array .double)) (t' := (.array .double)) (by decide) (by decide)))
  have f75 := f61.same W72
  have f76 := f62.wr W72
  have f77 := f63.other W72 ne_a1_a0
  have f78 := f64.wr W72
  have f79 := f65.other W72 ne_a2_a0
  have f80 := f66.other W72 (Ne.symm ne_a0_b33)
  have f81 := f67.wr W72
  have f82 := v70.other W72 (Ne.symm ne_a0_b58)
  have f83 := B58.wr W72
  have z84 := Nat.le_trans z68 (Keep.of_wr W72).1
  have k85 := k69.wr W72 (Or.inl (List.mem_of_getElem? (i := 0) rfl))
  have n86 := Fr.snoc X72 n57 g_a0
  refine own_st (T' := T72) (g' := (mkF m 196 #[.val (.ref a0), .val (.ref a1), .val (.ref a2), .val (.ref a2), .val (.int (4 : Int32)), .val (.int (4 : Int32)), .val (.double eb3), .second] [])) st72 ?_
  refine own_retV X72 hx hlk Bd.returns (hb hby d1_196) (by decide) (by decide) ?_
  show Q1 Z a0 a1 a2 u_values_a0 u_bids_a0 kk_a1 ev0 ev1 ev2 ev3 kk_a2 eb0 eb1 eb2 eb3 h0 n0 none T72.heap _
  rw [(e72 : T72.heap = h72)]
  exact ⟨b33, b58, rfl, n86, k85, sz_b33, sz_b58, ne_b33_b58, f73, f74, f75, f80, f81, f82, f83⟩
theorem d9_0 : decode jdk_117_method_6_code 0 = .ok (.dload_n 0, 1) := by decide +kernel
theorem d9_1 : decode jdk_117_method_6_code 1 = .ok (.dload_n 0, 1) := by decide +kernel
theorem d9_2 : decode jdk_117_method_6_code 2 = .ok (.dcmp .l, 1) := by decide +kernel
theorem d9_3 : decode jdk_117_method_6_code 3 = .ok (.ifCond .eq 7, 3) := by decide +kernel
theorem d9_10 : decode jdk_117_method_6_code 10 = .ok (.iconst 0, 1) := by decide +kernel
theorem d9_11 : decode jdk_117_method_6_code 11 = .ok (.ireturn, 1) := by decide +kernel
theorem pn9 : plainName "java/lang/Double" = true := by first | (simp [plainName, overriddenIn]; done) | decide +kernel
theorem ef9 (m : MethodId) (d0 : UInt64) : entryFrame m #[(.double d0)] 2 = mkF m 0 #[.val (.double d0), .second] [] := by first | (simp [entryFrame, mkF, argsToLocals, Value.category]; done) | rfl
def Q9 (Z : State) (d0 : UInt64) (h0 : Heap) (n0 : Nat) (v : Option Value) (h : Heap) (L : List Loc) : Prop := v = some (.int (0 : Int32)) ∧ Fr n0 L ∧ h = h0
set_option maxRecDepth 65536 in
set_option maxHeartbeats 40000000 in
theorem rm9 (l : Launch) (Z : State) (ar : Array Value) (hw : ∀ d ∈ tables_1, d.before ar Z = true) (ws : List Jvm.Cond) (d0 : UInt64) (h0 : Heap) (n0 : Nat) (Z0 : n0 ≤ h0.size) (hq_0 : (cmpValue (FP.dcmp d0 d0) .l) = (0 : Int32)) :
    MetFree l (⟨"java/lang/Double", "isNaN", "(D)Z"⟩ : MethodName) (head1 (Jvm.Cond.code (⟨"java/lang/Double", "isNaN", "(D)Z"⟩ : MethodName) jdk_117_method_6_code 2 (some .boolean) :: ws) ({ frames := 0, cells := 0, slots := 0, locals := 0 } : Room)) (fun a U => a = #[(.double d0)] ∧ Z.Warmed39 U.vm ∧ U.heap = h0) (fun _ _ _ _ _ => True) (fun _ U o U' => ∃ v L, o = .returned v ∧ Q9 Z d0 h0 n0 v U'.heap L ∧ FrameEnd U o U' L ({ frames := 0, cells := 0, slots := 0, locals := 0 } : Room).cells ({ frames := 0, cells := 0, slots := 0, locals := 0 } : Room).slots) := by
  refine MetFree.of_bodySF (plainFor_of_name pn9) hisR ?_
  intro p e s m args below meth c s₁ Bd hml0 hP hK
  obtain ⟨rfl, hZ, hh⟩ := hP
  have hx := Bd.exec
  have hby := Bd.bytes
  have hlk := Bd.notSynchronized
  have hml : c.maxLocals = 2 := hml0
  have hown : s.vm.findClass "java/lang/Double" = some m.cls := findClass_of_methodNamed Bd.named
  have hnm := (name_of_methodNamed Bd.named Bd.method).1
  have X0 : Stand p l e ({ frames := 0, cells := 0, slots := 0, locals := 0 } : Room) s m #[(.double d0)] below meth c s₁ [] 0 0 := Stand.of_body Bd
  have e0 : s₁.heap = h0 := by rw [← hh, Bd.state]; rfl
  have N0 := Fr.nil n0
  have K0 := Keep.refl h0 []
  refine own_enter (Q := Q9 Z d0 h0 n0) (ef9 m d0) ?_
  refine own_st (T' := s₁) (g' := (mkF m 11 #[.val (.double d0), .second] [(.int (0 : Int32))])) (fun t k => ?_) ?_
  · show Steps p.tables e below (s₁.setTop (mkF m 0 #[.val (.double d0), .second] [])) t
    refine XS.dloadN X0.here hx rfl (hb hby d9_0) rfl ?_
    refine XS.dloadN X0.here hx rfl (hb hby d9_1) rfl ?_
    refine XS.dcmpS X0.here hx rfl (hb hby d9_2) rfl hq_0 ?_
    refine XS.ifYes X0.here hx rfl (pc0 := 3) (pc' := 10) rfl (hb hby d9_3) rfl (by decide) (by decide) (by decide) ?_
    refine XS.iconst X0.here hx rfl (hb hby d9_10) ?_
    exact k
  refine own_retZ X0 hx hlk Bd.returns (hb hby d9_11) rfl (by decide) (by decide) ?_
  show Q9 Z d0 h0 n0 (some (.int (0 : Int32))) s₁.heap _
  rw [(e0 : s₁.heap = h0)]
  exact ⟨rfl, N0, rfl⟩
theorem d8_0 : decode jdk_117_method_23_code 0 = .ok (.dload_n 0, 1) := by decide +kernel
theorem d8_1 : decode jdk_117_method_23_code 1 = .ok (.invokestatic 122, 3) := by decide +kernel
theorem d8_4 : decode jdk_117_method_23_code 4 = .ok (.ifCond .ne 8, 3) := by decide +kernel
theorem d8_7 : decode jdk_117_method_23_code 7 = .ok (.dload_n 0, 1) := by decide +kernel
theorem d8_8 : decode jdk_117_method_23_code 8 = .ok (.invokestatic 134, 3) := by decide +kernel
theorem d8_11 : decode jdk_117_method_23_code 11 = .ok (.lreturn, 1) := by decide +kernel
theorem pn8 : plainName "java/lang/Double" = true := by first | (simp [plainName, overriddenIn]; done) | decide +kernel
theorem pd8_0 : parseMethodDescriptor "(D)Z" = some ⟨[.double], some .boolean⟩ := by decide +kernel
theorem ef8 (m : MethodId) (d0 : UInt64) : entryFrame m #[(.double d0)] 2 = mkF m 0 #[.val (.double d0), .second] [] := by first | (simp [entryFrame, mkF, argsToLocals, Value.category]; done) | rfl
def Q8 (Z : State) (d0 : UInt64) (h0 : Heap) (n0 : Nat) (v : Option Value) (h : Heap) (L : List Loc) : Prop := v = some (.long d0.toInt64) ∧ Fr n0 L ∧ h = h0
set_option maxRecDepth 65536 in
set_option maxHeartbeats 40000000 in
theorem rm8 (l : Launch) (Z : State) (ar : Array Value) (hw : ∀ d ∈ tables_1, d.before ar Z = true) (ws : List Jvm.Cond) (d0 : UInt64) (h0 : Heap) (n0 : Nat) (Z0 : n0 ≤ h0.size) (h1_hq_0 : (cmpValue (FP.dcmp d0 d0) .l) = (0 : Int32)) :
    MetFree l (⟨"java/lang/Double", "doubleToLongBits", "(D)J"⟩ : MethodName) (head1 (Jvm.Cond.code (⟨"java/lang/Double", "doubleToLongBits", "(D)J"⟩ : MethodName) jdk_117_method_23_code 2 (some .long) :: ws) ({ frames := 1, cells := 0, slots := 0, locals := 15 } : Room)) (fun a U => a = #[(.double d0)] ∧ Z.Warmed39 U.vm ∧ U.heap = h0) (fun _ _ _ _ _ => True) (fun _ U o U' => ∃ v L, o = .returned v ∧ Q8 Z d0 h0 n0 v U'.heap L ∧ FrameEnd U o U' L ({ frames := 1, cells := 0, slots := 0, locals := 15 } : Room).cells ({ frames := 1, cells := 0, slots := 0, locals := 15 } : Room).slots) := by
  refine MetFree.of_bodySF (plainFor_of_name pn8) hisR ?_
  intro p e s m args below meth c s₁ Bd hml0 hP hK
  obtain ⟨rfl, hZ, hh⟩ := hP
  have hx := Bd.exec
  have hby := Bd.bytes
  have hlk := Bd.notSynchronized
  have hml : c.maxLocals = 2 := hml0
  have hown : s.vm.findClass "java/lang/Double" = some m.cls := findClass_of_methodNamed Bd.named
  have hnm := (name_of_methodNamed Bd.named Bd.method).1
  have X0 : Stand p l e ({ frames := 1, cells := 0, slots := 0, locals := 15 } : Room) s m #[(.double d0)] below meth c s₁ [] 0 0 := Stand.of_body Bd
  have e0 : s₁.heap = h0 := by rw [← hh, Bd.state]; rfl
  have N0 := Fr.nil n0
  have K0 := Keep.refl h0 []
  refine own_enter (Q := Q8 Z d0 h0 n0) (ef8 m d0) ?_
  refine own_st (T' := s₁) (g' := (mkF m 1 #[.val (.double d0), .second] [(.double d0)])) (fun t k => ?_) ?_
  · show Steps p.tables e below (s₁.setTop (mkF m 0 #[.val (.double d0), .second] [])) t
    refine XS.dloadN X0.here hx rfl (hb hby d8_0) rfl ?_
    exact k
  obtain ⟨_, _, ⟨T1, L1, k1, n1⟩, -, X1, ⟨Lc1, hQ1, l1, y1, z1⟩, st1⟩ := Jvm.LawKit.callS X0 hx (y := (⟨"java/lang/Double", "isNaN", "(D)Z"⟩ : MethodName)) hown (mvT hZ (hw _ (List.mem_of_getElem? (i := 48) rfl))) (mvT hZ (hw _ (List.mem_of_getElem? (i := 49) rfl))) (mvT hZ (hw _ (List.mem_of_getElem? (i := 13) rfl))) (mvT hZ (hw _ (List.mem_of_getElem? (i := 50) rfl))) (by decide) (backOf (W := 0) (rm9 l Z ar hw [] d0 h0 n0 Z0 h1_hq_0) hZ (hw _ (List.mem_of_getElem? (i := 50) rfl)) (hw _ (List.mem_of_getElem? (i := 13) rfl)) (by decide) (by decide)) (g := (mkF m 1 #[.val (.double d0), .second] [(.double d0)])) rfl (by rw [hml]; rfl) (argsL := [(.double d0)]) (rest := []) (lenOf pd8_0 rfl) rfl (by show 2 * 0 + _ ≤ _; exact Nat.le_of_eq rfl) (hb hby d8_1) (fun _ _ => ⟨rfl, e0, (by decide : 0 + 0 ≤ _), (by decide : 0 + 0 ≤ _)⟩)
  dsimp only [Pt.U, Pt.locs, Pt.cells, Pt.slots] at X1 l1 y1 z1 st1 hQ1
  subst l1 y1 z1
  obtain ⟨rfl, N1q, e1⟩ := hQ1
  have n2 := Fr.app N0 N1q
  refine own_st (T' := T1) (g' := (mkF m 4 #[.val (.double d0), .second] [(.int (0 : Int32))])) st1 ?_
  refine own_st (T' := T1) (g' := (mkF m 8 #[.val (.double d0), .second] [(.double d0)])) (fun t k => ?_) ?_
  · show Steps p.tables e below (T1.setTop (mkF m 4 #[.val (.double d0), .second] [(.int (0 : Int32))])) t
    refine XS.ifNo X1.here hx rfl (hb hby d8_4) rfl (by decide) ?_
    refine XS.dloadN X1.here hx rfl (hb hby d8_7) rfl ?_
    exact k
  obtain ⟨vm3, X3', st3'⟩ := Jvm.Stand.doubleToRawLongBits X1 hx hown (mvT hZ (hw _ (List.mem_of_getElem? (i := 51) rfl))) (mvT hZ (hw _ (List.mem_of_getElem? (i := 53) rfl))) (mvT hZ (hw _ (List.mem_of_getElem? (i := 52) rfl))) (mvT hZ (hw _ (List.mem_of_getElem? (i := 13) rfl))) (g := (mkF m 8 #[.val (.double d0), .second] [(.double d0)])) rfl (by rw [hml]; rfl) rfl (hb hby d8_8) (by decide) (by show 2 * 0 + _ + _ ≤ _; decide)
  obtain ⟨T3, hT3⟩ : ∃ z, z = T1.setVm vm3 := ⟨_, rfl⟩
  have X3 := X3'
  have st3 := st3'
  rw [← hT3] at X3 st3
  have e3 : T3.heap = h0 := by rw [hT3]; exact e1
  refine own_st (T' := T3) (g' := (mkF m 11 #[.val (.double d0), .second] [(.long d0.toInt64)])) st3 ?_
  refine own_retJ X3 hx hlk Bd.returns (hb hby d8_11) (by decide) (by decide) ?_
  show Q8 Z d0 h0 n0 (some (.long d0.toInt64)) T3.heap _
  rw [(e3 : T3.heap = h0)]
  exact ⟨rfl, n2, rfl⟩
theorem d10_0 : decode jdk_29_method_65_code 0 = .ok (.iload_n 0, 1) := by decide +kernel
theorem d10_1 : decode jdk_29_method_65_code 1 = .ok (.iload_n 1, 1) := by decide +kernel
theorem d10_2 : decode jdk_29_method_65_code 2 = .ok (.if_icmp .lt 7, 3) := by decide +kernel
theorem d10_5 : decode jdk_29_method_65_code 5 = .ok (.iload_n 0, 1) := by decide +kernel
theorem d10_6 : decode jdk_29_method_65_code 6 = .ok (.goto 4, 3) := by decide +kernel
theorem d10_10 : decode jdk_29_method_65_code 10 = .ok (.ireturn, 1) := by decide +kernel
theorem pnmx0 : plainFor (⟨"java/lang/Math", "max", "(II)I"⟩ : MethodName) = true := by decide +kernel
theorem efmx0 (m : MethodId) (p0 : Int32) (p1 : Int32) : entryFrame m #[(.int p0), (.int p1)] 2 = mkF m 0 #[.val (.int p0), .val (.int p1)] [] := by first | (simp [entryFrame, mkF, argsToLocals, Value.category]; done) | rfl
def Qmx0 (Z : State) (p0 : Int32) (p1 : Int32) (h0 : Heap) (n0 : Nat) (v : Option Value) (h : Heap) (L : List Loc) : Prop := v = some (.int p0) ∧ Fr n0 L ∧ h = h0
set_option maxRecDepth 65536 in
set_option maxHeartbeats 40000000 in
theorem rmmx0 (l : Launch) (Z : State) (ar : Array Value) (hw : ∀ d ∈ tables_1, d.before ar Z = true) (ws : List Jvm.Cond) (p0 : Int32) (p1 : Int32) (h0 : Heap) (n0 : Nat) (Z0 : n0 ≤ h0.size) (hb2 : ¬ (p0 < p1)) :
    MetFree l (⟨"java/lang/Math", "max", "(II)I"⟩ : MethodName) (head1 (Jvm.Cond.code (⟨"java/lang/Math", "max", "(II)I"⟩ : MethodName) jdk_29_method_65_code 2 (some .int) :: ws) ({ frames := 0, cells := 0, slots := 0, locals := 0 } : Room)) (fun a U => a = #[(.int p0), (.int p1)] ∧ Z.Warmed39 U.vm ∧ U.heap = h0) (fun _ _ _ _ _ => True) (fun _ U o U' => ∃ v L, o = .returned v ∧ Qmx0 Z p0 p1 h0 n0 v U'.heap L ∧ FrameEnd U o U' L ({ frames := 0, cells := 0, slots := 0, locals := 0 } : Room).cells ({ frames := 0, cells := 0, slots := 0, locals := 0 } : Room).slots) := by
  refine MetFree.of_bodySF (Jvm.Free.JP.mathPlain rfl (by decide +kernel)) hisR ?_
  intro p e s m args below meth c s₁ Bd hml0 hP hK
  obtain ⟨rfl, hZ, hh⟩ := hP
  have hx := Bd.exec
  have hby := Bd.bytes
  have hlk := Bd.notSynchronized
  have hml : c.maxLocals = 2 := hml0
  have hown : s.vm.findClass "java/lang/Math" = some m.cls := findClass_of_methodNamed Bd.named
  have hnm := (name_of_methodNamed Bd.named Bd.method).1
  have X0 : Stand p l e ({ frames := 0, cells := 0, slots := 0, locals := 0 } : Room) s m #[(.int p0), (.int p1)] below meth c s₁ [] 0 0 := Stand.of_body Bd
  have e0 : s₁.heap = h0 := by rw [← hh, Bd.state]; rfl
  have N0 := Fr.nil n0
  have K0 := Keep.refl h0 []
  refine own_enter (Q := Qmx0 Z p0 p1 h0 n0) (efmx0 m p0 p1) ?_
  refine own_st (T' := s₁) (g' := (mkF m 10 #[.val (.int p0), .val (.int p1)] [(.int p0)])) (fun t k => ?_) ?_
  · show Steps p.tables e below (s₁.setTop (mkF m 0 #[.val (.int p0), .val (.int p1)] [])) t
    refine XS.iloadN X0.here hx rfl (hb hby d10_0) rfl ?_
    refine XS.iloadN X0.here hx rfl (hb hby d10_1) rfl ?_
    refine XS.icmpNo X0.here hx rfl (hb hby d10_2) rfl (flt (hb2 : ¬ (p0 < p1))).1 ?_
    refine XS.iloadN X0.here hx rfl (hb hby d10_5) rfl ?_
    refine XS.goto X0.here hx rfl (pc0 := 6) (pc' := 10) rfl (hb hby d10_6) (by decide) (by decide) ?_
    exact k
  refine own_retI X0 hx hlk Bd.returns (hb hby d10_10) (by decide) (by decide) ?_
  show Qmx0 Z p0 p1 h0 n0 (some (.int p0)) s₁.heap _
  rw [(e0 : s₁.heap = h0)]
  exact ⟨rfl, N0, rfl⟩
theorem d11_0 : decode jdk_29_method_69_code 0 = .ok (.iload_n 0, 1) := by decide +kernel
theorem d11_1 : decode jdk_29_method_69_code 1 = .ok (.iload_n 1, 1) := by decide +kernel
theorem d11_2 : decode jdk_29_method_69_code 2 = .ok (.if_icmp .gt 7, 3) := by decide +kernel
theorem d11_5 : decode jdk_29_method_69_code 5 = .ok (.iload_n 0, 1) := by decide +kernel
theorem d11_6 : decode jdk_29_method_69_code 6 = .ok (.goto 4, 3) := by decide +kernel
theorem d11_10 : decode jdk_29_method_69_code 10 = .ok (.ireturn, 1) := by decide +kernel
theorem pnmn0 : plainFor (⟨"java/lang/Math", "min", "(II)I"⟩ : MethodName) = true := by decide +kernel
theorem efmn0 (m : MethodId) (p0 : Int32) (p1 : Int32) : entryFrame m #[(.int p0), (.int p1)] 2 = mkF m 0 #[.val (.int p0), .val (.int p1)] [] := by first | (simp [entryFrame, mkF, argsToLocals, Value.category]; done) | rfl
def Qmn0 (Z : State) (p0 : Int32) (p1 : Int32) (h0 : Heap) (n0 : Nat) (v : Option Value) (h : Heap) (L : List Loc) : Prop := v = some (.int p0) ∧ Fr n0 L ∧ h = h0
set_option maxRecDepth 65536 in
set_option maxHeartbeats 40000000 in
theorem rmmn0 (l : Launch) (Z : State) (ar : Array Value) (hw : ∀ d ∈ tables_1, d.before ar Z = true) (ws : List Jvm.Cond) (p0 : Int32) (p1 : Int32) (h0 : Heap) (n0 : Nat) (Z0 : n0 ≤ h0.size) (hb2 : ¬ (p1 < p0)) :
    MetFree l (⟨"java/lang/Math", "min", "(II)I"⟩ : MethodName) (head1 (Jvm.Cond.code (⟨"java/lang/Math", "min", "(II)I"⟩ : MethodName) jdk_29_method_69_code 2 (some .int) :: ws) ({ frames := 0, cells := 0, slots := 0, locals := 0 } : Room)) (fun a U => a = #[(.int p0), (.int p1)] ∧ Z.Warmed39 U.vm ∧ U.heap = h0) (fun _ _ _ _ _ => True) (fun _ U o U' => ∃ v L, o = .returned v ∧ Qmn0 Z p0 p1 h0 n0 v U'.heap L ∧ FrameEnd U o U' L ({ frames := 0, cells := 0, slots := 0, locals := 0 } : Room).cells ({ frames := 0, cells := 0, slots := 0, locals := 0 } : Room).slots) := by
  refine MetFree.of_bodySF (Jvm.Free.JP.mathPlain rfl (by decide +kernel)) hisR ?_
  intro p e s m args below meth c s₁ Bd hml0 hP hK
  obtain ⟨rfl, hZ, hh⟩ := hP
  have hx := Bd.exec
  have hby := Bd.bytes
  have hlk := Bd.notSynchronized
  have hml : c.maxLocals = 2 := hml0
  have hown : s.vm.findClass "java/lang/Math" = some m.cls := findClass_of_methodNamed Bd.named
  have hnm := (name_of_methodNamed Bd.named Bd.method).1
  have X0 : Stand p l e ({ frames := 0, cells := 0, slots := 0, locals := 0 } : Room) s m #[(.int p0), (.int p1)] below meth c s₁ [] 0 0 := Stand.of_body Bd
  have e0 : s₁.heap = h0 := by rw [← hh, Bd.state]; rfl
  have N0 := Fr.nil n0
  have K0 := Keep.refl h0 []
  refine own_enter (Q := Qmn0 Z p0 p1 h0 n0) (efmn0 m p0 p1) ?_
  refine own_st (T' := s₁) (g' := (mkF m 10 #[.val (.int p0), .val (.int p1)] [(.int p0)])) (fun t k => ?_) ?_
  · show Steps p.tables e below (s₁.setTop (mkF m 0 #[.val (.int p0), .val (.int p1)] [])) t
    refine XS.iloadN X0.here hx rfl (hb hby d11_0) rfl ?_
    refine XS.iloadN X0.here hx rfl (hb hby d11_1) rfl ?_
    refine XS.icmpNo X0.here hx rfl (hb hby d11_2) rfl (flt (hb2 : ¬ (p1 < p0))).2.2.1 ?_
    refine XS.iloadN X0.here hx rfl (hb hby d11_5) rfl ?_
    refine XS.goto X0.here hx rfl (pc0 := 6) (pc' := 10) rfl (hb hby d11_6) (by decide) (by decide) ?_
    exact k
  refine own_retI X0 hx hlk Bd.returns (hb hby d11_10) (by decide) (by decide) ?_
  show Qmn0 Z p0 p1 h0 n0 (some (.int p0)) s₁.heap _
  rw [(e0 : s₁.heap = h0)]
  exact ⟨rfl, N0, rfl⟩
theorem d10_9 : decode jdk_29_method_65_code 9 = .ok (.iload_n 1, 1) := by decide +kernel
theorem pnmx1 : plainFor (⟨"java/lang/Math", "max", "(II)I"⟩ : MethodName) = true := by decide +kernel
theorem efmx1 (m : MethodId) (p0 : Int32) (p1 : Int32) : entryFrame m #[(.int p0), (.int p1)] 2 = mkF m 0 #[.val (.int p0), .val (.int p1)] [] := by first | (simp [entryFrame, mkF, argsToLocals, Value.category]; done) | rfl
def Qmx1 (Z : State) (p0 : Int32) (p1 : Int32) (h0 : Heap) (n0 : Nat) (v : Option Value) (h : Heap) (L : List Loc) : Prop := v = some (.int p1) ∧ Fr n0 L ∧ h = h0
set_option maxRecDepth 65536 in
set_option maxHeartbeats 40000000 in
theorem rmmx1 (l : Launch) (Z : State) (ar : Array Value) (hw : ∀ d ∈ tables_1, d.before ar Z = true) (ws : List Jvm.Cond) (p0 : Int32) (p1 : Int32) (h0 : Heap) (n0 : Nat) (Z0 : n0 ≤ h0.size) (hb2 : p0 < p1) :
    MetFree l (⟨"java/lang/Math", "max", "(II)I"⟩ : MethodName) (head1 (Jvm.Cond.code (⟨"java/lang/Math", "max", "(II)I"⟩ : MethodName) jdk_29_method_65_code 2 (some .int) :: ws) ({ frames := 0, cells := 0, slots := 0, locals := 0 } : Room)) (fun a U => a = #[(.int p0), (.int p1)] ∧ Z.Warmed39 U.vm ∧ U.heap = h0) (fun _ _ _ _ _ => True) (fun _ U o U' => ∃ v L, o = .returned v ∧ Qmx1 Z p0 p1 h0 n0 v U'.heap L ∧ FrameEnd U o U' L ({ frames := 0, cells := 0, slots := 0, locals := 0 } : Room).cells ({ frames := 0, cells := 0, slots := 0, locals := 0 } : Room).slots) := by
  refine MetFree.of_bodySF (Jvm.Free.JP.mathPlain rfl (by decide +kernel)) hisR ?_
  intro p e s m args below meth c s₁ Bd hml0 hP hK
  obtain ⟨rfl, hZ, hh⟩ := hP
  have hx := Bd.exec
  have hby := Bd.bytes
  have hlk := Bd.notSynchronized
  have hml : c.maxLocals = 2 := hml0
  have hown : s.vm.findClass "java/lang/Math" = some m.cls := findClass_of_methodNamed Bd.named
  have hnm := (name_of_methodNamed Bd.named Bd.method).1
  have X0 : Stand p l e ({ frames := 0, cells := 0, slots := 0, locals := 0 } : Room) s m #[(.int p0), (.int p1)] below meth c s₁ [] 0 0 := Stand.of_body Bd
  have e0 : s₁.heap = h0 := by rw [← hh, Bd.state]; rfl
  have N0 := Fr.nil n0
  have K0 := Keep.refl h0 []
  refine own_enter (Q := Qmx1 Z p0 p1 h0 n0) (efmx1 m p0 p1) ?_
  refine own_st (T' := s₁) (g' := (mkF m 10 #[.val (.int p0), .val (.int p1)] [(.int p1)])) (fun t k => ?_) ?_
  · show Steps p.tables e below (s₁.setTop (mkF m 0 #[.val (.int p0), .val (.int p1)] [])) t
    refine XS.iloadN X0.here hx rfl (hb hby d10_0) rfl ?_
    refine XS.iloadN X0.here hx rfl (hb hby d10_1) rfl ?_
    refine XS.icmpYes X0.here hx rfl (pc0 := 2) (pc' := 9) rfl (hb hby d10_2) rfl (tlt (hb2 : p0 < p1)).1 (by decide) (by decide) ?_
    refine XS.iloadN X0.here hx rfl (hb hby d10_9) rfl ?_
    exact k
  refine own_retI X0 hx hlk Bd.returns (hb hby d10_10) (by decide) (by decide) ?_
  show Qmx1 Z p0 p1 h0 n0 (some (.int p1)) s₁.heap _
  rw [(e0 : s₁.heap = h0)]
  exact ⟨rfl, N0, rfl⟩
theorem d11_9 : decode jdk_29_method_69_code 9 = .ok (.iload_n 1, 1) := by decide +kernel
theorem pnmn1 : plainFor (⟨"java/lang/Math", "min", "(II)I"⟩ : MethodName) = true := by decide +kernel
theorem efmn1 (m : MethodId) (p0 : Int32) (p1 : Int32) : entryFrame m #[(.int p0), (.int p1)] 2 = mkF m 0 #[.val (.int p0), .val (.int p1)] [] := by first | (simp [entryFrame, mkF, argsToLocals, Value.category]; done) | rfl
def Qmn1 (Z : State) (p0 : Int32) (p1 : Int32) (h0 : Heap) (n0 : Nat) (v : Option Value) (h : Heap) (L : List Loc) : Prop := v = some (.int p1) ∧ Fr n0 L ∧ h = h0
set_option maxRecDepth 65536 in
set_option maxHeartbeats 40000000 in
theorem rmmn1 (l : Launch) (Z : State) (ar : Array Value) (hw : ∀ d ∈ tables_1, d.before ar Z = true) (ws : List Jvm.Cond) (p0 : Int32) (p1 : Int32) (h0 : Heap) (n0 : Nat) (Z0 : n0 ≤ h0.size) (hb2 : p1 < p0) :
    MetFree l (⟨"java/lang/Math", "min", "(II)I"⟩ : MethodName) (head1 (Jvm.Cond.code (⟨"java/lang/Math", "min", "(II)I"⟩ : MethodName) jdk_29_method_69_code 2 (some .int) :: ws) ({ frames := 0, cells := 0, slots := 0, locals := 0 } : Room)) (fun a U => a = #[(.int p0), (.int p1)] ∧ Z.Warmed39 U.vm ∧ U.heap = h0) (fun _ _ _ _ _ => True) (fun _ U o U' => ∃ v L, o = .returned v ∧ Qmn1 Z p0 p1 h0 n0 v U'.heap L ∧ FrameEnd U o U' L ({ frames := 0, cells := 0, slots := 0, locals := 0 } : Room).cells ({ frames := 0, cells := 0, slots := 0, locals := 0 } : Room).slots) := by
  refine MetFree.of_bodySF (Jvm.Free.JP.mathPlain rfl (by decide +kernel)) hisR ?_
  intro p e s m args below meth c s₁ Bd hml0 hP hK
  obtain ⟨rfl, hZ, hh⟩ := hP
  have hx := Bd.exec
  have hby := Bd.bytes
  have hlk := Bd.notSynchronized
  have hml : c.maxLocals = 2 := hml0
  have hown : s.vm.findClass "java/lang/Math" = some m.cls := findClass_of_methodNamed Bd.named
  have hnm := (name_of_methodNamed Bd.named Bd.method).1
  have X0 : Stand p l e ({ frames := 0, cells := 0, slots := 0, locals := 0 } : Room) s m #[(.int p0), (.int p1)] below meth c s₁ [] 0 0 := Stand.of_body Bd
  have e0 : s₁.heap = h0 := by rw [← hh, Bd.state]; rfl
  have N0 := Fr.nil n0
  have K0 := Keep.refl h0 []
  refine own_enter (Q := Qmn1 Z p0 p1 h0 n0) (efmn1 m p0 p1) ?_
  refine own_st (T' := s₁) (g' := (mkF m 10 #[.val (.int p0), .val (.int p1)] [(.int p1)])) (fun t k => ?_) ?_
  · show Steps p.tables e below (s₁.setTop (mkF m 0 #[.val (.int p0), .val (.int p1)] [])) t
    refine XS.iloadN X0.here hx rfl (hb hby d11_0) rfl ?_
    refine XS.iloadN X0.here hx rfl (hb hby d11_1) rfl ?_
    refine XS.icmpYes X0.here hx rfl (pc0 := 2) (pc' := 9) rfl (hb hby d11_2) rfl (tlt (hb2 : p1 < p0)).2.2.1 (by decide) (by decide) ?_
    refine XS.iloadN X0.here hx rfl (hb hby d11_9) rfl ?_
    exact k
  refine own_retI X0 hx hlk Bd.returns (hb hby d11_10) (by decide) (by decide) ?_
  show Qmn1 Z p0 p1 h0 n0 (some (.int p1)) s₁.heap _
  rw [(e0 : s₁.heap = h0)]
  exact ⟨rfl, N0, rfl⟩
theorem d7_0 : decode jdk_65_method_71_code 0 = .ok (.iload_n 1, 1) := by decide +kernel
theorem d7_1 : decode jdk_65_method_71_code 1 = .ok (.istore 5, 2) := by decide +kernel
theorem d7_3 : decode jdk_65_method_71_code 3 = .ok (.iload_n 2, 1) := by decide +kernel
theorem d7_4 : decode jdk_65_method_71_code 4 = .ok (.iconst 1, 1) := by decide +kernel
theorem d7_5 : decode jdk_65_method_71_code 5 = .ok (.isub, 1) := by decide +kernel
theorem d7_6 : decode jdk_65_method_71_code 6 = .ok (.istore 6, 2) := by decide +kernel
theorem d7_8 : decode jdk_65_method_71_code 8 = .ok (.iload 5, 2) := by decide +kernel
theorem d7_10 : decode jdk_65_method_71_code 10 = .ok (.iload 6, 2) := by decide +kernel
theorem d7_12 : decode jdk_65_method_71_code 12 = .ok (.if_icmp .gt 100, 3) := by decide +kernel
theorem d7_15 : decode jdk_65_method_71_code 15 = .ok (.iload 5, 2) := by decide +kernel
theorem d7_17 : decode jdk_65_method_71_code 17 = .ok (.iload 6, 2) := by decide +kernel
theorem d7_19 : decode jdk_65_method_71_code 19 = .ok (.iadd, 1) := by decide +kernel
theorem d7_20 : decode jdk_65_method_71_code 20 = .ok (.iconst 1, 1) := by decide +kernel
theorem d7_21 : decode jdk_65_method_71_code 21 = .ok (.iushr, 1) := by decide +kernel
theorem d7_22 : decode jdk_65_method_71_code 22 = .ok (.istore 7, 2) := by decide +kernel
theorem d7_24 : decode jdk_65_method_71_code 24 = .ok (.aload_n 0, 1) := by decide +kernel
theorem d7_25 : decode jdk_65_method_71_code 25 = .ok (.iload 7, 2) := by decide +kernel
theorem d7_27 : decode jdk_65_method_71_code 27 = .ok (.daload, 1) := by decide +kernel
theorem d7_28 : decode jdk_65_method_71_code 28 = .ok (.dstore 8, 2) := by decide +kernel
theorem d7_30 : decode jdk_65_method_71_code 30 = .ok (.dload 8, 2) := by decide +kernel
theorem d7_32 : decode jdk_65_method_71_code 32 = .ok (.dload_n 3, 1) := by decide +kernel
theorem d7_33 : decode jdk_65_method_71_code 33 = .ok (.dcmp .g, 1) := by decide +kernel
theorem d7_34 : decode jdk_65_method_71_code 34 = .ok (.ifCond .ge 12, 3) := by decide +kernel
theorem d7_46 : decode jdk_65_method_71_code 46 = .ok (.dload 8, 2) := by decide +kernel
theorem d7_48 : decode jdk_65_method_71_code 48 = .ok (.dload_n 3, 1) := by decide +kernel
theorem d7_49 : decode jdk_65_method_71_code 49 = .ok (.dcmp .l, 1) := by decide +kernel
theorem d7_50 : decode jdk_65_method_71_code 50 = .ok (.ifCond .le 12, 3) := by decide +kernel
theorem d7_62 : decode jdk_65_method_71_code 62 = .ok (.dload 8, 2) := by decide +kernel
theorem d7_64 : decode jdk_65_method_71_code 64 = .ok (.invokestatic 224, 3) := by decide +kernel
theorem d7_67 : decode jdk_65_method_71_code 67 = .ok (.lstore 10, 2) := by decide +kernel
theorem d7_69 : decode jdk_65_method_71_code 69 = .ok (.dload_n 3, 1) := by decide +kernel
theorem d7_70 : decode jdk_65_method_71_code 70 = .ok (.invokestatic 224, 3) := by decide +kernel
theorem d7_73 : decode jdk_65_method_71_code 73 = .ok (.lstore 12, 2) := by decide +kernel
theorem d7_75 : decode jdk_65_method_71_code 75 = .ok (.lload 10, 2) := by decide +kernel
theorem d7_77 : decode jdk_65_method_71_code 77 = .ok (.lload 12, 2) := by decide +kernel
theorem d7_79 : decode jdk_65_method_71_code 79 = .ok (.lcmp, 1) := by decide +kernel
theorem d7_80 : decode jdk_65_method_71_code 80 = .ok (.ifCond .ne 6, 3) := by decide +kernel
theorem d7_83 : decode jdk_65_method_71_code 83 = .ok (.iload 7, 2) := by decide +kernel
theorem d7_85 : decode jdk_65_method_71_code 85 = .ok (.ireturn, 1) := by decide +kernel
theorem pnse : plainName "java/util/Arrays" = true := by first | (simp [plainName, overriddenIn]; done) | decide +kernel
theorem pdse_0 : parseMethodDescriptor "(D)J" = some ⟨[.double], some .long⟩ := by decide +kernel
theorem efse (m : MethodId) (a0 : Addr) (d3 : UInt64) : entryFrame m #[(.ref a0), (.int (0 : Int32)), (.int (4 : Int32)), (.double d3)] 14 = mkF m 0 #[.val (.ref a0), .val (.int (0 : Int32)), .val (.int (4 : Int32)), .val (.double d3), .second, .unset, .unset, .unset, .unset, .unset, .unset, .unset, .unset, .unset] [] := by first | (simp [entryFrame, mkF, argsToLocals, Value.category]; done) | rfl
def Qse (Z : State) (a0 : Addr) (d3 : UInt64) (kk_a0 : ClassId) (ev0 : UInt64) (ev1 : UInt64) (ev2 : UInt64) (ev3 : UInt64) (h0 : Heap) (n0 : Nat) (v : Option Value) (h : Heap) (L : List Loc) : Prop := v = some (.int (1 : Int32)) ∧ Fr n0 L ∧ h = h0
set_option maxRecDepth 65536 in
set_option maxHeartbeats 40000000 in
theorem rmse (l : Launch) (Z : State) (ar : Array Value) (hw : ∀ d ∈ tables_1, d.before ar Z = true) (ws : List Jvm.Cond) (a0 : Addr) (d3 : UInt64) (kk_a0 : ClassId) (ev0 : UInt64) (ev1 : UInt64) (ev2 : UInt64) (ev3 : UInt64) (h0 : Heap) (n0 : Nat) (Z0 : n0 ≤ h0.size) (V_a0 : Arv Z h0 a0 kk_a0 .double (4 : Int32) [(.double ev0), (.double ev1), (.double ev2), (.double ev3)] (.double (0 : UInt64))) (hb34 : ¬ ((cmpValue (FP.dcmp ev1 d3) .g) < (0 : Int32))) (hb50 : ¬ ((0 : Int32) < (cmpValue (FP.dcmp ev1 d3) .l))) (h64_h1_hq_0 : (cmpValue (FP.dcmp ev1 ev1) .l) = (0 : Int32)) (h70_h1_hq_0 : (cmpValue (FP.dcmp d3 d3) .l) = (0 : Int32)) (hb80 : ev1.toInt64 = d3.toInt64) :
    MetFree l (⟨"java/util/Arrays", "binarySearch0", "([DIID)I"⟩ : MethodName) (head1 (Jvm.Cond.code (⟨"java/util/Arrays", "binarySearch0", "([DIID)I"⟩ : MethodName) jdk_65_method_71_code 14 (some .int) :: ws) ({ frames := 2, cells := 0, slots := 0, locals := 28 } : Room)) (fun a U => a = #[(.ref a0), (.int (0 : Int32)), (.int (4 : Int32)), (.double d3)] ∧ Z.Warmed39 U.vm ∧ U.heap = h0) (fun _ _ _ _ _ => True) (fun _ U o U' => ∃ v L, o = .returned v ∧ Qse Z a0 d3 kk_a0 ev0 ev1 ev2 ev3 h0 n0 v U'.heap L ∧ FrameEnd U o U' L ({ frames := 2, cells := 0, slots := 0, locals := 28 } : Room).cells ({ frames := 2, cells := 0, slots := 0, locals := 28 } : Room).slots) := by
  refine MetFree.of_bodySF (plainFor_of_name pnse) hisR ?_
  intro p e s m args below meth c s₁ Bd hml0 hP hK
  obtain ⟨rfl, hZ, hh⟩ := hP
  have hx := Bd.exec
  have hby := Bd.bytes
  have hlk := Bd.notSynchronized
  have hml : c.maxLocals = 14 := hml0
  have hown : s.vm.findClass "java/util/Arrays" = some m.cls := findClass_of_methodNamed Bd.named
  have hnm := (name_of_methodNamed Bd.named Bd.method).1
  have X0 : Stand p l e ({ frames := 2, cells := 0, slots := 0, locals := 28 } : Room) s m #[(.ref a0), (.int (0 : Int32)), (.int (4 : Int32)), (.double d3)] below meth c s₁ [] 0 0 := Stand.of_body Bd
  have e0 : s₁.heap = h0 := by rw [← hh, Bd.state]; rfl
  have N0 := Fr.nil n0
  have K0 := Keep.refl h0 []
  refine own_enter (Q := Qse Z a0 d3 kk_a0 ev0 ev1 ev2 ev3 h0 n0) (efse m a0 d3) ?_
  refine own_st (T' := s₁) (g' := (mkF m 27 #[.val (.ref a0), .val (.int (0 : Int32)), .val (.int (4 : Int32)), .val (.double d3), .second, .val (.int (0 : Int32)), .val (.int (3 : Int32)), .val (.int (1 : Int32)), .unset, .unset, .unset, .unset, .unset, .unset] [(.int (1 : Int32)), (.ref a0)])) (fun t k => ?_) ?_
  · show Steps p.tables e below (s₁.setTop (mkF m 0 #[.val (.ref a0), .val (.int (0 : Int32)), .val (.int (4 : Int32)), .val (.double d3), .second, .unset, .unset, .unset, .unset, .unset, .unset, .unset, .unset, .unset] [])) t
    refine XS.iloadN X0.here hx rfl (hb hby d7_0) rfl ?_
    show Steps p.tables e below (s₁.setTop (mkF m 1 #[.val (.ref a0), .val (.int (0 : Int32)), .val (.int (4 : Int32)), .val (.double d3), .second, .unset, .unset, .unset, .unset, .unset, .unset, .unset, .unset, .unset] [(.int (0 : Int32))])) t
    refine XS.istore X0.here hx rfl (hb hby d7_1) rfl (l' := #[.val (.ref a0), .val (.int (0 : Int32)), .val (.int (4 : Int32)), .val (.double d3), .second, .val (.int (0 : Int32)), .unset, .unset, .unset, .unset, .unset, .unset, .unset, .unset]) rfl ?_
    show Steps p.tables e below (s₁.setTop (mkF m 3 #[.val (.ref a0), .val (.int (0 : Int32)), .val (.int (4 : Int32)), .val (.double d3), .second, .val (.int (0 : Int32)), .unset, .unset, .unset, .unset, .unset, .unset, .unset, .unset] [])) t
    refine XS.iloadN X0.here hx rfl (hb hby d7_3) rfl ?_
    show Steps p.tables e below (s₁.setTop (mkF m 4 #[.val (.ref a0), .val (.int (0 : Int32)), .val (.int (4 : Int32)), .val (.double d3), .second, .val (.int (0 : Int32)), .unset, .unset, .unset, .unset, .unset, .unset, .unset, .unset] [(.int (4 : Int32))])) t
    refine XS.iconst X0.here hx rfl (hb hby d7_4) ?_
    show Steps p.tables e below (s₁.setTop (mkF m 5 #[.val (.ref a0), .val (.int (0 : Int32)), .val (.int (4 : Int32)), .val (.double d3), .second, .val (.int (0 : Int32)), .unset, .unset, .unset, .unset, .unset, .unset, .unset, .unset] [(.int (1 : Int32)), (.int (4 : Int32))])) t
    refine XS.isub X0.here hx rfl (hb hby d7_5) rfl ?_
    show Steps p.tables e below (s₁.setTop (mkF m 6 #[.val (.ref a0), .val (.int (0 : Int32)), .val (.int (4 : Int32)), .val (.double d3), .second, .val (.int (0 : Int32)), .unset, .unset, .unset, .unset, .unset, .unset, .unset, .unset] [(.int (3 : Int32))])) t
    refine XS.istore X0.here hx rfl (hb hby d7_6) rfl (l' := #[.val (.ref a0), .val (.int (0 : Int32)), .val (.int (4 : Int32)), .val (.double d3), .second, .val (.int (0 : Int32)), .val (.int (3 : Int32)), .unset, .unset, .unset, .unset, .unset, .unset, .unset]) rfl ?_
    show Steps p.tables e below (s₁.setTop (mkF m 8 #[.val (.ref a0), .val (.int (0 : Int32)), .val (.int (4 : Int32)), .val (.double d3), .second, .val (.int (0 : Int32)), .val (.int (3 : Int32)), .unset, .unset, .unset, .unset, .unset, .unset, .unset] [])) t
    refine XS.iload X0.here hx rfl (hb hby d7_8) rfl ?_
    show Steps p.tables e below (s₁.setTop (mkF m 10 #[.val (.ref a0), .val (.int (0 : Int32)), .val (.int (4 : Int32)), .val (.double d3), .second, .val (.int (0 : Int32)), .val (.int (3 : Int32)), .unset, .unset, .unset, .unset, .unset, .unset, .unset] [(.int (0 : Int32))])) t
    refine XS.iload X0.here hx rfl (hb hby d7_10) rfl ?_
    show Steps p.tables e below (s₁.setTop (mkF m 12 #[.val (.ref a0), .val (.int (0 : Int32)), .val (.int (4 : Int32)), .val (.double d3), .second, .val (.int (0 : Int32)), .val (.int (3 : Int32)), .unset, .unset, .unset, .unset, .unset, .unset, .unset] [(.int (3 : Int32)), (.int (0 : Int32))])) t
    refine XS.icmpNo X0.here hx rfl (hb hby d7_12) rfl (by decide) ?_
    show Steps p.tables e below (s₁.setTop (mkF m 15 #[.val (.ref a0), .val (.int (0 : Int32)), .val (.int (4 : Int32)), .val (.double d3), .second, .val (.int (0 : Int32)), .val (.int (3 : Int32)), .unset, .unset, .unset, .unset, .unset, .unset, .unset] [])) t
    refine XS.iload X0.here hx rfl (hb hby d7_15) rfl ?_
    show Steps p.tables e below (s₁.setTop (mkF m 17 #[.val (.ref a0), .val (.int (0 : Int32)), .val (.int (4 : Int32)), .val (.double d3), .second, .val (.int (0 : Int32)), .val (.int (3 : Int32)), .unset, .unset, .unset, .unset, .unset, .unset, .unset] [(.int (0 : Int32))])) t
    refine XS.iload X0.here hx rfl (hb hby d7_17) rfl ?_
    show Steps p.tables e below (s₁.setTop (mkF m 19 #[.val (.ref a0), .val (.int (0 : Int32)), .val (.int (4 : Int32)), .val (.double d3), .second, .val (.int (0 : Int32)), .val (.int (3 : Int32)), .unset, .unset, .unset, .unset, .unset, .unset, .unset] [(.int (3 : Int32)), (.int (0 : Int32))])) t
    refine XS.iadd X0.here hx rfl (hb hby d7_19) rfl ?_
    show Steps p.tables e below (s₁.setTop (mkF m 20 #[.val (.ref a0), .val (.int (0 : Int32)), .val (.int (4 : Int32)), .val (.double d3), .second, .val (.int (0 : Int32)), .val (.int (3 : Int32)), .unset, .unset, .unset, .unset, .unset, .unset, .unset] [(.int (3 : Int32))])) t
    refine XS.iconst X0.here hx rfl (hb hby d7_20) ?_
    show Steps p.tables e below (s₁.setTop (mkF m 21 #[.val (.ref a0), .val (.int (0 : Int32)), .val (.int (4 : Int32)), .val (.double d3), .second, .val (.int (0 : Int32)), .val (.int (3 : Int32)), .unset, .unset, .unset, .unset, .unset, .unset, .unset] [(.int (1 : Int32)), (.int (3 : Int32))])) t
    refine XS.iushr X0.here hx rfl (hb hby d7_21) rfl ?_
    show Steps p.tables e below (s₁.setTop (mkF m 22 #[.val (.ref a0), .val (.int (0 : Int32)), .val (.int (4 : Int32)), .val (.double d3), .second, .val (.int (0 : Int32)), .val (.int (3 : Int32)), .unset, .unset, .unset, .unset, .unset, .unset, .unset] [(.int (1 : Int32))])) t
    refine XS.istore X0.here hx rfl (hb hby d7_22) rfl (l' := #[.val (.ref a0), .val (.int (0 : Int32)), .val (.int (4 : Int32)), .val (.double d3), .second, .val (.int (0 : Int32)), .val (.int (3 : Int32)), .val (.int (1 : Int32)), .unset, .unset, .unset, .unset, .unset, .unset]) rfl ?_
    show Steps p.tables e below (s₁.setTop (mkF m 24 #[.val (.ref a0), .val (.int (0 : Int32)), .val (.int (4 : Int32)), .val (.double d3), .second, .val (.int (0 : Int32)), .val (.int (3 : Int32)), .val (.int (1 : Int32)), .unset, .unset, .unset, .unset, .unset, .unset] [])) t
    refine XS.aloadN X0.here hx rfl (hb hby d7_24) rfl rfl ?_
    show Steps p.tables e below (s₁.setTop (mkF m 25 #[.val (.ref a0), .val (.int (0 : Int32)), .val (.int (4 : Int32)), .val (.double d3), .second, .val (.int (0 : Int32)), .val (.int (3 : Int32)), .val (.int (1 : Int32)), .unset, .unset, .unset, .unset, .unset, .unset] [(.ref a0)])) t
    refine XS.iload X0.here hx rfl (hb hby d7_25) rfl ?_
    exact k
  obtain ⟨c1, r1a, r1b, r1c, r1d, r1e, r1f⟩ := id V_a0
  have i1 : ¬ ((1 : Int32) < 0 ∨ c1.slots.size ≤ ((1 : Int32)).toNatClampNeg) := inb_of r1c ⟨by decide, by decide⟩
  have y1 : c1.slots[((1 : Int32)).toNatClampNeg]? = some (.double ev1) := r1e.at i1 rfl
  refine own_st (T' := s₁) (g' := (mkF m 64 #[.val (.ref a0), .val (.int (0 : Int32)), .val (.int (4 : Int32)), .val (.double d3), .second, .val (.int (0 : Int32)), .val (.int (3 : Int32)), .val (.int (1 : Int32)), .val (.double ev1), .second, .unset, .unset, .unset, .unset] [(.double ev1)])) (fun t k => ?_) ?_
  · show Steps p.tables e below (s₁.setTop (mkF m 27 #[.val (.ref a0), .val (.int (0 : Int32)), .val (.int (4 : Int32)), .val (.double d3), .second, .val (.int (0 : Int32)), .val (.int (3 : Int32)), .val (.int (1 : Int32)), .unset, .unset, .unset, .unset, .unset, .unset] [(.int (1 : Int32)), (.ref a0)])) t
    refine X0.daload hx (j := (1 : Int32)) (v := (.double ev1)) (by rw [e0]; exact r1a.1) (State.isArrayOf_alike hZ.alike r1a.2.1) r1a.2.2 i1 y1 (g := (mkF m 27 #[.val (.ref a0), .val (.int (0 : Int32)), .val (.int (4 : Int32)), .val (.double d3), .second, .val (.int (0 : Int32)), .val (.int (3 : Int32)), .val (.int (1 : Int32)), .unset, .unset, .unset, .unset, .unset, .unset] [(.int (1 : Int32)), (.ref a0)])) rfl rfl (hb hby d7_27) _ ?_
    show Steps p.tables e below (s₁.setTop (mkF m 28 #[.val (.ref a0), .val (.int (0 : Int32)), .val (.int (4 : Int32)), .val (.double d3), .second, .val (.int (0 : Int32)), .val (.int (3 : Int32)), .val (.int (1 : Int32)), .unset, .unset, .unset, .unset, .unset, .unset] [(.double ev1)])) t
    refine XS.dstore X0.here hx rfl (hb hby d7_28) rfl (l' := #[.val (.ref a0), .val (.int (0 : Int32)), .val (.int (4 : Int32)), .val (.double d3), .second, .val (.int (0 : Int32)), .val (.int (3 : Int32)), .val (.int (1 : Int32)), .val (.double ev1), .second, .unset, .unset, .unset, .unset]) rfl ?_
    show Steps p.tables e below (s₁.setTop (mkF m 30 #[.val (.ref a0), .val (.int (0 : Int32)), .val (.int (4 : Int32)), .val (.double d3), .second, .val (.int (0 : Int32)), .val (.int (3 : Int32)), .val (.int (1 : Int32)), .val (.double ev1), .second, .unset, .unset, .unset, .unset] [])) t
    refine XS.dload X0.here hx rfl (hb hby d7_30) rfl ?_
    show Steps p.tables e below (s₁.setTop (mkF m 32 #[.val (.ref a0), .val (.int (0 : Int32)), .val (.int (4 : Int32)), .val (.double d3), .second, .val (.int (0 : Int32)), .val (.int (3 : Int32)), .val (.int (1 : Int32)), .val (.double ev1), .second, .unset, .unset, .unset, .unset] [(.double ev1)])) t
    refine XS.dloadN X0.here hx rfl (hb hby d7_32) rfl ?_
    show Steps p.tables e below (s₁.setTop (mkF m 33 #[.val (.ref a0), .val (.int (0 : Int32)), .val (.int (4 : Int32)), .val (.double d3), .second, .val (.int (0 : Int32)), .val (.int (3 : Int32)), .val (.int (1 : Int32)), .val (.double ev1), .second, .unset, .unset, .unset, .unset] [(.double d3), (.double ev1)])) t
    refine XS.dcmpS X0.here hx rfl (hb hby d7_33) rfl rfl ?_
    show Steps p.tables e below (s₁.setTop (mkF m 34 #[.val (.ref a0), .val (.int (0 : Int32)), .val (.int (4 : Int32)), .val (.double d3), .second, .val (.int (0 : Int32)), .val (.int (3 : Int32)), .val (.int (1 : Int32)), .val (.double ev1), .second, .unset, .unset, .unset, .unset] [(.int (cmpValue (FP.dcmp ev1 d3) .g))])) t
    refine XS.ifYes X0.here hx rfl (pc0 := 34) (pc' := 46) rfl (hb hby d7_34) rfl ((if0 _ _).trans (flt (hb34 : ¬ ((cmpValue (FP.dcmp ev1 d3) .g) < (0 : Int32)))).2.1) (by decide) (by decide) ?_
    show Steps p.tables e below (s₁.setTop (mkF m 46 #[.val (.ref a0), .val (.int (0 : Int32)), .val (.int (4 : Int32)), .val (.double d3), .second, .val (.int (0 : Int32)), .val (.int (3 : Int32)), .val (.int (1 : Int32)), .val (.double ev1), .second, .unset, .unset, .unset, .unset] [])) t
    refine XS.dload X0.here hx rfl (hb hby d7_46) rfl ?_
    show Steps p.tables e below (s₁.setTop (mkF m 48 #[.val (.ref a0), .val (.int (0 : Int32)), .val (.int (4 : Int32)), .val (.double d3), .second, .val (.int (0 : Int32)), .val (.int (3 : Int32)), .val (.int (1 : Int32)), .val (.double ev1), .second, .unset, .unset, .unset, .unset] [(.double ev1)])) t
    refine XS.dloadN X0.here hx rfl (hb hby d7_48) rfl ?_
    show Steps p.tables e below (s₁.setTop (mkF m 49 #[.val (.ref a0), .val (.int (0 : Int32)), .val (.int (4 : Int32)), .val (.double d3), .second, .val (.int (0 : Int32)), .val (.int (3 : Int32)), .val (.int (1 : Int32)), .val (.double ev1), .second, .unset, .unset, .unset, .unset] [(.double d3), (.double ev1)])) t
    refine XS.dcmpS X0.here hx rfl (hb hby d7_49) rfl rfl ?_
    show Steps p.tables e below (s₁.setTop (mkF m 50 #[.val (.ref a0), .val (.int (0 : Int32)), .val (.int (4 : Int32)), .val (.double d3), .second, .val (.int (0 : Int32)), .val (.int (3 : Int32)), .val (.int (1 : Int32)), .val (.double ev1), .second, .unset, .unset, .unset, .unset] [(.int (cmpValue (FP.dcmp ev1 d3) .l))])) t
    refine XS.ifYes X0.here hx rfl (pc0 := 50) (pc' := 62) rfl (hb hby d7_50) rfl ((if0 _ _).trans (flt (hb50 : ¬ ((0 : Int32) < (cmpValue (FP.dcmp ev1 d3) .l)))).2.2.2) (by decide) (by decide) ?_
    show Steps p.tables e below (s₁.setTop (mkF m 62 #[.val (.ref a0), .val (.int (0 : Int32)), .val (.int (4 : Int32)), .val (.double d3), .second, .val (.int (0 : Int32)), .val (.int (3 : Int32)), .val (.int (1 : Int32)), .val (.double ev1), .second, .unset, .unset, .unset, .unset] [])) t
    refine XS.dload X0.here hx rfl (hb hby d7_62) rfl ?_
    exact k
  obtain ⟨_, _, ⟨T2, L2, k2, n2⟩, -, X2, ⟨Lc2, hQ2, l2, y2, z2⟩, st2⟩ := Jvm.LawKit.callS X0 hx (y := (⟨"java/lang/Double", "doubleToLongBits", "(D)J"⟩ : MethodName)) hown (mvT hZ (hw _ (List.mem_of_getElem? (i := 45) rfl))) (mvT hZ (hw _ (List.mem_of_getElem? (i := 46) rfl))) (mvT hZ (hw _ (List.mem_of_getElem? (i := 13) rfl))) (mvT hZ (hw _ (List.mem_of_getElem? (i := 47) rfl))) (by decide) (backOf (W := 0) (rm8 l Z ar hw [] ev1 h0 n0 Z0 h64_h1_hq_0) hZ (hw _ (List.mem_of_getElem? (i := 47) rfl)) (hw _ (List.mem_of_getElem? (i := 13) rfl)) (by decide) (by decide)) (g := (mkF m 64 #[.val (.ref a0), .val (.int (0 : Int32)), .val (.int (4 : Int32)), .val (.double d3), .second, .val (.int (0 : Int32)), .val (.int (3 : Int32)), .val (.int (1 : Int32)), .val (.double ev1), .second, .unset, .unset, .unset, .unset] [(.double ev1)])) rfl (by rw [hml]; rfl) (argsL := [(.double ev1)]) (rest := []) (lenOf pdse_0 rfl) rfl (by show 2 * 0 + _ ≤ _; exact Nat.le_of_eq rfl) (hb hby d7_64) (fun _ _ => ⟨rfl, e0, (by decide : 0 + 0 ≤ _), (by decide : 0 + 0 ≤ _)⟩)
  dsimp only [Pt.U, Pt.locs, Pt.cells, Pt.slots] at X2 l2 y2 z2 st2 hQ2
  subst l2 y2 z2
  obtain ⟨rfl, N2q, e2⟩ := hQ2
  have n3 := Fr.app N0 N2q
  refine own_st (T' := T2) (g' := (mkF m 67 #[.val (.ref a0), .val (.int (0 : Int32)), .val (.int (4 : Int32)), .val (.double d3), .second, .val (.int (0 : Int32)), .val (.int (3 : Int32)), .val (.int (1 : Int32)), .val (.double ev1), .second, .unset, .unset, .unset, .unset] [(.long ev1.toInt64)])) st2 ?_
  refine own_st (T' := T2) (g' := (mkF m 70 #[.val (.ref a0), .val (.int (0 : Int32)), .val (.int (4 : Int32)), .val (.double d3), .second, .val (.int (0 : Int32)), .val (.int (3 : Int32)), .val (.int (1 : Int32)), .val (.double ev1), .second, .val (.long ev1.toInt64), .second, .unset, .unset] [(.double d3)])) (fun t k => ?_) ?_
  · show Steps p.tables e below (T2.setTop (mkF m 67 #[.val (.ref a0), .val (.int (0 : Int32)), .val (.int (4 : Int32)), .val (.double d3), .second, .val (.int (0 : Int32)), .val (.int (3 : Int32)), .val (.int (1 : Int32)), .val (.double ev1), .second, .unset, .unset, .unset, .unset] [(.long ev1.toInt64)])) t
    refine XS.lstore X2.here hx rfl (hb hby d7_67) rfl (l' := #[.val (.ref a0), .val (.int (0 : Int32)), .val (.int (4 : Int32)), .val (.double d3), .second, .val (.int (0 : Int32)), .val (.int (3 : Int32)), .val (.int (1 : Int32)), .val (.double ev1), .second, .val (.long ev1.toInt64), .second, .unset, .unset]) rfl ?_
    show Steps p.tables e below (T2.setTop (mkF m 69 #[.val (.ref a0), .val (.int (0 : Int32)), .val (.int (4 : Int32)), .val (.double d3), .second, .val (.int (0 : Int32)), .val (.int (3 : Int32)), .val (.int (1 : Int32)), .val (.double ev1), .second, .val (.long ev1.toInt64), .second, .unset, .unset] [])) t
    refine XS.dloadN X2.here hx rfl (hb hby d7_69) rfl ?_
    exact k
  obtain ⟨_, _, ⟨T4, L4, k4, n4⟩, -, X4, ⟨Lc4, hQ4, l4, y4, z4⟩, st4⟩ := Jvm.LawKit.callS X2 hx (y := (⟨"java/lang/Double", "doubleToLongBits", "(D)J"⟩ : MethodName)) hown (mvT hZ (hw _ (List.mem_of_getElem? (i := 45) rfl))) (mvT hZ (hw _ (List.mem_of_getElem? (i := 46) rfl))) (mvT hZ (hw _ (List.mem_of_getElem? (i := 13) rfl))) (mvT hZ (hw _ (List.mem_of_getElem? (i := 47) rfl))) (by decide) (backOf (W := 0) (rm8 l Z ar hw [] d3 h0 n0 Z0 h70_h1_hq_0) hZ (hw _ (List.mem_of_getElem? (i := 47) rfl)) (hw _ (List.mem_of_getElem? (i := 13) rfl)) (by decide) (by decide)) (g := (mkF m 70 #[.val (.ref a0), .val (.int (0 : Int32)), .val (.int (4 : Int32)), .val (.double d3), .second, .val (.int (0 : Int32)), .val (.int (3 : Int32)), .val (.int (1 : Int32)), .val (.double ev1), .second, .val (.long ev1.toInt64), .second, .unset, .unset] [(.double d3)])) rfl (by rw [hml]; rfl) (argsL := [(.double d3)]) (rest := []) (lenOf pdse_0 rfl) rfl (by show 2 * 0 + _ ≤ _; exact Nat.le_of_eq rfl) (hb hby d7_70) (fun _ _ => ⟨rfl, e2, (by decide : 0 + 0 ≤ _), (by decide : 0 + 0 ≤ _)⟩)
  dsimp only [Pt.U, Pt.locs, Pt.cells, Pt.slots] at X4 l4 y4 z4 st4 hQ4
  subst l4 y4 z4
  obtain ⟨rfl, N4q, e4⟩ := hQ4
  have n5 := Fr.app n3 N4q
  refine own_st (T' := T4) (g' := (mkF m 73 #[.val (.ref a0), .val (.int (0 : Int32)), .val (.int (4 : Int32)), .val (.double d3), .second, .val (.int (0 : Int32)), .val (.int (3 : Int32)), .val (.int (1 : Int32)), .val (.double ev1), .second, .val (.long ev1.toInt64), .second, .unset, .unset] [(.long d3.toInt64)])) st4 ?_
  refine own_st (T' := T4) (g' := (mkF m 85 #[.val (.ref a0), .val (.int (0 : Int32)), .val (.int (4 : Int32)), .val (.double d3), .second, .val (.int (0 : Int32)), .val (.int (3 : Int32)), .val (.int (1 : Int32)), .val (.double ev1), .second, .val (.long ev1.toInt64), .second, .val (.long d3.toInt64), .second] [(.int (1 : Int32))])) (fun t k => ?_) ?_
  · show Steps p.tables e below (T4.setTop (mkF m 73 #[.val (.ref a0), .val (.int (0 : Int32)), .val (.int (4 : Int32)), .val (.double d3), .second, .val (.int (0 : Int32)), .val (.int (3 : Int32)), .val (.int (1 : Int32)), .val (.double ev1), .second, .val (.long ev1.toInt64), .second, .unset, .unset] [(.long d3.toInt64)])) t
    refine XS.lstore X4.here hx rfl (hb hby d7_73) rfl (l' := #[.val (.ref a0), .val (.int (0 : Int32)), .val (.int (4 : Int32)), .val (.double d3), .second, .val (.int (0 : Int32)), .val (.int (3 : Int32)), .val (.int (1 : Int32)), .val (.double ev1), .second, .val (.long ev1.toInt64), .second, .val (.long d3.toInt64), .second]) rfl ?_
    show Steps p.tables e below (T4.setTop (mkF m 75 #[.val (.ref a0), .val (.int (0 : Int32)), .val (.int (4 : Int32)), .val (.double d3), .second, .val (.int (0 : Int32)), .val (.int (3 : Int32)), .val (.int (1 : Int32)), .val (.double ev1), .second, .val (.long ev1.toInt64), .second, .val (.long d3.toInt64), .second] [])) t
    refine XS.lload X4.here hx rfl (hb hby d7_75) rfl ?_
    show Steps p.tables e below (T4.setTop (mkF m 77 #[.val (.ref a0), .val (.int (0 : Int32)), .val (.int (4 : Int32)), .val (.double d3), .second, .val (.int (0 : Int32)), .val (.int (3 : Int32)), .val (.int (1 : Int32)), .val (.double ev1), .second, .val (.long ev1.toInt64), .second, .val (.long d3.toInt64), .second] [(.long ev1.toInt64)])) t
    refine XS.lload X4.here hx rfl (hb hby d7_77) rfl ?_
    show Steps p.tables e below (T4.setTop (mkF m 79 #[.val (.ref a0), .val (.int (0 : Int32)), .val (.int (4 : Int32)), .val (.double d3), .second, .val (.int (0 : Int32)), .val (.int (3 : Int32)), .val (.int (1 : Int32)), .val (.double ev1), .second, .val (.long ev1.toInt64), .second, .val (.long d3.toInt64), .second] [(.long d3.toInt64), (.long ev1.toInt64)])) t
    refine XS.lcmp X4.here hx rfl (hb hby d7_79) rfl ?_
    show Steps p.tables e below (T4.setTop (mkF m 80 #[.val (.ref a0), .val (.int (0 : Int32)), .val (.int (4 : Int32)), .val (.double d3), .second, .val (.int (0 : Int32)), .val (.int (3 : Int32)), .val (.int (1 : Int32)), .val (.double ev1), .second, .val (.long ev1.toInt64), .second, .val (.long d3.toInt64), .second] [(.int (lcmpW ev1.toInt64 d3.toInt64))])) t
    refine XS.ifNo X4.here hx rfl (hb hby d7_80) rfl ((if0 _ _).trans (teq ((lw_eq ev1.toInt64 d3.toInt64).mpr (hb80 : ev1.toInt64 = d3.toInt64))).2) ?_
    show Steps p.tables e below (T4.setTop (mkF m 83 #[.val (.ref a0), .val (.int (0 : Int32)), .val (.int (4 : Int32)), .val (.double d3), .second, .val (.int (0 : Int32)), .val (.int (3 : Int32)), .val (.int (1 : Int32)), .val (.double ev1), .second, .val (.long ev1.toInt64), .second, .val (.long d3.toInt64), .second] [])) t
    refine XS.iload X4.here hx rfl (hb hby d7_83) rfl ?_
    exact k
  refine own_retI X4 hx hlk Bd.returns (hb hby d7_85) (by decide) (by decide) ?_
  show Qse Z a0 d3 kk_a0 ev0 ev1 ev2 ev3 h0 n0 (some (.int (1 : Int32))) T4.heap _
  rw [(e4 : T4.heap = h0)]
  exact ⟨rfl, n5, rfl⟩
theorem d6_0 : decode jdk_65_method_69_code 0 = .ok (.aload_n 0, 1) := by decide +kernel
theorem d6_1 : decode jdk_65_method_69_code 1 = .ok (.iconst 0, 1) := by decide +kernel
theorem d6_2 : decode jdk_65_method_69_code 2 = .ok (.aload_n 0, 1) := by decide +kernel
theorem d6_3 : decode jdk_65_method_69_code 3 = .ok (.arraylength, 1) := by decide +kernel
theorem d6_4 : decode jdk_65_method_69_code 4 = .ok (.dload_n 1, 1) := by decide +kernel
theorem d6_5 : decode jdk_65_method_69_code 5 = .ok (.invokestatic 221, 3) := by decide +kernel
theorem d6_8 : decode jdk_65_method_69_code 8 = .ok (.ireturn, 1) := by decide +kernel
theorem pnte : plainName "java/util/Arrays" = true := by first | (simp [plainName, overriddenIn]; done) | decide +kernel
theorem pdte_0 : parseMethodDescriptor "([DIID)I" = some ⟨[(.array .double), .int, .int, .double], some .int⟩ := by decide +kernel
theorem efte (m : MethodId) (a0 : Addr) (d1 : UInt64) : entryFrame m #[(.ref a0), (.double d1)] 3 = mkF m 0 #[.val (.ref a0), .val (.double d1), .second] [] := by first | (simp [entryFrame, mkF, argsToLocals, Value.category]; done) | rfl
def Qte (Z : State) (a0 : Addr) (d1 : UInt64) (kk_a0 : ClassId) (ev0 : UInt64) (ev1 : UInt64) (ev2 : UInt64) (ev3 : UInt64) (h0 : Heap) (n0 : Nat) (v : Option Value) (h : Heap) (L : List Loc) : Prop := v = some (.int (1 : Int32)) ∧ Fr n0 L ∧ h = h0
set_option maxRecDepth 65536 in
set_option maxHeartbeats 40000000 in
theorem rmte (l : Launch) (Z : State) (ar : Array Value) (hw : ∀ d ∈ tables_1, d.before ar Z = true) (ws : List Jvm.Cond) (a0 : Addr) (d1 : UInt64) (kk_a0 : ClassId) (ev0 : UInt64) (ev1 : UInt64) (ev2 : UInt64) (ev3 : UInt64) (h0 : Heap) (n0 : Nat) (Z0 : n0 ≤ h0.size) (V_a0 : Arv Z h0 a0 kk_a0 .double (4 : Int32) [(.double ev0), (.double ev1), (.double ev2), (.double ev3)] (.double (0 : UInt64))) (h5_hb34 : ¬ ((cmpValue (FP.dcmp ev1 d1) .g) < (0 : Int32))) (h5_hb50 : ¬ ((0 : Int32) < (cmpValue (FP.dcmp ev1 d1) .l))) (h5_h64_h1_hq_0 : (cmpValue (FP.dcmp ev1 ev1) .l) = (0 : Int32)) (h5_h70_h1_hq_0 : (cmpValue (FP.dcmp d1 d1) .l) = (0 : Int32)) (h5_hb80 : ev1.toInt64 = d1.toInt64) :
    MetFree l (⟨"java/util/Arrays", "binarySearch", "([DD)I"⟩ : MethodName) (head1 (Jvm.Cond.code (⟨"java/util/Arrays", "binarySearch", "([DD)I"⟩ : MethodName) jdk_65_method_69_code 3 (some .int) :: ws) ({ frames := 3, cells := 0, slots := 0, locals := 53 } : Room)) (fun a U => a = #[(.ref a0), (.double d1)] ∧ Z.Warmed39 U.vm ∧ U.heap = h0) (fun _ _ _ _ _ => True) (fun _ U o U' => ∃ v L, o = .returned v ∧ Qte Z a0 d1 kk_a0 ev0 ev1 ev2 ev3 h0 n0 v U'.heap L ∧ FrameEnd U o U' L ({ frames := 3, cells := 0, slots := 0, locals := 53 } : Room).cells ({ frames := 3, cells := 0, slots := 0, locals := 53 } : Room).slots) := by
  refine MetFree.of_bodySF (plainFor_of_name pnte) hisR ?_
  intro p e s m args below meth c s₁ Bd hml0 hP hK
  obtain ⟨rfl, hZ, hh⟩ := hP
  have hx := Bd.exec
  have hby := Bd.bytes
  have hlk := Bd.notSynchronized
  have hml : c.maxLocals = 3 := hml0
  have hown : s.vm.findClass "java/util/Arrays" = some m.cls := findClass_of_methodNamed Bd.named
  have hnm := (name_of_methodNamed Bd.named Bd.method).1
  have X0 : Stand p l e ({ frames := 3, cells := 0, slots := 0, locals := 53 } : Room) s m #[(.ref a0), (.double d1)] below meth c s₁ [] 0 0 := Stand.of_body Bd
  have e0 : s₁.heap = h0 := by rw [← hh, Bd.state]; rfl
  have N0 := Fr.nil n0
  have K0 := Keep.refl h0 []
  refine own_enter (Q := Qte Z a0 d1 kk_a0 ev0 ev1 ev2 ev3 h0 n0) (efte m a0 d1) ?_
  refine own_st (T' := s₁) (g' := (mkF m 3 #[.val (.ref a0), .val (.double d1), .second] [(.ref a0), (.int (0 : Int32)), (.ref a0)])) (fun t k => ?_) ?_
  · show Steps p.tables e below (s₁.setTop (mkF m 0 #[.val (.ref a0), .val (.double d1), .second] [])) t
    refine XS.aloadN X0.here hx rfl (hb hby d6_0) rfl rfl ?_
    refine XS.iconst X0.here hx rfl (hb hby d6_1) ?_
    refine XS.aloadN X0.here hx rfl (hb hby d6_2) rfl rfl ?_
    exact k
  obtain ⟨c1, r1a, -, r1c, r1d, -, -⟩ := id V_a0
  refine own_st (T' := s₁) (g' := (mkF m 5 #[.val (.ref a0), .val (.double d1), .second] [(.double d1), (.int (4 : Int32)), (.int (0 : Int32)), (.ref a0)])) (fun t k => ?_) ?_
  · show Steps p.tables e below (s₁.setTop (mkF m 3 #[.val (.ref a0), .val (.double d1), .second] [(.ref a0), (.int (0 : Int32)), (.ref a0)])) t
    refine X0.arraylength hx (by rw [e0]; exact r1a.1) (State.isArrayOf_alike hZ.alike r1a.2.1) (g := (mkF m 3 #[.val (.ref a0), .val (.double d1), .second] [(.ref a0), (.int (0 : Int32)), (.ref a0)])) rfl rfl (hb hby d6_3) _ ?_
    rw [len_of r1c r1d]
    refine XS.dloadN X0.here hx rfl (hb hby d6_4) rfl ?_
    exact k
  obtain ⟨_, _, ⟨T2, L2, k2, n2⟩, -, X2, ⟨Lc2, hQ2, l2, y2, z2⟩, st2⟩ := Jvm.LawKit.callS X0 hx (y := (⟨"java/util/Arrays", "binarySearch0", "([DIID)I"⟩ : MethodName)) hown (mvT hZ (hw _ (List.mem_of_getElem? (i := 42) rfl))) (mvT hZ (hw _ (List.mem_of_getElem? (i := 43) rfl))) (mvT hZ (hw _ (List.mem_of_getElem? (i := 40) rfl))) (mvT hZ (hw _ (List.mem_of_getElem? (i := 44) rfl))) (by decide) (backOf (W := 0) (rmse l Z ar hw [] a0 d1 kk_a0 ev0 ev1 ev2 ev3 h0 n0 Z0 V_a0 h5_hb34 h5_hb50 h5_h64_h1_hq_0 h5_h70_h1_hq_0 h5_hb80) hZ (hw _ (List.mem_of_getElem? (i := 44) rfl)) (hw _ (List.mem_of_getElem? (i := 40) rfl)) (by decide) (by decide)) (g := (mkF m 5 #[.val (.ref a0), .val (.double d1), .second] [(.double d1), (.int (4 : Int32)), (.int (0 : Int32)), (.ref a0)])) rfl (by rw [hml]; rfl) (argsL := [(.ref a0), (.int (0 : Int32)), (.int (4 : Int32)), (.double d1)]) (rest := []) (lenOf pdte_0 rfl) rfl (by show 2 * 0 + _ ≤ _; exact Nat.le_of_eq rfl) (hb hby d6_5) (fun _ _ => ⟨rfl, e0, (by decide : 0 + 0 ≤ _), (by decide : 0 + 0 ≤ _)⟩)
  dsimp only [Pt.U, Pt.locs, Pt.cells, Pt.slots] at X2 l2 y2 z2 st2 hQ2
  subst l2 y2 z2
  obtain ⟨rfl, N2q, e2⟩ := hQ2
  have n3 := Fr.app N0 N2q
  refine own_st (T' := T2) (g' := (mkF m 8 #[.val (.ref a0), .val (.double d1), .second] [(.int (1 : Int32))])) st2 ?_
  refine own_retI X2 hx hlk Bd.returns (hb hby d6_8) (by decide) (by decide) ?_
  show Qte Z a0 d1 kk_a0 ev0 ev1 ev2 ev3 h0 n0 (some (.int (1 : Int32))) T2.heap _
  rw [(e2 : T2.heap = h0)]
  exact ⟨rfl, n3, rfl⟩
theorem d7_37 : decode jdk_65_method_71_code 37 = .ok (.iload 7, 2) := by decide +kernel
theorem d7_39 : decode jdk_65_method_71_code 39 = .ok (.iconst 1, 1) := by decide +kernel
theorem d7_40 : decode jdk_65_method_71_code 40 = .ok (.iadd, 1) := by decide +kernel
theorem d7_41 : decode jdk_65_method_71_code 41 = .ok (.istore 5, 2) := by decide +kernel
theorem d7_43 : decode jdk_65_method_71_code 43 = .ok (.goto 66, 3) := by decide +kernel
theorem d7_109 : decode jdk_65_method_71_code 109 = .ok (.goto (-101), 3) := by decide +kernel
theorem pnsle : plainName "java/util/Arrays" = true := by first | (simp [plainName, overriddenIn]; done) | decide +kernel
theorem pdsle_0 : parseMethodDescriptor "(D)J" = some ⟨[.double], some .long⟩ := by decide +kernel
theorem efsle (m : MethodId) (a0 : Addr) (d3 : UInt64) : entryFrame m #[(.ref a0), (.int (0 : Int32)), (.int (4 : Int32)), (.double d3)] 14 = mkF m 0 #[.val (.ref a0), .val (.int (0 : Int32)), .val (.int (4 : Int32)), .val (.double d3), .second, .unset, .unset, .unset, .unset, .unset, .unset, .unset, .unset, .unset] [] := by first | (simp [entryFrame, mkF, argsToLocals, Value.category]; done) | rfl
def Qsle (Z : State) (a0 : Addr) (d3 : UInt64) (kk_a0 : ClassId) (ev0 : UInt64) (ev1 : UInt64) (ev2 : UInt64) (ev3 : UInt64) (h0 : Heap) (n0 : Nat) (v : Option Value) (h : Heap) (L : List Loc) : Prop := v = some (.int (2 : Int32)) ∧ Fr n0 L ∧ h = h0
set_option maxRecDepth 65536 in
set_option maxHeartbeats 40000000 in
theorem rmsle (l : Launch) (Z : State) (ar : Array Value) (hw : ∀ d ∈ tables_1, d.before ar Z = true) (ws : List Jvm.Cond) (a0 : Addr) (d3 : UInt64) (kk_a0 : ClassId) (ev0 : UInt64) (ev1 : UInt64) (ev2 : UInt64) (ev3 : UInt64) (h0 : Heap) (n0 : Nat) (Z0 : n0 ≤ h0.size) (V_a0 : Arv Z h0 a0 kk_a0 .double (4 : Int32) [(.double ev0), (.double ev1), (.double ev2), (.double ev3)] (.double (0 : UInt64))) (hb34 : (cmpValue (FP.dcmp ev1 d3) .g) < (0 : Int32)) (hb34_1 : ¬ ((cmpValue (FP.dcmp ev2 d3) .g) < (0 : Int32))) (hb50 : ¬ ((0 : Int32) < (cmpValue (FP.dcmp ev2 d3) .l))) (h64_h1_hq_0 : (cmpValue (FP.dcmp ev2 ev2) .l) = (0 : Int32)) (h70_h1_hq_0 : (cmpValue (FP.dcmp d3 d3) .l) = (0 : Int32)) (hb80 : ev2.toInt64 = d3.toInt64) :
    MetFree l (⟨"java/util/Arrays", "binarySearch0", "([DIID)I"⟩ : MethodName) (head1 (Jvm.Cond.code (⟨"java/util/Arrays", "binarySearch0", "([DIID)I"⟩ : MethodName) jdk_65_method_71_code 14 (some .int) :: ws) ({ frames := 2, cells := 0, slots := 0, locals := 28 } : Room)) (fun a U => a = #[(.ref a0), (.int (0 : Int32)), (.int (4 : Int32)), (.double d3)] ∧ Z.Warmed39 U.vm ∧ U.heap = h0) (fun _ _ _ _ _ => True) (fun _ U o U' => ∃ v L, o = .returned v ∧ Qsle Z a0 d3 kk_a0 ev0 ev1 ev2 ev3 h0 n0 v U'.heap L ∧ FrameEnd U o U' L ({ frames := 2, cells := 0, slots := 0, locals := 28 } : Room).cells ({ frames := 2, cells := 0, slots := 0, locals := 28 } : Room).slots) := by
  refine MetFree.of_bodySF (plainFor_of_name pnsle) hisR ?_
  intro p e s m args below meth c s₁ Bd hml0 hP hK
  obtain ⟨rfl, hZ, hh⟩ := hP
  have hx := Bd.exec
  have hby := Bd.bytes
  have hlk := Bd.notSynchronized
  have hml : c.maxLocals = 14 := hml0
  have hown : s.vm.findClass "java/util/Arrays" = some m.cls := findClass_of_methodNamed Bd.named
  have hnm := (name_of_methodNamed Bd.named Bd.method).1
  have X0 : Stand p l e ({ frames := 2, cells := 0, slots := 0, locals := 28 } : Room) s m #[(.ref a0), (.int (0 : Int32)), (.int (4 : Int32)), (.double d3)] below meth c s₁ [] 0 0 := Stand.of_body Bd
  have e0 : s₁.heap = h0 := by rw [← hh, Bd.state]; rfl
  have N0 := Fr.nil n0
  have K0 := Keep.refl h0 []
  refine own_enter (Q := Qsle Z a0 d3 kk_a0 ev0 ev1 ev2 ev3 h0 n0) (efsle m a0 d3) ?_
  refine own_st (T' := s₁) (g' := (mkF m 27 #[.val (.ref a0), .val (.int (0 : Int32)), .val (.int (4 : Int32)), .val (.double d3), .second, .val (.int (0 : Int32)), .val (.int (3 : Int32)), .val (.int (1 : Int32)), .unset, .unset, .unset, .unset, .unset, .unset] [(.int (1 : Int32)), (.ref a0)])) (fun t k => ?_) ?_
  · show Steps p.tables e below (s₁.setTop (mkF m 0 #[.val (.ref a0), .val (.int (0 : Int32)), .val (.int (4 : Int32)), .val (.double d3), .second, .unset, .unset, .unset, .unset, .unset, .unset, .unset, .unset, .unset] [])) t
    refine XS.iloadN X0.here hx rfl (hb hby d7_0) rfl ?_
    show Steps p.tables e below (s₁.setTop (mkF m 1 #[.val (.ref a0), .val (.int (0 : Int32)), .val (.int (4 : Int32)), .val (.double d3), .second, .unset, .unset, .unset, .unset, .unset, .unset, .unset, .unset, .unset] [(.int (0 : Int32))])) t
    refine XS.istore X0.here hx rfl (hb hby d7_1) rfl (l' := #[.val (.ref a0), .val (.int (0 : Int32)), .val (.int (4 : Int32)), .val (.double d3), .second, .val (.int (0 : Int32)), .unset, .unset, .unset, .unset, .unset, .unset, .unset, .unset]) rfl ?_
    show Steps p.tables e below (s₁.setTop (mkF m 3 #[.val (.ref a0), .val (.int (0 : Int32)), .val (.int (4 : Int32)), .val (.double d3), .second, .val (.int (0 : Int32)), .unset, .unset, .unset, .unset, .unset, .unset, .unset, .unset] [])) t
    refine XS.iloadN X0.here hx rfl (hb hby d7_3) rfl ?_
    show Steps p.tables e below (s₁.setTop (mkF m 4 #[.val (.ref a0), .val (.int (0 : Int32)), .val (.int (4 : Int32)), .val (.double d3), .second, .val (.int (0 : Int32)), .unset, .unset, .unset, .unset, .unset, .unset, .unset, .unset] [(.int (4 : Int32))])) t
    refine XS.iconst X0.here hx rfl (hb hby d7_4) ?_
    show Steps p.tables e below (s₁.setTop (mkF m 5 #[.val (.ref a0), .val (.int (0 : Int32)), .val (.int (4 : Int32)), .val (.double d3), .second, .val (.int (0 : Int32)), .unset, .unset, .unset, .unset, .unset, .unset, .unset, .unset] [(.int (1 : Int32)), (.int (4 : Int32))])) t
    refine XS.isub X0.here hx rfl (hb hby d7_5) rfl ?_
    show Steps p.tables e below (s₁.setTop (mkF m 6 #[.val (.ref a0), .val (.int (0 : Int32)), .val (.int (4 : Int32)), .val (.double d3), .second, .val (.int (0 : Int32)), .unset, .unset, .unset, .unset, .unset, .unset, .unset, .unset] [(.int (3 : Int32))])) t
    refine XS.istore X0.here hx rfl (hb hby d7_6) rfl (l' := #[.val (.ref a0), .val (.int (0 : Int32)), .val (.int (4 : Int32)), .val (.double d3), .second, .val (.int (0 : Int32)), .val (.int (3 : Int32)), .unset, .unset, .unset, .unset, .unset, .unset, .unset]) rfl ?_
    show Steps p.tables e below (s₁.setTop (mkF m 8 #[.val (.ref a0), .val (.int (0 : Int32)), .val (.int (4 : Int32)), .val (.double d3), .second, .val (.int (0 : Int32)), .val (.int (3 : Int32)), .unset, .unset, .unset, .unset, .unset, .unset, .unset] [])) t
    refine XS.iload X0.here hx rfl (hb hby d7_8) rfl ?_
    show Steps p.tables e below (s₁.setTop (mkF m 10 #[.val (.ref a0), .val (.int (0 : Int32)), .val (.int (4 : Int32)), .val (.double d3), .second, .val (.int (0 : Int32)), .val (.int (3 : Int32)), .unset, .unset, .unset, .unset, .unset, .unset, .unset] [(.int (0 : Int32))])) t
    refine XS.iload X0.here hx rfl (hb hby d7_10) rfl ?_
    show Steps p.tables e below (s₁.setTop (mkF m 12 #[.val (.ref a0), .val (.int (0 : Int32)), .val (.int (4 : Int32)), .val (.double d3), .second, .val (.int (0 : Int32)), .val (.int (3 : Int32)), .unset, .unset, .unset, .unset, .unset, .unset, .unset] [(.int (3 : Int32)), (.int (0 : Int32))])) t
    refine XS.icmpNo X0.here hx rfl (hb hby d7_12) rfl (by decide) ?_
    show Steps p.tables e below (s₁.setTop (mkF m 15 #[.val (.ref a0), .val (.int (0 : Int32)), .val (.int (4 : Int32)), .val (.double d3), .second, .val (.int (0 : Int32)), .val (.int (3 : Int32)), .unset, .unset, .unset, .unset, .unset, .unset, .unset] [])) t
    refine XS.iload X0.here hx rfl (hb hby d7_15) rfl ?_
    show Steps p.tables e below (s₁.setTop (mkF m 17 #[.val (.ref a0), .val (.int (0 : Int32)), .val (.int (4 : Int32)), .val (.double d3), .second, .val (.int (0 : Int32)), .val (.int (3 : Int32)), .unset, .unset, .unset, .unset, .unset, .unset, .unset] [(.int (0 : Int32))])) t
    refine XS.iload X0.here hx rfl (hb hby d7_17) rfl ?_
    show Steps p.tables e below (s₁.setTop (mkF m 19 #[.val (.ref a0), .val (.int (0 : Int32)), .val (.int (4 : Int32)), .val (.double d3), .second, .val (.int (0 : Int32)), .val (.int (3 : Int32)), .unset, .unset, .unset, .unset, .unset, .unset, .unset] [(.int (3 : Int32)), (.int (0 : Int32))])) t
    refine XS.iadd X0.here hx rfl (hb hby d7_19) rfl ?_
    show Steps p.tables e below (s₁.setTop (mkF m 20 #[.val (.ref a0), .val (.int (0 : Int32)), .val (.int (4 : Int32)), .val (.double d3), .second, .val (.int (0 : Int32)), .val (.int (3 : Int32)), .unset, .unset, .unset, .unset, .unset, .unset, .unset] [(.int (3 : Int32))])) t
    refine XS.iconst X0.here hx rfl (hb hby d7_20) ?_
    show Steps p.tables e below (s₁.setTop (mkF m 21 #[.val (.ref a0), .val (.int (0 : Int32)), .val (.int (4 : Int32)), .val (.double d3), .second, .val (.int (0 : Int32)), .val (.int (3 : Int32)), .unset, .unset, .unset, .unset, .unset, .unset, .unset] [(.int (1 : Int32)), (.int (3 : Int32))])) t
    refine XS.iushr X0.here hx rfl (hb hby d7_21) rfl ?_
    show Steps p.tables e below (s₁.setTop (mkF m 22 #[.val (.ref a0), .val (.int (0 : Int32)), .val (.int (4 : Int32)), .val (.double d3), .second, .val (.int (0 : Int32)), .val (.int (3 : Int32)), .unset, .unset, .unset, .unset, .unset, .unset, .unset] [(.int (1 : Int32))])) t
    refine XS.istore X0.here hx rfl (hb hby d7_22) rfl (l' := #[.val (.ref a0), .val (.int (0 : Int32)), .val (.int (4 : Int32)), .val (.double d3), .second, .val (.int (0 : Int32)), .val (.int (3 : Int32)), .val (.int (1 : Int32)), .unset, .unset, .unset, .unset, .unset, .unset]) rfl ?_
    show Steps p.tables e below (s₁.setTop (mkF m 24 #[.val (.ref a0), .val (.int (0 : Int32)), .val (.int (4 : Int32)), .val (.double d3), .second, .val (.int (0 : Int32)), .val (.int (3 : Int32)), .val (.int (1 : Int32)), .unset, .unset, .unset, .unset, .unset, .unset] [])) t
    refine XS.aloadN X0.here hx rfl (hb hby d7_24) rfl rfl ?_
    show Steps p.tables e below (s₁.setTop (mkF m 25 #[.val (.ref a0), .val (.int (0 : Int32)), .val (.int (4 : Int32)), .val (.double d3), .second, .val (.int (0 : Int32)), .val (.int (3 : Int32)), .val (.int (1 : Int32)), .unset, .unset, .unset, .unset, .unset, .unset] [(.ref a0)])) t
    refine XS.iload X0.here hx rfl (hb hby d7_25) rfl ?_
    exact k
  obtain ⟨c1, r1a, r1b, r1c, r1d, r1e, r1f⟩ := id V_a0
  have i1 : ¬ ((1 : Int32) < 0 ∨ c1.slots.size ≤ ((1 : Int32)).toNatClampNeg) := inb_of r1c ⟨by decide, by decide⟩
  have y1 : c1.slots[((1 : Int32)).toNatClampNeg]? = some (.double ev1) := r1e.at i1 rfl
  refine own_st (T' := s₁) (g' := (mkF m 27 #[.val (.ref a0), .val (.int (0 : Int32)), .val (.int (4 : Int32)), .val (.double d3), .second, .val (.int (2 : Int32)), .val (.int (3 : Int32)), .val (.int (2 : Int32)), .val (.double ev1), .second, .unset, .unset, .unset, .unset] [(.int (2 : Int32)), (.ref a0)])) (fun t k => ?_) ?_
  · show Steps p.tables e below (s₁.setTop (mkF m 27 #[.val (.ref a0), .val (.int (0 : Int32)), .val (.int (4 : Int32)), .val (.double d3), .second, .val (.int (0 : Int32)), .val (.int (3 : Int32)), .val (.int (1 : Int32)), .unset, .unset, .unset, .unset, .unset, .unset] [(.int (1 : Int32)), (.ref a0)])) t
    refine X0.daload hx (j := (1 : Int32)) (v := (.double ev1)) (by rw [e0]; exact r1a.1) (State.isArrayOf_alike hZ.alike r1a.2.1) r1a.2.2 i1 y1 (g := (mkF m 27 #[.val (.ref a0), .val (.int (0 : Int32)), .val (.int (4 : Int32)), .val (.double d3), .second, .val (.int (0 : Int32)), .val (.int (3 : Int32)), .val (.int (1 : Int32)), .unset, .unset, .unset, .unset, .unset, .unset] [(.int (1 : Int32)), (.ref a0)])) rfl rfl (hb hby d7_27) _ ?_
    show Steps p.tables e below (s₁.setTop (mkF m 28 #[.val (.ref a0), .val (.int (0 : Int32)), .val (.int (4 : Int32)), .val (.double d3), .second, .val (.int (0 : Int32)), .val (.int (3 : Int32)), .val (.int (1 : Int32)), .unset, .unset, .unset, .unset, .unset, .unset] [(.double ev1)])) t
    refine XS.dstore X0.here hx rfl (hb hby d7_28) rfl (l' := #[.val (.ref a0), .val (.int (0 : Int32)), .val (.int (4 : Int32)), .val (.double d3), .second, .val (.int (0 : Int32)), .val (.int (3 : Int32)), .val (.int (1 : Int32)), .val (.double ev1), .second, .unset, .unset, .unset, .unset]) rfl ?_
    show Steps p.tables e below (s₁.setTop (mkF m 30 #[.val (.ref a0), .val (.int (0 : Int32)), .val (.int (4 : Int32)), .val (.double d3), .second, .val (.int (0 : Int32)), .val (.int (3 : Int32)), .val (.int (1 : Int32)), .val (.double ev1), .second, .unset, .unset, .unset, .unset] [])) t
    refine XS.dload X0.here hx rfl (hb hby d7_30) rfl ?_
    show Steps p.tables e below (s₁.setTop (mkF m 32 #[.val (.ref a0), .val (.int (0 : Int32)), .val (.int (4 : Int32)), .val (.double d3), .second, .val (.int (0 : Int32)), .val (.int (3 : Int32)), .val (.int (1 : Int32)), .val (.double ev1), .second, .unset, .unset, .unset, .unset] [(.double ev1)])) t
    refine XS.dloadN X0.here hx rfl (hb hby d7_32) rfl ?_
    show Steps p.tables e below (s₁.setTop (mkF m 33 #[.val (.ref a0), .val (.int (0 : Int32)), .val (.int (4 : Int32)), .val (.double d3), .second, .val (.int (0 : Int32)), .val (.int (3 : Int32)), .val (.int (1 : Int32)), .val (.double ev1), .second, .unset, .unset, .unset, .unset] [(.double d3), (.double ev1)])) t
    refine XS.dcmpS X0.here hx rfl (hb hby d7_33) rfl rfl ?_
    show Steps p.tables e below (s₁.setTop (mkF m 34 #[.val (.ref a0), .val (.int (0 : Int32)), .val (.int (4 : Int32)), .val (.double d3), .second, .val (.int (0 : Int32)), .val (.int (3 : Int32)), .val (.int (1 : Int32)), .val (.double ev1), .second, .unset, .unset, .unset, .unset] [(.int (cmpValue (FP.dcmp ev1 d3) .g))])) t
    refine XS.ifNo X0.here hx rfl (hb hby d7_34) rfl ((if0 _ _).trans (tlt (hb34 : (cmpValue (FP.dcmp ev1 d3) .g) < (0 : Int32))).2.1) ?_
    show Steps p.tables e below (s₁.setTop (mkF m 37 #[.val (.ref a0), .val (.int (0 : Int32)), .val (.int (4 : Int32)), .val (.double d3), .second, .val (.int (0 : Int32)), .val (.int (3 : Int32)), .val (.int (1 : Int32)), .val (.double ev1), .second, .unset, .unset, .unset, .unset] [])) t
    refine XS.iload X0.here hx rfl (hb hby d7_37) rfl ?_
    show Steps p.tables e below (s₁.setTop (mkF m 39 #[.val (.ref a0), .val (.int (0 : Int32)), .val (.int (4 : Int32)), .val (.double d3), .second, .val (.int (0 : Int32)), .val (.int (3 : Int32)), .val (.int (1 : Int32)), .val (.double ev1), .second, .unset, .unset, .unset, .unset] [(.int (1 : Int32))])) t
    refine XS.iconst X0.here hx rfl (hb hby d7_39) ?_
    show Steps p.tables e below (s₁.setTop (mkF m 40 #[.val (.ref a0), .val (.int (0 : Int32)), .val (.int (4 : Int32)), .val (.double d3), .second, .val (.int (0 : Int32)), .val (.int (3 : Int32)), .val (.int (1 : Int32)), .val (.double ev1), .second, .unset, .unset, .unset, .unset] [(.int (1 : Int32)), (.int (1 : Int32))])) t
    refine XS.iadd X0.here hx rfl (hb hby d7_40) rfl ?_
    show Steps p.tables e below (s₁.setTop (mkF m 41 #[.val (.ref a0), .val (.int (0 : Int32)), .val (.int (4 : Int32)), .val (.double d3), .second, .val (.int (0 : Int32)), .val (.int (3 : Int32)), .val (.int (1 : Int32)), .val (.double ev1), .second, .unset, .unset, .unset, .unset] [(.int (2 : Int32))])) t
    refine XS.istore X0.here hx rfl (hb hby d7_41) rfl (l' := #[.val (.ref a0), .val (.int (0 : Int32)), .val (.int (4 : Int32)), .val (.double d3), .second, .val (.int (2 : Int32)), .val (.int (3 : Int32)), .val (.int (1 : Int32)), .val (.double ev1), .second, .unset, .unset, .unset, .unset]) rfl ?_
    show Steps p.tables e below (s₁.setTop (mkF m 43 #[.val (.ref a0), .val (.int (0 : Int32)), .val (.int (4 : Int32)), .val (.double d3), .second, .val (.int (2 : Int32)), .val (.int (3 : Int32)), .val (.int (1 : Int32)), .val (.double ev1), .second, .unset, .unset, .unset, .unset] [])) t
    refine XS.goto X0.here hx rfl (pc0 := 43) (pc' := 109) rfl (hb hby d7_43) (by decide) (by decide) ?_
    show Steps p.tables e below (s₁.setTop (mkF m 109 #[.val (.ref a0), .val (.int (0 : Int32)), .val (.int (4 : Int32)), .val (.double d3), .second, .val (.int (2 : Int32)), .val (.int (3 : Int32)), .val (.int (1 : Int32)), .val (.double ev1), .second, .unset, .unset, .unset, .unset] [])) t
    refine XS.goto X0.here hx rfl (pc0 := 109) (pc' := 8) rfl (hb hby d7_109) (by decide) (by decide) ?_
    show Steps p.tables e below (s₁.setTop (mkF m 8 #[.val (.ref a0), .val (.int (0 : Int32)), .val (.int (4 : Int32)), .val (.double d3), .second, .val (.int (2 : Int32)), .val (.int (3 : Int32)), .val (.int (1 : Int32)), .val (.double ev1), .second, .unset, .unset, .unset, .unset] [])) t
    refine XS.iload X0.here hx rfl (hb hby d7_8) rfl ?_
    show Steps p.tables e below (s₁.setTop (mkF m 10 #[.val (.ref a0), .val (.int (0 : Int32)), .val (.int (4 : Int32)), .val (.double d3), .second, .val (.int (2 : Int32)), .val (.int (3 : Int32)), .val (.int (1 : Int32)), .val (.double ev1), .second, .unset, .unset, .unset, .unset] [(.int (2 : Int32))])) t
    refine XS.iload X0.here hx rfl (hb hby d7_10) rfl ?_
    show Steps p.tables e below (s₁.setTop (mkF m 12 #[.val (.ref a0), .val (.int (0 : Int32)), .val (.int (4 : Int32)), .val (.double d3), .second, .val (.int (2 : Int32)), .val (.int (3 : Int32)), .val (.int (1 : Int32)), .val (.double ev1), .second, .unset, .unset, .unset, .unset] [(.int (3 : Int32)), (.int (2 : Int32))])) t
    refine XS.icmpNo X0.here hx rfl (hb hby d7_12) rfl (by decide) ?_
    show Steps p.tables e below (s₁.setTop (mkF m 15 #[.val (.ref a0), .val (.int (0 : Int32)), .val (.int (4 : Int32)), .val (.double d3), .second, .val (.int (2 : Int32)), .val (.int (3 : Int32)), .val (.int (1 : Int32)), .val (.double ev1), .second, .unset, .unset, .unset, .unset] [])) t
    refine XS.iload X0.here hx rfl (hb hby d7_15) rfl ?_
    show Steps p.tables e below (s₁.setTop (mkF m 17 #[.val (.ref a0), .val (.int (0 : Int32)), .val (.int (4 : Int32)), .val (.double d3), .second, .val (.int (2 : Int32)), .val (.int (3 : Int32)), .val (.int (1 : Int32)), .val (.double ev1), .second, .unset, .unset, .unset, .unset] [(.int (2 : Int32))])) t
    refine XS.iload X0.here hx rfl (hb hby d7_17) rfl ?_
    show Steps p.tables e below (s₁.setTop (mkF m 19 #[.val (.ref a0), .val (.int (0 : Int32)), .val (.int (4 : Int32)), .val (.double d3), .second, .val (.int (2 : Int32)), .val (.int (3 : Int32)), .val (.int (1 : Int32)), .val (.double ev1), .second, .unset, .unset, .unset, .unset] [(.int (3 : Int32)), (.int (2 : Int32))])) t
    refine XS.iadd X0.here hx rfl (hb hby d7_19) rfl ?_
    show Steps p.tables e below (s₁.setTop (mkF m 20 #[.val (.ref a0), .val (.int (0 : Int32)), .val (.int (4 : Int32)), .val (.double d3), .second, .val (.int (2 : Int32)), .val (.int (3 : Int32)), .val (.int (1 : Int32)), .val (.double ev1), .second, .unset, .unset, .unset, .unset] [(.int (5 : Int32))])) t
    refine XS.iconst X0.here hx rfl (hb hby d7_20) ?_
    show Steps p.tables e below (s₁.setTop (mkF m 21 #[.val (.ref a0), .val (.int (0 : Int32)), .val (.int (4 : Int32)), .val (.double d3), .second, .val (.int (2 : Int32)), .val (.int (3 : Int32)), .val (.int (1 : Int32)), .val (.double ev1), .second, .unset, .unset, .unset, .unset] [(.int (1 : Int32)), (.int (5 : Int32))])) t
    refine XS.iushr X0.here hx rfl (hb hby d7_21) rfl ?_
    show Steps p.tables e below (s₁.setTop (mkF m 22 #[.val (.ref a0), .val (.int (0 : Int32)), .val (.int (4 : Int32)), .val (.double d3), .second, .val (.int (2 : Int32)), .val (.int (3 : Int32)), .val (.int (1 : Int32)), .val (.double ev1), .second, .unset, .unset, .unset, .unset] [(.int (2 : Int32))])) t
    refine XS.istore X0.here hx rfl (hb hby d7_22) rfl (l' := #[.val (.ref a0), .val (.int (0 : Int32)), .val (.int (4 : Int32)), .val (.double d3), .second, .val (.int (2 : Int32)), .val (.int (3 : Int32)), .val (.int (2 : Int32)), .val (.double ev1), .second, .unset, .unset, .unset, .unset]) rfl ?_
    show Steps p.tables e below (s₁.setTop (mkF m 24 #[.val (.ref a0), .val (.int (0 : Int32)), .val (.int (4 : Int32)), .val (.double d3), .second, .val (.int (2 : Int32)), .val (.int (3 : Int32)), .val (.int (2 : Int32)), .val (.double ev1), .second, .unset, .unset, .unset, .unset] [])) t
    refine XS.aloadN X0.here hx rfl (hb hby d7_24) rfl rfl ?_
    show Steps p.tables e below (s₁.setTop (mkF m 25 #[.val (.ref a0), .val (.int (0 : Int32)), .val (.int (4 : Int32)), .val (.double d3), .second, .val (.int (2 : Int32)), .val (.int (3 : Int32)), .val (.int (2 : Int32)), .val (.double ev1), .second, .unset, .unset, .unset, .unset] [(.ref a0)])) t
    refine XS.iload X0.here hx rfl (hb hby d7_25) rfl ?_
    exact k
  obtain ⟨c2, r2a, r2b, r2c, r2d, r2e, r2f⟩ := id V_a0
  have i2 : ¬ ((2 : Int32) < 0 ∨ c2.slots.size ≤ ((2 : Int32)).toNatClampNeg) := inb_of r2c ⟨by decide, by decide⟩
  have y2 : c2.slots[((2 : Int32)).toNatClampNeg]? = some (.double ev2) := r2e.at i2 rfl
  refine own_st (T' := s₁) (g' := (mkF m 64 #[.val (.ref a0), .val (.int (0 : Int32)), .val (.int (4 : Int32)), .val (.double d3), .second, .val (.int (2 : Int32)), .val (.int (3 : Int32)), .val (.int (2 : Int32)), .val (.double ev2), .second, .unset, .unset, .unset, .unset] [(.double ev2)])) (fun t k => ?_) ?_
  · show Steps p.tables e below (s₁.setTop (mkF m 27 #[.val (.ref a0), .val (.int (0 : Int32)), .val (.int (4 : Int32)), .val (.double d3), .second, .val (.int (2 : Int32)), .val (.int (3 : Int32)), .val (.int (2 : Int32)), .val (.double ev1), .second, .unset, .unset, .unset, .unset] [(.int (2 : Int32)), (.ref a0)])) t
    refine X0.daload hx (j := (2 : Int32)) (v := (.double ev2)) (by rw [e0]; exact r2a.1) (State.isArrayOf_alike hZ.alike r2a.2.1) r2a.2.2 i2 y2 (g := (mkF m 27 #[.val (.ref a0), .val (.int (0 : Int32)), .val (.int (4 : Int32)), .val (.double d3), .second, .val (.int (2 : Int32)), .val (.int (3 : Int32)), .val (.int (2 : Int32)), .val (.double ev1), .second, .unset, .unset, .unset, .unset] [(.int (2 : Int32)), (.ref a0)])) rfl rfl (hb hby d7_27) _ ?_
    show Steps p.tables e below (s₁.setTop (mkF m 28 #[.val (.ref a0), .val (.int (0 : Int32)), .val (.int (4 : Int32)), .val (.double d3), .second, .val (.int (2 : Int32)), .val (.int (3 : Int32)), .val (.int (2 : Int32)), .val (.double ev1), .second, .unset, .unset, .unset, .unset] [(.double ev2)])) t
    refine XS.dstore X0.here hx rfl (hb hby d7_28) rfl (l' := #[.val (.ref a0), .val (.int (0 : Int32)), .val (.int (4 : Int32)), .val (.double d3), .second, .val (.int (2 : Int32)), .val (.int (3 : Int32)), .val (.int (2 : Int32)), .val (.double ev2), .second, .unset, .unset, .unset, .unset]) rfl ?_
    show Steps p.tables e below (s₁.setTop (mkF m 30 #[.val (.ref a0), .val (.int (0 : Int32)), .val (.int (4 : Int32)), .val (.double d3), .second, .val (.int (2 : Int32)), .val (.int (3 : Int32)), .val (.int (2 : Int32)), .val (.double ev2), .second, .unset, .unset, .unset, .unset] [])) t
    refine XS.dload X0.here hx rfl (hb hby d7_30) rfl ?_
    show Steps p.tables e below (s₁.setTop (mkF m 32 #[.val (.ref a0), .val (.int (0 : Int32)), .val (.int (4 : Int32)), .val (.double d3), .second, .val (.int (2 : Int32)), .val (.int (3 : Int32)), .val (.int (2 : Int32)), .val (.double ev2), .second, .unset, .unset, .unset, .unset] [(.double ev2)])) t
    refine XS.dloadN X0.here hx rfl (hb hby d7_32) rfl ?_
    show Steps p.tables e below (s₁.setTop (mkF m 33 #[.val (.ref a0), .val (.int (0 : Int32)), .val (.int (4 : Int32)), .val (.double d3), .second, .val (.int (2 : Int32)), .val (.int (3 : Int32)), .val (.int (2 : Int32)), .val (.double ev2), .second, .unset, .unset, .unset, .unset] [(.double d3), (.double ev2)])) t
    refine XS.dcmpS X0.here hx rfl (hb hby d7_33) rfl rfl ?_
    show Steps p.tables e below (s₁.setTop (mkF m 34 #[.val (.ref a0), .val (.int (0 : Int32)), .val (.int (4 : Int32)), .val (.double d3), .second, .val (.int (2 : Int32)), .val (.int (3 : Int32)), .val (.int (2 : Int32)), .val (.double ev2), .second, .unset, .unset, .unset, .unset] [(.int (cmpValue (FP.dcmp ev2 d3) .g))])) t
    refine XS.ifYes X0.here hx rfl (pc0 := 34) (pc' := 46) rfl (hb hby d7_34) rfl ((if0 _ _).trans (flt (hb34_1 : ¬ ((cmpValue (FP.dcmp ev2 d3) .g) < (0 : Int32)))).2.1) (by decide) (by decide) ?_
    show Steps p.tables e below (s₁.setTop (mkF m 46 #[.val (.ref a0), .val (.int (0 : Int32)), .val (.int (4 : Int32)), .val (.double d3), .second, .val (.int (2 : Int32)), .val (.int (3 : Int32)), .val (.int (2 : Int32)), .val (.double ev2), .second, .unset, .unset, .unset, .unset] [])) t
    refine XS.dload X0.here hx rfl (hb hby d7_46) rfl ?_
    show Steps p.tables e below (s₁.setTop (mkF m 48 #[.val (.ref a0), .val (.int (0 : Int32)), .val (.int (4 : Int32)), .val (.double d3), .second, .val (.int (2 : Int32)), .val (.int (3 : Int32)), .val (.int (2 : Int32)), .val (.double ev2), .second, .unset, .unset, .unset, .unset] [(.double ev2)])) t
    refine XS.dloadN X0.here hx rfl (hb hby d7_48) rfl ?_
    show Steps p.tables e below (s₁.setTop (mkF m 49 #[.val (.ref a0), .val (.int (0 : Int32)), .val (.int (4 : Int32)), .val (.double d3), .second, .val (.int (2 : Int32)), .val (.int (3 : Int32)), .val (.int (2 : Int32)), .val (.double ev2), .second, .unset, .unset, .unset, .unset] [(.double d3), (.double ev2)])) t
    refine XS.dcmpS X0.here hx rfl (hb hby d7_49) rfl rfl ?_
    show Steps p.tables e below (s₁.setTop (mkF m 50 #[.val (.ref a0), .val (.int (0 : Int32)), .val (.int (4 : Int32)), .val (.double d3), .second, .val (.int (2 : Int32)), .val (.int (3 : Int32)), .val (.int (2 : Int32)), .val (.double ev2), .second, .unset, .unset, .unset, .unset] [(.int (cmpValue (FP.dcmp ev2 d3) .l))])) t
    refine XS.ifYes X0.here hx rfl (pc0 := 50) (pc' := 62) rfl (hb hby d7_50) rfl ((if0 _ _).trans (flt (hb50 : ¬ ((0 : Int32) < (cmpValue (FP.dcmp ev2 d3) .l)))).2.2.2) (by decide) (by decide) ?_
    show Steps p.tables e below (s₁.setTop (mkF m 62 #[.val (.ref a0), .val (.int (0 : Int32)), .val (.int (4 : Int32)), .val (.double d3), .second, .val (.int (2 : Int32)), .val (.int (3 : Int32)), .val (.int (2 : Int32)), .val (.double ev2), .second, .unset, .unset, .unset, .unset] [])) t
    refine XS.dload X0.here hx rfl (hb hby d7_62) rfl ?_
    exact k
  obtain ⟨_, _, ⟨T3, L3, k3, n3⟩, -, X3, ⟨Lc3, hQ3, l3, y3, z3⟩, st3⟩ := Jvm.LawKit.callS X0 hx (y := (⟨"java/lang/Double", "doubleToLongBits", "(D)J"⟩ : MethodName)) hown (mvT hZ (hw _ (List.mem_of_getElem? (i := 45) rfl))) (mvT hZ (hw _ (List.mem_of_getElem? (i := 46) rfl))) (mvT hZ (hw _ (List.mem_of_getElem? (i := 13) rfl))) (mvT hZ (hw _ (List.mem_of_getElem? (i := 47) rfl))) (by decide) (backOf (W := 0) (rm8 l Z ar hw [] ev2 h0 n0 Z0 h64_h1_hq_0) hZ (hw _ (List.mem_of_getElem? (i := 47) rfl)) (hw _ (List.mem_of_getElem? (i := 13) rfl)) (by decide) (by decide)) (g := (mkF m 64 #[.val (.ref a0), .val (.int (0 : Int32)), .val (.int (4 : Int32)), .val (.double d3), .second, .val (.int (2 : Int32)), .val (.int (3 : Int32)), .val (.int (2 : Int32)), .val (.double ev2), .second, .unset, .unset, .unset, .unset] [(.double ev2)])) rfl (by rw [hml]; rfl) (argsL := [(.double ev2)]) (rest := []) (lenOf pdsle_0 rfl) rfl (by show 2 * 0 + _ ≤ _; exact Nat.le_of_eq rfl) (hb hby d7_64) (fun _ _ => ⟨rfl, e0, (by decide : 0 + 0 ≤ _), (by decide : 0 + 0 ≤ _)⟩)
  dsimp only [Pt.U, Pt.locs, Pt.cells, Pt.slots] at X3 l3 y3 z3 st3 hQ3
  subst l3 y3 z3
  obtain ⟨rfl, N3q, e3⟩ := hQ3
  have n4 := Fr.app N0 N3q
  refine own_st (T' := T3) (g' := (mkF m 67 #[.val (.ref a0), .val (.int (0 : Int32)), .val (.int (4 : Int32)), .val (.double d3), .second, .val (.int (2 : Int32)), .val (.int (3 : Int32)), .val (.int (2 : Int32)), .val (.double ev2), .second, .unset, .unset, .unset, .unset] [(.long ev2.toInt64)])) st3 ?_
  refine own_st (T' := T3) (g' := (mkF m 70 #[.val (.ref a0), .val (.int (0 : Int32)), .val (.int (4 : Int32)), .val (.double d3), .second, .val (.int (2 : Int32)), .val (.int (3 : Int32)), .val (.int (2 : Int32)), .val (.double ev2), .second, .val (.long ev2.toInt64), .second, .unset, .unset] [(.double d3)])) (fun t k => ?_) ?_
  · show Steps p.tables e below (T3.setTop (mkF m 67 #[.val (.ref a0), .val (.int (0 : Int32)), .val (.int (4 : Int32)), .val (.double d3), .second, .val (.int (2 : Int32)), .val (.int (3 : Int32)), .val (.int (2 : Int32)), .val (.double ev2), .second, .unset, .unset, .unset, .unset] [(.long ev2.toInt64)])) t
    refine XS.lstore X3.here hx rfl (hb hby d7_67) rfl (l' := #[.val (.ref a0), .val (.int (0 : Int32)), .val (.int (4 : Int32)), .val (.double d3), .second, .val (.int (2 : Int32)), .val (.int (3 : Int32)), .val (.int (2 : Int32)), .val (.double ev2), .second, .val (.long ev2.toInt64), .second, .unset, .unset]) rfl ?_
    show Steps p.tables e below (T3.setTop (mkF m 69 #[.val (.ref a0), .val (.int (0 : Int32)), .val (.int (4 : Int32)), .val (.double d3), .second, .val (.int (2 : Int32)), .val (.int (3 : Int32)), .val (.int (2 : Int32)), .val (.double ev2), .second, .val (.long ev2.toInt64), .second, .unset, .unset] [])) t
    refine XS.dloadN X3.here hx rfl (hb hby d7_69) rfl ?_
    exact k
  obtain ⟨_, _, ⟨T5, L5, k5, n5⟩, -, X5, ⟨Lc5, hQ5, l5, y5, z5⟩, st5⟩ := Jvm.LawKit.callS X3 hx (y := (⟨"java/lang/Double", "doubleToLongBits", "(D)J"⟩ : MethodName)) hown (mvT hZ (hw _ (List.mem_of_getElem? (i := 45) rfl))) (mvT hZ (hw _ (List.mem_of_getElem? (i := 46) rfl))) (mvT hZ (hw _ (List.mem_of_getElem? (i := 13) rfl))) (mvT hZ (hw _ (List.mem_of_getElem? (i := 47) rfl))) (by decide) (backOf (W := 0) (rm8 l Z ar hw [] d3 h0 n0 Z0 h70_h1_hq_0) hZ (hw _ (List.mem_of_getElem? (i := 47) rfl)) (hw _ (List.mem_of_getElem? (i := 13) rfl)) (by decide) (by decide)) (g := (mkF m 70 #[.val (.ref a0), .val (.int (0 : Int32)), .val (.int (4 : Int32)), .val (.double d3), .second, .val (.int (2 : Int32)), .val (.int (3 : Int32)), .val (.int (2 : Int32)), .val (.double ev2), .second, .val (.long ev2.toInt64), .second, .unset, .unset] [(.double d3)])) rfl (by rw [hml]; rfl) (argsL := [(.double d3)]) (rest := []) (lenOf pdsle_0 rfl) rfl (by show 2 * 0 + _ ≤ _; exact Nat.le_of_eq rfl) (hb hby d7_70) (fun _ _ => ⟨rfl, e3, (by decide : 0 + 0 ≤ _), (by decide : 0 + 0 ≤ _)⟩)
  dsimp only [Pt.U, Pt.locs, Pt.cells, Pt.slots] at X5 l5 y5 z5 st5 hQ5
  subst l5 y5 z5
  obtain ⟨rfl, N5q, e5⟩ := hQ5
  have n6 := Fr.app n4 N5q
  refine own_st (T' := T5) (g' := (mkF m 73 #[.val (.ref a0), .val (.int (0 : Int32)), .val (.int (4 : Int32)), .val (.double d3), .second, .val (.int (2 : Int32)), .val (.int (3 : Int32)), .val (.int (2 : Int32)), .val (.double ev2), .second, .val (.long ev2.toInt64), .second, .unset, .unset] [(.long d3.toInt64)])) st5 ?_
  refine own_st (T' := T5) (g' := (mkF m 85 #[.val (.ref a0), .val (.int (0 : Int32)), .val (.int (4 : Int32)), .val (.double d3), .second, .val (.int (2 : Int32)), .val (.int (3 : Int32)), .val (.int (2 : Int32)), .val (.double ev2), .second, .val (.long ev2.toInt64), .second, .val (.long d3.toInt64), .second] [(.int (2 : Int32))])) (fun t k => ?_) ?_
  · show Steps p.tables e below (T5.setTop (mkF m 73 #[.val (.ref a0), .val (.int (0 : Int32)), .val (.int (4 : Int32)), .val (.double d3), .second, .val (.int (2 : Int32)), .val (.int (3 : Int32)), .val (.int (2 : Int32)), .val (.double ev2), .second, .val (.long ev2.toInt64), .second, .unset, .unset] [(.long d3.toInt64)])) t
    refine XS.lstore X5.here hx rfl (hb hby d7_73) rfl (l' := #[.val (.ref a0), .val (.int (0 : Int32)), .val (.int (4 : Int32)), .val (.double d3), .second, .val (.int (2 : Int32)), .val (.int (3 : Int32)), .val (.int (2 : Int32)), .val (.double ev2), .second, .val (.long ev2.toInt64), .second, .val (.long d3.toInt64), .second]) rfl ?_
    show Steps p.tables e below (T5.setTop (mkF m 75 #[.val (.ref a0), .val (.int (0 : Int32)), .val (.int (4 : Int32)), .val (.double d3), .second, .val (.int (2 : Int32)), .val (.int (3 : Int32)), .val (.int (2 : Int32)), .val (.double ev2), .second, .val (.long ev2.toInt64), .second, .val (.long d3.toInt64), .second] [])) t
    refine XS.lload X5.here hx rfl (hb hby d7_75) rfl ?_
    show Steps p.tables e below (T5.setTop (mkF m 77 #[.val (.ref a0), .val (.int (0 : Int32)), .val (.int (4 : Int32)), .val (.double d3), .second, .val (.int (2 : Int32)), .val (.int (3 : Int32)), .val (.int (2 : Int32)), .val (.double ev2), .second, .val (.long ev2.toInt64), .second, .val (.long d3.toInt64), .second] [(.long ev2.toInt64)])) t
    refine XS.lload X5.here hx rfl (hb hby d7_77) rfl ?_
    show Steps p.tables e below (T5.setTop (mkF m 79 #[.val (.ref a0), .val (.int (0 : Int32)), .val (.int (4 : Int32)), .val (.double d3), .second, .val (.int (2 : Int32)), .val (.int (3 : Int32)), .val (.int (2 : Int32)), .val (.double ev2), .second, .val (.long ev2.toInt64), .second, .val (.long d3.toInt64), .second] [(.long d3.toInt64), (.long ev2.toInt64)])) t
    refine XS.lcmp X5.here hx rfl (hb hby d7_79) rfl ?_
    show Steps p.tables e below (T5.setTop (mkF m 80 #[.val (.ref a0), .val (.int (0 : Int32)), .val (.int (4 : Int32)), .val (.double d3), .second, .val (.int (2 : Int32)), .val (.int (3 : Int32)), .val (.int (2 : Int32)), .val (.double ev2), .second, .val (.long ev2.toInt64), .second, .val (.long d3.toInt64), .second] [(.int (lcmpW ev2.toInt64 d3.toInt64))])) t
    refine XS.ifNo X5.here hx rfl (hb hby d7_80) rfl ((if0 _ _).trans (teq ((lw_eq ev2.toInt64 d3.toInt64).mpr (hb80 : ev2.toInt64 = d3.toInt64))).2) ?_
    show Steps p.tables e below (T5.setTop (mkF m 83 #[.val (.ref a0), .val (.int (0 : Int32)), .val (.int (4 : Int32)), .val (.double d3), .second, .val (.int (2 : Int32)), .val (.int (3 : Int32)), .val (.int (2 : Int32)), .val (.double ev2), .second, .val (.long ev2.toInt64), .second, .val (.long d3.toInt64), .second] [])) t
    refine XS.iload X5.here hx rfl (hb hby d7_83) rfl ?_
    exact k
  refine own_retI X5 hx hlk Bd.returns (hb hby d7_85) (by decide) (by decide) ?_
  show Qsle Z a0 d3 kk_a0 ev0 ev1 ev2 ev3 h0 n0 (some (.int (2 : Int32))) T5.heap _
  rw [(e5 : T5.heap = h0)]
  exact ⟨rfl, n6, rfl⟩
theorem pntle : plainName "java/util/Arrays" = true := by first | (simp [plainName, overriddenIn]; done) | decide +kernel
theorem pdtle_0 : parseMethodDescriptor "([DIID)I" = some ⟨[(.array .double), .int, .int, .double], some .int⟩ := by decide +kernel
theorem eftle (m : MethodId) (a0 : Addr) (d1 : UInt64) : entryFrame m #[(.ref a0), (.double d1)] 3 = mkF m 0 #[.val (.ref a0), .val (.double d1), .second] [] := by first | (simp [entryFrame, mkF, argsToLocals, Value.category]; done) | rfl
def Qtle (Z : State) (a0 : Addr) (d1 : UInt64) (kk_a0 : ClassId) (ev0 : UInt64) (ev1 : UInt64) (ev2 : UInt64) (ev3 : UInt64) (h0 : Heap) (n0 : Nat) (v : Option Value) (h : Heap) (L : List Loc) : Prop := v = some (.int (2 : Int32)) ∧ Fr n0 L ∧ h = h0
set_option maxRecDepth 65536 in
set_option maxHeartbeats 40000000 in
theorem rmtle (l : Launch) (Z : State) (ar : Array Value) (hw : ∀ d ∈ tables_1, d.before ar Z = true) (ws : List Jvm.Cond) (a0 : Addr) (d1 : UInt64) (kk_a0 : ClassId) (ev0 : UInt64) (ev1 : UInt64) (ev2 : UInt64) (ev3 : UInt64) (h0 : Heap) (n0 : Nat) (Z0 : n0 ≤ h0.size) (V_a0 : Arv Z h0 a0 kk_a0 .double (4 : Int32) [(.double ev0), (.double ev1), (.double ev2), (.double ev3)] (.double (0 : UInt64))) (h5_hb34 : (cmpValue (FP.dcmp ev1 d1) .g) < (0 : Int32)) (h5_hb34_1 : ¬ ((cmpValue (FP.dcmp ev2 d1) .g) < (0 : Int32))) (h5_hb50 : ¬ ((0 : Int32) < (cmpValue (FP.dcmp ev2 d1) .l))) (h5_h64_h1_hq_0 : (cmpValue (FP.dcmp ev2 ev2) .l) = (0 : Int32)) (h5_h70_h1_hq_0 : (cmpValue (FP.dcmp d1 d1) .l) = (0 : Int32)) (h5_hb80 : ev2.toInt64 = d1.toInt64) :
    MetFree l (⟨"java/util/Arrays", "binarySearch", "([DD)I"⟩ : MethodName) (head1 (Jvm.Cond.code (⟨"java/util/Arrays", "binarySearch", "([DD)I"⟩ : MethodName) jdk_65_method_69_code 3 (some .int) :: ws) ({ frames := 3, cells := 0, slots := 0, locals := 53 } : Room)) (fun a U => a = #[(.ref a0), (.double d1)] ∧ Z.Warmed39 U.vm ∧ U.heap = h0) (fun _ _ _ _ _ => True) (fun _ U o U' => ∃ v L, o = .returned v ∧ Qtle Z a0 d1 kk_a0 ev0 ev1 ev2 ev3 h0 n0 v U'.heap L ∧ FrameEnd U o U' L ({ frames := 3, cells := 0, slots := 0, locals := 53 } : Room).cells ({ frames := 3, cells := 0, slots := 0, locals := 53 } : Room).slots) := by
  refine MetFree.of_bodySF (plainFor_of_name pntle) hisR ?_
  intro p e s m args below meth c s₁ Bd hml0 hP hK
  obtain ⟨rfl, hZ, hh⟩ := hP
  have hx := Bd.exec
  have hby := Bd.bytes
  have hlk := Bd.notSynchronized
  have hml : c.maxLocals = 3 := hml0
  have hown : s.vm.findClass "java/util/Arrays" = some m.cls := findClass_of_methodNamed Bd.named
  have hnm := (name_of_methodNamed Bd.named Bd.method).1
  have X0 : Stand p l e ({ frames := 3, cells := 0, slots := 0, locals := 53 } : Room) s m #[(.ref a0), (.double d1)] below meth c s₁ [] 0 0 := Stand.of_body Bd
  have e0 : s₁.heap = h0 := by rw [← hh, Bd.state]; rfl
  have N0 := Fr.nil n0
  have K0 := Keep.refl h0 []
  refine own_enter (Q := Qtle Z a0 d1 kk_a0 ev0 ev1 ev2 ev3 h0 n0) (eftle m a0 d1) ?_
  refine own_st (T' := s₁) (g' := (mkF m 3 #[.val (.ref a0), .val (.double d1), .second] [(.ref a0), (.int (0 : Int32)), (.ref a0)])) (fun t k => ?_) ?_
  · show Steps p.tables e below (s₁.setTop (mkF m 0 #[.val (.ref a0), .val (.double d1), .second] [])) t
    refine XS.aloadN X0.here hx rfl (hb hby d6_0) rfl rfl ?_
    refine XS.iconst X0.here hx rfl (hb hby d6_1) ?_
    refine XS.aloadN X0.here hx rfl (hb hby d6_2) rfl rfl ?_
    exact k
  obtain ⟨c1, r1a, -, r1c, r1d, -, -⟩ := id V_a0
  refine own_st (T' := s₁) (g' := (mkF m 5 #[.val (.ref a0), .val (.double d1), .second] [(.double d1), (.int (4 : Int32)), (.int (0 : Int32)), (.ref a0)])) (fun t k => ?_) ?_
  · show Steps p.tables e below (s₁.setTop (mkF m 3 #[.val (.ref a0), .val (.double d1), .second] [(.ref a0), (.int (0 : Int32)), (.ref a0)])) t
    refine X0.arraylength hx (by rw [e0]; exact r1a.1) (State.isArrayOf_alike hZ.alike r1a.2.1) (g := (mkF m 3 #[.val (.ref a0), .val (.double d1), .second] [(.ref a0), (.int (0 : Int32)), (.ref a0)])) rfl rfl (hb hby d6_3) _ ?_
    rw [len_of r1c r1d]
    refine XS.dloadN X0.here hx rfl (hb hby d6_4) rfl ?_
    exact k
  obtain ⟨_, _, ⟨T2, L2, k2, n2⟩, -, X2, ⟨Lc2, hQ2, l2, y2, z2⟩, st2⟩ := Jvm.LawKit.callS X0 hx (y := (⟨"java/util/Arrays", "binarySearch0", "([DIID)I"⟩ : MethodName)) hown (mvT hZ (hw _ (List.mem_of_getElem? (i := 42) rfl))) (mvT hZ (hw _ (List.mem_of_getElem? (i := 43) rfl))) (mvT hZ (hw _ (List.mem_of_getElem? (i := 40) rfl))) (mvT hZ (hw _ (List.mem_of_getElem? (i := 44) rfl))) (by decide) (backOf (W := 0) (rmsle l Z ar hw [] a0 d1 kk_a0 ev0 ev1 ev2 ev3 h0 n0 Z0 V_a0 h5_hb34 h5_hb34_1 h5_hb50 h5_h64_h1_hq_0 h5_h70_h1_hq_0 h5_hb80) hZ (hw _ (List.mem_of_getElem? (i := 44) rfl)) (hw _ (List.mem_of_getElem? (i := 40) rfl)) (by decide) (by decide)) (g := (mkF m 5 #[.val (.ref a0), .val (.double d1), .second] [(.double d1), (.int (4 : Int32)), (.int (0 : Int32)), (.ref a0)])) rfl (by rw [hml]; rfl) (argsL := [(.ref a0), (.int (0 : Int32)), (.int (4 : Int32)), (.double d1)]) (rest := []) (lenOf pdtle_0 rfl) rfl (by show 2 * 0 + _ ≤ _; exact Nat.le_of_eq rfl) (hb hby d6_5) (fun _ _ => ⟨rfl, e0, (by decide : 0 + 0 ≤ _), (by decide : 0 + 0 ≤ _)⟩)
  dsimp only [Pt.U, Pt.locs, Pt.cells, Pt.slots] at X2 l2 y2 z2 st2 hQ2
  subst l2 y2 z2
  obtain ⟨rfl, N2q, e2⟩ := hQ2
  have n3 := Fr.app N0 N2q
  refine own_st (T' := T2) (g' := (mkF m 8 #[.val (.ref a0), .val (.double d1), .second] [(.int (2 : Int32))])) st2 ?_
  refine own_retI X2 hx hlk Bd.returns (hb hby d6_8) (by decide) (by decide) ?_
  show Qtle Z a0 d1 kk_a0 ev0 ev1 ev2 ev3 h0 n0 (some (.int (2 : Int32))) T2.heap _
  rw [(e2 : T2.heap = h0)]
  exact ⟨rfl, n3, rfl⟩
theorem d7_53 : decode jdk_65_method_71_code 53 = .ok (.iload 7, 2) := by decide +kernel
theorem d7_55 : decode jdk_65_method_71_code 55 = .ok (.iconst 1, 1) := by decide +kernel
theorem d7_56 : decode jdk_65_method_71_code 56 = .ok (.isub, 1) := by decide +kernel
theorem d7_57 : decode jdk_65_method_71_code 57 = .ok (.istore 6, 2) := by decide +kernel
theorem d7_59 : decode jdk_65_method_71_code 59 = .ok (.goto 50, 3) := by decide +kernel
theorem d7_112 : decode jdk_65_method_71_code 112 = .ok (.iload 5, 2) := by decide +kernel
theorem d7_114 : decode jdk_65_method_71_code 114 = .ok (.iconst 1, 1) := by decide +kernel
theorem d7_115 : decode jdk_65_method_71_code 115 = .ok (.iadd, 1) := by decide +kernel
theorem d7_116 : decode jdk_65_method_71_code 116 = .ok (.ineg, 1) := by decide +kernel
theorem d7_117 : decode jdk_65_method_71_code 117 = .ok (.ireturn, 1) := by decide +kernel
theorem pnslg : plainName "java/util/Arrays" = true := by first | (simp [plainName, overriddenIn]; done) | decide +kernel
theorem efslg (m : MethodId) (a0 : Addr) (d3 : UInt64) : entryFrame m #[(.ref a0), (.int (0 : Int32)), (.int (4 : Int32)), (.double d3)] 14 = mkF m 0 #[.val (.ref a0), .val (.int (0 : Int32)), .val (.int (4 : Int32)), .val (.double d3), .second, .unset, .unset, .unset, .unset, .unset, .unset, .unset, .unset, .unset] [] := by first | (simp [entryFrame, mkF, argsToLocals, Value.category]; done) | rfl
def Qslg (Z : State) (a0 : Addr) (d3 : UInt64) (kk_a0 : ClassId) (ev0 : UInt64) (ev1 : UInt64) (ev2 : UInt64) (ev3 : UInt64) (h0 : Heap) (n0 : Nat) (v : Option Value) (h : Heap) (L : List Loc) : Prop := v = some (.int (-3 : Int32)) ∧ Fr n0 L ∧ h = h0
set_option maxRecDepth 65536 in
set_option maxHeartbeats 40000000 in
theorem rmslg (l : Launch) (Z : State) (ar : Array Value) (hw : ∀ d ∈ tables_1, d.before ar Z = true) (ws : List Jvm.Cond) (a0 : Addr) (d3 : UInt64) (kk_a0 : ClassId) (ev0 : UInt64) (ev1 : UInt64) (ev2 : UInt64) (ev3 : UInt64) (h0 : Heap) (n0 : Nat) (Z0 : n0 ≤ h0.size) (V_a0 : Arv Z h0 a0 kk_a0 .double (4 : Int32) [(.double ev0), (.double ev1), (.double ev2), (.double ev3)] (.double (0 : UInt64))) (hb34 : (cmpValue (FP.dcmp ev1 d3) .g) < (0 : Int32)) (hb34_1 : ¬ ((cmpValue (FP.dcmp ev2 d3) .g) < (0 : Int32))) (hb50 : (0 : Int32) < (cmpValue (FP.dcmp ev2 d3) .l)) :
    MetFree l (⟨"java/util/Arrays", "binarySearch0", "([DIID)I"⟩ : MethodName) (head1 (Jvm.Cond.code (⟨"java/util/Arrays", "binarySearch0", "([DIID)I"⟩ : MethodName) jdk_65_method_71_code 14 (some .int) :: ws) ({ frames := 0, cells := 0, slots := 0, locals := 0 } : Room)) (fun a U => a = #[(.ref a0), (.int (0 : Int32)), (.int (4 : Int32)), (.double d3)] ∧ Z.Warmed39 U.vm ∧ U.heap = h0) (fun _ _ _ _ _ => True) (fun _ U o U' => ∃ v L, o = .returned v ∧ Qslg Z a0 d3 kk_a0 ev0 ev1 ev2 ev3 h0 n0 v U'.heap L ∧ FrameEnd U o U' L ({ frames := 0, cells := 0, slots := 0, locals := 0 } : Room).cells ({ frames := 0, cells := 0, slots := 0, locals := 0 } : Room).slots) := by
  refine MetFree.of_bodySF (plainFor_of_name pnslg) hisR ?_
  intro p e s m args below meth c s₁ Bd hml0 hP hK
  obtain ⟨rfl, hZ, hh⟩ := hP
  have hx := Bd.exec
  have hby := Bd.bytes
  have hlk := Bd.notSynchronized
  have hml : c.maxLocals = 14 := hml0
  have hown : s.vm.findClass "java/util/Arrays" = some m.cls := findClass_of_methodNamed Bd.named
  have hnm := (name_of_methodNamed Bd.named Bd.method).1
  have X0 : Stand p l e ({ frames := 0, cells := 0, slots := 0, locals := 0 } : Room) s m #[(.ref a0), (.int (0 : Int32)), (.int (4 : Int32)), (.double d3)] below meth c s₁ [] 0 0 := Stand.of_body Bd
  have e0 : s₁.heap = h0 := by rw [← hh, Bd.state]; rfl
  have N0 := Fr.nil n0
  have K0 := Keep.refl h0 []
  refine own_enter (Q := Qslg Z a0 d3 kk_a0 ev0 ev1 ev2 ev3 h0 n0) (efslg m a0 d3) ?_
  refine own_st (T' := s₁) (g' := (mkF m 27 #[.val (.ref a0), .val (.int (0 : Int32)), .val (.int (4 : Int32)), .val (.double d3), .second, .val (.int (0 : Int32)), .val (.int (3 : Int32)), .val (.int (1 : Int32)), .unset, .unset, .unset, .unset, .unset, .unset] [(.int (1 : Int32)), (.ref a0)])) (fun t k => ?_) ?_
  · show Steps p.tables e below (s₁.setTop (mkF m 0 #[.val (.ref a0), .val (.int (0 : Int32)), .val (.int (4 : Int32)), .val (.double d3), .second, .unset, .unset, .unset, .unset, .unset, .unset, .unset, .unset, .unset] [])) t
    refine XS.iloadN X0.here hx rfl (hb hby d7_0) rfl ?_
    show Steps p.tables e below (s₁.setTop (mkF m 1 #[.val (.ref a0), .val (.int (0 : Int32)), .val (.int (4 : Int32)), .val (.double d3), .second, .unset, .unset, .unset, .unset, .unset, .unset, .unset, .unset, .unset] [(.int (0 : Int32))])) t
    refine XS.istore X0.here hx rfl (hb hby d7_1) rfl (l' := #[.val (.ref a0), .val (.int (0 : Int32)), .val (.int (4 : Int32)), .val (.double d3), .second, .val (.int (0 : Int32)), .unset, .unset, .unset, .unset, .unset, .unset, .unset, .unset]) rfl ?_
    show Steps p.tables e below (s₁.setTop (mkF m 3 #[.val (.ref a0), .val (.int (0 : Int32)), .val (.int (4 : Int32)), .val (.double d3), .second, .val (.int (0 : Int32)), .unset, .unset, .unset, .unset, .unset, .unset, .unset, .unset] [])) t
    refine XS.iloadN X0.here hx rfl (hb hby d7_3) rfl ?_
    show Steps p.tables e below (s₁.setTop (mkF m 4 #[.val (.ref a0), .val (.int (0 : Int32)), .val (.int (4 : Int32)), .val (.double d3), .second, .val (.int (0 : Int32)), .unset, .unset, .unset, .unset, .unset, .unset, .unset, .unset] [(.int (4 : Int32))])) t
    refine XS.iconst X0.here hx rfl (hb hby d7_4) ?_
    show Steps p.tables e below (s₁.setTop (mkF m 5 #[.val (.ref a0), .val (.int (0 : Int32)), .val (.int (4 : Int32)), .val (.double d3), .second, .val (.int (0 : Int32)), .unset, .unset, .unset, .unset, .unset, .unset, .unset, .unset] [(.int (1 : Int32)), (.int (4 : Int32))])) t
    refine XS.isub X0.here hx rfl (hb hby d7_5) rfl ?_
    show Steps p.tables e below (s₁.setTop (mkF m 6 #[.val (.ref a0), .val (.int (0 : Int32)), .val (.int (4 : Int32)), .val (.double d3), .second, .val (.int (0 : Int32)), .unset, .unset, .unset, .unset, .unset, .unset, .unset, .unset] [(.int (3 : Int32))])) t
    refine XS.istore X0.here hx rfl (hb hby d7_6) rfl (l' := #[.val (.ref a0), .val (.int (0 : Int32)), .val (.int (4 : Int32)), .val (.double d3), .second, .val (.int (0 : Int32)), .val (.int (3 : Int32)), .unset, .unset, .unset, .unset, .unset, .unset, .unset]) rfl ?_
    show Steps p.tables e below (s₁.setTop (mkF m 8 #[.val (.ref a0), .val (.int (0 : Int32)), .val (.int (4 : Int32)), .val (.double d3), .second, .val (.int (0 : Int32)), .val (.int (3 : Int32)), .unset, .unset, .unset, .unset, .unset, .unset, .unset] [])) t
    refine XS.iload X0.here hx rfl (hb hby d7_8) rfl ?_
    show Steps p.tables e below (s₁.setTop (mkF m 10 #[.val (.ref a0), .val (.int (0 : Int32)), .val (.int (4 : Int32)), .val (.double d3), .second, .val (.int (0 : Int32)), .val (.int (3 : Int32)), .unset, .unset, .unset, .unset, .unset, .unset, .unset] [(.int (0 : Int32))])) t
    refine XS.iload X0.here hx rfl (hb hby d7_10) rfl ?_
    show Steps p.tables e below (s₁.setTop (mkF m 12 #[.val (.ref a0), .val (.int (0 : Int32)), .val (.int (4 : Int32)), .val (.double d3), .second, .val (.int (0 : Int32)), .val (.int (3 : Int32)), .unset, .unset, .unset, .unset, .unset, .unset, .unset] [(.int (3 : Int32)), (.int (0 : Int32))])) t
    refine XS.icmpNo X0.here hx rfl (hb hby d7_12) rfl (by decide) ?_
    show Steps p.tables e below (s₁.setTop (mkF m 15 #[.val (.ref a0), .val (.int (0 : Int32)), .val (.int (4 : Int32)), .val (.double d3), .second, .val (.int (0 : Int32)), .val (.int (3 : Int32)), .unset, .unset, .unset, .unset, .unset, .unset, .unset] [])) t
    refine XS.iload X0.here hx rfl (hb hby d7_15) rfl ?_
    show Steps p.tables e below (s₁.setTop (mkF m 17 #[.val (.ref a0), .val (.int (0 : Int32)), .val (.int (4 : Int32)), .val (.double d3), .second, .val (.int (0 : Int32)), .val (.int (3 : Int32)), .unset, .unset, .unset, .unset, .unset, .unset, .unset] [(.int (0 : Int32))])) t
    refine XS.iload X0.here hx rfl (hb hby d7_17) rfl ?_
    show Steps p.tables e below (s₁.setTop (mkF m 19 #[.val (.ref a0), .val (.int (0 : Int32)), .val (.int (4 : Int32)), .val (.double d3), .second, .val (.int (0 : Int32)), .val (.int (3 : Int32)), .unset, .unset, .unset, .unset, .unset, .unset, .unset] [(.int (3 : Int32)), (.int (0 : Int32))])) t
    refine XS.iadd X0.here hx rfl (hb hby d7_19) rfl ?_
    show Steps p.tables e below (s₁.setTop (mkF m 20 #[.val (.ref a0), .val (.int (0 : Int32)), .val (.int (4 : Int32)), .val (.double d3), .second, .val (.int (0 : Int32)), .val (.int (3 : Int32)), .unset, .unset, .unset, .unset, .unset, .unset, .unset] [(.int (3 : Int32))])) t
    refine XS.iconst X0.here hx rfl (hb hby d7_20) ?_
    show Steps p.tables e below (s₁.setTop (mkF m 21 #[.val (.ref a0), .val (.int (0 : Int32)), .val (.int (4 : Int32)), .val (.double d3), .second, .val (.int (0 : Int32)), .val (.int (3 : Int32)), .unset, .unset, .unset, .unset, .unset, .unset, .unset] [(.int (1 : Int32)), (.int (3 : Int32))])) t
    refine XS.iushr X0.here hx rfl (hb hby d7_21) rfl ?_
    show Steps p.tables e below (s₁.setTop (mkF m 22 #[.val (.ref a0), .val (.int (0 : Int32)), .val (.int (4 : Int32)), .val (.double d3), .second, .val (.int (0 : Int32)), .val (.int (3 : Int32)), .unset, .unset, .unset, .unset, .unset, .unset, .unset] [(.int (1 : Int32))])) t
    refine XS.istore X0.here hx rfl (hb hby d7_22) rfl (l' := #[.val (.ref a0), .val (.int (0 : Int32)), .val (.int (4 : Int32)), .val (.double d3), .second, .val (.int (0 : Int32)), .val (.int (3 : Int32)), .val (.int (1 : Int32)), .unset, .unset, .unset, .unset, .unset, .unset]) rfl ?_
    show Steps p.tables e below (s₁.setTop (mkF m 24 #[.val (.ref a0), .val (.int (0 : Int32)), .val (.int (4 : Int32)), .val (.double d3), .second, .val (.int (0 : Int32)), .val (.int (3 : Int32)), .val (.int (1 : Int32)), .unset, .unset, .unset, .unset, .unset, .unset] [])) t
    refine XS.aloadN X0.here hx rfl (hb hby d7_24) rfl rfl ?_
    show Steps p.tables e below (s₁.setTop (mkF m 25 #[.val (.ref a0), .val (.int (0 : Int32)), .val (.int (4 : Int32)), .val (.double d3), .second, .val (.int (0 : Int32)), .val (.int (3 : Int32)), .val (.int (1 : Int32)), .unset, .unset, .unset, .unset, .unset, .unset] [(.ref a0)])) t
    refine XS.iload X0.here hx rfl (hb hby d7_25) rfl ?_
    exact k
  obtain ⟨c1, r1a, r1b, r1c, r1d, r1e, r1f⟩ := id V_a0
  have i1 : ¬ ((1 : Int32) < 0 ∨ c1.slots.size ≤ ((1 : Int32)).toNatClampNeg) := inb_of r1c ⟨by decide, by decide⟩
  have y1 : c1.slots[((1 : Int32)).toNatClampNeg]? = some (.double ev1) := r1e.at i1 rfl
  refine own_st (T' := s₁) (g' := (mkF m 27 #[.val (.ref a0), .val (.int (0 : Int32)), .val (.int (4 : Int32)), .val (.double d3), .second, .val (.int (2 : Int32)), .val (.int (3 : Int32)), .val (.int (2 : Int32)), .val (.double ev1), .second, .unset, .unset, .unset, .unset] [(.int (2 : Int32)), (.ref a0)])) (fun t k => ?_) ?_
  · show Steps p.tables e below (s₁.setTop (mkF m 27 #[.val (.ref a0), .val (.int (0 : Int32)), .val (.int (4 : Int32)), .val (.double d3), .second, .val (.int (0 : Int32)), .val (.int (3 : Int32)), .val (.int (1 : Int32)), .unset, .unset, .unset, .unset, .unset, .unset] [(.int (1 : Int32)), (.ref a0)])) t
    refine X0.daload hx (j := (1 : Int32)) (v := (.double ev1)) (by rw [e0]; exact r1a.1) (State.isArrayOf_alike hZ.alike r1a.2.1) r1a.2.2 i1 y1 (g := (mkF m 27 #[.val (.ref a0), .val (.int (0 : Int32)), .val (.int (4 : Int32)), .val (.double d3), .second, .val (.int (0 : Int32)), .val (.int (3 : Int32)), .val (.int (1 : Int32)), .unset, .unset, .unset, .unset, .unset, .unset] [(.int (1 : Int32)), (.ref a0)])) rfl rfl (hb hby d7_27) _ ?_
    show Steps p.tables e below (s₁.setTop (mkF m 28 #[.val (.ref a0), .val (.int (0 : Int32)), .val (.int (4 : Int32)), .val (.double d3), .second, .val (.int (0 : Int32)), .val (.int (3 : Int32)), .val (.int (1 : Int32)), .unset, .unset, .unset, .unset, .unset, .unset] [(.double ev1)])) t
    refine XS.dstore X0.here hx rfl (hb hby d7_28) rfl (l' := #[.val (.ref a0), .val (.int (0 : Int32)), .val (.int (4 : Int32)), .val (.double d3), .second, .val (.int (0 : Int32)), .val (.int (3 : Int32)), .val (.int (1 : Int32)), .val (.double ev1), .second, .unset, .unset, .unset, .unset]) rfl ?_
    show Steps p.tables e below (s₁.setTop (mkF m 30 #[.val (.ref a0), .val (.int (0 : Int32)), .val (.int (4 : Int32)), .val (.double d3), .second, .val (.int (0 : Int32)), .val (.int (3 : Int32)), .val (.int (1 : Int32)), .val (.double ev1), .second, .unset, .unset, .unset, .unset] [])) t
    refine XS.dload X0.here hx rfl (hb hby d7_30) rfl ?_
    show Steps p.tables e below (s₁.setTop (mkF m 32 #[.val (.ref a0), .val (.int (0 : Int32)), .val (.int (4 : Int32)), .val (.double d3), .second, .val (.int (0 : Int32)), .val (.int (3 : Int32)), .val (.int (1 : Int32)), .val (.double ev1), .second, .unset, .unset, .unset, .unset] [(.double ev1)])) t
    refine XS.dloadN X0.here hx rfl (hb hby d7_32) rfl ?_
    show Steps p.tables e below (s₁.setTop (mkF m 33 #[.val (.ref a0), .val (.int (0 : Int32)), .val (.int (4 : Int32)), .val (.double d3), .second, .val (.int (0 : Int32)), .val (.int (3 : Int32)), .val (.int (1 : Int32)), .val (.double ev1), .second, .unset, .unset, .unset, .unset] [(.double d3), (.double ev1)])) t
    refine XS.dcmpS X0.here hx rfl (hb hby d7_33) rfl rfl ?_
    show Steps p.tables e below (s₁.setTop (mkF m 34 #[.val (.ref a0), .val (.int (0 : Int32)), .val (.int (4 : Int32)), .val (.double d3), .second, .val (.int (0 : Int32)), .val (.int (3 : Int32)), .val (.int (1 : Int32)), .val (.double ev1), .second, .unset, .unset, .unset, .unset] [(.int (cmpValue (FP.dcmp ev1 d3) .g))])) t
    refine XS.ifNo X0.here hx rfl (hb hby d7_34) rfl ((if0 _ _).trans (tlt (hb34 : (cmpValue (FP.dcmp ev1 d3) .g) < (0 : Int32))).2.1) ?_
    show Steps p.tables e below (s₁.setTop (mkF m 37 #[.val (.ref a0), .val (.int (0 : Int32)), .val (.int (4 : Int32)), .val (.double d3), .second, .val (.int (0 : Int32)), .val (.int (3 : Int32)), .val (.int (1 : Int32)), .val (.double ev1), .second, .unset, .unset, .unset, .unset] [])) t
    refine XS.iload X0.here hx rfl (hb hby d7_37) rfl ?_
    show Steps p.tables e below (s₁.setTop (mkF m 39 #[.val (.ref a0), .val (.int (0 : Int32)), .val (.int (4 : Int32)), .val (.double d3), .second, .val (.int (0 : Int32)), .val (.int (3 : Int32)), .val (.int (1 : Int32)), .val (.double ev1), .second, .unset, .unset, .unset, .unset] [(.int (1 : Int32))])) t
    refine XS.iconst X0.here hx rfl (hb hby d7_39) ?_
    show Steps p.tables e below (s₁.setTop (mkF m 40 #[.val (.ref a0), .val (.int (0 : Int32)), .val (.int (4 : Int32)), .val (.double d3), .second, .val (.int (0 : Int32)), .val (.int (3 : Int32)), .val (.int (1 : Int32)), .val (.double ev1), .second, .unset, .unset, .unset, .unset] [(.int (1 : Int32)), (.int (1 : Int32))])) t
    refine XS.iadd X0.here hx rfl (hb hby d7_40) rfl ?_
    show Steps p.tables e below (s₁.setTop (mkF m 41 #[.val (.ref a0), .val (.int (0 : Int32)), .val (.int (4 : Int32)), .val (.double d3), .second, .val (.int (0 : Int32)), .val (.int (3 : Int32)), .val (.int (1 : Int32)), .val (.double ev1), .second, .unset, .unset, .unset, .unset] [(.int (2 : Int32))])) t
    refine XS.istore X0.here hx rfl (hb hby d7_41) rfl (l' := #[.val (.ref a0), .val (.int (0 : Int32)), .val (.int (4 : Int32)), .val (.double d3), .second, .val (.int (2 : Int32)), .val (.int (3 : Int32)), .val (.int (1 : Int32)), .val (.double ev1), .second, .unset, .unset, .unset, .unset]) rfl ?_
    show Steps p.tables e below (s₁.setTop (mkF m 43 #[.val (.ref a0), .val (.int (0 : Int32)), .val (.int (4 : Int32)), .val (.double d3), .second, .val (.int (2 : Int32)), .val (.int (3 : Int32)), .val (.int (1 : Int32)), .val (.double ev1), .second, .unset, .unset, .unset, .unset] [])) t
    refine XS.goto X0.here hx rfl (pc0 := 43) (pc' := 109) rfl (hb hby d7_43) (by decide) (by decide) ?_
    show Steps p.tables e below (s₁.setTop (mkF m 109 #[.val (.ref a0), .val (.int (0 : Int32)), .val (.int (4 : Int32)), .val (.double d3), .second, .val (.int (2 : Int32)), .val (.int (3 : Int32)), .val (.int (1 : Int32)), .val (.double ev1), .second, .unset, .unset, .unset, .unset] [])) t
    refine XS.goto X0.here hx rfl (pc0 := 109) (pc' := 8) rfl (hb hby d7_109) (by decide) (by decide) ?_
    show Steps p.tables e below (s₁.setTop (mkF m 8 #[.val (.ref a0), .val (.int (0 : Int32)), .val (.int (4 : Int32)), .val (.double d3), .second, .val (.int (2 : Int32)), .val (.int (3 : Int32)), .val (.int (1 : Int32)), .val (.double ev1), .second, .unset, .unset, .unset, .unset] [])) t
    refine XS.iload X0.here hx rfl (hb hby d7_8) rfl ?_
    show Steps p.tables e below (s₁.setTop (mkF m 10 #[.val (.ref a0), .val (.int (0 : Int32)), .val (.int (4 : Int32)), .val (.double d3), .second, .val (.int (2 : Int32)), .val (.int (3 : Int32)), .val (.int (1 : Int32)), .val (.double ev1), .second, .unset, .unset, .unset, .unset] [(.int (2 : Int32))])) t
    refine XS.iload X0.here hx rfl (hb hby d7_10) rfl ?_
    show Steps p.tables e below (s₁.setTop (mkF m 12 #[.val (.ref a0), .val (.int (0 : Int32)), .val (.int (4 : Int32)), .val (.double d3), .second, .val (.int (2 : Int32)), .val (.int (3 : Int32)), .val (.int (1 : Int32)), .val (.double ev1), .second, .unset, .unset, .unset, .unset] [(.int (3 : Int32)), (.int (2 : Int32))])) t
    refine XS.icmpNo X0.here hx rfl (hb hby d7_12) rfl (by decide) ?_
    show Steps p.tables e below (s₁.setTop (mkF m 15 #[.val (.ref a0), .val (.int (0 : Int32)), .val (.int (4 : Int32)), .val (.double d3), .second, .val (.int (2 : Int32)), .val (.int (3 : Int32)), .val (.int (1 : Int32)), .val (.double ev1), .second, .unset, .unset, .unset, .unset] [])) t
    refine XS.iload X0.here hx rfl (hb hby d7_15) rfl ?_
    show Steps p.tables e below (s₁.setTop (mkF m 17 #[.val (.ref a0), .val (.int (0 : Int32)), .val (.int (4 : Int32)), .val (.double d3), .second, .val (.int (2 : Int32)), .val (.int (3 : Int32)), .val (.int (1 : Int32)), .val (.double ev1), .second, .unset, .unset, .unset, .unset] [(.int (2 : Int32))])) t
    refine XS.iload X0.here hx rfl (hb hby d7_17) rfl ?_
    show Steps p.tables e below (s₁.setTop (mkF m 19 #[.val (.ref a0), .val (.int (0 : Int32)), .val (.int (4 : Int32)), .val (.double d3), .second, .val (.int (2 : Int32)), .val (.int (3 : Int32)), .val (.int (1 : Int32)), .val (.double ev1), .second, .unset, .unset, .unset, .unset] [(.int (3 : Int32)), (.int (2 : Int32))])) t
    refine XS.iadd X0.here hx rfl (hb hby d7_19) rfl ?_
    show Steps p.tables e below (s₁.setTop (mkF m 20 #[.val (.ref a0), .val (.int (0 : Int32)), .val (.int (4 : Int32)), .val (.double d3), .second, .val (.int (2 : Int32)), .val (.int (3 : Int32)), .val (.int (1 : Int32)), .val (.double ev1), .second, .unset, .unset, .unset, .unset] [(.int (5 : Int32))])) t
    refine XS.iconst X0.here hx rfl (hb hby d7_20) ?_
    show Steps p.tables e below (s₁.setTop (mkF m 21 #[.val (.ref a0), .val (.int (0 : Int32)), .val (.int (4 : Int32)), .val (.double d3), .second, .val (.int (2 : Int32)), .val (.int (3 : Int32)), .val (.int (1 : Int32)), .val (.double ev1), .second, .unset, .unset, .unset, .unset] [(.int (1 : Int32)), (.int (5 : Int32))])) t
    refine XS.iushr X0.here hx rfl (hb hby d7_21) rfl ?_
    show Steps p.tables e below (s₁.setTop (mkF m 22 #[.val (.ref a0), .val (.int (0 : Int32)), .val (.int (4 : Int32)), .val (.double d3), .second, .val (.int (2 : Int32)), .val (.int (3 : Int32)), .val (.int (1 : Int32)), .val (.double ev1), .second, .unset, .unset, .unset, .unset] [(.int (2 : Int32))])) t
    refine XS.istore X0.here hx rfl (hb hby d7_22) rfl (l' := #[.val (.ref a0), .val (.int (0 : Int32)), .val (.int (4 : Int32)), .val (.double d3), .second, .val (.int (2 : Int32)), .val (.int (3 : Int32)), .val (.int (2 : Int32)), .val (.double ev1), .second, .unset, .unset, .unset, .unset]) rfl ?_
    show Steps p.tables e below (s₁.setTop (mkF m 24 #[.val (.ref a0), .val (.int (0 : Int32)), .val (.int (4 : Int32)), .val (.double d3), .second, .val (.int (2 : Int32)), .val (.int (3 : Int32)), .val (.int (2 : Int32)), .val (.double ev1), .second, .unset, .unset, .unset, .unset] [])) t
    refine XS.aloadN X0.here hx rfl (hb hby d7_24) rfl rfl ?_
    show Steps p.tables e below (s₁.setTop (mkF m 25 #[.val (.ref a0), .val (.int (0 : Int32)), .val (.int (4 : Int32)), .val (.double d3), .second, .val (.int (2 : Int32)), .val (.int (3 : Int32)), .val (.int (2 : Int32)), .val (.double ev1), .second, .unset, .unset, .unset, .unset] [(.ref a0)])) t
    refine XS.iload X0.here hx rfl (hb hby d7_25) rfl ?_
    exact k
  obtain ⟨c2, r2a, r2b, r2c, r2d, r2e, r2f⟩ := id V_a0
  have i2 : ¬ ((2 : Int32) < 0 ∨ c2.slots.size ≤ ((2 : Int32)).toNatClampNeg) := inb_of r2c ⟨by decide, by decide⟩
  have y2 : c2.slots[((2 : Int32)).toNatClampNeg]? = some (.double ev2) := r2e.at i2 rfl
  refine own_st (T' := s₁) (g' := (mkF m 117 #[.val (.ref a0), .val (.int (0 : Int32)), .val (.int (4 : Int32)), .val (.double d3), .second, .val (.int (2 : Int32)), .val (.int (1 : Int32)), .val (.int (2 : Int32)), .val (.double ev2), .second, .unset, .unset, .unset, .unset] [(.int (-3 : Int32))])) (fun t k => ?_) ?_
  · show Steps p.tables e below (s₁.setTop (mkF m 27 #[.val (.ref a0), .val (.int (0 : Int32)), .val (.int (4 : Int32)), .val (.double d3), .second, .val (.int (2 : Int32)), .val (.int (3 : Int32)), .val (.int (2 : Int32)), .val (.double ev1), .second, .unset, .unset, .unset, .unset] [(.int (2 : Int32)), (.ref a0)])) t
    refine X0.daload hx (j := (2 : Int32)) (v := (.double ev2)) (by rw [e0]; exact r2a.1) (State.isArrayOf_alike hZ.alike r2a.2.1) r2a.2.2 i2 y2 (g := (mkF m 27 #[.val (.ref a0), .val (.int (0 : Int32)), .val (.int (4 : Int32)), .val (.double d3), .second, .val (.int (2 : Int32)), .val (.int (3 : Int32)), .val (.int (2 : Int32)), .val (.double ev1), .second, .unset, .unset, .unset, .unset] [(.int (2 : Int32)), (.ref a0)])) rfl rfl (hb hby d7_27) _ ?_
    show Steps p.tables e below (s₁.setTop (mkF m 28 #[.val (.ref a0), .val (.int (0 : Int32)), .val (.int (4 : Int32)), .val (.double d3), .second, .val (.int (2 : Int32)), .val (.int (3 : Int32)), .val (.int (2 : Int32)), .val (.double ev1), .second, .unset, .unset, .unset, .unset] [(.double ev2)])) t
    refine XS.dstore X0.here hx rfl (hb hby d7_28) rfl (l' := #[.val (.ref a0), .val (.int (0 : Int32)), .val (.int (4 : Int32)), .val (.double d3), .second, .val (.int (2 : Int32)), .val (.int (3 : Int32)), .val (.int (2 : Int32)), .val (.double ev2), .second, .unset, .unset, .unset, .unset]) rfl ?_
    show Steps p.tables e below (s₁.setTop (mkF m 30 #[.val (.ref a0), .val (.int (0 : Int32)), .val (.int (4 : Int32)), .val (.double d3), .second, .val (.int (2 : Int32)), .val (.int (3 : Int32)), .val (.int (2 : Int32)), .val (.double ev2), .second, .unset, .unset, .unset, .unset] [])) t
    refine XS.dload X0.here hx rfl (hb hby d7_30) rfl ?_
    show Steps p.tables e below (s₁.setTop (mkF m 32 #[.val (.ref a0), .val (.int (0 : Int32)), .val (.int (4 : Int32)), .val (.double d3), .second, .val (.int (2 : Int32)), .val (.int (3 : Int32)), .val (.int (2 : Int32)), .val (.double ev2), .second, .unset, .unset, .unset, .unset] [(.double ev2)])) t
    refine XS.dloadN X0.here hx rfl (hb hby d7_32) rfl ?_
    show Steps p.tables e below (s₁.setTop (mkF m 33 #[.val (.ref a0), .val (.int (0 : Int32)), .val (.int (4 : Int32)), .val (.double d3), .second, .val (.int (2 : Int32)), .val (.int (3 : Int32)), .val (.int (2 : Int32)), .val (.double ev2), .second, .unset, .unset, .unset, .unset] [(.double d3), (.double ev2)])) t
    refine XS.dcmpS X0.here hx rfl (hb hby d7_33) rfl rfl ?_
    show Steps p.tables e below (s₁.setTop (mkF m 34 #[.val (.ref a0), .val (.int (0 : Int32)), .val (.int (4 : Int32)), .val (.double d3), .second, .val (.int (2 : Int32)), .val (.int (3 : Int32)), .val (.int (2 : Int32)), .val (.double ev2), .second, .unset, .unset, .unset, .unset] [(.int (cmpValue (FP.dcmp ev2 d3) .g))])) t
    refine XS.ifYes X0.here hx rfl (pc0 := 34) (pc' := 46) rfl (hb hby d7_34) rfl ((if0 _ _).trans (flt (hb34_1 : ¬ ((cmpValue (FP.dcmp ev2 d3) .g) < (0 : Int32)))).2.1) (by decide) (by decide) ?_
    show Steps p.tables e below (s₁.setTop (mkF m 46 #[.val (.ref a0), .val (.int (0 : Int32)), .val (.int (4 : Int32)), .val (.double d3), .second, .val (.int (2 : Int32)), .val (.int (3 : Int32)), .val (.int (2 : Int32)), .val (.double ev2), .second, .unset, .unset, .unset, .unset] [])) t
    refine XS.dload X0.here hx rfl (hb hby d7_46) rfl ?_
    show Steps p.tables e below (s₁.setTop (mkF m 48 #[.val (.ref a0), .val (.int (0 : Int32)), .val (.int (4 : Int32)), .val (.double d3), .second, .val (.int (2 : Int32)), .val (.int (3 : Int32)), .val (.int (2 : Int32)), .val (.double ev2), .second, .unset, .unset, .unset, .unset] [(.double ev2)])) t
    refine XS.dloadN X0.here hx rfl (hb hby d7_48) rfl ?_
    show Steps p.tables e below (s₁.setTop (mkF m 49 #[.val (.ref a0), .val (.int (0 : Int32)), .val (.int (4 : Int32)), .val (.double d3), .second, .val (.int (2 : Int32)), .val (.int (3 : Int32)), .val (.int (2 : Int32)), .val (.double ev2), .second, .unset, .unset, .unset, .unset] [(.double d3), (.double ev2)])) t
    refine XS.dcmpS X0.here hx rfl (hb hby d7_49) rfl rfl ?_
    show Steps p.tables e below (s₁.setTop (mkF m 50 #[.val (.ref a0), .val (.int (0 : Int32)), .val (.int (4 : Int32)), .val (.double d3), .second, .val (.int (2 : Int32)), .val (.int (3 : Int32)), .val (.int (2 : Int32)), .val (.double ev2), .second, .unset, .unset, .unset, .unset] [(.int (cmpValue (FP.dcmp ev2 d3) .l))])) t
    refine XS.ifNo X0.here hx rfl (hb hby d7_50) rfl ((if0 _ _).trans (tlt (hb50 : (0 : Int32) < (cmpValue (FP.dcmp ev2 d3) .l))).2.2.2) ?_
    show Steps p.tables e below (s₁.setTop (mkF m 53 #[.val (.ref a0), .val (.int (0 : Int32)), .val (.int (4 : Int32)), .val (.double d3), .second, .val (.int (2 : Int32)), .val (.int (3 : Int32)), .val (.int (2 : Int32)), .val (.double ev2), .second, .unset, .unset, .unset, .unset] [])) t
    refine XS.iload X0.here hx rfl (hb hby d7_53) rfl ?_
    show Steps p.tables e below (s₁.setTop (mkF m 55 #[.val (.ref a0), .val (.int (0 : Int32)), .val (.int (4 : Int32)), .val (.double d3), .second, .val (.int (2 : Int32)), .val (.int (3 : Int32)), .val (.int (2 : Int32)), .val (.double ev2), .second, .unset, .unset, .unset, .unset] [(.int (2 : Int32))])) t
    refine XS.iconst X0.here hx rfl (hb hby d7_55) ?_
    show Steps p.tables e below (s₁.setTop (mkF m 56 #[.val (.ref a0), .val (.int (0 : Int32)), .val (.int (4 : Int32)), .val (.double d3), .second, .val (.int (2 : Int32)), .val (.int (3 : Int32)), .val (.int (2 : Int32)), .val (.double ev2), .second, .unset, .unset, .unset, .unset] [(.int (1 : Int32)), (.int (2 : Int32))])) t
    refine XS.isub X0.here hx rfl (hb hby d7_56) rfl ?_
    show Steps p.tables e below (s₁.setTop (mkF m 57 #[.val (.ref a0), .val (.int (0 : Int32)), .val (.int (4 : Int32)), .val (.double d3), .second, .val (.int (2 : Int32)), .val (.int (3 : Int32)), .val (.int (2 : Int32)), .val (.double ev2), .second, .unset, .unset, .unset, .unset] [(.int (1 : Int32))])) t
    refine XS.istore X0.here hx rfl (hb hby d7_57) rfl (l' := #[.val (.ref a0), .val (.int (0 : Int32)), .val (.int (4 : Int32)), .val (.double d3), .second, .val (.int (2 : Int32)), .val (.int (1 : Int32)), .val (.int (2 : Int32)), .val (.double ev2), .second, .unset, .unset, .unset, .unset]) rfl ?_
    show Steps p.tables e below (s₁.setTop (mkF m 59 #[.val (.ref a0), .val (.int (0 : Int32)), .val (.int (4 : Int32)), .val (.double d3), .second, .val (.int (2 : Int32)), .val (.int (1 : Int32)), .val (.int (2 : Int32)), .val (.double ev2), .second, .unset, .unset, .unset, .unset] [])) t
    refine XS.goto X0.here hx rfl (pc0 := 59) (pc' := 109) rfl (hb hby d7_59) (by decide) (by decide) ?_
    show Steps p.tables e below (s₁.setTop (mkF m 109 #[.val (.ref a0), .val (.int (0 : Int32)), .val (.int (4 : Int32)), .val (.double d3), .second, .val (.int (2 : Int32)), .val (.int (1 : Int32)), .val (.int (2 : Int32)), .val (.double ev2), .second, .unset, .unset, .unset, .unset] [])) t
    refine XS.goto X0.here hx rfl (pc0 := 109) (pc' := 8) rfl (hb hby d7_109) (by decide) (by decide) ?_
    show Steps p.tables e below (s₁.setTop (mkF m 8 #[.val (.ref a0), .val (.int (0 : Int32)), .val (.int (4 : Int32)), .val (.double d3), .second, .val (.int (2 : Int32)), .val (.int (1 : Int32)), .val (.int (2 : Int32)), .val (.double ev2), .second, .unset, .unset, .unset, .unset] [])) t
    refine XS.iload X0.here hx rfl (hb hby d7_8) rfl ?_
    show Steps p.tables e below (s₁.setTop (mkF m 10 #[.val (.ref a0), .val (.int (0 : Int32)), .val (.int (4 : Int32)), .val (.double d3), .second, .val (.int (2 : Int32)), .val (.int (1 : Int32)), .val (.int (2 : Int32)), .val (.double ev2), .second, .unset, .unset, .unset, .unset] [(.int (2 : Int32))])) t
    refine XS.iload X0.here hx rfl (hb hby d7_10) rfl ?_
    show Steps p.tables e below (s₁.setTop (mkF m 12 #[.val (.ref a0), .val (.int (0 : Int32)), .val (.int (4 : Int32)), .val (.double d3), .second, .val (.int (2 : Int32)), .val (.int (1 : Int32)), .val (.int (2 : Int32)), .val (.double ev2), .second, .unset, .unset, .unset, .unset] [(.int (1 : Int32)), (.int (2 : Int32))])) t
    refine XS.icmpYes X0.here hx rfl (pc0 := 12) (pc' := 112) rfl (hb hby d7_12) rfl (by decide) (by decide) (by decide) ?_
    show Steps p.tables e below (s₁.setTop (mkF m 112 #[.val (.ref a0), .val (.int (0 : Int32)), .val (.int (4 : Int32)), .val (.double d3), .second, .val (.int (2 : Int32)), .val (.int (1 : Int32)), .val (.int (2 : Int32)), .val (.double ev2), .second, .unset, .unset, .unset, .unset] [])) t
    refine XS.iload X0.here hx rfl (hb hby d7_112) rfl ?_
    show Steps p.tables e below (s₁.setTop (mkF m 114 #[.val (.ref a0), .val (.int (0 : Int32)), .val (.int (4 : Int32)), .val (.double d3), .second, .val (.int (2 : Int32)), .val (.int (1 : Int32)), .val (.int (2 : Int32)), .val (.double ev2), .second, .unset, .unset, .unset, .unset] [(.int (2 : Int32))])) t
    refine XS.iconst X0.here hx rfl (hb hby d7_114) ?_
    show Steps p.tables e below (s₁.setTop (mkF m 115 #[.val (.ref a0), .val (.int (0 : Int32)), .val (.int (4 : Int32)), .val (.double d3), .second, .val (.int (2 : Int32)), .val (.int (1 : Int32)), .val (.int (2 : Int32)), .val (.double ev2), .second, .unset, .unset, .unset, .unset] [(.int (1 : Int32)), (.int (2 : Int32))])) t
    refine XS.iadd X0.here hx rfl (hb hby d7_115) rfl ?_
    show Steps p.tables e below (s₁.setTop (mkF m 116 #[.val (.ref a0), .val (.int (0 : Int32)), .val (.int (4 : Int32)), .val (.double d3), .second, .val (.int (2 : Int32)), .val (.int (1 : Int32)), .val (.int (2 : Int32)), .val (.double ev2), .second, .unset, .unset, .unset, .unset] [(.int (3 : Int32))])) t
    refine XS.ineg X0.here hx rfl (hb hby d7_116) rfl ?_
    exact k
  refine own_retI X0 hx hlk Bd.returns (hb hby d7_117) (by decide) (by decide) ?_
  show Qslg Z a0 d3 kk_a0 ev0 ev1 ev2 ev3 h0 n0 (some (.int (-3 : Int32))) s₁.heap _
  rw [(e0 : s₁.heap = h0)]
  exact ⟨rfl, N0, rfl⟩
theorem pntlg : plainName "java/util/Arrays" = true := by first | (simp [plainName, overriddenIn]; done) | decide +kernel
theorem pdtlg_0 : parseMethodDescriptor "([DIID)I" = some ⟨[(.array .double), .int, .int, .double], some .int⟩ := by decide +kernel
theorem eftlg (m : MethodId) (a0 : Addr) (d1 : UInt64) : entryFrame m #[(.ref a0), (.double d1)] 3 = mkF m 0 #[.val (.ref a0), .val (.double d1), .second] [] := by first | (simp [entryFrame, mkF, argsToLocals, Value.category]; done) | rfl
def Qtlg (Z : State) (a0 : Addr) (d1 : UInt64) (kk_a0 : ClassId) (ev0 : UInt64) (ev1 : UInt64) (ev2 : UInt64) (ev3 : UInt64) (h0 : Heap) (n0 : Nat) (v : Option Value) (h : Heap) (L : List Loc) : Prop := v = some (.int (-3 : Int32)) ∧ Fr n0 L ∧ h = h0
set_option maxRecDepth 65536 in
set_option maxHeartbeats 40000000 in
theorem rmtlg (l : Launch) (Z : State) (ar : Array Value) (hw : ∀ d ∈ tables_1, d.before ar Z = true) (ws : List Jvm.Cond) (a0 : Addr) (d1 : UInt64) (kk_a0 : ClassId) (ev0 : UInt64) (ev1 : UInt64) (ev2 : UInt64) (ev3 : UInt64) (h0 : Heap) (n0 : Nat) (Z0 : n0 ≤ h0.size) (V_a0 : Arv Z h0 a0 kk_a0 .double (4 : Int32) [(.double ev0), (.double ev1), (.double ev2), (.double ev3)] (.double (0 : UInt64))) (h5_hb34 : (cmpValue (FP.dcmp ev1 d1) .g) < (0 : Int32)) (h5_hb34_1 : ¬ ((cmpValue (FP.dcmp ev2 d1) .g) < (0 : Int32))) (h5_hb50 : (0 : Int32) < (cmpValue (FP.dcmp ev2 d1) .l)) :
    MetFree l (⟨"java/util/Arrays", "binarySearch", "([DD)I"⟩ : MethodName) (head1 (Jvm.Cond.code (⟨"java/util/Arrays", "binarySearch", "([DD)I"⟩ : MethodName) jdk_65_method_69_code 3 (some .int) :: ws) ({ frames := 1, cells := 0, slots := 0, locals := 25 } : Room)) (fun a U => a = #[(.ref a0), (.double d1)] ∧ Z.Warmed39 U.vm ∧ U.heap = h0) (fun _ _ _ _ _ => True) (fun _ U o U' => ∃ v L, o = .returned v ∧ Qtlg Z a0 d1 kk_a0 ev0 ev1 ev2 ev3 h0 n0 v U'.heap L ∧ FrameEnd U o U' L ({ frames := 1, cells := 0, slots := 0, locals := 25 } : Room).cells ({ frames := 1, cells := 0, slots := 0, locals := 25 } : Room).slots) := by
  refine MetFree.of_bodySF (plainFor_of_name pntlg) hisR ?_
  intro p e s m args below meth c s₁ Bd hml0 hP hK
  obtain ⟨rfl, hZ, hh⟩ := hP
  have hx := Bd.exec
  have hby := Bd.bytes
  have hlk := Bd.notSynchronized
  have hml : c.maxLocals = 3 := hml0
  have hown : s.vm.findClass "java/util/Arrays" = some m.cls := findClass_of_methodNamed Bd.named
  have hnm := (name_of_methodNamed Bd.named Bd.method).1
  have X0 : Stand p l e ({ frames := 1, cells := 0, slots := 0, locals := 25 } : Room) s m #[(.ref a0), (.double d1)] below meth c s₁ [] 0 0 := Stand.of_body Bd
  have e0 : s₁.heap = h0 := by rw [← hh, Bd.state]; rfl
  have N0 := Fr.nil n0
  have K0 := Keep.refl h0 []
  refine own_enter (Q := Qtlg Z a0 d1 kk_a0 ev0 ev1 ev2 ev3 h0 n0) (eftlg m a0 d1) ?_
  refine own_st (T' := s₁) (g' := (mkF m 3 #[.val (.ref a0), .val (.double d1), .second] [(.ref a0), (.int (0 : Int32)), (.ref a0)])) (fun t k => ?_) ?_
  · show Steps p.tables e below (s₁.setTop (mkF m 0 #[.val (.ref a0), .val (.double d1), .second] [])) t
    refine XS.aloadN X0.here hx rfl (hb hby d6_0) rfl rfl ?_
    refine XS.iconst X0.here hx rfl (hb hby d6_1) ?_
    refine XS.aloadN X0.here hx rfl (hb hby d6_2) rfl rfl ?_
    exact k
  obtain ⟨c1, r1a, -, r1c, r1d, -, -⟩ := id V_a0
  refine own_st (T' := s₁) (g' := (mkF m 5 #[.val (.ref a0), .val (.double d1), .second] [(.double d1), (.int (4 : Int32)), (.int (0 : Int32)), (.ref a0)])) (fun t k => ?_) ?_
  · show Steps p.tables e below (s₁.setTop (mkF m 3 #[.val (.ref a0), .val (.double d1), .second] [(.ref a0), (.int (0 : Int32)), (.ref a0)])) t
    refine X0.arraylength hx (by rw [e0]; exact r1a.1) (State.isArrayOf_alike hZ.alike r1a.2.1) (g := (mkF m 3 #[.val (.ref a0), .val (.double d1), .second] [(.ref a0), (.int (0 : Int32)), (.ref a0)])) rfl rfl (hb hby d6_3) _ ?_
    rw [len_of r1c r1d]
    refine XS.dloadN X0.here hx rfl (hb hby d6_4) rfl ?_
    exact k
  obtain ⟨_, _, ⟨T2, L2, k2, n2⟩, -, X2, ⟨Lc2, hQ2, l2, y2, z2⟩, st2⟩ := Jvm.LawKit.callS X0 hx (y := (⟨"java/util/Arrays", "binarySearch0", "([DIID)I"⟩ : MethodName)) hown (mvT hZ (hw _ (List.mem_of_getElem? (i := 42) rfl))) (mvT hZ (hw _ (List.mem_of_getElem? (i := 43) rfl))) (mvT hZ (hw _ (List.mem_of_getElem? (i := 40) rfl))) (mvT hZ (hw _ (List.mem_of_getElem? (i := 44) rfl))) (by decide) (backOf (W := 0) (rmslg l Z ar hw [] a0 d1 kk_a0 ev0 ev1 ev2 ev3 h0 n0 Z0 V_a0 h5_hb34 h5_hb34_1 h5_hb50) hZ (hw _ (List.mem_of_getElem? (i := 44) rfl)) (hw _ (List.mem_of_getElem? (i := 40) rfl)) (by decide) (by decide)) (g := (mkF m 5 #[.val (.ref a0), .val (.double d1), .second] [(.double d1), (.int (4 : Int32)), (.int (0 : Int32)), (.ref a0)])) rfl (by rw [hml]; rfl) (argsL := [(.ref a0), (.int (0 : Int32)), (.int (4 : Int32)), (.double d1)]) (rest := []) (lenOf pdtlg_0 rfl) rfl (by show 2 * 0 + _ ≤ _; exact Nat.le_of_eq rfl) (hb hby d6_5) (fun _ _ => ⟨rfl, e0, (by decide : 0 + 0 ≤ _), (by decide : 0 + 0 ≤ _)⟩)
  dsimp only [Pt.U, Pt.locs, Pt.cells, Pt.slots] at X2 l2 y2 z2 st2 hQ2
  subst l2 y2 z2
  obtain ⟨rfl, N2q, e2⟩ := hQ2
  have n3 := Fr.app N0 N2q
  refine own_st (T' := T2) (g' := (mkF m 8 #[.val (.ref a0), .val (.double d1), .second] [(.int (-3 : Int32))])) st2 ?_
  refine own_retI X2 hx hlk Bd.returns (hb hby d6_8) (by decide) (by decide) ?_
  show Qtlg Z a0 d1 kk_a0 ev0 ev1 ev2 ev3 h0 n0 (some (.int (-3 : Int32))) T2.heap _
  rw [(e2 : T2.heap = h0)]
  exact ⟨rfl, n3, rfl⟩
theorem pnslle : plainName "java/util/Arrays" = true := by first | (simp [plainName, overriddenIn]; done) | decide +kernel
theorem pdslle_0 : parseMethodDescriptor "(D)J" = some ⟨[.double], some .long⟩ := by decide +kernel
theorem efslle (m : MethodId) (a0 : Addr) (d3 : UInt64) : entryFrame m #[(.ref a0), (.int (0 : Int32)), (.int (4 : Int32)), (.double d3)] 14 = mkF m 0 #[.val (.ref a0), .val (.int (0 : Int32)), .val (.int (4 : Int32)), .val (.double d3), .second, .unset, .unset, .unset, .unset, .unset, .unset, .unset, .unset, .unset] [] := by first | (simp [entryFrame, mkF, argsToLocals, Value.category]; done) | rfl
def Qslle (Z : State) (a0 : Addr) (d3 : UInt64) (kk_a0 : ClassId) (ev0 : UInt64) (ev1 : UInt64) (ev2 : UInt64) (ev3 : UInt64) (h0 : Heap) (n0 : Nat) (v : Option Value) (h : Heap) (L : List Loc) : Prop := v = some (.int (3 : Int32)) ∧ Fr n0 L ∧ h = h0
set_option maxRecDepth 65536 in
set_option maxHeartbeats 40000000 in
theorem rmslle (l : Launch) (Z : State) (ar : Array Value) (hw : ∀ d ∈ tables_1, d.before ar Z = true) (ws : List Jvm.Cond) (a0 : Addr) (d3 : UInt64) (kk_a0 : ClassId) (ev0 : UInt64) (ev1 : UInt64) (ev2 : UInt64) (ev3 : UInt64) (h0 : Heap) (n0 : Nat) (Z0 : n0 ≤ h0.size) (V_a0 : Arv Z h0 a0 kk_a0 .double (4 : Int32) [(.double ev0), (.double ev1), (.double ev2), (.double ev3)] (.double (0 : UInt64))) (hb34 : (cmpValue (FP.dcmp ev1 d3) .g) < (0 : Int32)) (hb34_1 : (cmpValue (FP.dcmp ev2 d3) .g) < (0 : Int32)) (hb34_2 : ¬ ((cmpValue (FP.dcmp ev3 d3) .g) < (0 : Int32))) (hb50 : ¬ ((0 : Int32) < (cmpValue (FP.dcmp ev3 d3) .l))) (h64_h1_hq_0 : (cmpValue (FP.dcmp ev3 ev3) .l) = (0 : Int32)) (h70_h1_hq_0 : (cmpValue (FP.dcmp d3 d3) .l) = (0 : Int32)) (hb80 : ev3.toInt64 = d3.toInt64) :
    MetFree l (⟨"java/util/Arrays", "binarySearch0", "([DIID)I"⟩ : MethodName) (head1 (Jvm.Cond.code (⟨"java/util/Arrays", "binarySearch0", "([DIID)I"⟩ : MethodName) jdk_65_method_71_code 14 (some .int) :: ws) ({ frames := 2, cells := 0, slots := 0, locals := 28 } : Room)) (fun a U => a = #[(.ref a0), (.int (0 : Int32)), (.int (4 : Int32)), (.double d3)] ∧ Z.Warmed39 U.vm ∧ U.heap = h0) (fun _ _ _ _ _ => True) (fun _ U o U' => ∃ v L, o = .returned v ∧ Qslle Z a0 d3 kk_a0 ev0 ev1 ev2 ev3 h0 n0 v U'.heap L ∧ FrameEnd U o U' L ({ frames := 2, cells := 0, slots := 0, locals := 28 } : Room).cells ({ frames := 2, cells := 0, slots := 0, locals := 28 } : Room).slots) := by
  refine MetFree.of_bodySF (plainFor_of_name pnslle) hisR ?_
  intro p e s m args below meth c s₁ Bd hml0 hP hK
  obtain ⟨rfl, hZ, hh⟩ := hP
  have hx := Bd.exec
  have hby := Bd.bytes
  have hlk := Bd.notSynchronized
  have hml : c.maxLocals = 14 := hml0
  have hown : s.vm.findClass "java/util/Arrays" = some m.cls := findClass_of_methodNamed Bd.named
  have hnm := (name_of_methodNamed Bd.named Bd.method).1
  have X0 : Stand p l e ({ frames := 2, cells := 0, slots := 0, locals := 28 } : Room) s m #[(.ref a0), (.int (0 : Int32)), (.int (4 : Int32)), (.double d3)] below meth c s₁ [] 0 0 := Stand.of_body Bd
  have e0 : s₁.heap = h0 := by rw [← hh, Bd.state]; rfl
  have N0 := Fr.nil n0
  have K0 := Keep.refl h0 []
  refine own_enter (Q := Qslle Z a0 d3 kk_a0 ev0 ev1 ev2 ev3 h0 n0) (efslle m a0 d3) ?_
  refine own_st (T' := s₁) (g' := (mkF m 27 #[.val (.ref a0), .val (.int (0 : Int32)), .val (.int (4 : Int32)), .val (.double d3), .second, .val (.int (0 : Int32)), .val (.int (3 : Int32)), .val (.int (1 : Int32)), .unset, .unset, .unset, .unset, .unset, .unset] [(.int (1 : Int32)), (.ref a0)])) (fun t k => ?_) ?_
  · show Steps p.tables e below (s₁.setTop (mkF m 0 #[.val (.ref a0), .val (.int (0 : Int32)), .val (.int (4 : Int32)), .val (.double d3), .second, .unset, .unset, .unset, .unset, .unset, .unset, .unset, .unset, .unset] [])) t
    refine XS.iloadN X0.here hx rfl (hb hby d7_0) rfl ?_
    show Steps p.tables e below (s₁.setTop (mkF m 1 #[.val (.ref a0), .val (.int (0 : Int32)), .val (.int (4 : Int32)), .val (.double d3), .second, .unset, .unset, .unset, .unset, .unset, .unset, .unset, .unset, .unset] [(.int (0 : Int32))])) t
    refine XS.istore X0.here hx rfl (hb hby d7_1) rfl (l' := #[.val (.ref a0), .val (.int (0 : Int32)), .val (.int (4 : Int32)), .val (.double d3), .second, .val (.int (0 : Int32)), .unset, .unset, .unset, .unset, .unset, .unset, .unset, .unset]) rfl ?_
    show Steps p.tables e below (s₁.setTop (mkF m 3 #[.val (.ref a0), .val (.int (0 : Int32)), .val (.int (4 : Int32)), .val (.double d3), .second, .val (.int (0 : Int32)), .unset, .unset, .unset, .unset, .unset, .unset, .unset, .unset] [])) t
    refine XS.iloadN X0.here hx rfl (hb hby d7_3) rfl ?_
    show Steps p.tables e below (s₁.setTop (mkF m 4 #[.val (.ref a0), .val (.int (0 : Int32)), .val (.int (4 : Int32)), .val (.double d3), .second, .val (.int (0 : Int32)), .unset, .unset, .unset, .unset, .unset, .unset, .unset, .unset] [(.int (4 : Int32))])) t
    refine XS.iconst X0.here hx rfl (hb hby d7_4) ?_
    show Steps p.tables e below (s₁.setTop (mkF m 5 #[.val (.ref a0), .val (.int (0 : Int32)), .val (.int (4 : Int32)), .val (.double d3), .second, .val (.int (0 : Int32)), .unset, .unset, .unset, .unset, .unset, .unset, .unset, .unset] [(.int (1 : Int32)), (.int (4 : Int32))])) t
    refine XS.isub X0.here hx rfl (hb hby d7_5) rfl ?_
    show Steps p.tables e below (s₁.setTop (mkF m 6 #[.val (.ref a0), .val (.int (0 : Int32)), .val (.int (4 : Int32)), .val (.double d3), .second, .val (.int (0 : Int32)), .unset, .unset, .unset, .unset, .unset, .unset, .unset, .unset] [(.int (3 : Int32))])) t
    refine XS.istore X0.here hx rfl (hb hby d7_6) rfl (l' := #[.val (.ref a0), .val (.int (0 : Int32)), .val (.int (4 : Int32)), .val (.double d3), .second, .val (.int (0 : Int32)), .val (.int (3 : Int32)), .unset, .unset, .unset, .unset, .unset, .unset, .unset]) rfl ?_
    show Steps p.tables e below (s₁.setTop (mkF m 8 #[.val (.ref a0), .val (.int (0 : Int32)), .val (.int (4 : Int32)), .val (.double d3), .second, .val (.int (0 : Int32)), .val (.int (3 : Int32)), .unset, .unset, .unset, .unset, .unset, .unset, .unset] [])) t
    refine XS.iload X0.here hx rfl (hb hby d7_8) rfl ?_
    show Steps p.tables e below (s₁.setTop (mkF m 10 #[.val (.ref a0), .val (.int (0 : Int32)), .val (.int (4 : Int32)), .val (.double d3), .second, .val (.int (0 : Int32)), .val (.int (3 : Int32)), .unset, .unset, .unset, .unset, .unset, .unset, .unset] [(.int (0 : Int32))])) t
    refine XS.iload X0.here hx rfl (hb hby d7_10) rfl ?_
    show Steps p.tables e below (s₁.setTop (mkF m 12 #[.val (.ref a0), .val (.int (0 : Int32)), .val (.int (4 : Int32)), .val (.double d3), .second, .val (.int (0 : Int32)), .val (.int (3 : Int32)), .unset, .unset, .unset, .unset, .unset, .unset, .unset] [(.int (3 : Int32)), (.int (0 : Int32))])) t
    refine XS.icmpNo X0.here hx rfl (hb hby d7_12) rfl (by decide) ?_
    show Steps p.tables e below (s₁.setTop (mkF m 15 #[.val (.ref a0), .val (.int (0 : Int32)), .val (.int (4 : Int32)), .val (.double d3), .second, .val (.int (0 : Int32)), .val (.int (3 : Int32)), .unset, .unset, .unset, .unset, .unset, .unset, .unset] [])) t
    refine XS.iload X0.here hx rfl (hb hby d7_15) rfl ?_
    show Steps p.tables e below (s₁.setTop (mkF m 17 #[.val (.ref a0), .val (.int (0 : Int32)), .val (.int (4 : Int32)), .val (.double d3), .second, .val (.int (0 : Int32)), .val (.int (3 : Int32)), .unset, .unset, .unset, .unset, .unset, .unset, .unset] [(.int (0 : Int32))])) t
    refine XS.iload X0.here hx rfl (hb hby d7_17) rfl ?_
    show Steps p.tables e below (s₁.setTop (mkF m 19 #[.val (.ref a0), .val (.int (0 : Int32)), .val (.int (4 : Int32)), .val (.double d3), .second, .val (.int (0 : Int32)), .val (.int (3 : Int32)), .unset, .unset, .unset, .unset, .unset, .unset, .unset] [(.int (3 : Int32)), (.int (0 : Int32))])) t
    refine XS.iadd X0.here hx rfl (hb hby d7_19) rfl ?_
    show Steps p.tables e below (s₁.setTop (mkF m 20 #[.val (.ref a0), .val (.int (0 : Int32)), .val (.int (4 : Int32)), .val (.double d3), .second, .val (.int (0 : Int32)), .val (.int (3 : Int32)), .unset, .unset, .unset, .unset, .unset, .unset, .unset] [(.int (3 : Int32))])) t
    refine XS.iconst X0.here hx rfl (hb hby d7_20) ?_
    show Steps p.tables e below (s₁.setTop (mkF m 21 #[.val (.ref a0), .val (.int (0 : Int32)), .val (.int (4 : Int32)), .val (.double d3), .second, .val (.int (0 : Int32)), .val (.int (3 : Int32)), .unset, .unset, .unset, .unset, .unset, .unset, .unset] [(.int (1 : Int32)), (.int (3 : Int32))])) t
    refine XS.iushr X0.here hx rfl (hb hby d7_21) rfl ?_
    show Steps p.tables e below (s₁.setTop (mkF m 22 #[.val (.ref a0), .val (.int (0 : Int32)), .val (.int (4 : Int32)), .val (.double d3), .second, .val (.int (0 : Int32)), .val (.int (3 : Int32)), .unset, .unset, .unset, .unset, .unset, .unset, .unset] [(.int (1 : Int32))])) t
    refine XS.istore X0.here hx rfl (hb hby d7_22) rfl (l' := #[.val (.ref a0), .val (.int (0 : Int32)), .val (.int (4 : Int32)), .val (.double d3), .second, .val (.int (0 : Int32)), .val (.int (3 : Int32)), .val (.int (1 : Int32)), .unset, .unset, .unset, .unset, .unset, .unset]) rfl ?_
    show Steps p.tables e below (s₁.setTop (mkF m 24 #[.val (.ref a0), .val (.int (0 : Int32)), .val (.int (4 : Int32)), .val (.double d3), .second, .val (.int (0 : Int32)), .val (.int (3 : Int32)), .val (.int (1 : Int32)), .unset, .unset, .unset, .unset, .unset, .unset] [])) t
    refine XS.aloadN X0.here hx rfl (hb hby d7_24) rfl rfl ?_
    show Steps p.tables e below (s₁.setTop (mkF m 25 #[.val (.ref a0), .val (.int (0 : Int32)), .val (.int (4 : Int32)), .val (.double d3), .second, .val (.int (0 : Int32)), .val (.int (3 : Int32)), .val (.int (1 : Int32)), .unset, .unset, .unset, .unset, .unset, .unset] [(.ref a0)])) t
    refine XS.iload X0.here hx rfl (hb hby d7_25) rfl ?_
    exact k
  obtain ⟨c1, r1a, r1b, r1c, r1d, r1e, r1f⟩ := id V_a0
  have i1 : ¬ ((1 : Int32) < 0 ∨ c1.slots.size ≤ ((1 : Int32)).toNatClampNeg) := inb_of r1c ⟨by decide, by decide⟩
  have y1 : c1.slots[((1 : Int32)).toNatClampNeg]? = some (.double ev1) := r1e.at i1 rfl
  refine own_st (T' := s₁) (g' := (mkF m 27 #[.val (.ref a0), .val (.int (0 : Int32)), .val (.int (4 : Int32)), .val (.double d3), .second, .val (.int (2 : Int32)), .val (.int (3 : Int32)), .val (.int (2 : Int32)), .val (.double ev1), .second, .unset, .unset, .unset, .unset] [(.int (2 : Int32)), (.ref a0)])) (fun t k => ?_) ?_
  · show Steps p.tables e below (s₁.setTop (mkF m 27 #[.val (.ref a0), .val (.int (0 : Int32)), .val (.int (4 : Int32)), .val (.double d3), .second, .val (.int (0 : Int32)), .val (.int (3 : Int32)), .val (.int (1 : Int32)), .unset, .unset, .unset, .unset, .unset, .unset] [(.int (1 : Int32)), (.ref a0)])) t
    refine X0.daload hx (j := (1 : Int32)) (v := (.double ev1)) (by rw [e0]; exact r1a.1) (State.isArrayOf_alike hZ.alike r1a.2.1) r1a.2.2 i1 y1 (g := (mkF m 27 #[.val (.ref a0), .val (.int (0 : Int32)), .val (.int (4 : Int32)), .val (.double d3), .second, .val (.int (0 : Int32)), .val (.int (3 : Int32)), .val (.int (1 : Int32)), .unset, .unset, .unset, .unset, .unset, .unset] [(.int (1 : Int32)), (.ref a0)])) rfl rfl (hb hby d7_27) _ ?_
    show Steps p.tables e below (s₁.setTop (mkF m 28 #[.val (.ref a0), .val (.int (0 : Int32)), .val (.int (4 : Int32)), .val (.double d3), .second, .val (.int (0 : Int32)), .val (.int (3 : Int32)), .val (.int (1 : Int32)), .unset, .unset, .unset, .unset, .unset, .unset] [(.double ev1)])) t
    refine XS.dstore X0.here hx rfl (hb hby d7_28) rfl (l' := #[.val (.ref a0), .val (.int (0 : Int32)), .val (.int (4 : Int32)), .val (.double d3), .second, .val (.int (0 : Int32)), .val (.int (3 : Int32)), .val (.int (1 : Int32)), .val (.double ev1), .second, .unset, .unset, .unset, .unset]) rfl ?_
    show Steps p.tables e below (s₁.setTop (mkF m 30 #[.val (.ref a0), .val (.int (0 : Int32)), .val (.int (4 : Int32)), .val (.double d3), .second, .val (.int (0 : Int32)), .val (.int (3 : Int32)), .val (.int (1 : Int32)), .val (.double ev1), .second, .unset, .unset, .unset, .unset] [])) t
    refine XS.dload X0.here hx rfl (hb hby d7_30) rfl ?_
    show Steps p.tables e below (s₁.setTop (mkF m 32 #[.val (.ref a0), .val (.int (0 : Int32)), .val (.int (4 : Int32)), .val (.double d3), .second, .val (.int (0 : Int32)), .val (.int (3 : Int32)), .val (.int (1 : Int32)), .val (.double ev1), .second, .unset, .unset, .unset, .unset] [(.double ev1)])) t
    refine XS.dloadN X0.here hx rfl (hb hby d7_32) rfl ?_
    show Steps p.tables e below (s₁.setTop (mkF m 33 #[.val (.ref a0), .val (.int (0 : Int32)), .val (.int (4 : Int32)), .val (.double d3), .second, .val (.int (0 : Int32)), .val (.int (3 : Int32)), .val (.int (1 : Int32)), .val (.double ev1), .second, .unset, .unset, .unset, .unset] [(.double d3), (.double ev1)])) t
    refine XS.dcmpS X0.here hx rfl (hb hby d7_33) rfl rfl ?_
    show Steps p.tables e below (s₁.setTop (mkF m 34 #[.val (.ref a0), .val (.int (0 : Int32)), .val (.int (4 : Int32)), .val (.double d3), .second, .val (.int (0 : Int32)), .val (.int (3 : Int32)), .val (.int (1 : Int32)), .val (.double ev1), .second, .unset, .unset, .unset, .unset] [(.int (cmpValue (FP.dcmp ev1 d3) .g))])) t
    refine XS.ifNo X0.here hx rfl (hb hby d7_34) rfl ((if0 _ _).trans (tlt (hb34 : (cmpValue (FP.dcmp ev1 d3) .g) < (0 : Int32))).2.1) ?_
    show Steps p.tables e below (s₁.setTop (mkF m 37 #[.val (.ref a0), .val (.int (0 : Int32)), .val (.int (4 : Int32)), .val (.double d3), .second, .val (.int (0 : Int32)), .val (.int (3 : Int32)), .val (.int (1 : Int32)), .val (.double ev1), .second, .unset, .unset, .unset, .unset] [])) t
    refine XS.iload X0.here hx rfl (hb hby d7_37) rfl ?_
    show Steps p.tables e below (s₁.setTop (mkF m 39 #[.val (.ref a0), .val (.int (0 : Int32)), .val (.int (4 : Int32)), .val (.double d3), .second, .val (.int (0 : Int32)), .val (.int (3 : Int32)), .val (.int (1 : Int32)), .val (.double ev1), .second, .unset, .unset, .unset, .unset] [(.int (1 : Int32))])) t
    refine XS.iconst X0.here hx rfl (hb hby d7_39) ?_
    show Steps p.tables e below (s₁.setTop (mkF m 40 #[.val (.ref a0), .val (.int (0 : Int32)), .val (.int (4 : Int32)), .val (.double d3), .second, .val (.int (0 : Int32)), .val (.int (3 : Int32)), .val (.int (1 : Int32)), .val (.double ev1), .second, .unset, .unset, .unset, .unset] [(.int (1 : Int32)), (.int (1 : Int32))])) t
    refine XS.iadd X0.here hx rfl (hb hby d7_40) rfl ?_
    show Steps p.tables e below (s₁.setTop (mkF m 41 #[.val (.ref a0), .val (.int (0 : Int32)), .val (.int (4 : Int32)), .val (.double d3), .second, .val (.int (0 : Int32)), .val (.int (3 : Int32)), .val (.int (1 : Int32)), .val (.double ev1), .second, .unset, .unset, .unset, .unset] [(.int (2 : Int32))])) t
    refine XS.istore X0.here hx rfl (hb hby d7_41) rfl (l' := #[.val (.ref a0), .val (.int (0 : Int32)), .val (.int (4 : Int32)), .val (.double d3), .second, .val (.int (2 : Int32)), .val (.int (3 : Int32)), .val (.int (1 : Int32)), .val (.double ev1), .second, .unset, .unset, .unset, .unset]) rfl ?_
    show Steps p.tables e below (s₁.setTop (mkF m 43 #[.val (.ref a0), .val (.int (0 : Int32)), .val (.int (4 : Int32)), .val (.double d3), .second, .val (.int (2 : Int32)), .val (.int (3 : Int32)), .val (.int (1 : Int32)), .val (.double ev1), .second, .unset, .unset, .unset, .unset] [])) t
    refine XS.goto X0.here hx rfl (pc0 := 43) (pc' := 109) rfl (hb hby d7_43) (by decide) (by decide) ?_
    show Steps p.tables e below (s₁.setTop (mkF m 109 #[.val (.ref a0), .val (.int (0 : Int32)), .val (.int (4 : Int32)), .val (.double d3), .second, .val (.int (2 : Int32)), .val (.int (3 : Int32)), .val (.int (1 : Int32)), .val (.double ev1), .second, .unset, .unset, .unset, .unset] [])) t
    refine XS.goto X0.here hx rfl (pc0 := 109) (pc' := 8) rfl (hb hby d7_109) (by decide) (by decide) ?_
    show Steps p.tables e below (s₁.setTop (mkF m 8 #[.val (.ref a0), .val (.int (0 : Int32)), .val (.int (4 : Int32)), .val (.double d3), .second, .val (.int (2 : Int32)), .val (.int (3 : Int32)), .val (.int (1 : Int32)), .val (.double ev1), .second, .unset, .unset, .unset, .unset] [])) t
    refine XS.iload X0.here hx rfl (hb hby d7_8) rfl ?_
    show Steps p.tables e below (s₁.setTop (mkF m 10 #[.val (.ref a0), .val (.int (0 : Int32)), .val (.int (4 : Int32)), .val (.double d3), .second, .val (.int (2 : Int32)), .val (.int (3 : Int32)), .val (.int (1 : Int32)), .val (.double ev1), .second, .unset, .unset, .unset, .unset] [(.int (2 : Int32))])) t
    refine XS.iload X0.here hx rfl (hb hby d7_10) rfl ?_
    show Steps p.tables e below (s₁.setTop (mkF m 12 #[.val (.ref a0), .val (.int (0 : Int32)), .val (.int (4 : Int32)), .val (.double d3), .second, .val (.int (2 : Int32)), .val (.int (3 : Int32)), .val (.int (1 : Int32)), .val (.double ev1), .second, .unset, .unset, .unset, .unset] [(.int (3 : Int32)), (.int (2 : Int32))])) t
    refine XS.icmpNo X0.here hx rfl (hb hby d7_12) rfl (by decide) ?_
    show Steps p.tables e below (s₁.setTop (mkF m 15 #[.val (.ref a0), .val (.int (0 : Int32)), .val (.int (4 : Int32)), .val (.double d3), .second, .val (.int (2 : Int32)), .val (.int (3 : Int32)), .val (.int (1 : Int32)), .val (.double ev1), .second, .unset, .unset, .unset, .unset] [])) t
    refine XS.iload X0.here hx rfl (hb hby d7_15) rfl ?_
    show Steps p.tables e below (s₁.setTop (mkF m 17 #[.val (.ref a0), .val (.int (0 : Int32)), .val (.int (4 : Int32)), .val (.double d3), .second, .val (.int (2 : Int32)), .val (.int (3 : Int32)), .val (.int (1 : Int32)), .val (.double ev1), .second, .unset, .unset, .unset, .unset] [(.int (2 : Int32))])) t
    refine XS.iload X0.here hx rfl (hb hby d7_17) rfl ?_
    show Steps p.tables e below (s₁.setTop (mkF m 19 #[.val (.ref a0), .val (.int (0 : Int32)), .val (.int (4 : Int32)), .val (.double d3), .second, .val (.int (2 : Int32)), .val (.int (3 : Int32)), .val (.int (1 : Int32)), .val (.double ev1), .second, .unset, .unset, .unset, .unset] [(.int (3 : Int32)), (.int (2 : Int32))])) t
    refine XS.iadd X0.here hx rfl (hb hby d7_19) rfl ?_
    show Steps p.tables e below (s₁.setTop (mkF m 20 #[.val (.ref a0), .val (.int (0 : Int32)), .val (.int (4 : Int32)), .val (.double d3), .second, .val (.int (2 : Int32)), .val (.int (3 : Int32)), .val (.int (1 : Int32)), .val (.double ev1), .second, .unset, .unset, .unset, .unset] [(.int (5 : Int32))])) t
    refine XS.iconst X0.here hx rfl (hb hby d7_20) ?_
    show Steps p.tables e below (s₁.setTop (mkF m 21 #[.val (.ref a0), .val (.int (0 : Int32)), .val (.int (4 : Int32)), .val (.double d3), .second, .val (.int (2 : Int32)), .val (.int (3 : Int32)), .val (.int (1 : Int32)), .val (.double ev1), .second, .unset, .unset, .unset, .unset] [(.int (1 : Int32)), (.int (5 : Int32))])) t
    refine XS.iushr X0.here hx rfl (hb hby d7_21) rfl ?_
    show Steps p.tables e below (s₁.setTop (mkF m 22 #[.val (.ref a0), .val (.int (0 : Int32)), .val (.int (4 : Int32)), .val (.double d3), .second, .val (.int (2 : Int32)), .val (.int (3 : Int32)), .val (.int (1 : Int32)), .val (.double ev1), .second, .unset, .unset, .unset, .unset] [(.int (2 : Int32))])) t
    refine XS.istore X0.here hx rfl (hb hby d7_22) rfl (l' := #[.val (.ref a0), .val (.int (0 : Int32)), .val (.int (4 : Int32)), .val (.double d3), .second, .val (.int (2 : Int32)), .val (.int (3 : Int32)), .val (.int (2 : Int32)), .val (.double ev1), .second, .unset, .unset, .unset, .unset]) rfl ?_
    show Steps p.tables e below (s₁.setTop (mkF m 24 #[.val (.ref a0), .val (.int (0 : Int32)), .val (.int (4 : Int32)), .val (.double d3), .second, .val (.int (2 : Int32)), .val (.int (3 : Int32)), .val (.int (2 : Int32)), .val (.double ev1), .second, .unset, .unset, .unset, .unset] [])) t
    refine XS.aloadN X0.here hx rfl (hb hby d7_24) rfl rfl ?_
    show Steps p.tables e below (s₁.setTop (mkF m 25 #[.val (.ref a0), .val (.int (0 : Int32)), .val (.int (4 : Int32)), .val (.double d3), .second, .val (.int (2 : Int32)), .val (.int (3 : Int32)), .val (.int (2 : Int32)), .val (.double ev1), .second, .unset, .unset, .unset, .unset] [(.ref a0)])) t
    refine XS.iload X0.here hx rfl (hb hby d7_25) rfl ?_
    exact k
  obtain ⟨c2, r2a, r2b, r2c, r2d, r2e, r2f⟩ := id V_a0
  have i2 : ¬ ((2 : Int32) < 0 ∨ c2.slots.size ≤ ((2 : Int32)).toNatClampNeg) := inb_of r2c ⟨by decide, by decide⟩
  have y2 : c2.slots[((2 : Int32)).toNatClampNeg]? = some (.double ev2) := r2e.at i2 rfl
  refine own_st (T' := s₁) (g' := (mkF m 27 #[.val (.ref a0), .val (.int (0 : Int32)), .val (.int (4 : Int32)), .val (.double d3), .second, .val (.int (3 : Int32)), .val (.int (3 : Int32)), .val (.int (3 : Int32)), .val (.double ev2), .second, .unset, .unset, .unset, .unset] [(.int (3 : Int32)), (.ref a0)])) (fun t k => ?_) ?_
  · show Steps p.tables e below (s₁.setTop (mkF m 27 #[.val (.ref a0), .val (.int (0 : Int32)), .val (.int (4 : Int32)), .val (.double d3), .second, .val (.int (2 : Int32)), .val (.int (3 : Int32)), .val (.int (2 : Int32)), .val (.double ev1), .second, .unset, .unset, .unset, .unset] [(.int (2 : Int32)), (.ref a0)])) t
    refine X0.daload hx (j := (2 : Int32)) (v := (.double ev2)) (by rw [e0]; exact r2a.1) (State.isArrayOf_alike hZ.alike r2a.2.1) r2a.2.2 i2 y2 (g := (mkF m 27 #[.val (.ref a0), .val (.int (0 : Int32)), .val (.int (4 : Int32)), .val (.double d3), .second, .val (.int (2 : Int32)), .val (.int (3 : Int32)), .val (.int (2 : Int32)), .val (.double ev1), .second, .unset, .unset, .unset, .unset] [(.int (2 : Int32)), (.ref a0)])) rfl rfl (hb hby d7_27) _ ?_
    show Steps p.tables e below (s₁.setTop (mkF m 28 #[.val (.ref a0), .val (.int (0 : Int32)), .val (.int (4 : Int32)), .val (.double d3), .second, .val (.int (2 : Int32)), .val (.int (3 : Int32)), .val (.int (2 : Int32)), .val (.double ev1), .second, .unset, .unset, .unset, .unset] [(.double ev2)])) t
    refine XS.dstore X0.here hx rfl (hb hby d7_28) rfl (l' := #[.val (.ref a0), .val (.int (0 : Int32)), .val (.int (4 : Int32)), .val (.double d3), .second, .val (.int (2 : Int32)), .val (.int (3 : Int32)), .val (.int (2 : Int32)), .val (.double ev2), .second, .unset, .unset, .unset, .unset]) rfl ?_
    show Steps p.tables e below (s₁.setTop (mkF m 30 #[.val (.ref a0), .val (.int (0 : Int32)), .val (.int (4 : Int32)), .val (.double d3), .second, .val (.int (2 : Int32)), .val (.int (3 : Int32)), .val (.int (2 : Int32)), .val (.double ev2), .second, .unset, .unset, .unset, .unset] [])) t
    refine XS.dload X0.here hx rfl (hb hby d7_30) rfl ?_
    show Steps p.tables e below (s₁.setTop (mkF m 32 #[.val (.ref a0), .val (.int (0 : Int32)), .val (.int (4 : Int32)), .val (.double d3), .second, .val (.int (2 : Int32)), .val (.int (3 : Int32)), .val (.int (2 : Int32)), .val (.double ev2), .second, .unset, .unset, .unset, .unset] [(.double ev2)])) t
    refine XS.dloadN X0.here hx rfl (hb hby d7_32) rfl ?_
    show Steps p.tables e below (s₁.setTop (mkF m 33 #[.val (.ref a0), .val (.int (0 : Int32)), .val (.int (4 : Int32)), .val (.double d3), .second, .val (.int (2 : Int32)), .val (.int (3 : Int32)), .val (.int (2 : Int32)), .val (.double ev2), .second, .unset, .unset, .unset, .unset] [(.double d3), (.double ev2)])) t
    refine XS.dcmpS X0.here hx rfl (hb hby d7_33) rfl rfl ?_
    show Steps p.tables e below (s₁.setTop (mkF m 34 #[.val (.ref a0), .val (.int (0 : Int32)), .val (.int (4 : Int32)), .val (.double d3), .second, .val (.int (2 : Int32)), .val (.int (3 : Int32)), .val (.int (2 : Int32)), .val (.double ev2), .second, .unset, .unset, .unset, .unset] [(.int (cmpValue (FP.dcmp ev2 d3) .g))])) t
    refine XS.ifNo X0.here hx rfl (hb hby d7_34) rfl ((if0 _ _).trans (tlt (hb34_1 : (cmpValue (FP.dcmp ev2 d3) .g) < (0 : Int32))).2.1) ?_
    show Steps p.tables e below (s₁.setTop (mkF m 37 #[.val (.ref a0), .val (.int (0 : Int32)), .val (.int (4 : Int32)), .val (.double d3), .second, .val (.int (2 : Int32)), .val (.int (3 : Int32)), .val (.int (2 : Int32)), .val (.double ev2), .second, .unset, .unset, .unset, .unset] [])) t
    refine XS.iload X0.here hx rfl (hb hby d7_37) rfl ?_
    show Steps p.tables e below (s₁.setTop (mkF m 39 #[.val (.ref a0), .val (.int (0 : Int32)), .val (.int (4 : Int32)), .val (.double d3), .second, .val (.int (2 : Int32)), .val (.int (3 : Int32)), .val (.int (2 : Int32)), .val (.double ev2), .second, .unset, .unset, .unset, .unset] [(.int (2 : Int32))])) t
    refine XS.iconst X0.here hx rfl (hb hby d7_39) ?_
    show Steps p.tables e below (s₁.setTop (mkF m 40 #[.val (.ref a0), .val (.int (0 : Int32)), .val (.int (4 : Int32)), .val (.double d3), .second, .val (.int (2 : Int32)), .val (.int (3 : Int32)), .val (.int (2 : Int32)), .val (.double ev2), .second, .unset, .unset, .unset, .unset] [(.int (1 : Int32)), (.int (2 : Int32))])) t
    refine XS.iadd X0.here hx rfl (hb hby d7_40) rfl ?_
    show Steps p.tables e below (s₁.setTop (mkF m 41 #[.val (.ref a0), .val (.int (0 : Int32)), .val (.int (4 : Int32)), .val (.double d3), .second, .val (.int (2 : Int32)), .val (.int (3 : Int32)), .val (.int (2 : Int32)), .val (.double ev2), .second, .unset, .unset, .unset, .unset] [(.int (3 : Int32))])) t
    refine XS.istore X0.here hx rfl (hb hby d7_41) rfl (l' := #[.val (.ref a0), .val (.int (0 : Int32)), .val (.int (4 : Int32)), .val (.double d3), .second, .val (.int (3 : Int32)), .val (.int (3 : Int32)), .val (.int (2 : Int32)), .val (.double ev2), .second, .unset, .unset, .unset, .unset]) rfl ?_
    show Steps p.tables e below (s₁.setTop (mkF m 43 #[.val (.ref a0), .val (.int (0 : Int32)), .val (.int (4 : Int32)), .val (.double d3), .second, .val (.int (3 : Int32)), .val (.int (3 : Int32)), .val (.int (2 : Int32)), .val (.double ev2), .second, .unset, .unset, .unset, .unset] [])) t
    refine XS.goto X0.here hx rfl (pc0 := 43) (pc' := 109) rfl (hb hby d7_43) (by decide) (by decide) ?_
    show Steps p.tables e below (s₁.setTop (mkF m 109 #[.val (.ref a0), .val (.int (0 : Int32)), .val (.int (4 : Int32)), .val (.double d3), .second, .val (.int (3 : Int32)), .val (.int (3 : Int32)), .val (.int (2 : Int32)), .val (.double ev2), .second, .unset, .unset, .unset, .unset] [])) t
    refine XS.goto X0.here hx rfl (pc0 := 109) (pc' := 8) rfl (hb hby d7_109) (by decide) (by decide) ?_
    show Steps p.tables e below (s₁.setTop (mkF m 8 #[.val (.ref a0), .val (.int (0 : Int32)), .val (.int (4 : Int32)), .val (.double d3), .second, .val (.int (3 : Int32)), .val (.int (3 : Int32)), .val (.int (2 : Int32)), .val (.double ev2), .second, .unset, .unset, .unset, .unset] [])) t
    refine XS.iload X0.here hx rfl (hb hby d7_8) rfl ?_
    show Steps p.tables e below (s₁.setTop (mkF m 10 #[.val (.ref a0), .val (.int (0 : Int32)), .val (.int (4 : Int32)), .val (.double d3), .second, .val (.int (3 : Int32)), .val (.int (3 : Int32)), .val (.int (2 : Int32)), .val (.double ev2), .second, .unset, .unset, .unset, .unset] [(.int (3 : Int32))])) t
    refine XS.iload X0.here hx rfl (hb hby d7_10) rfl ?_
    show Steps p.tables e below (s₁.setTop (mkF m 12 #[.val (.ref a0), .val (.int (0 : Int32)), .val (.int (4 : Int32)), .val (.double d3), .second, .val (.int (3 : Int32)), .val (.int (3 : Int32)), .val (.int (2 : Int32)), .val (.double ev2), .second, .unset, .unset, .unset, .unset] [(.int (3 : Int32)), (.int (3 : Int32))])) t
    refine XS.icmpNo X0.here hx rfl (hb hby d7_12) rfl (by decide) ?_
    show Steps p.tables e below (s₁.setTop (mkF m 15 #[.val (.ref a0), .val (.int (0 : Int32)), .val (.int (4 : Int32)), .val (.double d3), .second, .val (.int (3 : Int32)), .val (.int (3 : Int32)), .val (.int (2 : Int32)), .val (.double ev2), .second, .unset, .unset, .unset, .unset] [])) t
    refine XS.iload X0.here hx rfl (hb hby d7_15) rfl ?_
    show Steps p.tables e below (s₁.setTop (mkF m 17 #[.val (.ref a0), .val (.int (0 : Int32)), .val (.int (4 : Int32)), .val (.double d3), .second, .val (.int (3 : Int32)), .val (.int (3 : Int32)), .val (.int (2 : Int32)), .val (.double ev2), .second, .unset, .unset, .unset, .unset] [(.int (3 : Int32))])) t
    refine XS.iload X0.here hx rfl (hb hby d7_17) rfl ?_
    show Steps p.tables e below (s₁.setTop (mkF m 19 #[.val (.ref a0), .val (.int (0 : Int32)), .val (.int (4 : Int32)), .val (.double d3), .second, .val (.int (3 : Int32)), .val (.int (3 : Int32)), .val (.int (2 : Int32)), .val (.double ev2), .second, .unset, .unset, .unset, .unset] [(.int (3 : Int32)), (.int (3 : Int32))])) t
    refine XS.iadd X0.here hx rfl (hb hby d7_19) rfl ?_
    show Steps p.tables e below (s₁.setTop (mkF m 20 #[.val (.ref a0), .val (.int (0 : Int32)), .val (.int (4 : Int32)), .val (.double d3), .second, .val (.int (3 : Int32)), .val (.int (3 : Int32)), .val (.int (2 : Int32)), .val (.double ev2), .second, .unset, .unset, .unset, .unset] [(.int (6 : Int32))])) t
    refine XS.iconst X0.here hx rfl (hb hby d7_20) ?_
    show Steps p.tables e below (s₁.setTop (mkF m 21 #[.val (.ref a0), .val (.int (0 : Int32)), .val (.int (4 : Int32)), .val (.double d3), .second, .val (.int (3 : Int32)), .val (.int (3 : Int32)), .val (.int (2 : Int32)), .val (.double ev2), .second, .unset, .unset, .unset, .unset] [(.int (1 : Int32)), (.int (6 : Int32))])) t
    refine XS.iushr X0.here hx rfl (hb hby d7_21) rfl ?_
    show Steps p.tables e below (s₁.setTop (mkF m 22 #[.val (.ref a0), .val (.int (0 : Int32)), .val (.int (4 : Int32)), .val (.double d3), .second, .val (.int (3 : Int32)), .val (.int (3 : Int32)), .val (.int (2 : Int32)), .val (.double ev2), .second, .unset, .unset, .unset, .unset] [(.int (3 : Int32))])) t
    refine XS.istore X0.here hx rfl (hb hby d7_22) rfl (l' := #[.val (.ref a0), .val (.int (0 : Int32)), .val (.int (4 : Int32)), .val (.double d3), .second, .val (.int (3 : Int32)), .val (.int (3 : Int32)), .val (.int (3 : Int32)), .val (.double ev2), .second, .unset, .unset, .unset, .unset]) rfl ?_
    show Steps p.tables e below (s₁.setTop (mkF m 24 #[.val (.ref a0), .val (.int (0 : Int32)), .val (.int (4 : Int32)), .val (.double d3), .second, .val (.int (3 : Int32)), .val (.int (3 : Int32)), .val (.int (3 : Int32)), .val (.double ev2), .second, .unset, .unset, .unset, .unset] [])) t
    refine XS.aloadN X0.here hx rfl (hb hby d7_24) rfl rfl ?_
    show Steps p.tables e below (s₁.setTop (mkF m 25 #[.val (.ref a0), .val (.int (0 : Int32)), .val (.int (4 : Int32)), .val (.double d3), .second, .val (.int (3 : Int32)), .val (.int (3 : Int32)), .val (.int (3 : Int32)), .val (.double ev2), .second, .unset, .unset, .unset, .unset] [(.ref a0)])) t
    refine XS.iload X0.here hx rfl (hb hby d7_25) rfl ?_
    exact k
  obtain ⟨c3, r3a, r3b, r3c, r3d, r3e, r3f⟩ := id V_a0
  have i3 : ¬ ((3 : Int32) < 0 ∨ c3.slots.size ≤ ((3 : Int32)).toNatClampNeg) := inb_of r3c ⟨by decide, by decide⟩
  have y3 : c3.slots[((3 : Int32)).toNatClampNeg]? = some (.double ev3) := r3e.at i3 rfl
  refine own_st (T' := s₁) (g' := (mkF m 64 #[.val (.ref a0), .val (.int (0 : Int32)), .val (.int (4 : Int32)), .val (.double d3), .second, .val (.int (3 : Int32)), .val (.int (3 : Int32)), .val (.int (3 : Int32)), .val (.double ev3), .second, .unset, .unset, .unset, .unset] [(.double ev3)])) (fun t k => ?_) ?_
  · show Steps p.tables e below (s₁.setTop (mkF m 27 #[.val (.ref a0), .val (.int (0 : Int32)), .val (.int (4 : Int32)), .val (.double d3), .second, .val (.int (3 : Int32)), .val (.int (3 : Int32)), .val (.int (3 : Int32)), .val (.double ev2), .second, .unset, .unset, .unset, .unset] [(.int (3 : Int32)), (.ref a0)])) t
    refine X0.daload hx (j := (3 : Int32)) (v := (.double ev3)) (by rw [e0]; exact r3a.1) (State.isArrayOf_alike hZ.alike r3a.2.1) r3a.2.2 i3 y3 (g := (mkF m 27 #[.val (.ref a0), .val (.int (0 : Int32)), .val (.int (4 : Int32)), .val (.double d3), .second, .val (.int (3 : Int32)), .val (.int (3 : Int32)), .val (.int (3 : Int32)), .val (.double ev2), .second, .unset, .unset, .unset, .unset] [(.int (3 : Int32)), (.ref a0)])) rfl rfl (hb hby d7_27) _ ?_
    show Steps p.tables e below (s₁.setTop (mkF m 28 #[.val (.ref a0), .val (.int (0 : Int32)), .val (.int (4 : Int32)), .val (.double d3), .second, .val (.int (3 : Int32)), .val (.int (3 : Int32)), .val (.int (3 : Int32)), .val (.double ev2), .second, .unset, .unset, .unset, .unset] [(.double ev3)])) t
    refine XS.dstore X0.here hx rfl (hb hby d7_28) rfl (l' := #[.val (.ref a0), .val (.int (0 : Int32)), .val (.int (4 : Int32)), .val (.double d3), .second, .val (.int (3 : Int32)), .val (.int (3 : Int32)), .val (.int (3 : Int32)), .val (.double ev3), .second, .unset, .unset, .unset, .unset]) rfl ?_
    show Steps p.tables e below (s₁.setTop (mkF m 30 #[.val (.ref a0), .val (.int (0 : Int32)), .val (.int (4 : Int32)), .val (.double d3), .second, .val (.int (3 : Int32)), .val (.int (3 : Int32)), .val (.int (3 : Int32)), .val (.double ev3), .second, .unset, .unset, .unset, .unset] [])) t
    refine XS.dload X0.here hx rfl (hb hby d7_30) rfl ?_
    show Steps p.tables e below (s₁.setTop (mkF m 32 #[.val (.ref a0), .val (.int (0 : Int32)), .val (.int (4 : Int32)), .val (.double d3), .second, .val (.int (3 : Int32)), .val (.int (3 : Int32)), .val (.int (3 : Int32)), .val (.double ev3), .second, .unset, .unset, .unset, .unset] [(.double ev3)])) t
    refine XS.dloadN X0.here hx rfl (hb hby d7_32) rfl ?_
    show Steps p.tables e below (s₁.setTop (mkF m 33 #[.val (.ref a0), .val (.int (0 : Int32)), .val (.int (4 : Int32)), .val (.double d3), .second, .val (.int (3 : Int32)), .val (.int (3 : Int32)), .val (.int (3 : Int32)), .val (.double ev3), .second, .unset, .unset, .unset, .unset] [(.double d3), (.double ev3)])) t
    refine XS.dcmpS X0.here hx rfl (hb hby d7_33) rfl rfl ?_
    show Steps p.tables e below (s₁.setTop (mkF m 34 #[.val (.ref a0), .val (.int (0 : Int32)), .val (.int (4 : Int32)), .val (.double d3), .second, .val (.int (3 : Int32)), .val (.int (3 : Int32)), .val (.int (3 : Int32)), .val (.double ev3), .second, .unset, .unset, .unset, .unset] [(.int (cmpValue (FP.dcmp ev3 d3) .g))])) t
    refine XS.ifYes X0.here hx rfl (pc0 := 34) (pc' := 46) rfl (hb hby d7_34) rfl ((if0 _ _).trans (flt (hb34_2 : ¬ ((cmpValue (FP.dcmp ev3 d3) .g) < (0 : Int32)))).2.1) (by decide) (by decide) ?_
    show Steps p.tables e below (s₁.setTop (mkF m 46 #[.val (.ref a0), .val (.int (0 : Int32)), .val (.int (4 : Int32)), .val (.double d3), .second, .val (.int (3 : Int32)), .val (.int (3 : Int32)), .val (.int (3 : Int32)), .val (.double ev3), .second, .unset, .unset, .unset, .unset] [])) t
    refine XS.dload X0.here hx rfl (hb hby d7_46) rfl ?_
    show Steps p.tables e below (s₁.setTop (mkF m 48 #[.val (.ref a0), .val (.int (0 : Int32)), .val (.int (4 : Int32)), .val (.double d3), .second, .val (.int (3 : Int32)), .val (.int (3 : Int32)), .val (.int (3 : Int32)), .val (.double ev3), .second, .unset, .unset, .unset, .unset] [(.double ev3)])) t
    refine XS.dloadN X0.here hx rfl (hb hby d7_48) rfl ?_
    show Steps p.tables e below (s₁.setTop (mkF m 49 #[.val (.ref a0), .val (.int (0 : Int32)), .val (.int (4 : Int32)), .val (.double d3), .second, .val (.int (3 : Int32)), .val (.int (3 : Int32)), .val (.int (3 : Int32)), .val (.double ev3), .second, .unset, .unset, .unset, .unset] [(.double d3), (.double ev3)])) t
    refine XS.dcmpS X0.here hx rfl (hb hby d7_49) rfl rfl ?_
    show Steps p.tables e below (s₁.setTop (mkF m 50 #[.val (.ref a0), .val (.int (0 : Int32)), .val (.int (4 : Int32)), .val (.double d3), .second, .val (.int (3 : Int32)), .val (.int (3 : Int32)), .val (.int (3 : Int32)), .val (.double ev3), .second, .unset, .unset, .unset, .unset] [(.int (cmpValue (FP.dcmp ev3 d3) .l))])) t
    refine XS.ifYes X0.here hx rfl (pc0 := 50) (pc' := 62) rfl (hb hby d7_50) rfl ((if0 _ _).trans (flt (hb50 : ¬ ((0 : Int32) < (cmpValue (FP.dcmp ev3 d3) .l)))).2.2.2) (by decide) (by decide) ?_
    show Steps p.tables e below (s₁.setTop (mkF m 62 #[.val (.ref a0), .val (.int (0 : Int32)), .val (.int (4 : Int32)), .val (.double d3), .second, .val (.int (3 : Int32)), .val (.int (3 : Int32)), .val (.int (3 : Int32)), .val (.double ev3), .second, .unset, .unset, .unset, .unset] [])) t
    refine XS.dload X0.here hx rfl (hb hby d7_62) rfl ?_
    exact k
  obtain ⟨_, _, ⟨T4, L4, k4, n4⟩, -, X4, ⟨Lc4, hQ4, l4, y4, z4⟩, st4⟩ := Jvm.LawKit.callS X0 hx (y := (⟨"java/lang/Double", "doubleToLongBits", "(D)J"⟩ : MethodName)) hown (mvT hZ (hw _ (List.mem_of_getElem? (i := 45) rfl))) (mvT hZ (hw _ (List.mem_of_getElem? (i := 46) rfl))) (mvT hZ (hw _ (List.mem_of_getElem? (i := 13) rfl))) (mvT hZ (hw _ (List.mem_of_getElem? (i := 47) rfl))) (by decide) (backOf (W := 0) (rm8 l Z ar hw [] ev3 h0 n0 Z0 h64_h1_hq_0) hZ (hw _ (List.mem_of_getElem? (i := 47) rfl)) (hw _ (List.mem_of_getElem? (i := 13) rfl)) (by decide) (by decide)) (g := (mkF m 64 #[.val (.ref a0), .val (.int (0 : Int32)), .val (.int (4 : Int32)), .val (.double d3), .second, .val (.int (3 : Int32)), .val (.int (3 : Int32)), .val (.int (3 : Int32)), .val (.double ev3), .second, .unset, .unset, .unset, .unset] [(.double ev3)])) rfl (by rw [hml]; rfl) (argsL := [(.double ev3)]) (rest := []) (lenOf pdslle_0 rfl) rfl (by show 2 * 0 + _ ≤ _; exact Nat.le_of_eq rfl) (hb hby d7_64) (fun _ _ => ⟨rfl, e0, (by decide : 0 + 0 ≤ _), (by decide : 0 + 0 ≤ _)⟩)
  dsimp only [Pt.U, Pt.locs, Pt.cells, Pt.slots] at X4 l4 y4 z4 st4 hQ4
  subst l4 y4 z4
  obtain ⟨rfl, N4q, e4⟩ := hQ4
  have n5 := Fr.app N0 N4q
  refine own_st (T' := T4) (g' := (mkF m 67 #[.val (.ref a0), .val (.int (0 : Int32)), .val (.int (4 : Int32)), .val (.double d3), .second, .val (.int (3 : Int32)), .val (.int (3 : Int32)), .val (.int (3 : Int32)), .val (.double ev3), .second, .unset, .unset, .unset, .unset] [(.long ev3.toInt64)])) st4 ?_
  refine own_st (T' := T4) (g' := (mkF m 70 #[.val (.ref a0), .val (.int (0 : Int32)), .val (.int (4 : Int32)), .val (.double d3), .second, .val (.int (3 : Int32)), .val (.int (3 : Int32)), .val (.int (3 : Int32)), .val (.double ev3), .second, .val (.long ev3.toInt64), .second, .unset, .unset] [(.double d3)])) (fun t k => ?_) ?_
  · show Steps p.tables e below (T4.setTop (mkF m 67 #[.val (.ref a0), .val (.int (0 : Int32)), .val (.int (4 : Int32)), .val (.double d3), .second, .val (.int (3 : Int32)), .val (.int (3 : Int32)), .val (.int (3 : Int32)), .val (.double ev3), .second, .unset, .unset, .unset, .unset] [(.long ev3.toInt64)])) t
    refine XS.lstore X4.here hx rfl (hb hby d7_67) rfl (l' := #[.val (.ref a0), .val (.int (0 : Int32)), .val (.int (4 : Int32)), .val (.double d3), .second, .val (.int (3 : Int32)), .val (.int (3 : Int32)), .val (.int (3 : Int32)), .val (.double ev3), .second, .val (.long ev3.toInt64), .second, .unset, .unset]) rfl ?_
    show Steps p.tables e below (T4.setTop (mkF m 69 #[.val (.ref a0), .val (.int (0 : Int32)), .val (.int (4 : Int32)), .val (.double d3), .second, .val (.int (3 : Int32)), .val (.int (3 : Int32)), .val (.int (3 : Int32)), .val (.double ev3), .second, .val (.long ev3.toInt64), .second, .unset, .unset] [])) t
    refine XS.dloadN X4.here hx rfl (hb hby d7_69) rfl ?_
    exact k
  obtain ⟨_, _, ⟨T6, L6, k6, n6⟩, -, X6, ⟨Lc6, hQ6, l6, y6, z6⟩, st6⟩ := Jvm.LawKit.callS X4 hx (y := (⟨"java/lang/Double", "doubleToLongBits", "(D)J"⟩ : MethodName)) hown (mvT hZ (hw _ (List.mem_of_getElem? (i := 45) rfl))) (mvT hZ (hw _ (List.mem_of_getElem? (i := 46) rfl))) (mvT hZ (hw _ (List.mem_of_getElem? (i := 13) rfl))) (mvT hZ (hw _ (List.mem_of_getElem? (i := 47) rfl))) (by decide) (backOf (W := 0) (rm8 l Z ar hw [] d3 h0 n0 Z0 h70_h1_hq_0) hZ (hw _ (List.mem_of_getElem? (i := 47) rfl)) (hw _ (List.mem_of_getElem? (i := 13) rfl)) (by decide) (by decide)) (g := (mkF m 70 #[.val (.ref a0), .val (.int (0 : Int32)), .val (.int (4 : Int32)), .val (.double d3), .second, .val (.int (3 : Int32)), .val (.int (3 : Int32)), .val (.int (3 : Int32)), .val (.double ev3), .second, .val (.long ev3.toInt64), .second, .unset, .unset] [(.double d3)])) rfl (by rw [hml]; rfl) (argsL := [(.double d3)]) (rest := []) (lenOf pdslle_0 rfl) rfl (by show 2 * 0 + _ ≤ _; exact Nat.le_of_eq rfl) (hb hby d7_70) (fun _ _ => ⟨rfl, e4, (by decide : 0 + 0 ≤ _), (by decide : 0 + 0 ≤ _)⟩)
  dsimp only [Pt.U, Pt.locs, Pt.cells, Pt.slots] at X6 l6 y6 z6 st6 hQ6
  subst l6 y6 z6
  obtain ⟨rfl, N6q, e6⟩ := hQ6
  have n7 := Fr.app n5 N6q
  refine own_st (T' := T6) (g' := (mkF m 73 #[.val (.ref a0), .val (.int (0 : Int32)), .val (.int (4 : Int32)), .val (.double d3), .second, .val (.int (3 : Int32)), .val (.int (3 : Int32)), .val (.int (3 : Int32)), .val (.double ev3), .second, .val (.long ev3.toInt64), .second, .unset, .unset] [(.long d3.toInt64)])) st6 ?_
  refine own_st (T' := T6) (g' := (mkF m 85 #[.val (.ref a0), .val (.int (0 : Int32)), .val (.int (4 : Int32)), .val (.double d3), .second, .val (.int (3 : Int32)), .val (.int (3 : Int32)), .val (.int (3 : Int32)), .val (.double ev3), .second, .val (.long ev3.toInt64), .second, .val (.long d3.toInt64), .second] [(.int (3 : Int32))])) (fun t k => ?_) ?_
  · show Steps p.tables e below (T6.setTop (mkF m 73 #[.val (.ref a0), .val (.int (0 : Int32)), .val (.int (4 : Int32)), .val (.double d3), .second, .val (.int (3 : Int32)), .val (.int (3 : Int32)), .val (.int (3 : Int32)), .val (.double ev3), .second, .val (.long ev3.toInt64), .second, .unset, .unset] [(.long d3.toInt64)])) t
    refine XS.lstore X6.here hx rfl (hb hby d7_73) rfl (l' := #[.val (.ref a0), .val (.int (0 : Int32)), .val (.int (4 : Int32)), .val (.double d3), .second, .val (.int (3 : Int32)), .val (.int (3 : Int32)), .val (.int (3 : Int32)), .val (.double ev3), .second, .val (.long ev3.toInt64), .second, .val (.long d3.toInt64), .second]) rfl ?_
    show Steps p.tables e below (T6.setTop (mkF m 75 #[.val (.ref a0), .val (.int (0 : Int32)), .val (.int (4 : Int32)), .val (.double d3), .second, .val (.int (3 : Int32)), .val (.int (3 : Int32)), .val (.int (3 : Int32)), .val (.double ev3), .second, .val (.long ev3.toInt64), .second, .val (.long d3.toInt64), .second] [])) t
    refine XS.lload X6.here hx rfl (hb hby d7_75) rfl ?_
    show Steps p.tables e below (T6.setTop (mkF m 77 #[.val (.ref a0), .val (.int (0 : Int32)), .val (.int (4 : Int32)), .val (.double d3), .second, .val (.int (3 : Int32)), .val (.int (3 : Int32)), .val (.int (3 : Int32)), .val (.double ev3), .second, .val (.long ev3.toInt64), .second, .val (.long d3.toInt64), .second] [(.long ev3.toInt64)])) t
    refine XS.lload X6.here hx rfl (hb hby d7_77) rfl ?_
    show Steps p.tables e below (T6.setTop (mkF m 79 #[.val (.ref a0), .val (.int (0 : Int32)), .val (.int (4 : Int32)), .val (.double d3), .second, .val (.int (3 : Int32)), .val (.int (3 : Int32)), .val (.int (3 : Int32)), .val (.double ev3), .second, .val (.long ev3.toInt64), .second, .val (.long d3.toInt64), .second] [(.long d3.toInt64), (.long ev3.toInt64)])) t
    refine XS.lcmp X6.here hx rfl (hb hby d7_79) rfl ?_
    show Steps p.tables e below (T6.setTop (mkF m 80 #[.val (.ref a0), .val (.int (0 : Int32)), .val (.int (4 : Int32)), .val (.double d3), .second, .val (.int (3 : Int32)), .val (.int (3 : Int32)), .val (.int (3 : Int32)), .val (.double ev3), .second, .val (.long ev3.toInt64), .second, .val (.long d3.toInt64), .second] [(.int (lcmpW ev3.toInt64 d3.toInt64))])) t
    refine XS.ifNo X6.here hx rfl (hb hby d7_80) rfl ((if0 _ _).trans (teq ((lw_eq ev3.toInt64 d3.toInt64).mpr (hb80 : ev3.toInt64 = d3.toInt64))).2) ?_
    show Steps p.tables e below (T6.setTop (mkF m 83 #[.val (.ref a0), .val (.int (0 : Int32)), .val (.int (4 : Int32)), .val (.double d3), .second, .val (.int (3 : Int32)), .val (.int (3 : Int32)), .val (.int (3 : Int32)), .val (.double ev3), .second, .val (.long ev3.toInt64), .second, .val (.long d3.toInt64), .second] [])) t
    refine XS.iload X6.here hx rfl (hb hby d7_83) rfl ?_
    exact k
  refine own_retI X6 hx hlk Bd.returns (hb hby d7_85) (by decide) (by decide) ?_
  show Qslle Z a0 d3 kk_a0 ev0 ev1 ev2 ev3 h0 n0 (some (.int (3 : Int32))) T6.heap _
  rw [(e6 : T6.heap = h0)]
  exact ⟨rfl, n7, rfl⟩
theorem pntlle : plainName "java/util/Arrays" = true := by first | (simp [plainName, overriddenIn]; done) | decide +kernel
theorem pdtlle_0 : parseMethodDescriptor "([DIID)I" = some ⟨[(.array .double), .int, .int, .double], some .int⟩ := by decide +kernel
theorem eftlle (m : MethodId) (a0 : Addr) (d1 : UInt64) : entryFrame m #[(.ref a0), (.double d1)] 3 = mkF m 0 #[.val (.ref a0), .val (.double d1), .second] [] := by first | (simp [entryFrame, mkF, argsToLocals, Value.category]; done) | rfl
def Qtlle (Z : State) (a0 : Addr) (d1 : UInt64) (kk_a0 : ClassId) (ev0 : UInt64) (ev1 : UInt64) (ev2 : UInt64) (ev3 : UInt64) (h0 : Heap) (n0 : Nat) (v : Option Value) (h : Heap) (L : List Loc) : Prop := v = some (.int (3 : Int32)) ∧ Fr n0 L ∧ h = h0
set_option maxRecDepth 65536 in
set_option maxHeartbeats 40000000 in
theorem rmtlle (l : Launch) (Z : State) (ar : Array Value) (hw : ∀ d ∈ tables_1, d.before ar Z = true) (ws : List Jvm.Cond) (a0 : Addr) (d1 : UInt64) (kk_a0 : ClassId) (ev0 : UInt64) (ev1 : UInt64) (ev2 : UInt64) (ev3 : UInt64) (h0 : Heap) (n0 : Nat) (Z0 : n0 ≤ h0.size) (V_a0 : Arv Z h0 a0 kk_a0 .double (4 : Int32) [(.double ev0), (.double ev1), (.double ev2), (.double ev3)] (.double (0 : UInt64))) (h5_hb34 : (cmpValue (FP.dcmp ev1 d1) .g) < (0 : Int32)) (h5_hb34_1 : (cmpValue (FP.dcmp ev2 d1) .g) < (0 : Int32)) (h5_hb34_2 : ¬ ((cmpValue (FP.dcmp ev3 d1) .g) < (0 : Int32))) (h5_hb50 : ¬ ((0 : Int32) < (cmpValue (FP.dcmp ev3 d1) .l))) (h5_h64_h1_hq_0 : (cmpValue (FP.dcmp ev3 ev3) .l) = (0 : Int32)) (h5_h70_h1_hq_0 : (cmpValue (FP.dcmp d1 d1) .l) = (0 : Int32)) (h5_hb80 : ev3.toInt64 = d1.toInt64) :
    MetFree l (⟨"java/util/Arrays", "binarySearch", "([DD)I"⟩ : MethodName) (head1 (Jvm.Cond.code (⟨"java/util/Arrays", "binarySearch", "([DD)I"⟩ : MethodName) jdk_65_method_69_code 3 (some .int) :: ws) ({ frames := 3, cells := 0, slots := 0, locals := 53 } : Room)) (fun a U => a = #[(.ref a0), (.double d1)] ∧ Z.Warmed39 U.vm ∧ U.heap = h0) (fun _ _ _ _ _ => True) (fun _ U o U' => ∃ v L, o = .returned v ∧ Qtlle Z a0 d1 kk_a0 ev0 ev1 ev2 ev3 h0 n0 v U'.heap L ∧ FrameEnd U o U' L ({ frames := 3, cells := 0, slots := 0, locals := 53 } : Room).cells ({ frames := 3, cells := 0, slots := 0, locals := 53 } : Room).slots) := by
  refine MetFree.of_bodySF (plainFor_of_name pntlle) hisR ?_
  intro p e s m args below meth c s₁ Bd hml0 hP hK
  obtain ⟨rfl, hZ, hh⟩ := hP
  have hx := Bd.exec
  have hby := Bd.bytes
  have hlk := Bd.notSynchronized
  have hml : c.maxLocals = 3 := hml0
  have hown : s.vm.findClass "java/util/Arrays" = some m.cls := findClass_of_methodNamed Bd.named
  have hnm := (name_of_methodNamed Bd.named Bd.method).1
  have X0 : Stand p l e ({ frames := 3, cells := 0, slots := 0, locals := 53 } : Room) s m #[(.ref a0), (.double d1)] below meth c s₁ [] 0 0 := Stand.of_body Bd
  have e0 : s₁.heap = h0 := by rw [← hh, Bd.state]; rfl
  have N0 := Fr.nil n0
  have K0 := Keep.refl h0 []
  refine own_enter (Q := Qtlle Z a0 d1 kk_a0 ev0 ev1 ev2 ev3 h0 n0) (eftlle m a0 d1) ?_
  refine own_st (T' := s₁) (g' := (mkF m 3 #[.val (.ref a0), .val (.double d1), .second] [(.ref a0), (.int (0 : Int32)), (.ref a0)])) (fun t k => ?_) ?_
  · show Steps p.tables e below (s₁.setTop (mkF m 0 #[.val (.ref a0), .val (.double d1), .second] [])) t
    refine XS.aloadN X0.here hx rfl (hb hby d6_0) rfl rfl ?_
    refine XS.iconst X0.here hx rfl (hb hby d6_1) ?_
    refine XS.aloadN X0.here hx rfl (hb hby d6_2) rfl rfl ?_
    exact k
  obtain ⟨c1, r1a, -, r1c, r1d, -, -⟩ := id V_a0
  refine own_st (T' := s₁) (g' := (mkF m 5 #[.val (.ref a0), .val (.double d1), .second] [(.double d1), (.int (4 : Int32)), (.int (0 : Int32)), (.ref a0)])) (fun t k => ?_) ?_
  · show Steps p.tables e below (s₁.setTop (mkF m 3 #[.val (.ref a0), .val (.double d1), .second] [(.ref a0), (.int (0 : Int32)), (.ref a0)])) t
    refine X0.arraylength hx (by rw [e0]; exact r1a.1) (State.isArrayOf_alike hZ.alike r1a.2.1) (g := (mkF m 3 #[.val (.ref a0), .val (.double d1), .second] [(.ref a0), (.int (0 : Int32)), (.ref a0)])) rfl rfl (hb hby d6_3) _ ?_
    rw [len_of r1c r1d]
    refine XS.dloadN X0.here hx rfl (hb hby d6_4) rfl ?_
    exact k
  obtain ⟨_, _, ⟨T2, L2, k2, n2⟩, -, X2, ⟨Lc2, hQ2, l2, y2, z2⟩, st2⟩ := Jvm.LawKit.callS X0 hx (y := (⟨"java/util/Arrays", "binarySearch0", "([DIID)I"⟩ : MethodName)) hown (mvT hZ (hw _ (List.mem_of_getElem? (i := 42) rfl))) (mvT hZ (hw _ (List.mem_of_getElem? (i := 43) rfl))) (mvT hZ (hw _ (List.mem_of_getElem? (i := 40) rfl))) (mvT hZ (hw _ (List.mem_of_getElem? (i := 44) rfl))) (by decide) (backOf (W := 0) (rmslle l Z ar hw [] a0 d1 kk_a0 ev0 ev1 ev2 ev3 h0 n0 Z0 V_a0 h5_hb34 h5_hb34_1 h5_hb34_2 h5_hb50 h5_h64_h1_hq_0 h5_h70_h1_hq_0 h5_hb80) hZ (hw _ (List.mem_of_getElem? (i := 44) rfl)) (hw _ (List.mem_of_getElem? (i := 40) rfl)) (by decide) (by decide)) (g := (mkF m 5 #[.val (.ref a0), .val (.double d1), .second] [(.double d1), (.int (4 : Int32)), (.int (0 : Int32)), (.ref a0)])) rfl (by rw [hml]; rfl) (argsL := [(.ref a0), (.int (0 : Int32)), (.int (4 : Int32)), (.double d1)]) (rest := []) (lenOf pdtlle_0 rfl) rfl (by show 2 * 0 + _ ≤ _; exact Nat.le_of_eq rfl) (hb hby d6_5) (fun _ _ => ⟨rfl, e0, (by decide : 0 + 0 ≤ _), (by decide : 0 + 0 ≤ _)⟩)
  dsimp only [Pt.U, Pt.locs, Pt.cells, Pt.slots] at X2 l2 y2 z2 st2 hQ2
  subst l2 y2 z2
  obtain ⟨rfl, N2q, e2⟩ := hQ2
  have n3 := Fr.app N0 N2q
  refine own_st (T' := T2) (g' := (mkF m 8 #[.val (.ref a0), .val (.double d1), .second] [(.int (3 : Int32))])) st2 ?_
  refine own_retI X2 hx hlk Bd.returns (hb hby d6_8) (by decide) (by decide) ?_
  show Qtlle Z a0 d1 kk_a0 ev0 ev1 ev2 ev3 h0 n0 (some (.int (3 : Int32))) T2.heap _
  rw [(e2 : T2.heap = h0)]
  exact ⟨rfl, n3, rfl⟩
theorem pnsllg : plainName "java/util/Arrays" = true := by first | (simp [plainName, overriddenIn]; done) | decide +kernel
theorem efsllg (m : MethodId) (a0 : Addr) (d3 : UInt64) : entryFrame m #[(.ref a0), (.int (0 : Int32)), (.int (4 : Int32)), (.double d3)] 14 = mkF m 0 #[.val (.ref a0), .val (.int (0 : Int32)), .val (.int (4 : Int32)), .val (.double d3), .second, .unset, .unset, .unset, .unset, .unset, .unset, .unset, .unset, .unset] [] := by first | (simp [entryFrame, mkF, argsToLocals, Value.category]; done) | rfl
def Qsllg (Z : State) (a0 : Addr) (d3 : UInt64) (kk_a0 : ClassId) (ev0 : UInt64) (ev1 : UInt64) (ev2 : UInt64) (ev3 : UInt64) (h0 : Heap) (n0 : Nat) (v : Option Value) (h : Heap) (L : List Loc) : Prop := v = some (.int (-4 : Int32)) ∧ Fr n0 L ∧ h = h0
set_option maxRecDepth 65536 in
set_option maxHeartbeats 40000000 in
theorem rmsllg (l : Launch) (Z : State) (ar : Array Value) (hw : ∀ d ∈ tables_1, d.before ar Z = true) (ws : List Jvm.Cond) (a0 : Addr) (d3 : UInt64) (kk_a0 : ClassId) (ev0 : UInt64) (ev1 : UInt64) (ev2 : UInt64) (ev3 : UInt64) (h0 : Heap) (n0 : Nat) (Z0 : n0 ≤ h0.size) (V_a0 : Arv Z h0 a0 kk_a0 .double (4 : Int32) [(.double ev0), (.double ev1), (.double ev2), (.double ev3)] (.double (0 : UInt64))) (hb34 : (cmpValue (FP.dcmp ev1 d3) .g) < (0 : Int32)) (hb34_1 : (cmpValue (FP.dcmp ev2 d3) .g) < (0 : Int32)) (hb34_2 : ¬ ((cmpValue (FP.dcmp ev3 d3) .g) < (0 : Int32))) (hb50 : (0 : Int32) < (cmpValue (FP.dcmp ev3 d3) .l)) :
    MetFree l (⟨"java/util/Arrays", "binarySearch0", "([DIID)I"⟩ : MethodName) (head1 (Jvm.Cond.code (⟨"java/util/Arrays", "binarySearch0", "([DIID)I"⟩ : MethodName) jdk_65_method_71_code 14 (some .int) :: ws) ({ frames := 0, cells := 0, slots := 0, locals := 0 } : Room)) (fun a U => a = #[(.ref a0), (.int (0 : Int32)), (.int (4 : Int32)), (.double d3)] ∧ Z.Warmed39 U.vm ∧ U.heap = h0) (fun _ _ _ _ _ => True) (fun _ U o U' => ∃ v L, o = .returned v ∧ Qsllg Z a0 d3 kk_a0 ev0 ev1 ev2 ev3 h0 n0 v U'.heap L ∧ FrameEnd U o U' L ({ frames := 0, cells := 0, slots := 0, locals := 0 } : Room).cells ({ frames := 0, cells := 0, slots := 0, locals := 0 } : Room).slots) := by
  refine MetFree.of_bodySF (plainFor_of_name pnsllg) hisR ?_
  intro p e s m args below meth c s₁ Bd hml0 hP hK
  obtain ⟨rfl, hZ, hh⟩ := hP
  have hx := Bd.exec
  have hby := Bd.bytes
  have hlk := Bd.notSynchronized
  have hml : c.maxLocals = 14 := hml0
  have hown : s.vm.findClass "java/util/Arrays" = some m.cls := findClass_of_methodNamed Bd.named
  have hnm := (name_of_methodNamed Bd.named Bd.method).1
  have X0 : Stand p l e ({ frames := 0, cells := 0, slots := 0, locals := 0 } : Room) s m #[(.ref a0), (.int (0 : Int32)), (.int (4 : Int32)), (.double d3)] below meth c s₁ [] 0 0 := Stand.of_body Bd
  have e0 : s₁.heap = h0 := by rw [← hh, Bd.state]; rfl
  have N0 := Fr.nil n0
  have K0 := Keep.refl h0 []
  refine own_enter (Q := Qsllg Z a0 d3 kk_a0 ev0 ev1 ev2 ev3 h0 n0) (efsllg m a0 d3) ?_
  refine own_st (T' := s₁) (g' := (mkF m 27 #[.val (.ref a0), .val (.int (0 : Int32)), .val (.int (4 : Int32)), .val (.double d3), .second, .val (.int (0 : Int32)), .val (.int (3 : Int32)), .val (.int (1 : Int32)), .unset, .unset, .unset, .unset, .unset, .unset] [(.int (1 : Int32)), (.ref a0)])) (fun t k => ?_) ?_
  · show Steps p.tables e below (s₁.setTop (mkF m 0 #[.val (.ref a0), .val (.int (0 : Int32)), .val (.int (4 : Int32)), .val (.double d3), .second, .unset, .unset, .unset, .unset, .unset, .unset, .unset, .unset, .unset] [])) t
    refine XS.iloadN X0.here hx rfl (hb hby d7_0) rfl ?_
    show Steps p.tables e below (s₁.setTop (mkF m 1 #[.val (.ref a0), .val (.int (0 : Int32)), .val (.int (4 : Int32)), .val (.double d3), .second, .unset, .unset, .unset, .unset, .unset, .unset, .unset, .unset, .unset] [(.int (0 : Int32))])) t
    refine XS.istore X0.here hx rfl (hb hby d7_1) rfl (l' := #[.val (.ref a0), .val (.int (0 : Int32)), .val (.int (4 : Int32)), .val (.double d3), .second, .val (.int (0 : Int32)), .unset, .unset, .unset, .unset, .unset, .unset, .unset, .unset]) rfl ?_
    show Steps p.tables e below (s₁.setTop (mkF m 3 #[.val (.ref a0), .val (.int (0 : Int32)), .val (.int (4 : Int32)), .val (.double d3), .second, .val (.int (0 : Int32)), .unset, .unset, .unset, .unset, .unset, .unset, .unset, .unset] [])) t
    refine XS.iloadN X0.here hx rfl (hb hby d7_3) rfl ?_
    show Steps p.tables e below (s₁.setTop (mkF m 4 #[.val (.ref a0), .val (.int (0 : Int32)), .val (.int (4 : Int32)), .val (.double d3), .second, .val (.int (0 : Int32)), .unset, .unset, .unset, .unset, .unset, .unset, .unset, .unset] [(.int (4 : Int32))])) t
    refine XS.iconst X0.here hx rfl (hb hby d7_4) ?_
    show Steps p.tables e below (s₁.setTop (mkF m 5 #[.val (.ref a0), .val (.int (0 : Int32)), .val (.int (4 : Int32)), .val (.double d3), .second, .val (.int (0 : Int32)), .unset, .unset, .unset, .unset, .unset, .unset, .unset, .unset] [(.int (1 : Int32)), (.int (4 : Int32))])) t
    refine XS.isub X0.here hx rfl (hb hby d7_5) rfl ?_
    show Steps p.tables e below (s₁.setTop (mkF m 6 #[.val (.ref a0), .val (.int (0 : Int32)), .val (.int (4 : Int32)), .val (.double d3), .second, .val (.int (0 : Int32)), .unset, .unset, .unset, .unset, .unset, .unset, .unset, .unset] [(.int (3 : Int32))])) t
    refine XS.istore X0.here hx rfl (hb hby d7_6) rfl (l' := #[.val (.ref a0), .val (.int (0 : Int32)), .val (.int (4 : Int32)), .val (.double d3), .second, .val (.int (0 : Int32)), .val (.int (3 : Int32)), .unset, .unset, .unset, .unset, .unset, .unset, .unset]) rfl ?_
    show Steps p.tables e below (s₁.setTop (mkF m 8 #[.val (.ref a0), .val (.int (0 : Int32)), .val (.int (4 : Int32)), .val (.double d3), .second, .val (.int (0 : Int32)), .val (.int (3 : Int32)), .unset, .unset, .unset, .unset, .unset, .unset, .unset] [])) t
    refine XS.iload X0.here hx rfl (hb hby d7_8) rfl ?_
    show Steps p.tables e below (s₁.setTop (mkF m 10 #[.val (.ref a0), .val (.int (0 : Int32)), .val (.int (4 : Int32)), .val (.double d3), .second, .val (.int (0 : Int32)), .val (.int (3 : Int32)), .unset, .unset, .unset, .unset, .unset, .unset, .unset] [(.int (0 : Int32))])) t
    refine XS.iload X0.here hx rfl (hb hby d7_10) rfl ?_
    show Steps p.tables e below (s₁.setTop (mkF m 12 #[.val (.ref a0), .val (.int (0 : Int32)), .val (.int (4 : Int32)), .val (.double d3), .second, .val (.int (0 : Int32)), .val (.int (3 : Int32)), .unset, .unset, .unset, .unset, .unset, .unset, .unset] [(.int (3 : Int32)), (.int (0 : Int32))])) t
    refine XS.icmpNo X0.here hx rfl (hb hby d7_12) rfl (by decide) ?_
    show Steps p.tables e below (s₁.setTop (mkF m 15 #[.val (.ref a0), .val (.int (0 : Int32)), .val (.int (4 : Int32)), .val (.double d3), .second, .val (.int (0 : Int32)), .val (.int (3 : Int32)), .unset, .unset, .unset, .unset, .unset, .unset, .unset] [])) t
    refine XS.iload X0.here hx rfl (hb hby d7_15) rfl ?_
    show Steps p.tables e below (s₁.setTop (mkF m 17 #[.val (.ref a0), .val (.int (0 : Int32)), .val (.int (4 : Int32)), .val (.double d3), .second, .val (.int (0 : Int32)), .val (.int (3 : Int32)), .unset, .unset, .unset, .unset, .unset, .unset, .unset] [(.int (0 : Int32))])) t
    refine XS.iload X0.here hx rfl (hb hby d7_17) rfl ?_
    show Steps p.tables e below (s₁.setTop (mkF m 19 #[.val (.ref a0), .val (.int (0 : Int32)), .val (.int (4 : Int32)), .val (.double d3), .second, .val (.int (0 : Int32)), .val (.int (3 : Int32)), .unset, .unset, .unset, .unset, .unset, .unset, .unset] [(.int (3 : Int32)), (.int (0 : Int32))])) t
    refine XS.iadd X0.here hx rfl (hb hby d7_19) rfl ?_
    show Steps p.tables e below (s₁.setTop (mkF m 20 #[.val (.ref a0), .val (.int (0 : Int32)), .val (.int (4 : Int32)), .val (.double d3), .second, .val (.int (0 : Int32)), .val (.int (3 : Int32)), .unset, .unset, .unset, .unset, .unset, .unset, .unset] [(.int (3 : Int32))])) t
    refine XS.iconst X0.here hx rfl (hb hby d7_20) ?_
    show Steps p.tables e below (s₁.setTop (mkF m 21 #[.val (.ref a0), .val (.int (0 : Int32)), .val (.int (4 : Int32)), .val (.double d3), .second, .val (.int (0 : Int32)), .val (.int (3 : Int32)), .unset, .unset, .unset, .unset, .unset, .unset, .unset] [(.int (1 : Int32)), (.int (3 : Int32))])) t
    refine XS.iushr X0.here hx rfl (hb hby d7_21) rfl ?_
    show Steps p.tables e below (s₁.setTop (mkF m 22 #[.val (.ref a0), .val (.int (0 : Int32)), .val (.int (4 : Int32)), .val (.double d3), .second, .val (.int (0 : Int32)), .val (.int (3 : Int32)), .unset, .unset, .unset, .unset, .unset, .unset, .unset] [(.int (1 : Int32))])) t
    refine XS.istore X0.here hx rfl (hb hby d7_22) rfl (l' := #[.val (.ref a0), .val (.int (0 : Int32)), .val (.int (4 : Int32)), .val (.double d3), .second, .val (.int (0 : Int32)), .val (.int (3 : Int32)), .val (.int (1 : Int32)), .unset, .unset, .unset, .unset, .unset, .unset]) rfl ?_
    show Steps p.tables e below (s₁.setTop (mkF m 24 #[.val (.ref a0), .val (.int (0 : Int32)), .val (.int (4 : Int32)), .val (.double d3), .second, .val (.int (0 : Int32)), .val (.int (3 : Int32)), .val (.int (1 : Int32)), .unset, .unset, .unset, .unset, .unset, .unset] [])) t
    refine XS.aloadN X0.here hx rfl (hb hby d7_24) rfl rfl ?_
    show Steps p.tables e below (s₁.setTop (mkF m 25 #[.val (.ref a0), .val (.int (0 : Int32)), .val (.int (4 : Int32)), .val (.double d3), .second, .val (.int (0 : Int32)), .val (.int (3 : Int32)), .val (.int (1 : Int32)), .unset, .unset, .unset, .unset, .unset, .unset] [(.ref a0)])) t
    refine XS.iload X0.here hx rfl (hb hby d7_25) rfl ?_
    exact k
  obtain ⟨c1, r1a, r1b, r1c, r1d, r1e, r1f⟩ := id V_a0
  have i1 : ¬ ((1 : Int32) < 0 ∨ c1.slots.size ≤ ((1 : Int32)).toNatClampNeg) := inb_of r1c ⟨by decide, by decide⟩
  have y1 : c1.slots[((1 : Int32)).toNatClampNeg]? = some (.double ev1) := r1e.at i1 rfl
  refine own_st (T' := s₁) (g' := (mkF m 27 #[.val (.ref a0), .val (.int (0 : Int32)), .val (.int (4 : Int32)), .val (.double d3), .second, .val (.int (2 : Int32)), .val (.int (3 : Int32)), .val (.int (2 : Int32)), .val (.double ev1), .second, .unset, .unset, .unset, .unset] [(.int (2 : Int32)), (.ref a0)])) (fun t k => ?_) ?_
  · show Steps p.tables e below (s₁.setTop (mkF m 27 #[.val (.ref a0), .val (.int (0 : Int32)), .val (.int (4 : Int32)), .val (.double d3), .second, .val (.int (0 : Int32)), .val (.int (3 : Int32)), .val (.int (1 : Int32)), .unset, .unset, .unset, .unset, .unset, .unset] [(.int (1 : Int32)), (.ref a0)])) t
    refine X0.daload hx (j := (1 : Int32)) (v := (.double ev1)) (by rw [e0]; exact r1a.1) (State.isArrayOf_alike hZ.alike r1a.2.1) r1a.2.2 i1 y1 (g := (mkF m 27 #[.val (.ref a0), .val (.int (0 : Int32)), .val (.int (4 : Int32)), .val (.double d3), .second, .val (.int (0 : Int32)), .val (.int (3 : Int32)), .val (.int (1 : Int32)), .unset, .unset, .unset, .unset, .unset, .unset] [(.int (1 : Int32)), (.ref a0)])) rfl rfl (hb hby d7_27) _ ?_
    show Steps p.tables e below (s₁.setTop (mkF m 28 #[.val (.ref a0), .val (.int (0 : Int32)), .val (.int (4 : Int32)), .val (.double d3), .second, .val (.int (0 : Int32)), .val (.int (3 : Int32)), .val (.int (1 : Int32)), .unset, .unset, .unset, .unset, .unset, .unset] [(.double ev1)])) t
    refine XS.dstore X0.here hx rfl (hb hby d7_28) rfl (l' := #[.val (.ref a0), .val (.int (0 : Int32)), .val (.int (4 : Int32)), .val (.double d3), .second, .val (.int (0 : Int32)), .val (.int (3 : Int32)), .val (.int (1 : Int32)), .val (.double ev1), .second, .unset, .unset, .unset, .unset]) rfl ?_
    show Steps p.tables e below (s₁.setTop (mkF m 30 #[.val (.ref a0), .val (.int (0 : Int32)), .val (.int (4 : Int32)), .val (.double d3), .second, .val (.int (0 : Int32)), .val (.int (3 : Int32)), .val (.int (1 : Int32)), .val (.double ev1), .second, .unset, .unset, .unset, .unset] [])) t
    refine XS.dload X0.here hx rfl (hb hby d7_30) rfl ?_
    show Steps p.tables e below (s₁.setTop (mkF m 32 #[.val (.ref a0), .val (.int (0 : Int32)), .val (.int (4 : Int32)), .val (.double d3), .second, .val (.int (0 : Int32)), .val (.int (3 : Int32)), .val (.int (1 : Int32)), .val (.double ev1), .second, .unset, .unset, .unset, .unset] [(.double ev1)])) t
    refine XS.dloadN X0.here hx rfl (hb hby d7_32) rfl ?_
    show Steps p.tables e below (s₁.setTop (mkF m 33 #[.val (.ref a0), .val (.int (0 : Int32)), .val (.int (4 : Int32)), .val (.double d3), .second, .val (.int (0 : Int32)), .val (.int (3 : Int32)), .val (.int (1 : Int32)), .val (.double ev1), .second, .unset, .unset, .unset, .unset] [(.double d3), (.double ev1)])) t
    refine XS.dcmpS X0.here hx rfl (hb hby d7_33) rfl rfl ?_
    show Steps p.tables e below (s₁.setTop (mkF m 34 #[.val (.ref a0), .val (.int (0 : Int32)), .val (.int (4 : Int32)), .val (.double d3), .second, .val (.int (0 : Int32)), .val (.int (3 : Int32)), .val (.int (1 : Int32)), .val (.double ev1), .second, .unset, .unset, .unset, .unset] [(.int (cmpValue (FP.dcmp ev1 d3) .g))])) t
    refine XS.ifNo X0.here hx rfl (hb hby d7_34) rfl ((if0 _ _).trans (tlt (hb34 : (cmpValue (FP.dcmp ev1 d3) .g) < (0 : Int32))).2.1) ?_
    show Steps p.tables e below (s₁.setTop (mkF m 37 #[.val (.ref a0), .val (.int (0 : Int32)), .val (.int (4 : Int32)), .val (.double d3), .second, .val (.int (0 : Int32)), .val (.int (3 : Int32)), .val (.int (1 : Int32)), .val (.double ev1), .second, .unset, .unset, .unset, .unset] [])) t
    refine XS.iload X0.here hx rfl (hb hby d7_37) rfl ?_
    show Steps p.tables e below (s₁.setTop (mkF m 39 #[.val (.ref a0), .val (.int (0 : Int32)), .val (.int (4 : Int32)), .val (.double d3), .second, .val (.int (0 : Int32)), .val (.int (3 : Int32)), .val (.int (1 : Int32)), .val (.double ev1), .second, .unset, .unset, .unset, .unset] [(.int (1 : Int32))])) t
    refine XS.iconst X0.here hx rfl (hb hby d7_39) ?_
    show Steps p.tables e below (s₁.setTop (mkF m 40 #[.val (.ref a0), .val (.int (0 : Int32)), .val (.int (4 : Int32)), .val (.double d3), .second, .val (.int (0 : Int32)), .val (.int (3 : Int32)), .val (.int (1 : Int32)), .val (.double ev1), .second, .unset, .unset, .unset, .unset] [(.int (1 : Int32)), (.int (1 : Int32))])) t
    refine XS.iadd X0.here hx rfl (hb hby d7_40) rfl ?_
    show Steps p.tables e below (s₁.setTop (mkF m 41 #[.val (.ref a0), .val (.int (0 : Int32)), .val (.int (4 : Int32)), .val (.double d3), .second, .val (.int (0 : Int32)), .val (.int (3 : Int32)), .val (.int (1 : Int32)), .val (.double ev1), .second, .unset, .unset, .unset, .unset] [(.int (2 : Int32))])) t
    refine XS.istore X0.here hx rfl (hb hby d7_41) rfl (l' := #[.val (.ref a0), .val (.int (0 : Int32)), .val (.int (4 : Int32)), .val (.double d3), .second, .val (.int (2 : Int32)), .val (.int (3 : Int32)), .val (.int (1 : Int32)), .val (.double ev1), .second, .unset, .unset, .unset, .unset]) rfl ?_
    show Steps p.tables e below (s₁.setTop (mkF m 43 #[.val (.ref a0), .val (.int (0 : Int32)), .val (.int (4 : Int32)), .val (.double d3), .second, .val (.int (2 : Int32)), .val (.int (3 : Int32)), .val (.int (1 : Int32)), .val (.double ev1), .second, .unset, .unset, .unset, .unset] [])) t
    refine XS.goto X0.here hx rfl (pc0 := 43) (pc' := 109) rfl (hb hby d7_43) (by decide) (by decide) ?_
    show Steps p.tables e below (s₁.setTop (mkF m 109 #[.val (.ref a0), .val (.int (0 : Int32)), .val (.int (4 : Int32)), .val (.double d3), .second, .val (.int (2 : Int32)), .val (.int (3 : Int32)), .val (.int (1 : Int32)), .val (.double ev1), .second, .unset, .unset, .unset, .unset] [])) t
    refine XS.goto X0.here hx rfl (pc0 := 109) (pc' := 8) rfl (hb hby d7_109) (by decide) (by decide) ?_
    show Steps p.tables e below (s₁.setTop (mkF m 8 #[.val (.ref a0), .val (.int (0 : Int32)), .val (.int (4 : Int32)), .val (.double d3), .second, .val (.int (2 : Int32)), .val (.int (3 : Int32)), .val (.int (1 : Int32)), .val (.double ev1), .second, .unset, .unset, .unset, .unset] [])) t
    refine XS.iload X0.here hx rfl (hb hby d7_8) rfl ?_
    show Steps p.tables e below (s₁.setTop (mkF m 10 #[.val (.ref a0), .val (.int (0 : Int32)), .val (.int (4 : Int32)), .val (.double d3), .second, .val (.int (2 : Int32)), .val (.int (3 : Int32)), .val (.int (1 : Int32)), .val (.double ev1), .second, .unset, .unset, .unset, .unset] [(.int (2 : Int32))])) t
    refine XS.iload X0.here hx rfl (hb hby d7_10) rfl ?_
    show Steps p.tables e below (s₁.setTop (mkF m 12 #[.val (.ref a0), .val (.int (0 : Int32)), .val (.int (4 : Int32)), .val (.double d3), .second, .val (.int (2 : Int32)), .val (.int (3 : Int32)), .val (.int (1 : Int32)), .val (.double ev1), .second, .unset, .unset, .unset, .unset] [(.int (3 : Int32)), (.int (2 : Int32))])) t
    refine XS.icmpNo X0.here hx rfl (hb hby d7_12) rfl (by decide) ?_
    show Steps p.tables e below (s₁.setTop (mkF m 15 #[.val (.ref a0), .val (.int (0 : Int32)), .val (.int (4 : Int32)), .val (.double d3), .second, .val (.int (2 : Int32)), .val (.int (3 : Int32)), .val (.int (1 : Int32)), .val (.double ev1), .second, .unset, .unset, .unset, .unset] [])) t
    refine XS.iload X0.here hx rfl (hb hby d7_15) rfl ?_
    show Steps p.tables e below (s₁.setTop (mkF m 17 #[.val (.ref a0), .val (.int (0 : Int32)), .val (.int (4 : Int32)), .val (.double d3), .second, .val (.int (2 : Int32)), .val (.int (3 : Int32)), .val (.int (1 : Int32)), .val (.double ev1), .second, .unset, .unset, .unset, .unset] [(.int (2 : Int32))])) t
    refine XS.iload X0.here hx rfl (hb hby d7_17) rfl ?_
    show Steps p.tables e below (s₁.setTop (mkF m 19 #[.val (.ref a0), .val (.int (0 : Int32)), .val (.int (4 : Int32)), .val (.double d3), .second, .val (.int (2 : Int32)), .val (.int (3 : Int32)), .val (.int (1 : Int32)), .val (.double ev1), .second, .unset, .unset, .unset, .unset] [(.int (3 : Int32)), (.int (2 : Int32))])) t
    refine XS.iadd X0.here hx rfl (hb hby d7_19) rfl ?_
    show Steps p.tables e below (s₁.setTop (mkF m 20 #[.val (.ref a0), .val (.int (0 : Int32)), .val (.int (4 : Int32)), .val (.double d3), .second, .val (.int (2 : Int32)), .val (.int (3 : Int32)), .val (.int (1 : Int32)), .val (.double ev1), .second, .unset, .unset, .unset, .unset] [(.int (5 : Int32))])) t
    refine XS.iconst X0.here hx rfl (hb hby d7_20) ?_
    show Steps p.tables e below (s₁.setTop (mkF m 21 #[.val (.ref a0), .val (.int (0 : Int32)), .val (.int (4 : Int32)), .val (.double d3), .second, .val (.int (2 : Int32)), .val (.int (3 : Int32)), .val (.int (1 : Int32)), .val (.double ev1), .second, .unset, .unset, .unset, .unset] [(.int (1 : Int32)), (.int (5 : Int32))])) t
    refine XS.iushr X0.here hx rfl (hb hby d7_21) rfl ?_
    show Steps p.tables e below (s₁.setTop (mkF m 22 #[.val (.ref a0), .val (.int (0 : Int32)), .val (.int (4 : Int32)), .val (.double d3), .second, .val (.int (2 : Int32)), .val (.int (3 : Int32)), .val (.int (1 : Int32)), .val (.double ev1), .second, .unset, .unset, .unset, .unset] [(.int (2 : Int32))])) t
    refine XS.istore X0.here hx rfl (hb hby d7_22) rfl (l' := #[.val (.ref a0), .val (.int (0 : Int32)), .val (.int (4 : Int32)), .val (.double d3), .second, .val (.int (2 : Int32)), .val (.int (3 : Int32)), .val (.int (2 : Int32)), .val (.double ev1), .second, .unset, .unset, .unset, .unset]) rfl ?_
    show Steps p.tables e below (s₁.setTop (mkF m 24 #[.val (.ref a0), .val (.int (0 : Int32)), .val (.int (4 : Int32)), .val (.double d3), .second, .val (.int (2 : Int32)), .val (.int (3 : Int32)), .val (.int (2 : Int32)), .val (.double ev1), .second, .unset, .unset, .unset, .unset] [])) t
    refine XS.aloadN X0.here hx rfl (hb hby d7_24) rfl rfl ?_
    show Steps p.tables e below (s₁.setTop (mkF m 25 #[.val (.ref a0), .val (.int (0 : Int32)), .val (.int (4 : Int32)), .val (.double d3), .second, .val (.int (2 : Int32)), .val (.int (3 : Int32)), .val (.int (2 : Int32)), .val (.double ev1), .second, .unset, .unset, .unset, .unset] [(.ref a0)])) t
    refine XS.iload X0.here hx rfl (hb hby d7_25) rfl ?_
    exact k
  obtain ⟨c2, r2a, r2b, r2c, r2d, r2e, r2f⟩ := id V_a0
  have i2 : ¬ ((2 : Int32) < 0 ∨ c2.slots.size ≤ ((2 : Int32)).toNatClampNeg) := inb_of r2c ⟨by decide, by decide⟩
  have y2 : c2.slots[((2 : Int32)).toNatClampNeg]? = some (.double ev2) := r2e.at i2 rfl
  refine own_st (T' := s₁) (g' := (mkF m 27 #[.val (.ref a0), .val (.int (0 : Int32)), .val (.int (4 : Int32)), .val (.double d3), .second, .val (.int (3 : Int32)), .val (.int (3 : Int32)), .val (.int (3 : Int32)), .val (.double ev2), .second, .unset, .unset, .unset, .unset] [(.int (3 : Int32)), (.ref a0)])) (fun t k => ?_) ?_
  · show Steps p.tables e below (s₁.setTop (mkF m 27 #[.val (.ref a0), .val (.int (0 : Int32)), .val (.int (4 : Int32)), .val (.double d3), .second, .val (.int (2 : Int32)), .val (.int (3 : Int32)), .val (.int (2 : Int32)), .val (.double ev1), .second, .unset, .unset, .unset, .unset] [(.int (2 : Int32)), (.ref a0)])) t
    refine X0.daload hx (j := (2 : Int32)) (v := (.double ev2)) (by rw [e0]; exact r2a.1) (State.isArrayOf_alike hZ.alike r2a.2.1) r2a.2.2 i2 y2 (g := (mkF m 27 #[.val (.ref a0), .val (.int (0 : Int32)), .val (.int (4 : Int32)), .val (.double d3), .second, .val (.int (2 : Int32)), .val (.int (3 : Int32)), .val (.int (2 : Int32)), .val (.double ev1), .second, .unset, .unset, .unset, .unset] [(.int (2 : Int32)), (.ref a0)])) rfl rfl (hb hby d7_27) _ ?_
    show Steps p.tables e below (s₁.setTop (mkF m 28 #[.val (.ref a0), .val (.int (0 : Int32)), .val (.int (4 : Int32)), .val (.double d3), .second, .val (.int (2 : Int32)), .val (.int (3 : Int32)), .val (.int (2 : Int32)), .val (.double ev1), .second, .unset, .unset, .unset, .unset] [(.double ev2)])) t
    refine XS.dstore X0.here hx rfl (hb hby d7_28) rfl (l' := #[.val (.ref a0), .val (.int (0 : Int32)), .val (.int (4 : Int32)), .val (.double d3), .second, .val (.int (2 : Int32)), .val (.int (3 : Int32)), .val (.int (2 : Int32)), .val (.double ev2), .second, .unset, .unset, .unset, .unset]) rfl ?_
    show Steps p.tables e below (s₁.setTop (mkF m 30 #[.val (.ref a0), .val (.int (0 : Int32)), .val (.int (4 : Int32)), .val (.double d3), .second, .val (.int (2 : Int32)), .val (.int (3 : Int32)), .val (.int (2 : Int32)), .val (.double ev2), .second, .unset, .unset, .unset, .unset] [])) t
    refine XS.dload X0.here hx rfl (hb hby d7_30) rfl ?_
    show Steps p.tables e below (s₁.setTop (mkF m 32 #[.val (.ref a0), .val (.int (0 : Int32)), .val (.int (4 : Int32)), .val (.double d3), .second, .val (.int (2 : Int32)), .val (.int (3 : Int32)), .val (.int (2 : Int32)), .val (.double ev2), .second, .unset, .unset, .unset, .unset] [(.double ev2)])) t
    refine XS.dloadN X0.here hx rfl (hb hby d7_32) rfl ?_
    show Steps p.tables e below (s₁.setTop (mkF m 33 #[.val (.ref a0), .val (.int (0 : Int32)), .val (.int (4 : Int32)), .val (.double d3), .second, .val (.int (2 : Int32)), .val (.int (3 : Int32)), .val (.int (2 : Int32)), .val (.double ev2), .second, .unset, .unset, .unset, .unset] [(.double d3), (.double ev2)])) t
    refine XS.dcmpS X0.here hx rfl (hb hby d7_33) rfl rfl ?_
    show Steps p.tables e below (s₁.setTop (mkF m 34 #[.val (.ref a0), .val (.int (0 : Int32)), .val (.int (4 : Int32)), .val (.double d3), .second, .val (.int (2 : Int32)), .val (.int (3 : Int32)), .val (.int (2 : Int32)), .val (.double ev2), .second, .unset, .unset, .unset, .unset] [(.int (cmpValue (FP.dcmp ev2 d3) .g))])) t
    refine XS.ifNo X0.here hx rfl (hb hby d7_34) rfl ((if0 _ _).trans (tlt (hb34_1 : (cmpValue (FP.dcmp ev2 d3) .g) < (0 : Int32))).2.1) ?_
    show Steps p.tables e below (s₁.setTop (mkF m 37 #[.val (.ref a0), .val (.int (0 : Int32)), .val (.int (4 : Int32)), .val (.double d3), .second, .val (.int (2 : Int32)), .val (.int (3 : Int32)), .val (.int (2 : Int32)), .val (.double ev2), .second, .unset, .unset, .unset, .unset] [])) t
    refine XS.iload X0.here hx rfl (hb hby d7_37) rfl ?_
    show Steps p.tables e below (s₁.setTop (mkF m 39 #[.val (.ref a0), .val (.int (0 : Int32)), .val (.int (4 : Int32)), .val (.double d3), .second, .val (.int (2 : Int32)), .val (.int (3 : Int32)), .val (.int (2 : Int32)), .val (.double ev2), .second, .unset, .unset, .unset, .unset] [(.int (2 : Int32))])) t
    refine XS.iconst X0.here hx rfl (hb hby d7_39) ?_
    show Steps p.tables e below (s₁.setTop (mkF m 40 #[.val (.ref a0), .val (.int (0 : Int32)), .val (.int (4 : Int32)), .val (.double d3), .second, .val (.int (2 : Int32)), .val (.int (3 : Int32)), .val (.int (2 : Int32)), .val (.double ev2), .second, .unset, .unset, .unset, .unset] [(.int (1 : Int32)), (.int (2 : Int32))])) t
    refine XS.iadd X0.here hx rfl (hb hby d7_40) rfl ?_
    show Steps p.tables e below (s₁.setTop (mkF m 41 #[.val (.ref a0), .val (.int (0 : Int32)), .val (.int (4 : Int32)), .val (.double d3), .second, .val (.int (2 : Int32)), .val (.int (3 : Int32)), .val (.int (2 : Int32)), .val (.double ev2), .second, .unset, .unset, .unset, .unset] [(.int (3 : Int32))])) t
    refine XS.istore X0.here hx rfl (hb hby d7_41) rfl (l' := #[.val (.ref a0), .val (.int (0 : Int32)), .val (.int (4 : Int32)), .val (.double d3), .second, .val (.int (3 : Int32)), .val (.int (3 : Int32)), .val (.int (2 : Int32)), .val (.double ev2), .second, .unset, .unset, .unset, .unset]) rfl ?_
    show Steps p.tables e below (s₁.setTop (mkF m 43 #[.val (.ref a0), .val (.int (0 : Int32)), .val (.int (4 : Int32)), .val (.double d3), .second, .val (.int (3 : Int32)), .val (.int (3 : Int32)), .val (.int (2 : Int32)), .val (.double ev2), .second, .unset, .unset, .unset, .unset] [])) t
    refine XS.goto X0.here hx rfl (pc0 := 43) (pc' := 109) rfl (hb hby d7_43) (by decide) (by decide) ?_
    show Steps p.tables e below (s₁.setTop (mkF m 109 #[.val (.ref a0), .val (.int (0 : Int32)), .val (.int (4 : Int32)), .val (.double d3), .second, .val (.int (3 : Int32)), .val (.int (3 : Int32)), .val (.int (2 : Int32)), .val (.double ev2), .second, .unset, .unset, .unset, .unset] [])) t
    refine XS.goto X0.here hx rfl (pc0 := 109) (pc' := 8) rfl (hb hby d7_109) (by decide) (by decide) ?_
    show Steps p.tables e below (s₁.setTop (mkF m 8 #[.val (.ref a0), .val (.int (0 : Int32)), .val (.int (4 : Int32)), .val (.double d3), .second, .val (.int (3 : Int32)), .val (.int (3 : Int32)), .val (.int (2 : Int32)), .val (.double ev2), .second, .unset, .unset, .unset, .unset] [])) t
    refine XS.iload X0.here hx rfl (hb hby d7_8) rfl ?_
    show Steps p.tables e below (s₁.setTop (mkF m 10 #[.val (.ref a0), .val (.int (0 : Int32)), .val (.int (4 : Int32)), .val (.double d3), .second, .val (.int (3 : Int32)), .val (.int (3 : Int32)), .val (.int (2 : Int32)), .val (.double ev2), .second, .unset, .unset, .unset, .unset] [(.int (3 : Int32))])) t
    refine XS.iload X0.here hx rfl (hb hby d7_10) rfl ?_
    show Steps p.tables e below (s₁.setTop (mkF m 12 #[.val (.ref a0), .val (.int (0 : Int32)), .val (.int (4 : Int32)), .val (.double d3), .second, .val (.int (3 : Int32)), .val (.int (3 : Int32)), .val (.int (2 : Int32)), .val (.double ev2), .second, .unset, .unset, .unset, .unset] [(.int (3 : Int32)), (.int (3 : Int32))])) t
    refine XS.icmpNo X0.here hx rfl (hb hby d7_12) rfl (by decide) ?_
    show Steps p.tables e below (s₁.setTop (mkF m 15 #[.val (.ref a0), .val (.int (0 : Int32)), .val (.int (4 : Int32)), .val (.double d3), .second, .val (.int (3 : Int32)), .val (.int (3 : Int32)), .val (.int (2 : Int32)), .val (.double ev2), .second, .unset, .unset, .unset, .unset] [])) t
    refine XS.iload X0.here hx rfl (hb hby d7_15) rfl ?_
    show Steps p.tables e below (s₁.setTop (mkF m 17 #[.val (.ref a0), .val (.int (0 : Int32)), .val (.int (4 : Int32)), .val (.double d3), .second, .val (.int (3 : Int32)), .val (.int (3 : Int32)), .val (.int (2 : Int32)), .val (.double ev2), .second, .unset, .unset, .unset, .unset] [(.int (3 : Int32))])) t
    refine XS.iload X0.here hx rfl (hb hby d7_17) rfl ?_
    show Steps p.tables e below (s₁.setTop (mkF m 19 #[.val (.ref a0), .val (.int (0 : Int32)), .val (.int (4 : Int32)), .val (.double d3), .second, .val (.int (3 : Int32)), .val (.int (3 : Int32)), .val (.int (2 : Int32)), .val (.double ev2), .second, .unset, .unset, .unset, .unset] [(.int (3 : Int32)), (.int (3 : Int32))])) t
    refine XS.iadd X0.here hx rfl (hb hby d7_19) rfl ?_
    show Steps p.tables e below (s₁.setTop (mkF m 20 #[.val (.ref a0), .val (.int (0 : Int32)), .val (.int (4 : Int32)), .val (.double d3), .second, .val (.int (3 : Int32)), .val (.int (3 : Int32)), .val (.int (2 : Int32)), .val (.double ev2), .second, .unset, .unset, .unset, .unset] [(.int (6 : Int32))])) t
    refine XS.iconst X0.here hx rfl (hb hby d7_20) ?_
    show Steps p.tables e below (s₁.setTop (mkF m 21 #[.val (.ref a0), .val (.int (0 : Int32)), .val (.int (4 : Int32)), .val (.double d3), .second, .val (.int (3 : Int32)), .val (.int (3 : Int32)), .val (.int (2 : Int32)), .val (.double ev2), .second, .unset, .unset, .unset, .unset] [(.int (1 : Int32)), (.int (6 : Int32))])) t
    refine XS.iushr X0.here hx rfl (hb hby d7_21) rfl ?_
    show Steps p.tables e below (s₁.setTop (mkF m 22 #[.val (.ref a0), .val (.int (0 : Int32)), .val (.int (4 : Int32)), .val (.double d3), .second, .val (.int (3 : Int32)), .val (.int (3 : Int32)), .val (.int (2 : Int32)), .val (.double ev2), .second, .unset, .unset, .unset, .unset] [(.int (3 : Int32))])) t
    refine XS.istore X0.here hx rfl (hb hby d7_22) rfl (l' := #[.val (.ref a0), .val (.int (0 : Int32)), .val (.int (4 : Int32)), .val (.double d3), .second, .val (.int (3 : Int32)), .val (.int (3 : Int32)), .val (.int (3 : Int32)), .val (.double ev2), .second, .unset, .unset, .unset, .unset]) rfl ?_
    show Steps p.tables e below (s₁.setTop (mkF m 24 #[.val (.ref a0), .val (.int (0 : Int32)), .val (.int (4 : Int32)), .val (.double d3), .second, .val (.int (3 : Int32)), .val (.int (3 : Int32)), .val (.int (3 : Int32)), .val (.double ev2), .second, .unset, .unset, .unset, .unset] [])) t
    refine XS.aloadN X0.here hx rfl (hb hby d7_24) rfl rfl ?_
    show Steps p.tables e below (s₁.setTop (mkF m 25 #[.val (.ref a0), .val (.int (0 : Int32)), .val (.int (4 : Int32)), .val (.double d3), .second, .val (.int (3 : Int32)), .val (.int (3 : Int32)), .val (.int (3 : Int32)), .val (.double ev2), .second, .unset, .unset, .unset, .unset] [(.ref a0)])) t
    refine XS.iload X0.here hx rfl (hb hby d7_25) rfl ?_
    exact k
  obtain ⟨c3, r3a, r3b, r3c, r3d, r3e, r3f⟩ := id V_a0
  have i3 : ¬ ((3 : Int32) < 0 ∨ c3.slots.size ≤ ((3 : Int32)).toNatClampNeg) := inb_of r3c ⟨by decide, by decide⟩
  have y3 : c3.slots[((3 : Int32)).toNatClampNeg]? = some (.double ev3) := r3e.at i3 rfl
  refine own_st (T' := s₁) (g' := (mkF m 117 #[.val (.ref a0), .val (.int (0 : Int32)), .val (.int (4 : Int32)), .val (.double d3), .second, .val (.int (3 : Int32)), .val (.int (2 : Int32)), .val (.int (3 : Int32)), .val (.double ev3), .second, .unset, .unset, .unset, .unset] [(.int (-4 : Int32))])) (fun t k => ?_) ?_
  · show Steps p.tables e below (s₁.setTop (mkF m 27 #[.val (.ref a0), .val (.int (0 : Int32)), .val (.int (4 : Int32)), .val (.double d3), .second, .val (.int (3 : Int32)), .val (.int (3 : Int32)), .val (.int (3 : Int32)), .val (.double ev2), .second, .unset, .unset, .unset, .unset] [(.int (3 : Int32)), (.ref a0)])) t
    refine X0.daload hx (j := (3 : Int32)) (v := (.double ev3)) (by rw [e0]; exact r3a.1) (State.isArrayOf_alike hZ.alike r3a.2.1) r3a.2.2 i3 y3 (g := (mkF m 27 #[.val (.ref a0), .val (.int (0 : Int32)), .val (.int (4 : Int32)), .val (.double d3), .second, .val (.int (3 : Int32)), .val (.int (3 : Int32)), .val (.int (3 : Int32)), .val (.double ev2), .second, .unset, .unset, .unset, .unset] [(.int (3 : Int32)), (.ref a0)])) rfl rfl (hb hby d7_27) _ ?_
    show Steps p.tables e below (s₁.setTop (mkF m 28 #[.val (.ref a0), .val (.int (0 : Int32)), .val (.int (4 : Int32)), .val (.double d3), .second, .val (.int (3 : Int32)), .val (.int (3 : Int32)), .val (.int (3 : Int32)), .val (.double ev2), .second, .unset, .unset, .unset, .unset] [(.double ev3)])) t
    refine XS.dstore X0.here hx rfl (hb hby d7_28) rfl (l' := #[.val (.ref a0), .val (.int (0 : Int32)), .val (.int (4 : Int32)), .val (.double d3), .second, .val (.int (3 : Int32)), .val (.int (3 : Int32)), .val (.int (3 : Int32)), .val (.double ev3), .second, .unset, .unset, .unset, .unset]) rfl ?_
    show Steps p.tables e below (s₁.setTop (mkF m 30 #[.val (.ref a0), .val (.int (0 : Int32)), .val (.int (4 : Int32)), .val (.double d3), .second, .val (.int (3 : Int32)), .val (.int (3 : Int32)), .val (.int (3 : Int32)), .val (.double ev3), .second, .unset, .unset, .unset, .unset] [])) t
    refine XS.dload X0.here hx rfl (hb hby d7_30) rfl ?_
    show Steps p.tables e below (s₁.setTop (mkF m 32 #[.val (.ref a0), .val (.int (0 : Int32)), .val (.int (4 : Int32)), .val (.double d3), .second, .val (.int (3 : Int32)), .val (.int (3 : Int32)), .val (.int (3 : Int32)), .val (.double ev3), .second, .unset, .unset, .unset, .unset] [(.double ev3)])) t
    refine XS.dloadN X0.here hx rfl (hb hby d7_32) rfl ?_
    show Steps p.tables e below (s₁.setTop (mkF m 33 #[.val (.ref a0), .val (.int (0 : Int32)), .val (.int (4 : Int32)), .val (.double d3), .second, .val (.int (3 : Int32)), .val (.int (3 : Int32)), .val (.int (3 : Int32)), .val (.double ev3), .second, .unset, .unset, .unset, .unset] [(.double d3), (.double ev3)])) t
    refine XS.dcmpS X0.here hx rfl (hb hby d7_33) rfl rfl ?_
    show Steps p.tables e below (s₁.setTop (mkF m 34 #[.val (.ref a0), .val (.int (0 : Int32)), .val (.int (4 : Int32)), .val (.double d3), .second, .val (.int (3 : Int32)), .val (.int (3 : Int32)), .val (.int (3 : Int32)), .val (.double ev3), .second, .unset, .unset, .unset, .unset] [(.int (cmpValue (FP.dcmp ev3 d3) .g))])) t
    refine XS.ifYes X0.here hx rfl (pc0 := 34) (pc' := 46) rfl (hb hby d7_34) rfl ((if0 _ _).trans (flt (hb34_2 : ¬ ((cmpValue (FP.dcmp ev3 d3) .g) < (0 : Int32)))).2.1) (by decide) (by decide) ?_
    show Steps p.tables e below (s₁.setTop (mkF m 46 #[.val (.ref a0), .val (.int (0 : Int32)), .val (.int (4 : Int32)), .val (.double d3), .second, .val (.int (3 : Int32)), .val (.int (3 : Int32)), .val (.int (3 : Int32)), .val (.double ev3), .second, .unset, .unset, .unset, .unset] [])) t
    refine XS.dload X0.here hx rfl (hb hby d7_46) rfl ?_
    show Steps p.tables e below (s₁.setTop (mkF m 48 #[.val (.ref a0), .val (.int (0 : Int32)), .val (.int (4 : Int32)), .val (.double d3), .second, .val (.int (3 : Int32)), .val (.int (3 : Int32)), .val (.int (3 : Int32)), .val (.double ev3), .second, .unset, .unset, .unset, .unset] [(.double ev3)])) t
    refine XS.dloadN X0.here hx rfl (hb hby d7_48) rfl ?_
    show Steps p.tables e below (s₁.setTop (mkF m 49 #[.val (.ref a0), .val (.int (0 : Int32)), .val (.int (4 : Int32)), .val (.double d3), .second, .val (.int (3 : Int32)), .val (.int (3 : Int32)), .val (.int (3 : Int32)), .val (.double ev3), .second, .unset, .unset, .unset, .unset] [(.double d3), (.double ev3)])) t
    refine XS.dcmpS X0.here hx rfl (hb hby d7_49) rfl rfl ?_
    show Steps p.tables e below (s₁.setTop (mkF m 50 #[.val (.ref a0), .val (.int (0 : Int32)), .val (.int (4 : Int32)), .val (.double d3), .second, .val (.int (3 : Int32)), .val (.int (3 : Int32)), .val (.int (3 : Int32)), .val (.double ev3), .second, .unset, .unset, .unset, .unset] [(.int (cmpValue (FP.dcmp ev3 d3) .l))])) t
    refine XS.ifNo X0.here hx rfl (hb hby d7_50) rfl ((if0 _ _).trans (tlt (hb50 : (0 : Int32) < (cmpValue (FP.dcmp ev3 d3) .l))).2.2.2) ?_
    show Steps p.tables e below (s₁.setTop (mkF m 53 #[.val (.ref a0), .val (.int (0 : Int32)), .val (.int (4 : Int32)), .val (.double d3), .second, .val (.int (3 : Int32)), .val (.int (3 : Int32)), .val (.int (3 : Int32)), .val (.double ev3), .second, .unset, .unset, .unset, .unset] [])) t
    refine XS.iload X0.here hx rfl (hb hby d7_53) rfl ?_
    show Steps p.tables e below (s₁.setTop (mkF m 55 #[.val (.ref a0), .val (.int (0 : Int32)), .val (.int (4 : Int32)), .val (.double d3), .second, .val (.int (3 : Int32)), .val (.int (3 : Int32)), .val (.int (3 : Int32)), .val (.double ev3), .second, .unset, .unset, .unset, .unset] [(.int (3 : Int32))])) t
    refine XS.iconst X0.here hx rfl (hb hby d7_55) ?_
    show Steps p.tables e below (s₁.setTop (mkF m 56 #[.val (.ref a0), .val (.int (0 : Int32)), .val (.int (4 : Int32)), .val (.double d3), .second, .val (.int (3 : Int32)), .val (.int (3 : Int32)), .val (.int (3 : Int32)), .val (.double ev3), .second, .unset, .unset, .unset, .unset] [(.int (1 : Int32)), (.int (3 : Int32))])) t
    refine XS.isub X0.here hx rfl (hb hby d7_56) rfl ?_
    show Steps p.tables e below (s₁.setTop (mkF m 57 #[.val (.ref a0), .val (.int (0 : Int32)), .val (.int (4 : Int32)), .val (.double d3), .second, .val (.int (3 : Int32)), .val (.int (3 : Int32)), .val (.int (3 : Int32)), .val (.double ev3), .second, .unset, .unset, .unset, .unset] [(.int (2 : Int32))])) t
    refine XS.istore X0.here hx rfl (hb hby d7_57) rfl (l' := #[.val (.ref a0), .val (.int (0 : Int32)), .val (.int (4 : Int32)), .val (.double d3), .second, .val (.int (3 : Int32)), .val (.int (2 : Int32)), .val (.int (3 : Int32)), .val (.double ev3), .second, .unset, .unset, .unset, .unset]) rfl ?_
    show Steps p.tables e below (s₁.setTop (mkF m 59 #[.val (.ref a0), .val (.int (0 : Int32)), .val (.int (4 : Int32)), .val (.double d3), .second, .val (.int (3 : Int32)), .val (.int (2 : Int32)), .val (.int (3 : Int32)), .val (.double ev3), .second, .unset, .unset, .unset, .unset] [])) t
    refine XS.goto X0.here hx rfl (pc0 := 59) (pc' := 109) rfl (hb hby d7_59) (by decide) (by decide) ?_
    show Steps p.tables e below (s₁.setTop (mkF m 109 #[.val (.ref a0), .val (.int (0 : Int32)), .val (.int (4 : Int32)), .val (.double d3), .second, .val (.int (3 : Int32)), .val (.int (2 : Int32)), .val (.int (3 : Int32)), .val (.double ev3), .second, .unset, .unset, .unset, .unset] [])) t
    refine XS.goto X0.here hx rfl (pc0 := 109) (pc' := 8) rfl (hb hby d7_109) (by decide) (by decide) ?_
    show Steps p.tables e below (s₁.setTop (mkF m 8 #[.val (.ref a0), .val (.int (0 : Int32)), .val (.int (4 : Int32)), .val (.double d3), .second, .val (.int (3 : Int32)), .val (.int (2 : Int32)), .val (.int (3 : Int32)), .val (.double ev3), .second, .unset, .unset, .unset, .unset] [])) t
    refine XS.iload X0.here hx rfl (hb hby d7_8) rfl ?_
    show Steps p.tables e below (s₁.setTop (mkF m 10 #[.val (.ref a0), .val (.int (0 : Int32)), .val (.int (4 : Int32)), .val (.double d3), .second, .val (.int (3 : Int32)), .val (.int (2 : Int32)), .val (.int (3 : Int32)), .val (.double ev3), .second, .unset, .unset, .unset, .unset] [(.int (3 : Int32))])) t
    refine XS.iload X0.here hx rfl (hb hby d7_10) rfl ?_
    show Steps p.tables e below (s₁.setTop (mkF m 12 #[.val (.ref a0), .val (.int (0 : Int32)), .val (.int (4 : Int32)), .val (.double d3), .second, .val (.int (3 : Int32)), .val (.int (2 : Int32)), .val (.int (3 : Int32)), .val (.double ev3), .second, .unset, .unset, .unset, .unset] [(.int (2 : Int32)), (.int (3 : Int32))])) t
    refine XS.icmpYes X0.here hx rfl (pc0 := 12) (pc' := 112) rfl (hb hby d7_12) rfl (by decide) (by decide) (by decide) ?_
    show Steps p.tables e below (s₁.setTop (mkF m 112 #[.val (.ref a0), .val (.int (0 : Int32)), .val (.int (4 : Int32)), .val (.double d3), .second, .val (.int (3 : Int32)), .val (.int (2 : Int32)), .val (.int (3 : Int32)), .val (.double ev3), .second, .unset, .unset, .unset, .unset] [])) t
    refine XS.iload X0.here hx rfl (hb hby d7_112) rfl ?_
    show Steps p.tables e below (s₁.setTop (mkF m 114 #[.val (.ref a0), .val (.int (0 : Int32)), .val (.int (4 : Int32)), .val (.double d3), .second, .val (.int (3 : Int32)), .val (.int (2 : Int32)), .val (.int (3 : Int32)), .val (.double ev3), .second, .unset, .unset, .unset, .unset] [(.int (3 : Int32))])) t
    refine XS.iconst X0.here hx rfl (hb hby d7_114) ?_
    show Steps p.tables e below (s₁.setTop (mkF m 115 #[.val (.ref a0), .val (.int (0 : Int32)), .val (.int (4 : Int32)), .val (.double d3), .second, .val (.int (3 : Int32)), .val (.int (2 : Int32)), .val (.int (3 : Int32)), .val (.double ev3), .second, .unset, .unset, .unset, .unset] [(.int (1 : Int32)), (.int (3 : Int32))])) t
    refine XS.iadd X0.here hx rfl (hb hby d7_115) rfl ?_
    show Steps p.tables e below (s₁.setTop (mkF m 116 #[.val (.ref a0), .val (.int (0 : Int32)), .val (.int (4 : Int32)), .val (.double d3), .second, .val (.int (3 : Int32)), .val (.int (2 : Int32)), .val (.int (3 : Int32)), .val (.double ev3), .second, .unset, .unset, .unset, .unset] [(.int (4 : Int32))])) t
    refine XS.ineg X0.here hx rfl (hb hby d7_116) rfl ?_
    exact k
  refine own_retI X0 hx hlk Bd.returns (hb hby d7_117) (by decide) (by decide) ?_
  show Qsllg Z a0 d3 kk_a0 ev0 ev1 ev2 ev3 h0 n0 (some (.int (-4 : Int32))) s₁.heap _
  rw [(e0 : s₁.heap = h0)]
  exact ⟨rfl, N0, rfl⟩
theorem pntllg : plainName "java/util/Arrays" = true := by first | (simp [plainName, overriddenIn]; done) | decide +kernel
theorem pdtllg_0 : parseMethodDescriptor "([DIID)I" = some ⟨[(.array .double), .int, .int, .double], some .int⟩ := by decide +kernel
theorem eftllg (m : MethodId) (a0 : Addr) (d1 : UInt64) : entryFrame m #[(.ref a0), (.double d1)] 3 = mkF m 0 #[.val (.ref a0), .val (.double d1), .second] [] := by first | (simp [entryFrame, mkF, argsToLocals, Value.category]; done) | rfl
def Qtllg (Z : State) (a0 : Addr) (d1 : UInt64) (kk_a0 : ClassId) (ev0 : UInt64) (ev1 : UInt64) (ev2 : UInt64) (ev3 : UInt64) (h0 : Heap) (n0 : Nat) (v : Option Value) (h : Heap) (L : List Loc) : Prop := v = some (.int (-4 : Int32)) ∧ Fr n0 L ∧ h = h0
set_option maxRecDepth 65536 in
set_option maxHeartbeats 40000000 in
theorem rmtllg (l : Launch) (Z : State) (ar : Array Value) (hw : ∀ d ∈ tables_1, d.before ar Z = true) (ws : List Jvm.Cond) (a0 : Addr) (d1 : UInt64) (kk_a0 : ClassId) (ev0 : UInt64) (ev1 : UInt64) (ev2 : UInt64) (ev3 : UInt64) (h0 : Heap) (n0 : Nat) (Z0 : n0 ≤ h0.size) (V_a0 : Arv Z h0 a0 kk_a0 .double (4 : Int32) [(.double ev0), (.double ev1), (.double ev2), (.double ev3)] (.double (0 : UInt64))) (h5_hb34 : (cmpValue (FP.dcmp ev1 d1) .g) < (0 : Int32)) (h5_hb34_1 : (cmpValue (FP.dcmp ev2 d1) .g) < (0 : Int32)) (h5_hb34_2 : ¬ ((cmpValue (FP.dcmp ev3 d1) .g) < (0 : Int32))) (h5_hb50 : (0 : Int32) < (cmpValue (FP.dcmp ev3 d1) .l)) :
    MetFree l (⟨"java/util/Arrays", "binarySearch", "([DD)I"⟩ : MethodName) (head1 (Jvm.Cond.code (⟨"java/util/Arrays", "binarySearch", "([DD)I"⟩ : MethodName) jdk_65_method_69_code 3 (some .int) :: ws) ({ frames := 1, cells := 0, slots := 0, locals := 25 } : Room)) (fun a U => a = #[(.ref a0), (.double d1)] ∧ Z.Warmed39 U.vm ∧ U.heap = h0) (fun _ _ _ _ _ => True) (fun _ U o U' => ∃ v L, o = .returned v ∧ Qtllg Z a0 d1 kk_a0 ev0 ev1 ev2 ev3 h0 n0 v U'.heap L ∧ FrameEnd U o U' L ({ frames := 1, cells := 0, slots := 0, locals := 25 } : Room).cells ({ frames := 1, cells := 0, slots := 0, locals := 25 } : Room).slots) := by
  refine MetFree.of_bodySF (plainFor_of_name pntllg) hisR ?_
  intro p e s m args below meth c s₁ Bd hml0 hP hK
  obtain ⟨rfl, hZ, hh⟩ := hP
  have hx := Bd.exec
  have hby := Bd.bytes
  have hlk := Bd.notSynchronized
  have hml : c.maxLocals = 3 := hml0
  have hown : s.vm.findClass "java/util/Arrays" = some m.cls := findClass_of_methodNamed Bd.named
  have hnm := (name_of_methodNamed Bd.named Bd.method).1
  have X0 : Stand p l e ({ frames := 1, cells := 0, slots := 0, locals := 25 } : Room) s m #[(.ref a0), (.double d1)] below meth c s₁ [] 0 0 := Stand.of_body Bd
  have e0 : s₁.heap = h0 := by rw [← hh, Bd.state]; rfl
  have N0 := Fr.nil n0
  have K0 := Keep.refl h0 []
  refine own_enter (Q := Qtllg Z a0 d1 kk_a0 ev0 ev1 ev2 ev3 h0 n0) (eftllg m a0 d1) ?_
  refine own_st (T' := s₁) (g' := (mkF m 3 #[.val (.ref a0), .val (.double d1), .second] [(.ref a0), (.int (0 : Int32)), (.ref a0)])) (fun t k => ?_) ?_
  · show Steps p.tables e below (s₁.setTop (mkF m 0 #[.val (.ref a0), .val (.double d1), .second] [])) t
    refine XS.aloadN X0.here hx rfl (hb hby d6_0) rfl rfl ?_
    refine XS.iconst X0.here hx rfl (hb hby d6_1) ?_
    refine XS.aloadN X0.here hx rfl (hb hby d6_2) rfl rfl ?_
    exact k
  obtain ⟨c1, r1a, -, r1c, r1d, -, -⟩ := id V_a0
  refine own_st (T' := s₁) (g' := (mkF m 5 #[.val (.ref a0), .val (.double d1), .second] [(.double d1), (.int (4 : Int32)), (.int (0 : Int32)), (.ref a0)])) (fun t k => ?_) ?_
  · show Steps p.tables e below (s₁.setTop (mkF m 3 #[.val (.ref a0), .val (.double d1), .second] [(.ref a0), (.int (0 : Int32)), (.ref a0)])) t
    refine X0.arraylength hx (by rw [e0]; exact r1a.1) (State.isArrayOf_alike hZ.alike r1a.2.1) (g := (mkF m 3 #[.val (.ref a0), .val (.double d1), .second] [(.ref a0), (.int (0 : Int32)), (.ref a0)])) rfl rfl (hb hby d6_3) _ ?_
    rw [len_of r1c r1d]
    refine XS.dloadN X0.here hx rfl (hb hby d6_4) rfl ?_
    exact k
  obtain ⟨_, _, ⟨T2, L2, k2, n2⟩, -, X2, ⟨Lc2, hQ2, l2, y2, z2⟩, st2⟩ := Jvm.LawKit.callS X0 hx (y := (⟨"java/util/Arrays", "binarySearch0", "([DIID)I"⟩ : MethodName)) hown (mvT hZ (hw _ (List.mem_of_getElem? (i := 42) rfl))) (mvT hZ (hw _ (List.mem_of_getElem? (i := 43) rfl))) (mvT hZ (hw _ (List.mem_of_getElem? (i := 40) rfl))) (mvT hZ (hw _ (List.mem_of_getElem? (i := 44) rfl))) (by decide) (backOf (W := 0) (rmsllg l Z ar hw [] a0 d1 kk_a0 ev0 ev1 ev2 ev3 h0 n0 Z0 V_a0 h5_hb34 h5_hb34_1 h5_hb34_2 h5_hb50) hZ (hw _ (List.mem_of_getElem? (i := 44) rfl)) (hw _ (List.mem_of_getElem? (i := 40) rfl)) (by decide) (by decide)) (g := (mkF m 5 #[.val (.ref a0), .val (.double d1), .second] [(.double d1), (.int (4 : Int32)), (.int (0 : Int32)), (.ref a0)])) rfl (by rw [hml]; rfl) (argsL := [(.ref a0), (.int (0 : Int32)), (.int (4 : Int32)), (.double d1)]) (rest := []) (lenOf pdtllg_0 rfl) rfl (by show 2 * 0 + _ ≤ _; exact Nat.le_of_eq rfl) (hb hby d6_5) (fun _ _ => ⟨rfl, e0, (by decide : 0 + 0 ≤ _), (by decide : 0 + 0 ≤ _)⟩)
  dsimp only [Pt.U, Pt.locs, Pt.cells, Pt.slots] at X2 l2 y2 z2 st2 hQ2
  subst l2 y2 z2
  obtain ⟨rfl, N2q, e2⟩ := hQ2
  have n3 := Fr.app N0 N2q
  refine own_st (T' := T2) (g' := (mkF m 8 #[.val (.ref a0), .val (.double d1), .second] [(.int (-4 : Int32))])) st2 ?_
  refine own_retI X2 hx hlk Bd.returns (hb hby d6_8) (by decide) (by decide) ?_
  show Qtllg Z a0 d1 kk_a0 ev0 ev1 ev2 ev3 h0 n0 (some (.int (-4 : Int32))) T2.heap _
  rw [(e2 : T2.heap = h0)]
  exact ⟨rfl, n3, rfl⟩
theorem pnsgl : plainName "java/util/Arrays" = true := by first | (simp [plainName, overriddenIn]; done) | decide +kernel
theorem efsgl (m : MethodId) (a0 : Addr) (d3 : UInt64) : entryFrame m #[(.ref a0), (.int (0 : Int32)), (.int (4 : Int32)), (.double d3)] 14 = mkF m 0 #[.val (.ref a0), .val (.int (0 : Int32)), .val (.int (4 : Int32)), .val (.double d3), .second, .unset, .unset, .unset, .unset, .unset, .unset, .unset, .unset, .unset] [] := by first | (simp [entryFrame, mkF, argsToLocals, Value.category]; done) | rfl
def Qsgl (Z : State) (a0 : Addr) (d3 : UInt64) (kk_a0 : ClassId) (ev0 : UInt64) (ev1 : UInt64) (ev2 : UInt64) (ev3 : UInt64) (h0 : Heap) (n0 : Nat) (v : Option Value) (h : Heap) (L : List Loc) : Prop := v = some (.int (-2 : Int32)) ∧ Fr n0 L ∧ h = h0
set_option maxRecDepth 65536 in
set_option maxHeartbeats 40000000 in
theorem rmsgl (l : Launch) (Z : State) (ar : Array Value) (hw : ∀ d ∈ tables_1, d.before ar Z = true) (ws : List Jvm.Cond) (a0 : Addr) (d3 : UInt64) (kk_a0 : ClassId) (ev0 : UInt64) (ev1 : UInt64) (ev2 : UInt64) (ev3 : UInt64) (h0 : Heap) (n0 : Nat) (Z0 : n0 ≤ h0.size) (V_a0 : Arv Z h0 a0 kk_a0 .double (4 : Int32) [(.double ev0), (.double ev1), (.double ev2), (.double ev3)] (.double (0 : UInt64))) (hb34 : ¬ ((cmpValue (FP.dcmp ev1 d3) .g) < (0 : Int32))) (hb50 : (0 : Int32) < (cmpValue (FP.dcmp ev1 d3) .l)) (hb34_1 : (cmpValue (FP.dcmp ev0 d3) .g) < (0 : Int32)) :
    MetFree l (⟨"java/util/Arrays", "binarySearch0", "([DIID)I"⟩ : MethodName) (head1 (Jvm.Cond.code (⟨"java/util/Arrays", "binarySearch0", "([DIID)I"⟩ : MethodName) jdk_65_method_71_code 14 (some .int) :: ws) ({ frames := 0, cells := 0, slots := 0, locals := 0 } : Room)) (fun a U => a = #[(.ref a0), (.int (0 : Int32)), (.int (4 : Int32)), (.double d3)] ∧ Z.Warmed39 U.vm ∧ U.heap = h0) (fun _ _ _ _ _ => True) (fun _ U o U' => ∃ v L, o = .returned v ∧ Qsgl Z a0 d3 kk_a0 ev0 ev1 ev2 ev3 h0 n0 v U'.heap L ∧ FrameEnd U o U' L ({ frames := 0, cells := 0, slots := 0, locals := 0 } : Room).cells ({ frames := 0, cells := 0, slots := 0, locals := 0 } : Room).slots) := by
  refine MetFree.of_bodySF (plainFor_of_name pnsgl) hisR ?_
  intro p e s m args below meth c s₁ Bd hml0 hP hK
  obtain ⟨rfl, hZ, hh⟩ := hP
  have hx := Bd.exec
  have hby := Bd.bytes
  have hlk := Bd.notSynchronized
  have hml : c.maxLocals = 14 := hml0
  have hown : s.vm.findClass "java/util/Arrays" = some m.cls := findClass_of_methodNamed Bd.named
  have hnm := (name_of_methodNamed Bd.named Bd.method).1
  have X0 : Stand p l e ({ frames := 0, cells := 0, slots := 0, locals := 0 } : Room) s m #[(.ref a0), (.int (0 : Int32)), (.int (4 : Int32)), (.double d3)] below meth c s₁ [] 0 0 := Stand.of_body Bd
  have e0 : s₁.heap = h0 := by rw [← hh, Bd.state]; rfl
  have N0 := Fr.nil n0
  have K0 := Keep.refl h0 []
  refine own_enter (Q := Qsgl Z a0 d3 kk_a0 ev0 ev1 ev2 ev3 h0 n0) (efsgl m a0 d3) ?_
  refine own_st (T' := s₁) (g' := (mkF m 27 #[.val (.ref a0), .val (.int (0 : Int32)), .val (.int (4 : Int32)), .val (.double d3), .second, .val (.int (0 : Int32)), .val (.int (3 : Int32)), .val (.int (1 : Int32)), .unset, .unset, .unset, .unset, .unset, .unset] [(.int (1 : Int32)), (.ref a0)])) (fun t k => ?_) ?_
  · show Steps p.tables e below (s₁.setTop (mkF m 0 #[.val (.ref a0), .val (.int (0 : Int32)), .val (.int (4 : Int32)), .val (.double d3), .second, .unset, .unset, .unset, .unset, .unset, .unset, .unset, .unset, .unset] [])) t
    refine XS.iloadN X0.here hx rfl (hb hby d7_0) rfl ?_
    show Steps p.tables e below (s₁.setTop (mkF m 1 #[.val (.ref a0), .val (.int (0 : Int32)), .val (.int (4 : Int32)), .val (.double d3), .second, .unset, .unset, .unset, .unset, .unset, .unset, .unset, .unset, .unset] [(.int (0 : Int32))])) t
    refine XS.istore X0.here hx rfl (hb hby d7_1) rfl (l' := #[.val (.ref a0), .val (.int (0 : Int32)), .val (.int (4 : Int32)), .val (.double d3), .second, .val (.int (0 : Int32)), .unset, .unset, .unset, .unset, .unset, .unset, .unset, .unset]) rfl ?_
    show Steps p.tables e below (s₁.setTop (mkF m 3 #[.val (.ref a0), .val (.int (0 : Int32)), .val (.int (4 : Int32)), .val (.double d3), .second, .val (.int (0 : Int32)), .unset, .unset, .unset, .unset, .unset, .unset, .unset, .unset] [])) t
    refine XS.iloadN X0.here hx rfl (hb hby d7_3) rfl ?_
    show Steps p.tables e below (s₁.setTop (mkF m 4 #[.val (.ref a0), .val (.int (0 : Int32)), .val (.int (4 : Int32)), .val (.double d3), .second, .val (.int (0 : Int32)), .unset, .unset, .unset, .unset, .unset, .unset, .unset, .unset] [(.int (4 : Int32))])) t
    refine XS.iconst X0.here hx rfl (hb hby d7_4) ?_
    show Steps p.tables e below (s₁.setTop (mkF m 5 #[.val (.ref a0), .val (.int (0 : Int32)), .val (.int (4 : Int32)), .val (.double d3), .second, .val (.int (0 : Int32)), .unset, .unset, .unset, .unset, .unset, .unset, .unset, .unset] [(.int (1 : Int32)), (.int (4 : Int32))])) t
    refine XS.isub X0.here hx rfl (hb hby d7_5) rfl ?_
    show Steps p.tables e below (s₁.setTop (mkF m 6 #[.val (.ref a0), .val (.int (0 : Int32)), .val (.int (4 : Int32)), .val (.double d3), .second, .val (.int (0 : Int32)), .unset, .unset, .unset, .unset, .unset, .unset, .unset, .unset] [(.int (3 : Int32))])) t
    refine XS.istore X0.here hx rfl (hb hby d7_6) rfl (l' := #[.val (.ref a0), .val (.int (0 : Int32)), .val (.int (4 : Int32)), .val (.double d3), .second, .val (.int (0 : Int32)), .val (.int (3 : Int32)), .unset, .unset, .unset, .unset, .unset, .unset, .unset]) rfl ?_
    show Steps p.tables e below (s₁.setTop (mkF m 8 #[.val (.ref a0), .val (.int (0 : Int32)), .val (.int (4 : Int32)), .val (.double d3), .second, .val (.int (0 : Int32)), .val (.int (3 : Int32)), .unset, .unset, .unset, .unset, .unset, .unset, .unset] [])) t
    refine XS.iload X0.here hx rfl (hb hby d7_8) rfl ?_
    show Steps p.tables e below (s₁.setTop (mkF m 10 #[.val (.ref a0), .val (.int (0 : Int32)), .val (.int (4 : Int32)), .val (.double d3), .second, .val (.int (0 : Int32)), .val (.int (3 : Int32)), .unset, .unset, .unset, .unset, .unset, .unset, .unset] [(.int (0 : Int32))])) t
    refine XS.iload X0.here hx rfl (hb hby d7_10) rfl ?_
    show Steps p.tables e below (s₁.setTop (mkF m 12 #[.val (.ref a0), .val (.int (0 : Int32)), .val (.int (4 : Int32)), .val (.double d3), .second, .val (.int (0 : Int32)), .val (.int (3 : Int32)), .unset, .unset, .unset, .unset, .unset, .unset, .unset] [(.int (3 : Int32)), (.int (0 : Int32))])) t
    refine XS.icmpNo X0.here hx rfl (hb hby d7_12) rfl (by decide) ?_
    show Steps p.tables e below (s₁.setTop (mkF m 15 #[.val (.ref a0), .val (.int (0 : Int32)), .val (.int (4 : Int32)), .val (.double d3), .second, .val (.int (0 : Int32)), .val (.int (3 : Int32)), .unset, .unset, .unset, .unset, .unset, .unset, .unset] [])) t
    refine XS.iload X0.here hx rfl (hb hby d7_15) rfl ?_
    show Steps p.tables e below (s₁.setTop (mkF m 17 #[.val (.ref a0), .val (.int (0 : Int32)), .val (.int (4 : Int32)), .val (.double d3), .second, .val (.int (0 : Int32)), .val (.int (3 : Int32)), .unset, .unset, .unset, .unset, .unset, .unset, .unset] [(.int (0 : Int32))])) t
    refine XS.iload X0.here hx rfl (hb hby d7_17) rfl ?_
    show Steps p.tables e below (s₁.setTop (mkF m 19 #[.val (.ref a0), .val (.int (0 : Int32)), .val (.int (4 : Int32)), .val (.double d3), .second, .val (.int (0 : Int32)), .val (.int (3 : Int32)), .unset, .unset, .unset, .unset, .unset, .unset, .unset] [(.int (3 : Int32)), (.int (0 : Int32))])) t
    refine XS.iadd X0.here hx rfl (hb hby d7_19) rfl ?_
    show Steps p.tables e below (s₁.setTop (mkF m 20 #[.val (.ref a0), .val (.int (0 : Int32)), .val (.int (4 : Int32)), .val (.double d3), .second, .val (.int (0 : Int32)), .val (.int (3 : Int32)), .unset, .unset, .unset, .unset, .unset, .unset, .unset] [(.int (3 : Int32))])) t
    refine XS.iconst X0.here hx rfl (hb hby d7_20) ?_
    show Steps p.tables e below (s₁.setTop (mkF m 21 #[.val (.ref a0), .val (.int (0 : Int32)), .val (.int (4 : Int32)), .val (.double d3), .second, .val (.int (0 : Int32)), .val (.int (3 : Int32)), .unset, .unset, .unset, .unset, .unset, .unset, .unset] [(.int (1 : Int32)), (.int (3 : Int32))])) t
    refine XS.iushr X0.here hx rfl (hb hby d7_21) rfl ?_
    show Steps p.tables e below (s₁.setTop (mkF m 22 #[.val (.ref a0), .val (.int (0 : Int32)), .val (.int (4 : Int32)), .val (.double d3), .second, .val (.int (0 : Int32)), .val (.int (3 : Int32)), .unset, .unset, .unset, .unset, .unset, .unset, .unset] [(.int (1 : Int32))])) t
    refine XS.istore X0.here hx rfl (hb hby d7_22) rfl (l' := #[.val (.ref a0), .val (.int (0 : Int32)), .val (.int (4 : Int32)), .val (.double d3), .second, .val (.int (0 : Int32)), .val (.int (3 : Int32)), .val (.int (1 : Int32)), .unset, .unset, .unset, .unset, .unset, .unset]) rfl ?_
    show Steps p.tables e below (s₁.setTop (mkF m 24 #[.val (.ref a0), .val (.int (0 : Int32)), .val (.int (4 : Int32)), .val (.double d3), .second, .val (.int (0 : Int32)), .val (.int (3 : Int32)), .val (.int (1 : Int32)), .unset, .unset, .unset, .unset, .unset, .unset] [])) t
    refine XS.aloadN X0.here hx rfl (hb hby d7_24) rfl rfl ?_
    show Steps p.tables e below (s₁.setTop (mkF m 25 #[.val (.ref a0), .val (.int (0 : Int32)), .val (.int (4 : Int32)), .val (.double d3), .second, .val (.int (0 : Int32)), .val (.int (3 : Int32)), .val (.int (1 : Int32)), .unset, .unset, .unset, .unset, .unset, .unset] [(.ref a0)])) t
    refine XS.iload X0.here hx rfl (hb hby d7_25) rfl ?_
    exact k
  obtain ⟨c1, r1a, r1b, r1c, r1d, r1e, r1f⟩ := id V_a0
  have i1 : ¬ ((1 : Int32) < 0 ∨ c1.slots.size ≤ ((1 : Int32)).toNatClampNeg) := inb_of r1c ⟨by decide, by decide⟩
  have y1 : c1.slots[((1 : Int32)).toNatClampNeg]? = some (.double ev1) := r1e.at i1 rfl
  refine own_st (T' := s₁) (g' := (mkF m 27 #[.val (.ref a0), .val (.int (0 : Int32)), .val (.int (4 : Int32)), .val (.double d3), .second, .val (.int (0 : Int32)), .val (.int (0 : Int32)), .val (.int (0 : Int32)), .val (.double ev1), .second, .unset, .unset, .unset, .unset] [(.int (0 : Int32)), (.ref a0)])) (fun t k => ?_) ?_
  · show Steps p.tables e below (s₁.setTop (mkF m 27 #[.val (.ref a0), .val (.int (0 : Int32)), .val (.int (4 : Int32)), .val (.double d3), .second, .val (.int (0 : Int32)), .val (.int (3 : Int32)), .val (.int (1 : Int32)), .unset, .unset, .unset, .unset, .unset, .unset] [(.int (1 : Int32)), (.ref a0)])) t
    refine X0.daload hx (j := (1 : Int32)) (v := (.double ev1)) (by rw [e0]; exact r1a.1) (State.isArrayOf_alike hZ.alike r1a.2.1) r1a.2.2 i1 y1 (g := (mkF m 27 #[.val (.ref a0), .val (.int (0 : Int32)), .val (.int (4 : Int32)), .val (.double d3), .second, .val (.int (0 : Int32)), .val (.int (3 : Int32)), .val (.int (1 : Int32)), .unset, .unset, .unset, .unset, .unset, .unset] [(.int (1 : Int32)), (.ref a0)])) rfl rfl (hb hby d7_27) _ ?_
    show Steps p.tables e below (s₁.setTop (mkF m 28 #[.val (.ref a0), .val (.int (0 : Int32)), .val (.int (4 : Int32)), .val (.double d3), .second, .val (.int (0 : Int32)), .val (.int (3 : Int32)), .val (.int (1 : Int32)), .unset, .unset, .unset, .unset, .unset, .unset] [(.double ev1)])) t
    refine XS.dstore X0.here hx rfl (hb hby d7_28) rfl (l' := #[.val (.ref a0), .val (.int (0 : Int32)), .val (.int (4 : Int32)), .val (.double d3), .second, .val (.int (0 : Int32)), .val (.int (3 : Int32)), .val (.int (1 : Int32)), .val (.double ev1), .second, .unset, .unset, .unset, .unset]) rfl ?_
    show Steps p.tables e below (s₁.setTop (mkF m 30 #[.val (.ref a0), .val (.int (0 : Int32)), .val (.int (4 : Int32)), .val (.double d3), .second, .val (.int (0 : Int32)), .val (.int (3 : Int32)), .val (.int (1 : Int32)), .val (.double ev1), .second, .unset, .unset, .unset, .unset] [])) t
    refine XS.dload X0.here hx rfl (hb hby d7_30) rfl ?_
    show Steps p.tables e below (s₁.setTop (mkF m 32 #[.val (.ref a0), .val (.int (0 : Int32)), .val (.int (4 : Int32)), .val (.double d3), .second, .val (.int (0 : Int32)), .val (.int (3 : Int32)), .val (.int (1 : Int32)), .val (.double ev1), .second, .unset, .unset, .unset, .unset] [(.double ev1)])) t
    refine XS.dloadN X0.here hx rfl (hb hby d7_32) rfl ?_
    show Steps p.tables e below (s₁.setTop (mkF m 33 #[.val (.ref a0), .val (.int (0 : Int32)), .val (.int (4 : Int32)), .val (.double d3), .second, .val (.int (0 : Int32)), .val (.int (3 : Int32)), .val (.int (1 : Int32)), .val (.double ev1), .second, .unset, .unset, .unset, .unset] [(.double d3), (.double ev1)])) t
    refine XS.dcmpS X0.here hx rfl (hb hby d7_33) rfl rfl ?_
    show Steps p.tables e below (s₁.setTop (mkF m 34 #[.val (.ref a0), .val (.int (0 : Int32)), .val (.int (4 : Int32)), .val (.double d3), .second, .val (.int (0 : Int32)), .val (.int (3 : Int32)), .val (.int (1 : Int32)), .val (.double ev1), .second, .unset, .unset, .unset, .unset] [(.int (cmpValue (FP.dcmp ev1 d3) .g))])) t
    refine XS.ifYes X0.here hx rfl (pc0 := 34) (pc' := 46) rfl (hb hby d7_34) rfl ((if0 _ _).trans (flt (hb34 : ¬ ((cmpValue (FP.dcmp ev1 d3) .g) < (0 : Int32)))).2.1) (by decide) (by decide) ?_
    show Steps p.tables e below (s₁.setTop (mkF m 46 #[.val (.ref a0), .val (.int (0 : Int32)), .val (.int (4 : Int32)), .val (.double d3), .second, .val (.int (0 : Int32)), .val (.int (3 : Int32)), .val (.int (1 : Int32)), .val (.double ev1), .second, .unset, .unset, .unset, .unset] [])) t
    refine XS.dload X0.here hx rfl (hb hby d7_46) rfl ?_
    show Steps p.tables e below (s₁.setTop (mkF m 48 #[.val (.ref a0), .val (.int (0 : Int32)), .val (.int (4 : Int32)), .val (.double d3), .second, .val (.int (0 : Int32)), .val (.int (3 : Int32)), .val (.int (1 : Int32)), .val (.double ev1), .second, .unset, .unset, .unset, .unset] [(.double ev1)])) t
    refine XS.dloadN X0.here hx rfl (hb hby d7_48) rfl ?_
    show Steps p.tables e below (s₁.setTop (mkF m 49 #[.val (.ref a0), .val (.int (0 : Int32)), .val (.int (4 : Int32)), .val (.double d3), .second, .val (.int (0 : Int32)), .val (.int (3 : Int32)), .val (.int (1 : Int32)), .val (.double ev1), .second, .unset, .unset, .unset, .unset] [(.double d3), (.double ev1)])) t
    refine XS.dcmpS X0.here hx rfl (hb hby d7_49) rfl rfl ?_
    show Steps p.tables e below (s₁.setTop (mkF m 50 #[.val (.ref a0), .val (.int (0 : Int32)), .val (.int (4 : Int32)), .val (.double d3), .second, .val (.int (0 : Int32)), .val (.int (3 : Int32)), .val (.int (1 : Int32)), .val (.double ev1), .second, .unset, .unset, .unset, .unset] [(.int (cmpValue (FP.dcmp ev1 d3) .l))])) t
    refine XS.ifNo X0.here hx rfl (hb hby d7_50) rfl ((if0 _ _).trans (tlt (hb50 : (0 : Int32) < (cmpValue (FP.dcmp ev1 d3) .l))).2.2.2) ?_
    show Steps p.tables e below (s₁.setTop (mkF m 53 #[.val (.ref a0), .val (.int (0 : Int32)), .val (.int (4 : Int32)), .val (.double d3), .second, .val (.int (0 : Int32)), .val (.int (3 : Int32)), .val (.int (1 : Int32)), .val (.double ev1), .second, .unset, .unset, .unset, .unset] [])) t
    refine XS.iload X0.here hx rfl (hb hby d7_53) rfl ?_
    show Steps p.tables e below (s₁.setTop (mkF m 55 #[.val (.ref a0), .val (.int (0 : Int32)), .val (.int (4 : Int32)), .val (.double d3), .second, .val (.int (0 : Int32)), .val (.int (3 : Int32)), .val (.int (1 : Int32)), .val (.double ev1), .second, .unset, .unset, .unset, .unset] [(.int (1 : Int32))])) t
    refine XS.iconst X0.here hx rfl (hb hby d7_55) ?_
    show Steps p.tables e below (s₁.setTop (mkF m 56 #[.val (.ref a0), .val (.int (0 : Int32)), .val (.int (4 : Int32)), .val (.double d3), .second, .val (.int (0 : Int32)), .val (.int (3 : Int32)), .val (.int (1 : Int32)), .val (.double ev1), .second, .unset, .unset, .unset, .unset] [(.int (1 : Int32)), (.int (1 : Int32))])) t
    refine XS.isub X0.here hx rfl (hb hby d7_56) rfl ?_
    show Steps p.tables e below (s₁.setTop (mkF m 57 #[.val (.ref a0), .val (.int (0 : Int32)), .val (.int (4 : Int32)), .val (.double d3), .second, .val (.int (0 : Int32)), .val (.int (3 : Int32)), .val (.int (1 : Int32)), .val (.double ev1), .second, .unset, .unset, .unset, .unset] [(.int (0 : Int32))])) t
    refine XS.istore X0.here hx rfl (hb hby d7_57) rfl (l' := #[.val (.ref a0), .val (.int (0 : Int32)), .val (.int (4 : Int32)), .val (.double d3), .second, .val (.int (0 : Int32)), .val (.int (0 : Int32)), .val (.int (1 : Int32)), .val (.double ev1), .second, .unset, .unset, .unset, .unset]) rfl ?_
    show Steps p.tables e below (s₁.setTop (mkF m 59 #[.val (.ref a0), .val (.int (0 : Int32)), .val (.int (4 : Int32)), .val (.double d3), .second, .val (.int (0 : Int32)), .val (.int (0 : Int32)), .val (.int (1 : Int32)), .val (.double ev1), .second, .unset, .unset, .unset, .unset] [])) t
    refine XS.goto X0.here hx rfl (pc0 := 59) (pc' := 109) rfl (hb hby d7_59) (by decide) (by decide) ?_
    show Steps p.tables e below (s₁.setTop (mkF m 109 #[.val (.ref a0), .val (.int (0 : Int32)), .val (.int (4 : Int32)), .val (.double d3), .second, .val (.int (0 : Int32)), .val (.int (0 : Int32)), .val (.int (1 : Int32)), .val (.double ev1), .second, .unset, .unset, .unset, .unset] [])) t
    refine XS.goto X0.here hx rfl (pc0 := 109) (pc' := 8) rfl (hb hby d7_109) (by decide) (by decide) ?_
    show Steps p.tables e below (s₁.setTop (mkF m 8 #[.val (.ref a0), .val (.int (0 : Int32)), .val (.int (4 : Int32)), .val (.double d3), .second, .val (.int (0 : Int32)), .val (.int (0 : Int32)), .val (.int (1 : Int32)), .val (.double ev1), .second, .unset, .unset, .unset, .unset] [])) t
    refine XS.iload X0.here hx rfl (hb hby d7_8) rfl ?_
    show Steps p.tables e below (s₁.setTop (mkF m 10 #[.val (.ref a0), .val (.int (0 : Int32)), .val (.int (4 : Int32)), .val (.double d3), .second, .val (.int (0 : Int32)), .val (.int (0 : Int32)), .val (.int (1 : Int32)), .val (.double ev1), .second, .unset, .unset, .unset, .unset] [(.int (0 : Int32))])) t
    refine XS.iload X0.here hx rfl (hb hby d7_10) rfl ?_
    show Steps p.tables e below (s₁.setTop (mkF m 12 #[.val (.ref a0), .val (.int (0 : Int32)), .val (.int (4 : Int32)), .val (.double d3), .second, .val (.int (0 : Int32)), .val (.int (0 : Int32)), .val (.int (1 : Int32)), .val (.double ev1), .second, .unset, .unset, .unset, .unset] [(.int (0 : Int32)), (.int (0 : Int32))])) t
    refine XS.icmpNo X0.here hx rfl (hb hby d7_12) rfl (by decide) ?_
    show Steps p.tables e below (s₁.setTop (mkF m 15 #[.val (.ref a0), .val (.int (0 : Int32)), .val (.int (4 : Int32)), .val (.double d3), .second, .val (.int (0 : Int32)), .val (.int (0 : Int32)), .val (.int (1 : Int32)), .val (.double ev1), .second, .unset, .unset, .unset, .unset] [])) t
    refine XS.iload X0.here hx rfl (hb hby d7_15) rfl ?_
    show Steps p.tables e below (s₁.setTop (mkF m 17 #[.val (.ref a0), .val (.int (0 : Int32)), .val (.int (4 : Int32)), .val (.double d3), .second, .val (.int (0 : Int32)), .val (.int (0 : Int32)), .val (.int (1 : Int32)), .val (.double ev1), .second, .unset, .unset, .unset, .unset] [(.int (0 : Int32))])) t
    refine XS.iload X0.here hx rfl (hb hby d7_17) rfl ?_
    show Steps p.tables e below (s₁.setTop (mkF m 19 #[.val (.ref a0), .val (.int (0 : Int32)), .val (.int (4 : Int32)), .val (.double d3), .second, .val (.int (0 : Int32)), .val (.int (0 : Int32)), .val (.int (1 : Int32)), .val (.double ev1), .second, .unset, .unset, .unset, .unset] [(.int (0 : Int32)), (.int (0 : Int32))])) t
    refine XS.iadd X0.here hx rfl (hb hby d7_19) rfl ?_
    show Steps p.tables e below (s₁.setTop (mkF m 20 #[.val (.ref a0), .val (.int (0 : Int32)), .val (.int (4 : Int32)), .val (.double d3), .second, .val (.int (0 : Int32)), .val (.int (0 : Int32)), .val (.int (1 : Int32)), .val (.double ev1), .second, .unset, .unset, .unset, .unset] [(.int (0 : Int32))])) t
    refine XS.iconst X0.here hx rfl (hb hby d7_20) ?_
    show Steps p.tables e below (s₁.setTop (mkF m 21 #[.val (.ref a0), .val (.int (0 : Int32)), .val (.int (4 : Int32)), .val (.double d3), .second, .val (.int (0 : Int32)), .val (.int (0 : Int32)), .val (.int (1 : Int32)), .val (.double ev1), .second, .unset, .unset, .unset, .unset] [(.int (1 : Int32)), (.int (0 : Int32))])) t
    refine XS.iushr X0.here hx rfl (hb hby d7_21) rfl ?_
    show Steps p.tables e below (s₁.setTop (mkF m 22 #[.val (.ref a0), .val (.int (0 : Int32)), .val (.int (4 : Int32)), .val (.double d3), .second, .val (.int (0 : Int32)), .val (.int (0 : Int32)), .val (.int (1 : Int32)), .val (.double ev1), .second, .unset, .unset, .unset, .unset] [(.int (0 : Int32))])) t
    refine XS.istore X0.here hx rfl (hb hby d7_22) rfl (l' := #[.val (.ref a0), .val (.int (0 : Int32)), .val (.int (4 : Int32)), .val (.double d3), .second, .val (.int (0 : Int32)), .val (.int (0 : Int32)), .val (.int (0 : Int32)), .val (.double ev1), .second, .unset, .unset, .unset, .unset]) rfl ?_
    show Steps p.tables e below (s₁.setTop (mkF m 24 #[.val (.ref a0), .val (.int (0 : Int32)), .val (.int (4 : Int32)), .val (.double d3), .second, .val (.int (0 : Int32)), .val (.int (0 : Int32)), .val (.int (0 : Int32)), .val (.double ev1), .second, .unset, .unset, .unset, .unset] [])) t
    refine XS.aloadN X0.here hx rfl (hb hby d7_24) rfl rfl ?_
    show Steps p.tables e below (s₁.setTop (mkF m 25 #[.val (.ref a0), .val (.int (0 : Int32)), .val (.int (4 : Int32)), .val (.double d3), .second, .val (.int (0 : Int32)), .val (.int (0 : Int32)), .val (.int (0 : Int32)), .val (.double ev1), .second, .unset, .unset, .unset, .unset] [(.ref a0)])) t
    refine XS.iload X0.here hx rfl (hb hby d7_25) rfl ?_
    exact k
  obtain ⟨c2, r2a, r2b, r2c, r2d, r2e, r2f⟩ := id V_a0
  have i2 : ¬ ((0 : Int32) < 0 ∨ c2.slots.size ≤ ((0 : Int32)).toNatClampNeg) := inb_of r2c ⟨by decide, by decide⟩
  have y2 : c2.slots[((0 : Int32)).toNatClampNeg]? = some (.double ev0) := r2e.at i2 rfl
  refine own_st (T' := s₁) (g' := (mkF m 117 #[.val (.ref a0), .val (.int (0 : Int32)), .val (.int (4 : Int32)), .val (.double d3), .second, .val (.int (1 : Int32)), .val (.int (0 : Int32)), .val (.int (0 : Int32)), .val (.double ev0), .second, .unset, .unset, .unset, .unset] [(.int (-2 : Int32))])) (fun t k => ?_) ?_
  · show Steps p.tables e below (s₁.setTop (mkF m 27 #[.val (.ref a0), .val (.int (0 : Int32)), .val (.int (4 : Int32)), .val (.double d3), .second, .val (.int (0 : Int32)), .val (.int (0 : Int32)), .val (.int (0 : Int32)), .val (.double ev1), .second, .unset, .unset, .unset, .unset] [(.int (0 : Int32)), (.ref a0)])) t
    refine X0.daload hx (j := (0 : Int32)) (v := (.double ev0)) (by rw [e0]; exact r2a.1) (State.isArrayOf_alike hZ.alike r2a.2.1) r2a.2.2 i2 y2 (g := (mkF m 27 #[.val (.ref a0), .val (.int (0 : Int32)), .val (.int (4 : Int32)), .val (.double d3), .second, .val (.int (0 : Int32)), .val (.int (0 : Int32)), .val (.int (0 : Int32)), .val (.double ev1), .second, .unset, .unset, .unset, .unset] [(.int (0 : Int32)), (.ref a0)])) rfl rfl (hb hby d7_27) _ ?_
    show Steps p.tables e below (s₁.setTop (mkF m 28 #[.val (.ref a0), .val (.int (0 : Int32)), .val (.int (4 : Int32)), .val (.double d3), .second, .val (.int (0 : Int32)), .val (.int (0 : Int32)), .val (.int (0 : Int32)), .val (.double ev1), .second, .unset, .unset, .unset, .unset] [(.double ev0)])) t
    refine XS.dstore X0.here hx rfl (hb hby d7_28) rfl (l' := #[.val (.ref a0), .val (.int (0 : Int32)), .val (.int (4 : Int32)), .val (.double d3), .second, .val (.int (0 : Int32)), .val (.int (0 : Int32)), .val (.int (0 : Int32)), .val (.double ev0), .second, .unset, .unset, .unset, .unset]) rfl ?_
    show Steps p.tables e below (s₁.setTop (mkF m 30 #[.val (.ref a0), .val (.int (0 : Int32)), .val (.int (4 : Int32)), .val (.double d3), .second, .val (.int (0 : Int32)), .val (.int (0 : Int32)), .val (.int (0 : Int32)), .val (.double ev0), .second, .unset, .unset, .unset, .unset] [])) t
    refine XS.dload X0.here hx rfl (hb hby d7_30) rfl ?_
    show Steps p.tables e below (s₁.setTop (mkF m 32 #[.val (.ref a0), .val (.int (0 : Int32)), .val (.int (4 : Int32)), .val (.double d3), .second, .val (.int (0 : Int32)), .val (.int (0 : Int32)), .val (.int (0 : Int32)), .val (.double ev0), .second, .unset, .unset, .unset, .unset] [(.double ev0)])) t
    refine XS.dloadN X0.here hx rfl (hb hby d7_32) rfl ?_
    show Steps p.tables e below (s₁.setTop (mkF m 33 #[.val (.ref a0), .val (.int (0 : Int32)), .val (.int (4 : Int32)), .val (.double d3), .second, .val (.int (0 : Int32)), .val (.int (0 : Int32)), .val (.int (0 : Int32)), .val (.double ev0), .second, .unset, .unset, .unset, .unset] [(.double d3), (.double ev0)])) t
    refine XS.dcmpS X0.here hx rfl (hb hby d7_33) rfl rfl ?_
    show Steps p.tables e below (s₁.setTop (mkF m 34 #[.val (.ref a0), .val (.int (0 : Int32)), .val (.int (4 : Int32)), .val (.double d3), .second, .val (.int (0 : Int32)), .val (.int (0 : Int32)), .val (.int (0 : Int32)), .val (.double ev0), .second, .unset, .unset, .unset, .unset] [(.int (cmpValue (FP.dcmp ev0 d3) .g))])) t
    refine XS.ifNo X0.here hx rfl (hb hby d7_34) rfl ((if0 _ _).trans (tlt (hb34_1 : (cmpValue (FP.dcmp ev0 d3) .g) < (0 : Int32))).2.1) ?_
    show Steps p.tables e below (s₁.setTop (mkF m 37 #[.val (.ref a0), .val (.int (0 : Int32)), .val (.int (4 : Int32)), .val (.double d3), .second, .val (.int (0 : Int32)), .val (.int (0 : Int32)), .val (.int (0 : Int32)), .val (.double ev0), .second, .unset, .unset, .unset, .unset] [])) t
    refine XS.iload X0.here hx rfl (hb hby d7_37) rfl ?_
    show Steps p.tables e below (s₁.setTop (mkF m 39 #[.val (.ref a0), .val (.int (0 : Int32)), .val (.int (4 : Int32)), .val (.double d3), .second, .val (.int (0 : Int32)), .val (.int (0 : Int32)), .val (.int (0 : Int32)), .val (.double ev0), .second, .unset, .unset, .unset, .unset] [(.int (0 : Int32))])) t
    refine XS.iconst X0.here hx rfl (hb hby d7_39) ?_
    show Steps p.tables e below (s₁.setTop (mkF m 40 #[.val (.ref a0), .val (.int (0 : Int32)), .val (.int (4 : Int32)), .val (.double d3), .second, .val (.int (0 : Int32)), .val (.int (0 : Int32)), .val (.int (0 : Int32)), .val (.double ev0), .second, .unset, .unset, .unset, .unset] [(.int (1 : Int32)), (.int (0 : Int32))])) t
    refine XS.iadd X0.here hx rfl (hb hby d7_40) rfl ?_
    show Steps p.tables e below (s₁.setTop (mkF m 41 #[.val (.ref a0), .val (.int (0 : Int32)), .val (.int (4 : Int32)), .val (.double d3), .second, .val (.int (0 : Int32)), .val (.int (0 : Int32)), .val (.int (0 : Int32)), .val (.double ev0), .second, .unset, .unset, .unset, .unset] [(.int (1 : Int32))])) t
    refine XS.istore X0.here hx rfl (hb hby d7_41) rfl (l' := #[.val (.ref a0), .val (.int (0 : Int32)), .val (.int (4 : Int32)), .val (.double d3), .second, .val (.int (1 : Int32)), .val (.int (0 : Int32)), .val (.int (0 : Int32)), .val (.double ev0), .second, .unset, .unset, .unset, .unset]) rfl ?_
    show Steps p.tables e below (s₁.setTop (mkF m 43 #[.val (.ref a0), .val (.int (0 : Int32)), .val (.int (4 : Int32)), .val (.double d3), .second, .val (.int (1 : Int32)), .val (.int (0 : Int32)), .val (.int (0 : Int32)), .val (.double ev0), .second, .unset, .unset, .unset, .unset] [])) t
    refine XS.goto X0.here hx rfl (pc0 := 43) (pc' := 109) rfl (hb hby d7_43) (by decide) (by decide) ?_
    show Steps p.tables e below (s₁.setTop (mkF m 109 #[.val (.ref a0), .val (.int (0 : Int32)), .val (.int (4 : Int32)), .val (.double d3), .second, .val (.int (1 : Int32)), .val (.int (0 : Int32)), .val (.int (0 : Int32)), .val (.double ev0), .second, .unset, .unset, .unset, .unset] [])) t
    refine XS.goto X0.here hx rfl (pc0 := 109) (pc' := 8) rfl (hb hby d7_109) (by decide) (by decide) ?_
    show Steps p.tables e below (s₁.setTop (mkF m 8 #[.val (.ref a0), .val (.int (0 : Int32)), .val (.int (4 : Int32)), .val (.double d3), .second, .val (.int (1 : Int32)), .val (.int (0 : Int32)), .val (.int (0 : Int32)), .val (.double ev0), .second, .unset, .unset, .unset, .unset] [])) t
    refine XS.iload X0.here hx rfl (hb hby d7_8) rfl ?_
    show Steps p.tables e below (s₁.setTop (mkF m 10 #[.val (.ref a0), .val (.int (0 : Int32)), .val (.int (4 : Int32)), .val (.double d3), .second, .val (.int (1 : Int32)), .val (.int (0 : Int32)), .val (.int (0 : Int32)), .val (.double ev0), .second, .unset, .unset, .unset, .unset] [(.int (1 : Int32))])) t
    refine XS.iload X0.here hx rfl (hb hby d7_10) rfl ?_
    show Steps p.tables e below (s₁.setTop (mkF m 12 #[.val (.ref a0), .val (.int (0 : Int32)), .val (.int (4 : Int32)), .val (.double d3), .second, .val (.int (1 : Int32)), .val (.int (0 : Int32)), .val (.int (0 : Int32)), .val (.double ev0), .second, .unset, .unset, .unset, .unset] [(.int (0 : Int32)), (.int (1 : Int32))])) t
    refine XS.icmpYes X0.here hx rfl (pc0 := 12) (pc' := 112) rfl (hb hby d7_12) rfl (by decide) (by decide) (by decide) ?_
    show Steps p.tables e below (s₁.setTop (mkF m 112 #[.val (.ref a0), .val (.int (0 : Int32)), .val (.int (4 : Int32)), .val (.double d3), .second, .val (.int (1 : Int32)), .val (.int (0 : Int32)), .val (.int (0 : Int32)), .val (.double ev0), .second, .unset, .unset, .unset, .unset] [])) t
    refine XS.iload X0.here hx rfl (hb hby d7_112) rfl ?_
    show Steps p.tables e below (s₁.setTop (mkF m 114 #[.val (.ref a0), .val (.int (0 : Int32)), .val (.int (4 : Int32)), .val (.double d3), .second, .val (.int (1 : Int32)), .val (.int (0 : Int32)), .val (.int (0 : Int32)), .val (.double ev0), .second, .unset, .unset, .unset, .unset] [(.int (1 : Int32))])) t
    refine XS.iconst X0.here hx rfl (hb hby d7_114) ?_
    show Steps p.tables e below (s₁.setTop (mkF m 115 #[.val (.ref a0), .val (.int (0 : Int32)), .val (.int (4 : Int32)), .val (.double d3), .second, .val (.int (1 : Int32)), .val (.int (0 : Int32)), .val (.int (0 : Int32)), .val (.double ev0), .second, .unset, .unset, .unset, .unset] [(.int (1 : Int32)), (.int (1 : Int32))])) t
    refine XS.iadd X0.here hx rfl (hb hby d7_115) rfl ?_
    show Steps p.tables e below (s₁.setTop (mkF m 116 #[.val (.ref a0), .val (.int (0 : Int32)), .val (.int (4 : Int32)), .val (.double d3), .second, .val (.int (1 : Int32)), .val (.int (0 : Int32)), .val (.int (0 : Int32)), .val (.double ev0), .second, .unset, .unset, .unset, .unset] [(.int (2 : Int32))])) t
    refine XS.ineg X0.here hx rfl (hb hby d7_116) rfl ?_
    exact k
  refine own_retI X0 hx hlk Bd.returns (hb hby d7_117) (by decide) (by decide) ?_
  show Qsgl Z a0 d3 kk_a0 ev0 ev1 ev2 ev3 h0 n0 (some (.int (-2 : Int32))) s₁.heap _
  rw [(e0 : s₁.heap = h0)]
  exact ⟨rfl, N0, rfl⟩
theorem pntgl : plainName "java/util/Arrays" = true := by first | (simp [plainName, overriddenIn]; done) | decide +kernel
theorem pdtgl_0 : parseMethodDescriptor "([DIID)I" = some ⟨[(.array .double), .int, .int, .double], some .int⟩ := by decide +kernel
theorem eftgl (m : MethodId) (a0 : Addr) (d1 : UInt64) : entryFrame m #[(.ref a0), (.double d1)] 3 = mkF m 0 #[.val (.ref a0), .val (.double d1), .second] [] := by first | (simp [entryFrame, mkF, argsToLocals, Value.category]; done) | rfl
def Qtgl (Z : State) (a0 : Addr) (d1 : UInt64) (kk_a0 : ClassId) (ev0 : UInt64) (ev1 : UInt64) (ev2 : UInt64) (ev3 : UInt64) (h0 : Heap) (n0 : Nat) (v : Option Value) (h : Heap) (L : List Loc) : Prop := v = some (.int (-2 : Int32)) ∧ Fr n0 L ∧ h = h0
set_option maxRecDepth 65536 in
set_option maxHeartbeats 40000000 in
theorem rmtgl (l : Launch) (Z : State) (ar : Array Value) (hw : ∀ d ∈ tables_1, d.before ar Z = true) (ws : List Jvm.Cond) (a0 : Addr) (d1 : UInt64) (kk_a0 : ClassId) (ev0 : UInt64) (ev1 : UInt64) (ev2 : UInt64) (ev3 : UInt64) (h0 : Heap) (n0 : Nat) (Z0 : n0 ≤ h0.size) (V_a0 : Arv Z h0 a0 kk_a0 .double (4 : Int32) [(.double ev0), (.double ev1), (.double ev2), (.double ev3)] (.double (0 : UInt64))) (h5_hb34 : ¬ ((cmpValue (FP.dcmp ev1 d1) .g) < (0 : Int32))) (h5_hb50 : (0 : Int32) < (cmpValue (FP.dcmp ev1 d1) .l)) (h5_hb34_1 : (cmpValue (FP.dcmp ev0 d1) .g) < (0 : Int32)) :
    MetFree l (⟨"java/util/Arrays", "binarySearch", "([DD)I"⟩ : MethodName) (head1 (Jvm.Cond.code (⟨"java/util/Arrays", "binarySearch", "([DD)I"⟩ : MethodName) jdk_65_method_69_code 3 (some .int) :: ws) ({ frames := 1, cells := 0, slots := 0, locals := 25 } : Room)) (fun a U => a = #[(.ref a0), (.double d1)] ∧ Z.Warmed39 U.vm ∧ U.heap = h0) (fun _ _ _ _ _ => True) (fun _ U o U' => ∃ v L, o = .returned v ∧ Qtgl Z a0 d1 kk_a0 ev0 ev1 ev2 ev3 h0 n0 v U'.heap L ∧ FrameEnd U o U' L ({ frames := 1, cells := 0, slots := 0, locals := 25 } : Room).cells ({ frames := 1, cells := 0, slots := 0, locals := 25 } : Room).slots) := by
  refine MetFree.of_bodySF (plainFor_of_name pntgl) hisR ?_
  intro p e s m args below meth c s₁ Bd hml0 hP hK
  obtain ⟨rfl, hZ, hh⟩ := hP
  have hx := Bd.exec
  have hby := Bd.bytes
  have hlk := Bd.notSynchronized
  have hml : c.maxLocals = 3 := hml0
  have hown : s.vm.findClass "java/util/Arrays" = some m.cls := findClass_of_methodNamed Bd.named
  have hnm := (name_of_methodNamed Bd.named Bd.method).1
  have X0 : Stand p l e ({ frames := 1, cells := 0, slots := 0, locals := 25 } : Room) s m #[(.ref a0), (.double d1)] below meth c s₁ [] 0 0 := Stand.of_body Bd
  have e0 : s₁.heap = h0 := by rw [← hh, Bd.state]; rfl
  have N0 := Fr.nil n0
  have K0 := Keep.refl h0 []
  refine own_enter (Q := Qtgl Z a0 d1 kk_a0 ev0 ev1 ev2 ev3 h0 n0) (eftgl m a0 d1) ?_
  refine own_st (T' := s₁) (g' := (mkF m 3 #[.val (.ref a0), .val (.double d1), .second] [(.ref a0), (.int (0 : Int32)), (.ref a0)])) (fun t k => ?_) ?_
  · show Steps p.tables e below (s₁.setTop (mkF m 0 #[.val (.ref a0), .val (.double d1), .second] [])) t
    refine XS.aloadN X0.here hx rfl (hb hby d6_0) rfl rfl ?_
    refine XS.iconst X0.here hx rfl (hb hby d6_1) ?_
    refine XS.aloadN X0.here hx rfl (hb hby d6_2) rfl rfl ?_
    exact k
  obtain ⟨c1, r1a, -, r1c, r1d, -, -⟩ := id V_a0
  refine own_st (T' := s₁) (g' := (mkF m 5 #[.val (.ref a0), .val (.double d1), .second] [(.double d1), (.int (4 : Int32)), (.int (0 : Int32)), (.ref a0)])) (fun t k => ?_) ?_
  · show Steps p.tables e below (s₁.setTop (mkF m 3 #[.val (.ref a0), .val (.double d1), .second] [(.ref a0), (.int (0 : Int32)), (.ref a0)])) t
    refine X0.arraylength hx (by rw [e0]; exact r1a.1) (State.isArrayOf_alike hZ.alike r1a.2.1) (g := (mkF m 3 #[.val (.ref a0), .val (.double d1), .second] [(.ref a0), (.int (0 : Int32)), (.ref a0)])) rfl rfl (hb hby d6_3) _ ?_
    rw [len_of r1c r1d]
    refine XS.dloadN X0.here hx rfl (hb hby d6_4) rfl ?_
    exact k
  obtain ⟨_, _, ⟨T2, L2, k2, n2⟩, -, X2, ⟨Lc2, hQ2, l2, y2, z2⟩, st2⟩ := Jvm.LawKit.callS X0 hx (y := (⟨"java/util/Arrays", "binarySearch0", "([DIID)I"⟩ : MethodName)) hown (mvT hZ (hw _ (List.mem_of_getElem? (i := 42) rfl))) (mvT hZ (hw _ (List.mem_of_getElem? (i := 43) rfl))) (mvT hZ (hw _ (List.mem_of_getElem? (i := 40) rfl))) (mvT hZ (hw _ (List.mem_of_getElem? (i := 44) rfl))) (by decide) (backOf (W := 0) (rmsgl l Z ar hw [] a0 d1 kk_a0 ev0 ev1 ev2 ev3 h0 n0 Z0 V_a0 h5_hb34 h5_hb50 h5_hb34_1) hZ (hw _ (List.mem_of_getElem? (i := 44) rfl)) (hw _ (List.mem_of_getElem? (i := 40) rfl)) (by decide) (by decide)) (g := (mkF m 5 #[.val (.ref a0), .val (.double d1), .second] [(.double d1), (.int (4 : Int32)), (.int (0 : Int32)), (.ref a0)])) rfl (by rw [hml]; rfl) (argsL := [(.ref a0), (.int (0 : Int32)), (.int (4 : Int32)), (.double d1)]) (rest := []) (lenOf pdtgl_0 rfl) rfl (by show 2 * 0 + _ ≤ _; exact Nat.le_of_eq rfl) (hb hby d6_5) (fun _ _ => ⟨rfl, e0, (by decide : 0 + 0 ≤ _), (by decide : 0 + 0 ≤ _)⟩)
  dsimp only [Pt.U, Pt.locs, Pt.cells, Pt.slots] at X2 l2 y2 z2 st2 hQ2
  subst l2 y2 z2
  obtain ⟨rfl, N2q, e2⟩ := hQ2
  have n3 := Fr.app N0 N2q
  refine own_st (T' := T2) (g' := (mkF m 8 #[.val (.ref a0), .val (.double d1), .second] [(.int (-2 : Int32))])) st2 ?_
  refine own_retI X2 hx hlk Bd.returns (hb hby d6_8) (by decide) (by decide) ?_
  show Qtgl Z a0 d1 kk_a0 ev0 ev1 ev2 ev3 h0 n0 (some (.int (-2 : Int32))) T2.heap _
  rw [(e2 : T2.heap = h0)]
  exact ⟨rfl, n3, rfl⟩
theorem pnsge : plainName "java/util/Arrays" = true := by first | (simp [plainName, overriddenIn]; done) | decide +kernel
theorem pdsge_0 : parseMethodDescriptor "(D)J" = some ⟨[.double], some .long⟩ := by decide +kernel
theorem efsge (m : MethodId) (a0 : Addr) (d3 : UInt64) : entryFrame m #[(.ref a0), (.int (0 : Int32)), (.int (4 : Int32)), (.double d3)] 14 = mkF m 0 #[.val (.ref a0), .val (.int (0 : Int32)), .val (.int (4 : Int32)), .val (.double d3), .second, .unset, .unset, .unset, .unset, .unset, .unset, .unset, .unset, .unset] [] := by first | (simp [entryFrame, mkF, argsToLocals, Value.category]; done) | rfl
def Qsge (Z : State) (a0 : Addr) (d3 : UInt64) (kk_a0 : ClassId) (ev0 : UInt64) (ev1 : UInt64) (ev2 : UInt64) (ev3 : UInt64) (h0 : Heap) (n0 : Nat) (v : Option Value) (h : Heap) (L : List Loc) : Prop := v = some (.int (0 : Int32)) ∧ Fr n0 L ∧ h = h0
set_option maxRecDepth 65536 in
set_option maxHeartbeats 40000000 in
theorem rmsge (l : Launch) (Z : State) (ar : Array Value) (hw : ∀ d ∈ tables_1, d.before ar Z = true) (ws : List Jvm.Cond) (a0 : Addr) (d3 : UInt64) (kk_a0 : ClassId) (ev0 : UInt64) (ev1 : UInt64) (ev2 : UInt64) (ev3 : UInt64) (h0 : Heap) (n0 : Nat) (Z0 : n0 ≤ h0.size) (V_a0 : Arv Z h0 a0 kk_a0 .double (4 : Int32) [(.double ev0), (.double ev1), (.double ev2), (.double ev3)] (.double (0 : UInt64))) (hb34 : ¬ ((cmpValue (FP.dcmp ev1 d3) .g) < (0 : Int32))) (hb50 : (0 : Int32) < (cmpValue (FP.dcmp ev1 d3) .l)) (hb34_1 : ¬ ((cmpValue (FP.dcmp ev0 d3) .g) < (0 : Int32))) (hb50_1 : ¬ ((0 : Int32) < (cmpValue (FP.dcmp ev0 d3) .l))) (h64_h1_hq_0 : (cmpValue (FP.dcmp ev0 ev0) .l) = (0 : Int32)) (h70_h1_hq_0 : (cmpValue (FP.dcmp d3 d3) .l) = (0 : Int32)) (hb80 : ev0.toInt64 = d3.toInt64) :
    MetFree l (⟨"java/util/Arrays", "binarySearch0", "([DIID)I"⟩ : MethodName) (head1 (Jvm.Cond.code (⟨"java/util/Arrays", "binarySearch0", "([DIID)I"⟩ : MethodName) jdk_65_method_71_code 14 (some .int) :: ws) ({ frames := 2, cells := 0, slots := 0, locals := 28 } : Room)) (fun a U => a = #[(.ref a0), (.int (0 : Int32)), (.int (4 : Int32)), (.double d3)] ∧ Z.Warmed39 U.vm ∧ U.heap = h0) (fun _ _ _ _ _ => True) (fun _ U o U' => ∃ v L, o = .returned v ∧ Qsge Z a0 d3 kk_a0 ev0 ev1 ev2 ev3 h0 n0 v U'.heap L ∧ FrameEnd U o U' L ({ frames := 2, cells := 0, slots := 0, locals := 28 } : Room).cells ({ frames := 2, cells := 0, slots := 0, locals := 28 } : Room).slots) := by
  refine MetFree.of_bodySF (plainFor_of_name pnsge) hisR ?_
  intro p e s m args below meth c s₁ Bd hml0 hP hK
  obtain ⟨rfl, hZ, hh⟩ := hP
  have hx := Bd.exec
  have hby := Bd.bytes
  have hlk := Bd.notSynchronized
  have hml : c.maxLocals = 14 := hml0
  have hown : s.vm.findClass "java/util/Arrays" = some m.cls := findClass_of_methodNamed Bd.named
  have hnm := (name_of_methodNamed Bd.named Bd.method).1
  have X0 : Stand p l e ({ frames := 2, cells := 0, slots := 0, locals := 28 } : Room) s m #[(.ref a0), (.int (0 : Int32)), (.int (4 : Int32)), (.double d3)] below meth c s₁ [] 0 0 := Stand.of_body Bd
  have e0 : s₁.heap = h0 := by rw [← hh, Bd.state]; rfl
  have N0 := Fr.nil n0
  have K0 := Keep.refl h0 []
  refine own_enter (Q := Qsge Z a0 d3 kk_a0 ev0 ev1 ev2 ev3 h0 n0) (efsge m a0 d3) ?_
  refine own_st (T' := s₁) (g' := (mkF m 27 #[.val (.ref a0), .val (.int (0 : Int32)), .val (.int (4 : Int32)), .val (.double d3), .second, .val (.int (0 : Int32)), .val (.int (3 : Int32)), .val (.int (1 : Int32)), .unset, .unset, .unset, .unset, .unset, .unset] [(.int (1 : Int32)), (.ref a0)])) (fun t k => ?_) ?_
  · show Steps p.tables e below (s₁.setTop (mkF m 0 #[.val (.ref a0), .val (.int (0 : Int32)), .val (.int (4 : Int32)), .val (.double d3), .second, .unset, .unset, .unset, .unset, .unset, .unset, .unset, .unset, .unset] [])) t
    refine XS.iloadN X0.here hx rfl (hb hby d7_0) rfl ?_
    show Steps p.tables e below (s₁.setTop (mkF m 1 #[.val (.ref a0), .val (.int (0 : Int32)), .val (.int (4 : Int32)), .val (.double d3), .second, .unset, .unset, .unset, .unset, .unset, .unset, .unset, .unset, .unset] [(.int (0 : Int32))])) t
    refine XS.istore X0.here hx rfl (hb hby d7_1) rfl (l' := #[.val (.ref a0), .val (.int (0 : Int32)), .val (.int (4 : Int32)), .val (.double d3), .second, .val (.int (0 : Int32)), .unset, .unset, .unset, .unset, .unset, .unset, .unset, .unset]) rfl ?_
    show Steps p.tables e below (s₁.setTop (mkF m 3 #[.val (.ref a0), .val (.int (0 : Int32)), .val (.int (4 : Int32)), .val (.double d3), .second, .val (.int (0 : Int32)), .unset, .unset, .unset, .unset, .unset, .unset, .unset, .unset] [])) t
    refine XS.iloadN X0.here hx rfl (hb hby d7_3) rfl ?_
    show Steps p.tables e below (s₁.setTop (mkF m 4 #[.val (.ref a0), .val (.int (0 : Int32)), .val (.int (4 : Int32)), .val (.double d3), .second, .val (.int (0 : Int32)), .unset, .unset, .unset, .unset, .unset, .unset, .unset, .unset] [(.int (4 : Int32))])) t
    refine XS.iconst X0.here hx rfl (hb hby d7_4) ?_
    show Steps p.tables e below (s₁.setTop (mkF m 5 #[.val (.ref a0), .val (.int (0 : Int32)), .val (.int (4 : Int32)), .val (.double d3), .second, .val (.int (0 : Int32)), .unset, .unset, .unset, .unset, .unset, .unset, .unset, .unset] [(.int (1 : Int32)), (.int (4 : Int32))])) t
    refine XS.isub X0.here hx rfl (hb hby d7_5) rfl ?_
    show Steps p.tables e below (s₁.setTop (mkF m 6 #[.val (.ref a0), .val (.int (0 : Int32)), .val (.int (4 : Int32)), .val (.double d3), .second, .val (.int (0 : Int32)), .unset, .unset, .unset, .unset, .unset, .unset, .unset, .unset] [(.int (3 : Int32))])) t
    refine XS.istore X0.here hx rfl (hb hby d7_6) rfl (l' := #[.val (.ref a0), .val (.int (0 : Int32)), .val (.int (4 : Int32)), .val (.double d3), .second, .val (.int (0 : Int32)), .val (.int (3 : Int32)), .unset, .unset, .unset, .unset, .unset, .unset, .unset]) rfl ?_
    show Steps p.tables e below (s₁.setTop (mkF m 8 #[.val (.ref a0), .val (.int (0 : Int32)), .val (.int (4 : Int32)), .val (.double d3), .second, .val (.int (0 : Int32)), .val (.int (3 : Int32)), .unset, .unset, .unset, .unset, .unset, .unset, .unset] [])) t
    refine XS.iload X0.here hx rfl (hb hby d7_8) rfl ?_
    show Steps p.tables e below (s₁.setTop (mkF m 10 #[.val (.ref a0), .val (.int (0 : Int32)), .val (.int (4 : Int32)), .val (.double d3), .second, .val (.int (0 : Int32)), .val (.int (3 : Int32)), .unset, .unset, .unset, .unset, .unset, .unset, .unset] [(.int (0 : Int32))])) t
    refine XS.iload X0.here hx rfl (hb hby d7_10) rfl ?_
    show Steps p.tables e below (s₁.setTop (mkF m 12 #[.val (.ref a0), .val (.int (0 : Int32)), .val (.int (4 : Int32)), .val (.double d3), .second, .val (.int (0 : Int32)), .val (.int (3 : Int32)), .unset, .unset, .unset, .unset, .unset, .unset, .unset] [(.int (3 : Int32)), (.int (0 : Int32))])) t
    refine XS.icmpNo X0.here hx rfl (hb hby d7_12) rfl (by decide) ?_
    show Steps p.tables e below (s₁.setTop (mkF m 15 #[.val (.ref a0), .val (.int (0 : Int32)), .val (.int (4 : Int32)), .val (.double d3), .second, .val (.int (0 : Int32)), .val (.int (3 : Int32)), .unset, .unset, .unset, .unset, .unset, .unset, .unset] [])) t
    refine XS.iload X0.here hx rfl (hb hby d7_15) rfl ?_
    show Steps p.tables e below (s₁.setTop (mkF m 17 #[.val (.ref a0), .val (.int (0 : Int32)), .val (.int (4 : Int32)), .val (.double d3), .second, .val (.int (0 : Int32)), .val (.int (3 : Int32)), .unset, .unset, .unset, .unset, .unset, .unset, .unset] [(.int (0 : Int32))])) t
    refine XS.iload X0.here hx rfl (hb hby d7_17) rfl ?_
    show Steps p.tables e below (s₁.setTop (mkF m 19 #[.val (.ref a0), .val (.int (0 : Int32)), .val (.int (4 : Int32)), .val (.double d3), .second, .val (.int (0 : Int32)), .val (.int (3 : Int32)), .unset, .unset, .unset, .unset, .unset, .unset, .unset] [(.int (3 : Int32)), (.int (0 : Int32))])) t
    refine XS.iadd X0.here hx rfl (hb hby d7_19) rfl ?_
    show Steps p.tables e below (s₁.setTop (mkF m 20 #[.val (.ref a0), .val (.int (0 : Int32)), .val (.int (4 : Int32)), .val (.double d3), .second, .val (.int (0 : Int32)), .val (.int (3 : Int32)), .unset, .unset, .unset, .unset, .unset, .unset, .unset] [(.int (3 : Int32))])) t
    refine XS.iconst X0.here hx rfl (hb hby d7_20) ?_
    show Steps p.tables e below (s₁.setTop (mkF m 21 #[.val (.ref a0), .val (.int (0 : Int32)), .val (.int (4 : Int32)), .val (.double d3), .second, .val (.int (0 : Int32)), .val (.int (3 : Int32)), .unset, .unset, .unset, .unset, .unset, .unset, .unset] [(.int (1 : Int32)), (.int (3 : Int32))])) t
    refine XS.iushr X0.here hx rfl (hb hby d7_21) rfl ?_
    show Steps p.tables e below (s₁.setTop (mkF m 22 #[.val (.ref a0), .val (.int (0 : Int32)), .val (.int (4 : Int32)), .val (.double d3), .second, .val (.int (0 : Int32)), .val (.int (3 : Int32)), .unset, .unset, .unset, .unset, .unset, .unset, .unset] [(.int (1 : Int32))])) t
    refine XS.istore X0.here hx rfl (hb hby d7_22) rfl (l' := #[.val (.ref a0), .val (.int (0 : Int32)), .val (.int (4 : Int32)), .val (.double d3), .second, .val (.int (0 : Int32)), .val (.int (3 : Int32)), .val (.int (1 : Int32)), .unset, .unset, .unset, .unset, .unset, .unset]) rfl ?_
    show Steps p.tables e below (s₁.setTop (mkF m 24 #[.val (.ref a0), .val (.int (0 : Int32)), .val (.int (4 : Int32)), .val (.double d3), .second, .val (.int (0 : Int32)), .val (.int (3 : Int32)), .val (.int (1 : Int32)), .unset, .unset, .unset, .unset, .unset, .unset] [])) t
    refine XS.aloadN X0.here hx rfl (hb hby d7_24) rfl rfl ?_
    show Steps p.tables e below (s₁.setTop (mkF m 25 #[.val (.ref a0), .val (.int (0 : Int32)), .val (.int (4 : Int32)), .val (.double d3), .second, .val (.int (0 : Int32)), .val (.int (3 : Int32)), .val (.int (1 : Int32)), .unset, .unset, .unset, .unset, .unset, .unset] [(.ref a0)])) t
    refine XS.iload X0.here hx rfl (hb hby d7_25) rfl ?_
    exact k
  obtain ⟨c1, r1a, r1b, r1c, r1d, r1e, r1f⟩ := id V_a0
  have i1 : ¬ ((1 : Int32) < 0 ∨ c1.slots.size ≤ ((1 : Int32)).toNatClampNeg) := inb_of r1c ⟨by decide, by decide⟩
  have y1 : c1.slots[((1 : Int32)).toNatClampNeg]? = some (.double ev1) := r1e.at i1 rfl
  refine own_st (T' := s₁) (g' := (mkF m 27 #[.val (.ref a0), .val (.int (0 : Int32)), .val (.int (4 : Int32)), .val (.double d3), .second, .val (.int (0 : Int32)), .val (.int (0 : Int32)), .val (.int (0 : Int32)), .val (.double ev1), .second, .unset, .unset, .unset, .unset] [(.int (0 : Int32)), (.ref a0)])) (fun t k => ?_) ?_
  · show Steps p.tables e below (s₁.setTop (mkF m 27 #[.val (.ref a0), .val (.int (0 : Int32)), .val (.int (4 : Int32)), .val (.double d3), .second, .val (.int (0 : Int32)), .val (.int (3 : Int32)), .val (.int (1 : Int32)), .unset, .unset, .unset, .unset, .unset, .unset] [(.int (1 : Int32)), (.ref a0)])) t
    refine X0.daload hx (j := (1 : Int32)) (v := (.double ev1)) (by rw [e0]; exact r1a.1) (State.isArrayOf_alike hZ.alike r1a.2.1) r1a.2.2 i1 y1 (g := (mkF m 27 #[.val (.ref a0), .val (.int (0 : Int32)), .val (.int (4 : Int32)), .val (.double d3), .second, .val (.int (0 : Int32)), .val (.int (3 : Int32)), .val (.int (1 : Int32)), .unset, .unset, .unset, .unset, .unset, .unset] [(.int (1 : Int32)), (.ref a0)])) rfl rfl (hb hby d7_27) _ ?_
    show Steps p.tables e below (s₁.setTop (mkF m 28 #[.val (.ref a0), .val (.int (0 : Int32)), .val (.int (4 : Int32)), .val (.double d3), .second, .val (.int (0 : Int32)), .val (.int (3 : Int32)), .val (.int (1 : Int32)), .unset, .unset, .unset, .unset, .unset, .unset] [(.double ev1)])) t
    refine XS.dstore X0.here hx rfl (hb hby d7_28) rfl (l' := #[.val (.ref a0), .val (.int (0 : Int32)), .val (.int (4 : Int32)), .val (.double d3), .second, .val (.int (0 : Int32)), .val (.int (3 : Int32)), .val (.int (1 : Int32)), .val (.double ev1), .second, .unset, .unset, .unset, .unset]) rfl ?_
    show Steps p.tables e below (s₁.setTop (mkF m 30 #[.val (.ref a0), .val (.int (0 : Int32)), .val (.int (4 : Int32)), .val (.double d3), .second, .val (.int (0 : Int32)), .val (.int (3 : Int32)), .val (.int (1 : Int32)), .val (.double ev1), .second, .unset, .unset, .unset, .unset] [])) t
    refine XS.dload X0.here hx rfl (hb hby d7_30) rfl ?_
    show Steps p.tables e below (s₁.setTop (mkF m 32 #[.val (.ref a0), .val (.int (0 : Int32)), .val (.int (4 : Int32)), .val (.double d3), .second, .val (.int (0 : Int32)), .val (.int (3 : Int32)), .val (.int (1 : Int32)), .val (.double ev1), .second, .unset, .unset, .unset, .unset] [(.double ev1)])) t
    refine XS.dloadN X0.here hx rfl (hb hby d7_32) rfl ?_
    show Steps p.tables e below (s₁.setTop (mkF m 33 #[.val (.ref a0), .val (.int (0 : Int32)), .val (.int (4 : Int32)), .val (.double d3), .second, .val (.int (0 : Int32)), .val (.int (3 : Int32)), .val (.int (1 : Int32)), .val (.double ev1), .second, .unset, .unset, .unset, .unset] [(.double d3), (.double ev1)])) t
    refine XS.dcmpS X0.here hx rfl (hb hby d7_33) rfl rfl ?_
    show Steps p.tables e below (s₁.setTop (mkF m 34 #[.val (.ref a0), .val (.int (0 : Int32)), .val (.int (4 : Int32)), .val (.double d3), .second, .val (.int (0 : Int32)), .val (.int (3 : Int32)), .val (.int (1 : Int32)), .val (.double ev1), .second, .unset, .unset, .unset, .unset] [(.int (cmpValue (FP.dcmp ev1 d3) .g))])) t
    refine XS.ifYes X0.here hx rfl (pc0 := 34) (pc' := 46) rfl (hb hby d7_34) rfl ((if0 _ _).trans (flt (hb34 : ¬ ((cmpValue (FP.dcmp ev1 d3) .g) < (0 : Int32)))).2.1) (by decide) (by decide) ?_
    show Steps p.tables e below (s₁.setTop (mkF m 46 #[.val (.ref a0), .val (.int (0 : Int32)), .val (.int (4 : Int32)), .val (.double d3), .second, .val (.int (0 : Int32)), .val (.int (3 : Int32)), .val (.int (1 : Int32)), .val (.double ev1), .second, .unset, .unset, .unset, .unset] [])) t
    refine XS.dload X0.here hx rfl (hb hby d7_46) rfl ?_
    show Steps p.tables e below (s₁.setTop (mkF m 48 #[.val (.ref a0), .val (.int (0 : Int32)), .val (.int (4 : Int32)), .val (.double d3), .second, .val (.int (0 : Int32)), .val (.int (3 : Int32)), .val (.int (1 : Int32)), .val (.double ev1), .second, .unset, .unset, .unset, .unset] [(.double ev1)])) t
    refine XS.dloadN X0.here hx rfl (hb hby d7_48) rfl ?_
    show Steps p.tables e below (s₁.setTop (mkF m 49 #[.val (.ref a0), .val (.int (0 : Int32)), .val (.int (4 : Int32)), .val (.double d3), .second, .val (.int (0 : Int32)), .val (.int (3 : Int32)), .val (.int (1 : Int32)), .val (.double ev1), .second, .unset, .unset, .unset, .unset] [(.double d3), (.double ev1)])) t
    refine XS.dcmpS X0.here hx rfl (hb hby d7_49) rfl rfl ?_
    show Steps p.tables e below (s₁.setTop (mkF m 50 #[.val (.ref a0), .val (.int (0 : Int32)), .val (.int (4 : Int32)), .val (.double d3), .second, .val (.int (0 : Int32)), .val (.int (3 : Int32)), .val (.int (1 : Int32)), .val (.double ev1), .second, .unset, .unset, .unset, .unset] [(.int (cmpValue (FP.dcmp ev1 d3) .l))])) t
    refine XS.ifNo X0.here hx rfl (hb hby d7_50) rfl ((if0 _ _).trans (tlt (hb50 : (0 : Int32) < (cmpValue (FP.dcmp ev1 d3) .l))).2.2.2) ?_
    show Steps p.tables e below (s₁.setTop (mkF m 53 #[.val (.ref a0), .val (.int (0 : Int32)), .val (.int (4 : Int32)), .val (.double d3), .second, .val (.int (0 : Int32)), .val (.int (3 : Int32)), .val (.int (1 : Int32)), .val (.double ev1), .second, .unset, .unset, .unset, .unset] [])) t
    refine XS.iload X0.here hx rfl (hb hby d7_53) rfl ?_
    show Steps p.tables e below (s₁.setTop (mkF m 55 #[.val (.ref a0), .val (.int (0 : Int32)), .val (.int (4 : Int32)), .val (.double d3), .second, .val (.int (0 : Int32)), .val (.int (3 : Int32)), .val (.int (1 : Int32)), .val (.double ev1), .second, .unset, .unset, .unset, .unset] [(.int (1 : Int32))])) t
    refine XS.iconst X0.here hx rfl (hb hby d7_55) ?_
    show Steps p.tables e below (s₁.setTop (mkF m 56 #[.val (.ref a0), .val (.int (0 : Int32)), .val (.int (4 : Int32)), .val (.double d3), .second, .val (.int (0 : Int32)), .val (.int (3 : Int32)), .val (.int (1 : Int32)), .val (.double ev1), .second, .unset, .unset, .unset, .unset] [(.int (1 : Int32)), (.int (1 : Int32))])) t
    refine XS.isub X0.here hx rfl (hb hby d7_56) rfl ?_
    show Steps p.tables e below (s₁.setTop (mkF m 57 #[.val (.ref a0), .val (.int (0 : Int32)), .val (.int (4 : Int32)), .val (.double d3), .second, .val (.int (0 : Int32)), .val (.int (3 : Int32)), .val (.int (1 : Int32)), .val (.double ev1), .second, .unset, .unset, .unset, .unset] [(.int (0 : Int32))])) t
    refine XS.istore X0.here hx rfl (hb hby d7_57) rfl (l' := #[.val (.ref a0), .val (.int (0 : Int32)), .val (.int (4 : Int32)), .val (.double d3), .second, .val (.int (0 : Int32)), .val (.int (0 : Int32)), .val (.int (1 : Int32)), .val (.double ev1), .second, .unset, .unset, .unset, .unset]) rfl ?_
    show Steps p.tables e below (s₁.setTop (mkF m 59 #[.val (.ref a0), .val (.int (0 : Int32)), .val (.int (4 : Int32)), .val (.double d3), .second, .val (.int (0 : Int32)), .val (.int (0 : Int32)), .val (.int (1 : Int32)), .val (.double ev1), .second, .unset, .unset, .unset, .unset] [])) t
    refine XS.goto X0.here hx rfl (pc0 := 59) (pc' := 109) rfl (hb hby d7_59) (by decide) (by decide) ?_
    show Steps p.tables e below (s₁.setTop (mkF m 109 #[.val (.ref a0), .val (.int (0 : Int32)), .val (.int (4 : Int32)), .val (.double d3), .second, .val (.int (0 : Int32)), .val (.int (0 : Int32)), .val (.int (1 : Int32)), .val (.double ev1), .second, .unset, .unset, .unset, .unset] [])) t
    refine XS.goto X0.here hx rfl (pc0 := 109) (pc' := 8) rfl (hb hby d7_109) (by decide) (by decide) ?_
    show Steps p.tables e below (s₁.setTop (mkF m 8 #[.val (.ref a0), .val (.int (0 : Int32)), .val (.int (4 : Int32)), .val (.double d3), .second, .val (.int (0 : Int32)), .val (.int (0 : Int32)), .val (.int (1 : Int32)), .val (.double ev1), .second, .unset, .unset, .unset, .unset] [])) t
    refine XS.iload X0.here hx rfl (hb hby d7_8) rfl ?_
    show Steps p.tables e below (s₁.setTop (mkF m 10 #[.val (.ref a0), .val (.int (0 : Int32)), .val (.int (4 : Int32)), .val (.double d3), .second, .val (.int (0 : Int32)), .val (.int (0 : Int32)), .val (.int (1 : Int32)), .val (.double ev1), .second, .unset, .unset, .unset, .unset] [(.int (0 : Int32))])) t
    refine XS.iload X0.here hx rfl (hb hby d7_10) rfl ?_
    show Steps p.tables e below (s₁.setTop (mkF m 12 #[.val (.ref a0), .val (.int (0 : Int32)), .val (.int (4 : Int32)), .val (.double d3), .second, .val (.int (0 : Int32)), .val (.int (0 : Int32)), .val (.int (1 : Int32)), .val (.double ev1), .second, .unset, .unset, .unset, .unset] [(.int (0 : Int32)), (.int (0 : Int32))])) t
    refine XS.icmpNo X0.here hx rfl (hb hby d7_12) rfl (by decide) ?_
    show Steps p.tables e below (s₁.setTop (mkF m 15 #[.val (.ref a0), .val (.int (0 : Int32)), .val (.int (4 : Int32)), .val (.double d3), .second, .val (.int (0 : Int32)), .val (.int (0 : Int32)), .val (.int (1 : Int32)), .val (.double ev1), .second, .unset, .unset, .unset, .unset] [])) t
    refine XS.iload X0.here hx rfl (hb hby d7_15) rfl ?_
    show Steps p.tables e below (s₁.setTop (mkF m 17 #[.val (.ref a0), .val (.int (0 : Int32)), .val (.int (4 : Int32)), .val (.double d3), .second, .val (.int (0 : Int32)), .val (.int (0 : Int32)), .val (.int (1 : Int32)), .val (.double ev1), .second, .unset, .unset, .unset, .unset] [(.int (0 : Int32))])) t
    refine XS.iload X0.here hx rfl (hb hby d7_17) rfl ?_
    show Steps p.tables e below (s₁.setTop (mkF m 19 #[.val (.ref a0), .val (.int (0 : Int32)), .val (.int (4 : Int32)), .val (.double d3), .second, .val (.int (0 : Int32)), .val (.int (0 : Int32)), .val (.int (1 : Int32)), .val (.double ev1), .second, .unset, .unset, .unset, .unset] [(.int (0 : Int32)), (.int (0 : Int32))])) t
    refine XS.iadd X0.here hx rfl (hb hby d7_19) rfl ?_
    show Steps p.tables e below (s₁.setTop (mkF m 20 #[.val (.ref a0), .val (.int (0 : Int32)), .val (.int (4 : Int32)), .val (.double d3), .second, .val (.int (0 : Int32)), .val (.int (0 : Int32)), .val (.int (1 : Int32)), .val (.double ev1), .second, .unset, .unset, .unset, .unset] [(.int (0 : Int32))])) t
    refine XS.iconst X0.here hx rfl (hb hby d7_20) ?_
    show Steps p.tables e below (s₁.setTop (mkF m 21 #[.val (.ref a0), .val (.int (0 : Int32)), .val (.int (4 : Int32)), .val (.double d3), .second, .val (.int (0 : Int32)), .val (.int (0 : Int32)), .val (.int (1 : Int32)), .val (.double ev1), .second, .unset, .unset, .unset, .unset] [(.int (1 : Int32)), (.int (0 : Int32))])) t
    refine XS.iushr X0.here hx rfl (hb hby d7_21) rfl ?_
    show Steps p.tables e below (s₁.setTop (mkF m 22 #[.val (.ref a0), .val (.int (0 : Int32)), .val (.int (4 : Int32)), .val (.double d3), .second, .val (.int (0 : Int32)), .val (.int (0 : Int32)), .val (.int (1 : Int32)), .val (.double ev1), .second, .unset, .unset, .unset, .unset] [(.int (0 : Int32))])) t
    refine XS.istore X0.here hx rfl (hb hby d7_22) rfl (l' := #[.val (.ref a0), .val (.int (0 : Int32)), .val (.int (4 : Int32)), .val (.double d3), .second, .val (.int (0 : Int32)), .val (.int (0 : Int32)), .val (.int (0 : Int32)), .val (.double ev1), .second, .unset, .unset, .unset, .unset]) rfl ?_
    show Steps p.tables e below (s₁.setTop (mkF m 24 #[.val (.ref a0), .val (.int (0 : Int32)), .val (.int (4 : Int32)), .val (.double d3), .second, .val (.int (0 : Int32)), .val (.int (0 : Int32)), .val (.int (0 : Int32)), .val (.double ev1), .second, .unset, .unset, .unset, .unset] [])) t
    refine XS.aloadN X0.here hx rfl (hb hby d7_24) rfl rfl ?_
    show Steps p.tables e below (s₁.setTop (mkF m 25 #[.val (.ref a0), .val (.int (0 : Int32)), .val (.int (4 : Int32)), .val (.double d3), .second, .val (.int (0 : Int32)), .val (.int (0 : Int32)), .val (.int (0 : Int32)), .val (.double ev1), .second, .unset, .unset, .unset, .unset] [(.ref a0)])) t
    refine XS.iload X0.here hx rfl (hb hby d7_25) rfl ?_
    exact k
  obtain ⟨c2, r2a, r2b, r2c, r2d, r2e, r2f⟩ := id V_a0
  have i2 : ¬ ((0 : Int32) < 0 ∨ c2.slots.size ≤ ((0 : Int32)).toNatClampNeg) := inb_of r2c ⟨by decide, by decide⟩
  have y2 : c2.slots[((0 : Int32)).toNatClampNeg]? = some (.double ev0) := r2e.at i2 rfl
  refine own_st (T' := s₁) (g' := (mkF m 64 #[.val (.ref a0), .val (.int (0 : Int32)), .val (.int (4 : Int32)), .val (.double d3), .second, .val (.int (0 : Int32)), .val (.int (0 : Int32)), .val (.int (0 : Int32)), .val (.double ev0), .second, .unset, .unset, .unset, .unset] [(.double ev0)])) (fun t k => ?_) ?_
  · show Steps p.tables e below (s₁.setTop (mkF m 27 #[.val (.ref a0), .val (.int (0 : Int32)), .val (.int (4 : Int32)), .val (.double d3), .second, .val (.int (0 : Int32)), .val (.int (0 : Int32)), .val (.int (0 : Int32)), .val (.double ev1), .second, .unset, .unset, .unset, .unset] [(.int (0 : Int32)), (.ref a0)])) t
    refine X0.daload hx (j := (0 : Int32)) (v := (.double ev0)) (by rw [e0]; exact r2a.1) (State.isArrayOf_alike hZ.alike r2a.2.1) r2a.2.2 i2 y2 (g := (mkF m 27 #[.val (.ref a0), .val (.int (0 : Int32)), .val (.int (4 : Int32)), .val (.double d3), .second, .val (.int (0 : Int32)), .val (.int (0 : Int32)), .val (.int (0 : Int32)), .val (.double ev1), .second, .unset, .unset, .unset, .unset] [(.int (0 : Int32)), (.ref a0)])) rfl rfl (hb hby d7_27) _ ?_
    show Steps p.tables e below (s₁.setTop (mkF m 28 #[.val (.ref a0), .val (.int (0 : Int32)), .val (.int (4 : Int32)), .val (.double d3), .second, .val (.int (0 : Int32)), .val (.int (0 : Int32)), .val (.int (0 : Int32)), .val (.double ev1), .second, .unset, .unset, .unset, .unset] [(.double ev0)])) t
    refine XS.dstore X0.here hx rfl (hb hby d7_28) rfl (l' := #[.val (.ref a0), .val (.int (0 : Int32)), .val (.int (4 : Int32)), .val (.double d3), .second, .val (.int (0 : Int32)), .val (.int (0 : Int32)), .val (.int (0 : Int32)), .val (.double ev0), .second, .unset, .unset, .unset, .unset]) rfl ?_
    show Steps p.tables e below (s₁.setTop (mkF m 30 #[.val (.ref a0), .val (.int (0 : Int32)), .val (.int (4 : Int32)), .val (.double d3), .second, .val (.int (0 : Int32)), .val (.int (0 : Int32)), .val (.int (0 : Int32)), .val (.double ev0), .second, .unset, .unset, .unset, .unset] [])) t
    refine XS.dload X0.here hx rfl (hb hby d7_30) rfl ?_
    show Steps p.tables e below (s₁.setTop (mkF m 32 #[.val (.ref a0), .val (.int (0 : Int32)), .val (.int (4 : Int32)), .val (.double d3), .second, .val (.int (0 : Int32)), .val (.int (0 : Int32)), .val (.int (0 : Int32)), .val (.double ev0), .second, .unset, .unset, .unset, .unset] [(.double ev0)])) t
    refine XS.dloadN X0.here hx rfl (hb hby d7_32) rfl ?_
    show Steps p.tables e below (s₁.setTop (mkF m 33 #[.val (.ref a0), .val (.int (0 : Int32)), .val (.int (4 : Int32)), .val (.double d3), .second, .val (.int (0 : Int32)), .val (.int (0 : Int32)), .val (.int (0 : Int32)), .val (.double ev0), .second, .unset, .unset, .unset, .unset] [(.double d3), (.double ev0)])) t
    refine XS.dcmpS X0.here hx rfl (hb hby d7_33) rfl rfl ?_
    show Steps p.tables e below (s₁.setTop (mkF m 34 #[.val (.ref a0), .val (.int (0 : Int32)), .val (.int (4 : Int32)), .val (.double d3), .second, .val (.int (0 : Int32)), .val (.int (0 : Int32)), .val (.int (0 : Int32)), .val (.double ev0), .second, .unset, .unset, .unset, .unset] [(.int (cmpValue (FP.dcmp ev0 d3) .g))])) t
    refine XS.ifYes X0.here hx rfl (pc0 := 34) (pc' := 46) rfl (hb hby d7_34) rfl ((if0 _ _).trans (flt (hb34_1 : ¬ ((cmpValue (FP.dcmp ev0 d3) .g) < (0 : Int32)))).2.1) (by decide) (by decide) ?_
    show Steps p.tables e below (s₁.setTop (mkF m 46 #[.val (.ref a0), .val (.int (0 : Int32)), .val (.int (4 : Int32)), .val (.double d3), .second, .val (.int (0 : Int32)), .val (.int (0 : Int32)), .val (.int (0 : Int32)), .val (.double ev0), .second, .unset, .unset, .unset, .unset] [])) t
    refine XS.dload X0.here hx rfl (hb hby d7_46) rfl ?_
    show Steps p.tables e below (s₁.setTop (mkF m 48 #[.val (.ref a0), .val (.int (0 : Int32)), .val (.int (4 : Int32)), .val (.double d3), .second, .val (.int (0 : Int32)), .val (.int (0 : Int32)), .val (.int (0 : Int32)), .val (.double ev0), .second, .unset, .unset, .unset, .unset] [(.double ev0)])) t
    refine XS.dloadN X0.here hx rfl (hb hby d7_48) rfl ?_
    show Steps p.tables e below (s₁.setTop (mkF m 49 #[.val (.ref a0), .val (.int (0 : Int32)), .val (.int (4 : Int32)), .val (.double d3), .second, .val (.int (0 : Int32)), .val (.int (0 : Int32)), .val (.int (0 : Int32)), .val (.double ev0), .second, .unset, .unset, .unset, .unset] [(.double d3), (.double ev0)])) t
    refine XS.dcmpS X0.here hx rfl (hb hby d7_49) rfl rfl ?_
    show Steps p.tables e below (s₁.setTop (mkF m 50 #[.val (.ref a0), .val (.int (0 : Int32)), .val (.int (4 : Int32)), .val (.double d3), .second, .val (.int (0 : Int32)), .val (.int (0 : Int32)), .val (.int (0 : Int32)), .val (.double ev0), .second, .unset, .unset, .unset, .unset] [(.int (cmpValue (FP.dcmp ev0 d3) .l))])) t
    refine XS.ifYes X0.here hx rfl (pc0 := 50) (pc' := 62) rfl (hb hby d7_50) rfl ((if0 _ _).trans (flt (hb50_1 : ¬ ((0 : Int32) < (cmpValue (FP.dcmp ev0 d3) .l)))).2.2.2) (by decide) (by decide) ?_
    show Steps p.tables e below (s₁.setTop (mkF m 62 #[.val (.ref a0), .val (.int (0 : Int32)), .val (.int (4 : Int32)), .val (.double d3), .second, .val (.int (0 : Int32)), .val (.int (0 : Int32)), .val (.int (0 : Int32)), .val (.double ev0), .second, .unset, .unset, .unset, .unset] [])) t
    refine XS.dload X0.here hx rfl (hb hby d7_62) rfl ?_
    exact k
  obtain ⟨_, _, ⟨T3, L3, k3, n3⟩, -, X3, ⟨Lc3, hQ3, l3, y3, z3⟩, st3⟩ := Jvm.LawKit.callS X0 hx (y := (⟨"java/lang/Double", "doubleToLongBits", "(D)J"⟩ : MethodName)) hown (mvT hZ (hw _ (List.mem_of_getElem? (i := 45) rfl))) (mvT hZ (hw _ (List.mem_of_getElem? (i := 46) rfl))) (mvT hZ (hw _ (List.mem_of_getElem? (i := 13) rfl))) (mvT hZ (hw _ (List.mem_of_getElem? (i := 47) rfl))) (by decide) (backOf (W := 0) (rm8 l Z ar hw [] ev0 h0 n0 Z0 h64_h1_hq_0) hZ (hw _ (List.mem_of_getElem? (i := 47) rfl)) (hw _ (List.mem_of_getElem? (i := 13) rfl)) (by decide) (by decide)) (g := (mkF m 64 #[.val (.ref a0), .val (.int (0 : Int32)), .val (.int (4 : Int32)), .val (.double d3), .second, .val (.int (0 : Int32)), .val (.int (0 : Int32)), .val (.int (0 : Int32)), .val (.double ev0), .second, .unset, .unset, .unset, .unset] [(.double ev0)])) rfl (by rw [hml]; rfl) (argsL := [(.double ev0)]) (rest := []) (lenOf pdsge_0 rfl) rfl (by show 2 * 0 + _ ≤ _; exact Nat.le_of_eq rfl) (hb hby d7_64) (fun _ _ => ⟨rfl, e0, (by decide : 0 + 0 ≤ _), (by decide : 0 + 0 ≤ _)⟩)
  dsimp only [Pt.U, Pt.locs, Pt.cells, Pt.slots] at X3 l3 y3 z3 st3 hQ3
  subst l3 y3 z3
  obtain ⟨rfl, N3q, e3⟩ := hQ3
  have n4 := Fr.app N0 N3q
  refine own_st (T' := T3) (g' := (mkF m 67 #[.val (.ref a0), .val (.int (0 : Int32)), .val (.int (4 : Int32)), .val (.double d3), .second, .val (.int (0 : Int32)), .val (.int (0 : Int32)), .val (.int (0 : Int32)), .val (.double ev0), .second, .unset, .unset, .unset, .unset] [(.long ev0.toInt64)])) st3 ?_
  refine own_st (T' := T3) (g' := (mkF m 70 #[.val (.ref a0), .val (.int (0 : Int32)), .val (.int (4 : Int32)), .val (.double d3), .second, .val (.int (0 : Int32)), .val (.int (0 : Int32)), .val (.int (0 : Int32)), .val (.double ev0), .second, .val (.long ev0.toInt64), .second, .unset, .unset] [(.double d3)])) (fun t k => ?_) ?_
  · show Steps p.tables e below (T3.setTop (mkF m 67 #[.val (.ref a0), .val (.int (0 : Int32)), .val (.int (4 : Int32)), .val (.double d3), .second, .val (.int (0 : Int32)), .val (.int (0 : Int32)), .val (.int (0 : Int32)), .val (.double ev0), .second, .unset, .unset, .unset, .unset] [(.long ev0.toInt64)])) t
    refine XS.lstore X3.here hx rfl (hb hby d7_67) rfl (l' := #[.val (.ref a0), .val (.int (0 : Int32)), .val (.int (4 : Int32)), .val (.double d3), .second, .val (.int (0 : Int32)), .val (.int (0 : Int32)), .val (.int (0 : Int32)), .val (.double ev0), .second, .val (.long ev0.toInt64), .second, .unset, .unset]) rfl ?_
    show Steps p.tables e below (T3.setTop (mkF m 69 #[.val (.ref a0), .val (.int (0 : Int32)), .val (.int (4 : Int32)), .val (.double d3), .second, .val (.int (0 : Int32)), .val (.int (0 : Int32)), .val (.int (0 : Int32)), .val (.double ev0), .second, .val (.long ev0.toInt64), .second, .unset, .unset] [])) t
    refine XS.dloadN X3.here hx rfl (hb hby d7_69) rfl ?_
    exact k
  obtain ⟨_, _, ⟨T5, L5, k5, n5⟩, -, X5, ⟨Lc5, hQ5, l5, y5, z5⟩, st5⟩ := Jvm.LawKit.callS X3 hx (y := (⟨"java/lang/Double", "doubleToLongBits", "(D)J"⟩ : MethodName)) hown (mvT hZ (hw _ (List.mem_of_getElem? (i := 45) rfl))) (mvT hZ (hw _ (List.mem_of_getElem? (i := 46) rfl))) (mvT hZ (hw _ (List.mem_of_getElem? (i := 13) rfl))) (mvT hZ (hw _ (List.mem_of_getElem? (i := 47) rfl))) (by decide) (backOf (W := 0) (rm8 l Z ar hw [] d3 h0 n0 Z0 h70_h1_hq_0) hZ (hw _ (List.mem_of_getElem? (i := 47) rfl)) (hw _ (List.mem_of_getElem? (i := 13) rfl)) (by decide) (by decide)) (g := (mkF m 70 #[.val (.ref a0), .val (.int (0 : Int32)), .val (.int (4 : Int32)), .val (.double d3), .second, .val (.int (0 : Int32)), .val (.int (0 : Int32)), .val (.int (0 : Int32)), .val (.double ev0), .second, .val (.long ev0.toInt64), .second, .unset, .unset] [(.double d3)])) rfl (by rw [hml]; rfl) (argsL := [(.double d3)]) (rest := []) (lenOf pdsge_0 rfl) rfl (by show 2 * 0 + _ ≤ _; exact Nat.le_of_eq rfl) (hb hby d7_70) (fun _ _ => ⟨rfl, e3, (by decide : 0 + 0 ≤ _), (by decide : 0 + 0 ≤ _)⟩)
  dsimp only [Pt.U, Pt.locs, Pt.cells, Pt.slots] at X5 l5 y5 z5 st5 hQ5
  subst l5 y5 z5
  obtain ⟨rfl, N5q, e5⟩ := hQ5
  have n6 := Fr.app n4 N5q
  refine own_st (T' := T5) (g' := (mkF m 73 #[.val (.ref a0), .val (.int (0 : Int32)), .val (.int (4 : Int32)), .val (.double d3), .second, .val (.int (0 : Int32)), .val (.int (0 : Int32)), .val (.int (0 : Int32)), .val (.double ev0), .second, .val (.long ev0.toInt64), .second, .unset, .unset] [(.long d3.toInt64)])) st5 ?_
  refine own_st (T' := T5) (g' := (mkF m 85 #[.val (.ref a0), .val (.int (0 : Int32)), .val (.int (4 : Int32)), .val (.double d3), .second, .val (.int (0 : Int32)), .val (.int (0 : Int32)), .val (.int (0 : Int32)), .val (.double ev0), .second, .val (.long ev0.toInt64), .second, .val (.long d3.toInt64), .second] [(.int (0 : Int32))])) (fun t k => ?_) ?_
  · show Steps p.tables e below (T5.setTop (mkF m 73 #[.val (.ref a0), .val (.int (0 : Int32)), .val (.int (4 : Int32)), .val (.double d3), .second, .val (.int (0 : Int32)), .val (.int (0 : Int32)), .val (.int (0 : Int32)), .val (.double ev0), .second, .val (.long ev0.toInt64), .second, .unset, .unset] [(.long d3.toInt64)])) t
    refine XS.lstore X5.here hx rfl (hb hby d7_73) rfl (l' := #[.val (.ref a0), .val (.int (0 : Int32)), .val (.int (4 : Int32)), .val (.double d3), .second, .val (.int (0 : Int32)), .val (.int (0 : Int32)), .val (.int (0 : Int32)), .val (.double ev0), .second, .val (.long ev0.toInt64), .second, .val (.long d3.toInt64), .second]) rfl ?_
    show Steps p.tables e below (T5.setTop (mkF m 75 #[.val (.ref a0), .val (.int (0 : Int32)), .val (.int (4 : Int32)), .val (.double d3), .second, .val (.int (0 : Int32)), .val (.int (0 : Int32)), .val (.int (0 : Int32)), .val (.double ev0), .second, .val (.long ev0.toInt64), .second, .val (.long d3.toInt64), .second] [])) t
    refine XS.lload X5.here hx rfl (hb hby d7_75) rfl ?_
    show Steps p.tables e below (T5.setTop (mkF m 77 #[.val (.ref a0), .val (.int (0 : Int32)), .val (.int (4 : Int32)), .val (.double d3), .second, .val (.int (0 : Int32)), .val (.int (0 : Int32)), .val (.int (0 : Int32)), .val (.double ev0), .second, .val (.long ev0.toInt64), .second, .val (.long d3.toInt64), .second] [(.long ev0.toInt64)])) t
    refine XS.lload X5.here hx rfl (hb hby d7_77) rfl ?_
    show Steps p.tables e below (T5.setTop (mkF m 79 #[.val (.ref a0), .val (.int (0 : Int32)), .val (.int (4 : Int32)), .val (.double d3), .second, .val (.int (0 : Int32)), .val (.int (0 : Int32)), .val (.int (0 : Int32)), .val (.double ev0), .second, .val (.long ev0.toInt64), .second, .val (.long d3.toInt64), .second] [(.long d3.toInt64), (.long ev0.toInt64)])) t
    refine XS.lcmp X5.here hx rfl (hb hby d7_79) rfl ?_
    show Steps p.tables e below (T5.setTop (mkF m 80 #[.val (.ref a0), .val (.int (0 : Int32)), .val (.int (4 : Int32)), .val (.double d3), .second, .val (.int (0 : Int32)), .val (.int (0 : Int32)), .val (.int (0 : Int32)), .val (.double ev0), .second, .val (.long ev0.toInt64), .second, .val (.long d3.toInt64), .second] [(.int (lcmpW ev0.toInt64 d3.toInt64))])) t
    refine XS.ifNo X5.here hx rfl (hb hby d7_80) rfl ((if0 _ _).trans (teq ((lw_eq ev0.toInt64 d3.toInt64).mpr (hb80 : ev0.toInt64 = d3.toInt64))).2) ?_
    show Steps p.tables e below (T5.setTop (mkF m 83 #[.val (.ref a0), .val (.int (0 : Int32)), .val (.int (4 : Int32)), .val (.double d3), .second, .val (.int (0 : Int32)), .val (.int (0 : Int32)), .val (.int (0 : Int32)), .val (.double ev0), .second, .val (.long ev0.toInt64), .second, .val (.long d3.toInt64), .second] [])) t
    refine XS.iload X5.here hx rfl (hb hby d7_83) rfl ?_
    exact k
  refine own_retI X5 hx hlk Bd.returns (hb hby d7_85) (by decide) (by decide) ?_
  show Qsge Z a0 d3 kk_a0 ev0 ev1 ev2 ev3 h0 n0 (some (.int (0 : Int32))) T5.heap _
  rw [(e5 : T5.heap = h0)]
  exact ⟨rfl, n6, rfl⟩
theorem pntge : plainName "java/util/Arrays" = true := by first | (simp [plainName, overriddenIn]; done) | decide +kernel
theorem pdtge_0 : parseMethodDescriptor "([DIID)I" = some ⟨[(.array .double), .int, .int, .double], some .int⟩ := by decide +kernel
theorem eftge (m : MethodId) (a0 : Addr) (d1 : UInt64) : entryFrame m #[(.ref a0), (.double d1)] 3 = mkF m 0 #[.val (.ref a0), .val (.double d1), .second] [] := by first | (simp [entryFrame, mkF, argsToLocals, Value.category]; done) | rfl
def Qtge (Z : State) (a0 : Addr) (d1 : UInt64) (kk_a0 : ClassId) (ev0 : UInt64) (ev1 : UInt64) (ev2 : UInt64) (ev3 : UInt64) (h0 : Heap) (n0 : Nat) (v : Option Value) (h : Heap) (L : List Loc) : Prop := v = some (.int (0 : Int32)) ∧ Fr n0 L ∧ h = h0
set_option maxRecDepth 65536 in
set_option maxHeartbeats 40000000 in
theorem rmtge (l : Launch) (Z : State) (ar : Array Value) (hw : ∀ d ∈ tables_1, d.before ar Z = true) (ws : List Jvm.Cond) (a0 : Addr) (d1 : UInt64) (kk_a0 : ClassId) (ev0 : UInt64) (ev1 : UInt64) (ev2 : UInt64) (ev3 : UInt64) (h0 : Heap) (n0 : Nat) (Z0 : n0 ≤ h0.size) (V_a0 : Arv Z h0 a0 kk_a0 .double (4 : Int32) [(.double ev0), (.double ev1), (.double ev2), (.double ev3)] (.double (0 : UInt64))) (h5_hb34 : ¬ ((cmpValue (FP.dcmp ev1 d1) .g) < (0 : Int32))) (h5_hb50 : (0 : Int32) < (cmpValue (FP.dcmp ev1 d1) .l)) (h5_hb34_1 : ¬ ((cmpValue (FP.dcmp ev0 d1) .g) < (0 : Int32))) (h5_hb50_1 : ¬ ((0 : Int32) < (cmpValue (FP.dcmp ev0 d1) .l))) (h5_h64_h1_hq_0 : (cmpValue (FP.dcmp ev0 ev0) .l) = (0 : Int32)) (h5_h70_h1_hq_0 : (cmpValue (FP.dcmp d1 d1) .l) = (0 : Int32)) (h5_hb80 : ev0.toInt64 = d1.toInt64) :
    MetFree l (⟨"java/util/Arrays", "binarySearch", "([DD)I"⟩ : MethodName) (head1 (Jvm.Cond.code (⟨"java/util/Arrays", "binarySearch", "([DD)I"⟩ : MethodName) jdk_65_method_69_code 3 (some .int) :: ws) ({ frames := 3, cells := 0, slots := 0, locals := 53 } : Room)) (fun a U => a = #[(.ref a0), (.double d1)] ∧ Z.Warmed39 U.vm ∧ U.heap = h0) (fun _ _ _ _ _ => True) (fun _ U o U' => ∃ v L, o = .returned v ∧ Qtge Z a0 d1 kk_a0 ev0 ev1 ev2 ev3 h0 n0 v U'.heap L ∧ FrameEnd U o U' L ({ frames := 3, cells := 0, slots := 0, locals := 53 } : Room).cells ({ frames := 3, cells := 0, slots := 0, locals := 53 } : Room).slots) := by
  refine MetFree.of_bodySF (plainFor_of_name pntge) hisR ?_
  intro p e s m args below meth c s₁ Bd hml0 hP hK
  obtain ⟨rfl, hZ, hh⟩ := hP
  have hx := Bd.exec
  have hby := Bd.bytes
  have hlk := Bd.notSynchronized
  have hml : c.maxLocals = 3 := hml0
  have hown : s.vm.findClass "java/util/Arrays" = some m.cls := findClass_of_methodNamed Bd.named
  have hnm := (name_of_methodNamed Bd.named Bd.method).1
  have X0 : Stand p l e ({ frames := 3, cells := 0, slots := 0, locals := 53 } : Room) s m #[(.ref a0), (.double d1)] below meth c s₁ [] 0 0 := Stand.of_body Bd
  have e0 : s₁.heap = h0 := by rw [← hh, Bd.state]; rfl
  have N0 := Fr.nil n0
  have K0 := Keep.refl h0 []
  refine own_enter (Q := Qtge Z a0 d1 kk_a0 ev0 ev1 ev2 ev3 h0 n0) (eftge m a0 d1) ?_
  refine own_st (T' := s₁) (g' := (mkF m 3 #[.val (.ref a0), .val (.double d1), .second] [(.ref a0), (.int (0 : Int32)), (.ref a0)])) (fun t k => ?_) ?_
  · show Steps p.tables e below (s₁.setTop (mkF m 0 #[.val (.ref a0), .val (.double d1), .second] [])) t
    refine XS.aloadN X0.here hx rfl (hb hby d6_0) rfl rfl ?_
    refine XS.iconst X0.here hx rfl (hb hby d6_1) ?_
    refine XS.aloadN X0.here hx rfl (hb hby d6_2) rfl rfl ?_
    exact k
  obtain ⟨c1, r1a, -, r1c, r1d, -, -⟩ := id V_a0
  refine own_st (T' := s₁) (g' := (mkF m 5 #[.val (.ref a0), .val (.double d1), .second] [(.double d1), (.int (4 : Int32)), (.int (0 : Int32)), (.ref a0)])) (fun t k => ?_) ?_
  · show Steps p.tables e below (s₁.setTop (mkF m 3 #[.val (.ref a0), .val (.double d1), .second] [(.ref a0), (.int (0 : Int32)), (.ref a0)])) t
    refine X0.arraylength hx (by rw [e0]; exact r1a.1) (State.isArrayOf_alike hZ.alike r1a.2.1) (g := (mkF m 3 #[.val (.ref a0), .val (.double d1), .second] [(.ref a0), (.int (0 : Int32)), (.ref a0)])) rfl rfl (hb hby d6_3) _ ?_
    rw [len_of r1c r1d]
    refine XS.dloadN X0.here hx rfl (hb hby d6_4) rfl ?_
    exact k
  obtain ⟨_, _, ⟨T2, L2, k2, n2⟩, -, X2, ⟨Lc2, hQ2, l2, y2, z2⟩, st2⟩ := Jvm.LawKit.callS X0 hx (y := (⟨"java/util/Arrays", "binarySearch0", "([DIID)I"⟩ : MethodName)) hown (mvT hZ (hw _ (List.mem_of_getElem? (i := 42) rfl))) (mvT hZ (hw _ (List.mem_of_getElem? (i := 43) rfl))) (mvT hZ (hw _ (List.mem_of_getElem? (i := 40) rfl))) (mvT hZ (hw _ (List.mem_of_getElem? (i := 44) rfl))) (by decide) (backOf (W := 0) (rmsge l Z ar hw [] a0 d1 kk_a0 ev0 ev1 ev2 ev3 h0 n0 Z0 V_a0 h5_hb34 h5_hb50 h5_hb34_1 h5_hb50_1 h5_h64_h1_hq_0 h5_h70_h1_hq_0 h5_hb80) hZ (hw _ (List.mem_of_getElem? (i := 44) rfl)) (hw _ (List.mem_of_getElem? (i := 40) rfl)) (by decide) (by decide)) (g := (mkF m 5 #[.val (.ref a0), .val (.double d1), .second] [(.double d1), (.int (4 : Int32)), (.int (0 : Int32)), (.ref a0)])) rfl (by rw [hml]; rfl) (argsL := [(.ref a0), (.int (0 : Int32)), (.int (4 : Int32)), (.double d1)]) (rest := []) (lenOf pdtge_0 rfl) rfl (by show 2 * 0 + _ ≤ _; exact Nat.le_of_eq rfl) (hb hby d6_5) (fun _ _ => ⟨rfl, e0, (by decide : 0 + 0 ≤ _), (by decide : 0 + 0 ≤ _)⟩)
  dsimp only [Pt.U, Pt.locs, Pt.cells, Pt.slots] at X2 l2 y2 z2 st2 hQ2
  subst l2 y2 z2
  obtain ⟨rfl, N2q, e2⟩ := hQ2
  have n3 := Fr.app N0 N2q
  refine own_st (T' := T2) (g' := (mkF m 8 #[.val (.ref a0), .val (.double d1), .second] [(.int (0 : Int32))])) st2 ?_
  refine own_retI X2 hx hlk Bd.returns (hb hby d6_8) (by decide) (by decide) ?_
  show Qtge Z a0 d1 kk_a0 ev0 ev1 ev2 ev3 h0 n0 (some (.int (0 : Int32))) T2.heap _
  rw [(e2 : T2.heap = h0)]
  exact ⟨rfl, n3, rfl⟩
theorem d5_0 : decode prog_21_method_9_code 0 = .ok (.aload_n 0, 1) := by decide +kernel
theorem d5_1 : decode prog_21_method_9_code 1 = .ok (.getfield 45, 3) := by decide +kernel
theorem d5_4 : decode prog_21_method_9_code 4 = .ok (.dload_n 1, 1) := by decide +kernel
theorem d5_5 : decode prog_21_method_9_code 5 = .ok (.invokestatic 53, 3) := by decide +kernel
theorem d5_8 : decode prog_21_method_9_code 8 = .ok (.istore_n 3, 1) := by decide +kernel
theorem d5_9 : decode prog_21_method_9_code 9 = .ok (.iload_n 3, 1) := by decide +kernel
theorem d5_10 : decode prog_21_method_9_code 10 = .ok (.ifCond .lt 7, 3) := by decide +kernel
theorem d5_13 : decode prog_21_method_9_code 13 = .ok (.iload_n 3, 1) := by decide +kernel
theorem d5_14 : decode prog_21_method_9_code 14 = .ok (.goto 7, 3) := by decide +kernel
theorem d5_21 : decode prog_21_method_9_code 21 = .ok (.istore 4, 2) := by decide +kernel
theorem d5_23 : decode prog_21_method_9_code 23 = .ok (.iload 4, 2) := by decide +kernel
theorem d5_25 : decode prog_21_method_9_code 25 = .ok (.iconst 0, 1) := by decide +kernel
theorem d5_26 : decode prog_21_method_9_code 26 = .ok (.invokestatic 59, 3) := by decide +kernel
theorem d5_29 : decode prog_21_method_9_code 29 = .ok (.aload_n 0, 1) := by decide +kernel
theorem d5_30 : decode prog_21_method_9_code 30 = .ok (.getfield 45, 3) := by decide +kernel
theorem d5_33 : decode prog_21_method_9_code 33 = .ok (.arraylength, 1) := by decide +kernel
theorem d5_34 : decode prog_21_method_9_code 34 = .ok (.iconst 2, 1) := by decide +kernel
theorem d5_35 : decode prog_21_method_9_code 35 = .ok (.isub, 1) := by decide +kernel
theorem d5_36 : decode prog_21_method_9_code 36 = .ok (.invokestatic 65, 3) := by decide +kernel
theorem d5_39 : decode prog_21_method_9_code 39 = .ok (.istore 5, 2) := by decide +kernel
theorem d5_41 : decode prog_21_method_9_code 41 = .ok (.dload_n 1, 1) := by decide +kernel
theorem d5_42 : decode prog_21_method_9_code 42 = .ok (.aload_n 0, 1) := by decide +kernel
theorem d5_43 : decode prog_21_method_9_code 43 = .ok (.getfield 45, 3) := by decide +kernel
theorem d5_46 : decode prog_21_method_9_code 46 = .ok (.iload 5, 2) := by decide +kernel
theorem d5_48 : decode prog_21_method_9_code 48 = .ok (.daload, 1) := by decide +kernel
theorem d5_49 : decode prog_21_method_9_code 49 = .ok (.dsub, 1) := by decide +kernel
theorem d5_50 : decode prog_21_method_9_code 50 = .ok (.aload_n 0, 1) := by decide +kernel
theorem d5_51 : decode prog_21_method_9_code 51 = .ok (.getfield 45, 3) := by decide +kernel
theorem d5_54 : decode prog_21_method_9_code 54 = .ok (.iload 5, 2) := by decide +kernel
theorem d5_56 : decode prog_21_method_9_code 56 = .ok (.iconst 1, 1) := by decide +kernel
theorem d5_57 : decode prog_21_method_9_code 57 = .ok (.iadd, 1) := by decide +kernel
theorem d5_58 : decode prog_21_method_9_code 58 = .ok (.daload, 1) := by decide +kernel
theorem d5_59 : decode prog_21_method_9_code 59 = .ok (.aload_n 0, 1) := by decide +kernel
theorem d5_60 : decode prog_21_method_9_code 60 = .ok (.getfield 45, 3) := by decide +kernel
theorem d5_63 : decode prog_21_method_9_code 63 = .ok (.iload 5, 2) := by decide +kernel
theorem d5_65 : decode prog_21_method_9_code 65 = .ok (.daload, 1) := by decide +kernel
theorem d5_66 : decode prog_21_method_9_code 66 = .ok (.dsub, 1) := by decide +kernel
theorem d5_67 : decode prog_21_method_9_code 67 = .ok (.ddiv, 1) := by decide +kernel
theorem d5_68 : decode prog_21_method_9_code 68 = .ok (.dstore 6, 2) := by decide +kernel
theorem d5_70 : decode prog_21_method_9_code 70 = .ok (.aload_n 0, 1) := by decide +kernel
theorem d5_71 : decode prog_21_method_9_code 71 = .ok (.getfield 48, 3) := by decide +kernel
theorem d5_74 : decode prog_21_method_9_code 74 = .ok (.iload 5, 2) := by decide +kernel
theorem d5_76 : decode prog_21_method_9_code 76 = .ok (.daload, 1) := by decide +kernel
theorem d5_77 : decode prog_21_method_9_code 77 = .ok (.dload 6, 2) := by decide +kernel
theorem d5_79 : decode prog_21_method_9_code 79 = .ok (.aload_n 0, 1) := by decide +kernel
theorem d5_80 : decode prog_21_method_9_code 80 = .ok (.getfield 48, 3) := by decide +kernel
theorem d5_83 : decode prog_21_method_9_code 83 = .ok (.iload 5, 2) := by decide +kernel
theorem d5_85 : decode prog_21_method_9_code 85 = .ok (.iconst 1, 1) := by decide +kernel
theorem d5_86 : decode prog_21_method_9_code 86 = .ok (.iadd, 1) := by decide +kernel
theorem d5_87 : decode prog_21_method_9_code 87 = .ok (.daload, 1) := by decide +kernel
theorem d5_88 : decode prog_21_method_9_code 88 = .ok (.aload_n 0, 1) := by decide +kernel
theorem d5_89 : decode prog_21_method_9_code 89 = .ok (.getfield 48, 3) := by decide +kernel
theorem d5_92 : decode prog_21_method_9_code 92 = .ok (.iload 5, 2) := by decide +kernel
theorem d5_94 : decode prog_21_method_9_code 94 = .ok (.daload, 1) := by decide +kernel
theorem d5_95 : decode prog_21_method_9_code 95 = .ok (.dsub, 1) := by decide +kernel
theorem d5_96 : decode prog_21_method_9_code 96 = .ok (.dmul, 1) := by decide +kernel
theorem d5_97 : decode prog_21_method_9_code 97 = .ok (.dadd, 1) := by decide +kernel
theorem d5_98 : decode prog_21_method_9_code 98 = .ok (.dreturn, 1) := by decide +kernel
theorem pnbe : plainName "com/example/corewright/corewright/equilibrium/Strategy" = true := by first | (simp [plainName, overriddenIn]; done) | decide +kernel
theorem pdbe_0 : parseMethodDescriptor "([DD)I" = some ⟨[(.array .double), .double], some .int⟩ := by decide +kernel
theorem pdbe_1 : parseMethodDescriptor "(II)I" = some ⟨[.int, .int], some .int⟩ := by decide +kernel
theorem efbe (m : MethodId) (a0 : Addr) (d1 : UInt64) : entryFrame m #[(.ref a0), (.double d1)] 8 = mkF m 0 #[.val (.ref a0), .val (.double d1), .second, .unset, .unset, .unset, .unset, .unset] [] := by first | (simp [entryFrame, mkF, argsToLocals, Value.category]; done) | rfl
def Qbe (Z : State) (a0 : Addr) (d1 : UInt64) (w_values_a0 : Addr) (kk_w_values_a0 : ClassId) (ev0 : UInt64) (ev1 : UInt64) (ev2 : UInt64) (ev3 : UInt64) (w_bids_a0 : Addr) (kk_w_bids_a0 : ClassId) (eb0 : UInt64) (eb1 : UInt64) (eb2 : UInt64) (eb3 : UInt64) (h0 : Heap) (n0 : Nat) (v : Option Value) (h : Heap) (L : List Loc) : Prop := v = some (.double (FP.dadd eb1 (FP.dmul (FP.ddiv (FP.dsub d1 ev1) (FP.dsub ev2 ev1)) (FP.dsub eb2 eb1)))) ∧ Fr n0 L ∧ h = h0
set_option maxRecDepth 65536 in
set_option maxHeartbeats 40000000 in
theorem rmbe (l : Launch) (Z : State) (ar : Array Value) (hw : ∀ d ∈ tables_1, d.before ar Z = true) (ws : List Jvm.Cond) (a0 : Addr) (d1 : UInt64) (w_values_a0 : Addr) (kk_w_values_a0 : ClassId) (ev0 : UInt64) (ev1 : UInt64) (ev2 : UInt64) (ev3 : UInt64) (w_bids_a0 : Addr) (kk_w_bids_a0 : ClassId) (eb0 : UInt64) (eb1 : UInt64) (eb2 : UInt64) (eb3 : UInt64) (h0 : Heap) (n0 : Nat) (Z0 : n0 ≤ h0.size) (E_a0 : Exa Z h0 a0 "com/example/corewright/corewright/equilibrium/Strategy") (F_values_a0 : Fld Z h0 a0 "com/example/corewright/corewright/equilibrium/Strategy" "values" "[D" (.ref w_values_a0)) (V_w_values_a0 : Arv Z h0 w_values_a0 kk_w_values_a0 .double (4 : Int32) [(.double ev0), (.double ev1), (.double ev2), (.double ev3)] (.double (0 : UInt64))) (F_bids_a0 : Fld Z h0 a0 "com/example/corewright/corewright/equilibrium/Strategy" "bids" "[D" (.ref w_bids_a0)) (V_w_bids_a0 : Arv Z h0 w_bids_a0 kk_w_bids_a0 .double (4 : Int32) [(.double eb0), (.double eb1), (.double eb2), (.double eb3)] (.double (0 : UInt64))) (h5_h5_hb34 : ¬ ((cmpValue (FP.dcmp ev1 d1) .g) < (0 : Int32))) (h5_h5_hb50 : ¬ ((0 : Int32) < (cmpValue (FP.dcmp ev1 d1) .l))) (h5_h5_h64_h1_hq_0 : (cmpValue (FP.dcmp ev1 ev1) .l) = (0 : Int32)) (h5_h5_h70_h1_hq_0 : (cmpValue (FP.dcmp d1 d1) .l) = (0 : Int32)) (h5_h5_hb80 : ev1.toInt64 = d1.toInt64) (hn49 : Jvm.Free.Fl.NoNaN64 (FP.dsub d1 ev1)) (hn66 : Jvm.Free.Fl.NoNaN64 (FP.dsub ev2 ev1)) (hn67 : Jvm.Free.Fl.NoNaN64 (FP.ddiv (FP.dsub d1 ev1) (FP.dsub ev2 ev1))) (hn95 : Jvm.Free.Fl.NoNaN64 (FP.dsub eb2 eb1)) (hn96 : Jvm.Free.Fl.NoNaN64 (FP.dmul (FP.ddiv (FP.dsub d1 ev1) (FP.dsub ev2 ev1)) (FP.dsub eb2 eb1))) (hn97 : Jvm.Free.Fl.NoNaN64 (FP.dadd eb1 (FP.dmul (FP.ddiv (FP.dsub d1 ev1) (FP.dsub ev2 ev1)) (FP.dsub eb2 eb1)))) :
    MetFree l (⟨"com/example/corewright/corewright/equilibrium/Strategy", "bid", "(D)D"⟩ : MethodName) (head1 (Jvm.Cond.code (⟨"com/example/corewright/corewright/equilibrium/Strategy", "bid", "(D)D"⟩ : MethodName) prog_21_method_9_code 8 (some .double) :: ws) ({ frames := 4, cells := 0, slots := 0, locals := 67 } : Room)) (fun a U => a = #[(.ref a0), (.double d1)] ∧ Z.Warmed39 U.vm ∧ U.heap = h0) (fun _ _ _ _ _ => True) (fun _ U o U' => ∃ v L, o = .returned v ∧ Qbe Z a0 d1 w_values_a0 kk_w_values_a0 ev0 ev1 ev2 ev3 w_bids_a0 kk_w_bids_a0 eb0 eb1 eb2 eb3 h0 n0 v U'.heap L ∧ FrameEnd U o U' L ({ frames := 4, cells := 0, slots := 0, locals := 67 } : Room).cells ({ frames := 4, cells := 0, slots := 0, locals := 67 } : Room).slots) := by
  refine MetFree.of_bodySF (plainFor_of_name pnbe) hisR ?_
  intro p e s m args below meth c s₁ Bd hml0 hP hK
  obtain ⟨rfl, hZ, hh⟩ := hP
  have hx := Bd.exec
  have hby := Bd.bytes
  have hlk := Bd.notSynchronized
  have hml : c.maxLocals = 8 := hml0
  have hown : s.vm.findClass "com/example/corewright/corewright/equilibrium/Strategy" = some m.cls := findClass_of_methodNamed Bd.named
  have hnm := (name_of_methodNamed Bd.named Bd.method).1
  have X0 : Stand p l e ({ frames := 4, cells := 0, slots := 0, locals := 67 } : Room) s m #[(.ref a0), (.double d1)] below meth c s₁ [] 0 0 := Stand.of_body Bd
  have e0 : s₁.heap = h0 := by rw [← hh, Bd.state]; rfl
  have N0 := Fr.nil n0
  have K0 := Keep.refl h0 []
  refine own_enter (Q := Qbe Z a0 d1 w_values_a0 kk_w_values_a0 ev0 ev1 ev2 ev3 w_bids_a0 kk_w_bids_a0 eb0 eb1 eb2 eb3 h0 n0) (efbe m a0 d1) ?_
  refine own_st (T' := s₁) (g' := (mkF m 1 #[.val (.ref a0), .val (.double d1), .second, .unset, .unset, .unset, .unset, .unset] [(.ref a0)])) (fun t k => ?_) ?_
  · show Steps p.tables e below (s₁.setTop (mkF m 0 #[.val (.ref a0), .val (.double d1), .second, .unset, .unset, .unset, .unset, .unset] [])) t
    refine XS.aloadN X0.here hx rfl (hb hby d5_0) rfl rfl ?_
    exact k
  obtain ⟨T1, X1, e1, st1⟩ := getF X0 hx hZ hown (host := "") (Or.inl (hw _ (List.mem_of_getElem? (i := 29) rfl))) Via.refl e0 F_values_a0 (g := (mkF m 1 #[.val (.ref a0), .val (.double d1), .second, .unset, .unset, .unset, .unset, .unset] [(.ref a0)])) rfl rfl (hb hby d5_1)
  refine own_st (T' := T1) (g' := (mkF m 4 #[.val (.ref a0), .val (.double d1), .second, .unset, .unset, .unset, .unset, .unset] [(.ref w_values_a0)])) st1 ?_
  refine own_st (T' := T1) (g' := (mkF m 5 #[.val (.ref a0), .val (.double d1), .second, .unset, .unset, .unset, .unset, .unset] [(.double d1), (.ref w_values_a0)])) (fun t k => ?_) ?_
  · show Steps p.tables e below (T1.setTop (mkF m 4 #[.val (.ref a0), .val (.double d1), .second, .unset, .unset, .unset, .unset, .unset] [(.ref w_values_a0)])) t
    refine XS.dloadN X1.here hx rfl (hb hby d5_4) rfl ?_
    exact k
  obtain ⟨_, _, ⟨T2, L2, k2, n2⟩, -, X2, ⟨Lc2, hQ2, l2, y2, z2⟩, st2⟩ := Jvm.LawKit.callS X1 hx (y := (⟨"java/util/Arrays", "binarySearch", "([DD)I"⟩ : MethodName)) hown (mvT hZ (hw _ (List.mem_of_getElem? (i := 38) rfl))) (mvT hZ (hw _ (List.mem_of_getElem? (i := 39) rfl))) (mvT hZ (hw _ (List.mem_of_getElem? (i := 40) rfl))) (mvT hZ (hw _ (List.mem_of_getElem? (i := 41) rfl))) (by decide) (backOf (W := 0) (rmte l Z ar hw [] w_values_a0 d1 kk_w_values_a0 ev0 ev1 ev2 ev3 h0 n0 Z0 V_w_values_a0 h5_h5_hb34 h5_h5_hb50 h5_h5_h64_h1_hq_0 h5_h5_h70_h1_hq_0 h5_h5_hb80) hZ (hw _ (List.mem_of_getElem? (i := 41) rfl)) (hw _ (List.mem_of_getElem? (i := 40) rfl)) (by decide) (by decide)) (g := (mkF m 5 #[.val (.ref a0), .val (.double d1), .second, .unset, .unset, .unset, .unset, .unset] [(.double d1), (.ref w_values_a0)])) rfl (by rw [hml]; rfl) (argsL := [(.ref w_values_a0), (.double d1)]) (rest := []) (lenOf pdbe_0 rfl) rfl (by show 2 * 0 + _ ≤ _; exact Nat.le_of_eq rfl) (hb hby d5_5) (fun _ _ => ⟨rfl, e1, (by decide : 0 + 0 ≤ _), (by decide : 0 + 0 ≤ _)⟩)
  dsimp only [Pt.U, Pt.locs, Pt.cells, Pt.slots] at X2 l2 y2 z2 st2 hQ2
  subst l2 y2 z2
  obtain ⟨rfl, N2q, e2⟩ := hQ2
  have n3 := Fr.app N0 N2q
  refine own_st (T' := T2) (g' := (mkF m 8 #[.val (.ref a0), .val (.double d1), .second, .unset, .unset, .unset, .unset, .unset] [(.int (1 : Int32))])) st2 ?_
  refine own_st (T' := T2) (g' := (mkF m 26 #[.val (.ref a0), .val (.double d1), .second, .val (.int (1 : Int32)), .val (.int (1 : Int32)), .unset, .unset, .unset] [(.int (0 : Int32)), (.int (1 : Int32))])) (fun t k => ?_) ?_
  · show Steps p.tables e below (T2.setTop (mkF m 8 #[.val (.ref a0), .val (.double d1), .second, .unset, .unset, .unset, .unset, .unset] [(.int (1 : Int32))])) t
    refine XS.istoreN X2.here hx rfl (hb hby d5_8) rfl (l' := #[.val (.ref a0), .val (.double d1), .second, .val (.int (1 : Int32)), .unset, .unset, .unset, .unset]) rfl ?_
    show Steps p.tables e below (T2.setTop (mkF m 9 #[.val (.ref a0), .val (.double d1), .second, .val (.int (1 : Int32)), .unset, .unset, .unset, .unset] [])) t
    refine XS.iloadN X2.here hx rfl (hb hby d5_9) rfl ?_
    show Steps p.tables e below (T2.setTop (mkF m 10 #[.val (.ref a0), .val (.double d1), .second, .val (.int (1 : Int32)), .unset, .unset, .unset, .unset] [(.int (1 : Int32))])) t
    refine XS.ifNo X2.here hx rfl (hb hby d5_10) rfl (by decide) ?_
    show Steps p.tables e below (T2.setTop (mkF m 13 #[.val (.ref a0), .val (.double d1), .second, .val (.int (1 : Int32)), .unset, .unset, .unset, .unset] [])) t
    refine XS.iloadN X2.here hx rfl (hb hby d5_13) rfl ?_
    show Steps p.tables e below (T2.setTop (mkF m 14 #[.val (.ref a0), .val (.double d1), .second, .val (.int (1 : Int32)), .unset, .unset, .unset, .unset] [(.int (1 : Int32))])) t
    refine XS.goto X2.here hx rfl (pc0 := 14) (pc' := 21) rfl (hb hby d5_14) (by decide) (by decide) ?_
    show Steps p.tables e below (T2.setTop (mkF m 21 #[.val (.ref a0), .val (.double d1), .second, .val (.int (1 : Int32)), .unset, .unset, .unset, .unset] [(.int (1 : Int32))])) t
    refine XS.istore X2.here hx rfl (hb hby d5_21) rfl (l' := #[.val (.ref a0), .val (.double d1), .second, .val (.int (1 : Int32)), .val (.int (1 : Int32)), .unset, .unset, .unset]) rfl ?_
    show Steps p.tables e below (T2.setTop (mkF m 23 #[.val (.ref a0), .val (.double d1), .second, .val (.int (1 : Int32)), .val (.int (1 : Int32)), .unset, .unset, .unset] [])) t
    refine XS.iload X2.here hx rfl (hb hby d5_23) rfl ?_
    show Steps p.tables e below (T2.setTop (mkF m 25 #[.val (.ref a0), .val (.double d1), .second, .val (.int (1 : Int32)), .val (.int (1 : Int32)), .unset, .unset, .unset] [(.int (1 : Int32))])) t
    refine XS.iconst X2.here hx rfl (hb hby d5_25) ?_
    exact k
  obtain ⟨_, _, ⟨T4, L4, k4, n4⟩, -, X4, ⟨Lc4, hQ4, l4, y4, z4⟩, st4⟩ := Jvm.LawKit.callS X2 hx (y := (⟨"java/lang/Math", "max", "(II)I"⟩ : MethodName)) hown (mvT hZ (hw _ (List.mem_of_getElem? (i := 54) rfl))) (mvT hZ (hw _ (List.mem_of_getElem? (i := 55) rfl))) (mvT hZ (hw _ (List.mem_of_getElem? (i := 17) rfl))) (mvT hZ (hw _ (List.mem_of_getElem? (i := 56) rfl))) (by decide) (backOf (W := 0) (rmmx0 l Z ar hw [] ((1 : Int32)) ((0 : Int32)) h0 n0 Z0 (by decide)) hZ (hw _ (List.mem_of_getElem? (i := 56) rfl)) (hw _ (List.mem_of_getElem? (i := 17) rfl)) (by decide) (by decide)) (g := (mkF m 26 #[.val (.ref a0), .val (.double d1), .second, .val (.int (1 : Int32)), .val (.int (1 : Int32)), .unset, .unset, .unset] [(.int (0 : Int32)), (.int (1 : Int32))])) rfl (by rw [hml]; rfl) (argsL := [(.int (1 : Int32)), (.int (0 : Int32))]) (rest := []) (lenOf pdbe_1 rfl) rfl (by show 2 * 0 + _ ≤ _; exact Nat.le_of_eq rfl) (hb hby d5_26) (fun _ _ => ⟨rfl, e2, (by decide : 0 + 0 ≤ _), (by decide : 0 + 0 ≤ _)⟩)
  dsimp only [Pt.U, Pt.locs, Pt.cells, Pt.slots] at X4 l4 y4 z4 st4 hQ4
  subst l4 y4 z4
  obtain ⟨rfl, N4q, e4⟩ := hQ4
  have n5 := Fr.app n3 N4q
  refine own_st (T' := T4) (g' := (mkF m 29 #[.val (.ref a0), .val (.double d1), .second, .val (.int (1 : Int32)), .val (.int (1 : Int32)), .unset, .unset, .unset] [(.int (1 : Int32))])) st4 ?_
  refine own_st (T' := T4) (g' := (mkF m 30 #[.val (.ref a0), .val (.double d1), .second, .val (.int (1 : Int32)), .val (.int (1 : Int32)), .unset, .unset, .unset] [(.ref a0), (.int (1 : Int32))])) (fun t k => ?_) ?_
  · show Steps p.tables e below (T4.setTop (mkF m 29 #[.val (.ref a0), .val (.double d1), .second, .val (.int (1 : Int32)), .val (.int (1 : Int32)), .unset, .unset, .unset] [(.int (1 : Int32))])) t
    refine XS.aloadN X4.here hx rfl (hb hby d5_29) rfl rfl ?_
    exact k
  obtain ⟨T6, X6, e6, st6⟩ := getF X4 hx hZ hown (host := "") (Or.inl (hw _ (List.mem_of_getElem? (i := 29) rfl))) Via.refl e4 F_values_a0 (g := (mkF m 30 #[.val (.ref a0), .val (.double d1), .second, .val (.int (1 : Int32)), .val (.int (1 : Int32)), .unset, .unset, .unset] [(.ref a0), (.int (1 : Int32))])) rfl rfl (hb hby d5_30)
  refine own_st (T' := T6) (g' := (mkF m 33 #[.val (.ref a0), .val (.double d1), .second, .val (.int (1 : Int32)), .val (.int (1 : Int32)), .unset, .unset, .unset] [(.ref w_values_a0), (.int (1 : Int32))])) st6 ?_
  obtain ⟨c7, r7a, -, r7c, r7d, -, -⟩ := id V_w_values_a0
  refine own_st (T' := T6) (g' := (mkF m 36 #[.val (.ref a0), .val (.double d1), .second, .val (.int (1 : Int32)), .val (.int (1 : Int32)), .unset, .unset, .unset] [(.int (2 : Int32)), (.int (1 : Int32))])) (fun t k => ?_) ?_
  · show Steps p.tables e below (T6.setTop (mkF m 33 #[.val (.ref a0), .val (.double d1), .second, .val (.int (1 : Int32)), .val (.int (1 : Int32)), .unset, .unset, .unset] [(.ref w_values_a0), (.int (1 : Int32))])) t
    refine X6.arraylength hx (by rw [e6]; exact r7a.1) (State.isArrayOf_alike hZ.alike r7a.2.1) (g := (mkF m 33 #[.val (.ref a0), .val (.double d1), .second, .val (.int (1 : Int32)), .val (.int (1 : Int32)), .unset, .unset, .unset] [(.ref w_values_a0), (.int (1 : Int32))])) rfl rfl (hb hby d5_33) _ ?_
    rw [len_of r7c r7d]
    show Steps p.tables e below (T6.setTop (mkF m 34 #[.val (.ref a0), .val (.double d1), .second, .val (.int (1 : Int32)), .val (.int (1 : Int32)), .unset, .unset, .unset] [(.int (4 : Int32)), (.int (1 : Int32))])) t
    refine XS.iconst X6.here hx rfl (hb hby d5_34) ?_
    show Steps p.tables e below (T6.setTop (mkF m 35 #[.val (.ref a0), .val (.double d1), .second, .val (.int (1 : Int32)), .val (.int (1 : Int32)), .unset, .unset, .unset] [(.int (2 : Int32)), (.int (4 : Int32)), (.int (1 : Int32))])) t
    refine XS.isub X6.here hx rfl (hb hby d5_35) rfl ?_
    exact k
  obtain ⟨_, _, ⟨T8, L8, k8, n8⟩, -, X8, ⟨Lc8, hQ8, l8, y8, z8⟩, st8⟩ := Jvm.LawKit.callS X6 hx (y := (⟨"java/lang/Math", "min", "(II)I"⟩ : MethodName)) hown (mvT hZ (hw _ (List.mem_of_getElem? (i := 57) rfl))) (mvT hZ (hw _ (List.mem_of_getElem? (i := 58) rfl))) (mvT hZ (hw _ (List.mem_of_getElem? (i := 17) rfl))) (mvT hZ (hw _ (List.mem_of_getElem? (i := 59) rfl))) (by decide) (backOf (W := 0) (rmmn0 l Z ar hw [] ((1 : Int32)) ((2 : Int32)) h0 n0 Z0 (by decide)) hZ (hw _ (List.mem_of_getElem? (i := 59) rfl)) (hw _ (List.mem_of_getElem? (i := 17) rfl)) (by decide) (by decide)) (g := (mkF m 36 #[.val (.ref a0), .val (.double d1), .second, .val (.int (1 : Int32)), .val (.int (1 : Int32)), .unset, .unset, .unset] [(.int (2 : Int32)), (.int (1 : Int32))])) rfl (by rw [hml]; rfl) (argsL := [(.int (1 : Int32)), (.int (2 : Int32))]) (rest := []) (lenOf pdbe_1 rfl) rfl (by show 2 * 0 + _ ≤ _; exact Nat.le_of_eq rfl) (hb hby d5_36) (fun _ _ => ⟨rfl, e6, (by decide : 0 + 0 ≤ _), (by decide : 0 + 0 ≤ _)⟩)
  dsimp only [Pt.U, Pt.locs, Pt.cells, Pt.slots] at X8 l8 y8 z8 st8 hQ8
  subst l8 y8 z8
  obtain ⟨rfl, N8q, e8⟩ := hQ8
  have n9 := Fr.app n5 N8q
  refine own_st (T' := T8) (g' := (mkF m 39 #[.val (.ref a0), .val (.double d1), .second, .val (.int (1 : Int32)), .val (.int (1 : Int32)), .unset, .unset, .unset] [(.int (1 : Int32))])) st8 ?_
  refine own_st (T' := T8) (g' := (mkF m 43 #[.val (.ref a0), .val (.double d1), .second, .val (.int (1 : Int32)), .val (.int (1 : Int32)), .val (.int (1 : Int32)), .unset, .unset] [(.ref a0), (.double d1)])) (fun t k => ?_) ?_
  · show Steps p.tables e below (T8.setTop (mkF m 39 #[.val (.ref a0), .val (.double d1), .second, .val (.int (1 : Int32)), .val (.int (1 : Int32)), .unset, .unset, .unset] [(.int (1 : Int32))])) t
    refine XS.istore X8.here hx rfl (hb hby d5_39) rfl (l' := #[.val (.ref a0), .val (.double d1), .second, .val (.int (1 : Int32)), .val (.int (1 : Int32)), .val (.int (1 : Int32)), .unset, .unset]) rfl ?_
    show Steps p.tables e below (T8.setTop (mkF m 41 #[.val (.ref a0), .val (.double d1), .second, .val (.int (1 : Int32)), .val (.int (1 : Int32)), .val (.int (1 : Int32)), .unset, .unset] [])) t
    refine XS.dloadN X8.here hx rfl (hb hby d5_41) rfl ?_
    show Steps p.tables e below (T8.setTop (mkF m 42 #[.val (.ref a0), .val (.double d1), .second, .val (.int (1 : Int32)), .val (.int (1 : Int32)), .val (.int (1 : Int32)), .unset, .unset] [(.double d1)])) t
    refine XS.aloadN X8.here hx rfl (hb hby d5_42) rfl rfl ?_
    exact k
  obtain ⟨T10, X10, e10, st10⟩ := getF X8 hx hZ hown (host := "") (Or.inl (hw _ (List.mem_of_getElem? (i := 29) rfl))) Via.refl e8 F_values_a0 (g := (mkF m 43 #[.val (.ref a0), .val (.double d1), .second, .val (.int (1 : Int32)), .val (.int (1 : Int32)), .val (.int (1 : Int32)), .unset, .unset] [(.ref a0), (.double d1)])) rfl rfl (hb hby d5_43)
  refine own_st (T' := T10) (g' := (mkF m 46 #[.val (.ref a0), .val (.double d1), .second, .val (.int (1 : Int32)), .val (.int (1 : Int32)), .val (.int (1 : Int32)), .unset, .unset] [(.ref w_values_a0), (.double d1)])) st10 ?_
  refine own_st (T' := T10) (g' := (mkF m 48 #[.val (.ref a0), .val (.double d1), .second, .val (.int (1 : Int32)), .val (.int (1 : Int32)), .val (.int (1 : Int32)), .unset, .unset] [(.int (1 : Int32)), (.ref w_values_a0), (.double d1)])) (fun t k => ?_) ?_
  · show Steps p.tables e below (T10.setTop (mkF m 46 #[.val (.ref a0), .val (.double d1), .second, .val (.int (1 : Int32)), .val (.int (1 : Int32)), .val (.int (1 : Int32)), .unset, .unset] [(.ref w_values_a0), (.double d1)])) t
    refine XS.iload X10.here hx rfl (hb hby d5_46) rfl ?_
    exact k
  obtain ⟨c11, r11a, r11b, r11c, r11d, r11e, r11f⟩ := id V_w_values_a0
  have i11 : ¬ ((1 : Int32) < 0 ∨ c11.slots.size ≤ ((1 : Int32)).toNatClampNeg) := inb_of r11c ⟨by decide, by decide⟩
  have y11 : c11.slots[((1 : Int32)).toNatClampNeg]? = some (.double ev1) := r11e.at i11 rfl
  refine own_st (T' := T10) (g' := (mkF m 51 #[.val (.ref a0), .val (.double d1), .second, .val (.int (1 : Int32)), .val (.int (1 : Int32)), .val (.int (1 : Int32)), .unset, .unset] [(.ref a0), (.double (FP.dsub d1 ev1))])) (fun t k => ?_) ?_
  · show Steps p.tables e below (T10.setTop (mkF m 48 #[.val (.ref a0), .val (.double d1), .second, .val (.int (1 : Int32)), .val (.int (1 : Int32)), .val (.int (1 : Int32)), .unset, .unset] [(.int (1 : Int32)), (.ref w_values_a0), (.double d1)])) t
    refine X10.daload hx (j := (1 : Int32)) (v := (.double ev1)) (by rw [e10]; exact r11a.1) (State.isArrayOf_alike hZ.alike r11a.2.1) r11a.2.2 i11 y11 (g := (mkF m 48 #[.val (.ref a0), .val (.double d1), .second, .val (.int (1 : Int32)), .val (.int (1 : Int32)), .val (.int (1 : Int32)), .unset, .unset] [(.int (1 : Int32)), (.ref w_values_a0), (.double d1)])) rfl rfl (hb hby d5_48) _ ?_
    show Steps p.tables e below (T10.setTop (mkF m 49 #[.val (.ref a0), .val (.double d1), .second, .val (.int (1 : Int32)), .val (.int (1 : Int32)), .val (.int (1 : Int32)), .unset, .unset] [(.double ev1), (.double d1)])) t
    refine XS.dsubS X10.here hx rfl (hb hby d5_49) rfl hn49 rfl ?_
    show Steps p.tables e below (T10.setTop (mkF m 50 #[.val (.ref a0), .val (.double d1), .second, .val (.int (1 : Int32)), .val (.int (1 : Int32)), .val (.int (1 : Int32)), .unset, .unset] [(.double (FP.dsub d1 ev1))])) t
    refine XS.aloadN X10.here hx rfl (hb hby d5_50) rfl rfl ?_
    exact k
  obtain ⟨T12, X12, e12, st12⟩ := getF X10 hx hZ hown (host := "") (Or.inl (hw _ (List.mem_of_getElem? (i := 29) rfl))) Via.refl e10 F_values_a0 (g := (mkF m 51 #[.val (.ref a0), .val (.double d1), .second, .val (.int (1 : Int32)), .val (.int (1 : Int32)), .val (.int (1 : Int32)), .unset, .unset] [(.ref a0), (.double (FP.dsub d1 ev1))])) rfl rfl (hb hby d5_51)
  refine own_st (T' := T12) (g' := (mkF m 54 #[.val (.ref a0), .val (.double d1), .second, .val (.int (1 : Int32)), .val (.int (1 : Int32)), .val (.int (1 : Int32)), .unset, .unset] [(.ref w_values_a0), (.double (FP.dsub d1 ev1))])) st12 ?_
  refine own_st (T' := T12) (g' := (mkF m 58 #[.val (.ref a0), .val (.double d1), .second, .val (.int (1 : Int32)), .val (.int (1 : Int32)), .val (.int (1 : Int32)), .unset, .unset] [(.int (2 : Int32)), (.ref w_values_a0), (.double (FP.dsub d1 ev1))])) (fun t k => ?_) ?_
  · show Steps p.tables e below (T12.setTop (mkF m 54 #[.val (.ref a0), .val (.double d1), .second, .val (.int (1 : Int32)), .val (.int (1 : Int32)), .val (.int (1 : Int32)), .unset, .unset] [(.ref w_values_a0), (.double (FP.dsub d1 ev1))])) t
    refine XS.iload X12.here hx rfl (hb hby d5_54) rfl ?_
    show Steps p.tables e below (T12.setTop (mkF m 56 #[.val (.ref a0), .val (.double d1), .second, .val (.int (1 : Int32)), .val (.int (1 : Int32)), .val (.int (1 : Int32)), .unset, .unset] [(.int (1 : Int32)), (.ref w_values_a0), (.double (FP.dsub d1 ev1))])) t
    refine XS.iconst X12.here hx rfl (hb hby d5_56) ?_
    show Steps p.tables e below (T12.setTop (mkF m 57 #[.val (.ref a0), .val (.double d1), .second, .val (.int (1 : Int32)), .val (.int (1 : Int32)), .val (.int (1 : Int32)), .unset, .unset] [(.int (1 : Int32)), (.int (1 : Int32)), (.ref w_values_a0), (.double (FP.dsub d1 ev1))])) t
    refine XS.iadd X12.here hx rfl (hb hby d5_57) rfl ?_
    exact k
  obtain ⟨c13, r13a, r13b, r13c, r13d, r13e, r13f⟩ := id V_w_values_a0
  have i13 : ¬ ((2 : Int32) < 0 ∨ c13.slots.size ≤ ((2 : Int32)).toNatClampNeg) := inb_of r13c ⟨by decide, by decide⟩
  have y13 : c13.slots[((2 : Int32)).toNatClampNeg]? = some (.double ev2) := r13e.at i13 rfl
  refine own_st (T' := T12) (g' := (mkF m 60 #[.val (.ref a0), .val (.double d1), .second, .val (.int (1 : Int32)), .val (.int (1 : Int32)), .val (.int (1 : Int32)), .unset, .unset] [(.ref a0), (.double ev2), (.double (FP.dsub d1 ev1))])) (fun t k => ?_) ?_
  · show Steps p.tables e below (T12.setTop (mkF m 58 #[.val (.ref a0), .val (.double d1), .second, .val (.int (1 : Int32)), .val (.int (1 : Int32)), .val (.int (1 : Int32)), .unset, .unset] [(.int (2 : Int32)), (.ref w_values_a0), (.double (FP.dsub d1 ev1))])) t
    refine X12.daload hx (j := (2 : Int32)) (v := (.double ev2)) (by rw [e12]; exact r13a.1) (State.isArrayOf_alike hZ.alike r13a.2.1) r13a.2.2 i13 y13 (g := (mkF m 58 #[.val (.ref a0), .val (.double d1), .second, .val (.int (1 : Int32)), .val (.int (1 : Int32)), .val (.int (1 : Int32)), .unset, .unset] [(.int (2 : Int32)), (.ref w_values_a0), (.double (FP.dsub d1 ev1))])) rfl rfl (hb hby d5_58) _ ?_
    show Steps p.tables e below (T12.setTop (mkF m 59 #[.val (.ref a0), .val (.double d1), .second, .val (.int (1 : Int32)), .val (.int (1 : Int32)), .val (.int (1 : Int32)), .unset, .unset] [(.double ev2), (.double (FP.dsub d1 ev1))])) t
    refine XS.aloadN X12.here hx rfl (hb hby d5_59) rfl rfl ?_
    exact k
  obtain ⟨T14, X14, e14, st14⟩ := getF X12 hx hZ hown (host := "") (Or.inl (hw _ (List.mem_of_getElem? (i := 29) rfl))) Via.refl e12 F_values_a0 (g := (mkF m 60 #[.val (.ref a0), .val (.double d1), .second, .val (.int (1 : Int32)), .val (.int (1 : Int32)), .val (.int (1 : Int32)), .unset, .unset] [(.ref a0), (.double ev2), (.double (FP.dsub d1 ev1))])) rfl rfl (hb hby d5_60)
  refine own_st (T' := T14) (g' := (mkF m 63 #[.val (.ref a0), .val (.double d1), .second, .val (.int (1 : Int32)), .val (.int (1 : Int32)), .val (.int (1 : Int32)), .unset, .unset] [(.ref w_values_a0), (.double ev2), (.double (FP.dsub d1 ev1))])) st14 ?_
  refine own_st (T' := T14) (g' := (mkF m 65 #[.val (.ref a0), .val (.double d1), .second, .val (.int (1 : Int32)), .val (.int (1 : Int32)), .val (.int (1 : Int32)), .unset, .unset] [(.int (1 : Int32)), (.ref w_values_a0), (.double ev2), (.double (FP.dsub d1 ev1))])) (fun t k => ?_) ?_
  · show Steps p.tables e below (T14.setTop (mkF m 63 #[.val (.ref a0), .val (.double d1), .second, .val (.int (1 : Int32)), .val (.int (1 : Int32)), .val (.int (1 : Int32)), .unset, .unset] [(.ref w_values_a0), (.double ev2), (.double (FP.dsub d1 ev1))])) t
    refine XS.iload X14.here hx rfl (hb hby d5_63) rfl ?_
    exact k
  obtain ⟨c15, r15a, r15b, r15c, r15d, r15e, r15f⟩ := id V_w_values_a0
  have i15 : ¬ ((1 : Int32) < 0 ∨ c15.slots.size ≤ ((1 : Int32)).toNatClampNeg) := inb_of r15c ⟨by decide, by decide⟩
  have y15 : c15.slots[((1 : Int32)).toNatClampNeg]? = some (.double ev1) := r15e.at i15 rfl
  refine own_st (T' := T14) (g' := (mkF m 71 #[.val (.ref a0), .val (.double d1), .second, .val (.int (1 : Int32)), .val (.int (1 : Int32)), .val (.int (1 : Int32)), .val (.double (FP.ddiv (FP.dsub d1 ev1) (FP.dsub ev2 ev1))), .second] [(.ref a0)])) (fun t k => ?_) ?_
  · show Steps p.tables e below (T14.setTop (mkF m 65 #[.val (.ref a0), .val (.double d1), .second, .val (.int (1 : Int32)), .val (.int (1 : Int32)), .val (.int (1 : Int32)), .unset, .unset] [(.int (1 : Int32)), (.ref w_values_a0), (.double ev2), (.double (FP.dsub d1 ev1))])) t
    refine X14.daload hx (j := (1 : Int32)) (v := (.double ev1)) (by rw [e14]; exact r15a.1) (State.isArrayOf_alike hZ.alike r15a.2.1) r15a.2.2 i15 y15 (g := (mkF m 65 #[.val (.ref a0), .val (.double d1), .second, .val (.int (1 : Int32)), .val (.int (1 : Int32)), .val (.int (1 : Int32)), .unset, .unset] [(.int (1 : Int32)), (.ref w_values_a0), (.double ev2), (.double (FP.dsub d1 ev1))])) rfl rfl (hb hby d5_65) _ ?_
    show Steps p.tables e below (T14.setTop (mkF m 66 #[.val (.ref a0), .val (.double d1), .second, .val (.int (1 : Int32)), .val (.int (1 : Int32)), .val (.int (1 : Int32)), .unset, .unset] [(.double ev1), (.double ev2), (.double (FP.dsub d1 ev1))])) t
    refine XS.dsubS X14.here hx rfl (hb hby d5_66) rfl hn66 rfl ?_
    show Steps p.tables e below (T14.setTop (mkF m 67 #[.val (.ref a0), .val (.double d1), .second, .val (.int (1 : Int32)), .val (.int (1 : Int32)), .val (.int (1 : Int32)), .unset, .unset] [(.double (FP.dsub ev2 ev1)), (.double (FP.dsub d1 ev1))])) t
    refine XS.ddivS X14.here hx rfl (hb hby d5_67) rfl hn67 rfl ?_
    show Steps p.tables e below (T14.setTop (mkF m 68 #[.val (.ref a0), .val (.double d1), .second, .val (.int (1 : Int32)), .val (.int (1 : Int32)), .val (.int (1 : Int32)), .unset, .unset] [(.double (FP.ddiv (FP.dsub d1 ev1) (FP.dsub ev2 ev1)))])) t
    refine XS.dstore X14.here hx rfl (hb hby d5_68) rfl (l' := #[.val (.ref a0), .val (.double d1), .second, .val (.int (1 : Int32)), .val (.int (1 : Int32)), .val (.int (1 : Int32)), .val (.double (FP.ddiv (FP.dsub d1 ev1) (FP.dsub ev2 ev1))), .second]) rfl ?_
    show Steps p.tables e below (T14.setTop (mkF m 70 #[.val (.ref a0), .val (.double d1), .second, .val (.int (1 : Int32)), .val (.int (1 : Int32)), .val (.int (1 : Int32)), .val (.double (FP.ddiv (FP.dsub d1 ev1) (FP.dsub ev2 ev1))), .second] [])) t
    refine XS.aloadN X14.here hx rfl (hb hby d5_70) rfl rfl ?_
    exact k
  obtain ⟨T16, X16, e16, st16⟩ := getF X14 hx hZ hown (host := "") (Or.inl (hw _ (List.mem_of_getElem? (i := 31) rfl))) Via.refl e14 F_bids_a0 (g := (mkF m 71 #[.val (.ref a0), .val (.double d1), .second, .val (.int (1 : Int32)), .val (.int (1 : Int32)), .val (.int (1 : Int32)), .val (.double (FP.ddiv (FP.dsub d1 ev1) (FP.dsub ev2 ev1))), .second] [(.ref a0)])) rfl rfl (hb hby d5_71)
  refine own_st (T' := T16) (g' := (mkF m 74 #[.val (.ref a0), .val (.double d1), .second, .val (.int (1 : Int32)), .val (.int (1 : Int32)), .val (.int (1 : Int32)), .val (.double (FP.ddiv (FP.dsub d1 ev1) (FP.dsub ev2 ev1))), .second] [(.ref w_bids_a0)])) st16 ?_
  refine own_st (T' := T16) (g' := (mkF m 76 #[.val (.ref a0), .val (.double d1), .second, .val (.int (1 : Int32)), .val (.int (1 : Int32)), .val (.int (1 : Int32)), .val (.double (FP.ddiv (FP.dsub d1 ev1) (FP.dsub ev2 ev1))), .second] [(.int (1 : Int32)), (.ref w_bids_a0)])) (fun t k => ?_) ?_
  · show Steps p.tables e below (T16.setTop (mkF m 74 #[.val (.ref a0), .val (.double d1), .second, .val (.int (1 : Int32)), .val (.int (1 : Int32)), .val (.int (1 : Int32)), .val (.double (FP.ddiv (FP.dsub d1 ev1) (FP.dsub ev2 ev1))), .second] [(.ref w_bids_a0)])) t
    refine XS.iload X16.here hx rfl (hb hby d5_74) rfl ?_
    exact k
  obtain ⟨c17, r17a, r17b, r17c, r17d, r17e, r17f⟩ := id V_w_bids_a0
  have i17 : ¬ ((1 : Int32) < 0 ∨ c17.slots.size ≤ ((1 : Int32)).toNatClampNeg) := inb_of r17c ⟨by decide, by decide⟩
  have y17 : c17.slots[((1 : Int32)).toNatClampNeg]? = some (.double eb1) := r17e.at i17 rfl
  refine own_st (T' := T16) (g' := (mkF m 80 #[.val (.ref a0), .val (.double d1), .second, .val (.int (1 : Int32)), .val (.int (1 : Int32)), .val (.int (1 : Int32)), .val (.double (FP.ddiv (FP.dsub d1 ev1) (FP.dsub ev2 ev1))), .second] [(.ref a0), (.double (FP.ddiv (FP.dsub d1 ev1) (FP.dsub ev2 ev1))), (.double eb1)])) (fun t k => ?_) ?_
  · show Steps p.tables e below (T16.setTop (mkF m 76 #[.val (.ref a0), .val (.double d1), .second, .val (.int (1 : Int32)), .val (.int (1 : Int32)), .val (.int (1 : Int32)), .val (.double (FP.ddiv (FP.dsub d1 ev1) (FP.dsub ev2 ev1))), .second] [(.int (1 : Int32)), (.ref w_bids_a0)])) t
    refine X16.daload hx (j := (1 : Int32)) (v := (.double eb1)) (by rw [e16]; exact r17a.1) (State.isArrayOf_alike hZ.alike r17a.2.1) r17a.2.2 i17 y17 (g := (mkF m 76 #[.val (.ref a0), .val (.double d1), .second, .val (.int (1 : Int32)), .val (.int (1 : Int32)), .val (.int (1 : Int32)), .val (.double (FP.ddiv (FP.dsub d1 ev1) (FP.dsub ev2 ev1))), .second] [(.int (1 : Int32)), (.ref w_bids_a0)])) rfl rfl (hb hby d5_76) _ ?_
    show Steps p.tables e below (T16.setTop (mkF m 77 #[.val (.ref a0), .val (.double d1), .second, .val (.int (1 : Int32)), .val (.int (1 : Int32)), .val (.int (1 : Int32)), .val (.double (FP.ddiv (FP.dsub d1 ev1) (FP.dsub ev2 ev1))), .second] [(.double eb1)])) t
    refine XS.dload X16.here hx rfl (hb hby d5_77) rfl ?_
    show Steps p.tables e below (T16.setTop (mkF m 79 #[.val (.ref a0), .val (.double d1), .second, .val (.int (1 : Int32)), .val (.int (1 : Int32)), .val (.int (1 : Int32)), .val (.double (FP.ddiv (FP.dsub d1 ev1) (FP.dsub ev2 ev1))), .second] [(.double (FP.ddiv (FP.dsub d1 ev1) (FP.dsub ev2 ev1))), (.double eb1)])) t
    refine XS.aloadN X16.here hx rfl (hb hby d5_79) rfl rfl ?_
    exact k
  obtain ⟨T18, X18, e18, st18⟩ := getF X16 hx hZ hown (host := "") (Or.inl (hw _ (List.mem_of_getElem? (i := 31) rfl))) Via.refl e16 F_bids_a0 (g := (mkF m 80 #[.val (.ref a0), .val (.double d1), .second, .val (.int (1 : Int32)), .val (.int (1 : Int32)), .val (.int (1 : Int32)), .val (.double (FP.ddiv (FP.dsub d1 ev1) (FP.dsub ev2 ev1))), .second] [(.ref a0), (.double (FP.ddiv (FP.dsub d1 ev1) (FP.dsub ev2 ev1))), (.double eb1)])) rfl rfl (hb hby d5_80)
  refine own_st (T' := T18) (g' := (mkF m 83 #[.val (.ref a0), .val (.double d1), .second, .val (.int (1 : Int32)), .val (.int (1 : Int32)), .val (.int (1 : Int32)), .val (.double (FP.ddiv (FP.dsub d1 ev1) (FP.dsub ev2 ev1))), .second] [(.ref w_bids_a0), (.double (FP.ddiv (FP.dsub d1 ev1) (FP.dsub ev2 ev1))), (.double eb1)])) st18 ?_
  refine own_st (T' := T18) (g' := (mkF m 87 #[.val (.ref a0), .val (.double d1), .second, .val (.int (1 : Int32)), .val (.int (1 : Int32)), .val (.int (1 : Int32)), .val (.double (FP.ddiv (FP.dsub d1 ev1) (FP.dsub ev2 ev1))), .second] [(.int (2 : Int32)), (.ref w_bids_a0), (.double (FP.ddiv (FP.dsub d1 ev1) (FP.dsub ev2 ev1))), (.double eb1)])) (fun t k => ?_) ?_
  · show Steps p.tables e below (T18.setTop (mkF m 83 #[.val (.ref a0), .val (.double d1), .second, .val (.int (1 : Int32)), .val (.int (1 : Int32)), .val (.int (1 : Int32)), .val (.double (FP.ddiv (FP.dsub d1 ev1) (FP.dsub ev2 ev1))), .second] [(.ref w_bids_a0), (.double (FP.ddiv (FP.dsub d1 ev1) (FP.dsub ev2 ev1))), (.double eb1)])) t
    refine XS.iload X18.here hx rfl (hb hby d5_83) rfl ?_
    show Steps p.tables e below (T18.setTop (mkF m 85 #[.val (.ref a0), .val (.double d1), .second, .val (.int (1 : Int32)), .val (.int (1 : Int32)), .val (.int (1 : Int32)), .val (.double (FP.ddiv (FP.dsub d1 ev1) (FP.dsub ev2 ev1))), .second] [(.int (1 : Int32)), (.ref w_bids_a0), (.double (FP.ddiv (FP.dsub d1 ev1) (FP.dsub ev2 ev1))), (.double eb1)])) t
    refine XS.iconst X18.here hx rfl (hb hby d5_85) ?_
    show Steps p.tables e below (T18.setTop (mkF m 86 #[.val (.ref a0), .val (.double d1), .second, .val (.int (1 : Int32)), .val (.int (1 : Int32)), .val (.int (1 : Int32)), .val (.double (FP.ddiv (FP.dsub d1 ev1) (FP.dsub ev2 ev1))), .second] [(.int (1 : Int32)), (.int (1 : Int32)), (.ref w_bids_a0), (.double (FP.ddiv (FP.dsub d1 ev1) (FP.dsub ev2 ev1))), (.double eb1)])) t
    refine XS.iadd X18.here hx rfl (hb hby d5_86) rfl ?_
    exact k
  obtain ⟨c19, r19a, r19b, r19c, r19d, r19e, r19f⟩ := id V_w_bids_a0
  have i19 : ¬ ((2 : Int32) < 0 ∨ c19.slots.size ≤ ((2 : Int32)).toNatClampNeg) := inb_of r19c ⟨by decide, by decide⟩
  have y19 : c19.slots[((2 : Int32)).toNatClampNeg]? = some (.double eb2) := r19e.at i19 rfl
  refine own_st (T' := T18) (g' := (mkF m 89 #[.val (.ref a0), .val (.double d1), .second, .val (.int (1 : Int32)), .val (.int (1 : Int32)), .val (.int (1 : Int32)), .val (.double (FP.ddiv (FP.dsub d1 ev1) (FP.dsub ev2 ev1))), .second] [(.ref a0), (.double eb2), (.double (FP.ddiv (FP.dsub d1 ev1) (FP.dsub ev2 ev1))), (.double eb1)])) (fun t k => ?_) ?_
  · show Steps p.tables e below (T18.setTop (mkF m 87 #[.val (.ref a0), .val (.double d1), .second, .val (.int (1 : Int32)), .val (.int (1 : Int32)), .val (.int (1 : Int32)), .val (.double (FP.ddiv (FP.dsub d1 ev1) (FP.dsub ev2 ev1))), .second] [(.int (2 : Int32)), (.ref w_bids_a0), (.double (FP.ddiv (FP.dsub d1 ev1) (FP.dsub ev2 ev1))), (.double eb1)])) t
    refine X18.daload hx (j := (2 : Int32)) (v := (.double eb2)) (by rw [e18]; exact r19a.1) (State.isArrayOf_alike hZ.alike r19a.2.1) r19a.2.2 i19 y19 (g := (mkF m 87 #[.val (.ref a0), .val (.double d1), .second, .val (.int (1 : Int32)), .val (.int (1 : Int32)), .val (.int (1 : Int32)), .val (.double (FP.ddiv (FP.dsub d1 ev1) (FP.dsub ev2 ev1))), .second] [(.int (2 : Int32)), (.ref w_bids_a0), (.double (FP.ddiv (FP.dsub d1 ev1) (FP.dsub ev2 ev1))), (.double eb1)])) rfl rfl (hb hby d5_87) _ ?_
    show Steps p.tables e below (T18.setTop (mkF m 88 #[.val (.ref a0), .val (.double d1), .second, .val (.int (1 : Int32)), .val (.int (1 : Int32)), .val (.int (1 : Int32)), .val (.double (FP.ddiv (FP.dsub d1 ev1) (FP.dsub ev2 ev1))), .second] [(.double eb2), (.double (FP.ddiv (FP.dsub d1 ev1) (FP.dsub ev2 ev1))), (.double eb1)])) t
    refine XS.aloadN X18.here hx rfl (hb hby d5_88) rfl rfl ?_
    exact k
  obtain ⟨T20, X20, e20, st20⟩ := getF X18 hx hZ hown (host := "") (Or.inl (hw _ (List.mem_of_getElem? (i := 31) rfl))) Via.refl e18 F_bids_a0 (g := (mkF m 89 #[.val (.ref a0), .val (.double d1), .second, .val (.int (1 : Int32)), .val (.int (1 : Int32)), .val (.int (1 : Int32)), .val (.double (FP.ddiv (FP.dsub d1 ev1) (FP.dsub ev2 ev1))), .second] [(.ref a0), (.double eb2), (.double (FP.ddiv (FP.dsub d1 ev1) (FP.dsub ev2 ev1))), (.double eb1)])) rfl rfl (hb hby d5_89)
  refine own_st (T' := T20) (g' := (mkF m 92 #[.val (.ref a0), .val (.double d1), .second, .val (.int (1 : Int32)), .val (.int (1 : Int32)), .val (.int (1 : Int32)), .val (.double (FP.ddiv (FP.dsub d1 ev1) (FP.dsub ev2 ev1))), .second] [(.ref w_bids_a0), (.double eb2), (.double (FP.ddiv (FP.dsub d1 ev1) (FP.dsub ev2 ev1))), (.double eb1)])) st20 ?_
  refine own_st (T' := T20) (g' := (mkF m 94 #[.val (.ref a0), .val (.double d1), .second, .val (.int (1 : Int32)), .val (.int (1 : Int32)), .val (.int (1 : Int32)), .val (.double (FP.ddiv (FP.dsub d1 ev1) (FP.dsub ev2 ev1))), .second] [(.int (1 : Int32)), (.ref w_bids_a0), (.double eb2), (.double (FP.ddiv (FP.dsub d1 ev1) (FP.dsub ev2 ev1))), (.double eb1)])) (fun t k => ?_) ?_
  · show Steps p.tables e below (T20.setTop (mkF m 92 #[.val (.ref a0), .val (.double d1), .second, .val (.int (1 : Int32)), .val (.int (1 : Int32)), .val (.int (1 : Int32)), .val (.double (FP.ddiv (FP.dsub d1 ev1) (FP.dsub ev2 ev1))), .second] [(.ref w_bids_a0), (.double eb2), (.double (FP.ddiv (FP.dsub d1 ev1) (FP.dsub ev2 ev1))), (.double eb1)])) t
    refine XS.iload X20.here hx rfl (hb hby d5_92) rfl ?_
    exact k
  obtain ⟨c21, r21a, r21b, r21c, r21d, r21e, r21f⟩ := id V_w_bids_a0
  have i21 : ¬ ((1 : Int32) < 0 ∨ c21.slots.size ≤ ((1 : Int32)).toNatClampNeg) := inb_of r21c ⟨by decide, by decide⟩
  have y21 : c21.slots[((1 : Int32)).toNatClampNeg]? = some (.double eb1) := r21e.at i21 rfl
  refine own_st (T' := T20) (g' := (mkF m 98 #[.val (.ref a0), .val (.double d1), .second, .val (.int (1 : Int32)), .val (.int (1 : Int32)), .val (.int (1 : Int32)), .val (.double (FP.ddiv (FP.dsub d1 ev1) (FP.dsub ev2 ev1))), .second] [(.double (FP.dadd eb1 (FP.dmul (FP.ddiv (FP.dsub d1 ev1) (FP.dsub ev2 ev1)) (FP.dsub eb2 eb1))))])) (fun t k => ?_) ?_
  · show Steps p.tables e below (T20.setTop (mkF m 94 #[.val (.ref a0), .val (.double d1), .second, .val (.int (1 : Int32)), .val (.int (1 : Int32)), .val (.int (1 : Int32)), .val (.double (FP.ddiv (FP.dsub d1 ev1) (FP.dsub ev2 ev1))), .second] [(.int (1 : Int32)), (.ref w_bids_a0), (.double eb2), (.double (FP.ddiv (FP.dsub d1 ev1) (FP.dsub ev2 ev1))), (.double eb1)])) t
    refine X20.daload hx (j := (1 : Int32)) (v := (.double eb1)) (by rw [e20]; exact r21a.1) (State.isArrayOf_alike hZ.alike r21a.2.1) r21a.2.2 i21 y21 (g := (mkF m 94 #[.val (.ref a0), .val (.double d1), .second, .val (.int (1 : Int32)), .val (.int (1 : Int32)), .val (.int (1 : Int32)), .val (.double (FP.ddiv (FP.dsub d1 ev1) (FP.dsub ev2 ev1))), .second] [(.int (1 : Int32)), (.ref w_bids_a0), (.double eb2), (.double (FP.ddiv (FP.dsub d1 ev1) (FP.dsub ev2 ev1))), (.double eb1)])) rfl rfl (hb hby d5_94) _ ?_
    show Steps p.tables e below (T20.setTop (mkF m 95 #[.val (.ref a0), .val (.double d1), .second, .val (.int (1 : Int32)), .val (.int (1 : Int32)), .val (.int (1 : Int32)), .val (.double (FP.ddiv (FP.dsub d1 ev1) (FP.dsub ev2 ev1))), .second] [(.double eb1), (.double eb2), (.double (FP.ddiv (FP.dsub d1 ev1) (FP.dsub ev2 ev1))), (.double eb1)])) t
    refine XS.dsubS X20.here hx rfl (hb hby d5_95) rfl hn95 rfl ?_
    show Steps p.tables e below (T20.setTop (mkF m 96 #[.val (.ref a0), .val (.double d1), .second, .val (.int (1 : Int32)), .val (.int (1 : Int32)), .val (.int (1 : Int32)), .val (.double (FP.ddiv (FP.dsub d1 ev1) (FP.dsub ev2 ev1))), .second] [(.double (FP.dsub eb2 eb1)), (.double (FP.ddiv (FP.dsub d1 ev1) (FP.dsub ev2 ev1))), (.double eb1)])) t
    refine XS.dmulS X20.here hx rfl (hb hby d5_96) rfl hn96 rfl ?_
    show Steps p.tables e below (T20.setTop (mkF m 97 #[.val (.ref a0), .val (.double d1), .second, .val (.int (1 : Int32)), .val (.int (1 : Int32)), .val (.int (1 : Int32)), .val (.double (FP.ddiv (FP.dsub d1 ev1) (FP.dsub ev2 ev1))), .second] [(.double (FP.dmul (FP.ddiv (FP.dsub d1 ev1) (FP.dsub ev2 ev1)) (FP.dsub eb2 eb1))), (.double eb1)])) t
    refine XS.daddS X20.here hx rfl (hb hby d5_97) rfl hn97 rfl ?_
    exact k
  refine own_retD X20 hx hlk Bd.returns (hb hby d5_98) (by decide) (by decide) ?_
  show Qbe Z a0 d1 w_values_a0 kk_w_values_a0 ev0 ev1 ev2 ev3 w_bids_a0 kk_w_bids_a0 eb0 eb1 eb2 eb3 h0 n0 (some (.double (FP.dadd eb1 (FP.dmul (FP.ddiv (FP.dsub d1 ev1) (FP.dsub ev2 ev1)) (FP.dsub eb2 eb1))))) T20.heap _
  rw [(e20 : T20.heap = h0)]
  exact ⟨rfl, n9, rfl⟩
theorem pnble : plainName "com/example/corewright/corewright/equilibrium/Strategy" = true := by first | (simp [plainName, overriddenIn]; done) | decide +kernel
theorem pdble_0 : parseMethodDescriptor "([DD)I" = some ⟨[(.array .double), .double], some .int⟩ := by decide +kernel
theorem pdble_1 : parseMethodDescriptor "(II)I" = some ⟨[.int, .int], some .int⟩ := by decide +kernel
theorem efble (m : MethodId) (a0 : Addr) (d1 : UInt64) : entryFrame m #[(.ref a0), (.double d1)] 8 = mkF m 0 #[.val (.ref a0), .val (.double d1), .second, .unset, .unset, .unset, .unset, .unset] [] := by first | (simp [entryFrame, mkF, argsToLocals, Value.category]; done) | rfl
def Qble (Z : State) (a0 : Addr) (d1 : UInt64) (w_values_a0 : Addr) (kk_w_values_a0 : ClassId) (ev0 : UInt64) (ev1 : UInt64) (ev2 : UInt64) (ev3 : UInt64) (w_bids_a0 : Addr) (kk_w_bids_a0 : ClassId) (eb0 : UInt64) (eb1 : UInt64) (eb2 : UInt64) (eb3 : UInt64) (h0 : Heap) (n0 : Nat) (v : Option Value) (h : Heap) (L : List Loc) : Prop := v = some (.double (FP.dadd eb2 (FP.dmul (FP.ddiv (FP.dsub d1 ev2) (FP.dsub ev3 ev2)) (FP.dsub eb3 eb2)))) ∧ Fr n0 L ∧ h = h0
set_option maxRecDepth 65536 in
set_option maxHeartbeats 40000000 in
theorem rmble (l : Launch) (Z : State) (ar : Array Value) (hw : ∀ d ∈ tables_1, d.before ar Z = true) (ws : List Jvm.Cond) (a0 : Addr) (d1 : UInt64) (w_values_a0 : Addr) (kk_w_values_a0 : ClassId) (ev0 : UInt64) (ev1 : UInt64) (ev2 : UInt64) (ev3 : UInt64) (w_bids_a0 : Addr) (kk_w_bids_a0 : ClassId) (eb0 : UInt64) (eb1 : UInt64) (eb2 : UInt64) (eb3 : UInt64) (h0 : Heap) (n0 : Nat) (Z0 : n0 ≤ h0.size) (E_a0 : Exa Z h0 a0 "com/example/corewright/corewright/equilibrium/Strategy") (F_values_a0 : Fld Z h0 a0 "com/example/corewright/corewright/equilibrium/Strategy" "values" "[D" (.ref w_values_a0)) (V_w_values_a0 : Arv Z h0 w_values_a0 kk_w_values_a0 .double (4 : Int32) [(.double ev0), (.double ev1), (.double ev2), (.double ev3)] (.double (0 : UInt64))) (F_bids_a0 : Fld Z h0 a0 "com/example/corewright/corewright/equilibrium/Strategy" "bids" "[D" (.ref w_bids_a0)) (V_w_bids_a0 : Arv Z h0 w_bids_a0 kk_w_bids_a0 .double (4 : Int32) [(.double eb0), (.double eb1), (.double eb2), (.double eb3)] (.double (0 : UInt64))) (h5_h5_hb34 : (cmpValue (FP.dcmp ev1 d1) .g) < (0 : Int32)) (h5_h5_hb34_1 : ¬ ((cmpValue (FP.dcmp ev2 d1) .g) < (0 : Int32))) (h5_h5_hb50 : ¬ ((0 : Int32) < (cmpValue (FP.dcmp ev2 d1) .l))) (h5_h5_h64_h1_hq_0 : (cmpValue (FP.dcmp ev2 ev2) .l) = (0 : Int32)) (h5_h5_h70_h1_hq_0 : (cmpValue (FP.dcmp d1 d1) .l) = (0 : Int32)) (h5_h5_hb80 : ev2.toInt64 = d1.toInt64) (hn49 : Jvm.Free.Fl.NoNaN64 (FP.dsub d1 ev2)) (hn66 : Jvm.Free.Fl.NoNaN64 (FP.dsub ev3 ev2)) (hn67 : Jvm.Free.Fl.NoNaN64 (FP.ddiv (FP.dsub d1 ev2) (FP.dsub ev3 ev2))) (hn95 : Jvm.Free.Fl.NoNaN64 (FP.dsub eb3 eb2)) (hn96 : Jvm.Free.Fl.NoNaN64 (FP.dmul (FP.ddiv (FP.dsub d1 ev2) (FP.dsub ev3 ev2)) (FP.dsub eb3 eb2))) (hn97 : Jvm.Free.Fl.NoNaN64 (FP.dadd eb2 (FP.dmul (FP.ddiv (FP.dsub d1 ev2) (FP.dsub ev3 ev2)) (FP.dsub eb3 eb2)))) :
    MetFree l (⟨"com/example/corewright/corewright/equilibrium/Strategy", "bid", "(D)D"⟩ : MethodName) (head1 (Jvm.Cond.code (⟨"com/example/corewright/corewright/equilibrium/Strategy", "bid", "(D)D"⟩ : MethodName) prog_21_method_9_code 8 (some .double) :: ws) ({ frames := 4, cells := 0, slots := 0, locals := 67 } : Room)) (fun a U => a = #[(.ref a0), (.double d1)] ∧ Z.Warmed39 U.vm ∧ U.heap = h0) (fun _ _ _ _ _ => True) (fun _ U o U' => ∃ v L, o = .returned v ∧ Qble Z a0 d1 w_values_a0 kk_w_values_a0 ev0 ev1 ev2 ev3 w_bids_a0 kk_w_bids_a0 eb0 eb1 eb2 eb3 h0 n0 v U'.heap L ∧ FrameEnd U o U' L ({ frames := 4, cells := 0, slots := 0, locals := 67 } : Room).cells ({ frames := 4, cells := 0, slots := 0, locals := 67 } : Room).slots) := by
  refine MetFree.of_bodySF (plainFor_of_name pnble) hisR ?_
  intro p e s m args below meth c s₁ Bd hml0 hP hK
  obtain ⟨rfl, hZ, hh⟩ := hP
  have hx := Bd.exec
  have hby := Bd.bytes
  have hlk := Bd.notSynchronized
  have hml : c.maxLocals = 8 := hml0
  have hown : s.vm.findClass "com/example/corewright/corewright/equilibrium/Strategy" = some m.cls := findClass_of_methodNamed Bd.named
  have hnm := (name_of_methodNamed Bd.named Bd.method).1
  have X0 : Stand p l e ({ frames := 4, cells := 0, slots := 0, locals := 67 } : Room) s m #[(.ref a0), (.double d1)] below meth c s₁ [] 0 0 := Stand.of_body Bd
  have e0 : s₁.heap = h0 := by rw [← hh, Bd.state]; rfl
  have N0 := Fr.nil n0
  have K0 := Keep.refl h0 []
  refine own_enter (Q := Qble Z a0 d1 w_values_a0 kk_w_values_a0 ev0 ev1 ev2 ev3 w_bids_a0 kk_w_bids_a0 eb0 eb1 eb2 eb3 h0 n0) (efble m a0 d1) ?_
  refine own_st (T' := s₁) (g' := (mkF m 1 #[.val (.ref a0), .val (.double d1), .second, .unset, .unset, .unset, .unset, .unset] [(.ref a0)])) (fun t k => ?_) ?_
  · show Steps p.tables e below (s₁.setTop (mkF m 0 #[.val (.ref a0), .val (.double d1), .second, .unset, .unset, .unset, .unset, .unset] [])) t
    refine XS.aloadN X0.here hx rfl (hb hby d5_0) rfl rfl ?_
    exact k
  obtain ⟨T1, X1, e1, st1⟩ := getF X0 hx hZ hown (host := "") (Or.inl (hw _ (List.mem_of_getElem? (i := 29) rfl))) Via.refl e0 F_values_a0 (g := (mkF m 1 #[.val (.ref a0), .val (.double d1), .second, .unset, .unset, .unset, .unset, .unset] [(.ref a0)])) rfl rfl (hb hby d5_1)
  refine own_st (T' := T1) (g' := (mkF m 4 #[.val (.ref a0), .val (.double d1), .second, .unset, .unset, .unset, .unset, .unset] [(.ref w_values_a0)])) st1 ?_
  refine own_st (T' := T1) (g' := (mkF m 5 #[.val (.ref a0), .val (.double d1), .second, .unset, .unset, .unset, .unset, .unset] [(.double d1), (.ref w_values_a0)])) (fun t k => ?_) ?_
  · show Steps p.tables e below (T1.setTop (mkF m 4 #[.val (.ref a0), .val (.double d1), .second, .unset, .unset, .unset, .unset, .unset] [(.ref w_values_a0)])) t
    refine XS.dloadN X1.here hx rfl (hb hby d5_4) rfl ?_
    exact k
  obtain ⟨_, _, ⟨T2, L2, k2, n2⟩, -, X2, ⟨Lc2, hQ2, l2, y2, z2⟩, st2⟩ := Jvm.LawKit.callS X1 hx (y := (⟨"java/util/Arrays", "binarySearch", "([DD)I"⟩ : MethodName)) hown (mvT hZ (hw _ (List.mem_of_getElem? (i := 38) rfl))) (mvT hZ (hw _ (List.mem_of_getElem? (i := 39) rfl))) (mvT hZ (hw _ (List.mem_of_getElem? (i := 40) rfl))) (mvT hZ (hw _ (List.mem_of_getElem? (i := 41) rfl))) (by decide) (backOf (W := 0) (rmtle l Z ar hw [] w_values_a0 d1 kk_w_values_a0 ev0 ev1 ev2 ev3 h0 n0 Z0 V_w_values_a0 h5_h5_hb34 h5_h5_hb34_1 h5_h5_hb50 h5_h5_h64_h1_hq_0 h5_h5_h70_h1_hq_0 h5_h5_hb80) hZ (hw _ (List.mem_of_getElem? (i := 41) rfl)) (hw _ (List.mem_of_getElem? (i := 40) rfl)) (by decide) (by decide)) (g := (mkF m 5 #[.val (.ref a0), .val (.double d1), .second, .unset, .unset, .unset, .unset, .unset] [(.double d1), (.ref w_values_a0)])) rfl (by rw [hml]; rfl) (argsL := [(.ref w_values_a0), (.double d1)]) (rest := []) (lenOf pdble_0 rfl) rfl (by show 2 * 0 + _ ≤ _; exact Nat.le_of_eq rfl) (hb hby d5_5) (fun _ _ => ⟨rfl, e1, (by decide : 0 + 0 ≤ _), (by decide : 0 + 0 ≤ _)⟩)
  dsimp only [Pt.U, Pt.locs, Pt.cells, Pt.slots] at X2 l2 y2 z2 st2 hQ2
  subst l2 y2 z2
  obtain ⟨rfl, N2q, e2⟩ := hQ2
  have n3 := Fr.app N0 N2q
  refine own_st (T' := T2) (g' := (mkF m 8 #[.val (.ref a0), .val (.double d1), .second, .unset, .unset, .unset, .unset, .unset] [(.int (2 : Int32))])) st2 ?_
  refine own_st (T' := T2) (g' := (mkF m 26 #[.val (.ref a0), .val (.double d1), .second, .val (.int (2 : Int32)), .val (.int (2 : Int32)), .unset, .unset, .unset] [(.int (0 : Int32)), (.int (2 : Int32))])) (fun t k => ?_) ?_
  · show Steps p.tables e below (T2.setTop (mkF m 8 #[.val (.ref a0), .val (.double d1), .second, .unset, .unset, .unset, .unset, .unset] [(.int (2 : Int32))])) t
    refine XS.istoreN X2.here hx rfl (hb hby d5_8) rfl (l' := #[.val (.ref a0), .val (.double d1), .second, .val (.int (2 : Int32)), .unset, .unset, .unset, .unset]) rfl ?_
    show Steps p.tables e below (T2.setTop (mkF m 9 #[.val (.ref a0), .val (.double d1), .second, .val (.int (2 : Int32)), .unset, .unset, .unset, .unset] [])) t
    refine XS.iloadN X2.here hx rfl (hb hby d5_9) rfl ?_
    show Steps p.tables e below (T2.setTop (mkF m 10 #[.val (.ref a0), .val (.double d1), .second, .val (.int (2 : Int32)), .unset, .unset, .unset, .unset] [(.int (2 : Int32))])) t
    refine XS.ifNo X2.here hx rfl (hb hby d5_10) rfl (by decide) ?_
    show Steps p.tables e below (T2.setTop (mkF m 13 #[.val (.ref a0), .val (.double d1), .second, .val (.int (2 : Int32)), .unset, .unset, .unset, .unset] [])) t
    refine XS.iloadN X2.here hx rfl (hb hby d5_13) rfl ?_
    show Steps p.tables e below (T2.setTop (mkF m 14 #[.val (.ref a0), .val (.double d1), .second, .val (.int (2 : Int32)), .unset, .unset, .unset, .unset] [(.int (2 : Int32))])) t
    refine XS.goto X2.here hx rfl (pc0 := 14) (pc' := 21) rfl (hb hby d5_14) (by decide) (by decide) ?_
    show Steps p.tables e below (T2.setTop (mkF m 21 #[.val (.ref a0), .val (.double d1), .second, .val (.int (2 : Int32)), .unset, .unset, .unset, .unset] [(.int (2 : Int32))])) t
    refine XS.istore X2.here hx rfl (hb hby d5_21) rfl (l' := #[.val (.ref a0), .val (.double d1), .second, .val (.int (2 : Int32)), .val (.int (2 : Int32)), .unset, .unset, .unset]) rfl ?_
    show Steps p.tables e below (T2.setTop (mkF m 23 #[.val (.ref a0), .val (.double d1), .second, .val (.int (2 : Int32)), .val (.int (2 : Int32)), .unset, .unset, .unset] [])) t
    refine XS.iload X2.here hx rfl (hb hby d5_23) rfl ?_
    show Steps p.tables e below (T2.setTop (mkF m 25 #[.val (.ref a0), .val (.double d1), .second, .val (.int (2 : Int32)), .val (.int (2 : Int32)), .unset, .unset, .unset] [(.int (2 : Int32))])) t
    refine XS.iconst X2.here hx rfl (hb hby d5_25) ?_
    exact k
  obtain ⟨_, _, ⟨T4, L4, k4, n4⟩, -, X4, ⟨Lc4, hQ4, l4, y4, z4⟩, st4⟩ := Jvm.LawKit.callS X2 hx (y := (⟨"java/lang/Math", "max", "(II)I"⟩ : MethodName)) hown (mvT hZ (hw _ (List.mem_of_getElem? (i := 54) rfl))) (mvT hZ (hw _ (List.mem_of_getElem? (i := 55) rfl))) (mvT hZ (hw _ (List.mem_of_getElem? (i := 17) rfl))) (mvT hZ (hw _ (List.mem_of_getElem? (i := 56) rfl))) (by decide) (backOf (W := 0) (rmmx0 l Z ar hw [] ((2 : Int32)) ((0 : Int32)) h0 n0 Z0 (by decide)) hZ (hw _ (List.mem_of_getElem? (i := 56) rfl)) (hw _ (List.mem_of_getElem? (i := 17) rfl)) (by decide) (by decide)) (g := (mkF m 26 #[.val (.ref a0), .val (.double d1), .second, .val (.int (2 : Int32)), .val (.int (2 : Int32)), .unset, .unset, .unset] [(.int (0 : Int32)), (.int (2 : Int32))])) rfl (by rw [hml]; rfl) (argsL := [(.int (2 : Int32)), (.int (0 : Int32))]) (rest := []) (lenOf pdble_1 rfl) rfl (by show 2 * 0 + _ ≤ _; exact Nat.le_of_eq rfl) (hb hby d5_26) (fun _ _ => ⟨rfl, e2, (by decide : 0 + 0 ≤ _), (by decide : 0 + 0 ≤ _)⟩)
  dsimp only [Pt.U, Pt.locs, Pt.cells, Pt.slots] at X4 l4 y4 z4 st4 hQ4
  subst l4 y4 z4
  obtain ⟨rfl, N4q, e4⟩ := hQ4
  have n5 := Fr.app n3 N4q
  refine own_st (T' := T4) (g' := (mkF m 29 #[.val (.ref a0), .val (.double d1), .second, .val (.int (2 : Int32)), .val (.int (2 : Int32)), .unset, .unset, .unset] [(.int (2 : Int32))])) st4 ?_
  refine own_st (T' := T4) (g' := (mkF m 30 #[.val (.ref a0), .val (.double d1), .second, .val (.int (2 : Int32)), .val (.int (2 : Int32)), .unset, .unset, .unset] [(.ref a0), (.int (2 : Int32))])) (fun t k => ?_) ?_
  · show Steps p.tables e below (T4.setTop (mkF m 29 #[.val (.ref a0), .val (.double d1), .second, .val (.int (2 : Int32)), .val (.int (2 : Int32)), .unset, .unset, .unset] [(.int (2 : Int32))])) t
    refine XS.aloadN X4.here hx rfl (hb hby d5_29) rfl rfl ?_
    exact k
  obtain ⟨T6, X6, e6, st6⟩ := getF X4 hx hZ hown (host := "") (Or.inl (hw _ (List.mem_of_getElem? (i := 29) rfl))) Via.refl e4 F_values_a0 (g := (mkF m 30 #[.val (.ref a0), .val (.double d1), .second, .val (.int (2 : Int32)), .val (.int (2 : Int32)), .unset, .unset, .unset] [(.ref a0), (.int (2 : Int32))])) rfl rfl (hb hby d5_30)
  refine own_st (T' := T6) (g' := (mkF m 33 #[.val (.ref a0), .val (.double d1), .second, .val (.int (2 : Int32)), .val (.int (2 : Int32)), .unset, .unset, .unset] [(.ref w_values_a0), (.int (2 : Int32))])) st6 ?_
  obtain ⟨c7, r7a, -, r7c, r7d, -, -⟩ := id V_w_values_a0
  refine own_st (T' := T6) (g' := (mkF m 36 #[.val (.ref a0), .val (.double d1), .second, .val (.int (2 : Int32)), .val (.int (2 : Int32)), .unset, .unset, .unset] [(.int (2 : Int32)), (.int (2 : Int32))])) (fun t k => ?_) ?_
  · show Steps p.tables e below (T6.setTop (mkF m 33 #[.val (.ref a0), .val (.double d1), .second, .val (.int (2 : Int32)), .val (.int (2 : Int32)), .unset, .unset, .unset] [(.ref w_values_a0), (.int (2 : Int32))])) t
    refine X6.arraylength hx (by rw [e6]; exact r7a.1) (State.isArrayOf_alike hZ.alike r7a.2.1) (g := (mkF m 33 #[.val (.ref a0), .val (.double d1), .second, .val (.int (2 : Int32)), .val (.int (2 : Int32)), .unset, .unset, .unset] [(.ref w_values_a0), (.int (2 : Int32))])) rfl rfl (hb hby d5_33) _ ?_
    rw [len_of r7c r7d]
    show Steps p.tables e below (T6.setTop (mkF m 34 #[.val (.ref a0), .val (.double d1), .second, .val (.int (2 : Int32)), .val (.int (2 : Int32)), .unset, .unset, .unset] [(.int (4 : Int32)), (.int (2 : Int32))])) t
    refine XS.iconst X6.here hx rfl (hb hby d5_34) ?_
    show Steps p.tables e below (T6.setTop (mkF m 35 #[.val (.ref a0), .val (.double d1), .second, .val (.int (2 : Int32)), .val (.int (2 : Int32)), .unset, .unset, .unset] [(.int (2 : Int32)), (.int (4 : Int32)), (.int (2 : Int32))])) t
    refine XS.isub X6.here hx rfl (hb hby d5_35) rfl ?_
    exact k
  obtain ⟨_, _, ⟨T8, L8, k8, n8⟩, -, X8, ⟨Lc8, hQ8, l8, y8, z8⟩, st8⟩ := Jvm.LawKit.callS X6 hx (y := (⟨"java/lang/Math", "min", "(II)I"⟩ : MethodName)) hown (mvT hZ (hw _ (List.mem_of_getElem? (i := 57) rfl))) (mvT hZ (hw _ (List.mem_of_getElem? (i := 58) rfl))) (mvT hZ (hw _ (List.mem_of_getElem? (i := 17) rfl))) (mvT hZ (hw _ (List.mem_of_getElem? (i := 59) rfl))) (by decide) (backOf (W := 0) (rmmn0 l Z ar hw [] ((2 : Int32)) ((2 : Int32)) h0 n0 Z0 (by decide)) hZ (hw _ (List.mem_of_getElem? (i := 59) rfl)) (hw _ (List.mem_of_getElem? (i := 17) rfl)) (by decide) (by decide)) (g := (mkF m 36 #[.val (.ref a0), .val (.double d1), .second, .val (.int (2 : Int32)), .val (.int (2 : Int32)), .unset, .unset, .unset] [(.int (2 : Int32)), (.int (2 : Int32))])) rfl (by rw [hml]; rfl) (argsL := [(.int (2 : Int32)), (.int (2 : Int32))]) (rest := []) (lenOf pdble_1 rfl) rfl (by show 2 * 0 + _ ≤ _; exact Nat.le_of_eq rfl) (hb hby d5_36) (fun _ _ => ⟨rfl, e6, (by decide : 0 + 0 ≤ _), (by decide : 0 + 0 ≤ _)⟩)
  dsimp only [Pt.U, Pt.locs, Pt.cells, Pt.slots] at X8 l8 y8 z8 st8 hQ8
  subst l8 y8 z8
  obtain ⟨rfl, N8q, e8⟩ := hQ8
  have n9 := Fr.app n5 N8q
  refine own_st (T' := T8) (g' := (mkF m 39 #[.val (.ref a0), .val (.double d1), .second, .val (.int (2 : Int32)), .val (.int (2 : Int32)), .unset, .unset, .unset] [(.int (2 : Int32))])) st8 ?_
  refine own_st (T' := T8) (g' := (mkF m 43 #[.val (.ref a0), .val (.double d1), .second, .val (.int (2 : Int32)), .val (.int (2 : Int32)), .val (.int (2 : Int32)), .unset, .unset] [(.ref a0), (.double d1)])) (fun t k => ?_) ?_
  · show Steps p.tables e below (T8.setTop (mkF m 39 #[.val (.ref a0), .val (.double d1), .second, .val (.int (2 : Int32)), .val (.int (2 : Int32)), .unset, .unset, .unset] [(.int (2 : Int32))])) t
    refine XS.istore X8.here hx rfl (hb hby d5_39) rfl (l' := #[.val (.ref a0), .val (.double d1), .second, .val (.int (2 : Int32)), .val (.int (2 : Int32)), .val (.int (2 : Int32)), .unset, .unset]) rfl ?_
    show Steps p.tables e below (T8.setTop (mkF m 41 #[.val (.ref a0), .val (.double d1), .second, .val (.int (2 : Int32)), .val (.int (2 : Int32)), .val (.int (2 : Int32)), .unset, .unset] [])) t
    refine XS.dloadN X8.here hx rfl (hb hby d5_41) rfl ?_
    show Steps p.tables e below (T8.setTop (mkF m 42 #[.val (.ref a0), .val (.double d1), .second, .val (.int (2 : Int32)), .val (.int (2 : Int32)), .val (.int (2 : Int32)), .unset, .unset] [(.double d1)])) t
    refine XS.aloadN X8.here hx rfl (hb hby d5_42) rfl rfl ?_
    exact k
  obtain ⟨T10, X10, e10, st10⟩ := getF X8 hx hZ hown (host := "") (Or.inl (hw _ (List.mem_of_getElem? (i := 29) rfl))) Via.refl e8 F_values_a0 (g := (mkF m 43 #[.val (.ref a0), .val (.double d1), .second, .val (.int (2 : Int32)), .val (.int (2 : Int32)), .val (.int (2 : Int32)), .unset, .unset] [(.ref a0), (.double d1)])) rfl rfl (hb hby d5_43)
  refine own_st (T' := T10) (g' := (mkF m 46 #[.val (.ref a0), .val (.double d1), .second, .val (.int (2 : Int32)), .val (.int (2 : Int32)), .val (.int (2 : Int32)), .unset, .unset] [(.ref w_values_a0), (.double d1)])) st10 ?_
  refine own_st (T' := T10) (g' := (mkF m 48 #[.val (.ref a0), .val (.double d1), .second, .val (.int (2 : Int32)), .val (.int (2 : Int32)), .val (.int (2 : Int32)), .unset, .unset] [(.int (2 : Int32)), (.ref w_values_a0), (.double d1)])) (fun t k => ?_) ?_
  · show Steps p.tables e below (T10.setTop (mkF m 46 #[.val (.ref a0), .val (.double d1), .second, .val (.int (2 : Int32)), .val (.int (2 : Int32)), .val (.int (2 : Int32)), .unset, .unset] [(.ref w_values_a0), (.double d1)])) t
    refine XS.iload X10.here hx rfl (hb hby d5_46) rfl ?_
    exact k
  obtain ⟨c11, r11a, r11b, r11c, r11d, r11e, r11f⟩ := id V_w_values_a0
  have i11 : ¬ ((2 : Int32) < 0 ∨ c11.slots.size ≤ ((2 : Int32)).toNatClampNeg) := inb_of r11c ⟨by decide, by decide⟩
  have y11 : c11.slots[((2 : Int32)).toNatClampNeg]? = some (.double ev2) := r11e.at i11 rfl
  refine own_st (T' := T10) (g' := (mkF m 51 #[.val (.ref a0), .val (.double d1), .second, .val (.int (2 : Int32)), .val (.int (2 : Int32)), .val (.int (2 : Int32)), .unset, .unset] [(.ref a0), (.double (FP.dsub d1 ev2))])) (fun t k => ?_) ?_
  · show Steps p.tables e below (T10.setTop (mkF m 48 #[.val (.ref a0), .val (.double d1), .second, .val (.int (2 : Int32)), .val (.int (2 : Int32)), .val (.int (2 : Int32)), .unset, .unset] [(.int (2 : Int32)), (.ref w_values_a0), (.double d1)])) t
    refine X10.daload hx (j := (2 : Int32)) (v := (.double ev2)) (by rw [e10]; exact r11a.1) (State.isArrayOf_alike hZ.alike r11a.2.1) r11a.2.2 i11 y11 (g := (mkF m 48 #[.val (.ref a0), .val (.double d1), .second, .val (.int (2 : Int32)), .val (.int (2 : Int32)), .val (.int (2 : Int32)), .unset, .unset] [(.int (2 : Int32)), (.ref w_values_a0), (.double d1)])) rfl rfl (hb hby d5_48) _ ?_
    show Steps p.tables e below (T10.setTop (mkF m 49 #[.val (.ref a0), .val (.double d1), .second, .val (.int (2 : Int32)), .val (.int (2 : Int32)), .val (.int (2 : Int32)), .unset, .unset] [(.double ev2), (.double d1)])) t
    refine XS.dsubS X10.here hx rfl (hb hby d5_49) rfl hn49 rfl ?_
    show Steps p.tables e below (T10.setTop (mkF m 50 #[.val (.ref a0), .val (.double d1), .second, .val (.int (2 : Int32)), .val (.int (2 : Int32)), .val (.int (2 : Int32)), .unset, .unset] [(.double (FP.dsub d1 ev2))])) t
    refine XS.aloadN X10.here hx rfl (hb hby d5_50) rfl rfl ?_
    exact k
  obtain ⟨T12, X12, e12, st12⟩ := getF X10 hx hZ hown (host := "") (Or.inl (hw _ (List.mem_of_getElem? (i := 29) rfl))) Via.refl e10 F_values_a0 (g := (mkF m 51 #[.val (.ref a0), .val (.double d1), .second, .val (.int (2 : Int32)), .val (.int (2 : Int32)), .val (.int (2 : Int32)), .unset, .unset] [(.ref a0), (.double (FP.dsub d1 ev2))])) rfl rfl (hb hby d5_51)
  refine own_st (T' := T12) (g' := (mkF m 54 #[.val (.ref a0), .val (.double d1), .second, .val (.int (2 : Int32)), .val (.int (2 : Int32)), .val (.int (2 : Int32)), .unset, .unset] [(.ref w_values_a0), (.double (FP.dsub d1 ev2))])) st12 ?_
  refine own_st (T' := T12) (g' := (mkF m 58 #[.val (.ref a0), .val (.double d1), .second, .val (.int (2 : Int32)), .val (.int (2 : Int32)), .val (.int (2 : Int32)), .unset, .unset] [(.int (3 : Int32)), (.ref w_values_a0), (.double (FP.dsub d1 ev2))])) (fun t k => ?_) ?_
  · show Steps p.tables e below (T12.setTop (mkF m 54 #[.val (.ref a0), .val (.double d1), .second, .val (.int (2 : Int32)), .val (.int (2 : Int32)), .val (.int (2 : Int32)), .unset, .unset] [(.ref w_values_a0), (.double (FP.dsub d1 ev2))])) t
    refine XS.iload X12.here hx rfl (hb hby d5_54) rfl ?_
    show Steps p.tables e below (T12.setTop (mkF m 56 #[.val (.ref a0), .val (.double d1), .second, .val (.int (2 : Int32)), .val (.int (2 : Int32)), .val (.int (2 : Int32)), .unset, .unset] [(.int (2 : Int32)), (.ref w_values_a0), (.double (FP.dsub d1 ev2))])) t
    refine XS.iconst X12.here hx rfl (hb hby d5_56) ?_
    show Steps p.tables e below (T12.setTop (mkF m 57 #[.val (.ref a0), .val (.double d1), .second, .val (.int (2 : Int32)), .val (.int (2 : Int32)), .val (.int (2 : Int32)), .unset, .unset] [(.int (1 : Int32)), (.int (2 : Int32)), (.ref w_values_a0), (.double (FP.dsub d1 ev2))])) t
    refine XS.iadd X12.here hx rfl (hb hby d5_57) rfl ?_
    exact k
  obtain ⟨c13, r13a, r13b, r13c, r13d, r13e, r13f⟩ := id V_w_values_a0
  have i13 : ¬ ((3 : Int32) < 0 ∨ c13.slots.size ≤ ((3 : Int32)).toNatClampNeg) := inb_of r13c ⟨by decide, by decide⟩
  have y13 : c13.slots[((3 : Int32)).toNatClampNeg]? = some (.double ev3) := r13e.at i13 rfl
  refine own_st (T' := T12) (g' := (mkF m 60 #[.val (.ref a0), .val (.double d1), .second, .val (.int (2 : Int32)), .val (.int (2 : Int32)), .val (.int (2 : Int32)), .unset, .unset] [(.ref a0), (.double ev3), (.double (FP.dsub d1 ev2))])) (fun t k => ?_) ?_
  · show Steps p.tables e below (T12.setTop (mkF m 58 #[.val (.ref a0), .val (.double d1), .second, .val (.int (2 : Int32)), .val (.int (2 : Int32)), .val (.int (2 : Int32)), .unset, .unset] [(.int (3 : Int32)), (.ref w_values_a0), (.double (FP.dsub d1 ev2))])) t
    refine X12.daload hx (j := (3 : Int32)) (v := (.double ev3)) (by rw [e12]; exact r13a.1) (State.isArrayOf_alike hZ.alike r13a.2.1) r13a.2.2 i13 y13 (g := (mkF m 58 #[.val (.ref a0), .val (.double d1), .second, .val (.int (2 : Int32)), .val (.int (2 : Int32)), .val (.int (2 : Int32)), .unset, .unset] [(.int (3 : Int32)), (.ref w_values_a0), (.double (FP.dsub d1 ev2))])) rfl rfl (hb hby d5_58) _ ?_
    show Steps p.tables e below (T12.setTop (mkF m 59 #[.val (.ref a0), .val (.double d1), .second, .val (.int (2 : Int32)), .val (.int (2 : Int32)), .val (.int (2 : Int32)), .unset, .unset] [(.double ev3), (.double (FP.dsub d1 ev2))])) t
    refine XS.aloadN X12.here hx rfl (hb hby d5_59) rfl rfl ?_
    exact k
  obtain ⟨T14, X14, e14, st14⟩ := getF X12 hx hZ hown (host := "") (Or.inl (hw _ (List.mem_of_getElem? (i := 29) rfl))) Via.refl e12 F_values_a0 (g := (mkF m 60 #[.val (.ref a0), .val (.double d1), .second, .val (.int (2 : Int32)), .val (.int (2 : Int32)), .val (.int (2 : Int32)), .unset, .unset] [(.ref a0), (.double ev3), (.double (FP.dsub d1 ev2))])) rfl rfl (hb hby d5_60)
  refine own_st (T' := T14) (g' := (mkF m 63 #[.val (.ref a0), .val (.double d1), .second, .val (.int (2 : Int32)), .val (.int (2 : Int32)), .val (.int (2 : Int32)), .unset, .unset] [(.ref w_values_a0), (.double ev3), (.double (FP.dsub d1 ev2))])) st14 ?_
  refine own_st (T' := T14) (g' := (mkF m 65 #[.val (.ref a0), .val (.double d1), .second, .val (.int (2 : Int32)), .val (.int (2 : Int32)), .val (.int (2 : Int32)), .unset, .unset] [(.int (2 : Int32)), (.ref w_values_a0), (.double ev3), (.double (FP.dsub d1 ev2))])) (fun t k => ?_) ?_
  · show Steps p.tables e below (T14.setTop (mkF m 63 #[.val (.ref a0), .val (.double d1), .second, .val (.int (2 : Int32)), .val (.int (2 : Int32)), .val (.int (2 : Int32)), .unset, .unset] [(.ref w_values_a0), (.double ev3), (.double (FP.dsub d1 ev2))])) t
    refine XS.iload X14.here hx rfl (hb hby d5_63) rfl ?_
    exact k
  obtain ⟨c15, r15a, r15b, r15c, r15d, r15e, r15f⟩ := id V_w_values_a0
  have i15 : ¬ ((2 : Int32) < 0 ∨ c15.slots.size ≤ ((2 : Int32)).toNatClampNeg) := inb_of r15c ⟨by decide, by decide⟩
  have y15 : c15.slots[((2 : Int32)).toNatClampNeg]? = some (.double ev2) := r15e.at i15 rfl
  refine own_st (T' := T14) (g' := (mkF m 71 #[.val (.ref a0), .val (.double d1), .second, .val (.int (2 : Int32)), .val (.int (2 : Int32)), .val (.int (2 : Int32)), .val (.double (FP.ddiv (FP.dsub d1 ev2) (FP.dsub ev3 ev2))), .second] [(.ref a0)])) (fun t k => ?_) ?_
  · show Steps p.tables e below (T14.setTop (mkF m 65 #[.val (.ref a0), .val (.double d1), .second, .val (.int (2 : Int32)), .val (.int (2 : Int32)), .val (.int (2 : Int32)), .unset, .unset] [(.int (2 : Int32)), (.ref w_values_a0), (.double ev3), (.double (FP.dsub d1 ev2))])) t
    refine X14.daload hx (j := (2 : Int32)) (v := (.double ev2)) (by rw [e14]; exact r15a.1) (State.isArrayOf_alike hZ.alike r15a.2.1) r15a.2.2 i15 y15 (g := (mkF m 65 #[.val (.ref a0), .val (.double d1), .second, .val (.int (2 : Int32)), .val (.int (2 : Int32)), .val (.int (2 : Int32)), .unset, .unset] [(.int (2 : Int32)), (.ref w_values_a0), (.double ev3), (.double (FP.dsub d1 ev2))])) rfl rfl (hb hby d5_65) _ ?_
    show Steps p.tables e below (T14.setTop (mkF m 66 #[.val (.ref a0), .val (.double d1), .second, .val (.int (2 : Int32)), .val (.int (2 : Int32)), .val (.int (2 : Int32)), .unset, .unset] [(.double ev2), (.double ev3), (.double (FP.dsub d1 ev2))])) t
    refine XS.dsubS X14.here hx rfl (hb hby d5_66) rfl hn66 rfl ?_
    show Steps p.tables e below (T14.setTop (mkF m 67 #[.val (.ref a0), .val (.double d1), .second, .val (.int (2 : Int32)), .val (.int (2 : Int32)), .val (.int (2 : Int32)), .unset, .unset] [(.double (FP.dsub ev3 ev2)), (.double (FP.dsub d1 ev2))])) t
    refine XS.ddivS X14.here hx rfl (hb hby d5_67) rfl hn67 rfl ?_
    show Steps p.tables e below (T14.setTop (mkF m 68 #[.val (.ref a0), .val (.double d1), .second, .val (.int (2 : Int32)), .val (.int (2 : Int32)), .val (.int (2 : Int32)), .unset, .unset] [(.double (FP.ddiv (FP.dsub d1 ev2) (FP.dsub ev3 ev2)))])) t
    refine XS.dstore X14.here hx rfl (hb hby d5_68) rfl (l' := #[.val (.ref a0), .val (.double d1), .second, .val (.int (2 : Int32)), .val (.int (2 : Int32)), .val (.int (2 : Int32)), .val (.double (FP.ddiv (FP.dsub d1 ev2) (FP.dsub ev3 ev2))), .second]) rfl ?_
    show Steps p.tables e below (T14.setTop (mkF m 70 #[.val (.ref a0), .val (.double d1), .second, .val (.int (2 : Int32)), .val (.int (2 : Int32)), .val (.int (2 : Int32)), .val (.double (FP.ddiv (FP.dsub d1 ev2) (FP.dsub ev3 ev2))), .second] [])) t
    refine XS.aloadN X14.here hx rfl (hb hby d5_70) rfl rfl ?_
    exact k
  obtain ⟨T16, X16, e16, st16⟩ := getF X14 hx hZ hown (host := "") (Or.inl (hw _ (List.mem_of_getElem? (i := 31) rfl))) Via.refl e14 F_bids_a0 (g := (mkF m 71 #[.val (.ref a0), .val (.double d1), .second, .val (.int (2 : Int32)), .val (.int (2 : Int32)), .val (.int (2 : Int32)), .val (.double (FP.ddiv (FP.dsub d1 ev2) (FP.dsub ev3 ev2))), .second] [(.ref a0)])) rfl rfl (hb hby d5_71)
  refine own_st (T' := T16) (g' := (mkF m 74 #[.val (.ref a0), .val (.double d1), .second, .val (.int (2 : Int32)), .val (.int (2 : Int32)), .val (.int (2 : Int32)), .val (.double (FP.ddiv (FP.dsub d1 ev2) (FP.dsub ev3 ev2))), .second] [(.ref w_bids_a0)])) st16 ?_
  refine own_st (T' := T16) (g' := (mkF m 76 #[.val (.ref a0), .val (.double d1), .second, .val (.int (2 : Int32)), .val (.int (2 : Int32)), .val (.int (2 : Int32)), .val (.double (FP.ddiv (FP.dsub d1 ev2) (FP.dsub ev3 ev2))), .second] [(.int (2 : Int32)), (.ref w_bids_a0)])) (fun t k => ?_) ?_
  · show Steps p.tables e below (T16.setTop (mkF m 74 #[.val (.ref a0), .val (.double d1), .second, .val (.int (2 : Int32)), .val (.int (2 : Int32)), .val (.int (2 : Int32)), .val (.double (FP.ddiv (FP.dsub d1 ev2) (FP.dsub ev3 ev2))), .second] [(.ref w_bids_a0)])) t
    refine XS.iload X16.here hx rfl (hb hby d5_74) rfl ?_
    exact k
  obtain ⟨c17, r17a, r17b, r17c, r17d, r17e, r17f⟩ := id V_w_bids_a0
  have i17 : ¬ ((2 : Int32) < 0 ∨ c17.slots.size ≤ ((2 : Int32)).toNatClampNeg) := inb_of r17c ⟨by decide, by decide⟩
  have y17 : c17.slots[((2 : Int32)).toNatClampNeg]? = some (.double eb2) := r17e.at i17 rfl
  refine own_st (T' := T16) (g' := (mkF m 80 #[.val (.ref a0), .val (.double d1), .second, .val (.int (2 : Int32)), .val (.int (2 : Int32)), .val (.int (2 : Int32)), .val (.double (FP.ddiv (FP.dsub d1 ev2) (FP.dsub ev3 ev2))), .second] [(.ref a0), (.double (FP.ddiv (FP.dsub d1 ev2) (FP.dsub ev3 ev2))), (.double eb2)])) (fun t k => ?_) ?_
  · show Steps p.tables e below (T16.setTop (mkF m 76 #[.val (.ref a0), .val (.double d1), .second, .val (.int (2 : Int32)), .val (.int (2 : Int32)), .val (.int (2 : Int32)), .val (.double (FP.ddiv (FP.dsub d1 ev2) (FP.dsub ev3 ev2))), .second] [(.int (2 : Int32)), (.ref w_bids_a0)])) t
    refine X16.daload hx (j := (2 : Int32)) (v := (.double eb2)) (by rw [e16]; exact r17a.1) (State.isArrayOf_alike hZ.alike r17a.2.1) r17a.2.2 i17 y17 (g := (mkF m 76 #[.val (.ref a0), .val (.double d1), .second, .val (.int (2 : Int32)), .val (.int (2 : Int32)), .val (.int (2 : Int32)), .val (.double (FP.ddiv (FP.dsub d1 ev2) (FP.dsub ev3 ev2))), .second] [(.int (2 : Int32)), (.ref w_bids_a0)])) rfl rfl (hb hby d5_76) _ ?_
    show Steps p.tables e below (T16.setTop (mkF m 77 #[.val (.ref a0), .val (.double d1), .second, .val (.int (2 : Int32)), .val (.int (2 : Int32)), .val (.int (2 : Int32)), .val (.double (FP.ddiv (FP.dsub d1 ev2) (FP.dsub ev3 ev2))), .second] [(.double eb2)])) t
    refine XS.dload X16.here hx rfl (hb hby d5_77) rfl ?_
    show Steps p.tables e below (T16.setTop (mkF m 79 #[.val (.ref a0), .val (.double d1), .second, .val (.int (2 : Int32)), .val (.int (2 : Int32)), .val (.int (2 : Int32)), .val (.double (FP.ddiv (FP.dsub d1 ev2) (FP.dsub ev3 ev2))), .second] [(.double (FP.ddiv (FP.dsub d1 ev2) (FP.dsub ev3 ev2))), (.double eb2)])) t
    refine XS.aloadN X16.here hx rfl (hb hby d5_79) rfl rfl ?_
    exact k
  obtain ⟨T18, X18, e18, st18⟩ := getF X16 hx hZ hown (host := "") (Or.inl (hw _ (List.mem_of_getElem? (i := 31) rfl))) Via.refl e16 F_bids_a0 (g := (mkF m 80 #[.val (.ref a0), .val (.double d1), .second, .val (.int (2 : Int32)), .val (.int (2 : Int32)), .val (.int (2 : Int32)), .val (.double (FP.ddiv (FP.dsub d1 ev2) (FP.dsub ev3 ev2))), .second] [(.ref a0), (.double (FP.ddiv (FP.dsub d1 ev2) (FP.dsub ev3 ev2))), (.double eb2)])) rfl rfl (hb hby d5_80)
  refine own_st (T' := T18) (g' := (mkF m 83 #[.val (.ref a0), .val (.double d1), .second, .val (.int (2 : Int32)), .val (.int (2 : Int32)), .val (.int (2 : Int32)), .val (.double (FP.ddiv (FP.dsub d1 ev2) (FP.dsub ev3 ev2))), .second] [(.ref w_bids_a0), (.double (FP.ddiv (FP.dsub d1 ev2) (FP.dsub ev3 ev2))), (.double eb2)])) st18 ?_
  refine own_st (T' := T18) (g' := (mkF m 87 #[.val (.ref a0), .val (.double d1), .second, .val (.int (2 : Int32)), .val (.int (2 : Int32)), .val (.int (2 : Int32)), .val (.double (FP.ddiv (FP.dsub d1 ev2) (FP.dsub ev3 ev2))), .second] [(.int (3 : Int32)), (.ref w_bids_a0), (.double (FP.ddiv (FP.dsub d1 ev2) (FP.dsub ev3 ev2))), (.double eb2)])) (fun t k => ?_) ?_
  · show Steps p.tables e below (T18.setTop (mkF m 83 #[.val (.ref a0), .val (.double d1), .second, .val (.int (2 : Int32)), .val (.int (2 : Int32)), .val (.int (2 : Int32)), .val (.double (FP.ddiv (FP.dsub d1 ev2) (FP.dsub ev3 ev2))), .second] [(.ref w_bids_a0), (.double (FP.ddiv (FP.dsub d1 ev2) (FP.dsub ev3 ev2))), (.double eb2)])) t
    refine XS.iload X18.here hx rfl (hb hby d5_83) rfl ?_
    show Steps p.tables e below (T18.setTop (mkF m 85 #[.val (.ref a0), .val (.double d1), .second, .val (.int (2 : Int32)), .val (.int (2 : Int32)), .val (.int (2 : Int32)), .val (.double (FP.ddiv (FP.dsub d1 ev2) (FP.dsub ev3 ev2))), .second] [(.int (2 : Int32)), (.ref w_bids_a0), (.double (FP.ddiv (FP.dsub d1 ev2) (FP.dsub ev3 ev2))), (.double eb2)])) t
    refine XS.iconst X18.here hx rfl (hb hby d5_85) ?_
    show Steps p.tables e below (T18.setTop (mkF m 86 #[.val (.ref a0), .val (.double d1), .second, .val (.int (2 : Int32)), .val (.int (2 : Int32)), .val (.int (2 : Int32)), .val (.double (FP.ddiv (FP.dsub d1 ev2) (FP.dsub ev3 ev2))), .second] [(.int (1 : Int32)), (.int (2 : Int32)), (.ref w_bids_a0), (.double (FP.ddiv (FP.dsub d1 ev2) (FP.dsub ev3 ev2))), (.double eb2)])) t
    refine XS.iadd X18.here hx rfl (hb hby d5_86) rfl ?_
    exact k
  obtain ⟨c19, r19a, r19b, r19c, r19d, r19e, r19f⟩ := id V_w_bids_a0
  have i19 : ¬ ((3 : Int32) < 0 ∨ c19.slots.size ≤ ((3 : Int32)).toNatClampNeg) := inb_of r19c ⟨by decide, by decide⟩
  have y19 : c19.slots[((3 : Int32)).toNatClampNeg]? = some (.double eb3) := r19e.at i19 rfl
  refine own_st (T' := T18) (g' := (mkF m 89 #[.val (.ref a0), .val (.double d1), .second, .val (.int (2 : Int32)), .val (.int (2 : Int32)), .val (.int (2 : Int32)), .val (.double (FP.ddiv (FP.dsub d1 ev2) (FP.dsub ev3 ev2))), .second] [(.ref a0), (.double eb3), (.double (FP.ddiv (FP.dsub d1 ev2) (FP.dsub ev3 ev2))), (.double eb2)])) (fun t k => ?_) ?_
  · show Steps p.tables e below (T18.setTop (mkF m 87 #[.val (.ref a0), .val (.double d1), .second, .val (.int (2 : Int32)), .val (.int (2 : Int32)), .val (.int (2 : Int32)), .val (.double (FP.ddiv (FP.dsub d1 ev2) (FP.dsub ev3 ev2))), .second] [(.int (3 : Int32)), (.ref w_bids_a0), (.double (FP.ddiv (FP.dsub d1 ev2) (FP.dsub ev3 ev2))), (.double eb2)])) t
    refine X18.daload hx (j := (3 : Int32)) (v := (.double eb3)) (by rw [e18]; exact r19a.1) (State.isArrayOf_alike hZ.alike r19a.2.1) r19a.2.2 i19 y19 (g := (mkF m 87 #[.val (.ref a0), .val (.double d1), .second, .val (.int (2 : Int32)), .val (.int (2 : Int32)), .val (.int (2 : Int32)), .val (.double (FP.ddiv (FP.dsub d1 ev2) (FP.dsub ev3 ev2))), .second] [(.int (3 : Int32)), (.ref w_bids_a0), (.double (FP.ddiv (FP.dsub d1 ev2) (FP.dsub ev3 ev2))), (.double eb2)])) rfl rfl (hb hby d5_87) _ ?_
    show Steps p.tables e below (T18.setTop (mkF m 88 #[.val (.ref a0), .val (.double d1), .second, .val (.int (2 : Int32)), .val (.int (2 : Int32)), .val (.int (2 : Int32)), .val (.double (FP.ddiv (FP.dsub d1 ev2) (FP.dsub ev3 ev2))), .second] [(.double eb3), (.double (FP.ddiv (FP.dsub d1 ev2) (FP.dsub ev3 ev2))), (.double eb2)])) t
    refine XS.aloadN X18.here hx rfl (hb hby d5_88) rfl rfl ?_
    exact k
  obtain ⟨T20, X20, e20, st20⟩ := getF X18 hx hZ hown (host := "") (Or.inl (hw _ (List.mem_of_getElem? (i := 31) rfl))) Via.refl e18 F_bids_a0 (g := (mkF m 89 #[.val (.ref a0), .val (.double d1), .second, .val (.int (2 : Int32)), .val (.int (2 : Int32)), .val (.int (2 : Int32)), .val (.double (FP.ddiv (FP.dsub d1 ev2) (FP.dsub ev3 ev2))), .second] [(.ref a0), (.double eb3), (.double (FP.ddiv (FP.dsub d1 ev2) (FP.dsub ev3 ev2))), (.double eb2)])) rfl rfl (hb hby d5_89)
  refine own_st (T' := T20) (g' := (mkF m 92 #[.val (.ref a0), .val (.double d1), .second, .val (.int (2 : Int32)), .val (.int (2 : Int32)), .val (.int (2 : Int32)), .val (.double (FP.ddiv (FP.dsub d1 ev2) (FP.dsub ev3 ev2))), .second] [(.ref w_bids_a0), (.double eb3), (.double (FP.ddiv (FP.dsub d1 ev2) (FP.dsub ev3 ev2))), (.double eb2)])) st20 ?_
  refine own_st (T' := T20) (g' := (mkF m 94 #[.val (.ref a0), .val (.double d1), .second, .val (.int (2 : Int32)), .val (.int (2 : Int32)), .val (.int (2 : Int32)), .val (.double (FP.ddiv (FP.dsub d1 ev2) (FP.dsub ev3 ev2))), .second] [(.int (2 : Int32)), (.ref w_bids_a0), (.double eb3), (.double (FP.ddiv (FP.dsub d1 ev2) (FP.dsub ev3 ev2))), (.double eb2)])) (fun t k => ?_) ?_
  · show Steps p.tables e below (T20.setTop (mkF m 92 #[.val (.ref a0), .val (.double d1), .second, .val (.int (2 : Int32)), .val (.int (2 : Int32)), .val (.int (2 : Int32)), .val (.double (FP.ddiv (FP.dsub d1 ev2) (FP.dsub ev3 ev2))), .second] [(.ref w_bids_a0), (.double eb3), (.double (FP.ddiv (FP.dsub d1 ev2) (FP.dsub ev3 ev2))), (.double eb2)])) t
    refine XS.iload X20.here hx rfl (hb hby d5_92) rfl ?_
    exact k
  obtain ⟨c21, r21a, r21b, r21c, r21d, r21e, r21f⟩ := id V_w_bids_a0
  have i21 : ¬ ((2 : Int32) < 0 ∨ c21.slots.size ≤ ((2 : Int32)).toNatClampNeg) := inb_of r21c ⟨by decide, by decide⟩
  have y21 : c21.slots[((2 : Int32)).toNatClampNeg]? = some (.double eb2) := r21e.at i21 rfl
  refine own_st (T' := T20) (g' := (mkF m 98 #[.val (.ref a0), .val (.double d1), .second, .val (.int (2 : Int32)), .val (.int (2 : Int32)), .val (.int (2 : Int32)), .val (.double (FP.ddiv (FP.dsub d1 ev2) (FP.dsub ev3 ev2))), .second] [(.double (FP.dadd eb2 (FP.dmul (FP.ddiv (FP.dsub d1 ev2) (FP.dsub ev3 ev2)) (FP.dsub eb3 eb2))))])) (fun t k => ?_) ?_
  · show Steps p.tables e below (T20.setTop (mkF m 94 #[.val (.ref a0), .val (.double d1), .second, .val (.int (2 : Int32)), .val (.int (2 : Int32)), .val (.int (2 : Int32)), .val (.double (FP.ddiv (FP.dsub d1 ev2) (FP.dsub ev3 ev2))), .second] [(.int (2 : Int32)), (.ref w_bids_a0), (.double eb3), (.double (FP.ddiv (FP.dsub d1 ev2) (FP.dsub ev3 ev2))), (.double eb2)])) t
    refine X20.daload hx (j := (2 : Int32)) (v := (.double eb2)) (by rw [e20]; exact r21a.1) (State.isArrayOf_alike hZ.alike r21a.2.1) r21a.2.2 i21 y21 (g := (mkF m 94 #[.val (.ref a0), .val (.double d1), .second, .val (.int (2 : Int32)), .val (.int (2 : Int32)), .val (.int (2 : Int32)), .val (.double (FP.ddiv (FP.dsub d1 ev2) (FP.dsub ev3 ev2))), .second] [(.int (2 : Int32)), (.ref w_bids_a0), (.double eb3), (.double (FP.ddiv (FP.dsub d1 ev2) (FP.dsub ev3 ev2))), (.double eb2)])) rfl rfl (hb hby d5_94) _ ?_
    show Steps p.tables e below (T20.setTop (mkF m 95 #[.val (.ref a0), .val (.double d1), .second, .val (.int (2 : Int32)), .val (.int (2 : Int32)), .val (.int (2 : Int32)), .val (.double (FP.ddiv (FP.dsub d1 ev2) (FP.dsub ev3 ev2))), .second] [(.double eb2), (.double eb3), (.double (FP.ddiv (FP.dsub d1 ev2) (FP.dsub ev3 ev2))), (.double eb2)])) t
    refine XS.dsubS X20.here hx rfl (hb hby d5_95) rfl hn95 rfl ?_
    show Steps p.tables e below (T20.setTop (mkF m 96 #[.val (.ref a0), .val (.double d1), .second, .val (.int (2 : Int32)), .val (.int (2 : Int32)), .val (.int (2 : Int32)), .val (.double (FP.ddiv (FP.dsub d1 ev2) (FP.dsub ev3 ev2))), .second] [(.double (FP.dsub eb3 eb2)), (.double (FP.ddiv (FP.dsub d1 ev2) (FP.dsub ev3 ev2))), (.double eb2)])) t
    refine XS.dmulS X20.here hx rfl (hb hby d5_96) rfl hn96 rfl ?_
    show Steps p.tables e below (T20.setTop (mkF m 97 #[.val (.ref a0), .val (.double d1), .second, .val (.int (2 : Int32)), .val (.int (2 : Int32)), .val (.int (2 : Int32)), .val (.double (FP.ddiv (FP.dsub d1 ev2) (FP.dsub ev3 ev2))), .second] [(.double (FP.dmul (FP.ddiv (FP.dsub d1 ev2) (FP.dsub ev3 ev2)) (FP.dsub eb3 eb2))), (.double eb2)])) t
    refine XS.daddS X20.here hx rfl (hb hby d5_97) rfl hn97 rfl ?_
    exact k
  refine own_retD X20 hx hlk Bd.returns (hb hby d5_98) (by decide) (by decide) ?_
  show Qble Z a0 d1 w_values_a0 kk_w_values_a0 ev0 ev1 ev2 ev3 w_bids_a0 kk_w_bids_a0 eb0 eb1 eb2 eb3 h0 n0 (some (.double (FP.dadd eb2 (FP.dmul (FP.ddiv (FP.dsub d1 ev2) (FP.dsub ev3 ev2)) (FP.dsub eb3 eb2))))) T20.heap _
  rw [(e20 : T20.heap = h0)]
  exact ⟨rfl, n9, rfl⟩
theorem d5_17 : decode prog_21_method_9_code 17 = .ok (.iload_n 3, 1) := by decide +kernel
theorem d5_18 : decode prog_21_method_9_code 18 = .ok (.ineg, 1) := by decide +kernel
theorem d5_19 : decode prog_21_method_9_code 19 = .ok (.iconst 2, 1) := by decide +kernel
theorem d5_20 : decode prog_21_method_9_code 20 = .ok (.isub, 1) := by decide +kernel
theorem pnblg : plainName "com/example/corewright/corewright/equilibrium/Strategy" = true := by first | (simp [plainName, overriddenIn]; done) | decide +kernel
theorem pdblg_0 : parseMethodDescriptor "([DD)I" = some ⟨[(.array .double), .double], some .int⟩ := by decide +kernel
theorem pdblg_1 : parseMethodDescriptor "(II)I" = some ⟨[.int, .int], some .int⟩ := by decide +kernel
theorem efblg (m : MethodId) (a0 : Addr) (d1 : UInt64) : entryFrame m #[(.ref a0), (.double d1)] 8 = mkF m 0 #[.val (.ref a0), .val (.double d1), .second, .unset, .unset, .unset, .unset, .unset] [] := by first | (simp [entryFrame, mkF, argsToLocals, Value.category]; done) | rfl
def Qblg (Z : State) (a0 : Addr) (d1 : UInt64) (w_values_a0 : Addr) (kk_w_values_a0 : ClassId) (ev0 : UInt64) (ev1 : UInt64) (ev2 : UInt64) (ev3 : UInt64) (w_bids_a0 : Addr) (kk_w_bids_a0 : ClassId) (eb0 : UInt64) (eb1 : UInt64) (eb2 : UInt64) (eb3 : UInt64) (h0 : Heap) (n0 : Nat) (v : Option Value) (h : Heap) (L : List Loc) : Prop := v = some (.double (FP.dadd eb1 (FP.dmul (FP.ddiv (FP.dsub d1 ev1) (FP.dsub ev2 ev1)) (FP.dsub eb2 eb1)))) ∧ Fr n0 L ∧ h = h0
set_option maxRecDepth 65536 in
set_option maxHeartbeats 40000000 in
theorem rmblg (l : Launch) (Z : State) (ar : Array Value) (hw : ∀ d ∈ tables_1, d.before ar Z = true) (ws : List Jvm.Cond) (a0 : Addr) (d1 : UInt64) (w_values_a0 : Addr) (kk_w_values_a0 : ClassId) (ev0 : UInt64) (ev1 : UInt64) (ev2 : UInt64) (ev3 : UInt64) (w_bids_a0 : Addr) (kk_w_bids_a0 : ClassId) (eb0 : UInt64) (eb1 : UInt64) (eb2 : UInt64) (eb3 : UInt64) (h0 : Heap) (n0 : Nat) (Z0 : n0 ≤ h0.size) (E_a0 : Exa Z h0 a0 "com/example/corewright/corewright/equilibrium/Strategy") (F_values_a0 : Fld Z h0 a0 "com/example/corewright/corewright/equilibrium/Strategy" "values" "[D" (.ref w_values_a0)) (V_w_values_a0 : Arv Z h0 w_values_a0 kk_w_values_a0 .double (4 : Int32) [(.double ev0), (.double ev1), (.double ev2), (.double ev3)] (.double (0 : UInt64))) (F_bids_a0 : Fld Z h0 a0 "com/example/corewright/corewright/equilibrium/Strategy" "bids" "[D" (.ref w_bids_a0)) (V_w_bids_a0 : Arv Z h0 w_bids_a0 kk_w_bids_a0 .double (4 : Int32) [(.double eb0), (.double eb1), (.double eb2), (.double eb3)] (.double (0 : UInt64))) (h5_h5_hb34 : (cmpValue (FP.dcmp ev1 d1) .g) < (0 : Int32)) (h5_h5_hb34_1 : ¬ ((cmpValue (FP.dcmp ev2 d1) .g) < (0 : Int32))) (h5_h5_hb50 : (0 : Int32) < (cmpValue (FP.dcmp ev2 d1) .l)) (hn49 : Jvm.Free.Fl.NoNaN64 (FP.dsub d1 ev1)) (hn66 : Jvm.Free.Fl.NoNaN64 (FP.dsub ev2 ev1)) (hn67 : Jvm.Free.Fl.NoNaN64 (FP.ddiv (FP.dsub d1 ev1) (FP.dsub ev2 ev1))) (hn95 : Jvm.Free.Fl.NoNaN64 (FP.dsub eb2 eb1)) (hn96 : Jvm.Free.Fl.NoNaN64 (FP.dmul (FP.ddiv (FP.dsub d1 ev1) (FP.dsub ev2 ev1)) (FP.dsub eb2 eb1))) (hn97 : Jvm.Free.Fl.NoNaN64 (FP.dadd eb1 (FP.dmul (FP.ddiv (FP.dsub d1 ev1) (FP.dsub ev2 ev1)) (FP.dsub eb2 eb1)))) :
    MetFree l (⟨"com/example/corewright/corewright/equilibrium/Strategy", "bid", "(D)D"⟩ : MethodName) (head1 (Jvm.Cond.code (⟨"com/example/corewright/corewright/equilibrium/Strategy", "bid", "(D)D"⟩ : MethodName) prog_21_method_9_code 8 (some .double) :: ws) ({ frames := 2, cells := 0, slots := 0, locals := 39 } : Room)) (fun a U => a = #[(.ref a0), (.double d1)] ∧ Z.Warmed39 U.vm ∧ U.heap = h0) (fun _ _ _ _ _ => True) (fun _ U o U' => ∃ v L, o = .returned v ∧ Qblg Z a0 d1 w_values_a0 kk_w_values_a0 ev0 ev1 ev2 ev3 w_bids_a0 kk_w_bids_a0 eb0 eb1 eb2 eb3 h0 n0 v U'.heap L ∧ FrameEnd U o U' L ({ frames := 2, cells := 0, slots := 0, locals := 39 } : Room).cells ({ frames := 2, cells := 0, slots := 0, locals := 39 } : Room).slots) := by
  refine MetFree.of_bodySF (plainFor_of_name pnblg) hisR ?_
  intro p e s m args below meth c s₁ Bd hml0 hP hK
  obtain ⟨rfl, hZ, hh⟩ := hP
  have hx := Bd.exec
  have hby := Bd.bytes
  have hlk := Bd.notSynchronized
  have hml : c.maxLocals = 8 := hml0
  have hown : s.vm.findClass "com/example/corewright/corewright/equilibrium/Strategy" = some m.cls := findClass_of_methodNamed Bd.named
  have hnm := (name_of_methodNamed Bd.named Bd.method).1
  have X0 : Stand p l e ({ frames := 2, cells := 0, slots := 0, locals := 39 } : Room) s m #[(.ref a0), (.double d1)] below meth c s₁ [] 0 0 := Stand.of_body Bd
  have e0 : s₁.heap = h0 := by rw [← hh, Bd.state]; rfl
  have N0 := Fr.nil n0
  have K0 := Keep.refl h0 []
  refine own_enter (Q := Qblg Z a0 d1 w_values_a0 kk_w_values_a0 ev0 ev1 ev2 ev3 w_bids_a0 kk_w_bids_a0 eb0 eb1 eb2 eb3 h0 n0) (efblg m a0 d1) ?_
  refine own_st (T' := s₁) (g' := (mkF m 1 #[.val (.ref a0), .val (.double d1), .second, .unset, .unset, .unset, .unset, .unset] [(.ref a0)])) (fun t k => ?_) ?_
  · show Steps p.tables e below (s₁.setTop (mkF m 0 #[.val (.ref a0), .val (.double d1), .second, .unset, .unset, .unset, .unset, .unset] [])) t
    refine XS.aloadN X0.here hx rfl (hb hby d5_0) rfl rfl ?_
    exact k
  obtain ⟨T1, X1, e1, st1⟩ := getF X0 hx hZ hown (host := "") (Or.inl (hw _ (List.mem_of_getElem? (i := 29) rfl))) Via.refl e0 F_values_a0 (g := (mkF m 1 #[.val (.ref a0), .val (.double d1), .second, .unset, .unset, .unset, .unset, .unset] [(.ref a0)])) rfl rfl (hb hby d5_1)
  refine own_st (T' := T1) (g' := (mkF m 4 #[.val (.ref a0), .val (.double d1), .second, .unset, .unset, .unset, .unset, .unset] [(.ref w_values_a0)])) st1 ?_
  refine own_st (T' := T1) (g' := (mkF m 5 #[.val (.ref a0), .val (.double d1), .second, .unset, .unset, .unset, .unset, .unset] [(.double d1), (.ref w_values_a0)])) (fun t k => ?_) ?_
  · show Steps p.tables e below (T1.setTop (mkF m 4 #[.val (.ref a0), .val (.double d1), .second, .unset, .unset, .unset, .unset, .unset] [(.ref w_values_a0)])) t
    refine XS.dloadN X1.here hx rfl (hb hby d5_4) rfl ?_
    exact k
  obtain ⟨_, _, ⟨T2, L2, k2, n2⟩, -, X2, ⟨Lc2, hQ2, l2, y2, z2⟩, st2⟩ := Jvm.LawKit.callS X1 hx (y := (⟨"java/util/Arrays", "binarySearch", "([DD)I"⟩ : MethodName)) hown (mvT hZ (hw _ (List.mem_of_getElem? (i := 38) rfl))) (mvT hZ (hw _ (List.mem_of_getElem? (i := 39) rfl))) (mvT hZ (hw _ (List.mem_of_getElem? (i := 40) rfl))) (mvT hZ (hw _ (List.mem_of_getElem? (i := 41) rfl))) (by decide) (backOf (W := 0) (rmtlg l Z ar hw [] w_values_a0 d1 kk_w_values_a0 ev0 ev1 ev2 ev3 h0 n0 Z0 V_w_values_a0 h5_h5_hb34 h5_h5_hb34_1 h5_h5_hb50) hZ (hw _ (List.mem_of_getElem? (i := 41) rfl)) (hw _ (List.mem_of_getElem? (i := 40) rfl)) (by decide) (by decide)) (g := (mkF m 5 #[.val (.ref a0), .val (.double d1), .second, .unset, .unset, .unset, .unset, .unset] [(.double d1), (.ref w_values_a0)])) rfl (by rw [hml]; rfl) (argsL := [(.ref w_values_a0), (.double d1)]) (rest := []) (lenOf pdblg_0 rfl) rfl (by show 2 * 0 + _ ≤ _; exact Nat.le_of_eq rfl) (hb hby d5_5) (fun _ _ => ⟨rfl, e1, (by decide : 0 + 0 ≤ _), (by decide : 0 + 0 ≤ _)⟩)
  dsimp only [Pt.U, Pt.locs, Pt.cells, Pt.slots] at X2 l2 y2 z2 st2 hQ2
  subst l2 y2 z2
  obtain ⟨rfl, N2q, e2⟩ := hQ2
  have n3 := Fr.app N0 N2q
  refine own_st (T' := T2) (g' := (mkF m 8 #[.val (.ref a0), .val (.double d1), .second, .unset, .unset, .unset, .unset, .unset] [(.int (-3 : Int32))])) st2 ?_
  refine own_st (T' := T2) (g' := (mkF m 26 #[.val (.ref a0), .val (.double d1), .second, .val (.int (-3 : Int32)), .val (.int (1 : Int32)), .unset, .unset, .unset] [(.int (0 : Int32)), (.int (1 : Int32))])) (fun t k => ?_) ?_
  · show Steps p.tables e below (T2.setTop (mkF m 8 #[.val (.ref a0), .val (.double d1), .second, .unset, .unset, .unset, .unset, .unset] [(.int (-3 : Int32))])) t
    refine XS.istoreN X2.here hx rfl (hb hby d5_8) rfl (l' := #[.val (.ref a0), .val (.double d1), .second, .val (.int (-3 : Int32)), .unset, .unset, .unset, .unset]) rfl ?_
    show Steps p.tables e below (T2.setTop (mkF m 9 #[.val (.ref a0), .val (.double d1), .second, .val (.int (-3 : Int32)), .unset, .unset, .unset, .unset] [])) t
    refine XS.iloadN X2.here hx rfl (hb hby d5_9) rfl ?_
    show Steps p.tables e below (T2.setTop (mkF m 10 #[.val (.ref a0), .val (.double d1), .second, .val (.int (-3 : Int32)), .unset, .unset, .unset, .unset] [(.int (-3 : Int32))])) t
    refine XS.ifYes X2.here hx rfl (pc0 := 10) (pc' := 17) rfl (hb hby d5_10) rfl (by decide) (by decide) (by decide) ?_
    show Steps p.tables e below (T2.setTop (mkF m 17 #[.val (.ref a0), .val (.double d1), .second, .val (.int (-3 : Int32)), .unset, .unset, .unset, .unset] [])) t
    refine XS.iloadN X2.here hx rfl (hb hby d5_17) rfl ?_
    show Steps p.tables e below (T2.setTop (mkF m 18 #[.val (.ref a0), .val (.double d1), .second, .val (.int (-3 : Int32)), .unset, .unset, .unset, .unset] [(.int (-3 : Int32))])) t
    refine XS.ineg X2.here hx rfl (hb hby d5_18) rfl ?_
    show Steps p.tables e below (T2.setTop (mkF m 19 #[.val (.ref a0), .val (.double d1), .second, .val (.int (-3 : Int32)), .unset, .unset, .unset, .unset] [(.int (3 : Int32))])) t
    refine XS.iconst X2.here hx rfl (hb hby d5_19) ?_
    show Steps p.tables e below (T2.setTop (mkF m 20 #[.val (.ref a0), .val (.double d1), .second, .val (.int (-3 : Int32)), .unset, .unset, .unset, .unset] [(.int (2 : Int32)), (.int (3 : Int32))])) t
    refine XS.isub X2.here hx rfl (hb hby d5_20) rfl ?_
    show Steps p.tables e below (T2.setTop (mkF m 21 #[.val (.ref a0), .val (.double d1), .second, .val (.int (-3 : Int32)), .unset, .unset, .unset, .unset] [(.int (1 : Int32))])) t
    refine XS.istore X2.here hx rfl (hb hby d5_21) rfl (l' := #[.val (.ref a0), .val (.double d1), .second, .val (.int (-3 : Int32)), .val (.int (1 : Int32)), .unset, .unset, .unset]) rfl ?_
    show Steps p.tables e below (T2.setTop (mkF m 23 #[.val (.ref a0), .val (.double d1), .second, .val (.int (-3 : Int32)), .val (.int (1 : Int32)), .unset, .unset, .unset] [])) t
    refine XS.iload X2.here hx rfl (hb hby d5_23) rfl ?_
    show Steps p.tables e below (T2.setTop (mkF m 25 #[.val (.ref a0), .val (.double d1), .second, .val (.int (-3 : Int32)), .val (.int (1 : Int32)), .unset, .unset, .unset] [(.int (1 : Int32))])) t
    refine XS.iconst X2.here hx rfl (hb hby d5_25) ?_
    exact k
  obtain ⟨_, _, ⟨T4, L4, k4, n4⟩, -, X4, ⟨Lc4, hQ4, l4, y4, z4⟩, st4⟩ := Jvm.LawKit.callS X2 hx (y := (⟨"java/lang/Math", "max", "(II)I"⟩ : MethodName)) hown (mvT hZ (hw _ (List.mem_of_getElem? (i := 54) rfl))) (mvT hZ (hw _ (List.mem_of_getElem? (i := 55) rfl))) (mvT hZ (hw _ (List.mem_of_getElem? (i := 17) rfl))) (mvT hZ (hw _ (List.mem_of_getElem? (i := 56) rfl))) (by decide) (backOf (W := 0) (rmmx0 l Z ar hw [] ((1 : Int32)) ((0 : Int32)) h0 n0 Z0 (by decide)) hZ (hw _ (List.mem_of_getElem? (i := 56) rfl)) (hw _ (List.mem_of_getElem? (i := 17) rfl)) (by decide) (by decide)) (g := (mkF m 26 #[.val (.ref a0), .val (.double d1), .second, .val (.int (-3 : Int32)), .val (.int (1 : Int32)), .unset, .unset, .unset] [(.int (0 : Int32)), (.int (1 : Int32))])) rfl (by rw [hml]; rfl) (argsL := [(.int (1 : Int32)), (.int (0 : Int32))]) (rest := []) (lenOf pdblg_1 rfl) rfl (by show 2 * 0 + _ ≤ _; exact Nat.le_of_eq rfl) (hb hby d5_26) (fun _ _ => ⟨rfl, e2, (by decide : 0 + 0 ≤ _), (by decide : 0 + 0 ≤ _)⟩)
  dsimp only [Pt.U, Pt.locs, Pt.cells, Pt.slots] at X4 l4 y4 z4 st4 hQ4
  subst l4 y4 z4
  obtain ⟨rfl, N4q, e4⟩ := hQ4
  have n5 := Fr.app n3 N4q
  refine own_st (T' := T4) (g' := (mkF m 29 #[.val (.ref a0), .val (.double d1), .second, .val (.int (-3 : Int32)), .val (.int (1 : Int32)), .unset, .unset, .unset] [(.int (1 : Int32))])) st4 ?_
  refine own_st (T' := T4) (g' := (mkF m 30 #[.val (.ref a0), .val (.double d1), .second, .val (.int (-3 : Int32)), .val (.int (1 : Int32)), .unset, .unset, .unset] [(.ref a0), (.int (1 : Int32))])) (fun t k => ?_) ?_
  · show Steps p.tables e below (T4.setTop (mkF m 29 #[.val (.ref a0), .val (.double d1), .second, .val (.int (-3 : Int32)), .val (.int (1 : Int32)), .unset, .unset, .unset] [(.int (1 : Int32))])) t
    refine XS.aloadN X4.here hx rfl (hb hby d5_29) rfl rfl ?_
    exact k
  obtain ⟨T6, X6, e6, st6⟩ := getF X4 hx hZ hown (host := "") (Or.inl (hw _ (List.mem_of_getElem? (i := 29) rfl))) Via.refl e4 F_values_a0 (g := (mkF m 30 #[.val (.ref a0), .val (.double d1), .second, .val (.int (-3 : Int32)), .val (.int (1 : Int32)), .unset, .unset, .unset] [(.ref a0), (.int (1 : Int32))])) rfl rfl (hb hby d5_30)
  refine own_st (T' := T6) (g' := (mkF m 33 #[.val (.ref a0), .val (.double d1), .second, .val (.int (-3 : Int32)), .val (.int (1 : Int32)), .unset, .unset, .unset] [(.ref w_values_a0), (.int (1 : Int32))])) st6 ?_
  obtain ⟨c7, r7a, -, r7c, r7d, -, -⟩ := id V_w_values_a0
  refine own_st (T' := T6) (g' := (mkF m 36 #[.val (.ref a0), .val (.double d1), .second, .val (.int (-3 : Int32)), .val (.int (1 : Int32)), .unset, .unset, .unset] [(.int (2 : Int32)), (.int (1 : Int32))])) (fun t k => ?_) ?_
  · show Steps p.tables e below (T6.setTop (mkF m 33 #[.val (.ref a0), .val (.double d1), .second, .val (.int (-3 : Int32)), .val (.int (1 : Int32)), .unset, .unset, .unset] [(.ref w_values_a0), (.int (1 : Int32))])) t
    refine X6.arraylength hx (by rw [e6]; exact r7a.1) (State.isArrayOf_alike hZ.alike r7a.2.1) (g := (mkF m 33 #[.val (.ref a0), .val (.double d1), .second, .val (.int (-3 : Int32)), .val (.int (1 : Int32)), .unset, .unset, .unset] [(.ref w_values_a0), (.int (1 : Int32))])) rfl rfl (hb hby d5_33) _ ?_
    rw [len_of r7c r7d]
    show Steps p.tables e below (T6.setTop (mkF m 34 #[.val (.ref a0), .val (.double d1), .second, .val (.int (-3 : Int32)), .val (.int (1 : Int32)), .unset, .unset, .unset] [(.int (4 : Int32)), (.int (1 : Int32))])) t
    refine XS.iconst X6.here hx rfl (hb hby d5_34) ?_
    show Steps p.tables e below (T6.setTop (mkF m 35 #[.val (.ref a0), .val (.double d1), .second, .val (.int (-3 : Int32)), .val (.int (1 : Int32)), .unset, .unset, .unset] [(.int (2 : Int32)), (.int (4 : Int32)), (.int (1 : Int32))])) t
    refine XS.isub X6.here hx rfl (hb hby d5_35) rfl ?_
    exact k
  obtain ⟨_, _, ⟨T8, L8, k8, n8⟩, -, X8, ⟨Lc8, hQ8, l8, y8, z8⟩, st8⟩ := Jvm.LawKit.callS X6 hx (y := (⟨"java/lang/Math", "min", "(II)I"⟩ : MethodName)) hown (mvT hZ (hw _ (List.mem_of_getElem? (i := 57) rfl))) (mvT hZ (hw _ (List.mem_of_getElem? (i := 58) rfl))) (mvT hZ (hw _ (List.mem_of_getElem? (i := 17) rfl))) (mvT hZ (hw _ (List.mem_of_getElem? (i := 59) rfl))) (by decide) (backOf (W := 0) (rmmn0 l Z ar hw [] ((1 : Int32)) ((2 : Int32)) h0 n0 Z0 (by decide)) hZ (hw _ (List.mem_of_getElem? (i := 59) rfl)) (hw _ (List.mem_of_getElem? (i := 17) rfl)) (by decide) (by decide)) (g := (mkF m 36 #[.val (.ref a0), .val (.double d1), .second, .val (.int (-3 : Int32)), .val (.int (1 : Int32)), .unset, .unset, .unset] [(.int (2 : Int32)), (.int (1 : Int32))])) rfl (by rw [hml]; rfl) (argsL := [(.int (1 : Int32)), (.int (2 : Int32))]) (rest := []) (lenOf pdblg_1 rfl) rfl (by show 2 * 0 + _ ≤ _; exact Nat.le_of_eq rfl) (hb hby d5_36) (fun _ _ => ⟨rfl, e6, (by decide : 0 + 0 ≤ _), (by decide : 0 + 0 ≤ _)⟩)
  dsimp only [Pt.U, Pt.locs, Pt.cells, Pt.slots] at X8 l8 y8 z8 st8 hQ8
  subst l8 y8 z8
  obtain ⟨rfl, N8q, e8⟩ := hQ8
  have n9 := Fr.app n5 N8q
  refine own_st (T' := T8) (g' := (mkF m 39 #[.val (.ref a0), .val (.double d1), .second, .val (.int (-3 : Int32)), .val (.int (1 : Int32)), .unset, .unset, .unset] [(.int (1 : Int32))])) st8 ?_
  refine own_st (T' := T8) (g' := (mkF m 43 #[.val (.ref a0), .val (.double d1), .second, .val (.int (-3 : Int32)), .val (.int (1 : Int32)), .val (.int (1 : Int32)), .unset, .unset] [(.ref a0), (.double d1)])) (fun t k => ?_) ?_
  · show Steps p.tables e below (T8.setTop (mkF m 39 #[.val (.ref a0), .val (.double d1), .second, .val (.int (-3 : Int32)), .val (.int (1 : Int32)), .unset, .unset, .unset] [(.int (1 : Int32))])) t
    refine XS.istore X8.here hx rfl (hb hby d5_39) rfl (l' := #[.val (.ref a0), .val (.double d1), .second, .val (.int (-3 : Int32)), .val (.int (1 : Int32)), .val (.int (1 : Int32)), .unset, .unset]) rfl ?_
    show Steps p.tables e below (T8.setTop (mkF m 41 #[.val (.ref a0), .val (.double d1), .second, .val (.int (-3 : Int32)), .val (.int (1 : Int32)), .val (.int (1 : Int32)), .unset, .unset] [])) t
    refine XS.dloadN X8.here hx rfl (hb hby d5_41) rfl ?_
    show Steps p.tables e below (T8.setTop (mkF m 42 #[.val (.ref a0), .val (.double d1), .second, .val (.int (-3 : Int32)), .val (.int (1 : Int32)), .val (.int (1 : Int32)), .unset, .unset] [(.double d1)])) t
    refine XS.aloadN X8.here hx rfl (hb hby d5_42) rfl rfl ?_
    exact k
  obtain ⟨T10, X10, e10, st10⟩ := getF X8 hx hZ hown (host := "") (Or.inl (hw _ (List.mem_of_getElem? (i := 29) rfl))) Via.refl e8 F_values_a0 (g := (mkF m 43 #[.val (.ref a0), .val (.double d1), .second, .val (.int (-3 : Int32)), .val (.int (1 : Int32)), .val (.int (1 : Int32)), .unset, .unset] [(.ref a0), (.double d1)])) rfl rfl (hb hby d5_43)
  refine own_st (T' := T10) (g' := (mkF m 46 #[.val (.ref a0), .val (.double d1), .second, .val (.int (-3 : Int32)), .val (.int (1 : Int32)), .val (.int (1 : Int32)), .unset, .unset] [(.ref w_values_a0), (.double d1)])) st10 ?_
  refine own_st (T' := T10) (g' := (mkF m 48 #[.val (.ref a0), .val (.double d1), .second, .val (.int (-3 : Int32)), .val (.int (1 : Int32)), .val (.int (1 : Int32)), .unset, .unset] [(.int (1 : Int32)), (.ref w_values_a0), (.double d1)])) (fun t k => ?_) ?_
  · show Steps p.tables e below (T10.setTop (mkF m 46 #[.val (.ref a0), .val (.double d1), .second, .val (.int (-3 : Int32)), .val (.int (1 : Int32)), .val (.int (1 : Int32)), .unset, .unset] [(.ref w_values_a0), (.double d1)])) t
    refine XS.iload X10.here hx rfl (hb hby d5_46) rfl ?_
    exact k
  obtain ⟨c11, r11a, r11b, r11c, r11d, r11e, r11f⟩ := id V_w_values_a0
  have i11 : ¬ ((1 : Int32) < 0 ∨ c11.slots.size ≤ ((1 : Int32)).toNatClampNeg) := inb_of r11c ⟨by decide, by decide⟩
  have y11 : c11.slots[((1 : Int32)).toNatClampNeg]? = some (.double ev1) := r11e.at i11 rfl
  refine own_st (T' := T10) (g' := (mkF m 51 #[.val (.ref a0), .val (.double d1), .second, .val (.int (-3 : Int32)), .val (.int (1 : Int32)), .val (.int (1 : Int32)), .unset, .unset] [(.ref a0), (.double (FP.dsub d1 ev1))])) (fun t k => ?_) ?_
  · show Steps p.tables e below (T10.setTop (mkF m 48 #[.val (.ref a0), .val (.double d1), .second, .val (.int (-3 : Int32)), .val (.int (1 : Int32)), .val (.int (1 : Int32)), .unset, .unset] [(.int (1 : Int32)), (.ref w_values_a0), (.double d1)])) t
    refine X10.daload hx (j := (1 : Int32)) (v := (.double ev1)) (by rw [e10]; exact r11a.1) (State.isArrayOf_alike hZ.alike r11a.2.1) r11a.2.2 i11 y11 (g := (mkF m 48 #[.val (.ref a0), .val (.double d1), .second, .val (.int (-3 : Int32)), .val (.int (1 : Int32)), .val (.int (1 : Int32)), .unset, .unset] [(.int (1 : Int32)), (.ref w_values_a0), (.double d1)])) rfl rfl (hb hby d5_48) _ ?_
    show Steps p.tables e below (T10.setTop (mkF m 49 #[.val (.ref a0), .val (.double d1), .second, .val (.int (-3 : Int32)), .val (.int (1 : Int32)), .val (.int (1 : Int32)), .unset, .unset] [(.double ev1), (.double d1)])) t
    refine XS.dsubS X10.here hx rfl (hb hby d5_49) rfl hn49 rfl ?_
    show Steps p.tables e below (T10.setTop (mkF m 50 #[.val (.ref a0), .val (.double d1), .second, .val (.int (-3 : Int32)), .val (.int (1 : Int32)), .val (.int (1 : Int32)), .unset, .unset] [(.double (FP.dsub d1 ev1))])) t
    refine XS.aloadN X10.here hx rfl (hb hby d5_50) rfl rfl ?_
    exact k
  obtain ⟨T12, X12, e12, st12⟩ := getF X10 hx hZ hown (host := "") (Or.inl (hw _ (List.mem_of_getElem? (i := 29) rfl))) Via.refl e10 F_values_a0 (g := (mkF m 51 #[.val (.ref a0), .val (.double d1), .second, .val (.int (-3 : Int32)), .val (.int (1 : Int32)), .val (.int (1 : Int32)), .unset, .unset] [(.ref a0), (.double (FP.dsub d1 ev1))])) rfl rfl (hb hby d5_51)
  refine own_st (T' := T12) (g' := (mkF m 54 #[.val (.ref a0), .val (.double d1), .second, .val (.int (-3 : Int32)), .val (.int (1 : Int32)), .val (.int (1 : Int32)), .unset, .unset] [(.ref w_values_a0), (.double (FP.dsub d1 ev1))])) st12 ?_
  refine own_st (T' := T12) (g' := (mkF m 58 #[.val (.ref a0), .val (.double d1), .second, .val (.int (-3 : Int32)), .val (.int (1 : Int32)), .val (.int (1 : Int32)), .unset, .unset] [(.int (2 : Int32)), (.ref w_values_a0), (.double (FP.dsub d1 ev1))])) (fun t k => ?_) ?_
  · show Steps p.tables e below (T12.setTop (mkF m 54 #[.val (.ref a0), .val (.double d1), .second, .val (.int (-3 : Int32)), .val (.int (1 : Int32)), .val (.int (1 : Int32)), .unset, .unset] [(.ref w_values_a0), (.double (FP.dsub d1 ev1))])) t
    refine XS.iload X12.here hx rfl (hb hby d5_54) rfl ?_
    show Steps p.tables e below (T12.setTop (mkF m 56 #[.val (.ref a0), .val (.double d1), .second, .val (.int (-3 : Int32)), .val (.int (1 : Int32)), .val (.int (1 : Int32)), .unset, .unset] [(.int (1 : Int32)), (.ref w_values_a0), (.double (FP.dsub d1 ev1))])) t
    refine XS.iconst X12.here hx rfl (hb hby d5_56) ?_
    show Steps p.tables e below (T12.setTop (mkF m 57 #[.val (.ref a0), .val (.double d1), .second, .val (.int (-3 : Int32)), .val (.int (1 : Int32)), .val (.int (1 : Int32)), .unset, .unset] [(.int (1 : Int32)), (.int (1 : Int32)), (.ref w_values_a0), (.double (FP.dsub d1 ev1))])) t
    refine XS.iadd X12.here hx rfl (hb hby d5_57) rfl ?_
    exact k
  obtain ⟨c13, r13a, r13b, r13c, r13d, r13e, r13f⟩ := id V_w_values_a0
  have i13 : ¬ ((2 : Int32) < 0 ∨ c13.slots.size ≤ ((2 : Int32)).toNatClampNeg) := inb_of r13c ⟨by decide, by decide⟩
  have y13 : c13.slots[((2 : Int32)).toNatClampNeg]? = some (.double ev2) := r13e.at i13 rfl
  refine own_st (T' := T12) (g' := (mkF m 60 #[.val (.ref a0), .val (.double d1), .second, .val (.int (-3 : Int32)), .val (.int (1 : Int32)), .val (.int (1 : Int32)), .unset, .unset] [(.ref a0), (.double ev2), (.double (FP.dsub d1 ev1))])) (fun t k => ?_) ?_
  · show Steps p.tables e below (T12.setTop (mkF m 58 #[.val (.ref a0), .val (.double d1), .second, .val (.int (-3 : Int32)), .val (.int (1 : Int32)), .val (.int (1 : Int32)), .unset, .unset] [(.int (2 : Int32)), (.ref w_values_a0), (.double (FP.dsub d1 ev1))])) t
    refine X12.daload hx (j := (2 : Int32)) (v := (.double ev2)) (by rw [e12]; exact r13a.1) (State.isArrayOf_alike hZ.alike r13a.2.1) r13a.2.2 i13 y13 (g := (mkF m 58 #[.val (.ref a0), .val (.double d1), .second, .val (.int (-3 : Int32)), .val (.int (1 : Int32)), .val (.int (1 : Int32)), .unset, .unset] [(.int (2 : Int32)), (.ref w_values_a0), (.double (FP.dsub d1 ev1))])) rfl rfl (hb hby d5_58) _ ?_
    show Steps p.tables e below (T12.setTop (mkF m 59 #[.val (.ref a0), .val (.double d1), .second, .val (.int (-3 : Int32)), .val (.int (1 : Int32)), .val (.int (1 : Int32)), .unset, .unset] [(.double ev2), (.double (FP.dsub d1 ev1))])) t
    refine XS.aloadN X12.here hx rfl (hb hby d5_59) rfl rfl ?_
    exact k
  obtain ⟨T14, X14, e14, st14⟩ := getF X12 hx hZ hown (host := "") (Or.inl (hw _ (List.mem_of_getElem? (i := 29) rfl))) Via.refl e12 F_values_a0 (g := (mkF m 60 #[.val (.ref a0), .val (.double d1), .second, .val (.int (-3 : Int32)), .val (.int (1 : Int32)), .val (.int (1 : Int32)), .unset, .unset] [(.ref a0), (.double ev2), (.double (FP.dsub d1 ev1))])) rfl rfl (hb hby d5_60)
  refine own_st (T' := T14) (g' := (mkF m 63 #[.val (.ref a0), .val (.double d1), .second, .val (.int (-3 : Int32)), .val (.int (1 : Int32)), .val (.int (1 : Int32)), .unset, .unset] [(.ref w_values_a0), (.double ev2), (.double (FP.dsub d1 ev1))])) st14 ?_
  refine own_st (T' := T14) (g' := (mkF m 65 #[.val (.ref a0), .val (.double d1), .second, .val (.int (-3 : Int32)), .val (.int (1 : Int32)), .val (.int (1 : Int32)), .unset, .unset] [(.int (1 : Int32)), (.ref w_values_a0), (.double ev2), (.double (FP.dsub d1 ev1))])) (fun t k => ?_) ?_
  · show Steps p.tables e below (T14.setTop (mkF m 63 #[.val (.ref a0), .val (.double d1), .second, .val (.int (-3 : Int32)), .val (.int (1 : Int32)), .val (.int (1 : Int32)), .unset, .unset] [(.ref w_values_a0), (.double ev2), (.double (FP.dsub d1 ev1))])) t
    refine XS.iload X14.here hx rfl (hb hby d5_63) rfl ?_
    exact k
  obtain ⟨c15, r15a, r15b, r15c, r15d, r15e, r15f⟩ := id V_w_values_a0
  have i15 : ¬ ((1 : Int32) < 0 ∨ c15.slots.size ≤ ((1 : Int32)).toNatClampNeg) := inb_of r15c ⟨by decide, by decide⟩
  have y15 : c15.slots[((1 : Int32)).toNatClampNeg]? = some (.double ev1) := r15e.at i15 rfl
  refine own_st (T' := T14) (g' := (mkF m 71 #[.val (.ref a0), .val (.double d1), .second, .val (.int (-3 : Int32)), .val (.int (1 : Int32)), .val (.int (1 : Int32)), .val (.double (FP.ddiv (FP.dsub d1 ev1) (FP.dsub ev2 ev1))), .second] [(.ref a0)])) (fun t k => ?_) ?_
  · show Steps p.tables e below (T14.setTop (mkF m 65 #[.val (.ref a0), .val (.double d1), .second, .val (.int (-3 : Int32)), .val (.int (1 : Int32)), .val (.int (1 : Int32)), .unset, .unset] [(.int (1 : Int32)), (.ref w_values_a0), (.double ev2), (.double (FP.dsub d1 ev1))])) t
    refine X14.daload hx (j := (1 : Int32)) (v := (.double ev1)) (by rw [e14]; exact r15a.1) (State.isArrayOf_alike hZ.alike r15a.2.1) r15a.2.2 i15 y15 (g := (mkF m 65 #[.val (.ref a0), .val (.double d1), .second, .val (.int (-3 : Int32)), .val (.int (1 : Int32)), .val (.int (1 : Int32)), .unset, .unset] [(.int (1 : Int32)), (.ref w_values_a0), (.double ev2), (.double (FP.dsub d1 ev1))])) rfl rfl (hb hby d5_65) _ ?_
    show Steps p.tables e below (T14.setTop (mkF m 66 #[.val (.ref a0), .val (.double d1), .second, .val (.int (-3 : Int32)), .val (.int (1 : Int32)), .val (.int (1 : Int32)), .unset, .unset] [(.double ev1), (.double ev2), (.double (FP.dsub d1 ev1))])) t
    refine XS.dsubS X14.here hx rfl (hb hby d5_66) rfl hn66 rfl ?_
    show Steps p.tables e below (T14.setTop (mkF m 67 #[.val (.ref a0), .val (.double d1), .second, .val (.int (-3 : Int32)), .val (.int (1 : Int32)), .val (.int (1 : Int32)), .unset, .unset] [(.double (FP.dsub ev2 ev1)), (.double (FP.dsub d1 ev1))])) t
    refine XS.ddivS X14.here hx rfl (hb hby d5_67) rfl hn67 rfl ?_
    show Steps p.tables e below (T14.setTop (mkF m 68 #[.val (.ref a0), .val (.double d1), .second, .val (.int (-3 : Int32)), .val (.int (1 : Int32)), .val (.int (1 : Int32)), .unset, .unset] [(.double (FP.ddiv (FP.dsub d1 ev1) (FP.dsub ev2 ev1)))])) t
    refine XS.dstore X14.here hx rfl (hb hby d5_68) rfl (l' := #[.val (.ref a0), .val (.double d1), .second, .val (.int (-3 : Int32)), .val (.int (1 : Int32)), .val (.int (1 : Int32)), .val (.double (FP.ddiv (FP.dsub d1 ev1) (FP.dsub ev2 ev1))), .second]) rfl ?_
    show Steps p.tables e below (T14.setTop (mkF m 70 #[.val (.ref a0), .val (.double d1), .second, .val (.int (-3 : Int32)), .val (.int (1 : Int32)), .val (.int (1 : Int32)), .val (.double (FP.ddiv (FP.dsub d1 ev1) (FP.dsub ev2 ev1))), .second] [])) t
    refine XS.aloadN X14.here hx rfl (hb hby d5_70) rfl rfl ?_
    exact k
  obtain ⟨T16, X16, e16, st16⟩ := getF X14 hx hZ hown (host := "") (Or.inl (hw _ (List.mem_of_getElem? (i := 31) rfl))) Via.refl e14 F_bids_a0 (g := (mkF m 71 #[.val (.ref a0), .val (.double d1), .second, .val (.int (-3 : Int32)), .val (.int (1 : Int32)), .val (.int (1 : Int32)), .val (.double (FP.ddiv (FP.dsub d1 ev1) (FP.dsub ev2 ev1))), .second] [(.ref a0)])) rfl rfl (hb hby d5_71)
  refine own_st (T' := T16) (g' := (mkF m 74 #[.val (.ref a0), .val (.double d1), .second, .val (.int (-3 : Int32)), .val (.int (1 : Int32)), .val (.int (1 : Int32)), .val (.double (FP.ddiv (FP.dsub d1 ev1) (FP.dsub ev2 ev1))), .second] [(.ref w_bids_a0)])) st16 ?_
  refine own_st (T' := T16) (g' := (mkF m 76 #[.val (.ref a0), .val (.double d1), .second, .val (.int (-3 : Int32)), .val (.int (1 : Int32)), .val (.int (1 : Int32)), .val (.double (FP.ddiv (FP.dsub d1 ev1) (FP.dsub ev2 ev1))), .second] [(.int (1 : Int32)), (.ref w_bids_a0)])) (fun t k => ?_) ?_
  · show Steps p.tables e below (T16.setTop (mkF m 74 #[.val (.ref a0), .val (.double d1), .second, .val (.int (-3 : Int32)), .val (.int (1 : Int32)), .val (.int (1 : Int32)), .val (.double (FP.ddiv (FP.dsub d1 ev1) (FP.dsub ev2 ev1))), .second] [(.ref w_bids_a0)])) t
    refine XS.iload X16.here hx rfl (hb hby d5_74) rfl ?_
    exact k
  obtain ⟨c17, r17a, r17b, r17c, r17d, r17e, r17f⟩ := id V_w_bids_a0
  have i17 : ¬ ((1 : Int32) < 0 ∨ c17.slots.size ≤ ((1 : Int32)).toNatClampNeg) := inb_of r17c ⟨by decide, by decide⟩
  have y17 : c17.slots[((1 : Int32)).toNatClampNeg]? = some (.double eb1) := r17e.at i17 rfl
  refine own_st (T' := T16) (g' := (mkF m 80 #[.val (.ref a0), .val (.double d1), .second, .val (.int (-3 : Int32)), .val (.int (1 : Int32)), .val (.int (1 : Int32)), .val (.double (FP.ddiv (FP.dsub d1 ev1) (FP.dsub ev2 ev1))), .second] [(.ref a0), (.double (FP.ddiv (FP.dsub d1 ev1) (FP.dsub ev2 ev1))), (.double eb1)])) (fun t k => ?_) ?_
  · show Steps p.tables e below (T16.setTop (mkF m 76 #[.val (.ref a0), .val (.double d1), .second, .val (.int (-3 : Int32)), .val (.int (1 : Int32)), .val (.int (1 : Int32)), .val (.double (FP.ddiv (FP.dsub d1 ev1) (FP.dsub ev2 ev1))), .second] [(.int (1 : Int32)), (.ref w_bids_a0)])) t
    refine X16.daload hx (j := (1 : Int32)) (v := (.double eb1)) (by rw [e16]; exact r17a.1) (State.isArrayOf_alike hZ.alike r17a.2.1) r17a.2.2 i17 y17 (g := (mkF m 76 #[.val (.ref a0), .val (.double d1), .second, .val (.int (-3 : Int32)), .val (.int (1 : Int32)), .val (.int (1 : Int32)), .val (.double (FP.ddiv (FP.dsub d1 ev1) (FP.dsub ev2 ev1))), .second] [(.int (1 : Int32)), (.ref w_bids_a0)])) rfl rfl (hb hby d5_76) _ ?_
    show Steps p.tables e below (T16.setTop (mkF m 77 #[.val (.ref a0), .val (.double d1), .second, .val (.int (-3 : Int32)), .val (.int (1 : Int32)), .val (.int (1 : Int32)), .val (.double (FP.ddiv (FP.dsub d1 ev1) (FP.dsub ev2 ev1))), .second] [(.double eb1)])) t
    refine XS.dload X16.here hx rfl (hb hby d5_77) rfl ?_
    show Steps p.tables e below (T16.setTop (mkF m 79 #[.val (.ref a0), .val (.double d1), .second, .val (.int (-3 : Int32)), .val (.int (1 : Int32)), .val (.int (1 : Int32)), .val (.double (FP.ddiv (FP.dsub d1 ev1) (FP.dsub ev2 ev1))), .second] [(.double (FP.ddiv (FP.dsub d1 ev1) (FP.dsub ev2 ev1))), (.double eb1)])) t
    refine XS.aloadN X16.here hx rfl (hb hby d5_79) rfl rfl ?_
    exact k
  obtain ⟨T18, X18, e18, st18⟩ := getF X16 hx hZ hown (host := "") (Or.inl (hw _ (List.mem_of_getElem? (i := 31) rfl))) Via.refl e16 F_bids_a0 (g := (mkF m 80 #[.val (.ref a0), .val (.double d1), .second, .val (.int (-3 : Int32)), .val (.int (1 : Int32)), .val (.int (1 : Int32)), .val (.double (FP.ddiv (FP.dsub d1 ev1) (FP.dsub ev2 ev1))), .second] [(.ref a0), (.double (FP.ddiv (FP.dsub d1 ev1) (FP.dsub ev2 ev1))), (.double eb1)])) rfl rfl (hb hby d5_80)
  refine own_st (T' := T18) (g' := (mkF m 83 #[.val (.ref a0), .val (.double d1), .second, .val (.int (-3 : Int32)), .val (.int (1 : Int32)), .val (.int (1 : Int32)), .val (.double (FP.ddiv (FP.dsub d1 ev1) (FP.dsub ev2 ev1))), .second] [(.ref w_bids_a0), (.double (FP.ddiv (FP.dsub d1 ev1) (FP.dsub ev2 ev1))), (.double eb1)])) st18 ?_
  refine own_st (T' := T18) (g' := (mkF m 87 #[.val (.ref a0), .val (.double d1), .second, .val (.int (-3 : Int32)), .val (.int (1 : Int32)), .val (.int (1 : Int32)), .val (.double (FP.ddiv (FP.dsub d1 ev1) (FP.dsub ev2 ev1))), .second] [(.int (2 : Int32)), (.ref w_bids_a0), (.double (FP.ddiv (FP.dsub d1 ev1) (FP.dsub ev2 ev1))), (.double eb1)])) (fun t k => ?_) ?_
  · show Steps p.tables e below (T18.setTop (mkF m 83 #[.val (.ref a0), .val (.double d1), .second, .val (.int (-3 : Int32)), .val (.int (1 : Int32)), .val (.int (1 : Int32)), .val (.double (FP.ddiv (FP.dsub d1 ev1) (FP.dsub ev2 ev1))), .second] [(.ref w_bids_a0), (.double (FP.ddiv (FP.dsub d1 ev1) (FP.dsub ev2 ev1))), (.double eb1)])) t
    refine XS.iload X18.here hx rfl (hb hby d5_83) rfl ?_
    show Steps p.tables e below (T18.setTop (mkF m 85 #[.val (.ref a0), .val (.double d1), .second, .val (.int (-3 : Int32)), .val (.int (1 : Int32)), .val (.int (1 : Int32)), .val (.double (FP.ddiv (FP.dsub d1 ev1) (FP.dsub ev2 ev1))), .second] [(.int (1 : Int32)), (.ref w_bids_a0), (.double (FP.ddiv (FP.dsub d1 ev1) (FP.dsub ev2 ev1))), (.double eb1)])) t
    refine XS.iconst X18.here hx rfl (hb hby d5_85) ?_
    show Steps p.tables e below (T18.setTop (mkF m 86 #[.val (.ref a0), .val (.double d1), .second, .val (.int (-3 : Int32)), .val (.int (1 : Int32)), .val (.int (1 : Int32)), .val (.double (FP.ddiv (FP.dsub d1 ev1) (FP.dsub ev2 ev1))), .second] [(.int (1 : Int32)), (.int (1 : Int32)), (.ref w_bids_a0), (.double (FP.ddiv (FP.dsub d1 ev1) (FP.dsub ev2 ev1))), (.double eb1)])) t
    refine XS.iadd X18.here hx rfl (hb hby d5_86) rfl ?_
    exact k
  obtain ⟨c19, r19a, r19b, r19c, r19d, r19e, r19f⟩ := id V_w_bids_a0
  have i19 : ¬ ((2 : Int32) < 0 ∨ c19.slots.size ≤ ((2 : Int32)).toNatClampNeg) := inb_of r19c ⟨by decide, by decide⟩
  have y19 : c19.slots[((2 : Int32)).toNatClampNeg]? = some (.double eb2) := r19e.at i19 rfl
  refine own_st (T' := T18) (g' := (mkF m 89 #[.val (.ref a0), .val (.double d1), .second, .val (.int (-3 : Int32)), .val (.int (1 : Int32)), .val (.int (1 : Int32)), .val (.double (FP.ddiv (FP.dsub d1 ev1) (FP.dsub ev2 ev1))), .second] [(.ref a0), (.double eb2), (.double (FP.ddiv (FP.dsub d1 ev1) (FP.dsub ev2 ev1))), (.double eb1)])) (fun t k => ?_) ?_
  · show Steps p.tables e below (T18.setTop (mkF m 87 #[.val (.ref a0), .val (.double d1), .second, .val (.int (-3 : Int32)), .val (.int (1 : Int32)), .val (.int (1 : Int32)), .val (.double (FP.ddiv (FP.dsub d1 ev1) (FP.dsub ev2 ev1))), .second] [(.int (2 : Int32)), (.ref w_bids_a0), (.double (FP.ddiv (FP.dsub d1 ev1) (FP.dsub ev2 ev1))), (.double eb1)])) t
    refine X18.daload hx (j := (2 : Int32)) (v := (.double eb2)) (by rw [e18]; exact r19a.1) (State.isArrayOf_alike hZ.alike r19a.2.1) r19a.2.2 i19 y19 (g := (mkF m 87 #[.val (.ref a0), .val (.double d1), .second, .val (.int (-3 : Int32)), .val (.int (1 : Int32)), .val (.int (1 : Int32)), .val (.double (FP.ddiv (FP.dsub d1 ev1) (FP.dsub ev2 ev1))), .second] [(.int (2 : Int32)), (.ref w_bids_a0), (.double (FP.ddiv (FP.dsub d1 ev1) (FP.dsub ev2 ev1))), (.double eb1)])) rfl rfl (hb hby d5_87) _ ?_
    show Steps p.tables e below (T18.setTop (mkF m 88 #[.val (.ref a0), .val (.double d1), .second, .val (.int (-3 : Int32)), .val (.int (1 : Int32)), .val (.int (1 : Int32)), .val (.double (FP.ddiv (FP.dsub d1 ev1) (FP.dsub ev2 ev1))), .second] [(.double eb2), (.double (FP.ddiv (FP.dsub d1 ev1) (FP.dsub ev2 ev1))), (.double eb1)])) t
    refine XS.aloadN X18.here hx rfl (hb hby d5_88) rfl rfl ?_
    exact k
  obtain ⟨T20, X20, e20, st20⟩ := getF X18 hx hZ hown (host := "") (Or.inl (hw _ (List.mem_of_getElem? (i := 31) rfl))) Via.refl e18 F_bids_a0 (g := (mkF m 89 #[.val (.ref a0), .val (.double d1), .second, .val (.int (-3 : Int32)), .val (.int (1 : Int32)), .val (.int (1 : Int32)), .val (.double (FP.ddiv (FP.dsub d1 ev1) (FP.dsub ev2 ev1))), .second] [(.ref a0), (.double eb2), (.double (FP.ddiv (FP.dsub d1 ev1) (FP.dsub ev2 ev1))), (.double eb1)])) rfl rfl (hb hby d5_89)
  refine own_st (T' := T20) (g' := (mkF m 92 #[.val (.ref a0), .val (.double d1), .second, .val (.int (-3 : Int32)), .val (.int (1 : Int32)), .val (.int (1 : Int32)), .val (.double (FP.ddiv (FP.dsub d1 ev1) (FP.dsub ev2 ev1))), .second] [(.ref w_bids_a0), (.double eb2), (.double (FP.ddiv (FP.dsub d1 ev1) (FP.dsub ev2 ev1))), (.double eb1)])) st20 ?_
  refine own_st (T' := T20) (g' := (mkF m 94 #[.val (.ref a0), .val (.double d1), .second, .val (.int (-3 : Int32)), .val (.int (1 : Int32)), .val (.int (1 : Int32)), .val (.double (FP.ddiv (FP.dsub d1 ev1) (FP.dsub ev2 ev1))), .second] [(.int (1 : Int32)), (.ref w_bids_a0), (.double eb2), (.double (FP.ddiv (FP.dsub d1 ev1) (FP.dsub ev2 ev1))), (.double eb1)])) (fun t k => ?_) ?_
  · show Steps p.tables e below (T20.setTop (mkF m 92 #[.val (.ref a0), .val (.double d1), .second, .val (.int (-3 : Int32)), .val (.int (1 : Int32)), .val (.int (1 : Int32)), .val (.double (FP.ddiv (FP.dsub d1 ev1) (FP.dsub ev2 ev1))), .second] [(.ref w_bids_a0), (.double eb2), (.double (FP.ddiv (FP.dsub d1 ev1) (FP.dsub ev2 ev1))), (.double eb1)])) t
    refine XS.iload X20.here hx rfl (hb hby d5_92) rfl ?_
    exact k
  obtain ⟨c21, r21a, r21b, r21c, r21d, r21e, r21f⟩ := id V_w_bids_a0
  have i21 : ¬ ((1 : Int32) < 0 ∨ c21.slots.size ≤ ((1 : Int32)).toNatClampNeg) := inb_of r21c ⟨by decide, by decide⟩
  have y21 : c21.slots[((1 : Int32)).toNatClampNeg]? = some (.double eb1) := r21e.at i21 rfl
  refine own_st (T' := T20) (g' := (mkF m 98 #[.val (.ref a0), .val (.double d1), .second, .val (.int (-3 : Int32)), .val (.int (1 : Int32)), .val (.int (1 : Int32)), .val (.double (FP.ddiv (FP.dsub d1 ev1) (FP.dsub ev2 ev1))), .second] [(.double (FP.dadd eb1 (FP.dmul (FP.ddiv (FP.dsub d1 ev1) (FP.dsub ev2 ev1)) (FP.dsub eb2 eb1))))])) (fun t k => ?_) ?_
  · show Steps p.tables e below (T20.setTop (mkF m 94 #[.val (.ref a0), .val (.double d1), .second, .val (.int (-3 : Int32)), .val (.int (1 : Int32)), .val (.int (1 : Int32)), .val (.double (FP.ddiv (FP.dsub d1 ev1) (FP.dsub ev2 ev1))), .second] [(.int (1 : Int32)), (.ref w_bids_a0), (.double eb2), (.double (FP.ddiv (FP.dsub d1 ev1) (FP.dsub ev2 ev1))), (.double eb1)])) t
    refine X20.daload hx (j := (1 : Int32)) (v := (.double eb1)) (by rw [e20]; exact r21a.1) (State.isArrayOf_alike hZ.alike r21a.2.1) r21a.2.2 i21 y21 (g := (mkF m 94 #[.val (.ref a0), .val (.double d1), .second, .val (.int (-3 : Int32)), .val (.int (1 : Int32)), .val (.int (1 : Int32)), .val (.double (FP.ddiv (FP.dsub d1 ev1) (FP.dsub ev2 ev1))), .second] [(.int (1 : Int32)), (.ref w_bids_a0), (.double eb2), (.double (FP.ddiv (FP.dsub d1 ev1) (FP.dsub ev2 ev1))), (.double eb1)])) rfl rfl (hb hby d5_94) _ ?_
    show Steps p.tables e below (T20.setTop (mkF m 95 #[.val (.ref a0), .val (.double d1), .second, .val (.int (-3 : Int32)), .val (.int (1 : Int32)), .val (.int (1 : Int32)), .val (.double (FP.ddiv (FP.dsub d1 ev1) (FP.dsub ev2 ev1))), .second] [(.double eb1), (.double eb2), (.double (FP.ddiv (FP.dsub d1 ev1) (FP.dsub ev2 ev1))), (.double eb1)])) t
    refine XS.dsubS X20.here hx rfl (hb hby d5_95) rfl hn95 rfl ?_
    show Steps p.tables e below (T20.setTop (mkF m 96 #[.val (.ref a0), .val (.double d1), .second, .val (.int (-3 : Int32)), .val (.int (1 : Int32)), .val (.int (1 : Int32)), .val (.double (FP.ddiv (FP.dsub d1 ev1) (FP.dsub ev2 ev1))), .second] [(.double (FP.dsub eb2 eb1)), (.double (FP.ddiv (FP.dsub d1 ev1) (FP.dsub ev2 ev1))), (.double eb1)])) t
    refine XS.dmulS X20.here hx rfl (hb hby d5_96) rfl hn96 rfl ?_
    show Steps p.tables e below (T20.setTop (mkF m 97 #[.val (.ref a0), .val (.double d1), .second, .val (.int (-3 : Int32)), .val (.int (1 : Int32)), .val (.int (1 : Int32)), .val (.double (FP.ddiv (FP.dsub d1 ev1) (FP.dsub ev2 ev1))), .second] [(.double (FP.dmul (FP.ddiv (FP.dsub d1 ev1) (FP.dsub ev2 ev1)) (FP.dsub eb2 eb1))), (.double eb1)])) t
    refine XS.daddS X20.here hx rfl (hb hby d5_97) rfl hn97 rfl ?_
    exact k
  refine own_retD X20 hx hlk Bd.returns (hb hby d5_98) (by decide) (by decide) ?_
  show Qblg Z a0 d1 w_values_a0 kk_w_values_a0 ev0 ev1 ev2 ev3 w_bids_a0 kk_w_bids_a0 eb0 eb1 eb2 eb3 h0 n0 (some (.double (FP.dadd eb1 (FP.dmul (FP.ddiv (FP.dsub d1 ev1) (FP.dsub ev2 ev1)) (FP.dsub eb2 eb1))))) T20.heap _
  rw [(e20 : T20.heap = h0)]
  exact ⟨rfl, n9, rfl⟩
theorem pnblle : plainName "com/example/corewright/corewright/equilibrium/Strategy" = true := by first | (simp [plainName, overriddenIn]; done) | decide +kernel
theorem pdblle_0 : parseMethodDescriptor "([DD)I" = some ⟨[(.array .double), .double], some .int⟩ := by decide +kernel
theorem pdblle_1 : parseMethodDescriptor "(II)I" = some ⟨[.int, .int], some .int⟩ := by decide +kernel
theorem efblle (m : MethodId) (a0 : Addr) (d1 : UInt64) : entryFrame m #[(.ref a0), (.double d1)] 8 = mkF m 0 #[.val (.ref a0), .val (.double d1), .second, .unset, .unset, .unset, .unset, .unset] [] := by first | (simp [entryFrame, mkF, argsToLocals, Value.category]; done) | rfl
def Qblle (Z : State) (a0 : Addr) (d1 : UInt64) (w_values_a0 : Addr) (kk_w_values_a0 : ClassId) (ev0 : UInt64) (ev1 : UInt64) (ev2 : UInt64) (ev3 : UInt64) (w_bids_a0 : Addr) (kk_w_bids_a0 : ClassId) (eb0 : UInt64) (eb1 : UInt64) (eb2 : UInt64) (eb3 : UInt64) (h0 : Heap) (n0 : Nat) (v : Option Value) (h : Heap) (L : List Loc) : Prop := v = some (.double (FP.dadd eb2 (FP.dmul (FP.ddiv (FP.dsub d1 ev2) (FP.dsub ev3 ev2)) (FP.dsub eb3 eb2)))) ∧ Fr n0 L ∧ h = h0
set_option maxRecDepth 65536 in
set_option maxHeartbeats 40000000 in
theorem rmblle (l : Launch) (Z : State) (ar : Array Value) (hw : ∀ d ∈ tables_1, d.before ar Z = true) (ws : List Jvm.Cond) (a0 : Addr) (d1 : UInt64) (w_values_a0 : Addr) (kk_w_values_a0 : ClassId) (ev0 : UInt64) (ev1 : UInt64) (ev2 : UInt64) (ev3 : UInt64) (w_bids_a0 : Addr) (kk_w_bids_a0 : ClassId) (eb0 : UInt64) (eb1 : UInt64) (eb2 : UInt64) (eb3 : UInt64) (h0 : Heap) (n0 : Nat) (Z0 : n0 ≤ h0.size) (E_a0 : Exa Z h0 a0 "com/example/corewright/corewright/equilibrium/Strategy") (F_values_a0 : Fld Z h0 a0 "com/example/corewright/corewright/equilibrium/Strategy" "values" "[D" (.ref w_values_a0)) (V_w_values_a0 : Arv Z h0 w_values_a0 kk_w_values_a0 .double (4 : Int32) [(.double ev0), (.double ev1), (.double ev2), (.double ev3)] (.double (0 : UInt64))) (F_bids_a0 : Fld Z h0 a0 "com/example/corewright/corewright/equilibrium/Strategy" "bids" "[D" (.ref w_bids_a0)) (V_w_bids_a0 : Arv Z h0 w_bids_a0 kk_w_bids_a0 .double (4 : Int32) [(.double eb0), (.double eb1), (.double eb2), (.double eb3)] (.double (0 : UInt64))) (h5_h5_hb34 : (cmpValue (FP.dcmp ev1 d1) .g) < (0 : Int32)) (h5_h5_hb34_1 : (cmpValue (FP.dcmp ev2 d1) .g) < (0 : Int32)) (h5_h5_hb34_2 : ¬ ((cmpValue (FP.dcmp ev3 d1) .g) < (0 : Int32))) (h5_h5_hb50 : ¬ ((0 : Int32) < (cmpValue (FP.dcmp ev3 d1) .l))) (h5_h5_h64_h1_hq_0 : (cmpValue (FP.dcmp ev3 ev3) .l) = (0 : Int32)) (h5_h5_h70_h1_hq_0 : (cmpValue (FP.dcmp d1 d1) .l) = (0 : Int32)) (h5_h5_hb80 : ev3.toInt64 = d1.toInt64) (hn49 : Jvm.Free.Fl.NoNaN64 (FP.dsub d1 ev2)) (hn66 : Jvm.Free.Fl.NoNaN64 (FP.dsub ev3 ev2)) (hn67 : Jvm.Free.Fl.NoNaN64 (FP.ddiv (FP.dsub d1 ev2) (FP.dsub ev3 ev2))) (hn95 : Jvm.Free.Fl.NoNaN64 (FP.dsub eb3 eb2)) (hn96 : Jvm.Free.Fl.NoNaN64 (FP.dmul (FP.ddiv (FP.dsub d1 ev2) (FP.dsub ev3 ev2)) (FP.dsub eb3 eb2))) (hn97 : Jvm.Free.Fl.NoNaN64 (FP.dadd eb2 (FP.dmul (FP.ddiv (FP.dsub d1 ev2) (FP.dsub ev3 ev2)) (FP.dsub eb3 eb2)))) :
    MetFree l (⟨"com/example/corewright/corewright/equilibrium/Strategy", "bid", "(D)D"⟩ : MethodName) (head1 (Jvm.Cond.code (⟨"com/example/corewright/corewright/equilibrium/Strategy", "bid", "(D)D"⟩ : MethodName) prog_21_method_9_code 8 (some .double) :: ws) ({ frames := 4, cells := 0, slots := 0, locals := 67 } : Room)) (fun a U => a = #[(.ref a0), (.double d1)] ∧ Z.Warmed39 U.vm ∧ U.heap = h0) (fun _ _ _ _ _ => True) (fun _ U o U' => ∃ v L, o = .returned v ∧ Qblle Z a0 d1 w_values_a0 kk_w_values_a0 ev0 ev1 ev2 ev3 w_bids_a0 kk_w_bids_a0 eb0 eb1 eb2 eb3 h0 n0 v U'.heap L ∧ FrameEnd U o U' L ({ frames := 4, cells := 0, slots := 0, locals := 67 } : Room).cells ({ frames := 4, cells := 0, slots := 0, locals := 67 } : Room).slots) := by
  refine MetFree.of_bodySF (plainFor_of_name pnblle) hisR ?_
  intro p e s m args below meth c s₁ Bd hml0 hP hK
  obtain ⟨rfl, hZ, hh⟩ := hP
  have hx := Bd.exec
  have hby := Bd.bytes
  have hlk := Bd.notSynchronized
  have hml : c.maxLocals = 8 := hml0
  have hown : s.vm.findClass "com/example/corewright/corewright/equilibrium/Strategy" = some m.cls := findClass_of_methodNamed Bd.named
  have hnm := (name_of_methodNamed Bd.named Bd.method).1
  have X0 : Stand p l e ({ frames := 4, cells := 0, slots := 0, locals := 67 } : Room) s m #[(.ref a0), (.double d1)] below meth c s₁ [] 0 0 := Stand.of_body Bd
  have e0 : s₁.heap = h0 := by rw [← hh, Bd.state]; rfl
  have N0 := Fr.nil n0
  have K0 := Keep.refl h0 []
  refine own_enter (Q := Qblle Z a0 d1 w_values_a0 kk_w_values_a0 ev0 ev1 ev2 ev3 w_bids_a0 kk_w_bids_a0 eb0 eb1 eb2 eb3 h0 n0) (efblle m a0 d1) ?_
  refine own_st (T' := s₁) (g' := (mkF m 1 #[.val (.ref a0), .val (.double d1), .second, .unset, .unset, .unset, .unset, .unset] [(.ref a0)])) (fun t k => ?_) ?_
  · show Steps p.tables e below (s₁.setTop (mkF m 0 #[.val (.ref a0), .val (.double d1), .second, .unset, .unset, .unset, .unset, .unset] [])) t
    refine XS.aloadN X0.here hx rfl (hb hby d5_0) rfl rfl ?_
    exact k
  obtain ⟨T1, X1, e1, st1⟩ := getF X0 hx hZ hown (host := "") (Or.inl (hw _ (List.mem_of_getElem? (i := 29) rfl))) Via.refl e0 F_values_a0 (g := (mkF m 1 #[.val (.ref a0), .val (.double d1), .second, .unset, .unset, .unset, .unset, .unset] [(.ref a0)])) rfl rfl (hb hby d5_1)
  refine own_st (T' := T1) (g' := (mkF m 4 #[.val (.ref a0), .val (.double d1), .second, .unset, .unset, .unset, .unset, .unset] [(.ref w_values_a0)])) st1 ?_
  refine own_st (T' := T1) (g' := (mkF m 5 #[.val (.ref a0), .val (.double d1), .second, .unset, .unset, .unset, .unset, .unset] [(.double d1), (.ref w_values_a0)])) (fun t k => ?_) ?_
  · show Steps p.tables e below (T1.setTop (mkF m 4 #[.val (.ref a0), .val (.double d1), .second, .unset, .unset, .unset, .unset, .unset] [(.ref w_values_a0)])) t
    refine XS.dloadN X1.here hx rfl (hb hby d5_4) rfl ?_
    exact k
  obtain ⟨_, _, ⟨T2, L2, k2, n2⟩, -, X2, ⟨Lc2, hQ2, l2, y2, z2⟩, st2⟩ := Jvm.LawKit.callS X1 hx (y := (⟨"java/util/Arrays", "binarySearch", "([DD)I"⟩ : MethodName)) hown (mvT hZ (hw _ (List.mem_of_getElem? (i := 38) rfl))) (mvT hZ (hw _ (List.mem_of_getElem? (i := 39) rfl))) (mvT hZ (hw _ (List.mem_of_getElem? (i := 40) rfl))) (mvT hZ (hw _ (List.mem_of_getElem? (i := 41) rfl))) (by decide) (backOf (W := 0) (rmtlle l Z ar hw [] w_values_a0 d1 kk_w_values_a0 ev0 ev1 ev2 ev3 h0 n0 Z0 V_w_values_a0 h5_h5_hb34 h5_h5_hb34_1 h5_h5_hb34_2 h5_h5_hb50 h5_h5_h64_h1_hq_0 h5_h5_h70_h1_hq_0 h5_h5_hb80) hZ (hw _ (List.mem_of_getElem? (i := 41) rfl)) (hw _ (List.mem_of_getElem? (i := 40) rfl)) (by decide) (by decide)) (g := (mkF m 5 #[.val (.ref a0), .val (.double d1), .second, .unset, .unset, .unset, .unset, .unset] [(.double d1), (.ref w_values_a0)])) rfl (by rw [hml]; rfl) (argsL := [(.ref w_values_a0), (.double d1)]) (rest := []) (lenOf pdblle_0 rfl) rfl (by show 2 * 0 + _ ≤ _; exact Nat.le_of_eq rfl) (hb hby d5_5) (fun _ _ => ⟨rfl, e1, (by decide : 0 + 0 ≤ _), (by decide : 0 + 0 ≤ _)⟩)
  dsimp only [Pt.U, Pt.locs, Pt.cells, Pt.slots] at X2 l2 y2 z2 st2 hQ2
  subst l2 y2 z2
  obtain ⟨rfl, N2q, e2⟩ := hQ2
  have n3 := Fr.app N0 N2q
  refine own_st (T' := T2) (g' := (mkF m 8 #[.val (.ref a0), .val (.double d1), .second, .unset, .unset, .unset, .unset, .unset] [(.int (3 : Int32))])) st2 ?_
  refine own_st (T' := T2) (g' := (mkF m 26 #[.val (.ref a0), .val (.double d1), .second, .val (.int (3 : Int32)), .val (.int (3 : Int32)), .unset, .unset, .unset] [(.int (0 : Int32)), (.int (3 : Int32))])) (fun t k => ?_) ?_
  · show Steps p.tables e below (T2.setTop (mkF m 8 #[.val (.ref a0), .val (.double d1), .second, .unset, .unset, .unset, .unset, .unset] [(.int (3 : Int32))])) t
    refine XS.istoreN X2.here hx rfl (hb hby d5_8) rfl (l' := #[.val (.ref a0), .val (.double d1), .second, .val (.int (3 : Int32)), .unset, .unset, .unset, .unset]) rfl ?_
    show Steps p.tables e below (T2.setTop (mkF m 9 #[.val (.ref a0), .val (.double d1), .second, .val (.int (3 : Int32)), .unset, .unset, .unset, .unset] [])) t
    refine XS.iloadN X2.here hx rfl (hb hby d5_9) rfl ?_
    show Steps p.tables e below (T2.setTop (mkF m 10 #[.val (.ref a0), .val (.double d1), .second, .val (.int (3 : Int32)), .unset, .unset, .unset, .unset] [(.int (3 : Int32))])) t
    refine XS.ifNo X2.here hx rfl (hb hby d5_10) rfl (by decide) ?_
    show Steps p.tables e below (T2.setTop (mkF m 13 #[.val (.ref a0), .val (.double d1), .second, .val (.int (3 : Int32)), .unset, .unset, .unset, .unset] [])) t
    refine XS.iloadN X2.here hx rfl (hb hby d5_13) rfl ?_
    show Steps p.tables e below (T2.setTop (mkF m 14 #[.val (.ref a0), .val (.double d1), .second, .val (.int (3 : Int32)), .unset, .unset, .unset, .unset] [(.int (3 : Int32))])) t
    refine XS.goto X2.here hx rfl (pc0 := 14) (pc' := 21) rfl (hb hby d5_14) (by decide) (by decide) ?_
    show Steps p.tables e below (T2.setTop (mkF m 21 #[.val (.ref a0), .val (.double d1), .second, .val (.int (3 : Int32)), .unset, .unset, .unset, .unset] [(.int (3 : Int32))])) t
    refine XS.istore X2.here hx rfl (hb hby d5_21) rfl (l' := #[.val (.ref a0), .val (.double d1), .second, .val (.int (3 : Int32)), .val (.int (3 : Int32)), .unset, .unset, .unset]) rfl ?_
    show Steps p.tables e below (T2.setTop (mkF m 23 #[.val (.ref a0), .val (.double d1), .second, .val (.int (3 : Int32)), .val (.int (3 : Int32)), .unset, .unset, .unset] [])) t
    refine XS.iload X2.here hx rfl (hb hby d5_23) rfl ?_
    show Steps p.tables e below (T2.setTop (mkF m 25 #[.val (.ref a0), .val (.double d1), .second, .val (.int (3 : Int32)), .val (.int (3 : Int32)), .unset, .unset, .unset] [(.int (3 : Int32))])) t
    refine XS.iconst X2.here hx rfl (hb hby d5_25) ?_
    exact k
  obtain ⟨_, _, ⟨T4, L4, k4, n4⟩, -, X4, ⟨Lc4, hQ4, l4, y4, z4⟩, st4⟩ := Jvm.LawKit.callS X2 hx (y := (⟨"java/lang/Math", "max", "(II)I"⟩ : MethodName)) hown (mvT hZ (hw _ (List.mem_of_getElem? (i := 54) rfl))) (mvT hZ (hw _ (List.mem_of_getElem? (i := 55) rfl))) (mvT hZ (hw _ (List.mem_of_getElem? (i := 17) rfl))) (mvT hZ (hw _ (List.mem_of_getElem? (i := 56) rfl))) (by decide) (backOf (W := 0) (rmmx0 l Z ar hw [] ((3 : Int32)) ((0 : Int32)) h0 n0 Z0 (by decide)) hZ (hw _ (List.mem_of_getElem? (i := 56) rfl)) (hw _ (List.mem_of_getElem? (i := 17) rfl)) (by decide) (by decide)) (g := (mkF m 26 #[.val (.ref a0), .val (.double d1), .second, .val (.int (3 : Int32)), .val (.int (3 : Int32)), .unset, .unset, .unset] [(.int (0 : Int32)), (.int (3 : Int32))])) rfl (by rw [hml]; rfl) (argsL := [(.int (3 : Int32)), (.int (0 : Int32))]) (rest := []) (lenOf pdblle_1 rfl) rfl (by show 2 * 0 + _ ≤ _; exact Nat.le_of_eq rfl) (hb hby d5_26) (fun _ _ => ⟨rfl, e2, (by decide : 0 + 0 ≤ _), (by decide : 0 + 0 ≤ _)⟩)
  dsimp only [Pt.U, Pt.locs, Pt.cells, Pt.slots] at X4 l4 y4 z4 st4 hQ4
  subst l4 y4 z4
  obtain ⟨rfl, N4q, e4⟩ := hQ4
  have n5 := Fr.app n3 N4q
  refine own_st (T' := T4) (g' := (mkF m 29 #[.val (.ref a0), .val (.double d1), .second, .val (.int (3 : Int32)), .val (.int (3 : Int32)), .unset, .unset, .unset] [(.int (3 : Int32))])) st4 ?_
  refine own_st (T' := T4) (g' := (mkF m 30 #[.val (.ref a0), .val (.double d1), .second, .val (.int (3 : Int32)), .val (.int (3 : Int32)), .unset, .unset, .unset] [(.ref a0), (.int (3 : Int32))])) (fun t k => ?_) ?_
  · show Steps p.tables e below (T4.setTop (mkF m 29 #[.val (.ref a0), .val (.double d1), .second, .val (.int (3 : Int32)), .val (.int (3 : Int32)), .unset, .unset, .unset] [(.int (3 : Int32))])) t
    refine XS.aloadN X4.here hx rfl (hb hby d5_29) rfl rfl ?_
    exact k
  obtain ⟨T6, X6, e6, st6⟩ := getF X4 hx hZ hown (host := "") (Or.inl (hw _ (List.mem_of_getElem? (i := 29) rfl))) Via.refl e4 F_values_a0 (g := (mkF m 30 #[.val (.ref a0), .val (.double d1), .second, .val (.int (3 : Int32)), .val (.int (3 : Int32)), .unset, .unset, .unset] [(.ref a0), (.int (3 : Int32))])) rfl rfl (hb hby d5_30)
  refine own_st (T' := T6) (g' := (mkF m 33 #[.val (.ref a0), .val (.double d1), .second, .val (.int (3 : Int32)), .val (.int (3 : Int32)), .unset, .unset, .unset] [(.ref w_values_a0), (.int (3 : Int32))])) st6 ?_
  obtain ⟨c7, r7a, -, r7c, r7d, -, -⟩ := id V_w_values_a0
  refine own_st (T' := T6) (g' := (mkF m 36 #[.val (.ref a0), .val (.double d1), .second, .val (.int (3 : Int32)), .val (.int (3 : Int32)), .unset, .unset, .unset] [(.int (2 : Int32)), (.int (3 : Int32))])) (fun t k => ?_) ?_
  · show Steps p.tables e below (T6.setTop (mkF m 33 #[.val (.ref a0), .val (.double d1), .second, .val (.int (3 : Int32)), .val (.int (3 : Int32)), .unset, .unset, .unset] [(.ref w_values_a0), (.int (3 : Int32))])) t
    refine X6.arraylength hx (by rw [e6]; exact r7a.1) (State.isArrayOf_alike hZ.alike r7a.2.1) (g := (mkF m 33 #[.val (.ref a0), .val (.double d1), .second, .val (.int (3 : Int32)), .val (.int (3 : Int32)), .unset, .unset, .unset] [(.ref w_values_a0), (.int (3 : Int32))])) rfl rfl (hb hby d5_33) _ ?_
    rw [len_of r7c r7d]
    show Steps p.tables e below (T6.setTop (mkF m 34 #[.val (.ref a0), .val (.double d1), .second, .val (.int (3 : Int32)), .val (.int (3 : Int32)), .unset, .unset, .unset] [(.int (4 : Int32)), (.int (3 : Int32))])) t
    refine XS.iconst X6.here hx rfl (hb hby d5_34) ?_
    show Steps p.tables e below (T6.setTop (mkF m 35 #[.val (.ref a0), .val (.double d1), .second, .val (.int (3 : Int32)), .val (.int (3 : Int32)), .unset, .unset, .unset] [(.int (2 : Int32)), (.int (4 : Int32)), (.int (3 : Int32))])) t
    refine XS.isub X6.here hx rfl (hb hby d5_35) rfl ?_
    exact k
  obtain ⟨_, _, ⟨T8, L8, k8, n8⟩, -, X8, ⟨Lc8, hQ8, l8, y8, z8⟩, st8⟩ := Jvm.LawKit.callS X6 hx (y := (⟨"java/lang/Math", "min", "(II)I"⟩ : MethodName)) hown (mvT hZ (hw _ (List.mem_of_getElem? (i := 57) rfl))) (mvT hZ (hw _ (List.mem_of_getElem? (i := 58) rfl))) (mvT hZ (hw _ (List.mem_of_getElem? (i := 17) rfl))) (mvT hZ (hw _ (List.mem_of_getElem? (i := 59) rfl))) (by decide) (backOf (W := 0) (rmmn1 l Z ar hw [] ((3 : Int32)) ((2 : Int32)) h0 n0 Z0 (by decide)) hZ (hw _ (List.mem_of_getElem? (i := 59) rfl)) (hw _ (List.mem_of_getElem? (i := 17) rfl)) (by decide) (by decide)) (g := (mkF m 36 #[.val (.ref a0), .val (.double d1), .second, .val (.int (3 : Int32)), .val (.int (3 : Int32)), .unset, .unset, .unset] [(.int (2 : Int32)), (.int (3 : Int32))])) rfl (by rw [hml]; rfl) (argsL := [(.int (3 : Int32)), (.int (2 : Int32))]) (rest := []) (lenOf pdblle_1 rfl) rfl (by show 2 * 0 + _ ≤ _; exact Nat.le_of_eq rfl) (hb hby d5_36) (fun _ _ => ⟨rfl, e6, (by decide : 0 + 0 ≤ _), (by decide : 0 + 0 ≤ _)⟩)
  dsimp only [Pt.U, Pt.locs, Pt.cells, Pt.slots] at X8 l8 y8 z8 st8 hQ8
  subst l8 y8 z8
  obtain ⟨rfl, N8q, e8⟩ := hQ8
  have n9 := Fr.app n5 N8q
  refine own_st (T' := T8) (g' := (mkF m 39 #[.val (.ref a0), .val (.double d1), .second, .val (.int (3 : Int32)), .val (.int (3 : Int32)), .unset, .unset, .unset] [(.int (2 : Int32))])) st8 ?_
  refine own_st (T' := T8) (g' := (mkF m 43 #[.val (.ref a0), .val (.double d1), .second, .val (.int (3 : Int32)), .val (.int (3 : Int32)), .val (.int (2 : Int32)), .unset, .unset] [(.ref a0), (.double d1)])) (fun t k => ?_) ?_
  · show Steps p.tables e below (T8.setTop (mkF m 39 #[.val (.ref a0), .val (.double d1), .second, .val (.int (3 : Int32)), .val (.int (3 : Int32)), .unset, .unset, .unset] [(.int (2 : Int32))])) t
    refine XS.istore X8.here hx rfl (hb hby d5_39) rfl (l' := #[.val (.ref a0), .val (.double d1), .second, .val (.int (3 : Int32)), .val (.int (3 : Int32)), .val (.int (2 : Int32)), .unset, .unset]) rfl ?_
    show Steps p.tables e below (T8.setTop (mkF m 41 #[.val (.ref a0), .val (.double d1), .second, .val (.int (3 : Int32)), .val (.int (3 : Int32)), .val (.int (2 : Int32)), .unset, .unset] [])) t
    refine XS.dloadN X8.here hx rfl (hb hby d5_41) rfl ?_
    show Steps p.tables e below (T8.setTop (mkF m 42 #[.val (.ref a0), .val (.double d1), .second, .val (.int (3 : Int32)), .val (.int (3 : Int32)), .val (.int (2 : Int32)), .unset, .unset] [(.double d1)])) t
    refine XS.aloadN X8.here hx rfl (hb hby d5_42) rfl rfl ?_
    exact k
  obtain ⟨T10, X10, e10, st10⟩ := getF X8 hx hZ hown (host := "") (Or.inl (hw _ (List.mem_of_getElem? (i := 29) rfl))) Via.refl e8 F_values_a0 (g := (mkF m 43 #[.val (.ref a0), .val (.double d1), .second, .val (.int (3 : Int32)), .val (.int (3 : Int32)), .val (.int (2 : Int32)), .unset, .unset] [(.ref a0), (.double d1)])) rfl rfl (hb hby d5_43)
  refine own_st (T' := T10) (g' := (mkF m 46 #[.val (.ref a0), .val (.double d1), .second, .val (.int (3 : Int32)), .val (.int (3 : Int32)), .val (.int (2 : Int32)), .unset, .unset] [(.ref w_values_a0), (.double d1)])) st10 ?_
  refine own_st (T' := T10) (g' := (mkF m 48 #[.val (.ref a0), .val (.double d1), .second, .val (.int (3 : Int32)), .val (.int (3 : Int32)), .val (.int (2 : Int32)), .unset, .unset] [(.int (2 : Int32)), (.ref w_values_a0), (.double d1)])) (fun t k => ?_) ?_
  · show Steps p.tables e below (T10.setTop (mkF m 46 #[.val (.ref a0), .val (.double d1), .second, .val (.int (3 : Int32)), .val (.int (3 : Int32)), .val (.int (2 : Int32)), .unset, .unset] [(.ref w_values_a0), (.double d1)])) t
    refine XS.iload X10.here hx rfl (hb hby d5_46) rfl ?_
    exact k
  obtain ⟨c11, r11a, r11b, r11c, r11d, r11e, r11f⟩ := id V_w_values_a0
  have i11 : ¬ ((2 : Int32) < 0 ∨ c11.slots.size ≤ ((2 : Int32)).toNatClampNeg) := inb_of r11c ⟨by decide, by decide⟩
  have y11 : c11.slots[((2 : Int32)).toNatClampNeg]? = some (.double ev2) := r11e.at i11 rfl
  refine own_st (T' := T10) (g' := (mkF m 51 #[.val (.ref a0), .val (.double d1), .second, .val (.int (3 : Int32)), .val (.int (3 : Int32)), .val (.int (2 : Int32)), .unset, .unset] [(.ref a0), (.double (FP.dsub d1 ev2))])) (fun t k => ?_) ?_
  · show Steps p.tables e below (T10.setTop (mkF m 48 #[.val (.ref a0), .val (.double d1), .second, .val (.int (3 : Int32)), .val (.int (3 : Int32)), .val (.int (2 : Int32)), .unset, .unset] [(.int (2 : Int32)), (.ref w_values_a0), (.double d1)])) t
    refine X10.daload hx (j := (2 : Int32)) (v := (.double ev2)) (by rw [e10]; exact r11a.1) (State.isArrayOf_alike hZ.alike r11a.2.1) r11a.2.2 i11 y11 (g := (mkF m 48 #[.val (.ref a0), .val (.double d1), .second, .val (.int (3 : Int32)), .val (.int (3 : Int32)), .val (.int (2 : Int32)), .unset, .unset] [(.int (2 : Int32)), (.ref w_values_a0), (.double d1)])) rfl rfl (hb hby d5_48) _ ?_
    show Steps p.tables e below (T10.setTop (mkF m 49 #[.val (.ref a0), .val (.double d1), .second, .val (.int (3 : Int32)), .val (.int (3 : Int32)), .val (.int (2 : Int32)), .unset, .unset] [(.double ev2), (.double d1)])) t
    refine XS.dsubS X10.here hx rfl (hb hby d5_49) rfl hn49 rfl ?_
    show Steps p.tables e below (T10.setTop (mkF m 50 #[.val (.ref a0), .val (.double d1), .second, .val (.int (3 : Int32)), .val (.int (3 : Int32)), .val (.int (2 : Int32)), .unset, .unset] [(.double (FP.dsub d1 ev2))])) t
    refine XS.aloadN X10.here hx rfl (hb hby d5_50) rfl rfl ?_
    exact k
  obtain ⟨T12, X12, e12, st12⟩ := getF X10 hx hZ hown (host := "") (Or.inl (hw _ (List.mem_of_getElem? (i := 29) rfl))) Via.refl e10 F_values_a0 (g := (mkF m 51 #[.val (.ref a0), .val (.double d1), .second, .val (.int (3 : Int32)), .val (.int (3 : Int32)), .val (.int (2 : Int32)), .unset, .unset] [(.ref a0), (.double (FP.dsub d1 ev2))])) rfl rfl (hb hby d5_51)
  refine own_st (T' := T12) (g' := (mkF m 54 #[.val (.ref a0), .val (.double d1), .second, .val (.int (3 : Int32)), .val (.int (3 : Int32)), .val (.int (2 : Int32)), .unset, .unset] [(.ref w_values_a0), (.double (FP.dsub d1 ev2))])) st12 ?_
  refine own_st (T' := T12) (g' := (mkF m 58 #[.val (.ref a0), .val (.double d1), .second, .val (.int (3 : Int32)), .val (.int (3 : Int32)), .val (.int (2 : Int32)), .unset, .unset] [(.int (3 : Int32)), (.ref w_values_a0), (.double (FP.dsub d1 ev2))])) (fun t k => ?_) ?_
  · show Steps p.tables e below (T12.setTop (mkF m 54 #[.val (.ref a0), .val (.double d1), .second, .val (.int (3 : Int32)), .val (.int (3 : Int32)), .val (.int (2 : Int32)), .unset, .unset] [(.ref w_values_a0), (.double (FP.dsub d1 ev2))])) t
    refine XS.iload X12.here hx rfl (hb hby d5_54) rfl ?_
    show Steps p.tables e below (T12.setTop (mkF m 56 #[.val (.ref a0), .val (.double d1), .second, .val (.int (3 : Int32)), .val (.int (3 : Int32)), .val (.int (2 : Int32)), .unset, .unset] [(.int (2 : Int32)), (.ref w_values_a0), (.double (FP.dsub d1 ev2))])) t
    refine XS.iconst X12.here hx rfl (hb hby d5_56) ?_
    show Steps p.tables e below (T12.setTop (mkF m 57 #[.val (.ref a0), .val (.double d1), .second, .val (.int (3 : Int32)), .val (.int (3 : Int32)), .val (.int (2 : Int32)), .unset, .unset] [(.int (1 : Int32)), (.int (2 : Int32)), (.ref w_values_a0), (.double (FP.dsub d1 ev2))])) t
    refine XS.iadd X12.here hx rfl (hb hby d5_57) rfl ?_
    exact k
  obtain ⟨c13, r13a, r13b, r13c, r13d, r13e, r13f⟩ := id V_w_values_a0
  have i13 : ¬ ((3 : Int32) < 0 ∨ c13.slots.size ≤ ((3 : Int32)).toNatClampNeg) := inb_of r13c ⟨by decide, by decide⟩
  have y13 : c13.slots[((3 : Int32)).toNatClampNeg]? = some (.double ev3) := r13e.at i13 rfl
  refine own_st (T' := T12) (g' := (mkF m 60 #[.val (.ref a0), .val (.double d1), .second, .val (.int (3 : Int32)), .val (.int (3 : Int32)), .val (.int (2 : Int32)), .unset, .unset] [(.ref a0), (.double ev3), (.double (FP.dsub d1 ev2))])) (fun t k => ?_) ?_
  · show Steps p.tables e below (T12.setTop (mkF m 58 #[.val (.ref a0), .val (.double d1), .second, .val (.int (3 : Int32)), .val (.int (3 : Int32)), .val (.int (2 : Int32)), .unset, .unset] [(.int (3 : Int32)), (.ref w_values_a0), (.double (FP.dsub d1 ev2))])) t
    refine X12.daload hx (j := (3 : Int32)) (v := (.double ev3)) (by rw [e12]; exact r13a.1) (State.isArrayOf_alike hZ.alike r13a.2.1) r13a.2.2 i13 y13 (g := (mkF m 58 #[.val (.ref a0), .val (.double d1), .second, .val (.int (3 : Int32)), .val (.int (3 : Int32)), .val (.int (2 : Int32)), .unset, .unset] [(.int (3 : Int32)), (.ref w_values_a0), (.double (FP.dsub d1 ev2))])) rfl rfl (hb hby d5_58) _ ?_
    show Steps p.tables e below (T12.setTop (mkF m 59 #[.val (.ref a0), .val (.double d1), .second, .val (.int (3 : Int32)), .val (.int (3 : Int32)), .val (.int (2 : Int32)), .unset, .unset] [(.double ev3), (.double (FP.dsub d1 ev2))])) t
    refine XS.aloadN X12.here hx rfl (hb hby d5_59) rfl rfl ?_
    exact k
  obtain ⟨T14, X14, e14, st14⟩ := getF X12 hx hZ hown (host := "") (Or.inl (hw _ (List.mem_of_getElem? (i := 29) rfl))) Via.refl e12 F_values_a0 (g := (mkF m 60 #[.val (.ref a0), .val (.double d1), .second, .val (.int (3 : Int32)), .val (.int (3 : Int32)), .val (.int (2 : Int32)), .unset, .unset] [(.ref a0), (.double ev3), (.double (FP.dsub d1 ev2))])) rfl rfl (hb hby d5_60)
  refine own_st (T' := T14) (g' := (mkF m 63 #[.val (.ref a0), .val (.double d1), .second, .val (.int (3 : Int32)), .val (.int (3 : Int32)), .val (.int (2 : Int32)), .unset, .unset] [(.ref w_values_a0), (.double ev3), (.double (FP.dsub d1 ev2))])) st14 ?_
  refine own_st (T' := T14) (g' := (mkF m 65 #[.val (.ref a0), .val (.double d1), .second, .val (.int (3 : Int32)), .val (.int (3 : Int32)), .val (.int (2 : Int32)), .unset, .unset] [(.int (2 : Int32)), (.ref w_values_a0), (.double ev3), (.double (FP.dsub d1 ev2))])) (fun t k => ?_) ?_
  · show Steps p.tables e below (T14.setTop (mkF m 63 #[.val (.ref a0), .val (.double d1), .second, .val (.int (3 : Int32)), .val (.int (3 : Int32)), .val (.int (2 : Int32)), .unset, .unset] [(.ref w_values_a0), (.double ev3), (.double (FP.dsub d1 ev2))])) t
    refine XS.iload X14.here hx rfl (hb hby d5_63) rfl ?_
    exact k
  obtain ⟨c15, r15a, r15b, r15c, r15d, r15e, r15f⟩ := id V_w_values_a0
  have i15 : ¬ ((2 : Int32) < 0 ∨ c15.slots.size ≤ ((2 : Int32)).toNatClampNeg) := inb_of r15c ⟨by decide, by decide⟩
  have y15 : c15.slots[((2 : Int32)).toNatClampNeg]? = some (.double ev2) := r15e.at i15 rfl
  refine own_st (T' := T14) (g' := (mkF m 71 #[.val (.ref a0), .val (.double d1), .second, .val (.int (3 : Int32)), .val (.int (3 : Int32)), .val (.int (2 : Int32)), .val (.double (FP.ddiv (FP.dsub d1 ev2) (FP.dsub ev3 ev2))), .second] [(.ref a0)])) (fun t k => ?_) ?_
  · show Steps p.tables e below (T14.setTop (mkF m 65 #[.val (.ref a0), .val (.double d1), .second, .val (.int (3 : Int32)), .val (.int (3 : Int32)), .val (.int (2 : Int32)), .unset, .unset] [(.int (2 : Int32)), (.ref w_values_a0), (.double ev3), (.double (FP.dsub d1 ev2))])) t
    refine X14.daload hx (j := (2 : Int32)) (v := (.double ev2)) (by rw [e14]; exact r15a.1) (State.isArrayOf_alike hZ.alike r15a.2.1) r15a.2.2 i15 y15 (g := (mkF m 65 #[.val (.ref a0), .val (.double d1), .second, .val (.int (3 : Int32)), .val (.int (3 : Int32)), .val (.int (2 : Int32)), .unset, .unset] [(.int (2 : Int32)), (.ref w_values_a0), (.double ev3), (.double (FP.dsub d1 ev2))])) rfl rfl (hb hby d5_65) _ ?_
    show Steps p.tables e below (T14.setTop (mkF m 66 #[.val (.ref a0), .val (.double d1), .second, .val (.int (3 : Int32)), .val (.int (3 : Int32)), .val (.int (2 : Int32)), .unset, .unset] [(.double ev2), (.double ev3), (.double (FP.dsub d1 ev2))])) t
    refine XS.dsubS X14.here hx rfl (hb hby d5_66) rfl hn66 rfl ?_
    show Steps p.tables e below (T14.setTop (mkF m 67 #[.val (.ref a0), .val (.double d1), .second, .val (.int (3 : Int32)), .val (.int (3 : Int32)), .val (.int (2 : Int32)), .unset, .unset] [(.double (FP.dsub ev3 ev2)), (.double (FP.dsub d1 ev2))])) t
    refine XS.ddivS X14.here hx rfl (hb hby d5_67) rfl hn67 rfl ?_
    show Steps p.tables e below (T14.setTop (mkF m 68 #[.val (.ref a0), .val (.double d1), .second, .val (.int (3 : Int32)), .val (.int (3 : Int32)), .val (.int (2 : Int32)), .unset, .unset] [(.double (FP.ddiv (FP.dsub d1 ev2) (FP.dsub ev3 ev2)))])) t
    refine XS.dstore X14.here hx rfl (hb hby d5_68) rfl (l' := #[.val (.ref a0), .val (.double d1), .second, .val (.int (3 : Int32)), .val (.int (3 : Int32)), .val (.int (2 : Int32)), .val (.double (FP.ddiv (FP.dsub d1 ev2) (FP.dsub ev3 ev2))), .second]) rfl ?_
    show Steps p.tables e below (T14.setTop (mkF m 70 #[.val (.ref a0), .val (.double d1), .second, .val (.int (3 : Int32)), .val (.int (3 : Int32)), .val (.int (2 : Int32)), .val (.double (FP.ddiv (FP.dsub d1 ev2) (FP.dsub ev3 ev2))), .second] [])) t
    refine XS.aloadN X14.here hx rfl (hb hby d5_70) rfl rfl ?_
    exact k
  obtain ⟨T16, X16, e16, st16⟩ := getF X14 hx hZ hown (host := "") (Or.inl (hw _ (List.mem_of_getElem? (i := 31) rfl))) Via.refl e14 F_bids_a0 (g := (mkF m 71 #[.val (.ref a0), .val (.double d1), .second, .val (.int (3 : Int32)), .val (.int (3 : Int32)), .val (.int (2 : Int32)), .val (.double (FP.ddiv (FP.dsub d1 ev2) (FP.dsub ev3 ev2))), .second] [(.ref a0)])) rfl rfl (hb hby d5_71)
  refine own_st (T' := T16) (g' := (mkF m 74 #[.val (.ref a0), .val (.double d1), .second, .val (.int (3 : Int32)), .val (.int (3 : Int32)), .val (.int (2 : Int32)), .val (.double (FP.ddiv (FP.dsub d1 ev2) (FP.dsub ev3 ev2))), .second] [(.ref w_bids_a0)])) st16 ?_
  refine own_st (T' := T16) (g' := (mkF m 76 #[.val (.ref a0), .val (.double d1), .second, .val (.int (3 : Int32)), .val (.int (3 : Int32)), .val (.int (2 : Int32)), .val (.double (FP.ddiv (FP.dsub d1 ev2) (FP.dsub ev3 ev2))), .second] [(.int (2 : Int32)), (.ref w_bids_a0)])) (fun t k => ?_) ?_
  · show Steps p.tables e below (T16.setTop (mkF m 74 #[.val (.ref a0), .val (.double d1), .second, .val (.int (3 : Int32)), .val (.int (3 : Int32)), .val (.int (2 : Int32)), .val (.double (FP.ddiv (FP.dsub d1 ev2) (FP.dsub ev3 ev2))), .second] [(.ref w_bids_a0)])) t
    refine XS.iload X16.here hx rfl (hb hby d5_74) rfl ?_
    exact k
  obtain ⟨c17, r17a, r17b, r17c, r17d, r17e, r17f⟩ := id V_w_bids_a0
  have i17 : ¬ ((2 : Int32) < 0 ∨ c17.slots.size ≤ ((2 : Int32)).toNatClampNeg) := inb_of r17c ⟨by decide, by decide⟩
  have y17 : c17.slots[((2 : Int32)).toNatClampNeg]? = some (.double eb2) := r17e.at i17 rfl
  refine own_st (T' := T16) (g' := (mkF m 80 #[.val (.ref a0), .val (.double d1), .second, .val (.int (3 : Int32)), .val (.int (3 : Int32)), .val (.int (2 : Int32)), .val (.double (FP.ddiv (FP.dsub d1 ev2) (FP.dsub ev3 ev2))), .second] [(.ref a0), (.double (FP.ddiv (FP.dsub d1 ev2) (FP.dsub ev3 ev2))), (.double eb2)])) (fun t k => ?_) ?_
  · show Steps p.tables e below (T16.setTop (mkF m 76 #[.val (.ref a0), .val (.double d1), .second, .val (.int (3 : Int32)), .val (.int (3 : Int32)), .val (.int (2 : Int32)), .val (.double (FP.ddiv (FP.dsub d1 ev2) (FP.dsub ev3 ev2))), .second] [(.int (2 : Int32)), (.ref w_bids_a0)])) t
    refine X16.daload hx (j := (2 : Int32)) (v := (.double eb2)) (by rw [e16]; exact r17a.1) (State.isArrayOf_alike hZ.alike r17a.2.1) r17a.2.2 i17 y17 (g := (mkF m 76 #[.val (.ref a0), .val (.double d1), .second, .val (.int (3 : Int32)), .val (.int (3 : Int32)), .val (.int (2 : Int32)), .val (.double (FP.ddiv (FP.dsub d1 ev2) (FP.dsub ev3 ev2))), .second] [(.int (2 : Int32)), (.ref w_bids_a0)])) rfl rfl (hb hby d5_76) _ ?_
    show Steps p.tables e below (T16.setTop (mkF m 77 #[.val (.ref a0), .val (.double d1), .second, .val (.int (3 : Int32)), .val (.int (3 : Int32)), .val (.int (2 : Int32)), .val (.double (FP.ddiv (FP.dsub d1 ev2) (FP.dsub ev3 ev2))), .second] [(.double eb2)])) t
    refine XS.dload X16.here hx rfl (hb hby d5_77) rfl ?_
    show Steps p.tables e below (T16.setTop (mkF m 79 #[.val (.ref a0), .val (.double d1), .second, .val (.int (3 : Int32)), .val (.int (3 : Int32)), .val (.int (2 : Int32)), .val (.double (FP.ddiv (FP.dsub d1 ev2) (FP.dsub ev3 ev2))), .second] [(.double (FP.ddiv (FP.dsub d1 ev2) (FP.dsub ev3 ev2))), (.double eb2)])) t
    refine XS.aloadN X16.here hx rfl (hb hby d5_79) rfl rfl ?_
    exact k
  obtain ⟨T18, X18, e18, st18⟩ := getF X16 hx hZ hown (host := "") (Or.inl (hw _ (List.mem_of_getElem? (i := 31) rfl))) Via.refl e16 F_bids_a0 (g := (mkF m 80 #[.val (.ref a0), .val (.double d1), .second, .val (.int (3 : Int32)), .val (.int (3 : Int32)), .val (.int (2 : Int32)), .val (.double (FP.ddiv (FP.dsub d1 ev2) (FP.dsub ev3 ev2))), .second] [(.ref a0), (.double (FP.ddiv (FP.dsub d1 ev2) (FP.dsub ev3 ev2))), (.double eb2)])) rfl rfl (hb hby d5_80)
  refine own_st (T' := T18) (g' := (mkF m 83 #[.val (.ref a0), .val (.double d1), .second, .val (.int (3 : Int32)), .val (.int (3 : Int32)), .val (.int (2 : Int32)), .val (.double (FP.ddiv (FP.dsub d1 ev2) (FP.dsub ev3 ev2))), .second] [(.ref w_bids_a0), (.double (FP.ddiv (FP.dsub d1 ev2) (FP.dsub ev3 ev2))), (.double eb2)])) st18 ?_
  refine own_st (T' := T18) (g' := (mkF m 87 #[.val (.ref a0), .val (.double d1), .second, .val (.int (3 : Int32)), .val (.int (3 : Int32)), .val (.int (2 : Int32)), .val (.double (FP.ddiv (FP.dsub d1 ev2) (FP.dsub ev3 ev2))), .second] [(.int (3 : Int32)), (.ref w_bids_a0), (.double (FP.ddiv (FP.dsub d1 ev2) (FP.dsub ev3 ev2))), (.double eb2)])) (fun t k => ?_) ?_
  · show Steps p.tables e below (T18.setTop (mkF m 83 #[.val (.ref a0), .val (.double d1), .second, .val (.int (3 : Int32)), .val (.int (3 : Int32)), .val (.int (2 : Int32)), .val (.double (FP.ddiv (FP.dsub d1 ev2) (FP.dsub ev3 ev2))), .second] [(.ref w_bids_a0), (.double (FP.ddiv (FP.dsub d1 ev2) (FP.dsub ev3 ev2))), (.double eb2)])) t
    refine XS.iload X18.here hx rfl (hb hby d5_83) rfl ?_
    show Steps p.tables e below (T18.setTop (mkF m 85 #[.val (.ref a0), .val (.double d1), .second, .val (.int (3 : Int32)), .val (.int (3 : Int32)), .val (.int (2 : Int32)), .val (.double (FP.ddiv (FP.dsub d1 ev2) (FP.dsub ev3 ev2))), .second] [(.int (2 : Int32)), (.ref w_bids_a0), (.double (FP.ddiv (FP.dsub d1 ev2) (FP.dsub ev3 ev2))), (.double eb2)])) t
    refine XS.iconst X18.here hx rfl (hb hby d5_85) ?_
    show Steps p.tables e below (T18.setTop (mkF m 86 #[.val (.ref a0), .val (.double d1), .second, .val (.int (3 : Int32)), .val (.int (3 : Int32)), .val (.int (2 : Int32)), .val (.double (FP.ddiv (FP.dsub d1 ev2) (FP.dsub ev3 ev2))), .second] [(.int (1 : Int32)), (.int (2 : Int32)), (.ref w_bids_a0), (.double (FP.ddiv (FP.dsub d1 ev2) (FP.dsub ev3 ev2))), (.double eb2)])) t
    refine XS.iadd X18.here hx rfl (hb hby d5_86) rfl ?_
    exact k
  obtain ⟨c19, r19a, r19b, r19c, r19d, r19e, r19f⟩ := id V_w_bids_a0
  have i19 : ¬ ((3 : Int32) < 0 ∨ c19.slots.size ≤ ((3 : Int32)).toNatClampNeg) := inb_of r19c ⟨by decide, by decide⟩
  have y19 : c19.slots[((3 : Int32)).toNatClampNeg]? = some (.double eb3) := r19e.at i19 rfl
  refine own_st (T' := T18) (g' := (mkF m 89 #[.val (.ref a0), .val (.double d1), .second, .val (.int (3 : Int32)), .val (.int (3 : Int32)), .val (.int (2 : Int32)), .val (.double (FP.ddiv (FP.dsub d1 ev2) (FP.dsub ev3 ev2))), .second] [(.ref a0), (.double eb3), (.double (FP.ddiv (FP.dsub d1 ev2) (FP.dsub ev3 ev2))), (.double eb2)])) (fun t k => ?_) ?_
  · show Steps p.tables e below (T18.setTop (mkF m 87 #[.val (.ref a0), .val (.double d1), .second, .val (.int (3 : Int32)), .val (.int (3 : Int32)), .val (.int (2 : Int32)), .val (.double (FP.ddiv (FP.dsub d1 ev2) (FP.dsub ev3 ev2))), .second] [(.int (3 : Int32)), (.ref w_bids_a0), (.double (FP.ddiv (FP.dsub d1 ev2) (FP.dsub ev3 ev2))), (.double eb2)])) t
    refine X18.daload hx (j := (3 : Int32)) (v := (.double eb3)) (by rw [e18]; exact r19a.1) (State.isArrayOf_alike hZ.alike r19a.2.1) r19a.2.2 i19 y19 (g := (mkF m 87 #[.val (.ref a0), .val (.double d1), .second, .val (.int (3 : Int32)), .val (.int (3 : Int32)), .val (.int (2 : Int32)), .val (.double (FP.ddiv (FP.dsub d1 ev2) (FP.dsub ev3 ev2))), .second] [(.int (3 : Int32)), (.ref w_bids_a0), (.double (FP.ddiv (FP.dsub d1 ev2) (FP.dsub ev3 ev2))), (.double eb2)])) rfl rfl (hb hby d5_87) _ ?_
    show Steps p.tables e below (T18.setTop (mkF m 88 #[.val (.ref a0), .val (.double d1), .second, .val (.int (3 : Int32)), .val (.int (3 : Int32)), .val (.int (2 : Int32)), .val (.double (FP.ddiv (FP.dsub d1 ev2) (FP.dsub ev3 ev2))), .second] [(.double eb3), (.double (FP.ddiv (FP.dsub d1 ev2) (FP.dsub ev3 ev2))), (.double eb2)])) t
    refine XS.aloadN X18.here hx rfl (hb hby d5_88) rfl rfl ?_
    exact k
  obtain ⟨T20, X20, e20, st20⟩ := getF X18 hx hZ hown (host := "") (Or.inl (hw _ (List.mem_of_getElem? (i := 31) rfl))) Via.refl e18 F_bids_a0 (g := (mkF m 89 #[.val (.ref a0), .val (.double d1), .second, .val (.int (3 : Int32)), .val (.int (3 : Int32)), .val (.int (2 : Int32)), .val (.double (FP.ddiv (FP.dsub d1 ev2) (FP.dsub ev3 ev2))), .second] [(.ref a0), (.double eb3), (.double (FP.ddiv (FP.dsub d1 ev2) (FP.dsub ev3 ev2))), (.double eb2)])) rfl rfl (hb hby d5_89)
  refine own_st (T' := T20) (g' := (mkF m 92 #[.val (.ref a0), .val (.double d1), .second, .val (.int (3 : Int32)), .val (.int (3 : Int32)), .val (.int (2 : Int32)), .val (.double (FP.ddiv (FP.dsub d1 ev2) (FP.dsub ev3 ev2))), .second] [(.ref w_bids_a0), (.double eb3), (.double (FP.ddiv (FP.dsub d1 ev2) (FP.dsub ev3 ev2))), (.double eb2)])) st20 ?_
  refine own_st (T' := T20) (g' := (mkF m 94 #[.val (.ref a0), .val (.double d1), .second, .val (.int (3 : Int32)), .val (.int (3 : Int32)), .val (.int (2 : Int32)), .val (.double (FP.ddiv (FP.dsub d1 ev2) (FP.dsub ev3 ev2))), .second] [(.int (2 : Int32)), (.ref w_bids_a0), (.double eb3), (.double (FP.ddiv (FP.dsub d1 ev2) (FP.dsub ev3 ev2))), (.double eb2)])) (fun t k => ?_) ?_
  · show Steps p.tables e below (T20.setTop (mkF m 92 #[.val (.ref a0), .val (.double d1), .second, .val (.int (3 : Int32)), .val (.int (3 : Int32)), .val (.int (2 : Int32)), .val (.double (FP.ddiv (FP.dsub d1 ev2) (FP.dsub ev3 ev2))), .second] [(.ref w_bids_a0), (.double eb3), (.double (FP.ddiv (FP.dsub d1 ev2) (FP.dsub ev3 ev2))), (.double eb2)])) t
    refine XS.iload X20.here hx rfl (hb hby d5_92) rfl ?_
    exact k
  obtain ⟨c21, r21a, r21b, r21c, r21d, r21e, r21f⟩ := id V_w_bids_a0
  have i21 : ¬ ((2 : Int32) < 0 ∨ c21.slots.size ≤ ((2 : Int32)).toNatClampNeg) := inb_of r21c ⟨by decide, by decide⟩
  have y21 : c21.slots[((2 : Int32)).toNatClampNeg]? = some (.double eb2) := r21e.at i21 rfl
  refine own_st (T' := T20) (g' := (mkF m 98 #[.val (.ref a0), .val (.double d1), .second, .val (.int (3 : Int32)), .val (.int (3 : Int32)), .val (.int (2 : Int32)), .val (.double (FP.ddiv (FP.dsub d1 ev2) (FP.dsub ev3 ev2))), .second] [(.double (FP.dadd eb2 (FP.dmul (FP.ddiv (FP.dsub d1 ev2) (FP.dsub ev3 ev2)) (FP.dsub eb3 eb2))))])) (fun t k => ?_) ?_
  · show Steps p.tables e below (T20.setTop (mkF m 94 #[.val (.ref a0), .val (.double d1), .second, .val (.int (3 : Int32)), .val (.int (3 : Int32)), .val (.int (2 : Int32)), .val (.double (FP.ddiv (FP.dsub d1 ev2) (FP.dsub ev3 ev2))), .second] [(.int (2 : Int32)), (.ref w_bids_a0), (.double eb3), (.double (FP.ddiv (FP.dsub d1 ev2) (FP.dsub ev3 ev2))), (.double eb2)])) t
    refine X20.daload hx (j := (2 : Int32)) (v := (.double eb2)) (by rw [e20]; exact r21a.1) (State.isArrayOf_alike hZ.alike r21a.2.1) r21a.2.2 i21 y21 (g := (mkF m 94 #[.val (.ref a0), .val (.double d1), .second, .val (.int (3 : Int32)), .val (.int (3 : Int32)), .val (.int (2 : Int32)), .val (.double (FP.ddiv (FP.dsub d1 ev2) (FP.dsub ev3 ev2))), .second] [(.int (2 : Int32)), (.ref w_bids_a0), (.double eb3), (.double (FP.ddiv (FP.dsub d1 ev2) (FP.dsub ev3 ev2))), (.double eb2)])) rfl rfl (hb hby d5_94) _ ?_
    show Steps p.tables e below (T20.setTop (mkF m 95 #[.val (.ref a0), .val (.double d1), .second, .val (.int (3 : Int32)), .val (.int (3 : Int32)), .val (.int (2 : Int32)), .val (.double (FP.ddiv (FP.dsub d1 ev2) (FP.dsub ev3 ev2))), .second] [(.double eb2), (.double eb3), (.double (FP.ddiv (FP.dsub d1 ev2) (FP.dsub ev3 ev2))), (.double eb2)])) t
    refine XS.dsubS X20.here hx rfl (hb hby d5_95) rfl hn95 rfl ?_
    show Steps p.tables e below (T20.setTop (mkF m 96 #[.val (.ref a0), .val (.double d1), .second, .val (.int (3 : Int32)), .val (.int (3 : Int32)), .val (.int (2 : Int32)), .val (.double (FP.ddiv (FP.dsub d1 ev2) (FP.dsub ev3 ev2))), .second] [(.double (FP.dsub eb3 eb2)), (.double (FP.ddiv (FP.dsub d1 ev2) (FP.dsub ev3 ev2))), (.double eb2)])) t
    refine XS.dmulS X20.here hx rfl (hb hby d5_96) rfl hn96 rfl ?_
    show Steps p.tables e below (T20.setTop (mkF m 97 #[.val (.ref a0), .val (.double d1), .second, .val (.int (3 : Int32)), .val (.int (3 : Int32)), .val (.int (2 : Int32)), .val (.double (FP.ddiv (FP.dsub d1 ev2) (FP.dsub ev3 ev2))), .second] [(.double (FP.dmul (FP.ddiv (FP.dsub d1 ev2) (FP.dsub ev3 ev2)) (FP.dsub eb3 eb2))), (.double eb2)])) t
    refine XS.daddS X20.here hx rfl (hb hby d5_97) rfl hn97 rfl ?_
    exact k
  refine own_retD X20 hx hlk Bd.returns (hb hby d5_98) (by decide) (by decide) ?_
  show Qblle Z a0 d1 w_values_a0 kk_w_values_a0 ev0 ev1 ev2 ev3 w_bids_a0 kk_w_bids_a0 eb0 eb1 eb2 eb3 h0 n0 (some (.double (FP.dadd eb2 (FP.dmul (FP.ddiv (FP.dsub d1 ev2) (FP.dsub ev3 ev2)) (FP.dsub eb3 eb2))))) T20.heap _
  rw [(e20 : T20.heap = h0)]
  exact ⟨rfl, n9, rfl⟩
theorem pnbllg : plainName "com/example/corewright/corewright/equilibrium/Strategy" = true := by first | (simp [plainName, overriddenIn]; done) | decide +kernel
theorem pdbllg_0 : parseMethodDescriptor "([DD)I" = some ⟨[(.array .double), .double], some .int⟩ := by decide +kernel
theorem pdbllg_1 : parseMethodDescriptor "(II)I" = some ⟨[.int, .int], some .int⟩ := by decide +kernel
theorem efbllg (m : MethodId) (a0 : Addr) (d1 : UInt64) : entryFrame m #[(.ref a0), (.double d1)] 8 = mkF m 0 #[.val (.ref a0), .val (.double d1), .second, .unset, .unset, .unset, .unset, .unset] [] := by first | (simp [entryFrame, mkF, argsToLocals, Value.category]; done) | rfl
def Qbllg (Z : State) (a0 : Addr) (d1 : UInt64) (w_values_a0 : Addr) (kk_w_values_a0 : ClassId) (ev0 : UInt64) (ev1 : UInt64) (ev2 : UInt64) (ev3 : UInt64) (w_bids_a0 : Addr) (kk_w_bids_a0 : ClassId) (eb0 : UInt64) (eb1 : UInt64) (eb2 : UInt64) (eb3 : UInt64) (h0 : Heap) (n0 : Nat) (v : Option Value) (h : Heap) (L : List Loc) : Prop := v = some (.double (FP.dadd eb2 (FP.dmul (FP.ddiv (FP.dsub d1 ev2) (FP.dsub ev3 ev2)) (FP.dsub eb3 eb2)))) ∧ Fr n0 L ∧ h = h0
set_option maxRecDepth 65536 in
set_option maxHeartbeats 40000000 in
theorem rmbllg (l : Launch) (Z : State) (ar : Array Value) (hw : ∀ d ∈ tables_1, d.before ar Z = true) (ws : List Jvm.Cond) (a0 : Addr) (d1 : UInt64) (w_values_a0 : Addr) (kk_w_values_a0 : ClassId) (ev0 : UInt64) (ev1 : UInt64) (ev2 : UInt64) (ev3 : UInt64) (w_bids_a0 : Addr) (kk_w_bids_a0 : ClassId) (eb0 : UInt64) (eb1 : UInt64) (eb2 : UInt64) (eb3 : UInt64) (h0 : Heap) (n0 : Nat) (Z0 : n0 ≤ h0.size) (E_a0 : Exa Z h0 a0 "com/example/corewright/corewright/equilibrium/Strategy") (F_values_a0 : Fld Z h0 a0 "com/example/corewright/corewright/equilibrium/Strategy" "values" "[D" (.ref w_values_a0)) (V_w_values_a0 : Arv Z h0 w_values_a0 kk_w_values_a0 .double (4 : Int32) [(.double ev0), (.double ev1), (.double ev2), (.double ev3)] (.double (0 : UInt64))) (F_bids_a0 : Fld Z h0 a0 "com/example/corewright/corewright/equilibrium/Strategy" "bids" "[D" (.ref w_bids_a0)) (V_w_bids_a0 : Arv Z h0 w_bids_a0 kk_w_bids_a0 .double (4 : Int32) [(.double eb0), (.double eb1), (.double eb2), (.double eb3)] (.double (0 : UInt64))) (h5_h5_hb34 : (cmpValue (FP.dcmp ev1 d1) .g) < (0 : Int32)) (h5_h5_hb34_1 : (cmpValue (FP.dcmp ev2 d1) .g) < (0 : Int32)) (h5_h5_hb34_2 : ¬ ((cmpValue (FP.dcmp ev3 d1) .g) < (0 : Int32))) (h5_h5_hb50 : (0 : Int32) < (cmpValue (FP.dcmp ev3 d1) .l)) (hn49 : Jvm.Free.Fl.NoNaN64 (FP.dsub d1 ev2)) (hn66 : Jvm.Free.Fl.NoNaN64 (FP.dsub ev3 ev2)) (hn67 : Jvm.Free.Fl.NoNaN64 (FP.ddiv (FP.dsub d1 ev2) (FP.dsub ev3 ev2))) (hn95 : Jvm.Free.Fl.NoNaN64 (FP.dsub eb3 eb2)) (hn96 : Jvm.Free.Fl.NoNaN64 (FP.dmul (FP.ddiv (FP.dsub d1 ev2) (FP.dsub ev3 ev2)) (FP.dsub eb3 eb2))) (hn97 : Jvm.Free.Fl.NoNaN64 (FP.dadd eb2 (FP.dmul (FP.ddiv (FP.dsub d1 ev2) (FP.dsub ev3 ev2)) (FP.dsub eb3 eb2)))) :
    MetFree l (⟨"com/example/corewright/corewright/equilibrium/Strategy", "bid", "(D)D"⟩ : MethodName) (head1 (Jvm.Cond.code (⟨"com/example/corewright/corewright/equilibrium/Strategy", "bid", "(D)D"⟩ : MethodName) prog_21_method_9_code 8 (some .double) :: ws) ({ frames := 2, cells := 0, slots := 0, locals := 39 } : Room)) (fun a U => a = #[(.ref a0), (.double d1)] ∧ Z.Warmed39 U.vm ∧ U.heap = h0) (fun _ _ _ _ _ => True) (fun _ U o U' => ∃ v L, o = .returned v ∧ Qbllg Z a0 d1 w_values_a0 kk_w_values_a0 ev0 ev1 ev2 ev3 w_bids_a0 kk_w_bids_a0 eb0 eb1 eb2 eb3 h0 n0 v U'.heap L ∧ FrameEnd U o U' L ({ frames := 2, cells := 0, slots := 0, locals := 39 } : Room).cells ({ frames := 2, cells := 0, slots := 0, locals := 39 } : Room).slots) := by
  refine MetFree.of_bodySF (plainFor_of_name pnbllg) hisR ?_
  intro p e s m args below meth c s₁ Bd hml0 hP hK
  obtain ⟨rfl, hZ, hh⟩ := hP
  have hx := Bd.exec
  have hby := Bd.bytes
  have hlk := Bd.notSynchronized
  have hml : c.maxLocals = 8 := hml0
  have hown : s.vm.findClass "com/example/corewright/corewright/equilibrium/Strategy" = some m.cls := findClass_of_methodNamed Bd.named
  have hnm := (name_of_methodNamed Bd.named Bd.method).1
  have X0 : Stand p l e ({ frames := 2, cells := 0, slots := 0, locals := 39 } : Room) s m #[(.ref a0), (.double d1)] below meth c s₁ [] 0 0 := Stand.of_body Bd
  have e0 : s₁.heap = h0 := by rw [← hh, Bd.state]; rfl
  have N0 := Fr.nil n0
  have K0 := Keep.refl h0 []
  refine own_enter (Q := Qbllg Z a0 d1 w_values_a0 kk_w_values_a0 ev0 ev1 ev2 ev3 w_bids_a0 kk_w_bids_a0 eb0 eb1 eb2 eb3 h0 n0) (efbllg m a0 d1) ?_
  refine own_st (T' := s₁) (g' := (mkF m 1 #[.val (.ref a0), .val (.double d1), .second, .unset, .unset, .unset, .unset, .unset] [(.ref a0)])) (fun t k => ?_) ?_
  · show Steps p.tables e below (s₁.setTop (mkF m 0 #[.val (.ref a0), .val (.double d1), .second, .unset, .unset, .unset, .unset, .unset] [])) t
    refine XS.aloadN X0.here hx rfl (hb hby d5_0) rfl rfl ?_
    exact k
  obtain ⟨T1, X1, e1, st1⟩ := getF X0 hx hZ hown (host := "") (Or.inl (hw _ (List.mem_of_getElem? (i := 29) rfl))) Via.refl e0 F_values_a0 (g := (mkF m 1 #[.val (.ref a0), .val (.double d1), .second, .unset, .unset, .unset, .unset, .unset] [(.ref a0)])) rfl rfl (hb hby d5_1)
  refine own_st (T' := T1) (g' := (mkF m 4 #[.val (.ref a0), .val (.double d1), .second, .unset, .unset, .unset, .unset, .unset] [(.ref w_values_a0)])) st1 ?_
  refine own_st (T' := T1) (g' := (mkF m 5 #[.val (.ref a0), .val (.double d1), .second, .unset, .unset, .unset, .unset, .unset] [(.double d1), (.ref w_values_a0)])) (fun t k => ?_) ?_
  · show Steps p.tables e below (T1.setTop (mkF m 4 #[.val (.ref a0), .val (.double d1), .second, .unset, .unset, .unset, .unset, .unset] [(.ref w_values_a0)])) t
    refine XS.dloadN X1.here hx rfl (hb hby d5_4) rfl ?_
    exact k
  obtain ⟨_, _, ⟨T2, L2, k2, n2⟩, -, X2, ⟨Lc2, hQ2, l2, y2, z2⟩, st2⟩ := Jvm.LawKit.callS X1 hx (y := (⟨"java/util/Arrays", "binarySearch", "([DD)I"⟩ : MethodName)) hown (mvT hZ (hw _ (List.mem_of_getElem? (i := 38) rfl))) (mvT hZ (hw _ (List.mem_of_getElem? (i := 39) rfl))) (mvT hZ (hw _ (List.mem_of_getElem? (i := 40) rfl))) (mvT hZ (hw _ (List.mem_of_getElem? (i := 41) rfl))) (by decide) (backOf (W := 0) (rmtllg l Z ar hw [] w_values_a0 d1 kk_w_values_a0 ev0 ev1 ev2 ev3 h0 n0 Z0 V_w_values_a0 h5_h5_hb34 h5_h5_hb34_1 h5_h5_hb34_2 h5_h5_hb50) hZ (hw _ (List.mem_of_getElem? (i := 41) rfl)) (hw _ (List.mem_of_getElem? (i := 40) rfl)) (by decide) (by decide)) (g := (mkF m 5 #[.val (.ref a0), .val (.double d1), .second, .unset, .unset, .unset, .unset, .unset] [(.double d1), (.ref w_values_a0)])) rfl (by rw [hml]; rfl) (argsL := [(.ref w_values_a0), (.double d1)]) (rest := []) (lenOf pdbllg_0 rfl) rfl (by show 2 * 0 + _ ≤ _; exact Nat.le_of_eq rfl) (hb hby d5_5) (fun _ _ => ⟨rfl, e1, (by decide : 0 + 0 ≤ _), (by decide : 0 + 0 ≤ _)⟩)
  dsimp only [Pt.U, Pt.locs, Pt.cells, Pt.slots] at X2 l2 y2 z2 st2 hQ2
  subst l2 y2 z2
  obtain ⟨rfl, N2q, e2⟩ := hQ2
  have n3 := Fr.app N0 N2q
  refine own_st (T' := T2) (g' := (mkF m 8 #[.val (.ref a0), .val (.double d1), .second, .unset, .unset, .unset, .unset, .unset] [(.int (-4 : Int32))])) st2 ?_
  refine own_st (T' := T2) (g' := (mkF m 26 #[.val (.ref a0), .val (.double d1), .second, .val (.int (-4 : Int32)), .val (.int (2 : Int32)), .unset, .unset, .unset] [(.int (0 : Int32)), (.int (2 : Int32))])) (fun t k => ?_) ?_
  · show Steps p.tables e below (T2.setTop (mkF m 8 #[.val (.ref a0), .val (.double d1), .second, .unset, .unset, .unset, .unset, .unset] [(.int (-4 : Int32))])) t
    refine XS.istoreN X2.here hx rfl (hb hby d5_8) rfl (l' := #[.val (.ref a0), .val (.double d1), .second, .val (.int (-4 : Int32)), .unset, .unset, .unset, .unset]) rfl ?_
    show Steps p.tables e below (T2.setTop (mkF m 9 #[.val (.ref a0), .val (.double d1), .second, .val (.int (-4 : Int32)), .unset, .unset, .unset, .unset] [])) t
    refine XS.iloadN X2.here hx rfl (hb hby d5_9) rfl ?_
    show Steps p.tables e below (T2.setTop (mkF m 10 #[.val (.ref a0), .val (.double d1), .second, .val (.int (-4 : Int32)), .unset, .unset, .unset, .unset] [(.int (-4 : Int32))])) t
    refine XS.ifYes X2.here hx rfl (pc0 := 10) (pc' := 17) rfl (hb hby d5_10) rfl (by decide) (by decide) (by decide) ?_
    show Steps p.tables e below (T2.setTop (mkF m 17 #[.val (.ref a0), .val (.double d1), .second, .val (.int (-4 : Int32)), .unset, .unset, .unset, .unset] [])) t
    refine XS.iloadN X2.here hx rfl (hb hby d5_17) rfl ?_
    show Steps p.tables e below (T2.setTop (mkF m 18 #[.val (.ref a0), .val (.double d1), .second, .val (.int (-4 : Int32)), .unset, .unset, .unset, .unset] [(.int (-4 : Int32))])) t
    refine XS.ineg X2.here hx rfl (hb hby d5_18) rfl ?_
    show Steps p.tables e below (T2.setTop (mkF m 19 #[.val (.ref a0), .val (.double d1), .second, .val (.int (-4 : Int32)), .unset, .unset, .unset, .unset] [(.int (4 : Int32))])) t
    refine XS.iconst X2.here hx rfl (hb hby d5_19) ?_
    show Steps p.tables e below (T2.setTop (mkF m 20 #[.val (.ref a0), .val (.double d1), .second, .val (.int (-4 : Int32)), .unset, .unset, .unset, .unset] [(.int (2 : Int32)), (.int (4 : Int32))])) t
    refine XS.isub X2.here hx rfl (hb hby d5_20) rfl ?_
    show Steps p.tables e below (T2.setTop (mkF m 21 #[.val (.ref a0), .val (.double d1), .second, .val (.int (-4 : Int32)), .unset, .unset, .unset, .unset] [(.int (2 : Int32))])) t
    refine XS.istore X2.here hx rfl (hb hby d5_21) rfl (l' := #[.val (.ref a0), .val (.double d1), .second, .val (.int (-4 : Int32)), .val (.int (2 : Int32)), .unset, .unset, .unset]) rfl ?_
    show Steps p.tables e below (T2.setTop (mkF m 23 #[.val (.ref a0), .val (.double d1), .second, .val (.int (-4 : Int32)), .val (.int (2 : Int32)), .unset, .unset, .unset] [])) t
    refine XS.iload X2.here hx rfl (hb hby d5_23) rfl ?_
    show Steps p.tables e below (T2.setTop (mkF m 25 #[.val (.ref a0), .val (.double d1), .second, .val (.int (-4 : Int32)), .val (.int (2 : Int32)), .unset, .unset, .unset] [(.int (2 : Int32))])) t
    refine XS.iconst X2.here hx rfl (hb hby d5_25) ?_
    exact k
  obtain ⟨_, _, ⟨T4, L4, k4, n4⟩, -, X4, ⟨Lc4, hQ4, l4, y4, z4⟩, st4⟩ := Jvm.LawKit.callS X2 hx (y := (⟨"java/lang/Math", "max", "(II)I"⟩ : MethodName)) hown (mvT hZ (hw _ (List.mem_of_getElem? (i := 54) rfl))) (mvT hZ (hw _ (List.mem_of_getElem? (i := 55) rfl))) (mvT hZ (hw _ (List.mem_of_getElem? (i := 17) rfl))) (mvT hZ (hw _ (List.mem_of_getElem? (i := 56) rfl))) (by decide) (backOf (W := 0) (rmmx0 l Z ar hw [] ((2 : Int32)) ((0 : Int32)) h0 n0 Z0 (by decide)) hZ (hw _ (List.mem_of_getElem? (i := 56) rfl)) (hw _ (List.mem_of_getElem? (i := 17) rfl)) (by decide) (by decide)) (g := (mkF m 26 #[.val (.ref a0), .val (.double d1), .second, .val (.int (-4 : Int32)), .val (.int (2 : Int32)), .unset, .unset, .unset] [(.int (0 : Int32)), (.int (2 : Int32))])) rfl (by rw [hml]; rfl) (argsL := [(.int (2 : Int32)), (.int (0 : Int32))]) (rest := []) (lenOf pdbllg_1 rfl) rfl (by show 2 * 0 + _ ≤ _; exact Nat.le_of_eq rfl) (hb hby d5_26) (fun _ _ => ⟨rfl, e2, (by decide : 0 + 0 ≤ _), (by decide : 0 + 0 ≤ _)⟩)
  dsimp only [Pt.U, Pt.locs, Pt.cells, Pt.slots] at X4 l4 y4 z4 st4 hQ4
  subst l4 y4 z4
  obtain ⟨rfl, N4q, e4⟩ := hQ4
  have n5 := Fr.app n3 N4q
  refine own_st (T' := T4) (g' := (mkF m 29 #[.val (.ref a0), .val (.double d1), .second, .val (.int (-4 : Int32)), .val (.int (2 : Int32)), .unset, .unset, .unset] [(.int (2 : Int32))])) st4 ?_
  refine own_st (T' := T4) (g' := (mkF m 30 #[.val (.ref a0), .val (.double d1), .second, .val (.int (-4 : Int32)), .val (.int (2 : Int32)), .unset, .unset, .unset] [(.ref a0), (.int (2 : Int32))])) (fun t k => ?_) ?_
  · show Steps p.tables e below (T4.setTop (mkF m 29 #[.val (.ref a0), .val (.double d1), .second, .val (.int (-4 : Int32)), .val (.int (2 : Int32)), .unset, .unset, .unset] [(.int (2 : Int32))])) t
    refine XS.aloadN X4.here hx rfl (hb hby d5_29) rfl rfl ?_
    exact k
  obtain ⟨T6, X6, e6, st6⟩ := getF X4 hx hZ hown (host := "") (Or.inl (hw _ (List.mem_of_getElem? (i := 29) rfl))) Via.refl e4 F_values_a0 (g := (mkF m 30 #[.val (.ref a0), .val (.double d1), .second, .val (.int (-4 : Int32)), .val (.int (2 : Int32)), .unset, .unset, .unset] [(.ref a0), (.int (2 : Int32))])) rfl rfl (hb hby d5_30)
  refine own_st (T' := T6) (g' := (mkF m 33 #[.val (.ref a0), .val (.double d1), .second, .val (.int (-4 : Int32)), .val (.int (2 : Int32)), .unset, .unset, .unset] [(.ref w_values_a0), (.int (2 : Int32))])) st6 ?_
  obtain ⟨c7, r7a, -, r7c, r7d, -, -⟩ := id V_w_values_a0
  refine own_st (T' := T6) (g' := (mkF m 36 #[.val (.ref a0), .val (.double d1), .second, .val (.int (-4 : Int32)), .val (.int (2 : Int32)), .unset, .unset, .unset] [(.int (2 : Int32)), (.int (2 : Int32))])) (fun t k => ?_) ?_
  · show Steps p.tables e below (T6.setTop (mkF m 33 #[.val (.ref a0), .val (.double d1), .second, .val (.int (-4 : Int32)), .val (.int (2 : Int32)), .unset, .unset, .unset] [(.ref w_values_a0), (.int (2 : Int32))])) t
    refine X6.arraylength hx (by rw [e6]; exact r7a.1) (State.isArrayOf_alike hZ.alike r7a.2.1) (g := (mkF m 33 #[.val (.ref a0), .val (.double d1), .second, .val (.int (-4 : Int32)), .val (.int (2 : Int32)), .unset, .unset, .unset] [(.ref w_values_a0), (.int (2 : Int32))])) rfl rfl (hb hby d5_33) _ ?_
    rw [len_of r7c r7d]
    show Steps p.tables e below (T6.setTop (mkF m 34 #[.val (.ref a0), .val (.double d1), .second, .val (.int (-4 : Int32)), .val (.int (2 : Int32)), .unset, .unset, .unset] [(.int (4 : Int32)), (.int (2 : Int32))])) t
    refine XS.iconst X6.here hx rfl (hb hby d5_34) ?_
    show Steps p.tables e below (T6.setTop (mkF m 35 #[.val (.ref a0), .val (.double d1), .second, .val (.int (-4 : Int32)), .val (.int (2 : Int32)), .unset, .unset, .unset] [(.int (2 : Int32)), (.int (4 : Int32)), (.int (2 : Int32))])) t
    refine XS.isub X6.here hx rfl (hb hby d5_35) rfl ?_
    exact k
  obtain ⟨_, _, ⟨T8, L8, k8, n8⟩, -, X8, ⟨Lc8, hQ8, l8, y8, z8⟩, st8⟩ := Jvm.LawKit.callS X6 hx (y := (⟨"java/lang/Math", "min", "(II)I"⟩ : MethodName)) hown (mvT hZ (hw _ (List.mem_of_getElem? (i := 57) rfl))) (mvT hZ (hw _ (List.mem_of_getElem? (i := 58) rfl))) (mvT hZ (hw _ (List.mem_of_getElem? (i := 17) rfl))) (mvT hZ (hw _ (List.mem_of_getElem? (i := 59) rfl))) (by decide) (backOf (W := 0) (rmmn0 l Z ar hw [] ((2 : Int32)) ((2 : Int32)) h0 n0 Z0 (by decide)) hZ (hw _ (List.mem_of_getElem? (i := 59) rfl)) (hw _ (List.mem_of_getElem? (i := 17) rfl)) (by decide) (by decide)) (g := (mkF m 36 #[.val (.ref a0), .val (.double d1), .second, .val (.int (-4 : Int32)), .val (.int (2 : Int32)), .unset, .unset, .unset] [(.int (2 : Int32)), (.int (2 : Int32))])) rfl (by rw [hml]; rfl) (argsL := [(.int (2 : Int32)), (.int (2 : Int32))]) (rest := []) (lenOf pdbllg_1 rfl) rfl (by show 2 * 0 + _ ≤ _; exact Nat.le_of_eq rfl) (hb hby d5_36) (fun _ _ => ⟨rfl, e6, (by decide : 0 + 0 ≤ _), (by decide : 0 + 0 ≤ _)⟩)
  dsimp only [Pt.U, Pt.locs, Pt.cells, Pt.slots] at X8 l8 y8 z8 st8 hQ8
  subst l8 y8 z8
  obtain ⟨rfl, N8q, e8⟩ := hQ8
  have n9 := Fr.app n5 N8q
  refine own_st (T' := T8) (g' := (mkF m 39 #[.val (.ref a0), .val (.double d1), .second, .val (.int (-4 : Int32)), .val (.int (2 : Int32)), .unset, .unset, .unset] [(.int (2 : Int32))])) st8 ?_
  refine own_st (T' := T8) (g' := (mkF m 43 #[.val (.ref a0), .val (.double d1), .second, .val (.int (-4 : Int32)), .val (.int (2 : Int32)), .val (.int (2 : Int32)), .unset, .unset] [(.ref a0), (.double d1)])) (fun t k => ?_) ?_
  · show Steps p.tables e below (T8.setTop (mkF m 39 #[.val (.ref a0), .val (.double d1), .second, .val (.int (-4 : Int32)), .val (.int (2 : Int32)), .unset, .unset, .unset] [(.int (2 : Int32))])) t
    refine XS.istore X8.here hx rfl (hb hby d5_39) rfl (l' := #[.val (.ref a0), .val (.double d1), .second, .val (.int (-4 : Int32)), .val (.int (2 : Int32)), .val (.int (2 : Int32)), .unset, .unset]) rfl ?_
    show Steps p.tables e below (T8.setTop (mkF m 41 #[.val (.ref a0), .val (.double d1), .second, .val (.int (-4 : Int32)), .val (.int (2 : Int32)), .val (.int (2 : Int32)), .unset, .unset] [])) t
    refine XS.dloadN X8.here hx rfl (hb hby d5_41) rfl ?_
    show Steps p.tables e below (T8.setTop (mkF m 42 #[.val (.ref a0), .val (.double d1), .second, .val (.int (-4 : Int32)), .val (.int (2 : Int32)), .val (.int (2 : Int32)), .unset, .unset] [(.double d1)])) t
    refine XS.aloadN X8.here hx rfl (hb hby d5_42) rfl rfl ?_
    exact k
  obtain ⟨T10, X10, e10, st10⟩ := getF X8 hx hZ hown (host := "") (Or.inl (hw _ (List.mem_of_getElem? (i := 29) rfl))) Via.refl e8 F_values_a0 (g := (mkF m 43 #[.val (.ref a0), .val (.double d1), .second, .val (.int (-4 : Int32)), .val (.int (2 : Int32)), .val (.int (2 : Int32)), .unset, .unset] [(.ref a0), (.double d1)])) rfl rfl (hb hby d5_43)
  refine own_st (T' := T10) (g' := (mkF m 46 #[.val (.ref a0), .val (.double d1), .second, .val (.int (-4 : Int32)), .val (.int (2 : Int32)), .val (.int (2 : Int32)), .unset, .unset] [(.ref w_values_a0), (.double d1)])) st10 ?_
  refine own_st (T' := T10) (g' := (mkF m 48 #[.val (.ref a0), .val (.double d1), .second, .val (.int (-4 : Int32)), .val (.int (2 : Int32)), .val (.int (2 : Int32)), .unset, .unset] [(.int (2 : Int32)), (.ref w_values_a0), (.double d1)])) (fun t k => ?_) ?_
  · show Steps p.tables e below (T10.setTop (mkF m 46 #[.val (.ref a0), .val (.double d1), .second, .val (.int (-4 : Int32)), .val (.int (2 : Int32)), .val (.int (2 : Int32)), .unset, .unset] [(.ref w_values_a0), (.double d1)])) t
    refine XS.iload X10.here hx rfl (hb hby d5_46) rfl ?_
    exact k
  obtain ⟨c11, r11a, r11b, r11c, r11d, r11e, r11f⟩ := id V_w_values_a0
  have i11 : ¬ ((2 : Int32) < 0 ∨ c11.slots.size ≤ ((2 : Int32)).toNatClampNeg) := inb_of r11c ⟨by decide, by decide⟩
  have y11 : c11.slots[((2 : Int32)).toNatClampNeg]? = some (.double ev2) := r11e.at i11 rfl
  refine own_st (T' := T10) (g' := (mkF m 51 #[.val (.ref a0), .val (.double d1), .second, .val (.int (-4 : Int32)), .val (.int (2 : Int32)), .val (.int (2 : Int32)), .unset, .unset] [(.ref a0), (.double (FP.dsub d1 ev2))])) (fun t k => ?_) ?_
  · show Steps p.tables e below (T10.setTop (mkF m 48 #[.val (.ref a0), .val (.double d1), .second, .val (.int (-4 : Int32)), .val (.int (2 : Int32)), .val (.int (2 : Int32)), .unset, .unset] [(.int (2 : Int32)), (.ref w_values_a0), (.double d1)])) t
    refine X10.daload hx (j := (2 : Int32)) (v := (.double ev2)) (by rw [e10]; exact r11a.1) (State.isArrayOf_alike hZ.alike r11a.2.1) r11a.2.2 i11 y11 (g := (mkF m 48 #[.val (.ref a0), .val (.double d1), .second, .val (.int (-4 : Int32)), .val (.int (2 : Int32)), .val (.int (2 : Int32)), .unset, .unset] [(.int (2 : Int32)), (.ref w_values_a0), (.double d1)])) rfl rfl (hb hby d5_48) _ ?_
    show Steps p.tables e below (T10.setTop (mkF m 49 #[.val (.ref a0), .val (.double d1), .second, .val (.int (-4 : Int32)), .val (.int (2 : Int32)), .val (.int (2 : Int32)), .unset, .unset] [(.double ev2), (.double d1)])) t
    refine XS.dsubS X10.here hx rfl (hb hby d5_49) rfl hn49 rfl ?_
    show Steps p.tables e below (T10.setTop (mkF m 50 #[.val (.ref a0), .val (.double d1), .second, .val (.int (-4 : Int32)), .val (.int (2 : Int32)), .val (.int (2 : Int32)), .unset, .unset] [(.double (FP.dsub d1 ev2))])) t
    refine XS.aloadN X10.here hx rfl (hb hby d5_50) rfl rfl ?_
    exact k
  obtain ⟨T12, X12, e12, st12⟩ := getF X10 hx hZ hown (host := "") (Or.inl (hw _ (List.mem_of_getElem? (i := 29) rfl))) Via.refl e10 F_values_a0 (g := (mkF m 51 #[.val (.ref a0), .val (.double d1), .second, .val (.int (-4 : Int32)), .val (.int (2 : Int32)), .val (.int (2 : Int32)), .unset, .unset] [(.ref a0), (.double (FP.dsub d1 ev2))])) rfl rfl (hb hby d5_51)
  refine own_st (T' := T12) (g' := (mkF m 54 #[.val (.ref a0), .val (.double d1), .second, .val (.int (-4 : Int32)), .val (.int (2 : Int32)), .val (.int (2 : Int32)), .unset, .unset] [(.ref w_values_a0), (.double (FP.dsub d1 ev2))])) st12 ?_
  refine own_st (T' := T12) (g' := (mkF m 58 #[.val (.ref a0), .val (.double d1), .second, .val (.int (-4 : Int32)), .val (.int (2 : Int32)), .val (.int (2 : Int32)), .unset, .unset] [(.int (3 : Int32)), (.ref w_values_a0), (.double (FP.dsub d1 ev2))])) (fun t k => ?_) ?_
  · show Steps p.tables e below (T12.setTop (mkF m 54 #[.val (.ref a0), .val (.double d1), .second, .val (.int (-4 : Int32)), .val (.int (2 : Int32)), .val (.int (2 : Int32)), .unset, .unset] [(.ref w_values_a0), (.double (FP.dsub d1 ev2))])) t
    refine XS.iload X12.here hx rfl (hb hby d5_54) rfl ?_
    show Steps p.tables e below (T12.setTop (mkF m 56 #[.val (.ref a0), .val (.double d1), .second, .val (.int (-4 : Int32)), .val (.int (2 : Int32)), .val (.int (2 : Int32)), .unset, .unset] [(.int (2 : Int32)), (.ref w_values_a0), (.double (FP.dsub d1 ev2))])) t
    refine XS.iconst X12.here hx rfl (hb hby d5_56) ?_
    show Steps p.tables e below (T12.setTop (mkF m 57 #[.val (.ref a0), .val (.double d1), .second, .val (.int (-4 : Int32)), .val (.int (2 : Int32)), .val (.int (2 : Int32)), .unset, .unset] [(.int (1 : Int32)), (.int (2 : Int32)), (.ref w_values_a0), (.double (FP.dsub d1 ev2))])) t
    refine XS.iadd X12.here hx rfl (hb hby d5_57) rfl ?_
    exact k
  obtain ⟨c13, r13a, r13b, r13c, r13d, r13e, r13f⟩ := id V_w_values_a0
  have i13 : ¬ ((3 : Int32) < 0 ∨ c13.slots.size ≤ ((3 : Int32)).toNatClampNeg) := inb_of r13c ⟨by decide, by decide⟩
  have y13 : c13.slots[((3 : Int32)).toNatClampNeg]? = some (.double ev3) := r13e.at i13 rfl
  refine own_st (T' := T12) (g' := (mkF m 60 #[.val (.ref a0), .val (.double d1), .second, .val (.int (-4 : Int32)), .val (.int (2 : Int32)), .val (.int (2 : Int32)), .unset, .unset] [(.ref a0), (.double ev3), (.double (FP.dsub d1 ev2))])) (fun t k => ?_) ?_
  · show Steps p.tables e below (T12.setTop (mkF m 58 #[.val (.ref a0), .val (.double d1), .second, .val (.int (-4 : Int32)), .val (.int (2 : Int32)), .val (.int (2 : Int32)), .unset, .unset] [(.int (3 : Int32)), (.ref w_values_a0), (.double (FP.dsub d1 ev2))])) t
    refine X12.daload hx (j := (3 : Int32)) (v := (.double ev3)) (by rw [e12]; exact r13a.1) (State.isArrayOf_alike hZ.alike r13a.2.1) r13a.2.2 i13 y13 (g := (mkF m 58 #[.val (.ref a0), .val (.double d1), .second, .val (.int (-4 : Int32)), .val (.int (2 : Int32)), .val (.int (2 : Int32)), .unset, .unset] [(.int (3 : Int32)), (.ref w_values_a0), (.double (FP.dsub d1 ev2))])) rfl rfl (hb hby d5_58) _ ?_
    show Steps p.tables e below (T12.setTop (mkF m 59 #[.val (.ref a0), .val (.double d1), .second, .val (.int (-4 : Int32)), .val (.int (2 : Int32)), .val (.int (2 : Int32)), .unset, .unset] [(.double ev3), (.double (FP.dsub d1 ev2))])) t
    refine XS.aloadN X12.here hx rfl (hb hby d5_59) rfl rfl ?_
    exact k
  obtain ⟨T14, X14, e14, st14⟩ := getF X12 hx hZ hown (host := "") (Or.inl (hw _ (List.mem_of_getElem? (i := 29) rfl))) Via.refl e12 F_values_a0 (g := (mkF m 60 #[.val (.ref a0), .val (.double d1), .second, .val (.int (-4 : Int32)), .val (.int (2 : Int32)), .val (.int (2 : Int32)), .unset, .unset] [(.ref a0), (.double ev3), (.double (FP.dsub d1 ev2))])) rfl rfl (hb hby d5_60)
  refine own_st (T' := T14) (g' := (mkF m 63 #[.val (.ref a0), .val (.double d1), .second, .val (.int (-4 : Int32)), .val (.int (2 : Int32)), .val (.int (2 : Int32)), .unset, .unset] [(.ref w_values_a0), (.double ev3), (.double (FP.dsub d1 ev2))])) st14 ?_
  refine own_st (T' := T14) (g' := (mkF m 65 #[.val (.ref a0), .val (.double d1), .second, .val (.int (-4 : Int32)), .val (.int (2 : Int32)), .val (.int (2 : Int32)), .unset, .unset] [(.int (2 : Int32)), (.ref w_values_a0), (.double ev3), (.double (FP.dsub d1 ev2))])) (fun t k => ?_) ?_
  · show Steps p.tables e below (T14.setTop (mkF m 63 #[.val (.ref a0), .val (.double d1), .second, .val (.int (-4 : Int32)), .val (.int (2 : Int32)), .val (.int (2 : Int32)), .unset, .unset] [(.ref w_values_a0), (.double ev3), (.double (FP.dsub d1 ev2))])) t
    refine XS.iload X14.here hx rfl (hb hby d5_63) rfl ?_
    exact k
  obtain ⟨c15, r15a, r15b, r15c, r15d, r15e, r15f⟩ := id V_w_values_a0
  have i15 : ¬ ((2 : Int32) < 0 ∨ c15.slots.size ≤ ((2 : Int32)).toNatClampNeg) := inb_of r15c ⟨by decide, by decide⟩
  have y15 : c15.slots[((2 : Int32)).toNatClampNeg]? = some (.double ev2) := r15e.at i15 rfl
  refine own_st (T' := T14) (g' := (mkF m 71 #[.val (.ref a0), .val (.double d1), .second, .val (.int (-4 : Int32)), .val (.int (2 : Int32)), .val (.int (2 : Int32)), .val (.double (FP.ddiv (FP.dsub d1 ev2) (FP.dsub ev3 ev2))), .second] [(.ref a0)])) (fun t k => ?_) ?_
  · show Steps p.tables e below (T14.setTop (mkF m 65 #[.val (.ref a0), .val (.double d1), .second, .val (.int (-4 : Int32)), .val (.int (2 : Int32)), .val (.int (2 : Int32)), .unset, .unset] [(.int (2 : Int32)), (.ref w_values_a0), (.double ev3), (.double (FP.dsub d1 ev2))])) t
    refine X14.daload hx (j := (2 : Int32)) (v := (.double ev2)) (by rw [e14]; exact r15a.1) (State.isArrayOf_alike hZ.alike r15a.2.1) r15a.2.2 i15 y15 (g := (mkF m 65 #[.val (.ref a0), .val (.double d1), .second, .val (.int (-4 : Int32)), .val (.int (2 : Int32)), .val (.int (2 : Int32)), .unset, .unset] [(.int (2 : Int32)), (.ref w_values_a0), (.double ev3), (.double (FP.dsub d1 ev2))])) rfl rfl (hb hby d5_65) _ ?_
    show Steps p.tables e below (T14.setTop (mkF m 66 #[.val (.ref a0), .val (.double d1), .second, .val (.int (-4 : Int32)), .val (.int (2 : Int32)), .val (.int (2 : Int32)), .unset, .unset] [(.double ev2), (.double ev3), (.double (FP.dsub d1 ev2))])) t
    refine XS.dsubS X14.here hx rfl (hb hby d5_66) rfl hn66 rfl ?_
    show Steps p.tables e below (T14.setTop (mkF m 67 #[.val (.ref a0), .val (.double d1), .second, .val (.int (-4 : Int32)), .val (.int (2 : Int32)), .val (.int (2 : Int32)), .unset, .unset] [(.double (FP.dsub ev3 ev2)), (.double (FP.dsub d1 ev2))])) t
    refine XS.ddivS X14.here hx rfl (hb hby d5_67) rfl hn67 rfl ?_
    show Steps p.tables e below (T14.setTop (mkF m 68 #[.val (.ref a0), .val (.double d1), .second, .val (.int (-4 : Int32)), .val (.int (2 : Int32)), .val (.int (2 : Int32)), .unset, .unset] [(.double (FP.ddiv (FP.dsub d1 ev2) (FP.dsub ev3 ev2)))])) t
    refine XS.dstore X14.here hx rfl (hb hby d5_68) rfl (l' := #[.val (.ref a0), .val (.double d1), .second, .val (.int (-4 : Int32)), .val (.int (2 : Int32)), .val (.int (2 : Int32)), .val (.double (FP.ddiv (FP.dsub d1 ev2) (FP.dsub ev3 ev2))), .second]) rfl ?_
    show Steps p.tables e below (T14.setTop (mkF m 70 #[.val (.ref a0), .val (.double d1), .second, .val (.int (-4 : Int32)), .val (.int (2 : Int32)), .val (.int (2 : Int32)), .val (.double (FP.ddiv (FP.dsub d1 ev2) (FP.dsub ev3 ev2))), .second] [])) t
    refine XS.aloadN X14.here hx rfl (hb hby d5_70) rfl rfl ?_
    exact k
  obtain ⟨T16, X16, e16, st16⟩ := getF X14 hx hZ hown (host := "") (Or.inl (hw _ (List.mem_of_getElem? (i := 31) rfl))) Via.refl e14 F_bids_a0 (g := (mkF m 71 #[.val (.ref a0), .val (.double d1), .second, .val (.int (-4 : Int32)), .val (.int (2 : Int32)), .val (.int (2 : Int32)), .val (.double (FP.ddiv (FP.dsub d1 ev2) (FP.dsub ev3 ev2))), .second] [(.ref a0)])) rfl rfl (hb hby d5_71)
  refine own_st (T' := T16) (g' := (mkF m 74 #[.val (.ref a0), .val (.double d1), .second, .val (.int (-4 : Int32)), .val (.int (2 : Int32)), .val (.int (2 : Int32)), .val (.double (FP.ddiv (FP.dsub d1 ev2) (FP.dsub ev3 ev2))), .second] [(.ref w_bids_a0)])) st16 ?_
  refine own_st (T' := T16) (g' := (mkF m 76 #[.val (.ref a0), .val (.double d1), .second, .val (.int (-4 : Int32)), .val (.int (2 : Int32)), .val (.int (2 : Int32)), .val (.double (FP.ddiv (FP.dsub d1 ev2) (FP.dsub ev3 ev2))), .second] [(.int (2 : Int32)), (.ref w_bids_a0)])) (fun t k => ?_) ?_
  · show Steps p.tables e below (T16.setTop (mkF m 74 #[.val (.ref a0), .val (.double d1), .second, .val (.int (-4 : Int32)), .val (.int (2 : Int32)), .val (.int (2 : Int32)), .val (.double (FP.ddiv (FP.dsub d1 ev2) (FP.dsub ev3 ev2))), .second] [(.ref w_bids_a0)])) t
    refine XS.iload X16.here hx rfl (hb hby d5_74) rfl ?_
    exact k
  obtain ⟨c17, r17a, r17b, r17c, r17d, r17e, r17f⟩ := id V_w_bids_a0
  have i17 : ¬ ((2 : Int32) < 0 ∨ c17.slots.size ≤ ((2 : Int32)).toNatClampNeg) := inb_of r17c ⟨by decide, by decide⟩
  have y17 : c17.slots[((2 : Int32)).toNatClampNeg]? = some (.double eb2) := r17e.at i17 rfl
  refine own_st (T' := T16) (g' := (mkF m 80 #[.val (.ref a0), .val (.double d1), .second, .val (.int (-4 : Int32)), .val (.int (2 : Int32)), .val (.int (2 : Int32)), .val (.double (FP.ddiv (FP.dsub d1 ev2) (FP.dsub ev3 ev2))), .second] [(.ref a0), (.double (FP.ddiv (FP.dsub d1 ev2) (FP.dsub ev3 ev2))), (.double eb2)])) (fun t k => ?_) ?_
  · show Steps p.tables e below (T16.setTop (mkF m 76 #[.val (.ref a0), .val (.double d1), .second, .val (.int (-4 : Int32)), .val (.int (2 : Int32)), .val (.int (2 : Int32)), .val (.double (FP.ddiv (FP.dsub d1 ev2) (FP.dsub ev3 ev2))), .second] [(.int (2 : Int32)), (.ref w_bids_a0)])) t
    refine X16.daload hx (j := (2 : Int32)) (v := (.double eb2)) (by rw [e16]; exact r17a.1) (State.isArrayOf_alike hZ.alike r17a.2.1) r17a.2.2 i17 y17 (g := (mkF m 76 #[.val (.ref a0), .val (.double d1), .second, .val (.int (-4 : Int32)), .val (.int (2 : Int32)), .val (.int (2 : Int32)), .val (.double (FP.ddiv (FP.dsub d1 ev2) (FP.dsub ev3 ev2))), .second] [(.int (2 : Int32)), (.ref w_bids_a0)])) rfl rfl (hb hby d5_76) _ ?_
    show Steps p.tables e below (T16.setTop (mkF m 77 #[.val (.ref a0), .val (.double d1), .second, .val (.int (-4 : Int32)), .val (.int (2 : Int32)), .val (.int (2 : Int32)), .val (.double (FP.ddiv (FP.dsub d1 ev2) (FP.dsub ev3 ev2))), .second] [(.double eb2)])) t
    refine XS.dload X16.here hx rfl (hb hby d5_77) rfl ?_
    show Steps p.tables e below (T16.setTop (mkF m 79 #[.val (.ref a0), .val (.double d1), .second, .val (.int (-4 : Int32)), .val (.int (2 : Int32)), .val (.int (2 : Int32)), .val (.double (FP.ddiv (FP.dsub d1 ev2) (FP.dsub ev3 ev2))), .second] [(.double (FP.ddiv (FP.dsub d1 ev2) (FP.dsub ev3 ev2))), (.double eb2)])) t
    refine XS.aloadN X16.here hx rfl (hb hby d5_79) rfl rfl ?_
    exact k
  obtain ⟨T18, X18, e18, st18⟩ := getF X16 hx hZ hown (host := "") (Or.inl (hw _ (List.mem_of_getElem? (i := 31) rfl))) Via.refl e16 F_bids_a0 (g := (mkF m 80 #[.val (.ref a0), .val (.double d1), .second, .val (.int (-4 : Int32)), .val (.int (2 : Int32)), .val (.int (2 : Int32)), .val (.double (FP.ddiv (FP.dsub d1 ev2) (FP.dsub ev3 ev2))), .second] [(.ref a0), (.double (FP.ddiv (FP.dsub d1 ev2) (FP.dsub ev3 ev2))), (.double eb2)])) rfl rfl (hb hby d5_80)
  refine own_st (T' := T18) (g' := (mkF m 83 #[.val (.ref a0), .val (.double d1), .second, .val (.int (-4 : Int32)), .val (.int (2 : Int32)), .val (.int (2 : Int32)), .val (.double (FP.ddiv (FP.dsub d1 ev2) (FP.dsub ev3 ev2))), .second] [(.ref w_bids_a0), (.double (FP.ddiv (FP.dsub d1 ev2) (FP.dsub ev3 ev2))), (.double eb2)])) st18 ?_
  refine own_st (T' := T18) (g' := (mkF m 87 #[.val (.ref a0), .val (.double d1), .second, .val (.int (-4 : Int32)), .val (.int (2 : Int32)), .val (.int (2 : Int32)), .val (.double (FP.ddiv (FP.dsub d1 ev2) (FP.dsub ev3 ev2))), .second] [(.int (3 : Int32)), (.ref w_bids_a0), (.double (FP.ddiv (FP.dsub d1 ev2) (FP.dsub ev3 ev2))), (.double eb2)])) (fun t k => ?_) ?_
  · show Steps p.tables e below (T18.setTop (mkF m 83 #[.val (.ref a0), .val (.double d1), .second, .val (.int (-4 : Int32)), .val (.int (2 : Int32)), .val (.int (2 : Int32)), .val (.double (FP.ddiv (FP.dsub d1 ev2) (FP.dsub ev3 ev2))), .second] [(.ref w_bids_a0), (.double (FP.ddiv (FP.dsub d1 ev2) (FP.dsub ev3 ev2))), (.double eb2)])) t
    refine XS.iload X18.here hx rfl (hb hby d5_83) rfl ?_
    show Steps p.tables e below (T18.setTop (mkF m 85 #[.val (.ref a0), .val (.double d1), .second, .val (.int (-4 : Int32)), .val (.int (2 : Int32)), .val (.int (2 : Int32)), .val (.double (FP.ddiv (FP.dsub d1 ev2) (FP.dsub ev3 ev2))), .second] [(.int (2 : Int32)), (.ref w_bids_a0), (.double (FP.ddiv (FP.dsub d1 ev2) (FP.dsub ev3 ev2))), (.double eb2)])) t
    refine XS.iconst X18.here hx rfl (hb hby d5_85) ?_
    show Steps p.tables e below (T18.setTop (mkF m 86 #[.val (.ref a0), .val (.double d1), .second, .val (.int (-4 : Int32)), .val (.int (2 : Int32)), .val (.int (2 : Int32)), .val (.double (FP.ddiv (FP.dsub d1 ev2) (FP.dsub ev3 ev2))), .second] [(.int (1 : Int32)), (.int (2 : Int32)), (.ref w_bids_a0), (.double (FP.ddiv (FP.dsub d1 ev2) (FP.dsub ev3 ev2))), (.double eb2)])) t
    refine XS.iadd X18.here hx rfl (hb hby d5_86) rfl ?_
    exact k
  obtain ⟨c19, r19a, r19b, r19c, r19d, r19e, r19f⟩ := id V_w_bids_a0
  have i19 : ¬ ((3 : Int32) < 0 ∨ c19.slots.size ≤ ((3 : Int32)).toNatClampNeg) := inb_of r19c ⟨by decide, by decide⟩
  have y19 : c19.slots[((3 : Int32)).toNatClampNeg]? = some (.double eb3) := r19e.at i19 rfl
  refine own_st (T' := T18) (g' := (mkF m 89 #[.val (.ref a0), .val (.double d1), .second, .val (.int (-4 : Int32)), .val (.int (2 : Int32)), .val (.int (2 : Int32)), .val (.double (FP.ddiv (FP.dsub d1 ev2) (FP.dsub ev3 ev2))), .second] [(.ref a0), (.double eb3), (.double (FP.ddiv (FP.dsub d1 ev2) (FP.dsub ev3 ev2))), (.double eb2)])) (fun t k => ?_) ?_
  · show Steps p.tables e below (T18.setTop (mkF m 87 #[.val (.ref a0), .val (.double d1), .second, .val (.int (-4 : Int32)), .val (.int (2 : Int32)), .val (.int (2 : Int32)), .val (.double (FP.ddiv (FP.dsub d1 ev2) (FP.dsub ev3 ev2))), .second] [(.int (3 : Int32)), (.ref w_bids_a0), (.double (FP.ddiv (FP.dsub d1 ev2) (FP.dsub ev3 ev2))), (.double eb2)])) t
    refine X18.daload hx (j := (3 : Int32)) (v := (.double eb3)) (by rw [e18]; exact r19a.1) (State.isArrayOf_alike hZ.alike r19a.2.1) r19a.2.2 i19 y19 (g := (mkF m 87 #[.val (.ref a0), .val (.double d1), .second, .val (.int (-4 : Int32)), .val (.int (2 : Int32)), .val (.int (2 : Int32)), .val (.double (FP.ddiv (FP.dsub d1 ev2) (FP.dsub ev3 ev2))), .second] [(.int (3 : Int32)), (.ref w_bids_a0), (.double (FP.ddiv (FP.dsub d1 ev2) (FP.dsub ev3 ev2))), (.double eb2)])) rfl rfl (hb hby d5_87) _ ?_
    show Steps p.tables e below (T18.setTop (mkF m 88 #[.val (.ref a0), .val (.double d1), .second, .val (.int (-4 : Int32)), .val (.int (2 : Int32)), .val (.int (2 : Int32)), .val (.double (FP.ddiv (FP.dsub d1 ev2) (FP.dsub ev3 ev2))), .second] [(.double eb3), (.double (FP.ddiv (FP.dsub d1 ev2) (FP.dsub ev3 ev2))), (.double eb2)])) t
    refine XS.aloadN X18.here hx rfl (hb hby d5_88) rfl rfl ?_
    exact k
  obtain ⟨T20, X20, e20, st20⟩ := getF X18 hx hZ hown (host := "") (Or.inl (hw _ (List.mem_of_getElem? (i := 31) rfl))) Via.refl e18 F_bids_a0 (g := (mkF m 89 #[.val (.ref a0), .val (.double d1), .second, .val (.int (-4 : Int32)), .val (.int (2 : Int32)), .val (.int (2 : Int32)), .val (.double (FP.ddiv (FP.dsub d1 ev2) (FP.dsub ev3 ev2))), .second] [(.ref a0), (.double eb3), (.double (FP.ddiv (FP.dsub d1 ev2) (FP.dsub ev3 ev2))), (.double eb2)])) rfl rfl (hb hby d5_89)
  refine own_st (T' := T20) (g' := (mkF m 92 #[.val (.ref a0), .val (.double d1), .second, .val (.int (-4 : Int32)), .val (.int (2 : Int32)), .val (.int (2 : Int32)), .val (.double (FP.ddiv (FP.dsub d1 ev2) (FP.dsub ev3 ev2))), .second] [(.ref w_bids_a0), (.double eb3), (.double (FP.ddiv (FP.dsub d1 ev2) (FP.dsub ev3 ev2))), (.double eb2)])) st20 ?_
  refine own_st (T' := T20) (g' := (mkF m 94 #[.val (.ref a0), .val (.double d1), .second, .val (.int (-4 : Int32)), .val (.int (2 : Int32)), .val (.int (2 : Int32)), .val (.double (FP.ddiv (FP.dsub d1 ev2) (FP.dsub ev3 ev2))), .second] [(.int (2 : Int32)), (.ref w_bids_a0), (.double eb3), (.double (FP.ddiv (FP.dsub d1 ev2) (FP.dsub ev3 ev2))), (.double eb2)])) (fun t k => ?_) ?_
  · show Steps p.tables e below (T20.setTop (mkF m 92 #[.val (.ref a0), .val (.double d1), .second, .val (.int (-4 : Int32)), .val (.int (2 : Int32)), .val (.int (2 : Int32)), .val (.double (FP.ddiv (FP.dsub d1 ev2) (FP.dsub ev3 ev2))), .second] [(.ref w_bids_a0), (.double eb3), (.double (FP.ddiv (FP.dsub d1 ev2) (FP.dsub ev3 ev2))), (.double eb2)])) t
    refine XS.iload X20.here hx rfl (hb hby d5_92) rfl ?_
    exact k
  obtain ⟨c21, r21a, r21b, r21c, r21d, r21e, r21f⟩ := id V_w_bids_a0
  have i21 : ¬ ((2 : Int32) < 0 ∨ c21.slots.size ≤ ((2 : Int32)).toNatClampNeg) := inb_of r21c ⟨by decide, by decide⟩
  have y21 : c21.slots[((2 : Int32)).toNatClampNeg]? = some (.double eb2) := r21e.at i21 rfl
  refine own_st (T' := T20) (g' := (mkF m 98 #[.val (.ref a0), .val (.double d1), .second, .val (.int (-4 : Int32)), .val (.int (2 : Int32)), .val (.int (2 : Int32)), .val (.double (FP.ddiv (FP.dsub d1 ev2) (FP.dsub ev3 ev2))), .second] [(.double (FP.dadd eb2 (FP.dmul (FP.ddiv (FP.dsub d1 ev2) (FP.dsub ev3 ev2)) (FP.dsub eb3 eb2))))])) (fun t k => ?_) ?_
  · show Steps p.tables e below (T20.setTop (mkF m 94 #[.val (.ref a0), .val (.double d1), .second, .val (.int (-4 : Int32)), .val (.int (2 : Int32)), .val (.int (2 : Int32)), .val (.double (FP.ddiv (FP.dsub d1 ev2) (FP.dsub ev3 ev2))), .second] [(.int (2 : Int32)), (.ref w_bids_a0), (.double eb3), (.double (FP.ddiv (FP.dsub d1 ev2) (FP.dsub ev3 ev2))), (.double eb2)])) t
    refine X20.daload hx (j := (2 : Int32)) (v := (.double eb2)) (by rw [e20]; exact r21a.1) (State.isArrayOf_alike hZ.alike r21a.2.1) r21a.2.2 i21 y21 (g := (mkF m 94 #[.val (.ref a0), .val (.double d1), .second, .val (.int (-4 : Int32)), .val (.int (2 : Int32)), .val (.int (2 : Int32)), .val (.double (FP.ddiv (FP.dsub d1 ev2) (FP.dsub ev3 ev2))), .second] [(.int (2 : Int32)), (.ref w_bids_a0), (.double eb3), (.double (FP.ddiv (FP.dsub d1 ev2) (FP.dsub ev3 ev2))), (.double eb2)])) rfl rfl (hb hby d5_94) _ ?_
    show Steps p.tables e below (T20.setTop (mkF m 95 #[.val (.ref a0), .val (.double d1), .second, .val (.int (-4 : Int32)), .val (.int (2 : Int32)), .val (.int (2 : Int32)), .val (.double (FP.ddiv (FP.dsub d1 ev2) (FP.dsub ev3 ev2))), .second] [(.double eb2), (.double eb3), (.double (FP.ddiv (FP.dsub d1 ev2) (FP.dsub ev3 ev2))), (.double eb2)])) t
    refine XS.dsubS X20.here hx rfl (hb hby d5_95) rfl hn95 rfl ?_
    show Steps p.tables e below (T20.setTop (mkF m 96 #[.val (.ref a0), .val (.double d1), .second, .val (.int (-4 : Int32)), .val (.int (2 : Int32)), .val (.int (2 : Int32)), .val (.double (FP.ddiv (FP.dsub d1 ev2) (FP.dsub ev3 ev2))), .second] [(.double (FP.dsub eb3 eb2)), (.double (FP.ddiv (FP.dsub d1 ev2) (FP.dsub ev3 ev2))), (.double eb2)])) t
    refine XS.dmulS X20.here hx rfl (hb hby d5_96) rfl hn96 rfl ?_
    show Steps p.tables e below (T20.setTop (mkF m 97 #[.val (.ref a0), .val (.double d1), .second, .val (.int (-4 : Int32)), .val (.int (2 : Int32)), .val (.int (2 : Int32)), .val (.double (FP.ddiv (FP.dsub d1 ev2) (FP.dsub ev3 ev2))), .second] [(.double (FP.dmul (FP.ddiv (FP.dsub d1 ev2) (FP.dsub ev3 ev2)) (FP.dsub eb3 eb2))), (.double eb2)])) t
    refine XS.daddS X20.here hx rfl (hb hby d5_97) rfl hn97 rfl ?_
    exact k
  refine own_retD X20 hx hlk Bd.returns (hb hby d5_98) (by decide) (by decide) ?_
  show Qbllg Z a0 d1 w_values_a0 kk_w_values_a0 ev0 ev1 ev2 ev3 w_bids_a0 kk_w_bids_a0 eb0 eb1 eb2 eb3 h0 n0 (some (.double (FP.dadd eb2 (FP.dmul (FP.ddiv (FP.dsub d1 ev2) (FP.dsub ev3 ev2)) (FP.dsub eb3 eb2))))) T20.heap _
  rw [(e20 : T20.heap = h0)]
  exact ⟨rfl, n9, rfl⟩
theorem pnbgl : plainName "com/example/corewright/corewright/equilibrium/Strategy" = true := by first | (simp [plainName, overriddenIn]; done) | decide +kernel
theorem pdbgl_0 : parseMethodDescriptor "([DD)I" = some ⟨[(.array .double), .double], some .int⟩ := by decide +kernel
theorem pdbgl_1 : parseMethodDescriptor "(II)I" = some ⟨[.int, .int], some .int⟩ := by decide +kernel
theorem efbgl (m : MethodId) (a0 : Addr) (d1 : UInt64) : entryFrame m #[(.ref a0), (.double d1)] 8 = mkF m 0 #[.val (.ref a0), .val (.double d1), .second, .unset, .unset, .unset, .unset, .unset] [] := by first | (simp [entryFrame, mkF, argsToLocals, Value.category]; done) | rfl
def Qbgl (Z : State) (a0 : Addr) (d1 : UInt64) (w_values_a0 : Addr) (kk_w_values_a0 : ClassId) (ev0 : UInt64) (ev1 : UInt64) (ev2 : UInt64) (ev3 : UInt64) (w_bids_a0 : Addr) (kk_w_bids_a0 : ClassId) (eb0 : UInt64) (eb1 : UInt64) (eb2 : UInt64) (eb3 : UInt64) (h0 : Heap) (n0 : Nat) (v : Option Value) (h : Heap) (L : List Loc) : Prop := v = some (.double (FP.dadd eb0 (FP.dmul (FP.ddiv (FP.dsub d1 ev0) (FP.dsub ev1 ev0)) (FP.dsub eb1 eb0)))) ∧ Fr n0 L ∧ h = h0
set_option maxRecDepth 65536 in
set_option maxHeartbeats 40000000 in
theorem rmbgl (l : Launch) (Z : State) (ar : Array Value) (hw : ∀ d ∈ tables_1, d.before ar Z = true) (ws : List Jvm.Cond) (a0 : Addr) (d1 : UInt64) (w_values_a0 : Addr) (kk_w_values_a0 : ClassId) (ev0 : UInt64) (ev1 : UInt64) (ev2 : UInt64) (ev3 : UInt64) (w_bids_a0 : Addr) (kk_w_bids_a0 : ClassId) (eb0 : UInt64) (eb1 : UInt64) (eb2 : UInt64) (eb3 : UInt64) (h0 : Heap) (n0 : Nat) (Z0 : n0 ≤ h0.size) (E_a0 : Exa Z h0 a0 "com/example/corewright/corewright/equilibrium/Strategy") (F_values_a0 : Fld Z h0 a0 "com/example/corewright/corewright/equilibrium/Strategy" "values" "[D" (.ref w_values_a0)) (V_w_values_a0 : Arv Z h0 w_values_a0 kk_w_values_a0 .double (4 : Int32) [(.double ev0), (.double ev1), (.double ev2), (.double ev3)] (.double (0 : UInt64))) (F_bids_a0 : Fld Z h0 a0 "com/example/corewright/corewright/equilibrium/Strategy" "bids" "[D" (.ref w_bids_a0)) (V_w_bids_a0 : Arv Z h0 w_bids_a0 kk_w_bids_a0 .double (4 : Int32) [(.double eb0), (.double eb1), (.double eb2), (.double eb3)] (.double (0 : UInt64))) (h5_h5_hb34 : ¬ ((cmpValue (FP.dcmp ev1 d1) .g) < (0 : Int32))) (h5_h5_hb50 : (0 : Int32) < (cmpValue (FP.dcmp ev1 d1) .l)) (h5_h5_hb34_1 : (cmpValue (FP.dcmp ev0 d1) .g) < (0 : Int32)) (hn49 : Jvm.Free.Fl.NoNaN64 (FP.dsub d1 ev0)) (hn66 : Jvm.Free.Fl.NoNaN64 (FP.dsub ev1 ev0)) (hn67 : Jvm.Free.Fl.NoNaN64 (FP.ddiv (FP.dsub d1 ev0) (FP.dsub ev1 ev0))) (hn95 : Jvm.Free.Fl.NoNaN64 (FP.dsub eb1 eb0)) (hn96 : Jvm.Free.Fl.NoNaN64 (FP.dmul (FP.ddiv (FP.dsub d1 ev0) (FP.dsub ev1 ev0)) (FP.dsub eb1 eb0))) (hn97 : Jvm.Free.Fl.NoNaN64 (FP.dadd eb0 (FP.dmul (FP.ddiv (FP.dsub d1 ev0) (FP.dsub ev1 ev0)) (FP.dsub eb1 eb0)))) :
    MetFree l (⟨"com/example/corewright/corewright/equilibrium/Strategy", "bid", "(D)D"⟩ : MethodName) (head1 (Jvm.Cond.code (⟨"com/example/corewright/corewright/equilibrium/Strategy", "bid", "(D)D"⟩ : MethodName) prog_21_method_9_code 8 (some .double) :: ws) ({ frames := 2, cells := 0, slots := 0, locals := 39 } : Room)) (fun a U => a = #[(.ref a0), (.double d1)] ∧ Z.Warmed39 U.vm ∧ U.heap = h0) (fun _ _ _ _ _ => True) (fun _ U o U' => ∃ v L, o = .returned v ∧ Qbgl Z a0 d1 w_values_a0 kk_w_values_a0 ev0 ev1 ev2 ev3 w_bids_a0 kk_w_bids_a0 eb0 eb1 eb2 eb3 h0 n0 v U'.heap L ∧ FrameEnd U o U' L ({ frames := 2, cells := 0, slots := 0, locals := 39 } : Room).cells ({ frames := 2, cells := 0, slots := 0, locals := 39 } : Room).slots) := by
  refine MetFree.of_bodySF (plainFor_of_name pnbgl) hisR ?_
  intro p e s m args below meth c s₁ Bd hml0 hP hK
  obtain ⟨rfl, hZ, hh⟩ := hP
  have hx := Bd.exec
  have hby := Bd.bytes
  have hlk := Bd.notSynchronized
  have hml : c.maxLocals = 8 := hml0
  have hown : s.vm.findClass "com/example/corewright/corewright/equilibrium/Strategy" = some m.cls := findClass_of_methodNamed Bd.named
  have hnm := (name_of_methodNamed Bd.named Bd.method).1
  have X0 : Stand p l e ({ frames := 2, cells := 0, slots := 0, locals := 39 } : Room) s m #[(.ref a0), (.double d1)] below meth c s₁ [] 0 0 := Stand.of_body Bd
  have e0 : s₁.heap = h0 := by rw [← hh, Bd.state]; rfl
  have N0 := Fr.nil n0
  have K0 := Keep.refl h0 []
  refine own_enter (Q := Qbgl Z a0 d1 w_values_a0 kk_w_values_a0 ev0 ev1 ev2 ev3 w_bids_a0 kk_w_bids_a0 eb0 eb1 eb2 eb3 h0 n0) (efbgl m a0 d1) ?_
  refine own_st (T' := s₁) (g' := (mkF m 1 #[.val (.ref a0), .val (.double d1), .second, .unset, .unset, .unset, .unset, .unset] [(.ref a0)])) (fun t k => ?_) ?_
  · show Steps p.tables e below (s₁.setTop (mkF m 0 #[.val (.ref a0), .val (.double d1), .second, .unset, .unset, .unset, .unset, .unset] [])) t
    refine XS.aloadN X0.here hx rfl (hb hby d5_0) rfl rfl ?_
    exact k
  obtain ⟨T1, X1, e1, st1⟩ := getF X0 hx hZ hown (host := "") (Or.inl (hw _ (List.mem_of_getElem? (i := 29) rfl))) Via.refl e0 F_values_a0 (g := (mkF m 1 #[.val (.ref a0), .val (.double d1), .second, .unset, .unset, .unset, .unset, .unset] [(.ref a0)])) rfl rfl (hb hby d5_1)
  refine own_st (T' := T1) (g' := (mkF m 4 #[.val (.ref a0), .val (.double d1), .second, .unset, .unset, .unset, .unset, .unset] [(.ref w_values_a0)])) st1 ?_
  refine own_st (T' := T1) (g' := (mkF m 5 #[.val (.ref a0), .val (.double d1), .second, .unset, .unset, .unset, .unset, .unset] [(.double d1), (.ref w_values_a0)])) (fun t k => ?_) ?_
  · show Steps p.tables e below (T1.setTop (mkF m 4 #[.val (.ref a0), .val (.double d1), .second, .unset, .unset, .unset, .unset, .unset] [(.ref w_values_a0)])) t
    refine XS.dloadN X1.here hx rfl (hb hby d5_4) rfl ?_
    exact k
  obtain ⟨_, _, ⟨T2, L2, k2, n2⟩, -, X2, ⟨Lc2, hQ2, l2, y2, z2⟩, st2⟩ := Jvm.LawKit.callS X1 hx (y := (⟨"java/util/Arrays", "binarySearch", "([DD)I"⟩ : MethodName)) hown (mvT hZ (hw _ (List.mem_of_getElem? (i := 38) rfl))) (mvT hZ (hw _ (List.mem_of_getElem? (i := 39) rfl))) (mvT hZ (hw _ (List.mem_of_getElem? (i := 40) rfl))) (mvT hZ (hw _ (List.mem_of_getElem? (i := 41) rfl))) (by decide) (backOf (W := 0) (rmtgl l Z ar hw [] w_values_a0 d1 kk_w_values_a0 ev0 ev1 ev2 ev3 h0 n0 Z0 V_w_values_a0 h5_h5_hb34 h5_h5_hb50 h5_h5_hb34_1) hZ (hw _ (List.mem_of_getElem? (i := 41) rfl)) (hw _ (List.mem_of_getElem? (i := 40) rfl)) (by decide) (by decide)) (g := (mkF m 5 #[.val (.ref a0), .val (.double d1), .second, .unset, .unset, .unset, .unset, .unset] [(.double d1), (.ref w_values_a0)])) rfl (by rw [hml]; rfl) (argsL := [(.ref w_values_a0), (.double d1)]) (rest := []) (lenOf pdbgl_0 rfl) rfl (by show 2 * 0 + _ ≤ _; exact Nat.le_of_eq rfl) (hb hby d5_5) (fun _ _ => ⟨rfl, e1, (by decide : 0 + 0 ≤ _), (by decide : 0 + 0 ≤ _)⟩)
  dsimp only [Pt.U, Pt.locs, Pt.cells, Pt.slots] at X2 l2 y2 z2 st2 hQ2
  subst l2 y2 z2
  obtain ⟨rfl, N2q, e2⟩ := hQ2
  have n3 := Fr.app N0 N2q
  refine own_st (T' := T2) (g' := (mkF m 8 #[.val (.ref a0), .val (.double d1), .second, .unset, .unset, .unset, .unset, .unset] [(.int (-2 : Int32))])) st2 ?_
  refine own_st (T' := T2) (g' := (mkF m 26 #[.val (.ref a0), .val (.double d1), .second, .val (.int (-2 : Int32)), .val (.int (0 : Int32)), .unset, .unset, .unset] [(.int (0 : Int32)), (.int (0 : Int32))])) (fun t k => ?_) ?_
  · show Steps p.tables e below (T2.setTop (mkF m 8 #[.val (.ref a0), .val (.double d1), .second, .unset, .unset, .unset, .unset, .unset] [(.int (-2 : Int32))])) t
    refine XS.istoreN X2.here hx rfl (hb hby d5_8) rfl (l' := #[.val (.ref a0), .val (.double d1), .second, .val (.int (-2 : Int32)), .unset, .unset, .unset, .unset]) rfl ?_
    show Steps p.tables e below (T2.setTop (mkF m 9 #[.val (.ref a0), .val (.double d1), .second, .val (.int (-2 : Int32)), .unset, .unset, .unset, .unset] [])) t
    refine XS.iloadN X2.here hx rfl (hb hby d5_9) rfl ?_
    show Steps p.tables e below (T2.setTop (mkF m 10 #[.val (.ref a0), .val (.double d1), .second, .val (.int (-2 : Int32)), .unset, .unset, .unset, .unset] [(.int (-2 : Int32))])) t
    refine XS.ifYes X2.here hx rfl (pc0 := 10) (pc' := 17) rfl (hb hby d5_10) rfl (by decide) (by decide) (by decide) ?_
    show Steps p.tables e below (T2.setTop (mkF m 17 #[.val (.ref a0), .val (.double d1), .second, .val (.int (-2 : Int32)), .unset, .unset, .unset, .unset] [])) t
    refine XS.iloadN X2.here hx rfl (hb hby d5_17) rfl ?_
    show Steps p.tables e below (T2.setTop (mkF m 18 #[.val (.ref a0), .val (.double d1), .second, .val (.int (-2 : Int32)), .unset, .unset, .unset, .unset] [(.int (-2 : Int32))])) t
    refine XS.ineg X2.here hx rfl (hb hby d5_18) rfl ?_
    show Steps p.tables e below (T2.setTop (mkF m 19 #[.val (.ref a0), .val (.double d1), .second, .val (.int (-2 : Int32)), .unset, .unset, .unset, .unset] [(.int (2 : Int32))])) t
    refine XS.iconst X2.here hx rfl (hb hby d5_19) ?_
    show Steps p.tables e below (T2.setTop (mkF m 20 #[.val (.ref a0), .val (.double d1), .second, .val (.int (-2 : Int32)), .unset, .unset, .unset, .unset] [(.int (2 : Int32)), (.int (2 : Int32))])) t
    refine XS.isub X2.here hx rfl (hb hby d5_20) rfl ?_
    show Steps p.tables e below (T2.setTop (mkF m 21 #[.val (.ref a0), .val (.double d1), .second, .val (.int (-2 : Int32)), .unset, .unset, .unset, .unset] [(.int (0 : Int32))])) t
    refine XS.istore X2.here hx rfl (hb hby d5_21) rfl (l' := #[.val (.ref a0), .val (.double d1), .second, .val (.int (-2 : Int32)), .val (.int (0 : Int32)), .unset, .unset, .unset]) rfl ?_
    show Steps p.tables e below (T2.setTop (mkF m 23 #[.val (.ref a0), .val (.double d1), .second, .val (.int (-2 : Int32)), .val (.int (0 : Int32)), .unset, .unset, .unset] [])) t
    refine XS.iload X2.here hx rfl (hb hby d5_23) rfl ?_
    show Steps p.tables e below (T2.setTop (mkF m 25 #[.val (.ref a0), .val (.double d1), .second, .val (.int (-2 : Int32)), .val (.int (0 : Int32)), .unset, .unset, .unset] [(.int (0 : Int32))])) t
    refine XS.iconst X2.here hx rfl (hb hby d5_25) ?_
    exact k
  obtain ⟨_, _, ⟨T4, L4, k4, n4⟩, -, X4, ⟨Lc4, hQ4, l4, y4, z4⟩, st4⟩ := Jvm.LawKit.callS X2 hx (y := (⟨"java/lang/Math", "max", "(II)I"⟩ : MethodName)) hown (mvT hZ (hw _ (List.mem_of_getElem? (i := 54) rfl))) (mvT hZ (hw _ (List.mem_of_getElem? (i := 55) rfl))) (mvT hZ (hw _ (List.mem_of_getElem? (i := 17) rfl))) (mvT hZ (hw _ (List.mem_of_getElem? (i := 56) rfl))) (by decide) (backOf (W := 0) (rmmx0 l Z ar hw [] ((0 : Int32)) ((0 : Int32)) h0 n0 Z0 (by decide)) hZ (hw _ (List.mem_of_getElem? (i := 56) rfl)) (hw _ (List.mem_of_getElem? (i := 17) rfl)) (by decide) (by decide)) (g := (mkF m 26 #[.val (.ref a0), .val (.double d1), .second, .val (.int (-2 : Int32)), .val (.int (0 : Int32)), .unset, .unset, .unset] [(.int (0 : Int32)), (.int (0 : Int32))])) rfl (by rw [hml]; rfl) (argsL := [(.int (0 : Int32)), (.int (0 : Int32))]) (rest := []) (lenOf pdbgl_1 rfl) rfl (by show 2 * 0 + _ ≤ _; exact Nat.le_of_eq rfl) (hb hby d5_26) (fun _ _ => ⟨rfl, e2, (by decide : 0 + 0 ≤ _), (by decide : 0 + 0 ≤ _)⟩)
  dsimp only [Pt.U, Pt.locs, Pt.cells, Pt.slots] at X4 l4 y4 z4 st4 hQ4
  subst l4 y4 z4
  obtain ⟨rfl, N4q, e4⟩ := hQ4
  have n5 := Fr.app n3 N4q
  refine own_st (T' := T4) (g' := (mkF m 29 #[.val (.ref a0), .val (.double d1), .second, .val (.int (-2 : Int32)), .val (.int (0 : Int32)), .unset, .unset, .unset] [(.int (0 : Int32))])) st4 ?_
  refine own_st (T' := T4) (g' := (mkF m 30 #[.val (.ref a0), .val (.double d1), .second, .val (.int (-2 : Int32)), .val (.int (0 : Int32)), .unset, .unset, .unset] [(.ref a0), (.int (0 : Int32))])) (fun t k => ?_) ?_
  · show Steps p.tables e below (T4.setTop (mkF m 29 #[.val (.ref a0), .val (.double d1), .second, .val (.int (-2 : Int32)), .val (.int (0 : Int32)), .unset, .unset, .unset] [(.int (0 : Int32))])) t
    refine XS.aloadN X4.here hx rfl (hb hby d5_29) rfl rfl ?_
    exact k
  obtain ⟨T6, X6, e6, st6⟩ := getF X4 hx hZ hown (host := "") (Or.inl (hw _ (List.mem_of_getElem? (i := 29) rfl))) Via.refl e4 F_values_a0 (g := (mkF m 30 #[.val (.ref a0), .val (.double d1), .second, .val (.int (-2 : Int32)), .val (.int (0 : Int32)), .unset, .unset, .unset] [(.ref a0), (.int (0 : Int32))])) rfl rfl (hb hby d5_30)
  refine own_st (T' := T6) (g' := (mkF m 33 #[.val (.ref a0), .val (.double d1), .second, .val (.int (-2 : Int32)), .val (.int (0 : Int32)), .unset, .unset, .unset] [(.ref w_values_a0), (.int (0 : Int32))])) st6 ?_
  obtain ⟨c7, r7a, -, r7c, r7d, -, -⟩ := id V_w_values_a0
  refine own_st (T' := T6) (g' := (mkF m 36 #[.val (.ref a0), .val (.double d1), .second, .val (.int (-2 : Int32)), .val (.int (0 : Int32)), .unset, .unset, .unset] [(.int (2 : Int32)), (.int (0 : Int32))])) (fun t k => ?_) ?_
  · show Steps p.tables e below (T6.setTop (mkF m 33 #[.val (.ref a0), .val (.double d1), .second, .val (.int (-2 : Int32)), .val (.int (0 : Int32)), .unset, .unset, .unset] [(.ref w_values_a0), (.int (0 : Int32))])) t
    refine X6.arraylength hx (by rw [e6]; exact r7a.1) (State.isArrayOf_alike hZ.alike r7a.2.1) (g := (mkF m 33 #[.val (.ref a0), .val (.double d1), .second, .val (.int (-2 : Int32)), .val (.int (0 : Int32)), .unset, .unset, .unset] [(.ref w_values_a0), (.int (0 : Int32))])) rfl rfl (hb hby d5_33) _ ?_
    rw [len_of r7c r7d]
    show Steps p.tables e below (T6.setTop (mkF m 34 #[.val (.ref a0), .val (.double d1), .second, .val (.int (-2 : Int32)), .val (.int (0 : Int32)), .unset, .unset, .unset] [(.int (4 : Int32)), (.int (0 : Int32))])) t
    refine XS.iconst X6.here hx rfl (hb hby d5_34) ?_
    show Steps p.tables e below (T6.setTop (mkF m 35 #[.val (.ref a0), .val (.double d1), .second, .val (.int (-2 : Int32)), .val (.int (0 : Int32)), .unset, .unset, .unset] [(.int (2 : Int32)), (.int (4 : Int32)), (.int (0 : Int32))])) t
    refine XS.isub X6.here hx rfl (hb hby d5_35) rfl ?_
    exact k
  obtain ⟨_, _, ⟨T8, L8, k8, n8⟩, -, X8, ⟨Lc8, hQ8, l8, y8, z8⟩, st8⟩ := Jvm.LawKit.callS X6 hx (y := (⟨"java/lang/Math", "min", "(II)I"⟩ : MethodName)) hown (mvT hZ (hw _ (List.mem_of_getElem? (i := 57) rfl))) (mvT hZ (hw _ (List.mem_of_getElem? (i := 58) rfl))) (mvT hZ (hw _ (List.mem_of_getElem? (i := 17) rfl))) (mvT hZ (hw _ (List.mem_of_getElem? (i := 59) rfl))) (by decide) (backOf (W := 0) (rmmn0 l Z ar hw [] ((0 : Int32)) ((2 : Int32)) h0 n0 Z0 (by decide)) hZ (hw _ (List.mem_of_getElem? (i := 59) rfl)) (hw _ (List.mem_of_getElem? (i := 17) rfl)) (by decide) (by decide)) (g := (mkF m 36 #[.val (.ref a0), .val (.double d1), .second, .val (.int (-2 : Int32)), .val (.int (0 : Int32)), .unset, .unset, .unset] [(.int (2 : Int32)), (.int (0 : Int32))])) rfl (by rw [hml]; rfl) (argsL := [(.int (0 : Int32)), (.int (2 : Int32))]) (rest := []) (lenOf pdbgl_1 rfl) rfl (by show 2 * 0 + _ ≤ _; exact Nat.le_of_eq rfl) (hb hby d5_36) (fun _ _ => ⟨rfl, e6, (by decide : 0 + 0 ≤ _), (by decide : 0 + 0 ≤ _)⟩)
  dsimp only [Pt.U, Pt.locs, Pt.cells, Pt.slots] at X8 l8 y8 z8 st8 hQ8
  subst l8 y8 z8
  obtain ⟨rfl, N8q, e8⟩ := hQ8
  have n9 := Fr.app n5 N8q
  refine own_st (T' := T8) (g' := (mkF m 39 #[.val (.ref a0), .val (.double d1), .second, .val (.int (-2 : Int32)), .val (.int (0 : Int32)), .unset, .unset, .unset] [(.int (0 : Int32))])) st8 ?_
  refine own_st (T' := T8) (g' := (mkF m 43 #[.val (.ref a0), .val (.double d1), .second, .val (.int (-2 : Int32)), .val (.int (0 : Int32)), .val (.int (0 : Int32)), .unset, .unset] [(.ref a0), (.double d1)])) (fun t k => ?_) ?_
  · show Steps p.tables e below (T8.setTop (mkF m 39 #[.val (.ref a0), .val (.double d1), .second, .val (.int (-2 : Int32)), .val (.int (0 : Int32)), .unset, .unset, .unset] [(.int (0 : Int32))])) t
    refine XS.istore X8.here hx rfl (hb hby d5_39) rfl (l' := #[.val (.ref a0), .val (.double d1), .second, .val (.int (-2 : Int32)), .val (.int (0 : Int32)), .val (.int (0 : Int32)), .unset, .unset]) rfl ?_
    show Steps p.tables e below (T8.setTop (mkF m 41 #[.val (.ref a0), .val (.double d1), .second, .val (.int (-2 : Int32)), .val (.int (0 : Int32)), .val (.int (0 : Int32)), .unset, .unset] [])) t
    refine XS.dloadN X8.here hx rfl (hb hby d5_41) rfl ?_
    show Steps p.tables e below (T8.setTop (mkF m 42 #[.val (.ref a0), .val (.double d1), .second, .val (.int (-2 : Int32)), .val (.int (0 : Int32)), .val (.int (0 : Int32)), .unset, .unset] [(.double d1)])) t
    refine XS.aloadN X8.here hx rfl (hb hby d5_42) rfl rfl ?_
    exact k
  obtain ⟨T10, X10, e10, st10⟩ := getF X8 hx hZ hown (host := "") (Or.inl (hw _ (List.mem_of_getElem? (i := 29) rfl))) Via.refl e8 F_values_a0 (g := (mkF m 43 #[.val (.ref a0), .val (.double d1), .second, .val (.int (-2 : Int32)), .val (.int (0 : Int32)), .val (.int (0 : Int32)), .unset, .unset] [(.ref a0), (.double d1)])) rfl rfl (hb hby d5_43)
  refine own_st (T' := T10) (g' := (mkF m 46 #[.val (.ref a0), .val (.double d1), .second, .val (.int (-2 : Int32)), .val (.int (0 : Int32)), .val (.int (0 : Int32)), .unset, .unset] [(.ref w_values_a0), (.double d1)])) st10 ?_
  refine own_st (T' := T10) (g' := (mkF m 48 #[.val (.ref a0), .val (.double d1), .second, .val (.int (-2 : Int32)), .val (.int (0 : Int32)), .val (.int (0 : Int32)), .unset, .unset] [(.int (0 : Int32)), (.ref w_values_a0), (.double d1)])) (fun t k => ?_) ?_
  · show Steps p.tables e below (T10.setTop (mkF m 46 #[.val (.ref a0), .val (.double d1), .second, .val (.int (-2 : Int32)), .val (.int (0 : Int32)), .val (.int (0 : Int32)), .unset, .unset] [(.ref w_values_a0), (.double d1)])) t
    refine XS.iload X10.here hx rfl (hb hby d5_46) rfl ?_
    exact k
  obtain ⟨c11, r11a, r11b, r11c, r11d, r11e, r11f⟩ := id V_w_values_a0
  have i11 : ¬ ((0 : Int32) < 0 ∨ c11.slots.size ≤ ((0 : Int32)).toNatClampNeg) := inb_of r11c ⟨by decide, by decide⟩
  have y11 : c11.slots[((0 : Int32)).toNatClampNeg]? = some (.double ev0) := r11e.at i11 rfl
  refine own_st (T' := T10) (g' := (mkF m 51 #[.val (.ref a0), .val (.double d1), .second, .val (.int (-2 : Int32)), .val (.int (0 : Int32)), .val (.int (0 : Int32)), .unset, .unset] [(.ref a0), (.double (FP.dsub d1 ev0))])) (fun t k => ?_) ?_
  · show Steps p.tables e below (T10.setTop (mkF m 48 #[.val (.ref a0), .val (.double d1), .second, .val (.int (-2 : Int32)), .val (.int (0 : Int32)), .val (.int (0 : Int32)), .unset, .unset] [(.int (0 : Int32)), (.ref w_values_a0), (.double d1)])) t
    refine X10.daload hx (j := (0 : Int32)) (v := (.double ev0)) (by rw [e10]; exact r11a.1) (State.isArrayOf_alike hZ.alike r11a.2.1) r11a.2.2 i11 y11 (g := (mkF m 48 #[.val (.ref a0), .val (.double d1), .second, .val (.int (-2 : Int32)), .val (.int (0 : Int32)), .val (.int (0 : Int32)), .unset, .unset] [(.int (0 : Int32)), (.ref w_values_a0), (.double d1)])) rfl rfl (hb hby d5_48) _ ?_
    show Steps p.tables e below (T10.setTop (mkF m 49 #[.val (.ref a0), .val (.double d1), .second, .val (.int (-2 : Int32)), .val (.int (0 : Int32)), .val (.int (0 : Int32)), .unset, .unset] [(.double ev0), (.double d1)])) t
    refine XS.dsubS X10.here hx rfl (hb hby d5_49) rfl hn49 rfl ?_
    show Steps p.tables e below (T10.setTop (mkF m 50 #[.val (.ref a0), .val (.double d1), .second, .val (.int (-2 : Int32)), .val (.int (0 : Int32)), .val (.int (0 : Int32)), .unset, .unset] [(.double (FP.dsub d1 ev0))])) t
    refine XS.aloadN X10.here hx rfl (hb hby d5_50) rfl rfl ?_
    exact k
  obtain ⟨T12, X12, e12, st12⟩ := getF X10 hx hZ hown (host := "") (Or.inl (hw _ (List.mem_of_getElem? (i := 29) rfl))) Via.refl e10 F_values_a0 (g := (mkF m 51 #[.val (.ref a0), .val (.double d1), .second, .val (.int (-2 : Int32)), .val (.int (0 : Int32)), .val (.int (0 : Int32)), .unset, .unset] [(.ref a0), (.double (FP.dsub d1 ev0))])) rfl rfl (hb hby d5_51)
  refine own_st (T' := T12) (g' := (mkF m 54 #[.val (.ref a0), .val (.double d1), .second, .val (.int (-2 : Int32)), .val (.int (0 : Int32)), .val (.int (0 : Int32)), .unset, .unset] [(.ref w_values_a0), (.double (FP.dsub d1 ev0))])) st12 ?_
  refine own_st (T' := T12) (g' := (mkF m 58 #[.val (.ref a0), .val (.double d1), .second, .val (.int (-2 : Int32)), .val (.int (0 : Int32)), .val (.int (0 : Int32)), .unset, .unset] [(.int (1 : Int32)), (.ref w_values_a0), (.double (FP.dsub d1 ev0))])) (fun t k => ?_) ?_
  · show Steps p.tables e below (T12.setTop (mkF m 54 #[.val (.ref a0), .val (.double d1), .second, .val (.int (-2 : Int32)), .val (.int (0 : Int32)), .val (.int (0 : Int32)), .unset, .unset] [(.ref w_values_a0), (.double (FP.dsub d1 ev0))])) t
    refine XS.iload X12.here hx rfl (hb hby d5_54) rfl ?_
    show Steps p.tables e below (T12.setTop (mkF m 56 #[.val (.ref a0), .val (.double d1), .second, .val (.int (-2 : Int32)), .val (.int (0 : Int32)), .val (.int (0 : Int32)), .unset, .unset] [(.int (0 : Int32)), (.ref w_values_a0), (.double (FP.dsub d1 ev0))])) t
    refine XS.iconst X12.here hx rfl (hb hby d5_56) ?_
    show Steps p.tables e below (T12.setTop (mkF m 57 #[.val (.ref a0), .val (.double d1), .second, .val (.int (-2 : Int32)), .val (.int (0 : Int32)), .val (.int (0 : Int32)), .unset, .unset] [(.int (1 : Int32)), (.int (0 : Int32)), (.ref w_values_a0), (.double (FP.dsub d1 ev0))])) t
    refine XS.iadd X12.here hx rfl (hb hby d5_57) rfl ?_
    exact k
  obtain ⟨c13, r13a, r13b, r13c, r13d, r13e, r13f⟩ := id V_w_values_a0
  have i13 : ¬ ((1 : Int32) < 0 ∨ c13.slots.size ≤ ((1 : Int32)).toNatClampNeg) := inb_of r13c ⟨by decide, by decide⟩
  have y13 : c13.slots[((1 : Int32)).toNatClampNeg]? = some (.double ev1) := r13e.at i13 rfl
  refine own_st (T' := T12) (g' := (mkF m 60 #[.val (.ref a0), .val (.double d1), .second, .val (.int (-2 : Int32)), .val (.int (0 : Int32)), .val (.int (0 : Int32)), .unset, .unset] [(.ref a0), (.double ev1), (.double (FP.dsub d1 ev0))])) (fun t k => ?_) ?_
  · show Steps p.tables e below (T12.setTop (mkF m 58 #[.val (.ref a0), .val (.double d1), .second, .val (.int (-2 : Int32)), .val (.int (0 : Int32)), .val (.int (0 : Int32)), .unset, .unset] [(.int (1 : Int32)), (.ref w_values_a0), (.double (FP.dsub d1 ev0))])) t
    refine X12.daload hx (j := (1 : Int32)) (v := (.double ev1)) (by rw [e12]; exact r13a.1) (State.isArrayOf_alike hZ.alike r13a.2.1) r13a.2.2 i13 y13 (g := (mkF m 58 #[.val (.ref a0), .val (.double d1), .second, .val (.int (-2 : Int32)), .val (.int (0 : Int32)), .val (.int (0 : Int32)), .unset, .unset] [(.int (1 : Int32)), (.ref w_values_a0), (.double (FP.dsub d1 ev0))])) rfl rfl (hb hby d5_58) _ ?_
    show Steps p.tables e below (T12.setTop (mkF m 59 #[.val (.ref a0), .val (.double d1), .second, .val (.int (-2 : Int32)), .val (.int (0 : Int32)), .val (.int (0 : Int32)), .unset, .unset] [(.double ev1), (.double (FP.dsub d1 ev0))])) t
    refine XS.aloadN X12.here hx rfl (hb hby d5_59) rfl rfl ?_
    exact k
  obtain ⟨T14, X14, e14, st14⟩ := getF X12 hx hZ hown (host := "") (Or.inl (hw _ (List.mem_of_getElem? (i := 29) rfl))) Via.refl e12 F_values_a0 (g := (mkF m 60 #[.val (.ref a0), .val (.double d1), .second, .val (.int (-2 : Int32)), .val (.int (0 : Int32)), .val (.int (0 : Int32)), .unset, .unset] [(.ref a0), (.double ev1), (.double (FP.dsub d1 ev0))])) rfl rfl (hb hby d5_60)
  refine own_st (T' := T14) (g' := (mkF m 63 #[.val (.ref a0), .val (.double d1), .second, .val (.int (-2 : Int32)), .val (.int (0 : Int32)), .val (.int (0 : Int32)), .unset, .unset] [(.ref w_values_a0), (.double ev1), (.double (FP.dsub d1 ev0))])) st14 ?_
  refine own_st (T' := T14) (g' := (mkF m 65 #[.val (.ref a0), .val (.double d1), .second, .val (.int (-2 : Int32)), .val (.int (0 : Int32)), .val (.int (0 : Int32)), .unset, .unset] [(.int (0 : Int32)), (.ref w_values_a0), (.double ev1), (.double (FP.dsub d1 ev0))])) (fun t k => ?_) ?_
  · show Steps p.tables e below (T14.setTop (mkF m 63 #[.val (.ref a0), .val (.double d1), .second, .val (.int (-2 : Int32)), .val (.int (0 : Int32)), .val (.int (0 : Int32)), .unset, .unset] [(.ref w_values_a0), (.double ev1), (.double (FP.dsub d1 ev0))])) t
    refine XS.iload X14.here hx rfl (hb hby d5_63) rfl ?_
    exact k
  obtain ⟨c15, r15a, r15b, r15c, r15d, r15e, r15f⟩ := id V_w_values_a0
  have i15 : ¬ ((0 : Int32) < 0 ∨ c15.slots.size ≤ ((0 : Int32)).toNatClampNeg) := inb_of r15c ⟨by decide, by decide⟩
  have y15 : c15.slots[((0 : Int32)).toNatClampNeg]? = some (.double ev0) := r15e.at i15 rfl
  refine own_st (T' := T14) (g' := (mkF m 71 #[.val (.ref a0), .val (.double d1), .second, .val (.int (-2 : Int32)), .val (.int (0 : Int32)), .val (.int (0 : Int32)), .val (.double (FP.ddiv (FP.dsub d1 ev0) (FP.dsub ev1 ev0))), .second] [(.ref a0)])) (fun t k => ?_) ?_
  · show Steps p.tables e below (T14.setTop (mkF m 65 #[.val (.ref a0), .val (.double d1), .second, .val (.int (-2 : Int32)), .val (.int (0 : Int32)), .val (.int (0 : Int32)), .unset, .unset] [(.int (0 : Int32)), (.ref w_values_a0), (.double ev1), (.double (FP.dsub d1 ev0))])) t
    refine X14.daload hx (j := (0 : Int32)) (v := (.double ev0)) (by rw [e14]; exact r15a.1) (State.isArrayOf_alike hZ.alike r15a.2.1) r15a.2.2 i15 y15 (g := (mkF m 65 #[.val (.ref a0), .val (.double d1), .second, .val (.int (-2 : Int32)), .val (.int (0 : Int32)), .val (.int (0 : Int32)), .unset, .unset] [(.int (0 : Int32)), (.ref w_values_a0), (.double ev1), (.double (FP.dsub d1 ev0))])) rfl rfl (hb hby d5_65) _ ?_
    show Steps p.tables e below (T14.setTop (mkF m 66 #[.val (.ref a0), .val (.double d1), .second, .val (.int (-2 : Int32)), .val (.int (0 : Int32)), .val (.int (0 : Int32)), .unset, .unset] [(.double ev0), (.double ev1), (.double (FP.dsub d1 ev0))])) t
    refine XS.dsubS X14.here hx rfl (hb hby d5_66) rfl hn66 rfl ?_
    show Steps p.tables e below (T14.setTop (mkF m 67 #[.val (.ref a0), .val (.double d1), .second, .val (.int (-2 : Int32)), .val (.int (0 : Int32)), .val (.int (0 : Int32)), .unset, .unset] [(.double (FP.dsub ev1 ev0)), (.double (FP.dsub d1 ev0))])) t
    refine XS.ddivS X14.here hx rfl (hb hby d5_67) rfl hn67 rfl ?_
    show Steps p.tables e below (T14.setTop (mkF m 68 #[.val (.ref a0), .val (.double d1), .second, .val (.int (-2 : Int32)), .val (.int (0 : Int32)), .val (.int (0 : Int32)), .unset, .unset] [(.double (FP.ddiv (FP.dsub d1 ev0) (FP.dsub ev1 ev0)))])) t
    refine XS.dstore X14.here hx rfl (hb hby d5_68) rfl (l' := #[.val (.ref a0), .val (.double d1), .second, .val (.int (-2 : Int32)), .val (.int (0 : Int32)), .val (.int (0 : Int32)), .val (.double (FP.ddiv (FP.dsub d1 ev0) (FP.dsub ev1 ev0))), .second]) rfl ?_
    show Steps p.tables e below (T14.setTop (mkF m 70 #[.val (.ref a0), .val (.double d1), .second, .val (.int (-2 : Int32)), .val (.int (0 : Int32)), .val (.int (0 : Int32)), .val (.double (FP.ddiv (FP.dsub d1 ev0) (FP.dsub ev1 ev0))), .second] [])) t
    refine XS.aloadN X14.here hx rfl (hb hby d5_70) rfl rfl ?_
    exact k
  obtain ⟨T16, X16, e16, st16⟩ := getF X14 hx hZ hown (host := "") (Or.inl (hw _ (List.mem_of_getElem? (i := 31) rfl))) Via.refl e14 F_bids_a0 (g := (mkF m 71 #[.val (.ref a0), .val (.double d1), .second, .val (.int (-2 : Int32)), .val (.int (0 : Int32)), .val (.int (0 : Int32)), .val (.double (FP.ddiv (FP.dsub d1 ev0) (FP.dsub ev1 ev0))), .second] [(.ref a0)])) rfl rfl (hb hby d5_71)
  refine own_st (T' := T16) (g' := (mkF m 74 #[.val (.ref a0), .val (.double d1), .second, .val (.int (-2 : Int32)), .val (.int (0 : Int32)), .val (.int (0 : Int32)), .val (.double (FP.ddiv (FP.dsub d1 ev0) (FP.dsub ev1 ev0))), .second] [(.ref w_bids_a0)])) st16 ?_
  refine own_st (T' := T16) (g' := (mkF m 76 #[.val (.ref a0), .val (.double d1), .second, .val (.int (-2 : Int32)), .val (.int (0 : Int32)), .val (.int (0 : Int32)), .val (.double (FP.ddiv (FP.dsub d1 ev0) (FP.dsub ev1 ev0))), .second] [(.int (0 : Int32)), (.ref w_bids_a0)])) (fun t k => ?_) ?_
  · show Steps p.tables e below (T16.setTop (mkF m 74 #[.val (.ref a0), .val (.double d1), .second, .val (.int (-2 : Int32)), .val (.int (0 : Int32)), .val (.int (0 : Int32)), .val (.double (FP.ddiv (FP.dsub d1 ev0) (FP.dsub ev1 ev0))), .second] [(.ref w_bids_a0)])) t
    refine XS.iload X16.here hx rfl (hb hby d5_74) rfl ?_
    exact k
  obtain ⟨c17, r17a, r17b, r17c, r17d, r17e, r17f⟩ := id V_w_bids_a0
  have i17 : ¬ ((0 : Int32) < 0 ∨ c17.slots.size ≤ ((0 : Int32)).toNatClampNeg) := inb_of r17c ⟨by decide, by decide⟩
  have y17 : c17.slots[((0 : Int32)).toNatClampNeg]? = some (.double eb0) := r17e.at i17 rfl
  refine own_st (T' := T16) (g' := (mkF m 80 #[.val (.ref a0), .val (.double d1), .second, .val (.int (-2 : Int32)), .val (.int (0 : Int32)), .val (.int (0 : Int32)), .val (.double (FP.ddiv (FP.dsub d1 ev0) (FP.dsub ev1 ev0))), .second] [(.ref a0), (.double (FP.ddiv (FP.dsub d1 ev0) (FP.dsub ev1 ev0))), (.double eb0)])) (fun t k => ?_) ?_
  · show Steps p.tables e below (T16.setTop (mkF m 76 #[.val (.ref a0), .val (.double d1), .second, .val (.int (-2 : Int32)), .val (.int (0 : Int32)), .val (.int (0 : Int32)), .val (.double (FP.ddiv (FP.dsub d1 ev0) (FP.dsub ev1 ev0))), .second] [(.int (0 : Int32)), (.ref w_bids_a0)])) t
    refine X16.daload hx (j := (0 : Int32)) (v := (.double eb0)) (by rw [e16]; exact r17a.1) (State.isArrayOf_alike hZ.alike r17a.2.1) r17a.2.2 i17 y17 (g := (mkF m 76 #[.val (.ref a0), .val (.double d1), .second, .val (.int (-2 : Int32)), .val (.int (0 : Int32)), .val (.int (0 : Int32)), .val (.double (FP.ddiv (FP.dsub d1 ev0) (FP.dsub ev1 ev0))), .second] [(.int (0 : Int32)), (.ref w_bids_a0)])) rfl rfl (hb hby d5_76) _ ?_
    show Steps p.tables e below (T16.setTop (mkF m 77 #[.val (.ref a0), .val (.double d1), .second, .val (.int (-2 : Int32)), .val (.int (0 : Int32)), .val (.int (0 : Int32)), .val (.double (FP.ddiv (FP.dsub d1 ev0) (FP.dsub ev1 ev0))), .second] [(.double eb0)])) t
    refine XS.dload X16.here hx rfl (hb hby d5_77) rfl ?_
    show Steps p.tables e below (T16.setTop (mkF m 79 #[.val (.ref a0), .val (.double d1), .second, .val (.int (-2 : Int32)), .val (.int (0 : Int32)), .val (.int (0 : Int32)), .val (.double (FP.ddiv (FP.dsub d1 ev0) (FP.dsub ev1 ev0))), .second] [(.double (FP.ddiv (FP.dsub d1 ev0) (FP.dsub ev1 ev0))), (.double eb0)])) t
    refine XS.aloadN X16.here hx rfl (hb hby d5_79) rfl rfl ?_
    exact k
  obtain ⟨T18, X18, e18, st18⟩ := getF X16 hx hZ hown (host := "") (Or.inl (hw _ (List.mem_of_getElem? (i := 31) rfl))) Via.refl e16 F_bids_a0 (g := (mkF m 80 #[.val (.ref a0), .val (.double d1), .second, .val (.int (-2 : Int32)), .val (.int (0 : Int32)), .val (.int (0 : Int32)), .val (.double (FP.ddiv (FP.dsub d1 ev0) (FP.dsub ev1 ev0))), .second] [(.ref a0), (.double (FP.ddiv (FP.dsub d1 ev0) (FP.dsub ev1 ev0))), (.double eb0)])) rfl rfl (hb hby d5_80)
  refine own_st (T' := T18) (g' := (mkF m 83 #[.val (.ref a0), .val (.double d1), .second, .val (.int (-2 : Int32)), .val (.int (0 : Int32)), .val (.int (0 : Int32)), .val (.double (FP.ddiv (FP.dsub d1 ev0) (FP.dsub ev1 ev0))), .second] [(.ref w_bids_a0), (.double (FP.ddiv (FP.dsub d1 ev0) (FP.dsub ev1 ev0))), (.double eb0)])) st18 ?_
  refine own_st (T' := T18) (g' := (mkF m 87 #[.val (.ref a0), .val (.double d1), .second, .val (.int (-2 : Int32)), .val (.int (0 : Int32)), .val (.int (0 : Int32)), .val (.double (FP.ddiv (FP.dsub d1 ev0) (FP.dsub ev1 ev0))), .second] [(.int (1 : Int32)), (.ref w_bids_a0), (.double (FP.ddiv (FP.dsub d1 ev0) (FP.dsub ev1 ev0))), (.double eb0)])) (fun t k => ?_) ?_
  · show Steps p.tables e below (T18.setTop (mkF m 83 #[.val (.ref a0), .val (.double d1), .second, .val (.int (-2 : Int32)), .val (.int (0 : Int32)), .val (.int (0 : Int32)), .val (.double (FP.ddiv (FP.dsub d1 ev0) (FP.dsub ev1 ev0))), .second] [(.ref w_bids_a0), (.double (FP.ddiv (FP.dsub d1 ev0) (FP.dsub ev1 ev0))), (.double eb0)])) t
    refine XS.iload X18.here hx rfl (hb hby d5_83) rfl ?_
    show Steps p.tables e below (T18.setTop (mkF m 85 #[.val (.ref a0), .val (.double d1), .second, .val (.int (-2 : Int32)), .val (.int (0 : Int32)), .val (.int (0 : Int32)), .val (.double (FP.ddiv (FP.dsub d1 ev0) (FP.dsub ev1 ev0))), .second] [(.int (0 : Int32)), (.ref w_bids_a0), (.double (FP.ddiv (FP.dsub d1 ev0) (FP.dsub ev1 ev0))), (.double eb0)])) t
    refine XS.iconst X18.here hx rfl (hb hby d5_85) ?_
    show Steps p.tables e below (T18.setTop (mkF m 86 #[.val (.ref a0), .val (.double d1), .second, .val (.int (-2 : Int32)), .val (.int (0 : Int32)), .val (.int (0 : Int32)), .val (.double (FP.ddiv (FP.dsub d1 ev0) (FP.dsub ev1 ev0))), .second] [(.int (1 : Int32)), (.int (0 : Int32)), (.ref w_bids_a0), (.double (FP.ddiv (FP.dsub d1 ev0) (FP.dsub ev1 ev0))), (.double eb0)])) t
    refine XS.iadd X18.here hx rfl (hb hby d5_86) rfl ?_
    exact k
  obtain ⟨c19, r19a, r19b, r19c, r19d, r19e, r19f⟩ := id V_w_bids_a0
  have i19 : ¬ ((1 : Int32) < 0 ∨ c19.slots.size ≤ ((1 : Int32)).toNatClampNeg) := inb_of r19c ⟨by decide, by decide⟩
  have y19 : c19.slots[((1 : Int32)).toNatClampNeg]? = some (.double eb1) := r19e.at i19 rfl
  refine own_st (T' := T18) (g' := (mkF m 89 #[.val (.ref a0), .val (.double d1), .second, .val (.int (-2 : Int32)), .val (.int (0 : Int32)), .val (.int (0 : Int32)), .val (.double (FP.ddiv (FP.dsub d1 ev0) (FP.dsub ev1 ev0))), .second] [(.ref a0), (.double eb1), (.double (FP.ddiv (FP.dsub d1 ev0) (FP.dsub ev1 ev0))), (.double eb0)])) (fun t k => ?_) ?_
  · show Steps p.tables e below (T18.setTop (mkF m 87 #[.val (.ref a0), .val (.double d1), .second, .val (.int (-2 : Int32)), .val (.int (0 : Int32)), .val (.int (0 : Int32)), .val (.double (FP.ddiv (FP.dsub d1 ev0) (FP.dsub ev1 ev0))), .second] [(.int (1 : Int32)), (.ref w_bids_a0), (.double (FP.ddiv (FP.dsub d1 ev0) (FP.dsub ev1 ev0))), (.double eb0)])) t
    refine X18.daload hx (j := (1 : Int32)) (v := (.double eb1)) (by rw [e18]; exact r19a.1) (State.isArrayOf_alike hZ.alike r19a.2.1) r19a.2.2 i19 y19 (g := (mkF m 87 #[.val (.ref a0), .val (.double d1), .second, .val (.int (-2 : Int32)), .val (.int (0 : Int32)), .val (.int (0 : Int32)), .val (.double (FP.ddiv (FP.dsub d1 ev0) (FP.dsub ev1 ev0))), .second] [(.int (1 : Int32)), (.ref w_bids_a0), (.double (FP.ddiv (FP.dsub d1 ev0) (FP.dsub ev1 ev0))), (.double eb0)])) rfl rfl (hb hby d5_87) _ ?_
    show Steps p.tables e below (T18.setTop (mkF m 88 #[.val (.ref a0), .val (.double d1), .second, .val (.int (-2 : Int32)), .val (.int (0 : Int32)), .val (.int (0 : Int32)), .val (.double (FP.ddiv (FP.dsub d1 ev0) (FP.dsub ev1 ev0))), .second] [(.double eb1), (.double (FP.ddiv (FP.dsub d1 ev0) (FP.dsub ev1 ev0))), (.double eb0)])) t
    refine XS.aloadN X18.here hx rfl (hb hby d5_88) rfl rfl ?_
    exact k
  obtain ⟨T20, X20, e20, st20⟩ := getF X18 hx hZ hown (host := "") (Or.inl (hw _ (List.mem_of_getElem? (i := 31) rfl))) Via.refl e18 F_bids_a0 (g := (mkF m 89 #[.val (.ref a0), .val (.double d1), .second, .val (.int (-2 : Int32)), .val (.int (0 : Int32)), .val (.int (0 : Int32)), .val (.double (FP.ddiv (FP.dsub d1 ev0) (FP.dsub ev1 ev0))), .second] [(.ref a0), (.double eb1), (.double (FP.ddiv (FP.dsub d1 ev0) (FP.dsub ev1 ev0))), (.double eb0)])) rfl rfl (hb hby d5_89)
  refine own_st (T' := T20) (g' := (mkF m 92 #[.val (.ref a0), .val (.double d1), .second, .val (.int (-2 : Int32)), .val (.int (0 : Int32)), .val (.int (0 : Int32)), .val (.double (FP.ddiv (FP.dsub d1 ev0) (FP.dsub ev1 ev0))), .second] [(.ref w_bids_a0), (.double eb1), (.double (FP.ddiv (FP.dsub d1 ev0) (FP.dsub ev1 ev0))), (.double eb0)])) st20 ?_
  refine own_st (T' := T20) (g' := (mkF m 94 #[.val (.ref a0), .val (.double d1), .second, .val (.int (-2 : Int32)), .val (.int (0 : Int32)), .val (.int (0 : Int32)), .val (.double (FP.ddiv (FP.dsub d1 ev0) (FP.dsub ev1 ev0))), .second] [(.int (0 : Int32)), (.ref w_bids_a0), (.double eb1), (.double (FP.ddiv (FP.dsub d1 ev0) (FP.dsub ev1 ev0))), (.double eb0)])) (fun t k => ?_) ?_
  · show Steps p.tables e below (T20.setTop (mkF m 92 #[.val (.ref a0), .val (.double d1), .second, .val (.int (-2 : Int32)), .val (.int (0 : Int32)), .val (.int (0 : Int32)), .val (.double (FP.ddiv (FP.dsub d1 ev0) (FP.dsub ev1 ev0))), .second] [(.ref w_bids_a0), (.double eb1), (.double (FP.ddiv (FP.dsub d1 ev0) (FP.dsub ev1 ev0))), (.double eb0)])) t
    refine XS.iload X20.here hx rfl (hb hby d5_92) rfl ?_
    exact k
  obtain ⟨c21, r21a, r21b, r21c, r21d, r21e, r21f⟩ := id V_w_bids_a0
  have i21 : ¬ ((0 : Int32) < 0 ∨ c21.slots.size ≤ ((0 : Int32)).toNatClampNeg) := inb_of r21c ⟨by decide, by decide⟩
  have y21 : c21.slots[((0 : Int32)).toNatClampNeg]? = some (.double eb0) := r21e.at i21 rfl
  refine own_st (T' := T20) (g' := (mkF m 98 #[.val (.ref a0), .val (.double d1), .second, .val (.int (-2 : Int32)), .val (.int (0 : Int32)), .val (.int (0 : Int32)), .val (.double (FP.ddiv (FP.dsub d1 ev0) (FP.dsub ev1 ev0))), .second] [(.double (FP.dadd eb0 (FP.dmul (FP.ddiv (FP.dsub d1 ev0) (FP.dsub ev1 ev0)) (FP.dsub eb1 eb0))))])) (fun t k => ?_) ?_
  · show Steps p.tables e below (T20.setTop (mkF m 94 #[.val (.ref a0), .val (.double d1), .second, .val (.int (-2 : Int32)), .val (.int (0 : Int32)), .val (.int (0 : Int32)), .val (.double (FP.ddiv (FP.dsub d1 ev0) (FP.dsub ev1 ev0))), .second] [(.int (0 : Int32)), (.ref w_bids_a0), (.double eb1), (.double (FP.ddiv (FP.dsub d1 ev0) (FP.dsub ev1 ev0))), (.double eb0)])) t
    refine X20.daload hx (j := (0 : Int32)) (v := (.double eb0)) (by rw [e20]; exact r21a.1) (State.isArrayOf_alike hZ.alike r21a.2.1) r21a.2.2 i21 y21 (g := (mkF m 94 #[.val (.ref a0), .val (.double d1), .second, .val (.int (-2 : Int32)), .val (.int (0 : Int32)), .val (.int (0 : Int32)), .val (.double (FP.ddiv (FP.dsub d1 ev0) (FP.dsub ev1 ev0))), .second] [(.int (0 : Int32)), (.ref w_bids_a0), (.double eb1), (.double (FP.ddiv (FP.dsub d1 ev0) (FP.dsub ev1 ev0))), (.double eb0)])) rfl rfl (hb hby d5_94) _ ?_
    show Steps p.tables e below (T20.setTop (mkF m 95 #[.val (.ref a0), .val (.double d1), .second, .val (.int (-2 : Int32)), .val (.int (0 : Int32)), .val (.int (0 : Int32)), .val (.double (FP.ddiv (FP.dsub d1 ev0) (FP.dsub ev1 ev0))), .second] [(.double eb0), (.double eb1), (.double (FP.ddiv (FP.dsub d1 ev0) (FP.dsub ev1 ev0))), (.double eb0)])) t
    refine XS.dsubS X20.here hx rfl (hb hby d5_95) rfl hn95 rfl ?_
    show Steps p.tables e below (T20.setTop (mkF m 96 #[.val (.ref a0), .val (.double d1), .second, .val (.int (-2 : Int32)), .val (.int (0 : Int32)), .val (.int (0 : Int32)), .val (.double (FP.ddiv (FP.dsub d1 ev0) (FP.dsub ev1 ev0))), .second] [(.double (FP.dsub eb1 eb0)), (.double (FP.ddiv (FP.dsub d1 ev0) (FP.dsub ev1 ev0))), (.double eb0)])) t
    refine XS.dmulS X20.here hx rfl (hb hby d5_96) rfl hn96 rfl ?_
    show Steps p.tables e below (T20.setTop (mkF m 97 #[.val (.ref a0), .val (.double d1), .second, .val (.int (-2 : Int32)), .val (.int (0 : Int32)), .val (.int (0 : Int32)), .val (.double (FP.ddiv (FP.dsub d1 ev0) (FP.dsub ev1 ev0))), .second] [(.double (FP.dmul (FP.ddiv (FP.dsub d1 ev0) (FP.dsub ev1 ev0)) (FP.dsub eb1 eb0))), (.double eb0)])) t
    refine XS.daddS X20.here hx rfl (hb hby d5_97) rfl hn97 rfl ?_
    exact k
  refine own_retD X20 hx hlk Bd.returns (hb hby d5_98) (by decide) (by decide) ?_
  show Qbgl Z a0 d1 w_values_a0 kk_w_values_a0 ev0 ev1 ev2 ev3 w_bids_a0 kk_w_bids_a0 eb0 eb1 eb2 eb3 h0 n0 (some (.double (FP.dadd eb0 (FP.dmul (FP.ddiv (FP.dsub d1 ev0) (FP.dsub ev1 ev0)) (FP.dsub eb1 eb0))))) T20.heap _
  rw [(e20 : T20.heap = h0)]
  exact ⟨rfl, n9, rfl⟩
theorem pnbge : plainName "com/example/corewright/corewright/equilibrium/Strategy" = true := by first | (simp [plainName, overriddenIn]; done) | decide +kernel
theorem pdbge_0 : parseMethodDescriptor "([DD)I" = some ⟨[(.array .double), .double], some .int⟩ := by decide +kernel
theorem pdbge_1 : parseMethodDescriptor "(II)I" = some ⟨[.int, .int], some .int⟩ := by decide +kernel
theorem efbge (m : MethodId) (a0 : Addr) (d1 : UInt64) : entryFrame m #[(.ref a0), (.double d1)] 8 = mkF m 0 #[.val (.ref a0), .val (.double d1), .second, .unset, .unset, .unset, .unset, .unset] [] := by first | (simp [entryFrame, mkF, argsToLocals, Value.category]; done) | rfl
def Qbge (Z : State) (a0 : Addr) (d1 : UInt64) (w_values_a0 : Addr) (kk_w_values_a0 : ClassId) (ev0 : UInt64) (ev1 : UInt64) (ev2 : UInt64) (ev3 : UInt64) (w_bids_a0 : Addr) (kk_w_bids_a0 : ClassId) (eb0 : UInt64) (eb1 : UInt64) (eb2 : UInt64) (eb3 : UInt64) (h0 : Heap) (n0 : Nat) (v : Option Value) (h : Heap) (L : List Loc) : Prop := v = some (.double (FP.dadd eb0 (FP.dmul (FP.ddiv (FP.dsub d1 ev0) (FP.dsub ev1 ev0)) (FP.dsub eb1 eb0)))) ∧ Fr n0 L ∧ h = h0
set_option maxRecDepth 65536 in
set_option maxHeartbeats 40000000 in
theorem rmbge (l : Launch) (Z : State) (ar : Array Value) (hw : ∀ d ∈ tables_1, d.before ar Z = true) (ws : List Jvm.Cond) (a0 : Addr) (d1 : UInt64) (w_values_a0 : Addr) (kk_w_values_a0 : ClassId) (ev0 : UInt64) (ev1 : UInt64) (ev2 : UInt64) (ev3 : UInt64) (w_bids_a0 : Addr) (kk_w_bids_a0 : ClassId) (eb0 : UInt64) (eb1 : UInt64) (eb2 : UInt64) (eb3 : UInt64) (h0 : Heap) (n0 : Nat) (Z0 : n0 ≤ h0.size) (E_a0 : Exa Z h0 a0 "com/example/corewright/corewright/equilibrium/Strategy") (F_values_a0 : Fld Z h0 a0 "com/example/corewright/corewright/equilibrium/Strategy" "values" "[D" (.ref w_values_a0)) (V_w_values_a0 : Arv Z h0 w_values_a0 kk_w_values_a0 .double (4 : Int32) [(.double ev0), (.double ev1), (.double ev2), (.double ev3)] (.double (0 : UInt64))) (F_bids_a0 : Fld Z h0 a0 "com/example/corewright/corewright/equilibrium/Strategy" "bids" "[D" (.ref w_bids_a0)) (V_w_bids_a0 : Arv Z h0 w_bids_a0 kk_w_bids_a0 .double (4 : Int32) [(.double eb0), (.double eb1), (.double eb2), (.double eb3)] (.double (0 : UInt64))) (h5_h5_hb34 : ¬ ((cmpValue (FP.dcmp ev1 d1) .g) < (0 : Int32))) (h5_h5_hb50 : (0 : Int32) < (cmpValue (FP.dcmp ev1 d1) .l)) (h5_h5_hb34_1 : ¬ ((cmpValue (FP.dcmp ev0 d1) .g) < (0 : Int32))) (h5_h5_hb50_1 : ¬ ((0 : Int32) < (cmpValue (FP.dcmp ev0 d1) .l))) (h5_h5_h64_h1_hq_0 : (cmpValue (FP.dcmp ev0 ev0) .l) = (0 : Int32)) (h5_h5_h70_h1_hq_0 : (cmpValue (FP.dcmp d1 d1) .l) = (0 : Int32)) (h5_h5_hb80 : ev0.toInt64 = d1.toInt64) (hn49 : Jvm.Free.Fl.NoNaN64 (FP.dsub d1 ev0)) (hn66 : Jvm.Free.Fl.NoNaN64 (FP.dsub ev1 ev0)) (hn67 : Jvm.Free.Fl.NoNaN64 (FP.ddiv (FP.dsub d1 ev0) (FP.dsub ev1 ev0))) (hn95 : Jvm.Free.Fl.NoNaN64 (FP.dsub eb1 eb0)) (hn96 : Jvm.Free.Fl.NoNaN64 (FP.dmul (FP.ddiv (FP.dsub d1 ev0) (FP.dsub ev1 ev0)) (FP.dsub eb1 eb0))) (hn97 : Jvm.Free.Fl.NoNaN64 (FP.dadd eb0 (FP.dmul (FP.ddiv (FP.dsub d1 ev0) (FP.dsub ev1 ev0)) (FP.dsub eb1 eb0)))) :
    MetFree l (⟨"com/example/corewright/corewright/equilibrium/Strategy", "bid", "(D)D"⟩ : MethodName) (head1 (Jvm.Cond.code (⟨"com/example/corewright/corewright/equilibrium/Strategy", "bid", "(D)D"⟩ : MethodName) prog_21_method_9_code 8 (some .double) :: ws) ({ frames := 4, cells := 0, slots := 0, locals := 67 } : Room)) (fun a U => a = #[(.ref a0), (.double d1)] ∧ Z.Warmed39 U.vm ∧ U.heap = h0) (fun _ _ _ _ _ => True) (fun _ U o U' => ∃ v L, o = .returned v ∧ Qbge Z a0 d1 w_values_a0 kk_w_values_a0 ev0 ev1 ev2 ev3 w_bids_a0 kk_w_bids_a0 eb0 eb1 eb2 eb3 h0 n0 v U'.heap L ∧ FrameEnd U o U' L ({ frames := 4, cells := 0, slots := 0, locals := 67 } : Room).cells ({ frames := 4, cells := 0, slots := 0, locals := 67 } : Room).slots) := by
  refine MetFree.of_bodySF (plainFor_of_name pnbge) hisR ?_
  intro p e s m args below meth c s₁ Bd hml0 hP hK
  obtain ⟨rfl, hZ, hh⟩ := hP
  have hx := Bd.exec
  have hby := Bd.bytes
  have hlk := Bd.notSynchronized
  have hml : c.maxLocals = 8 := hml0
  have hown : s.vm.findClass "com/example/corewright/corewright/equilibrium/Strategy" = some m.cls := findClass_of_methodNamed Bd.named
  have hnm := (name_of_methodNamed Bd.named Bd.method).1
  have X0 : Stand p l e ({ frames := 4, cells := 0, slots := 0, locals := 67 } : Room) s m #[(.ref a0), (.double d1)] below meth c s₁ [] 0 0 := Stand.of_body Bd
  have e0 : s₁.heap = h0 := by rw [← hh, Bd.state]; rfl
  have N0 := Fr.nil n0
  have K0 := Keep.refl h0 []
  refine own_enter (Q := Qbge Z a0 d1 w_values_a0 kk_w_values_a0 ev0 ev1 ev2 ev3 w_bids_a0 kk_w_bids_a0 eb0 eb1 eb2 eb3 h0 n0) (efbge m a0 d1) ?_
  refine own_st (T' := s₁) (g' := (mkF m 1 #[.val (.ref a0), .val (.double d1), .second, .unset, .unset, .unset, .unset, .unset] [(.ref a0)])) (fun t k => ?_) ?_
  · show Steps p.tables e below (s₁.setTop (mkF m 0 #[.val (.ref a0), .val (.double d1), .second, .unset, .unset, .unset, .unset, .unset] [])) t
    refine XS.aloadN X0.here hx rfl (hb hby d5_0) rfl rfl ?_
    exact k
  obtain ⟨T1, X1, e1, st1⟩ := getF X0 hx hZ hown (host := "") (Or.inl (hw _ (List.mem_of_getElem? (i := 29) rfl))) Via.refl e0 F_values_a0 (g := (mkF m 1 #[.val (.ref a0), .val (.double d1), .second, .unset, .unset, .unset, .unset, .unset] [(.ref a0)])) rfl rfl (hb hby d5_1)
  refine own_st (T' := T1) (g' := (mkF m 4 #[.val (.ref a0), .val (.double d1), .second, .unset, .unset, .unset, .unset, .unset] [(.ref w_values_a0)])) st1 ?_
  refine own_st (T' := T1) (g' := (mkF m 5 #[.val (.ref a0), .val (.double d1), .second, .unset, .unset, .unset, .unset, .unset] [(.double d1), (.ref w_values_a0)])) (fun t k => ?_) ?_
  · show Steps p.tables e below (T1.setTop (mkF m 4 #[.val (.ref a0), .val (.double d1), .second, .unset, .unset, .unset, .unset, .unset] [(.ref w_values_a0)])) t
    refine XS.dloadN X1.here hx rfl (hb hby d5_4) rfl ?_
    exact k
  obtain ⟨_, _, ⟨T2, L2, k2, n2⟩, -, X2, ⟨Lc2, hQ2, l2, y2, z2⟩, st2⟩ := Jvm.LawKit.callS X1 hx (y := (⟨"java/util/Arrays", "binarySearch", "([DD)I"⟩ : MethodName)) hown (mvT hZ (hw _ (List.mem_of_getElem? (i := 38) rfl))) (mvT hZ (hw _ (List.mem_of_getElem? (i := 39) rfl))) (mvT hZ (hw _ (List.mem_of_getElem? (i := 40) rfl))) (mvT hZ (hw _ (List.mem_of_getElem? (i := 41) rfl))) (by decide) (backOf (W := 0) (rmtge l Z ar hw [] w_values_a0 d1 kk_w_values_a0 ev0 ev1 ev2 ev3 h0 n0 Z0 V_w_values_a0 h5_h5_hb34 h5_h5_hb50 h5_h5_hb34_1 h5_h5_hb50_1 h5_h5_h64_h1_hq_0 h5_h5_h70_h1_hq_0 h5_h5_hb80) hZ (hw _ (List.mem_of_getElem? (i := 41) rfl)) (hw _ (List.mem_of_getElem? (i := 40) rfl)) (by decide) (by decide)) (g := (mkF m 5 #[.val (.ref a0), .val (.double d1), .second, .unset, .unset, .unset, .unset, .unset] [(.double d1), (.ref w_values_a0)])) rfl (by rw [hml]; rfl) (argsL := [(.ref w_values_a0), (.double d1)]) (rest := []) (lenOf pdbge_0 rfl) rfl (by show 2 * 0 + _ ≤ _; exact Nat.le_of_eq rfl) (hb hby d5_5) (fun _ _ => ⟨rfl, e1, (by decide : 0 + 0 ≤ _), (by decide : 0 + 0 ≤ _)⟩)
  dsimp only [Pt.U, Pt.locs, Pt.cells, Pt.slots] at X2 l2 y2 z2 st2 hQ2
  subst l2 y2 z2
  obtain ⟨rfl, N2q, e2⟩ := hQ2
  have n3 := Fr.app N0 N2q
  refine own_st (T' := T2) (g' := (mkF m 8 #[.val (.ref a0), .val (.double d1), .second, .unset, .unset, .unset, .unset, .unset] [(.int (0 : Int32))])) st2 ?_
  refine own_st (T' := T2) (g' := (mkF m 26 #[.val (.ref a0), .val (.double d1), .second, .val (.int (0 : Int32)), .val (.int (0 : Int32)), .unset, .unset, .unset] [(.int (0 : Int32)), (.int (0 : Int32))])) (fun t k => ?_) ?_
  · show Steps p.tables e below (T2.setTop (mkF m 8 #[.val (.ref a0), .val (.double d1), .second, .unset, .unset, .unset, .unset, .unset] [(.int (0 : Int32))])) t
    refine XS.istoreN X2.here hx rfl (hb hby d5_8) rfl (l' := #[.val (.ref a0), .val (.double d1), .second, .val (.int (0 : Int32)), .unset, .unset, .unset, .unset]) rfl ?_
    show Steps p.tables e below (T2.setTop (mkF m 9 #[.val (.ref a0), .val (.double d1), .second, .val (.int (0 : Int32)), .unset, .unset, .unset, .unset] [])) t
    refine XS.iloadN X2.here hx rfl (hb hby d5_9) rfl ?_
    show Steps p.tables e below (T2.setTop (mkF m 10 #[.val (.ref a0), .val (.double d1), .second, .val (.int (0 : Int32)), .unset, .unset, .unset, .unset] [(.int (0 : Int32))])) t
    refine XS.ifNo X2.here hx rfl (hb hby d5_10) rfl (by decide) ?_
    show Steps p.tables e below (T2.setTop (mkF m 13 #[.val (.ref a0), .val (.double d1), .second, .val (.int (0 : Int32)), .unset, .unset, .unset, .unset] [])) t
    refine XS.iloadN X2.here hx rfl (hb hby d5_13) rfl ?_
    show Steps p.tables e below (T2.setTop (mkF m 14 #[.val (.ref a0), .val (.double d1), .second, .val (.int (0 : Int32)), .unset, .unset, .unset, .unset] [(.int (0 : Int32))])) t
    refine XS.goto X2.here hx rfl (pc0 := 14) (pc' := 21) rfl (hb hby d5_14) (by decide) (by decide) ?_
    show Steps p.tables e below (T2.setTop (mkF m 21 #[.val (.ref a0), .val (.double d1), .second, .val (.int (0 : Int32)), .unset, .unset, .unset, .unset] [(.int (0 : Int32))])) t
    refine XS.istore X2.here hx rfl (hb hby d5_21) rfl (l' := #[.val (.ref a0), .val (.double d1), .second, .val (.int (0 : Int32)), .val (.int (0 : Int32)), .unset, .unset, .unset]) rfl ?_
    show Steps p.tables e below (T2.setTop (mkF m 23 #[.val (.ref a0), .val (.double d1), .second, .val (.int (0 : Int32)), .val (.int (0 : Int32)), .unset, .unset, .unset] [])) t
    refine XS.iload X2.here hx rfl (hb hby d5_23) rfl ?_
    show Steps p.tables e below (T2.setTop (mkF m 25 #[.val (.ref a0), .val (.double d1), .second, .val (.int (0 : Int32)), .val (.int (0 : Int32)), .unset, .unset, .unset] [(.int (0 : Int32))])) t
    refine XS.iconst X2.here hx rfl (hb hby d5_25) ?_
    exact k
  obtain ⟨_, _, ⟨T4, L4, k4, n4⟩, -, X4, ⟨Lc4, hQ4, l4, y4, z4⟩, st4⟩ := Jvm.LawKit.callS X2 hx (y := (⟨"java/lang/Math", "max", "(II)I"⟩ : MethodName)) hown (mvT hZ (hw _ (List.mem_of_getElem? (i := 54) rfl))) (mvT hZ (hw _ (List.mem_of_getElem? (i := 55) rfl))) (mvT hZ (hw _ (List.mem_of_getElem? (i := 17) rfl))) (mvT hZ (hw _ (List.mem_of_getElem? (i := 56) rfl))) (by decide) (backOf (W := 0) (rmmx0 l Z ar hw [] ((0 : Int32)) ((0 : Int32)) h0 n0 Z0 (by decide)) hZ (hw _ (List.mem_of_getElem? (i := 56) rfl)) (hw _ (List.mem_of_getElem? (i := 17) rfl)) (by decide) (by decide)) (g := (mkF m 26 #[.val (.ref a0), .val (.double d1), .second, .val (.int (0 : Int32)), .val (.int (0 : Int32)), .unset, .unset, .unset] [(.int (0 : Int32)), (.int (0 : Int32))])) rfl (by rw [hml]; rfl) (argsL := [(.int (0 : Int32)), (.int (0 : Int32))]) (rest := []) (lenOf pdbge_1 rfl) rfl (by show 2 * 0 + _ ≤ _; exact Nat.le_of_eq rfl) (hb hby d5_26) (fun _ _ => ⟨rfl, e2, (by decide : 0 + 0 ≤ _), (by decide : 0 + 0 ≤ _)⟩)
  dsimp only [Pt.U, Pt.locs, Pt.cells, Pt.slots] at X4 l4 y4 z4 st4 hQ4
  subst l4 y4 z4
  obtain ⟨rfl, N4q, e4⟩ := hQ4
  have n5 := Fr.app n3 N4q
  refine own_st (T' := T4) (g' := (mkF m 29 #[.val (.ref a0), .val (.double d1), .second, .val (.int (0 : Int32)), .val (.int (0 : Int32)), .unset, .unset, .unset] [(.int (0 : Int32))])) st4 ?_
  refine own_st (T' := T4) (g' := (mkF m 30 #[.val (.ref a0), .val (.double d1), .second, .val (.int (0 : Int32)), .val (.int (0 : Int32)), .unset, .unset, .unset] [(.ref a0), (.int (0 : Int32))])) (fun t k => ?_) ?_
  · show Steps p.tables e below (T4.setTop (mkF m 29 #[.val (.ref a0), .val (.double d1), .second, .val (.int (0 : Int32)), .val (.int (0 : Int32)), .unset, .unset, .unset] [(.int (0 : Int32))])) t
    refine XS.aloadN X4.here hx rfl (hb hby d5_29) rfl rfl ?_
    exact k
  obtain ⟨T6, X6, e6, st6⟩ := getF X4 hx hZ hown (host := "") (Or.inl (hw _ (List.mem_of_getElem? (i := 29) rfl))) Via.refl e4 F_values_a0 (g := (mkF m 30 #[.val (.ref a0), .val (.double d1), .second, .val (.int (0 : Int32)), .val (.int (0 : Int32)), .unset, .unset, .unset] [(.ref a0), (.int (0 : Int32))])) rfl rfl (hb hby d5_30)
  refine own_st (T' := T6) (g' := (mkF m 33 #[.val (.ref a0), .val (.double d1), .second, .val (.int (0 : Int32)), .val (.int (0 : Int32)), .unset, .unset, .unset] [(.ref w_values_a0), (.int (0 : Int32))])) st6 ?_
  obtain ⟨c7, r7a, -, r7c, r7d, -, -⟩ := id V_w_values_a0
  refine own_st (T' := T6) (g' := (mkF m 36 #[.val (.ref a0), .val (.double d1), .second, .val (.int (0 : Int32)), .val (.int (0 : Int32)), .unset, .unset, .unset] [(.int (2 : Int32)), (.int (0 : Int32))])) (fun t k => ?_) ?_
  · show Steps p.tables e below (T6.setTop (mkF m 33 #[.val (.ref a0), .val (.double d1), .second, .val (.int (0 : Int32)), .val (.int (0 : Int32)), .unset, .unset, .unset] [(.ref w_values_a0), (.int (0 : Int32))])) t
    refine X6.arraylength hx (by rw [e6]; exact r7a.1) (State.isArrayOf_alike hZ.alike r7a.2.1) (g := (mkF m 33 #[.val (.ref a0), .val (.double d1), .second, .val (.int (0 : Int32)), .val (.int (0 : Int32)), .unset, .unset, .unset] [(.ref w_values_a0), (.int (0 : Int32))])) rfl rfl (hb hby d5_33) _ ?_
    rw [len_of r7c r7d]
    show Steps p.tables e below (T6.setTop (mkF m 34 #[.val (.ref a0), .val (.double d1), .second, .val (.int (0 : Int32)), .val (.int (0 : Int32)), .unset, .unset, .unset] [(.int (4 : Int32)), (.int (0 : Int32))])) t
    refine XS.iconst X6.here hx rfl (hb hby d5_34) ?_
    show Steps p.tables e below (T6.setTop (mkF m 35 #[.val (.ref a0), .val (.double d1), .second, .val (.int (0 : Int32)), .val (.int (0 : Int32)), .unset, .unset, .unset] [(.int (2 : Int32)), (.int (4 : Int32)), (.int (0 : Int32))])) t
    refine XS.isub X6.here hx rfl (hb hby d5_35) rfl ?_
    exact k
  obtain ⟨_, _, ⟨T8, L8, k8, n8⟩, -, X8, ⟨Lc8, hQ8, l8, y8, z8⟩, st8⟩ := Jvm.LawKit.callS X6 hx (y := (⟨"java/lang/Math", "min", "(II)I"⟩ : MethodName)) hown (mvT hZ (hw _ (List.mem_of_getElem? (i := 57) rfl))) (mvT hZ (hw _ (List.mem_of_getElem? (i := 58) rfl))) (mvT hZ (hw _ (List.mem_of_getElem? (i := 17) rfl))) (mvT hZ (hw _ (List.mem_of_getElem? (i := 59) rfl))) (by decide) (backOf (W := 0) (rmmn0 l Z ar hw [] ((0 : Int32)) ((2 : Int32)) h0 n0 Z0 (by decide)) hZ (hw _ (List.mem_of_getElem? (i := 59) rfl)) (hw _ (List.mem_of_getElem? (i := 17) rfl)) (by decide) (by decide)) (g := (mkF m 36 #[.val (.ref a0), .val (.double d1), .second, .val (.int (0 : Int32)), .val (.int (0 : Int32)), .unset, .unset, .unset] [(.int (2 : Int32)), (.int (0 : Int32))])) rfl (by rw [hml]; rfl) (argsL := [(.int (0 : Int32)), (.int (2 : Int32))]) (rest := []) (lenOf pdbge_1 rfl) rfl (by show 2 * 0 + _ ≤ _; exact Nat.le_of_eq rfl) (hb hby d5_36) (fun _ _ => ⟨rfl, e6, (by decide : 0 + 0 ≤ _), (by decide : 0 + 0 ≤ _)⟩)
  dsimp only [Pt.U, Pt.locs, Pt.cells, Pt.slots] at X8 l8 y8 z8 st8 hQ8
  subst l8 y8 z8
  obtain ⟨rfl, N8q, e8⟩ := hQ8
  have n9 := Fr.app n5 N8q
  refine own_st (T' := T8) (g' := (mkF m 39 #[.val (.ref a0), .val (.double d1), .second, .val (.int (0 : Int32)), .val (.int (0 : Int32)), .unset, .unset, .unset] [(.int (0 : Int32))])) st8 ?_
  refine own_st (T' := T8) (g' := (mkF m 43 #[.val (.ref a0), .val (.double d1), .second, .val (.int (0 : Int32)), .val (.int (0 : Int32)), .val (.int (0 : Int32)), .unset, .unset] [(.ref a0), (.double d1)])) (fun t k => ?_) ?_
  · show Steps p.tables e below (T8.setTop (mkF m 39 #[.val (.ref a0), .val (.double d1), .second, .val (.int (0 : Int32)), .val (.int (0 : Int32)), .unset, .unset, .unset] [(.int (0 : Int32))])) t
    refine XS.istore X8.here hx rfl (hb hby d5_39) rfl (l' := #[.val (.ref a0), .val (.double d1), .second, .val (.int (0 : Int32)), .val (.int (0 : Int32)), .val (.int (0 : Int32)), .unset, .unset]) rfl ?_
    show Steps p.tables e below (T8.setTop (mkF m 41 #[.val (.ref a0), .val (.double d1), .second, .val (.int (0 : Int32)), .val (.int (0 : Int32)), .val (.int (0 : Int32)), .unset, .unset] [])) t
    refine XS.dloadN X8.here hx rfl (hb hby d5_41) rfl ?_
    show Steps p.tables e below (T8.setTop (mkF m 42 #[.val (.ref a0), .val (.double d1), .second, .val (.int (0 : Int32)), .val (.int (0 : Int32)), .val (.int (0 : Int32)), .unset, .unset] [(.double d1)])) t
    refine XS.aloadN X8.here hx rfl (hb hby d5_42) rfl rfl ?_
    exact k
  obtain ⟨T10, X10, e10, st10⟩ := getF X8 hx hZ hown (host := "") (Or.inl (hw _ (List.mem_of_getElem? (i := 29) rfl))) Via.refl e8 F_values_a0 (g := (mkF m 43 #[.val (.ref a0), .val (.double d1), .second, .val (.int (0 : Int32)), .val (.int (0 : Int32)), .val (.int (0 : Int32)), .unset, .unset] [(.ref a0), (.double d1)])) rfl rfl (hb hby d5_43)
  refine own_st (T' := T10) (g' := (mkF m 46 #[.val (.ref a0), .val (.double d1), .second, .val (.int (0 : Int32)), .val (.int (0 : Int32)), .val (.int (0 : Int32)), .unset, .unset] [(.ref w_values_a0), (.double d1)])) st10 ?_
  refine own_st (T' := T10) (g' := (mkF m 48 #[.val (.ref a0), .val (.double d1), .second, .val (.int (0 : Int32)), .val (.int (0 : Int32)), .val (.int (0 : Int32)), .unset, .unset] [(.int (0 : Int32)), (.ref w_values_a0), (.double d1)])) (fun t k => ?_) ?_
  · show Steps p.tables e below (T10.setTop (mkF m 46 #[.val (.ref a0), .val (.double d1), .second, .val (.int (0 : Int32)), .val (.int (0 : Int32)), .val (.int (0 : Int32)), .unset, .unset] [(.ref w_values_a0), (.double d1)])) t
    refine XS.iload X10.here hx rfl (hb hby d5_46) rfl ?_
    exact k
  obtain ⟨c11, r11a, r11b, r11c, r11d, r11e, r11f⟩ := id V_w_values_a0
  have i11 : ¬ ((0 : Int32) < 0 ∨ c11.slots.size ≤ ((0 : Int32)).toNatClampNeg) := inb_of r11c ⟨by decide, by decide⟩
  have y11 : c11.slots[((0 : Int32)).toNatClampNeg]? = some (.double ev0) := r11e.at i11 rfl
  refine own_st (T' := T10) (g' := (mkF m 51 #[.val (.ref a0), .val (.double d1), .second, .val (.int (0 : Int32)), .val (.int (0 : Int32)), .val (.int (0 : Int32)), .unset, .unset] [(.ref a0), (.double (FP.dsub d1 ev0))])) (fun t k => ?_) ?_
  · show Steps p.tables e below (T10.setTop (mkF m 48 #[.val (.ref a0), .val (.double d1), .second, .val (.int (0 : Int32)), .val (.int (0 : Int32)), .val (.int (0 : Int32)), .unset, .unset] [(.int (0 : Int32)), (.ref w_values_a0), (.double d1)])) t
    refine X10.daload hx (j := (0 : Int32)) (v := (.double ev0)) (by rw [e10]; exact r11a.1) (State.isArrayOf_alike hZ.alike r11a.2.1) r11a.2.2 i11 y11 (g := (mkF m 48 #[.val (.ref a0), .val (.double d1), .second, .val (.int (0 : Int32)), .val (.int (0 : Int32)), .val (.int (0 : Int32)), .unset, .unset] [(.int (0 : Int32)), (.ref w_values_a0), (.double d1)])) rfl rfl (hb hby d5_48) _ ?_
    show Steps p.tables e below (T10.setTop (mkF m 49 #[.val (.ref a0), .val (.double d1), .second, .val (.int (0 : Int32)), .val (.int (0 : Int32)), .val (.int (0 : Int32)), .unset, .unset] [(.double ev0), (.double d1)])) t
    refine XS.dsubS X10.here hx rfl (hb hby d5_49) rfl hn49 rfl ?_
    show Steps p.tables e below (T10.setTop (mkF m 50 #[.val (.ref a0), .val (.double d1), .second, .val (.int (0 : Int32)), .val (.int (0 : Int32)), .val (.int (0 : Int32)), .unset, .unset] [(.double (FP.dsub d1 ev0))])) t
    refine XS.aloadN X10.here hx rfl (hb hby d5_50) rfl rfl ?_
    exact k
  obtain ⟨T12, X12, e12, st12⟩ := getF X10 hx hZ hown (host := "") (Or.inl (hw _ (List.mem_of_getElem? (i := 29) rfl))) Via.refl e10 F_values_a0 (g := (mkF m 51 #[.val (.ref a0), .val (.double d1), .second, .val (.int (0 : Int32)), .val (.int (0 : Int32)), .val (.int (0 : Int32)), .unset, .unset] [(.ref a0), (.double (FP.dsub d1 ev0))])) rfl rfl (hb hby d5_51)
  refine own_st (T' := T12) (g' := (mkF m 54 #[.val (.ref a0), .val (.double d1), .second, .val (.int (0 : Int32)), .val (.int (0 : Int32)), .val (.int (0 : Int32)), .unset, .unset] [(.ref w_values_a0), (.double (FP.dsub d1 ev0))])) st12 ?_
  refine own_st (T' := T12) (g' := (mkF m 58 #[.val (.ref a0), .val (.double d1), .second, .val (.int (0 : Int32)), .val (.int (0 : Int32)), .val (.int (0 : Int32)), .unset, .unset] [(.int (1 : Int32)), (.ref w_values_a0), (.double (FP.dsub d1 ev0))])) (fun t k => ?_) ?_
  · show Steps p.tables e below (T12.setTop (mkF m 54 #[.val (.ref a0), .val (.double d1), .second, .val (.int (0 : Int32)), .val (.int (0 : Int32)), .val (.int (0 : Int32)), .unset, .unset] [(.ref w_values_a0), (.double (FP.dsub d1 ev0))])) t
    refine XS.iload X12.here hx rfl (hb hby d5_54) rfl ?_
    show Steps p.tables e below (T12.setTop (mkF m 56 #[.val (.ref a0), .val (.double d1), .second, .val (.int (0 : Int32)), .val (.int (0 : Int32)), .val (.int (0 : Int32)), .unset, .unset] [(.int (0 : Int32)), (.ref w_values_a0), (.double (FP.dsub d1 ev0))])) t
    refine XS.iconst X12.here hx rfl (hb hby d5_56) ?_
    show Steps p.tables e below (T12.setTop (mkF m 57 #[.val (.ref a0), .val (.double d1), .second, .val (.int (0 : Int32)), .val (.int (0 : Int32)), .val (.int (0 : Int32)), .unset, .unset] [(.int (1 : Int32)), (.int (0 : Int32)), (.ref w_values_a0), (.double (FP.dsub d1 ev0))])) t
    refine XS.iadd X12.here hx rfl (hb hby d5_57) rfl ?_
    exact k
  obtain ⟨c13, r13a, r13b, r13c, r13d, r13e, r13f⟩ := id V_w_values_a0
  have i13 : ¬ ((1 : Int32) < 0 ∨ c13.slots.size ≤ ((1 : Int32)).toNatClampNeg) := inb_of r13c ⟨by decide, by decide⟩
  have y13 : c13.slots[((1 : Int32)).toNatClampNeg]? = some (.double ev1) := r13e.at i13 rfl
  refine own_st (T' := T12) (g' := (mkF m 60 #[.val (.ref a0), .val (.double d1), .second, .val (.int (0 : Int32)), .val (.int (0 : Int32)), .val (.int (0 : Int32)), .unset, .unset] [(.ref a0), (.double ev1), (.double (FP.dsub d1 ev0))])) (fun t k => ?_) ?_
  · show Steps p.tables e below (T12.setTop (mkF m 58 #[.val (.ref a0), .val (.double d1), .second, .val (.int (0 : Int32)), .val (.int (0 : Int32)), .val (.int (0 : Int32)), .unset, .unset] [(.int (1 : Int32)), (.ref w_values_a0), (.double (FP.dsub d1 ev0))])) t
    refine X12.daload hx (j := (1 : Int32)) (v := (.double ev1)) (by rw [e12]; exact r13a.1) (State.isArrayOf_alike hZ.alike r13a.2.1) r13a.2.2 i13 y13 (g := (mkF m 58 #[.val (.ref a0), .val (.double d1), .second, .val (.int (0 : Int32)), .val (.int (0 : Int32)), .val (.int (0 : Int32)), .unset, .unset] [(.int (1 : Int32)), (.ref w_values_a0), (.double (FP.dsub d1 ev0))])) rfl rfl (hb hby d5_58) _ ?_
    show Steps p.tables e below (T12.setTop (mkF m 59 #[.val (.ref a0), .val (.double d1), .second, .val (.int (0 : Int32)), .val (.int (0 : Int32)), .val (.int (0 : Int32)), .unset, .unset] [(.double ev1), (.double (FP.dsub d1 ev0))])) t
    refine XS.aloadN X12.here hx rfl (hb hby d5_59) rfl rfl ?_
    exact k
  obtain ⟨T14, X14, e14, st14⟩ := getF X12 hx hZ hown (host := "") (Or.inl (hw _ (List.mem_of_getElem? (i := 29) rfl))) Via.refl e12 F_values_a0 (g := (mkF m 60 #[.val (.ref a0), .val (.double d1), .second, .val (.int (0 : Int32)), .val (.int (0 : Int32)), .val (.int (0 : Int32)), .unset, .unset] [(.ref a0), (.double ev1), (.double (FP.dsub d1 ev0))])) rfl rfl (hb hby d5_60)
  refine own_st (T' := T14) (g' := (mkF m 63 #[.val (.ref a0), .val (.double d1), .second, .val (.int (0 : Int32)), .val (.int (0 : Int32)), .val (.int (0 : Int32)), .unset, .unset] [(.ref w_values_a0), (.double ev1), (.double (FP.dsub d1 ev0))])) st14 ?_
  refine own_st (T' := T14) (g' := (mkF m 65 #[.val (.ref a0), .val (.double d1), .second, .val (.int (0 : Int32)), .val (.int (0 : Int32)), .val (.int (0 : Int32)), .unset, .unset] [(.int (0 : Int32)), (.ref w_values_a0), (.double ev1), (.double (FP.dsub d1 ev0))])) (fun t k => ?_) ?_
  · show Steps p.tables e below (T14.setTop (mkF m 63 #[.val (.ref a0), .val (.double d1), .second, .val (.int (0 : Int32)), .val (.int (0 : Int32)), .val (.int (0 : Int32)), .unset, .unset] [(.ref w_values_a0), (.double ev1), (.double (FP.dsub d1 ev0))])) t
    refine XS.iload X14.here hx rfl (hb hby d5_63) rfl ?_
    exact k
  obtain ⟨c15, r15a, r15b, r15c, r15d, r15e, r15f⟩ := id V_w_values_a0
  have i15 : ¬ ((0 : Int32) < 0 ∨ c15.slots.size ≤ ((0 : Int32)).toNatClampNeg) := inb_of r15c ⟨by decide, by decide⟩
  have y15 : c15.slots[((0 : Int32)).toNatClampNeg]? = some (.double ev0) := r15e.at i15 rfl
  refine own_st (T' := T14) (g' := (mkF m 71 #[.val (.ref a0), .val (.double d1), .second, .val (.int (0 : Int32)), .val (.int (0 : Int32)), .val (.int (0 : Int32)), .val (.double (FP.ddiv (FP.dsub d1 ev0) (FP.dsub ev1 ev0))), .second] [(.ref a0)])) (fun t k => ?_) ?_
  · show Steps p.tables e below (T14.setTop (mkF m 65 #[.val (.ref a0), .val (.double d1), .second, .val (.int (0 : Int32)), .val (.int (0 : Int32)), .val (.int (0 : Int32)), .unset, .unset] [(.int (0 : Int32)), (.ref w_values_a0), (.double ev1), (.double (FP.dsub d1 ev0))])) t
    refine X14.daload hx (j := (0 : Int32)) (v := (.double ev0)) (by rw [e14]; exact r15a.1) (State.isArrayOf_alike hZ.alike r15a.2.1) r15a.2.2 i15 y15 (g := (mkF m 65 #[.val (.ref a0), .val (.double d1), .second, .val (.int (0 : Int32)), .val (.int (0 : Int32)), .val (.int (0 : Int32)), .unset, .unset] [(.int (0 : Int32)), (.ref w_values_a0), (.double ev1), (.double (FP.dsub d1 ev0))])) rfl rfl (hb hby d5_65) _ ?_
    show Steps p.tables e below (T14.setTop (mkF m 66 #[.val (.ref a0), .val (.double d1), .second, .val (.int (0 : Int32)), .val (.int (0 : Int32)), .val (.int (0 : Int32)), .unset, .unset] [(.double ev0), (.double ev1), (.double (FP.dsub d1 ev0))])) t
    refine XS.dsubS X14.here hx rfl (hb hby d5_66) rfl hn66 rfl ?_
    show Steps p.tables e below (T14.setTop (mkF m 67 #[.val (.ref a0), .val (.double d1), .second, .val (.int (0 : Int32)), .val (.int (0 : Int32)), .val (.int (0 : Int32)), .unset, .unset] [(.double (FP.dsub ev1 ev0)), (.double (FP.dsub d1 ev0))])) t
    refine XS.ddivS X14.here hx rfl (hb hby d5_67) rfl hn67 rfl ?_
    show Steps p.tables e below (T14.setTop (mkF m 68 #[.val (.ref a0), .val (.double d1), .second, .val (.int (0 : Int32)), .val (.int (0 : Int32)), .val (.int (0 : Int32)), .unset, .unset] [(.double (FP.ddiv (FP.dsub d1 ev0) (FP.dsub ev1 ev0)))])) t
    refine XS.dstore X14.here hx rfl (hb hby d5_68) rfl (l' := #[.val (.ref a0), .val (.double d1), .second, .val (.int (0 : Int32)), .val (.int (0 : Int32)), .val (.int (0 : Int32)), .val (.double (FP.ddiv (FP.dsub d1 ev0) (FP.dsub ev1 ev0))), .second]) rfl ?_
    show Steps p.tables e below (T14.setTop (mkF m 70 #[.val (.ref a0), .val (.double d1), .second, .val (.int (0 : Int32)), .val (.int (0 : Int32)), .val (.int (0 : Int32)), .val (.double (FP.ddiv (FP.dsub d1 ev0) (FP.dsub ev1 ev0))), .second] [])) t
    refine XS.aloadN X14.here hx rfl (hb hby d5_70) rfl rfl ?_
    exact k
  obtain ⟨T16, X16, e16, st16⟩ := getF X14 hx hZ hown (host := "") (Or.inl (hw _ (List.mem_of_getElem? (i := 31) rfl))) Via.refl e14 F_bids_a0 (g := (mkF m 71 #[.val (.ref a0), .val (.double d1), .second, .val (.int (0 : Int32)), .val (.int (0 : Int32)), .val (.int (0 : Int32)), .val (.double (FP.ddiv (FP.dsub d1 ev0) (FP.dsub ev1 ev0))), .second] [(.ref a0)])) rfl rfl (hb hby d5_71)
  refine own_st (T' := T16) (g' := (mkF m 74 #[.val (.ref a0), .val (.double d1), .second, .val (.int (0 : Int32)), .val (.int (0 : Int32)), .val (.int (0 : Int32)), .val (.double (FP.ddiv (FP.dsub d1 ev0) (FP.dsub ev1 ev0))), .second] [(.ref w_bids_a0)])) st16 ?_
  refine own_st (T' := T16) (g' := (mkF m 76 #[.val (.ref a0), .val (.double d1), .second, .val (.int (0 : Int32)), .val (.int (0 : Int32)), .val (.int (0 : Int32)), .val (.double (FP.ddiv (FP.dsub d1 ev0) (FP.dsub ev1 ev0))), .second] [(.int (0 : Int32)), (.ref w_bids_a0)])) (fun t k => ?_) ?_
  · show Steps p.tables e below (T16.setTop (mkF m 74 #[.val (.ref a0), .val (.double d1), .second, .val (.int (0 : Int32)), .val (.int (0 : Int32)), .val (.int (0 : Int32)), .val (.double (FP.ddiv (FP.dsub d1 ev0) (FP.dsub ev1 ev0))), .second] [(.ref w_bids_a0)])) t
    refine XS.iload X16.here hx rfl (hb hby d5_74) rfl ?_
    exact k
  obtain ⟨c17, r17a, r17b, r17c, r17d, r17e, r17f⟩ := id V_w_bids_a0
  have i17 : ¬ ((0 : Int32) < 0 ∨ c17.slots.size ≤ ((0 : Int32)).toNatClampNeg) := inb_of r17c ⟨by decide, by decide⟩
  have y17 : c17.slots[((0 : Int32)).toNatClampNeg]? = some (.double eb0) := r17e.at i17 rfl
  refine own_st (T' := T16) (g' := (mkF m 80 #[.val (.ref a0), .val (.double d1), .second, .val (.int (0 : Int32)), .val (.int (0 : Int32)), .val (.int (0 : Int32)), .val (.double (FP.ddiv (FP.dsub d1 ev0) (FP.dsub ev1 ev0))), .second] [(.ref a0), (.double (FP.ddiv (FP.dsub d1 ev0) (FP.dsub ev1 ev0))), (.double eb0)])) (fun t k => ?_) ?_
  · show Steps p.tables e below (T16.setTop (mkF m 76 #[.val (.ref a0), .val (.double d1), .second, .val (.int (0 : Int32)), .val (.int (0 : Int32)), .val (.int (0 : Int32)), .val (.double (FP.ddiv (FP.dsub d1 ev0) (FP.dsub ev1 ev0))), .second] [(.int (0 : Int32)), (.ref w_bids_a0)])) t
    refine X16.daload hx (j := (0 : Int32)) (v := (.double eb0)) (by rw [e16]; exact r17a.1) (State.isArrayOf_alike hZ.alike r17a.2.1) r17a.2.2 i17 y17 (g := (mkF m 76 #[.val (.ref a0), .val (.double d1), .second, .val (.int (0 : Int32)), .val (.int (0 : Int32)), .val (.int (0 : Int32)), .val (.double (FP.ddiv (FP.dsub d1 ev0) (FP.dsub ev1 ev0))), .second] [(.int (0 : Int32)), (.ref w_bids_a0)])) rfl rfl (hb hby d5_76) _ ?_
    show Steps p.tables e below (T16.setTop (mkF m 77 #[.val (.ref a0), .val (.double d1), .second, .val (.int (0 : Int32)), .val (.int (0 : Int32)), .val (.int (0 : Int32)), .val (.double (FP.ddiv (FP.dsub d1 ev0) (FP.dsub ev1 ev0))), .second] [(.double eb0)])) t
    refine XS.dload X16.here hx rfl (hb hby d5_77) rfl ?_
    show Steps p.tables e below (T16.setTop (mkF m 79 #[.val (.ref a0), .val (.double d1), .second, .val (.int (0 : Int32)), .val (.int (0 : Int32)), .val (.int (0 : Int32)), .val (.double (FP.ddiv (FP.dsub d1 ev0) (FP.dsub ev1 ev0))), .second] [(.double (FP.ddiv (FP.dsub d1 ev0) (FP.dsub ev1 ev0))), (.double eb0)])) t
    refine XS.aloadN X16.here hx rfl (hb hby d5_79) rfl rfl ?_
    exact k
  obtain ⟨T18, X18, e18, st18⟩ := getF X16 hx hZ hown (host := "") (Or.inl (hw _ (List.mem_of_getElem? (i := 31) rfl))) Via.refl e16 F_bids_a0 (g := (mkF m 80 #[.val (.ref a0), .val (.double d1), .second, .val (.int (0 : Int32)), .val (.int (0 : Int32)), .val (.int (0 : Int32)), .val (.double (FP.ddiv (FP.dsub d1 ev0) (FP.dsub ev1 ev0))), .second] [(.ref a0), (.double (FP.ddiv (FP.dsub d1 ev0) (FP.dsub ev1 ev0))), (.double eb0)])) rfl rfl (hb hby d5_80)
  refine own_st (T' := T18) (g' := (mkF m 83 #[.val (.ref a0), .val (.double d1), .second, .val (.int (0 : Int32)), .val (.int (0 : Int32)), .val (.int (0 : Int32)), .val (.double (FP.ddiv (FP.dsub d1 ev0) (FP.dsub ev1 ev0))), .second] [(.ref w_bids_a0), (.double (FP.ddiv (FP.dsub d1 ev0) (FP.dsub ev1 ev0))), (.double eb0)])) st18 ?_
  refine own_st (T' := T18) (g' := (mkF m 87 #[.val (.ref a0), .val (.double d1), .second, .val (.int (0 : Int32)), .val (.int (0 : Int32)), .val (.int (0 : Int32)), .val (.double (FP.ddiv (FP.dsub d1 ev0) (FP.dsub ev1 ev0))), .second] [(.int (1 : Int32)), (.ref w_bids_a0), (.double (FP.ddiv (FP.dsub d1 ev0) (FP.dsub ev1 ev0))), (.double eb0)])) (fun t k => ?_) ?_
  · show Steps p.tables e below (T18.setTop (mkF m 83 #[.val (.ref a0), .val (.double d1), .second, .val (.int (0 : Int32)), .val (.int (0 : Int32)), .val (.int (0 : Int32)), .val (.double (FP.ddiv (FP.dsub d1 ev0) (FP.dsub ev1 ev0))), .second] [(.ref w_bids_a0), (.double (FP.ddiv (FP.dsub d1 ev0) (FP.dsub ev1 ev0))), (.double eb0)])) t
    refine XS.iload X18.here hx rfl (hb hby d5_83) rfl ?_
    show Steps p.tables e below (T18.setTop (mkF m 85 #[.val (.ref a0), .val (.double d1), .second, .val (.int (0 : Int32)), .val (.int (0 : Int32)), .val (.int (0 : Int32)), .val (.double (FP.ddiv (FP.dsub d1 ev0) (FP.dsub ev1 ev0))), .second] [(.int (0 : Int32)), (.ref w_bids_a0), (.double (FP.ddiv (FP.dsub d1 ev0) (FP.dsub ev1 ev0))), (.double eb0)])) t
    refine XS.iconst X18.here hx rfl (hb hby d5_85) ?_
    show Steps p.tables e below (T18.setTop (mkF m 86 #[.val (.ref a0), .val (.double d1), .second, .val (.int (0 : Int32)), .val (.int (0 : Int32)), .val (.int (0 : Int32)), .val (.double (FP.ddiv (FP.dsub d1 ev0) (FP.dsub ev1 ev0))), .second] [(.int (1 : Int32)), (.int (0 : Int32)), (.ref w_bids_a0), (.double (FP.ddiv (FP.dsub d1 ev0) (FP.dsub ev1 ev0))), (.double eb0)])) t
    refine XS.iadd X18.here hx rfl (hb hby d5_86) rfl ?_
    exact k
  obtain ⟨c19, r19a, r19b, r19c, r19d, r19e, r19f⟩ := id V_w_bids_a0
  have i19 : ¬ ((1 : Int32) < 0 ∨ c19.slots.size ≤ ((1 : Int32)).toNatClampNeg) := inb_of r19c ⟨by decide, by decide⟩
  have y19 : c19.slots[((1 : Int32)).toNatClampNeg]? = some (.double eb1) := r19e.at i19 rfl
  refine own_st (T' := T18) (g' := (mkF m 89 #[.val (.ref a0), .val (.double d1), .second, .val (.int (0 : Int32)), .val (.int (0 : Int32)), .val (.int (0 : Int32)), .val (.double (FP.ddiv (FP.dsub d1 ev0) (FP.dsub ev1 ev0))), .second] [(.ref a0), (.double eb1), (.double (FP.ddiv (FP.dsub d1 ev0) (FP.dsub ev1 ev0))), (.double eb0)])) (fun t k => ?_) ?_
  · show Steps p.tables e below (T18.setTop (mkF m 87 #[.val (.ref a0), .val (.double d1), .second, .val (.int (0 : Int32)), .val (.int (0 : Int32)), .val (.int (0 : Int32)), .val (.double (FP.ddiv (FP.dsub d1 ev0) (FP.dsub ev1 ev0))), .second] [(.int (1 : Int32)), (.ref w_bids_a0), (.double (FP.ddiv (FP.dsub d1 ev0) (FP.dsub ev1 ev0))), (.double eb0)])) t
    refine X18.daload hx (j := (1 : Int32)) (v := (.double eb1)) (by rw [e18]; exact r19a.1) (State.isArrayOf_alike hZ.alike r19a.2.1) r19a.2.2 i19 y19 (g := (mkF m 87 #[.val (.ref a0), .val (.double d1), .second, .val (.int (0 : Int32)), .val (.int (0 : Int32)), .val (.int (0 : Int32)), .val (.double (FP.ddiv (FP.dsub d1 ev0) (FP.dsub ev1 ev0))), .second] [(.int (1 : Int32)), (.ref w_bids_a0), (.double (FP.ddiv (FP.dsub d1 ev0) (FP.dsub ev1 ev0))), (.double eb0)])) rfl rfl (hb hby d5_87) _ ?_
    show Steps p.tables e below (T18.setTop (mkF m 88 #[.val (.ref a0), .val (.double d1), .second, .val (.int (0 : Int32)), .val (.int (0 : Int32)), .val (.int (0 : Int32)), .val (.double (FP.ddiv (FP.dsub d1 ev0) (FP.dsub ev1 ev0))), .second] [(.double eb1), (.double (FP.ddiv (FP.dsub d1 ev0) (FP.dsub ev1 ev0))), (.double eb0)])) t
    refine XS.aloadN X18.here hx rfl (hb hby d5_88) rfl rfl ?_
    exact k
  obtain ⟨T20, X20, e20, st20⟩ := getF X18 hx hZ hown (host := "") (Or.inl (hw _ (List.mem_of_getElem? (i := 31) rfl))) Via.refl e18 F_bids_a0 (g := (mkF m 89 #[.val (.ref a0), .val (.double d1), .second, .val (.int (0 : Int32)), .val (.int (0 : Int32)), .val (.int (0 : Int32)), .val (.double (FP.ddiv (FP.dsub d1 ev0) (FP.dsub ev1 ev0))), .second] [(.ref a0), (.double eb1), (.double (FP.ddiv (FP.dsub d1 ev0) (FP.dsub ev1 ev0))), (.double eb0)])) rfl rfl (hb hby d5_89)
  refine own_st (T' := T20) (g' := (mkF m 92 #[.val (.ref a0), .val (.double d1), .second, .val (.int (0 : Int32)), .val (.int (0 : Int32)), .val (.int (0 : Int32)), .val (.double (FP.ddiv (FP.dsub d1 ev0) (FP.dsub ev1 ev0))), .second] [(.ref w_bids_a0), (.double eb1), (.double (FP.ddiv (FP.dsub d1 ev0) (FP.dsub ev1 ev0))), (.double eb0)])) st20 ?_
  refine own_st (T' := T20) (g' := (mkF m 94 #[.val (.ref a0), .val (.double d1), .second, .val (.int (0 : Int32)), .val (.int (0 : Int32)), .val (.int (0 : Int32)), .val (.double (FP.ddiv (FP.dsub d1 ev0) (FP.dsub ev1 ev0))), .second] [(.int (0 : Int32)), (.ref w_bids_a0), (.double eb1), (.double (FP.ddiv (FP.dsub d1 ev0) (FP.dsub ev1 ev0))), (.double eb0)])) (fun t k => ?_) ?_
  · show Steps p.tables e below (T20.setTop (mkF m 92 #[.val (.ref a0), .val (.double d1), .second, .val (.int (0 : Int32)), .val (.int (0 : Int32)), .val (.int (0 : Int32)), .val (.double (FP.ddiv (FP.dsub d1 ev0) (FP.dsub ev1 ev0))), .second] [(.ref w_bids_a0), (.double eb1), (.double (FP.ddiv (FP.dsub d1 ev0) (FP.dsub ev1 ev0))), (.double eb0)])) t
    refine XS.iload X20.here hx rfl (hb hby d5_92) rfl ?_
    exact k
  obtain ⟨c21, r21a, r21b, r21c, r21d, r21e, r21f⟩ := id V_w_bids_a0
  have i21 : ¬ ((0 : Int32) < 0 ∨ c21.slots.size ≤ ((0 : Int32)).toNatClampNeg) := inb_of r21c ⟨by decide, by decide⟩
  have y21 : c21.slots[((0 : Int32)).toNatClampNeg]? = some (.double eb0) := r21e.at i21 rfl
  refine own_st (T' := T20) (g' := (mkF m 98 #[.val (.ref a0), .val (.double d1), .second, .val (.int (0 : Int32)), .val (.int (0 : Int32)), .val (.int (0 : Int32)), .val (.double (FP.ddiv (FP.dsub d1 ev0) (FP.dsub ev1 ev0))), .second] [(.double (FP.dadd eb0 (FP.dmul (FP.ddiv (FP.dsub d1 ev0) (FP.dsub ev1 ev0)) (FP.dsub eb1 eb0))))])) (fun t k => ?_) ?_
  · show Steps p.tables e below (T20.setTop (mkF m 94 #[.val (.ref a0), .val (.double d1), .second, .val (.int (0 : Int32)), .val (.int (0 : Int32)), .val (.int (0 : Int32)), .val (.double (FP.ddiv (FP.dsub d1 ev0) (FP.dsub ev1 ev0))), .second] [(.int (0 : Int32)), (.ref w_bids_a0), (.double eb1), (.double (FP.ddiv (FP.dsub d1 ev0) (FP.dsub ev1 ev0))), (.double eb0)])) t
    refine X20.daload hx (j := (0 : Int32)) (v := (.double eb0)) (by rw [e20]; exact r21a.1) (State.isArrayOf_alike hZ.alike r21a.2.1) r21a.2.2 i21 y21 (g := (mkF m 94 #[.val (.ref a0), .val (.double d1), .second, .val (.int (0 : Int32)), .val (.int (0 : Int32)), .val (.int (0 : Int32)), .val (.double (FP.ddiv (FP.dsub d1 ev0) (FP.dsub ev1 ev0))), .second] [(.int (0 : Int32)), (.ref w_bids_a0), (.double eb1), (.double (FP.ddiv (FP.dsub d1 ev0) (FP.dsub ev1 ev0))), (.double eb0)])) rfl rfl (hb hby d5_94) _ ?_
    show Steps p.tables e below (T20.setTop (mkF m 95 #[.val (.ref a0), .val (.double d1), .second, .val (.int (0 : Int32)), .val (.int (0 : Int32)), .val (.int (0 : Int32)), .val (.double (FP.ddiv (FP.dsub d1 ev0) (FP.dsub ev1 ev0))), .second] [(.double eb0), (.double eb1), (.double (FP.ddiv (FP.dsub d1 ev0) (FP.dsub ev1 ev0))), (.double eb0)])) t
    refine XS.dsubS X20.here hx rfl (hb hby d5_95) rfl hn95 rfl ?_
    show Steps p.tables e below (T20.setTop (mkF m 96 #[.val (.ref a0), .val (.double d1), .second, .val (.int (0 : Int32)), .val (.int (0 : Int32)), .val (.int (0 : Int32)), .val (.double (FP.ddiv (FP.dsub d1 ev0) (FP.dsub ev1 ev0))), .second] [(.double (FP.dsub eb1 eb0)), (.double (FP.ddiv (FP.dsub d1 ev0) (FP.dsub ev1 ev0))), (.double eb0)])) t
    refine XS.dmulS X20.here hx rfl (hb hby d5_96) rfl hn96 rfl ?_
    show Steps p.tables e below (T20.setTop (mkF m 97 #[.val (.ref a0), .val (.double d1), .second, .val (.int (0 : Int32)), .val (.int (0 : Int32)), .val (.int (0 : Int32)), .val (.double (FP.ddiv (FP.dsub d1 ev0) (FP.dsub ev1 ev0))), .second] [(.double (FP.dmul (FP.ddiv (FP.dsub d1 ev0) (FP.dsub ev1 ev0)) (FP.dsub eb1 eb0))), (.double eb0)])) t
    refine XS.daddS X20.here hx rfl (hb hby d5_97) rfl hn97 rfl ?_
    exact k
  refine own_retD X20 hx hlk Bd.returns (hb hby d5_98) (by decide) (by decide) ?_
  show Qbge Z a0 d1 w_values_a0 kk_w_values_a0 ev0 ev1 ev2 ev3 w_bids_a0 kk_w_bids_a0 eb0 eb1 eb2 eb3 h0 n0 (some (.double (FP.dadd eb0 (FP.dmul (FP.ddiv (FP.dsub d1 ev0) (FP.dsub ev1 ev0)) (FP.dsub eb1 eb0))))) T20.heap _
  rw [(e20 : T20.heap = h0)]
  exact ⟨rfl, n9, rfl⟩
theorem pn0 : plainName "com/example/corewright/corewright/equilibrium/StrategyBidPinLaw" = true := by first | (simp [plainName, overriddenIn]; done) | decide +kernel
theorem pd0_0 : parseMethodDescriptor "([D[D)V" = some ⟨[(.array .double), (.array .double)], none⟩ := by decide +kernel
theorem pd0_1 : parseMethodDescriptor "(D)D" = some ⟨[.double], some .double⟩ := by decide +kernel
theorem ef0 (m : MethodId) (p0 : Int32) (p1 : Int32) (p2 : Int32) (p3 : Int32) (p4 : Int32) (p5 : Int32) : entryFrame m #[(.int p0), (.int p1), (.int p2), (.int p3), (.int p4), (.int p5)] maxLocals = mkF m 0 #[.val (.int p0), .val (.int p1), .val (.int p2), .val (.int p3), .val (.int p4), .val (.int p5), .unset, .unset, .unset, .unset, .unset, .unset, .unset, .unset, .unset, .unset, .unset, .unset, .unset, .unset, .unset, .unset, .unset, .unset, .unset, .unset, .unset, .unset, .unset, .unset, .unset, .unset, .unset, .unset, .unset, .unset, .unset, .unset, .unset, .unset, .unset, .unset, .unset] [] := by first | (simp [entryFrame, mkF, argsToLocals, Value.category, maxLocals]; done) | rfl
def Q0 (Z : State) (p0 : Int32) (p1 : Int32) (p2 : Int32) (p3 : Int32) (p4 : Int32) (p5 : Int32) (h0 : Heap) (n0 : Nat) (v : Option Value) (h : Heap) (L : List Loc) : Prop := v = some (.int (1 : Int32)) ∧ Fr n0 L
set_option maxRecDepth 65536 in
set_option maxHeartbeats 40000000 in
theorem rm0 (l : Launch) (Z : State) (ar : Array Value) (hw : ∀ d ∈ tables_1, d.before ar Z = true) (ws : List Jvm.Cond) (p0 : Int32) (p1 : Int32) (p2 : Int32) (p3 : Int32) (p4 : Int32) (p5 : Int32) (h0 : Heap) (n0 : Nat) (Z0 : n0 ≤ h0.size) :
    MetFree l x (head1 (Jvm.Cond.code x code maxLocals ret :: ws) room_1) (fun a U => a = #[(.int p0), (.int p1), (.int p2), (.int p3), (.int p4), (.int p5)] ∧ Z.Warmed39 U.vm ∧ U.heap = h0) (fun _ _ _ _ _ => True) (fun _ U o U' => ∃ v L, o = .returned v ∧ Q0 Z p0 p1 p2 p3 p4 p5 h0 n0 v U'.heap L ∧ FrameEnd U o U' L room_1.cells room_1.slots) := by
  refine MetFree.of_bodySF (plainFor_of_name pn0) hisR ?_
  intro p e s m args below meth c s₁ Bd hml0 hP hK
  obtain ⟨rfl, hZ, hh⟩ := hP
  have hx := Bd.exec
  have hby := Bd.bytes
  have hlk := Bd.notSynchronized
  have hml : c.maxLocals = 43 := hml0
  have hown : s.vm.findClass "com/example/corewright/corewright/equilibrium/StrategyBidPinLaw" = some m.cls := findClass_of_methodNamed Bd.named
  have hnm := (name_of_methodNamed Bd.named Bd.method).1
  have X0 : Stand p l e room_1 s m #[(.int p0), (.int p1), (.int p2), (.int p3), (.int p4), (.int p5)] below meth c s₁ [] 0 0 := Stand.of_body Bd
  have e0 : s₁.heap = h0 := by rw [← hh, Bd.state]; rfl
  have N0 := Fr.nil n0
  have K0 := Keep.refl h0 []
  refine own_enter (Q := Q0 Z p0 p1 p2 p3 p4 p5 h0 n0) (ef0 m p0 p1 p2 p3 p4 p5) ?_
  have hJ89 : ∀ (wl1 : Int64) (wl2 : Int64) (wl3 : Int64) (wv1 : Int64) (wv2 : Int64) (wv3 : Int64) (wc0 : Int64) (wc1 : Int64) (wc2 : Int64) (wc3 : Int64) (wx : Int64) (hT : own_T wl1 wl2 wl3 wv1 wv2 wv3 wc0 wc1 wc2 wc3 wx), own_G p e below s (Q0 Z p0 p1 p2 p3 p4 p5 h0 n0) (room_1).cells (room_1).slots s₁ (mkF m 89 #[.val (.int p0), .val (.int p1), .val (.int p2), .val (.int p3), .val (.int p4), .val (.int p5), .val (.long wl1), .second, .val (.long wl2), .second, .val (.long wl3), .second, .val (.long wv1), .second, .val (.long wv2), .second, .val (.long wv3), .second, .val (.long wc0), .second, .val (.long wc1), .second, .val (.long wc2), .second, .val (.long wc3), .second, .val (.long wx), .second, .unset, .unset, .unset, .unset, .unset, .unset, .unset, .unset, .unset, .unset, .unset, .unset, .unset, .unset, .unset] []) := by
    intro wl1 wl2 wl3 wv1 wv2 wv3 wc0 wc1 wc2 wc3 wx hT
    refine own_st (T' := s₁) (g' := (mkF m 90 #[.val (.int p0), .val (.int p1), .val (.int p2), .val (.int p3), .val (.int p4), .val (.int p5), .val (.long wl1), .second, .val (.long wl2), .second, .val (.long wl3), .second, .val (.long wv1), .second, .val (.long wv2), .second, .val (.long wv3), .second, .val (.long wc0), .second, .val (.long wc1), .second, .val (.long wc2), .second, .val (.long wc3), .second, .val (.long wx), .second, .unset, .unset, .unset, .unset, .unset, .unset, .unset, .unset, .unset, .unset, .unset, .unset, .unset, .unset, .unset] [(.int (4 : Int32))])) (fun t k => ?_) ?_
    · show Steps p.tables e below (s₁.setTop (mkF m 89 #[.val (.int p0), .val (.int p1), .val (.int p2), .val (.int p3), .val (.int p4), .val (.int p5), .val (.long wl1), .second, .val (.long wl2), .second, .val (.long wl3), .second, .val (.long wv1), .second, .val (.long wv2), .second, .val (.long wv3), .second, .val (.long wc0), .second, .val (.long wc1), .second, .val (.long wc2), .second, .val (.long wc3), .second, .val (.long wx), .second, .unset, .unset, .unset, .unset, .unset, .unset, .unset, .unset, .unset, .unset, .unset, .unset, .unset, .unset, .unset] [])) t
      refine XS.iconst X0.here hx rfl (hb hby at_89) ?_
      exact k
    obtain ⟨T1, h1, k1, X1, e1, E1, A1, B1, st1⟩ := newPE X0 hx hZ (hw _ (List.mem_of_getElem? (i := 1) rfl)) e0 (g := (mkF m 90 #[.val (.int p0), .val (.int p1), .val (.int p2), .val (.int p3), .val (.int p4), .val (.int p5), .val (.long wl1), .second, .val (.long wl2), .second, .val (.long wl3), .second, .val (.long wv1), .second, .val (.long wv2), .second, .val (.long wv3), .second, .val (.long wc0), .second, .val (.long wc1), .second, .val (.long wc2), .second, .val (.long wc3), .second, .val (.long wx), .second, .unset, .unset, .unset, .unset, .unset, .unset, .unset, .unset, .unset, .unset, .unset, .unset, .unset, .unset, .unset] [(.int (4 : Int32))])) rfl (hb hby at_90) rfl (by decide) (cap := 4) (by decide) (by decide) (by decide) (by decide) (ad := "[D") (by decide +kernel)
    obtain ⟨b1, g1⟩ : ∃ z, z = h0.size := ⟨_, rfl⟩
    rw [← g1] at A1 B1 st1
    have g_b1 : n0 ≤ b1 := Nat.le_trans Z0 (Nat.le_of_eq g1.symm)
    have sz_b1 : h0.size ≤ b1 := Nat.le_trans K0.1 (Nat.le_of_eq g1.symm)
    have z2 := Nat.le_trans Z0 E1.1
    have k3 := K0.ext E1
    have v4 : Arv Z h1 b1 k1 .double (4 : Int32) [(.double (0 : UInt64)), (.double (0 : UInt64)), (.double (0 : UInt64)), (.double (0 : UInt64))] (.double (0 : UInt64)) := (Arv.new A1 (by decide)).pad (pad_rep [] (.double (0 : UInt64)) 4)
    refine own_st (T' := T1) (g' := (mkF m 92 #[.val (.int p0), .val (.int p1), .val (.int p2), .val (.int p3), .val (.int p4), .val (.int p5), .val (.long wl1), .second, .val (.long wl2), .second, .val (.long wl3), .second, .val (.long wv1), .second, .val (.long wv2), .second, .val (.long wv3), .second, .val (.long wc0), .second, .val (.long wc1), .second, .val (.long wc2), .second, .val (.long wc3), .second, .val (.long wx), .second, .unset, .unset, .unset, .unset, .unset, .unset, .unset, .unset, .unset, .unset, .unset, .unset, .unset, .unset, .unset] [(.ref b1)])) st1 ?_
    refine own_st (T' := T1) (g' := (mkF m 95 #[.val (.int p0), .val (.int p1), .val (.int p2), .val (.int p3), .val (.int p4), .val (.int p5), .val (.long wl1), .second, .val (.long wl2), .second, .val (.long wl3), .second, .val (.long wv1), .second, .val (.long wv2), .second, .val (.long wv3), .second, .val (.long wc0), .second, .val (.long wc1), .second, .val (.long wc2), .second, .val (.long wc3), .second, .val (.long wx), .second, .unset, .unset, .unset, .unset, .unset, .unset, .unset, .unset, .unset, .unset, .unset, .unset, .unset, .unset, .unset] [(.double (0 : UInt64)), (.int (0 : Int32)), (.ref b1), (.ref b1)])) (fun t k => ?_) ?_
    · show Steps p.tables e below (T1.setTop (mkF m 92 #[.val (.int p0), .val (.int p1), .val (.int p2), .val (.int p3), .val (.int p4), .val (.int p5), .val (.long wl1), .second, .val (.long wl2), .second, .val (.long wl3), .second, .val (.long wv1), .second, .val (.long wv2), .second, .val (.long wv3), .second, .val (.long wc0), .second, .val (.long wc1), .second, .val (.long wc2), .second, .val (.long wc3), .second, .val (.long wx), .second, .unset, .unset, .unset, .unset, .unset, .unset, .unset, .unset, .unset, .unset, .unset, .unset, .unset, .unset, .unset] [(.ref b1)])) t
      refine XS.dup X1.here hx rfl (hb hby at_92) rfl rfl ?_
      refine XS.iconst X1.here hx rfl (hb hby at_93) ?_
      refine XS.dconst0 X1.here hx rfl (hb hby at_94) rfl ?_
      exact k
    obtain ⟨c5, r5a, r5b, r5c, r5d, r5e, r5f⟩ := id v4
    have i5 : ¬ ((0 : Int32) < 0 ∨ c5.slots.size ≤ ((0 : Int32)).toNatClampNeg) := inb_of r5c ⟨by decide, by decide⟩
    obtain ⟨T5, h5, X5, e5, W5, st5⟩ := stD X1 hx hZ e1 r5a (j := (0 : Int32)) i5 (g := (mkF m 95 #[.val (.int p0), .val (.int p1), .val (.int p2), .val (.int p3), .val (.int p4), .val (.int p5), .val (.long wl1), .second, .val (.long wl2), .second, .val (.long wl3), .second, .val (.long wv1), .second, .val (.long wv2), .second, .val (.long wv3), .second, .val (.long wc0), .second, .val (.long wc1), .second, .val (.long wc2), .second, .val (.long wc3), .second, .val (.long wx), .second, .unset, .unset, .unset, .unset, .unset, .unset, .unset, .unset, .unset, .unset, .unset, .unset, .unset, .unset, .unset] [(.double (0 : UInt64)), (.int (0 : Int32)), (.ref b1), (.ref b1)])) rfl rfl (hb hby at_95)
    have v6 := Arv.set r5a r5b r5c r5d r5e r5f rfl W5 0 rfl (Nat.le_of_ble_eq_true rfl)
    have f7 := B1.wr W5
    have z8 := Nat.le_trans z2 (Keep.of_wr W5).1
    have k9 := k3.wr W5 (Or.inr sz_b1)
    have n10 := Fr.snoc X5 N0 g_b1
    refine own_st (T' := T5) (g' := (mkF m 96 #[.val (.int p0), .val (.int p1), .val (.int p2), .val (.int p3), .val (.int p4), .val (.int p5), .val (.long wl1), .second, .val (.long wl2), .second, .val (.long wl3), .second, .val (.long wv1), .second, .val (.long wv2), .second, .val (.long wv3), .second, .val (.long wc0), .second, .val (.long wc1), .second, .val (.long wc2), .second, .val (.long wc3), .second, .val (.long wx), .second, .unset, .unset, .unset, .unset, .unset, .unset, .unset, .unset, .unset, .unset, .unset, .unset, .unset, .unset, .unset] [(.ref b1)])) st5 ?_
    refine own_st (T' := T5) (g' := (mkF m 101 #[.val (.int p0), .val (.int p1), .val (.int p2), .val (.int p3), .val (.int p4), .val (.int p5), .val (.long wl1), .second, .val (.long wl2), .second, .val (.long wl3), .second, .val (.long wv1), .second, .val (.long wv2), .second, .val (.long wv3), .second, .val (.long wc0), .second, .val (.long wc1), .second, .val (.long wc2), .second, .val (.long wc3), .second, .val (.long wx), .second, .unset, .unset, .unset, .unset, .unset, .unset, .unset, .unset, .unset, .unset, .unset, .unset, .unset, .unset, .unset] [(.double (FP.l2d wv1)), (.int (1 : Int32)), (.ref b1), (.ref b1)])) (fun t k => ?_) ?_
    · show Steps p.tables e below (T5.setTop (mkF m 96 #[.val (.int p0), .val (.int p1), .val (.int p2), .val (.int p3), .val (.int p4), .val (.int p5), .val (.long wl1), .second, .val (.long wl2), .second, .val (.long wl3), .second, .val (.long wv1), .second, .val (.long wv2), .second, .val (.long wv3), .second, .val (.long wc0), .second, .val (.long wc1), .second, .val (.long wc2), .second, .val (.long wc3), .second, .val (.long wx), .second, .unset, .unset, .unset, .unset, .unset, .unset, .unset, .unset, .unset, .unset, .unset, .unset, .unset, .unset, .unset] [(.ref b1)])) t
      refine XS.dup X5.here hx rfl (hb hby at_96) rfl rfl ?_
      refine XS.iconst X5.here hx rfl (hb hby at_97) ?_
      refine XS.lload X5.here hx rfl (hb hby at_98) rfl ?_
      refine XS.l2dS X5.here hx rfl (hb hby at_100) rfl rfl ?_
      exact k
    obtain ⟨c11, r11a, r11b, r11c, r11d, r11e, r11f⟩ := id v6
    have i11 : ¬ ((1 : Int32) < 0 ∨ c11.slots.size ≤ ((1 : Int32)).toNatClampNeg) := inb_of r11c ⟨by decide, by decide⟩
    obtain ⟨T11, h11, X11, e11, W11, st11⟩ := stD X5 hx hZ e5 r11a (j := (1 : Int32)) i11 (g := (mkF m 101 #[.val (.int p0), .val (.int p1), .val (.int p2), .val (.int p3), .val (.int p4), .val (.int p5), .val (.long wl1), .second, .val (.long wl2), .second, .val (.long wl3), .second, .val (.long wv1), .second, .val (.long wv2), .second, .val (.long wv3), .second, .val (.long wc0), .second, .val (.long wc1), .second, .val (.long wc2), .second, .val (.long wc3), .second, .val (.long wx), .second, .unset, .unset, .unset, .unset, .unset, .unset, .unset, .unset, .unset, .unset, .unset, .unset, .unset, .unset, .unset] [(.double (FP.l2d wv1)), (.int (1 : Int32)), (.ref b1), (.ref b1)])) rfl rfl (hb hby at_101)
    have v12 := Arv.set r11a r11b r11c r11d r11e r11f rfl W11 1 rfl (Nat.le_of_ble_eq_true rfl)
    have f13 := f7.wr W11
    have z14 := Nat.le_trans z8 (Keep.of_wr W11).1
    have k15 := k9.wr W11 (Or.inr sz_b1)
    have n16 := Fr.snoc X11 n10 g_b1
    refine own_st (T' := T11) (g' := (mkF m 102 #[.val (.int p0), .val (.int p1), .val (.int p2), .val (.int p3), .val (.int p4), .val (.int p5), .val (.long wl1), .second, .val (.long wl2), .second, .val (.long wl3), .second, .val (.long wv1), .second, .val (.long wv2), .second, .val (.long wv3), .second, .val (.long wc0), .second, .val (.long wc1), .second, .val (.long wc2), .second, .val (.long wc3), .second, .val (.long wx), .second, .unset, .unset, .unset, .unset, .unset, .unset, .unset, .unset, .unset, .unset, .unset, .unset, .unset, .unset, .unset] [(.ref b1)])) st11 ?_
    refine own_st (T' := T11) (g' := (mkF m 107 #[.val (.int p0), .val (.int p1), .val (.int p2), .val (.int p3), .val (.int p4), .val (.int p5), .val (.long wl1), .second, .val (.long wl2), .second, .val (.long wl3), .second, .val (.long wv1), .second, .val (.long wv2), .second, .val (.long wv3), .second, .val (.long wc0), .second, .val (.long wc1), .second, .val (.long wc2), .second, .val (.long wc3), .second, .val (.long wx), .second, .unset, .unset, .unset, .unset, .unset, .unset, .unset, .unset, .unset, .unset, .unset, .unset, .unset, .unset, .unset] [(.double (FP.l2d wv2)), (.int (2 : Int32)), (.ref b1), (.ref b1)])) (fun t k => ?_) ?_
    · show Steps p.tables e below (T11.setTop (mkF m 102 #[.val (.int p0), .val (.int p1), .val (.int p2), .val (.int p3), .val (.int p4), .val (.int p5), .val (.long wl1), .second, .val (.long wl2), .second, .val (.long wl3), .second, .val (.long wv1), .second, .val (.long wv2), .second, .val (.long wv3), .second, .val (.long wc0), .second, .val (.long wc1), .second, .val (.long wc2), .second, .val (.long wc3), .second, .val (.long wx), .second, .unset, .unset, .unset, .unset, .unset, .unset, .unset, .unset, .unset, .unset, .unset, .unset, .unset, .unset, .unset] [(.ref b1)])) t
      refine XS.dup X11.here hx rfl (hb hby at_102) rfl rfl ?_
      refine XS.iconst X11.here hx rfl (hb hby at_103) ?_
      refine XS.lload X11.here hx rfl (hb hby at_104) rfl ?_
      refine XS.l2dS X11.here hx rfl (hb hby at_106) rfl rfl ?_
      exact k
    obtain ⟨c17, r17a, r17b, r17c, r17d, r17e, r17f⟩ := id v12
    have i17 : ¬ ((2 : Int32) < 0 ∨ c17.slots.size ≤ ((2 : Int32)).toNatClampNeg) := inb_of r17c ⟨by decide, by decide⟩
    obtain ⟨T17, h17, X17, e17, W17, st17⟩ := stD X11 hx hZ e11 r17a (j := (2 : Int32)) i17 (g := (mkF m 107 #[.val (.int p0), .val (.int p1), .val (.int p2), .val (.int p3), .val (.int p4), .val (.int p5), .val (.long wl1), .second, .val (.long wl2), .second, .val (.long wl3), .second, .val (.long wv1), .second, .val (.long wv2), .second, .val (.long wv3), .second, .val (.long wc0), .second, .val (.long wc1), .second, .val (.long wc2), .second, .val (.long wc3), .second, .val (.long wx), .second, .unset, .unset, .unset, .unset, .unset, .unset, .unset, .unset, .unset, .unset, .unset, .unset, .unset, .unset, .unset] [(.double (FP.l2d wv2)), (.int (2 : Int32)), (.ref b1), (.ref b1)])) rfl rfl (hb hby at_107)
    have v18 := Arv.set r17a r17b r17c r17d r17e r17f rfl W17 2 rfl (Nat.le_of_ble_eq_true rfl)
    have f19 := f13.wr W17
    have z20 := Nat.le_trans z14 (Keep.of_wr W17).1
    have k21 := k15.wr W17 (Or.inr sz_b1)
    have n22 := Fr.snoc X17 n16 g_b1
    refine own_st (T' := T17) (g' := (mkF m 108 #[.val (.int p0), .val (.int p1), .val (.int p2), .val (.int p3), .val (.int p4), .val (.int p5), .val (.long wl1), .second, .val (.long wl2), .second, .val (.long wl3), .second, .val (.long wv1), .second, .val (.long wv2), .second, .val (.long wv3), .second, .val (.long wc0), .second, .val (.long wc1), .second, .val (.long wc2), .second, .val (.long wc3), .second, .val (.long wx), .second, .unset, .unset, .unset, .unset, .unset, .unset, .unset, .unset, .unset, .unset, .unset, .unset, .unset, .unset, .unset] [(.ref b1)])) st17 ?_
    refine own_st (T' := T17) (g' := (mkF m 113 #[.val (.int p0), .val (.int p1), .val (.int p2), .val (.int p3), .val (.int p4), .val (.int p5), .val (.long wl1), .second, .val (.long wl2), .second, .val (.long wl3), .second, .val (.long wv1), .second, .val (.long wv2), .second, .val (.long wv3), .second, .val (.long wc0), .second, .val (.long wc1), .second, .val (.long wc2), .second, .val (.long wc3), .second, .val (.long wx), .second, .unset, .unset, .unset, .unset, .unset, .unset, .unset, .unset, .unset, .unset, .unset, .unset, .unset, .unset, .unset] [(.double (FP.l2d wv3)), (.int (3 : Int32)), (.ref b1), (.ref b1)])) (fun t k => ?_) ?_
    · show Steps p.tables e below (T17.setTop (mkF m 108 #[.val (.int p0), .val (.int p1), .val (.int p2), .val (.int p3), .val (.int p4), .val (.int p5), .val (.long wl1), .second, .val (.long wl2), .second, .val (.long wl3), .second, .val (.long wv1), .second, .val (.long wv2), .second, .val (.long wv3), .second, .val (.long wc0), .second, .val (.long wc1), .second, .val (.long wc2), .second, .val (.long wc3), .second, .val (.long wx), .second, .unset, .unset, .unset, .unset, .unset, .unset, .unset, .unset, .unset, .unset, .unset, .unset, .unset, .unset, .unset] [(.ref b1)])) t
      refine XS.dup X17.here hx rfl (hb hby at_108) rfl rfl ?_
      refine XS.iconst X17.here hx rfl (hb hby at_109) ?_
      refine XS.lload X17.here hx rfl (hb hby at_110) rfl ?_
      refine XS.l2dS X17.here hx rfl (hb hby at_112) rfl rfl ?_
      exact k
    obtain ⟨c23, r23a, r23b, r23c, r23d, r23e, r23f⟩ := id v18
    have i23 : ¬ ((3 : Int32) < 0 ∨ c23.slots.size ≤ ((3 : Int32)).toNatClampNeg) := inb_of r23c ⟨by decide, by decide⟩
    obtain ⟨T23, h23, X23, e23, W23, st23⟩ := stD X17 hx hZ e17 r23a (j := (3 : Int32)) i23 (g := (mkF m 113 #[.val (.int p0), .val (.int p1), .val (.int p2), .val (.int p3), .val (.int p4), .val (.int p5), .val (.long wl1), .second, .val (.long wl2), .second, .val (.long wl3), .second, .val (.long wv1), .second, .val (.long wv2), .second, .val (.long wv3), .second, .val (.long wc0), .second, .val (.long wc1), .second, .val (.long wc2), .second, .val (.long wc3), .second, .val (.long wx), .second, .unset, .unset, .unset, .unset, .unset, .unset, .unset, .unset, .unset, .unset, .unset, .unset, .unset, .unset, .unset] [(.double (FP.l2d wv3)), (.int (3 : Int32)), (.ref b1), (.ref b1)])) rfl rfl (hb hby at_113)
    have v24 := Arv.set r23a r23b r23c r23d r23e r23f rfl W23 3 rfl (Nat.le_of_ble_eq_true rfl)
    have f25 := f19.wr W23
    have z26 := Nat.le_trans z20 (Keep.of_wr W23).1
    have k27 := k21.wr W23 (Or.inr sz_b1)
    have n28 := Fr.snoc X23 n22 g_b1
    refine own_st (T' := T23) (g' := (mkF m 114 #[.val (.int p0), .val (.int p1), .val (.int p2), .val (.int p3), .val (.int p4), .val (.int p5), .val (.long wl1), .second, .val (.long wl2), .second, .val (.long wl3), .second, .val (.long wv1), .second, .val (.long wv2), .second, .val (.long wv3), .second, .val (.long wc0), .second, .val (.long wc1), .second, .val (.long wc2), .second, .val (.long wc3), .second, .val (.long wx), .second, .unset, .unset, .unset, .unset, .unset, .unset, .unset, .unset, .unset, .unset, .unset, .unset, .unset, .unset, .unset] [(.ref b1)])) st23 ?_
    refine own_st (T' := T23) (g' := (mkF m 117 #[.val (.int p0), .val (.int p1), .val (.int p2), .val (.int p3), .val (.int p4), .val (.int p5), .val (.long wl1), .second, .val (.long wl2), .second, .val (.long wl3), .second, .val (.long wv1), .second, .val (.long wv2), .second, .val (.long wv3), .second, .val (.long wc0), .second, .val (.long wc1), .second, .val (.long wc2), .second, .val (.long wc3), .second, .val (.long wx), .second, .val (.ref b1), .unset, .unset, .unset, .unset, .unset, .unset, .unset, .unset, .unset, .unset, .unset, .unset, .unset, .unset] [(.int (4 : Int32))])) (fun t k => ?_) ?_
    · show Steps p.tables e below (T23.setTop (mkF m 114 #[.val (.int p0), .val (.int p1), .val (.int p2), .val (.int p3), .val (.int p4), .val (.int p5), .val (.long wl1), .second, .val (.long wl2), .second, .val (.long wl3), .second, .val (.long wv1), .second, .val (.long wv2), .second, .val (.long wv3), .second, .val (.long wc0), .second, .val (.long wc1), .second, .val (.long wc2), .second, .val (.long wc3), .second, .val (.long wx), .second, .unset, .unset, .unset, .unset, .unset, .unset, .unset, .unset, .unset, .unset, .unset, .unset, .unset, .unset, .unset] [(.ref b1)])) t
      refine XS.astore X23.here hx rfl (hb hby at_114) rfl rfl (l' := #[.val (.int p0), .val (.int p1), .val (.int p2), .val (.int p3), .val (.int p4), .val (.int p5), .val (.long wl1), .second, .val (.long wl2), .second, .val (.long wl3), .second, .val (.long wv1), .second, .val (.long wv2), .second, .val (.long wv3), .second, .val (.long wc0), .second, .val (.long wc1), .second, .val (.long wc2), .second, .val (.long wc3), .second, .val (.long wx), .second, .val (.ref b1), .unset, .unset, .unset, .unset, .unset, .unset, .unset, .unset, .unset, .unset, .unset, .unset, .unset, .unset]) rfl ?_
      refine XS.iconst X23.here hx rfl (hb hby at_116) ?_
      exact k
    obtain ⟨T29, h29, k29, X29, e29, E29, A29, B29, st29⟩ := newPE X23 hx hZ (hw _ (List.mem_of_getElem? (i := 1) rfl)) e23 (g := (mkF m 117 #[.val (.int p0), .val (.int p1), .val (.int p2), .val (.int p3), .val (.int p4), .val (.int p5), .val (.long wl1), .second, .val (.long wl2), .second, .val (.long wl3), .second, .val (.long wv1), .second, .val (.long wv2), .second, .val (.long wv3), .second, .val (.long wc0), .second, .val (.long wc1), .second, .val (.long wc2), .second, .val (.long wc3), .second, .val (.long wx), .second, .val (.ref b1), .unset, .unset, .unset, .unset, .unset, .unset, .unset, .unset, .unset, .unset, .unset, .unset, .unset, .unset] [(.int (4 : Int32))])) rfl (hb hby at_117) rfl (by decide) (cap := 4) (by decide) (by decide) (by decide) (by decide) (ad := "[D") (by decide +kernel)
    obtain ⟨b29, g29⟩ : ∃ z, z = h23.size := ⟨_, rfl⟩
    rw [← g29] at A29 B29 st29
    have ne_b1_b29 : b1 ≠ b29 := Nat.ne_of_lt (Nat.lt_of_lt_of_le f25.lt (Nat.le_of_eq g29.symm))
    have g_b29 : n0 ≤ b29 := Nat.le_trans z26 (Nat.le_of_eq g29.symm)
    have sz_b29 : h0.size ≤ b29 := Nat.le_trans k27.1 (Nat.le_of_eq g29.symm)
    have f30 := f25.ext E29
    have f31 := v24.ext E29
    have z32 := Nat.le_trans z26 E29.1
    have k33 := k27.ext E29
    have v34 : Arv Z h29 b29 k29 .double (4 : Int32) [(.double (0 : UInt64)), (.double (0 : UInt64)), (.double (0 : UInt64)), (.double (0 : UInt64))] (.double (0 : UInt64)) := (Arv.new A29 (by decide)).pad (pad_rep [] (.double (0 : UInt64)) 4)
    refine own_st (T' := T29) (g' := (mkF m 119 #[.val (.int p0), .val (.int p1), .val (.int p2), .val (.int p3), .val (.int p4), .val (.int p5), .val (.long wl1), .second, .val (.long wl2), .second, .val (.long wl3), .second, .val (.long wv1), .second, .val (.long wv2), .second, .val (.long wv3), .second, .val (.long wc0), .second, .val (.long wc1), .second, .val (.long wc2), .second, .val (.long wc3), .second, .val (.long wx), .second, .val (.ref b1), .unset, .unset, .unset, .unset, .unset, .unset, .unset, .unset, .unset, .unset, .unset, .unset, .unset, .unset] [(.ref b29)])) st29 ?_
    refine own_st (T' := T29) (g' := (mkF m 124 #[.val (.int p0), .val (.int p1), .val (.int p2), .val (.int p3), .val (.int p4), .val (.int p5), .val (.long wl1), .second, .val (.long wl2), .second, .val (.long wl3), .second, .val (.long wv1), .second, .val (.long wv2), .second, .val (.long wv3), .second, .val (.long wc0), .second, .val (.long wc1), .second, .val (.long wc2), .second, .val (.long wc3), .second, .val (.long wx), .second, .val (.ref b1), .unset, .unset, .unset, .unset, .unset, .unset, .unset, .unset, .unset, .unset, .unset, .unset, .unset, .unset] [(.double (FP.l2d wc0)), (.int (0 : Int32)), (.ref b29), (.ref b29)])) (fun t k => ?_) ?_
    · show Steps p.tables e below (T29.setTop (mkF m 119 #[.val (.int p0), .val (.int p1), .val (.int p2), .val (.int p3), .val (.int p4), .val (.int p5), .val (.long wl1), .second, .val (.long wl2), .second, .val (.long wl3), .second, .val (.long wv1), .second, .val (.long wv2), .second, .val (.long wv3), .second, .val (.long wc0), .second, .val (.long wc1), .second, .val (.long wc2), .second, .val (.long wc3), .second, .val (.long wx), .second, .val (.ref b1), .unset, .unset, .unset, .unset, .unset, .unset, .unset, .unset, .unset, .unset, .unset, .unset, .unset, .unset] [(.ref b29)])) t
      refine XS.dup X29.here hx rfl (hb hby at_119) rfl rfl ?_
      refine XS.iconst X29.here hx rfl (hb hby at_120) ?_
      refine XS.lload X29.here hx rfl (hb hby at_121) rfl ?_
      refine XS.l2dS X29.here hx rfl (hb hby at_123) rfl rfl ?_
      exact k
    obtain ⟨c35, r35a, r35b, r35c, r35d, r35e, r35f⟩ := id v34
    have i35 : ¬ ((0 : Int32) < 0 ∨ c35.slots.size ≤ ((0 : Int32)).toNatClampNeg) := inb_of r35c ⟨by decide, by decide⟩
    obtain ⟨T35, h35, X35, e35, W35, st35⟩ := stD X29 hx hZ e29 r35a (j := (0 : Int32)) i35 (g := (mkF m 124 #[.val (.int p0), .val (.int p1), .val (.int p2), .val (.int p3), .val (.int p4), .val (.int p5), .val (.long wl1), .second, .val (.long wl2), .second, .val (.long wl3), .second, .val (.long wv1), .second, .val (.long wv2), .second, .val (.long wv3), .second, .val (.long wc0), .second, .val (.long wc1), .second, .val (.long wc2), .second, .val (.long wc3), .second, .val (.long wx), .second, .val (.ref b1), .unset, .unset, .unset, .unset, .unset, .unset, .unset, .unset, .unset, .unset, .unset, .unset, .unset, .unset] [(.double (FP.l2d wc0)), (.int (0 : Int32)), (.ref b29), (.ref b29)])) rfl rfl (hb hby at_124)
    have v36 := Arv.set r35a r35b r35c r35d r35e r35f rfl W35 0 rfl (Nat.le_of_ble_eq_true rfl)
    have f37 := f30.wr W35
    have f38 := f31.other W35 ne_b1_b29
    have f39 := B29.wr W35
    have z40 := Nat.le_trans z32 (Keep.of_wr W35).1
    have k41 := k33.wr W35 (Or.inr sz_b29)
    have n42 := Fr.snoc X35 n28 g_b29
    refine own_st (T' := T35) (g' := (mkF m 125 #[.val (.int p0), .val (.int p1), .val (.int p2), .val (.int p3), .val (.int p4), .val (.int p5), .val (.long wl1), .second, .val (.long wl2), .second, .val (.long wl3), .second, .val (.long wv1), .second, .val (.long wv2), .second, .val (.long wv3), .second, .val (.long wc0), .second, .val (.long wc1), .second, .val (.long wc2), .second, .val (.long wc3), .second, .val (.long wx), .second, .val (.ref b1), .unset, .unset, .unset, .unset, .unset, .unset, .unset, .unset, .unset, .unset, .unset, .unset, .unset, .unset] [(.ref b29)])) st35 ?_
    refine own_st (T' := T35) (g' := (mkF m 130 #[.val (.int p0), .val (.int p1), .val (.int p2), .val (.int p3), .val (.int p4), .val (.int p5), .val (.long wl1), .second, .val (.long wl2), .second, .val (.long wl3), .second, .val (.long wv1), .second, .val (.long wv2), .second, .val (.long wv3), .second, .val (.long wc0), .second, .val (.long wc1), .second, .val (.long wc2), .second, .val (.long wc3), .second, .val (.long wx), .second, .val (.ref b1), .unset, .unset, .unset, .unset, .unset, .unset, .unset, .unset, .unset, .unset, .unset, .unset, .unset, .unset] [(.double (FP.l2d wc1)), (.int (1 : Int32)), (.ref b29), (.ref b29)])) (fun t k => ?_) ?_
    · show Steps p.tables e below (T35.setTop (mkF m 125 #[.val (.int p0), .val (.int p1), .val (.int p2), .val (.int p3), .val (.int p4), .val (.int p5), .val (.long wl1), .second, .val (.long wl2), .second, .val (.long wl3), .second, .val (.long wv1), .second, .val (.long wv2), .second, .val (.long wv3), .second, .val (.long wc0), .second, .val (.long wc1), .second, .val (.long wc2), .second, .val (.long wc3), .second, .val (.long wx), .second, .val (.ref b1), .unset, .unset, .unset, .unset, .unset, .unset, .unset, .unset, .unset, .unset, .unset, .unset, .unset, .unset] [(.ref b29)])) t
      refine XS.dup X35.here hx rfl (hb hby at_125) rfl rfl ?_
      refine XS.iconst X35.here hx rfl (hb hby at_126) ?_
      refine XS.lload X35.here hx rfl (hb hby at_127) rfl ?_
      refine XS.l2dS X35.here hx rfl (hb hby at_129) rfl rfl ?_
      exact k
    obtain ⟨c43, r43a, r43b, r43c, r43d, r43e, r43f⟩ := id v36
    have i43 : ¬ ((1 : Int32) < 0 ∨ c43.slots.size ≤ ((1 : Int32)).toNatClampNeg) := inb_of r43c ⟨by decide, by decide⟩
    obtain ⟨T43, h43, X43, e43, W43, st43⟩ := stD X35 hx hZ e35 r43a (j := (1 : Int32)) i43 (g := (mkF m 130 #[.val (.int p0), .val (.int p1), .val (.int p2), .val (.int p3), .val (.int p4), .val (.int p5), .val (.long wl1), .second, .val (.long wl2), .second, .val (.long wl3), .second, .val (.long wv1), .second, .val (.long wv2), .second, .val (.long wv3), .second, .val (.long wc0), .second, .val (.long wc1), .second, .val (.long wc2), .second, .val (.long wc3), .second, .val (.long wx), .second, .val (.ref b1), .unset, .unset, .unset, .unset, .unset, .unset, .unset, .unset, .unset, .unset, .unset, .unset, .unset, .unset] [(.double (FP.l2d wc1)), (.int (1 : Int32)), (.ref b29), (.ref b29)])) rfl rfl (hb hby at_130)
    have v44 := Arv.set r43a r43b r43c r43d r43e r43f rfl W43 1 rfl (Nat.le_of_ble_eq_true rfl)
    have f45 := f37.wr W43
    have f46 := f38.other W43 ne_b1_b29
    have f47 := f39.wr W43
    have z48 := Nat.le_trans z40 (Keep.of_wr W43).1
    have k49 := k41.wr W43 (Or.inr sz_b29)
    have n50 := Fr.snoc X43 n42 g_b29
    refine own_st (T' := T43) (g' := (mkF m 131 #[.val (.int p0), .val (.int p1), .val (.int p2), .val (.int p3), .val (.int p4), .val (.int p5), .val (.long wl1), .second, .val (.long wl2), .second, .val (.long wl3), .second, .val (.long wv1), .second, .val (.long wv2), .second, .val (.long wv3), .second, .val (.long wc0), .second, .val (.long wc1), .second, .val (.long wc2), .second, .val (.long wc3), .second, .val (.long wx), .second, .val (.ref b1), .unset, .unset, .unset, .unset, .unset, .unset, .unset, .unset, .unset, .unset, .unset, .unset, .unset, .unset] [(.ref b29)])) st43 ?_
    refine own_st (T' := T43) (g' := (mkF m 136 #[.val (.int p0), .val (.int p1), .val (.int p2), .val (.int p3), .val (.int p4), .val (.int p5), .val (.long wl1), .second, .val (.long wl2), .second, .val (.long wl3), .second, .val (.long wv1), .second, .val (.long wv2), .second, .val (.long wv3), .second, .val (.long wc0), .second, .val (.long wc1), .second, .val (.long wc2), .second, .val (.long wc3), .second, .val (.long wx), .second, .val (.ref b1), .unset, .unset, .unset, .unset, .unset, .unset, .unset, .unset, .unset, .unset, .unset, .unset, .unset, .unset] [(.double (FP.l2d wc2)), (.int (2 : Int32)), (.ref b29), (.ref b29)])) (fun t k => ?_) ?_
    · show Steps p.tables e below (T43.setTop (mkF m 131 #[.val (.int p0), .val (.int p1), .val (.int p2), .val (.int p3), .val (.int p4), .val (.int p5), .val (.long wl1), .second, .val (.long wl2), .second, .val (.long wl3), .second, .val (.long wv1), .second, .val (.long wv2), .second, .val (.long wv3), .second, .val (.long wc0), .second, .val (.long wc1), .second, .val (.long wc2), .second, .val (.long wc3), .second, .val (.long wx), .second, .val (.ref b1), .unset, .unset, .unset, .unset, .unset, .unset, .unset, .unset, .unset, .unset, .unset, .unset, .unset, .unset] [(.ref b29)])) t
      refine XS.dup X43.here hx rfl (hb hby at_131) rfl rfl ?_
      refine XS.iconst X43.here hx rfl (hb hby at_132) ?_
      refine XS.lload X43.here hx rfl (hb hby at_133) rfl ?_
      refine XS.l2dS X43.here hx rfl (hb hby at_135) rfl rfl ?_
      exact k
    obtain ⟨c51, r51a, r51b, r51c, r51d, r51e, r51f⟩ := id v44
    have i51 : ¬ ((2 : Int32) < 0 ∨ c51.slots.size ≤ ((2 : Int32)).toNatClampNeg) := inb_of r51c ⟨by decide, by decide⟩
    obtain ⟨T51, h51, X51, e51, W51, st51⟩ := stD X43 hx hZ e43 r51a (j := (2 : Int32)) i51 (g := (mkF m 136 #[.val (.int p0), .val (.int p1), .val (.int p2), .val (.int p3), .val (.int p4), .val (.int p5), .val (.long wl1), .second, .val (.long wl2), .second, .val (.long wl3), .second, .val (.long wv1), .second, .val (.long wv2), .second, .val (.long wv3), .second, .val (.long wc0), .second, .val (.long wc1), .second, .val (.long wc2), .second, .val (.long wc3), .second, .val (.long wx), .second, .val (.ref b1), .unset, .unset, .unset, .unset, .unset, .unset, .unset, .unset, .unset, .unset, .unset, .unset, .unset, .unset] [(.double (FP.l2d wc2)), (.int (2 : Int32)), (.ref b29), (.ref b29)])) rfl rfl (hb hby at_136)
    have v52 := Arv.set r51a r51b r51c r51d r51e r51f rfl W51 2 rfl (Nat.le_of_ble_eq_true rfl)
    have f53 := f45.wr W51
    have f54 := f46.other W51 ne_b1_b29
    have f55 := f47.wr W51
    have z56 := Nat.le_trans z48 (Keep.of_wr W51).1
    have k57 := k49.wr W51 (Or.inr sz_b29)
    have n58 := Fr.snoc X51 n50 g_b29
    refine own_st (T' := T51) (g' := (mkF m 137 #[.val (.int p0), .val (.int p1), .val (.int p2), .val (.int p3), .val (.int p4), .val (.int p5), .val (.long wl1), .second, .val (.long wl2), .second, .val (.long wl3), .second, .val (.long wv1), .second, .val (.long wv2), .second, .val (.long wv3), .second, .val (.long wc0), .second, .val (.long wc1), .second, .val (.long wc2), .second, .val (.long wc3), .second, .val (.long wx), .second, .val (.ref b1), .unset, .unset, .unset, .unset, .unset, .unset, .unset, .unset, .unset, .unset, .unset, .unset, .unset, .unset] [(.ref b29)])) st51 ?_
    refine own_st (T' := T51) (g' := (mkF m 142 #[.val (.int p0), .val (.int p1), .val (.int p2), .val (.int p3), .val (.int p4), .val (.int p5), .val (.long wl1), .second, .val (.long wl2), .second, .val (.long wl3), .second, .val (.long wv1), .second, .val (.long wv2), .second, .val (.long wv3), .second, .val (.long wc0), .second, .val (.long wc1), .second, .val (.long wc2), .second, .val (.long wc3), .second, .val (.long wx), .second, .val (.ref b1), .unset, .unset, .unset, .unset, .unset, .unset, .unset, .unset, .unset, .unset, .unset, .unset, .unset, .unset] [(.double (FP.l2d wc3)), (.int (3 : Int32)), (.ref b29), (.ref b29)])) (fun t k => ?_) ?_
    · show Steps p.tables e below (T51.setTop (mkF m 137 #[.val (.int p0), .val (.int p1), .val (.int p2), .val (.int p3), .val (.int p4), .val (.int p5), .val (.long wl1), .second, .val (.long wl2), .second, .val (.long wl3), .second, .val (.long wv1), .second, .val (.long wv2), .second, .val (.long wv3), .second, .val (.long wc0), .second, .val (.long wc1), .second, .val (.long wc2), .second, .val (.long wc3), .second, .val (.long wx), .second, .val (.ref b1), .unset, .unset, .unset, .unset, .unset, .unset, .unset, .unset, .unset, .unset, .unset, .unset, .unset, .unset] [(.ref b29)])) t
      refine XS.dup X51.here hx rfl (hb hby at_137) rfl rfl ?_
      refine XS.iconst X51.here hx rfl (hb hby at_138) ?_
      refine XS.lload X51.here hx rfl (hb hby at_139) rfl ?_
      refine XS.l2dS X51.here hx rfl (hb hby at_141) rfl rfl ?_
      exact k
    obtain ⟨c59, r59a, r59b, r59c, r59d, r59e, r59f⟩ := id v52
    have i59 : ¬ ((3 : Int32) < 0 ∨ c59.slots.size ≤ ((3 : Int32)).toNatClampNeg) := inb_of r59c ⟨by decide, by decide⟩
    obtain ⟨T59, h59, X59, e59, W59, st59⟩ := stD X51 hx hZ e51 r59a (j := (3 : Int32)) i59 (g := (mkF m 142 #[.val (.int p0), .val (.int p1), .val (.int p2), .val (.int p3), .val (.int p4), .val (.int p5), .val (.long wl1), .second, .val (.long wl2), .second, .val (.long wl3), .second, .val (.long wv1), .second, .val (.long wv2), .second, .val (.long wv3), .second, .val (.long wc0), .second, .val (.long wc1), .second, .val (.long wc2), .second, .val (.long wc3), .second, .val (.long wx), .second, .val (.ref b1), .unset, .unset, .unset, .unset, .unset, .unset, .unset, .unset, .unset, .unset, .unset, .unset, .unset, .unset] [(.double (FP.l2d wc3)), (.int (3 : Int32)), (.ref b29), (.ref b29)])) rfl rfl (hb hby at_142)
    have v60 := Arv.set r59a r59b r59c r59d r59e r59f rfl W59 3 rfl (Nat.le_of_ble_eq_true rfl)
    have f61 := f53.wr W59
    have f62 := f54.other W59 ne_b1_b29
    have f63 := f55.wr W59
    have z64 := Nat.le_trans z56 (Keep.of_wr W59).1
    have k65 := k57.wr W59 (Or.inr sz_b29)
    have n66 := Fr.snoc X59 n58 g_b29
    refine own_st (T' := T59) (g' := (mkF m 143 #[.val (.int p0), .val (.int p1), .val (.int p2), .val (.int p3), .val (.int p4), .val (.int p5), .val (.long wl1), .second, .val (.long wl2), .second, .val (.long wl3), .second, .val (.long wv1), .second, .val (.long wv2), .second, .val (.long wv3), .second, .val (.long wc0), .second, .val (.long wc1), .second, .val (.long wc2), .second, .val (.long wc3), .second, .val (.long wx), .second, .val (.ref b1), .unset, .unset, .unset, .unset, .unset, .unset, .unset, .unset, .unset, .unset, .unset, .unset, .unset, .unset] [(.ref b29)])) st59 ?_
    refine own_st (T' := T59) (g' := (mkF m 145 #[.val (.int p0), .val (.int p1), .val (.int p2), .val (.int p3), .val (.int p4), .val (.int p5), .val (.long wl1), .second, .val (.long wl2), .second, .val (.long wl3), .second, .val (.long wv1), .second, .val (.long wv2), .second, .val (.long wv3), .second, .val (.long wc0), .second, .val (.long wc1), .second, .val (.long wc2), .second, .val (.long wc3), .second, .val (.long wx), .second, .val (.ref b1), .val (.ref b29), .unset, .unset, .unset, .unset, .unset, .unset, .unset, .unset, .unset, .unset, .unset, .unset, .unset] [])) (fun t k => ?_) ?_
    · show Steps p.tables e below (T59.setTop (mkF m 143 #[.val (.int p0), .val (.int p1), .val (.int p2), .val (.int p3), .val (.int p4), .val (.int p5), .val (.long wl1), .second, .val (.long wl2), .second, .val (.long wl3), .second, .val (.long wv1), .second, .val (.long wv2), .second, .val (.long wv3), .second, .val (.long wc0), .second, .val (.long wc1), .second, .val (.long wc2), .second, .val (.long wc3), .second, .val (.long wx), .second, .val (.ref b1), .unset, .unset, .unset, .unset, .unset, .unset, .unset, .unset, .unset, .unset, .unset, .unset, .unset, .unset] [(.ref b29)])) t
      refine XS.astore X59.here hx rfl (hb hby at_143) rfl rfl (l' := #[.val (.int p0), .val (.int p1), .val (.int p2), .val (.int p3), .val (.int p4), .val (.int p5), .val (.long wl1), .second, .val (.long wl2), .second, .val (.long wl3), .second, .val (.long wv1), .second, .val (.long wv2), .second, .val (.long wv3), .second, .val (.long wc0), .second, .val (.long wc1), .second, .val (.long wc2), .second, .val (.long wc3), .second, .val (.long wx), .second, .val (.ref b1), .val (.ref b29), .unset, .unset, .unset, .unset, .unset, .unset, .unset, .unset, .unset, .unset, .unset, .unset, .unset]) rfl ?_
      exact k
    obtain ⟨T67, h67, X67, e67, E67, A67, D67, -, st67⟩ := newO X59 hx hZ hown (hw _ (List.mem_of_getElem? (i := 2) rfl)) (hw _ (List.mem_of_getElem? (i := 3) rfl)) (hw _ (List.mem_of_getElem? (i := 4) rfl)) e59 (g := (mkF m 145 #[.val (.int p0), .val (.int p1), .val (.int p2), .val (.int p3), .val (.int p4), .val (.int p5), .val (.long wl1), .second, .val (.long wl2), .second, .val (.long wl3), .second, .val (.long wv1), .second, .val (.long wv2), .second, .val (.long wv3), .second, .val (.long wc0), .second, .val (.long wc1), .second, .val (.long wc2), .second, .val (.long wc3), .second, .val (.long wx), .second, .val (.ref b1), .val (.ref b29), .unset, .unset, .unset, .unset, .unset, .unset, .unset, .unset, .unset, .unset, .unset, .unset, .unset] [])) rfl (hb hby at_145) (by decide) (by decide)
    obtain ⟨b67, g67⟩ : ∃ z, z = h59.size := ⟨_, rfl⟩
    rw [← g67] at A67 D67 st67
    have ne_b1_b67 : b1 ≠ b67 := Nat.ne_of_lt (Nat.lt_of_lt_of_le f61.lt (Nat.le_of_eq g67.symm))
    have ne_b29_b67 : b29 ≠ b67 := Nat.ne_of_lt (Nat.lt_of_lt_of_le f63.lt (Nat.le_of_eq g67.symm))
    have g_b67 : n0 ≤ b67 := Nat.le_trans z64 (Nat.le_of_eq g67.symm)
    have sz_b67 : h0.size ≤ b67 := Nat.le_trans k65.1 (Nat.le_of_eq g67.symm)
    have f68 := f61.ext E67
    have f69 := f62.ext E67
    have f70 := f63.ext E67
    have f71 := v60.ext E67
    have z72 := Nat.le_trans z64 E67.1
    have k73 := k65.ext E67
    have f74 : Fld Z h67 b67 "com/example/corewright/corewright/equilibrium/Strategy" "values" "[D" .null := D67 (Or.inr (hw _ (List.mem_of_getElem? (i := 30) rfl))) (ty := (.array .double)) (by decide)
    have f75 : Fld Z h67 b67 "com/example/corewright/corewright/equilibrium/Strategy" "bids" "[D" .null := D67 (Or.inr (hw _ (List.mem_of_getElem? (i := 32) rfl))) (ty := (.array .double)) (by decide)
    refine own_st (T' := T67) (g' := (mkF m 148 #[.val (.int p0), .val (.int p1), .val (.int p2), .val (.int p3), .val (.int p4), .val (.int p5), .val (.long wl1), .second, .val (.long wl2), .second, .val (.long wl3), .second, .val (.long wv1), .second, .val (.long wv2), .second, .val (.long wv3), .second, .val (.long wc0), .second, .val (.long wc1), .second, .val (.long wc2), .second, .val (.long wc3), .second, .val (.long wx), .second, .val (.ref b1), .val (.ref b29), .unset, .unset, .unset, .unset, .unset, .unset, .unset, .unset, .unset, .unset, .unset, .unset, .unset] [(.ref b67)])) st67 ?_
    refine own_st (T' := T67) (g' := (mkF m 153 #[.val (.int p0), .val (.int p1), .val (.int p2), .val (.int p3), .val (.int p4), .val (.int p5), .val (.long wl1), .second, .val (.long wl2), .second, .val (.long wl3), .second, .val (.long wv1), .second, .val (.long wv2), .second, .val (.long wv3), .second, .val (.long wc0), .second, .val (.long wc1), .second, .val (.long wc2), .second, .val (.long wc3), .second, .val (.long wx), .second, .val (.ref b1), .val (.ref b29), .unset, .unset, .unset, .unset, .unset, .unset, .unset, .unset, .unset, .unset, .unset, .unset, .unset] [(.ref b29), (.ref b1), (.ref b67), (.ref b67)])) (fun t k => ?_) ?_
    · show Steps p.tables e below (T67.setTop (mkF m 148 #[.val (.int p0), .val (.int p1), .val (.int p2), .val (.int p3), .val (.int p4), .val (.int p5), .val (.long wl1), .second, .val (.long wl2), .second, .val (.long wl3), .second, .val (.long wv1), .second, .val (.long wv2), .second, .val (.long wv3), .second, .val (.long wc0), .second, .val (.long wc1), .second, .val (.long wc2), .second, .val (.long wc3), .second, .val (.long wx), .second, .val (.ref b1), .val (.ref b29), .unset, .unset, .unset, .unset, .unset, .unset, .unset, .unset, .unset, .unset, .unset, .unset, .unset] [(.ref b67)])) t
      refine XS.dup X67.here hx rfl (hb hby at_148) rfl rfl ?_
      refine XS.aload X67.here hx rfl (hb hby at_149) rfl rfl ?_
      refine XS.aload X67.here hx rfl (hb hby at_151) rfl rfl ?_
      exact k
    obtain ⟨_, _, ⟨T76, L76, k76, n76⟩, -, X76, ⟨Lc76, hQ76, l76, y76, z76⟩, st76⟩ := X67.specialBack hx (y := (⟨"com/example/corewright/corewright/equilibrium/Strategy", "<init>", "([D[D)V"⟩ : MethodName)) rfl hown (mvT hZ (hw _ (List.mem_of_getElem? (i := 5) rfl))) (mvT hZ (hw _ (List.mem_of_getElem? (i := 6) rfl))) (mvT hZ (hw _ (List.mem_of_getElem? (i := 7) rfl))) (by decide) (backOf (W := 1) (rm1 l Z ar hw [] b67 b1 b29 (.null) (.null) k1 ((0 : UInt64)) ((FP.l2d wv1)) ((FP.l2d wv2)) ((FP.l2d wv3)) k29 ((FP.l2d wc0)) ((FP.l2d wc1)) ((FP.l2d wc2)) ((FP.l2d wc3)) h67 n0 z72 A67 f74 f75 f68 f69 f70 f71 (dcmpV_self ((Jvm.Free.Fl.Mag64.fin (show Jvm.Free.Fl.Mag64 1 (0 : UInt64) by unfold Jvm.Free.Fl.Mag64; decide) (by decide)).noNaN) .l) ((Jvm.Free.Fl.Mag64.fin (Jvm.Free.Fl.l2d_mag wv3) (by decide)).noNaN) (own_max (Jvm.Free.Fl.Mag64.fin (Jvm.Free.Fl.l2d_mag _) (by decide)) .l) (own_Dy.gt hT.d1 own_dy0 (by have := hT.inc; omega) .l) (own_Dy.gt hT.d2 hT.d1 (by have := hT.inc; omega) .l) (own_Dy.gt hT.d3 hT.d2 (by have := hT.inc; omega) .l) hT.nb0 ((Jvm.Free.Fl.Mag64.fin (Jvm.Free.Fl.l2d_mag wc0) (by decide)).noNaN) (own_max (Jvm.Free.Fl.Mag64.fin (Jvm.Free.Fl.l2d_mag _) (by decide)) .l) hT.nb1 ((Jvm.Free.Fl.Mag64.fin (Jvm.Free.Fl.l2d_mag wc1) (by decide)).noNaN) (own_max (Jvm.Free.Fl.Mag64.fin (Jvm.Free.Fl.l2d_mag _) (by decide)) .l) hT.nb2 ((Jvm.Free.Fl.Mag64.fin (Jvm.Free.Fl.l2d_mag wc2) (by decide)).noNaN) (own_max (Jvm.Free.Fl.Mag64.fin (Jvm.Free.Fl.l2d_mag _) (by decide)) .l) hT.nb3 ((Jvm.Free.Fl.Mag64.fin (Jvm.Free.Fl.l2d_mag wc3) (by decide)).noNaN) (own_max (Jvm.Free.Fl.Mag64.fin (Jvm.Free.Fl.l2d_mag _) (by decide)) .l) ne_b1_b67 ne_b29_b67 g_b67) hZ (hw _ (List.mem_of_getElem? (i := 7) rfl)) (hw _ (List.mem_of_getElem? (i := 4) rfl)) (by decide) (by decide)) (g := (mkF m 153 #[.val (.int p0), .val (.int p1), .val (.int p2), .val (.int p3), .val (.int p4), .val (.int p5), .val (.long wl1), .second, .val (.long wl2), .second, .val (.long wl3), .second, .val (.long wv1), .second, .val (.long wv2), .second, .val (.long wv3), .second, .val (.long wc0), .second, .val (.long wc1), .second, .val (.long wc2), .second, .val (.long wc3), .second, .val (.long wx), .second, .val (.ref b1), .val (.ref b29), .unset, .unset, .unset, .unset, .unset, .unset, .unset, .unset, .unset, .unset, .unset, .unset, .unset] [(.ref b29), (.ref b1), (.ref b67), (.ref b67)])) rfl (by rw [hml]; rfl) (Steps.refl _) (a := b67) (argsL := [(.ref b1), (.ref b29)]) (rest := [(.ref b67)]) (lenOf pd0_0 rfl) rfl (by show 2 * 0 + _ ≤ _; exact Nat.le_of_eq rfl) (hb hby at_153) (fun _ _ => ⟨rfl, e67, (by decide : 3 + 2 ≤ _), (by decide : 10 + 8 ≤ _)⟩)
    dsimp only [Pt.U, Pt.locs, Pt.cells, Pt.slots] at X76 l76 y76 z76 st76 hQ76
    subst l76 y76 z76
    obtain ⟨x0_76, x1_76, rfl, N76q, K76, sz76_x0, sz76_x1, ne76_x0_x1, f77, f78, f79, f80, f81, f82, f83⟩ := hQ76
    have n84 := Fr.app n66 N76q
    have ne_b1_x0_76 : b1 ≠ x0_76 := Nat.ne_of_lt (Nat.lt_of_lt_of_le f68.lt sz76_x0)
    have ne_b29_x0_76 : b29 ≠ x0_76 := Nat.ne_of_lt (Nat.lt_of_lt_of_le f70.lt sz76_x0)
    have ne_b67_x0_76 : b67 ≠ x0_76 := Nat.ne_of_lt (Nat.lt_of_lt_of_le A67.lt sz76_x0)
    have g_x0_76 : n0 ≤ x0_76 := Nat.le_trans z72 sz76_x0
    have sz_x0_76 : h0.size ≤ x0_76 := Nat.le_trans k73.1 sz76_x0
    have ne_b1_x1_76 : b1 ≠ x1_76 := Nat.ne_of_lt (Nat.lt_of_lt_of_le f68.lt sz76_x1)
    have ne_b29_x1_76 : b29 ≠ x1_76 := Nat.ne_of_lt (Nat.lt_of_lt_of_le f70.lt sz76_x1)
    have ne_b67_x1_76 : b67 ≠ x1_76 := Nat.ne_of_lt (Nat.lt_of_lt_of_le A67.lt sz76_x1)
    have g_x1_76 : n0 ≤ x1_76 := Nat.le_trans z72 sz76_x1
    have sz_x1_76 : h0.size ≤ x1_76 := Nat.le_trans k73.1 sz76_x1
    have f85 := f68.keep K76
    have f86 := f69.keep K76 (ninS ne_b1_b67 nin0)
    have f87 := f70.keep K76
    have f88 := f71.keep K76 (ninS ne_b29_b67 nin0)
    have f89 := A67.keep K76
    have z90 := Nat.le_trans z72 K76.1
    have k91 := k73.trans K76 (allS (Or.inr sz_b67) all0)
    refine own_tr (T' := T76) (g' := (mkF m 156 #[.val (.int p0), .val (.int p1), .val (.int p2), .val (.int p3), .val (.int p4), .val (.int p5), .val (.long wl1), .second, .val (.long wl2), .second, .val (.long wl3), .second, .val (.long wv1), .second, .val (.long wv2), .second, .val (.long wv3), .second, .val (.long wc0), .second, .val (.long wc1), .second, .val (.long wc2), .second, .val (.long wc3), .second, .val (.long wx), .second, .val (.ref b1), .val (.ref b29), .unset, .unset, .unset, .unset, .unset, .unset, .unset, .unset, .unset, .unset, .unset, .unset, .unset] [(.ref b67)])) st76 ?_
    refine own_st (T' := T76) (g' := (mkF m 163 #[.val (.int p0), .val (.int p1), .val (.int p2), .val (.int p3), .val (.int p4), .val (.int p5), .val (.long wl1), .second, .val (.long wl2), .second, .val (.long wl3), .second, .val (.long wv1), .second, .val (.long wv2), .second, .val (.long wv3), .second, .val (.long wc0), .second, .val (.long wc1), .second, .val (.long wc2), .second, .val (.long wc3), .second, .val (.long wx), .second, .val (.ref b1), .val (.ref b29), .val (.ref b67), .unset, .unset, .unset, .unset, .unset, .unset, .unset, .unset, .unset, .unset, .unset, .unset] [(.double (FP.l2d wx)), (.ref b67)])) (fun t k => ?_) ?_
    · show Steps p.tables e below (T76.setTop (mkF m 156 #[.val (.int p0), .val (.int p1), .val (.int p2), .val (.int p3), .val (.int p4), .val (.int p5), .val (.long wl1), .second, .val (.long wl2), .second, .val (.long wl3), .second, .val (.long wv1), .second, .val (.long wv2), .second, .val (.long wv3), .second, .val (.long wc0), .second, .val (.long wc1), .second, .val (.long wc2), .second, .val (.long wc3), .second, .val (.long wx), .second, .val (.ref b1), .val (.ref b29), .unset, .unset, .unset, .unset, .unset, .unset, .unset, .unset, .unset, .unset, .unset, .unset, .unset] [(.ref b67)])) t
      refine XS.astore X76.here hx rfl (hb hby at_156) rfl rfl (l' := #[.val (.int p0), .val (.int p1), .val (.int p2), .val (.int p3), .val (.int p4), .val (.int p5), .val (.long wl1), .second, .val (.long wl2), .second, .val (.long wl3), .second, .val (.long wv1), .second, .val (.long wv2), .second, .val (.long wv3), .second, .val (.long wc0), .second, .val (.long wc1), .second, .val (.long wc2), .second, .val (.long wc3), .second, .val (.long wx), .second, .val (.ref b1), .val (.ref b29), .val (.ref b67), .unset, .unset, .unset, .unset, .unset, .unset, .unset, .unset, .unset, .unset, .unset, .unset]) rfl ?_
      refine XS.aload X76.here hx rfl (hb hby at_158) rfl rfl ?_
      refine XS.lload X76.here hx rfl (hb hby at_160) rfl ?_
      refine XS.l2dS X76.here hx rfl (hb hby at_162) rfl rfl ?_
      exact k
    by_cases hc163_92 : wx < wv1
    · by_cases hc163_93 : wx = (0 : Int64)
      · have hr := own_r_ge hT hc163_92 hc163_93
        obtain ⟨cq94, kq94, qa94, qb94, qc94⟩ := isOf hZ (rfl : T76.heap = T76.heap) f77
        obtain ⟨_, _, ⟨T94, L94, k94, n94⟩, -, X94, ⟨Lc94, hQ94, l94, y94, z94⟩, st94⟩ := X76.virtualBack hx (y := (⟨"com/example/corewright/corewright/equilibrium/Strategy", "bid", "(D)D"⟩ : MethodName)) (z := (⟨"com/example/corewright/corewright/equilibrium/Strategy", "bid", "(D)D"⟩ : MethodName)) hown (mvT hZ (hw _ (List.mem_of_getElem? (i := 33) rfl))) (mvT hZ (hw _ (List.mem_of_getElem? (i := 34) rfl))) (notFace_of_selects (args := #[]) (mvT hZ (hw _ (List.mem_of_getElem? (i := 36) rfl)))) (mvT hZ (hw _ (List.mem_of_getElem? (i := 36) rfl))) (mvT hZ (hw _ (List.mem_of_getElem? (i := 35) rfl))) (by decide) (backOf (W := 0) (rmbge l Z ar hw [] b67 ((FP.l2d wx)) x0_76 k1 ((0 : UInt64)) ((FP.l2d wv1)) ((FP.l2d wv2)) ((FP.l2d wv3)) x1_76 k29 ((FP.l2d wc0)) ((FP.l2d wc1)) ((FP.l2d wc2)) ((FP.l2d wc3)) T76.heap n0 z90 f77 f78 f80 f79 f82 (own_nltG hT.d1 hT.dx (by omega)) (own_gtL hT.d1 hT.dx (by omega)) (own_nltG own_dy0 hT.dx (by omega)) (own_ngtL own_dy0 hT.dx (by omega)) (dcmpV_self ((Jvm.Free.Fl.Mag64.fin (show Jvm.Free.Fl.Mag64 1 (0 : UInt64) by unfold Jvm.Free.Fl.Mag64; decide) (by decide)).noNaN) .l) (dcmpV_self ((Jvm.Free.Fl.Mag64.fin (Jvm.Free.Fl.l2d_mag wx) (by decide)).noNaN) .l) (own_z64 hc163_93) ((Jvm.Free.Fl.Mag64.fin (show Jvm.Free.Fl.Mag64 1090 (FP.dsub (FP.l2d wx) (0 : UInt64)) by have q := (Jvm.Free.Fl.dsub_mag (Jvm.Free.Fl.l2d_mag wx) (Jvm.Free.Fl.Mag64.mono (show Jvm.Free.Fl.Mag64 1 (0 : UInt64) by unfold Jvm.Free.Fl.Mag64; decide) (show 1 ≤ 1088 by decide)) (by decide)); exact q) (by decide)).noNaN) ((Jvm.Free.Fl.Mag64.fin (show Jvm.Free.Fl.Mag64 1090 (FP.dsub (FP.l2d wv1) (0 : UInt64)) by have q := (Jvm.Free.Fl.dsub_mag (Jvm.Free.Fl.l2d_mag wv1) (Jvm.Free.Fl.Mag64.mono (show Jvm.Free.Fl.Mag64 1 (0 : UInt64) by unfold Jvm.Free.Fl.Mag64; decide) (show 1 ≤ 1088 by decide)) (by decide)); exact q) (by decide)).noNaN) (hT.s1 (by omega)).1 ((Jvm.Free.Fl.Mag64.fin (show Jvm.Free.Fl.Mag64 1090 (FP.dsub (FP.l2d wc1) (FP.l2d wc0)) by have q := (Jvm.Free.Fl.dsub_mag (Jvm.Free.Fl.l2d_mag wc1) (Jvm.Free.Fl.l2d_mag wc0) (by decide)); exact q) (by decide)).noNaN) (hT.s1 (by omega)).2.1 (hT.s1 (by omega)).2.2.1) hZ (hw _ (List.mem_of_getElem? (i := 37) rfl)) (hw _ (List.mem_of_getElem? (i := 4) rfl)) (by decide) (by decide)) qa94 qc94 (g := (mkF m 163 #[.val (.int p0), .val (.int p1), .val (.int p2), .val (.int p3), .val (.int p4), .val (.int p5), .val (.long wl1), .second, .val (.long wl2), .second, .val (.long wl3), .second, .val (.long wv1), .second, .val (.long wv2), .second, .val (.long wv3), .second, .val (.long wc0), .second, .val (.long wc1), .second, .val (.long wc2), .second, .val (.long wc3), .second, .val (.long wx), .second, .val (.ref b1), .val (.ref b29), .val (.ref b67), .unset, .unset, .unset, .unset, .unset, .unset, .unset, .unset, .unset, .unset, .unset, .unset] [(.double (FP.l2d wx)), (.ref b67)])) rfl (by rw [hml]; rfl) (Steps.refl _) (argsL := [(.double (FP.l2d wx))]) (rest := []) (lenOf pd0_1 rfl) rfl (by show 2 * 0 + _ ≤ _; exact Nat.le_of_eq rfl) (hb hby at_163) (fun _ _ => ⟨rfl, (rfl : T76.heap = T76.heap), (by decide : 5 + 0 ≤ _), (by decide : 18 + 0 ≤ _)⟩)
        dsimp only [Pt.U, Pt.locs, Pt.cells, Pt.slots] at X94 l94 y94 z94 st94 hQ94
        subst l94 y94 z94
        obtain ⟨rfl, N94q, e94⟩ := hQ94
        have n95 := Fr.app n84 N94q
        refine own_tr (T' := T94) (g' := (mkF m 166 #[.val (.int p0), .val (.int p1), .val (.int p2), .val (.int p3), .val (.int p4), .val (.int p5), .val (.long wl1), .second, .val (.long wl2), .second, .val (.long wl3), .second, .val (.long wv1), .second, .val (.long wv2), .second, .val (.long wv3), .second, .val (.long wc0), .second, .val (.long wc1), .second, .val (.long wc2), .second, .val (.long wc3), .second, .val (.long wx), .second, .val (.ref b1), .val (.ref b29), .val (.ref b67), .unset, .unset, .unset, .unset, .unset, .unset, .unset, .unset, .unset, .unset, .unset, .unset] [(.double (FP.dadd (FP.l2d wc0) (FP.dmul (FP.ddiv (FP.dsub (FP.l2d wx) (0 : UInt64)) (FP.dsub (FP.l2d wv1) (0 : UInt64))) (FP.dsub (FP.l2d wc1) (FP.l2d wc0)))))])) st94 ?_
        refine own_st (T' := T94) (g' := (mkF m 274 #[.val (.int p0), .val (.int p1), .val (.int p2), .val (.int p3), .val (.int p4), .val (.int p5), .val (.long wl1), .second, .val (.long wl2), .second, .val (.long wl3), .second, .val (.long wv1), .second, .val (.long wv2), .second, .val (.long wv3), .second, .val (.long wc0), .second, .val (.long wc1), .second, .val (.long wc2), .second, .val (.long wc3), .second, .val (.long wx), .second, .val (.ref b1), .val (.ref b29), .val (.ref b67), .val (.double (FP.dadd (FP.l2d wc0) (FP.dmul (FP.ddiv (FP.dsub (FP.l2d wx) (0 : UInt64)) (FP.dsub (FP.l2d wv1) (0 : UInt64))) (FP.dsub (FP.l2d wc1) (FP.l2d wc0))))), .second, .val (.long (0 : Int64)), .second, .val (.long wl1), .second, .val (.long wc0), .second, .val (.long wc1), .second, .val (.long ((wc0 * wl1) + ((wx - (0 : Int64)) * (wc1 - wc0)))), .second] [(.int (1 : Int32))])) (fun t k => ?_) ?_
        · show Steps p.tables e below (T94.setTop (mkF m 166 #[.val (.int p0), .val (.int p1), .val (.int p2), .val (.int p3), .val (.int p4), .val (.int p5), .val (.long wl1), .second, .val (.long wl2), .second, .val (.long wl3), .second, .val (.long wv1), .second, .val (.long wv2), .second, .val (.long wv3), .second, .val (.long wc0), .second, .val (.long wc1), .second, .val (.long wc2), .second, .val (.long wc3), .second, .val (.long wx), .second, .val (.ref b1), .val (.ref b29), .val (.ref b67), .unset, .unset, .unset, .unset, .unset, .unset, .unset, .unset, .unset, .unset, .unset, .unset] [(.double (FP.dadd (FP.l2d wc0) (FP.dmul (FP.ddiv (FP.dsub (FP.l2d wx) (0 : UInt64)) (FP.dsub (FP.l2d wv1) (0 : UInt64))) (FP.dsub (FP.l2d wc1) (FP.l2d wc0)))))])) t
          refine XS.dstore X94.here hx rfl (hb hby at_166) rfl (l' := #[.val (.int p0), .val (.int p1), .val (.int p2), .val (.int p3), .val (.int p4), .val (.int p5), .val (.long wl1), .second, .val (.long wl2), .second, .val (.long wl3), .second, .val (.long wv1), .second, .val (.long wv2), .second, .val (.long wv3), .second, .val (.long wc0), .second, .val (.long wc1), .second, .val (.long wc2), .second, .val (.long wc3), .second, .val (.long wx), .second, .val (.ref b1), .val (.ref b29), .val (.ref b67), .val (.double (FP.dadd (FP.l2d wc0) (FP.dmul (FP.ddiv (FP.dsub (FP.l2d wx) (0 : UInt64)) (FP.dsub (FP.l2d wv1) (0 : UInt64))) (FP.dsub (FP.l2d wc1) (FP.l2d wc0))))), .second, .unset, .unset, .unset, .unset, .unset, .unset, .unset, .unset, .unset, .unset]) rfl ?_
          refine XS.lload X94.here hx rfl (hb hby at_168) rfl ?_
          refine XS.lload X94.here hx rfl (hb hby at_170) rfl ?_
          refine XS.lcmp X94.here hx rfl (hb hby at_172) rfl ?_
          refine XS.ifNo X94.here hx rfl (hb hby at_173) rfl ((if0 _ _).trans (tlt ((lw_lt wx wv1).mpr (hc163_92 : wx < wv1))).2.1) ?_
          refine XS.lconst X94.here hx rfl (hb hby at_176) ?_
          refine XS.lstore X94.here hx rfl (hb hby at_177) rfl (l' := #[.val (.int p0), .val (.int p1), .val (.int p2), .val (.int p3), .val (.int p4), .val (.int p5), .val (.long wl1), .second, .val (.long wl2), .second, .val (.long wl3), .second, .val (.long wv1), .second, .val (.long wv2), .second, .val (.long wv3), .second, .val (.long wc0), .second, .val (.long wc1), .second, .val (.long wc2), .second, .val (.long wc3), .second, .val (.long wx), .second, .val (.ref b1), .val (.ref b29), .val (.ref b67), .val (.double (FP.dadd (FP.l2d wc0) (FP.dmul (FP.ddiv (FP.dsub (FP.l2d wx) (0 : UInt64)) (FP.dsub (FP.l2d wv1) (0 : UInt64))) (FP.dsub (FP.l2d wc1) (FP.l2d wc0))))), .second, .val (.long (0 : Int64)), .second, .unset, .unset, .unset, .unset, .unset, .unset, .unset, .unset]) rfl ?_
          refine XS.lload X94.here hx rfl (hb hby at_179) rfl ?_
          show Steps p.tables e below (T94.setTop (mkF m 181 #[.val (.int p0), .val (.int p1), .val (.int p2), .val (.int p3), .val (.int p4), .val (.int p5), .val (.long wl1), .second, .val (.long wl2), .second, .val (.long wl3), .second, .val (.long wv1), .second, .val (.long wv2), .second, .val (.long wv3), .second, .val (.long wc0), .second, .val (.long wc1), .second, .val (.long wc2), .second, .val (.long wc3), .second, .val (.long wx), .second, .val (.ref b1), .val (.ref b29), .val (.ref b67), .val (.double (FP.dadd (FP.l2d wc0) (FP.dmul (FP.ddiv (FP.dsub (FP.l2d wx) (0 : UInt64)) (FP.dsub (FP.l2d wv1) (0 : UInt64))) (FP.dsub (FP.l2d wc1) (FP.l2d wc0))))), .second, .val (.long (0 : Int64)), .second, .unset, .unset, .unset, .unset, .unset, .unset, .unset, .unset] [(.long wl1)])) t
          refine XS.lstore X94.here hx rfl (hb hby at_181) rfl (l' := #[.val (.int p0), .val (.int p1), .val (.int p2), .val (.int p3), .val (.int p4), .val (.int p5), .val (.long wl1), .second, .val (.long wl2), .second, .val (.long wl3), .second, .val (.long wv1), .second, .val (.long wv2), .second, .val (.long wv3), .second, .val (.long wc0), .second, .val (.long wc1), .second, .val (.long wc2), .second, .val (.long wc3), .second, .val (.long wx), .second, .val (.ref b1), .val (.ref b29), .val (.ref b67), .val (.double (FP.dadd (FP.l2d wc0) (FP.dmul (FP.ddiv (FP.dsub (FP.l2d wx) (0 : UInt64)) (FP.dsub (FP.l2d wv1) (0 : UInt64))) (FP.dsub (FP.l2d wc1) (FP.l2d wc0))))), .second, .val (.long (0 : Int64)), .second, .val (.long wl1), .second, .unset, .unset, .unset, .unset, .unset, .unset]) rfl ?_
          refine XS.lload X94.here hx rfl (hb hby at_183) rfl ?_
          refine XS.lstore X94.here hx rfl (hb hby at_185) rfl (l' := #[.val (.int p0), .val (.int p1), .val (.int p2), .val (.int p3), .val (.int p4), .val (.int p5), .val (.long wl1), .second, .val (.long wl2), .second, .val (.long wl3), .second, .val (.long wv1), .second, .val (.long wv2), .second, .val (.long wv3), .second, .val (.long wc0), .second, .val (.long wc1), .second, .val (.long wc2), .second, .val (.long wc3), .second, .val (.long wx), .second, .val (.ref b1), .val (.ref b29), .val (.ref b67), .val (.double (FP.dadd (FP.l2d wc0) (FP.dmul (FP.ddiv (FP.dsub (FP.l2d wx) (0 : UInt64)) (FP.dsub (FP.l2d wv1) (0 : UInt64))) (FP.dsub (FP.l2d wc1) (FP.l2d wc0))))), .second, .val (.long (0 : Int64)), .second, .val (.long wl1), .second, .val (.long wc0), .second, .unset, .unset, .unset, .unset]) rfl ?_
          refine XS.lload X94.here hx rfl (hb hby at_187) rfl ?_
          refine XS.lstore X94.here hx rfl (hb hby at_189) rfl (l' := #[.val (.int p0), .val (.int p1), .val (.int p2), .val (.int p3), .val (.int p4), .val (.int p5), .val (.long wl1), .second, .val (.long wl2), .second, .val (.long wl3), .second, .val (.long wv1), .second, .val (.long wv2), .second, .val (.long wv3), .second, .val (.long wc0), .second, .val (.long wc1), .second, .val (.long wc2), .second, .val (.long wc3), .second, .val (.long wx), .second, .val (.ref b1), .val (.ref b29), .val (.ref b67), .val (.double (FP.dadd (FP.l2d wc0) (FP.dmul (FP.ddiv (FP.dsub (FP.l2d wx) (0 : UInt64)) (FP.dsub (FP.l2d wv1) (0 : UInt64))) (FP.dsub (FP.l2d wc1) (FP.l2d wc0))))), .second, .val (.long (0 : Int64)), .second, .val (.long wl1), .second, .val (.long wc0), .second, .val (.long wc1), .second, .unset, .unset]) rfl ?_
          refine XS.goto X94.here hx rfl (pc0 := 191) (pc' := 237) rfl (hb hby at_191) (by decide) (by decide) ?_
          refine XS.lload X94.here hx rfl (hb hby at_237) rfl ?_
          refine XS.lload X94.here hx rfl (hb hby at_239) rfl ?_
          show Steps p.tables e below (T94.setTop (mkF m 241 #[.val (.int p0), .val (.int p1), .val (.int p2), .val (.int p3), .val (.int p4), .val (.int p5), .val (.long wl1), .second, .val (.long wl2), .second, .val (.long wl3), .second, .val (.long wv1), .second, .val (.long wv2), .second, .val (.long wv3), .second, .val (.long wc0), .second, .val (.long wc1), .second, .val (.long wc2), .second, .val (.long wc3), .second, .val (.long wx), .second, .val (.ref b1), .val (.ref b29), .val (.ref b67), .val (.double (FP.dadd (FP.l2d wc0) (FP.dmul (FP.ddiv (FP.dsub (FP.l2d wx) (0 : UInt64)) (FP.dsub (FP.l2d wv1) (0 : UInt64))) (FP.dsub (FP.l2d wc1) (FP.l2d wc0))))), .second, .val (.long (0 : Int64)), .second, .val (.long wl1), .second, .val (.long wc0), .second, .val (.long wc1), .second, .unset, .unset] [(.long wl1), (.long wc0)])) t
          refine XS.lmul X94.here hx rfl (hb hby at_241) rfl ?_
          refine XS.lload X94.here hx rfl (hb hby at_242) rfl ?_
          refine XS.lload X94.here hx rfl (hb hby at_244) rfl ?_
          refine XS.lsub X94.here hx rfl (hb hby at_246) rfl ?_
          refine XS.lload X94.here hx rfl (hb hby at_247) rfl ?_
          refine XS.lload X94.here hx rfl (hb hby at_249) rfl ?_
          refine XS.lsub X94.here hx rfl (hb hby at_251) rfl ?_
          refine XS.lmul X94.here hx rfl (hb hby at_252) rfl ?_
          show Steps p.tables e below (T94.setTop (mkF m 253 #[.val (.int p0), .val (.int p1), .val (.int p2), .val (.int p3), .val (.int p4), .val (.int p5), .val (.long wl1), .second, .val (.long wl2), .second, .val (.long wl3), .second, .val (.long wv1), .second, .val (.long wv2), .second, .val (.long wv3), .second, .val (.long wc0), .second, .val (.long wc1), .second, .val (.long wc2), .second, .val (.long wc3), .second, .val (.long wx), .second, .val (.ref b1), .val (.ref b29), .val (.ref b67), .val (.double (FP.dadd (FP.l2d wc0) (FP.dmul (FP.ddiv (FP.dsub (FP.l2d wx) (0 : UInt64)) (FP.dsub (FP.l2d wv1) (0 : UInt64))) (FP.dsub (FP.l2d wc1) (FP.l2d wc0))))), .second, .val (.long (0 : Int64)), .second, .val (.long wl1), .second, .val (.long wc0), .second, .val (.long wc1), .second, .unset, .unset] [(.long ((wx - (0 : Int64)) * (wc1 - wc0))), (.long (wc0 * wl1))])) t
          refine XS.ladd X94.here hx rfl (hb hby at_253) rfl ?_
          refine XS.lstore X94.here hx rfl (hb hby at_254) rfl (l' := #[.val (.int p0), .val (.int p1), .val (.int p2), .val (.int p3), .val (.int p4), .val (.int p5), .val (.long wl1), .second, .val (.long wl2), .second, .val (.long wl3), .second, .val (.long wv1), .second, .val (.long wv2), .second, .val (.long wv3), .second, .val (.long wc0), .second, .val (.long wc1), .second, .val (.long wc2), .second, .val (.long wc3), .second, .val (.long wx), .second, .val (.ref b1), .val (.ref b29), .val (.ref b67), .val (.double (FP.dadd (FP.l2d wc0) (FP.dmul (FP.ddiv (FP.dsub (FP.l2d wx) (0 : UInt64)) (FP.dsub (FP.l2d wv1) (0 : UInt64))) (FP.dsub (FP.l2d wc1) (FP.l2d wc0))))), .second, .val (.long (0 : Int64)), .second, .val (.long wl1), .second, .val (.long wc0), .second, .val (.long wc1), .second, .val (.long ((wc0 * wl1) + ((wx - (0 : Int64)) * (wc1 - wc0)))), .second]) rfl ?_
          refine XS.dload X94.here hx rfl (hb hby at_256) rfl ?_
          refine XS.lload X94.here hx rfl (hb hby at_258) rfl ?_
          refine XS.l2dS X94.here hx rfl (hb hby at_260) rfl rfl ?_
          refine XS.dmulS X94.here hx rfl (hb hby at_261) rfl (hT.s1 (by omega)).2.2.2.1 rfl ?_
          refine XS.lload X94.here hx rfl (hb hby at_262) rfl ?_
          refine XS.l2dS X94.here hx rfl (hb hby at_264) rfl rfl ?_
          show Steps p.tables e below (T94.setTop (mkF m 265 #[.val (.int p0), .val (.int p1), .val (.int p2), .val (.int p3), .val (.int p4), .val (.int p5), .val (.long wl1), .second, .val (.long wl2), .second, .val (.long wl3), .second, .val (.long wv1), .second, .val (.long wv2), .second, .val (.long wv3), .second, .val (.long wc0), .second, .val (.long wc1), .second, .val (.long wc2), .second, .val (.long wc3), .second, .val (.long wx), .second, .val (.ref b1), .val (.ref b29), .val (.ref b67), .val (.double (FP.dadd (FP.l2d wc0) (FP.dmul (FP.ddiv (FP.dsub (FP.l2d wx) (0 : UInt64)) (FP.dsub (FP.l2d wv1) (0 : UInt64))) (FP.dsub (FP.l2d wc1) (FP.l2d wc0))))), .second, .val (.long (0 : Int64)), .second, .val (.long wl1), .second, .val (.long wc0), .second, .val (.long wc1), .second, .val (.long ((wc0 * wl1) + ((wx - (0 : Int64)) * (wc1 - wc0)))), .second] [(.double (FP.l2d ((wc0 * wl1) + ((wx - (0 : Int64)) * (wc1 - wc0))))), (.double (FP.dmul (FP.dadd (FP.l2d wc0) (FP.dmul (FP.ddiv (FP.dsub (FP.l2d wx) (0 : UInt64)) (FP.dsub (FP.l2d wv1) (0 : UInt64))) (FP.dsub (FP.l2d wc1) (FP.l2d wc0)))) (FP.l2d wl1)))])) t
          refine XS.dcmpS X94.here hx rfl (hb hby at_265) rfl (hT.s1 (by omega)).2.2.2.2 ?_
          refine XS.ifNo X94.here hx rfl (hb hby at_266) rfl (by decide) ?_
          refine XS.iconst X94.here hx rfl (hb hby at_269) ?_
          refine XS.goto X94.here hx rfl (pc0 := 270) (pc' := 274) rfl (hb hby at_270) (by decide) (by decide) ?_
          exact k
        refine own_retZ X94 hx hlk Bd.returns (hb hby at_274) rfl (by decide) (by decide) ?_
        show Q0 Z p0 p1 p2 p3 p4 p5 h0 n0 (some (.int (1 : Int32))) T94.heap _
        exact ⟨rfl, n95⟩
      · have hr := own_r_gl hT hc163_92 hc163_93
        obtain ⟨cq96, kq96, qa96, qb96, qc96⟩ := isOf hZ (rfl : T76.heap = T76.heap) f77
        obtain ⟨_, _, ⟨T96, L96, k96, n96⟩, -, X96, ⟨Lc96, hQ96, l96, y96, z96⟩, st96⟩ := X76.virtualBack hx (y := (⟨"com/example/corewright/corewright/equilibrium/Strategy", "bid", "(D)D"⟩ : MethodName)) (z := (⟨"com/example/corewright/corewright/equilibrium/Strategy", "bid", "(D)D"⟩ : MethodName)) hown (mvT hZ (hw _ (List.mem_of_getElem? (i := 33) rfl))) (mvT hZ (hw _ (List.mem_of_getElem? (i := 34) rfl))) (notFace_of_selects (args := #[]) (mvT hZ (hw _ (List.mem_of_getElem? (i := 36) rfl)))) (mvT hZ (hw _ (List.mem_of_getElem? (i := 36) rfl))) (mvT hZ (hw _ (List.mem_of_getElem? (i := 35) rfl))) (by decide) (backOf (W := 0) (rmbgl l Z ar hw [] b67 ((FP.l2d wx)) x0_76 k1 ((0 : UInt64)) ((FP.l2d wv1)) ((FP.l2d wv2)) ((FP.l2d wv3)) x1_76 k29 ((FP.l2d wc0)) ((FP.l2d wc1)) ((FP.l2d wc2)) ((FP.l2d wc3)) T76.heap n0 z90 f77 f78 f80 f79 f82 (own_nltG hT.d1 hT.dx (by omega)) (own_gtL hT.d1 hT.dx (by omega)) (own_ltG own_dy0 hT.dx (by omega)) ((Jvm.Free.Fl.Mag64.fin (show Jvm.Free.Fl.Mag64 1090 (FP.dsub (FP.l2d wx) (0 : UInt64)) by have q := (Jvm.Free.Fl.dsub_mag (Jvm.Free.Fl.l2d_mag wx) (Jvm.Free.Fl.Mag64.mono (show Jvm.Free.Fl.Mag64 1 (0 : UInt64) by unfold Jvm.Free.Fl.Mag64; decide) (show 1 ≤ 1088 by decide)) (by decide)); exact q) (by decide)).noNaN) ((Jvm.Free.Fl.Mag64.fin (show Jvm.Free.Fl.Mag64 1090 (FP.dsub (FP.l2d wv1) (0 : UInt64)) by have q := (Jvm.Free.Fl.dsub_mag (Jvm.Free.Fl.l2d_mag wv1) (Jvm.Free.Fl.Mag64.mono (show Jvm.Free.Fl.Mag64 1 (0 : UInt64) by unfold Jvm.Free.Fl.Mag64; decide) (show 1 ≤ 1088 by decide)) (by decide)); exact q) (by decide)).noNaN) (hT.s1 (by omega)).1 ((Jvm.Free.Fl.Mag64.fin (show Jvm.Free.Fl.Mag64 1090 (FP.dsub (FP.l2d wc1) (FP.l2d wc0)) by have q := (Jvm.Free.Fl.dsub_mag (Jvm.Free.Fl.l2d_mag wc1) (Jvm.Free.Fl.l2d_mag wc0) (by decide)); exact q) (by decide)).noNaN) (hT.s1 (by omega)).2.1 (hT.s1 (by omega)).2.2.1) hZ (hw _ (List.mem_of_getElem? (i := 37) rfl)) (hw _ (List.mem_of_getElem? (i := 4) rfl)) (by decide) (by decide)) qa96 qc96 (g := (mkF m 163 #[.val (.int p0), .val (.int p1), .val (.int p2), .val (.int p3), .val (.int p4), .val (.int p5), .val (.long wl1), .second, .val (.long wl2), .second, .val (.long wl3), .second, .val (.long wv1), .second, .val (.long wv2), .second, .val (.long wv3), .second, .val (.long wc0), .second, .val (.long wc1), .second, .val (.long wc2), .second, .val (.long wc3), .second, .val (.long wx), .second, .val (.ref b1), .val (.ref b29), .val (.ref b67), .unset, .unset, .unset, .unset, .unset, .unset, .unset, .unset, .unset, .unset, .unset, .unset] [(.double (FP.l2d wx)), (.ref b67)])) rfl (by rw [hml]; rfl) (Steps.refl _) (argsL := [(.double (FP.l2d wx))]) (rest := []) (lenOf pd0_1 rfl) rfl (by show 2 * 0 + _ ≤ _; exact Nat.le_of_eq rfl) (hb hby at_163) (fun _ _ => ⟨rfl, (rfl : T76.heap = T76.heap), (by decide : 5 + 0 ≤ _), (by decide : 18 + 0 ≤ _)⟩)
        dsimp only [Pt.U, Pt.locs, Pt.cells, Pt.slots] at X96 l96 y96 z96 st96 hQ96
        subst l96 y96 z96
        obtain ⟨rfl, N96q, e96⟩ := hQ96
        have n97 := Fr.app n84 N96q
        refine own_tr (T' := T96) (g' := (mkF m 166 #[.val (.int p0), .val (.int p1), .val (.int p2), .val (.int p3), .val (.int p4), .val (.int p5), .val (.long wl1), .second, .val (.long wl2), .second, .val (.long wl3), .second, .val (.long wv1), .second, .val (.long wv2), .second, .val (.long wv3), .second, .val (.long wc0), .second, .val (.long wc1), .second, .val (.long wc2), .second, .val (.long wc3), .second, .val (.long wx), .second, .val (.ref b1), .val (.ref b29), .val (.ref b67), .unset, .unset, .unset, .unset, .unset, .unset, .unset, .unset, .unset, .unset, .unset, .unset] [(.double (FP.dadd (FP.l2d wc0) (FP.dmul (FP.ddiv (FP.dsub (FP.l2d wx) (0 : UInt64)) (FP.dsub (FP.l2d wv1) (0 : UInt64))) (FP.dsub (FP.l2d wc1) (FP.l2d wc0)))))])) st96 ?_
        refine own_st (T' := T96) (g' := (mkF m 274 #[.val (.int p0), .val (.int p1), .val (.int p2), .val (.int p3), .val (.int p4), .val (.int p5), .val (.long wl1), .second, .val (.long wl2), .second, .val (.long wl3), .second, .val (.long wv1), .second, .val (.long wv2), .second, .val (.long wv3), .second, .val (.long wc0), .second, .val (.long wc1), .second, .val (.long wc2), .second, .val (.long wc3), .second, .val (.long wx), .second, .val (.ref b1), .val (.ref b29), .val (.ref b67), .val (.double (FP.dadd (FP.l2d wc0) (FP.dmul (FP.ddiv (FP.dsub (FP.l2d wx) (0 : UInt64)) (FP.dsub (FP.l2d wv1) (0 : UInt64))) (FP.dsub (FP.l2d wc1) (FP.l2d wc0))))), .second, .val (.long (0 : Int64)), .second, .val (.long wl1), .second, .val (.long wc0), .second, .val (.long wc1), .second, .val (.long ((wc0 * wl1) + ((wx - (0 : Int64)) * (wc1 - wc0)))), .second] [(.int (1 : Int32))])) (fun t k => ?_) ?_
        · show Steps p.tables e below (T96.setTop (mkF m 166 #[.val (.int p0), .val (.int p1), .val (.int p2), .val (.int p3), .val (.int p4), .val (.int p5), .val (.long wl1), .second, .val (.long wl2), .second, .val (.long wl3), .second, .val (.long wv1), .second, .val (.long wv2), .second, .val (.long wv3), .second, .val (.long wc0), .second, .val (.long wc1), .second, .val (.long wc2), .second, .val (.long wc3), .second, .val (.long wx), .second, .val (.ref b1), .val (.ref b29), .val (.ref b67), .unset, .unset, .unset, .unset, .unset, .unset, .unset, .unset, .unset, .unset, .unset, .unset] [(.double (FP.dadd (FP.l2d wc0) (FP.dmul (FP.ddiv (FP.dsub (FP.l2d wx) (0 : UInt64)) (FP.dsub (FP.l2d wv1) (0 : UInt64))) (FP.dsub (FP.l2d wc1) (FP.l2d wc0)))))])) t
          refine XS.dstore X96.here hx rfl (hb hby at_166) rfl (l' := #[.val (.int p0), .val (.int p1), .val (.int p2), .val (.int p3), .val (.int p4), .val (.int p5), .val (.long wl1), .second, .val (.long wl2), .second, .val (.long wl3), .second, .val (.long wv1), .second, .val (.long wv2), .second, .val (.long wv3), .second, .val (.long wc0), .second, .val (.long wc1), .second, .val (.long wc2), .second, .val (.long wc3), .second, .val (.long wx), .second, .val (.ref b1), .val (.ref b29), .val (.ref b67), .val (.double (FP.dadd (FP.l2d wc0) (FP.dmul (FP.ddiv (FP.dsub (FP.l2d wx) (0 : UInt64)) (FP.dsub (FP.l2d wv1) (0 : UInt64))) (FP.dsub (FP.l2d wc1) (FP.l2d wc0))))), .second, .unset, .unset, .unset, .unset, .unset, .unset, .unset, .unset, .unset, .unset]) rfl ?_
          refine XS.lload X96.here hx rfl (hb hby at_168) rfl ?_
          refine XS.lload X96.here hx rfl (hb hby at_170) rfl ?_
          refine XS.lcmp X96.here hx rfl (hb hby at_172) rfl ?_
          refine XS.ifNo X96.here hx rfl (hb hby at_173) rfl ((if0 _ _).trans (tlt ((lw_lt wx wv1).mpr (hc163_92 : wx < wv1))).2.1) ?_
          refine XS.lconst X96.here hx rfl (hb hby at_176) ?_
          refine XS.lstore X96.here hx rfl (hb hby at_177) rfl (l' := #[.val (.int p0), .val (.int p1), .val (.int p2), .val (.int p3), .val (.int p4), .val (.int p5), .val (.long wl1), .second, .val (.long wl2), .second, .val (.long wl3), .second, .val (.long wv1), .second, .val (.long wv2), .second, .val (.long wv3), .second, .val (.long wc0), .second, .val (.long wc1), .second, .val (.long wc2), .second, .val (.long wc3), .second, .val (.long wx), .second, .val (.ref b1), .val (.ref b29), .val (.ref b67), .val (.double (FP.dadd (FP.l2d wc0) (FP.dmul (FP.ddiv (FP.dsub (FP.l2d wx) (0 : UInt64)) (FP.dsub (FP.l2d wv1) (0 : UInt64))) (FP.dsub (FP.l2d wc1) (FP.l2d wc0))))), .second, .val (.long (0 : Int64)), .second, .unset, .unset, .unset, .unset, .unset, .unset, .unset, .unset]) rfl ?_
          refine XS.lload X96.here hx rfl (hb hby at_179) rfl ?_
          show Steps p.tables e below (T96.setTop (mkF m 181 #[.val (.int p0), .val (.int p1), .val (.int p2), .val (.int p3), .val (.int p4), .val (.int p5), .val (.long wl1), .second, .val (.long wl2), .second, .val (.long wl3), .second, .val (.long wv1), .second, .val (.long wv2), .second, .val (.long wv3), .second, .val (.long wc0), .second, .val (.long wc1), .second, .val (.long wc2), .second, .val (.long wc3), .second, .val (.long wx), .second, .val (.ref b1), .val (.ref b29), .val (.ref b67), .val (.double (FP.dadd (FP.l2d wc0) (FP.dmul (FP.ddiv (FP.dsub (FP.l2d wx) (0 : UInt64)) (FP.dsub (FP.l2d wv1) (0 : UInt64))) (FP.dsub (FP.l2d wc1) (FP.l2d wc0))))), .second, .val (.long (0 : Int64)), .second, .unset, .unset, .unset, .unset, .unset, .unset, .unset, .unset] [(.long wl1)])) t
          refine XS.lstore X96.here hx rfl (hb hby at_181) rfl (l' := #[.val (.int p0), .val (.int p1), .val (.int p2), .val (.int p3), .val (.int p4), .val (.int p5), .val (.long wl1), .second, .val (.long wl2), .second, .val (.long wl3), .second, .val (.long wv1), .second, .val (.long wv2), .second, .val (.long wv3), .second, .val (.long wc0), .second, .val (.long wc1), .second, .val (.long wc2), .second, .val (.long wc3), .second, .val (.long wx), .second, .val (.ref b1), .val (.ref b29), .val (.ref b67), .val (.double (FP.dadd (FP.l2d wc0) (FP.dmul (FP.ddiv (FP.dsub (FP.l2d wx) (0 : UInt64)) (FP.dsub (FP.l2d wv1) (0 : UInt64))) (FP.dsub (FP.l2d wc1) (FP.l2d wc0))))), .second, .val (.long (0 : Int64)), .second, .val (.long wl1), .second, .unset, .unset, .unset, .unset, .unset, .unset]) rfl ?_
          refine XS.lload X96.here hx rfl (hb hby at_183) rfl ?_
          refine XS.lstore X96.here hx rfl (hb hby at_185) rfl (l' := #[.val (.int p0), .val (.int p1), .val (.int p2), .val (.int p3), .val (.int p4), .val (.int p5), .val (.long wl1), .second, .val (.long wl2), .second, .val (.long wl3), .second, .val (.long wv1), .second, .val (.long wv2), .second, .val (.long wv3), .second, .val (.long wc0), .second, .val (.long wc1), .second, .val (.long wc2), .second, .val (.long wc3), .second, .val (.long wx), .second, .val (.ref b1), .val (.ref b29), .val (.ref b67), .val (.double (FP.dadd (FP.l2d wc0) (FP.dmul (FP.ddiv (FP.dsub (FP.l2d wx) (0 : UInt64)) (FP.dsub (FP.l2d wv1) (0 : UInt64))) (FP.dsub (FP.l2d wc1) (FP.l2d wc0))))), .second, .val (.long (0 : Int64)), .second, .val (.long wl1), .second, .val (.long wc0), .second, .unset, .unset, .unset, .unset]) rfl ?_
          refine XS.lload X96.here hx rfl (hb hby at_187) rfl ?_
          refine XS.lstore X96.here hx rfl (hb hby at_189) rfl (l' := #[.val (.int p0), .val (.int p1), .val (.int p2), .val (.int p3), .val (.int p4), .val (.int p5), .val (.long wl1), .second, .val (.long wl2), .second, .val (.long wl3), .second, .val (.long wv1), .second, .val (.long wv2), .second, .val (.long wv3), .second, .val (.long wc0), .second, .val (.long wc1), .second, .val (.long wc2), .second, .val (.long wc3), .second, .val (.long wx), .second, .val (.ref b1), .val (.ref b29), .val (.ref b67), .val (.double (FP.dadd (FP.l2d wc0) (FP.dmul (FP.ddiv (FP.dsub (FP.l2d wx) (0 : UInt64)) (FP.dsub (FP.l2d wv1) (0 : UInt64))) (FP.dsub (FP.l2d wc1) (FP.l2d wc0))))), .second, .val (.long (0 : Int64)), .second, .val (.long wl1), .second, .val (.long wc0), .second, .val (.long wc1), .second, .unset, .unset]) rfl ?_
          refine XS.goto X96.here hx rfl (pc0 := 191) (pc' := 237) rfl (hb hby at_191) (by decide) (by decide) ?_
          refine XS.lload X96.here hx rfl (hb hby at_237) rfl ?_
          refine XS.lload X96.here hx rfl (hb hby at_239) rfl ?_
          show Steps p.tables e below (T96.setTop (mkF m 241 #[.val (.int p0), .val (.int p1), .val (.int p2), .val (.int p3), .val (.int p4), .val (.int p5), .val (.long wl1), .second, .val (.long wl2), .second, .val (.long wl3), .second, .val (.long wv1), .second, .val (.long wv2), .second, .val (.long wv3), .second, .val (.long wc0), .second, .val (.long wc1), .second, .val (.long wc2), .second, .val (.long wc3), .second, .val (.long wx), .second, .val (.ref b1), .val (.ref b29), .val (.ref b67), .val (.double (FP.dadd (FP.l2d wc0) (FP.dmul (FP.ddiv (FP.dsub (FP.l2d wx) (0 : UInt64)) (FP.dsub (FP.l2d wv1) (0 : UInt64))) (FP.dsub (FP.l2d wc1) (FP.l2d wc0))))), .second, .val (.long (0 : Int64)), .second, .val (.long wl1), .second, .val (.long wc0), .second, .val (.long wc1), .second, .unset, .unset] [(.long wl1), (.long wc0)])) t
          refine XS.lmul X96.here hx rfl (hb hby at_241) rfl ?_
          refine XS.lload X96.here hx rfl (hb hby at_242) rfl ?_
          refine XS.lload X96.here hx rfl (hb hby at_244) rfl ?_
          refine XS.lsub X96.here hx rfl (hb hby at_246) rfl ?_
          refine XS.lload X96.here hx rfl (hb hby at_247) rfl ?_
          refine XS.lload X96.here hx rfl (hb hby at_249) rfl ?_
          refine XS.lsub X96.here hx rfl (hb hby at_251) rfl ?_
          refine XS.lmul X96.here hx rfl (hb hby at_252) rfl ?_
          show Steps p.tables e below (T96.setTop (mkF m 253 #[.val (.int p0), .val (.int p1), .val (.int p2), .val (.int p3), .val (.int p4), .val (.int p5), .val (.long wl1), .second, .val (.long wl2), .second, .val (.long wl3), .second, .val (.long wv1), .second, .val (.long wv2), .second, .val (.long wv3), .second, .val (.long wc0), .second, .val (.long wc1), .second, .val (.long wc2), .second, .val (.long wc3), .second, .val (.long wx), .second, .val (.ref b1), .val (.ref b29), .val (.ref b67), .val (.double (FP.dadd (FP.l2d wc0) (FP.dmul (FP.ddiv (FP.dsub (FP.l2d wx) (0 : UInt64)) (FP.dsub (FP.l2d wv1) (0 : UInt64))) (FP.dsub (FP.l2d wc1) (FP.l2d wc0))))), .second, .val (.long (0 : Int64)), .second, .val (.long wl1), .second, .val (.long wc0), .second, .val (.long wc1), .second, .unset, .unset] [(.long ((wx - (0 : Int64)) * (wc1 - wc0))), (.long (wc0 * wl1))])) t
          refine XS.ladd X96.here hx rfl (hb hby at_253) rfl ?_
          refine XS.lstore X96.here hx rfl (hb hby at_254) rfl (l' := #[.val (.int p0), .val (.int p1), .val (.int p2), .val (.int p3), .val (.int p4), .val (.int p5), .val (.long wl1), .second, .val (.long wl2), .second, .val (.long wl3), .second, .val (.long wv1), .second, .val (.long wv2), .second, .val (.long wv3), .second, .val (.long wc0), .second, .val (.long wc1), .second, .val (.long wc2), .second, .val (.long wc3), .second, .val (.long wx), .second, .val (.ref b1), .val (.ref b29), .val (.ref b67), .val (.double (FP.dadd (FP.l2d wc0) (FP.dmul (FP.ddiv (FP.dsub (FP.l2d wx) (0 : UInt64)) (FP.dsub (FP.l2d wv1) (0 : UInt64))) (FP.dsub (FP.l2d wc1) (FP.l2d wc0))))), .second, .val (.long (0 : Int64)), .second, .val (.long wl1), .second, .val (.long wc0), .second, .val (.long wc1), .second, .val (.long ((wc0 * wl1) + ((wx - (0 : Int64)) * (wc1 - wc0)))), .second]) rfl ?_
          refine XS.dload X96.here hx rfl (hb hby at_256) rfl ?_
          refine XS.lload X96.here hx rfl (hb hby at_258) rfl ?_
          refine XS.l2dS X96.here hx rfl (hb hby at_260) rfl rfl ?_
          refine XS.dmulS X96.here hx rfl (hb hby at_261) rfl (hT.s1 (by omega)).2.2.2.1 rfl ?_
          refine XS.lload X96.here hx rfl (hb hby at_262) rfl ?_
          refine XS.l2dS X96.here hx rfl (hb hby at_264) rfl rfl ?_
          show Steps p.tables e below (T96.setTop (mkF m 265 #[.val (.int p0), .val (.int p1), .val (.int p2), .val (.int p3), .val (.int p4), .val (.int p5), .val (.long wl1), .second, .val (.long wl2), .second, .val (.long wl3), .second, .val (.long wv1), .second, .val (.long wv2), .second, .val (.long wv3), .second, .val (.long wc0), .second, .val (.long wc1), .second, .val (.long wc2), .second, .val (.long wc3), .second, .val (.long wx), .second, .val (.ref b1), .val (.ref b29), .val (.ref b67), .val (.double (FP.dadd (FP.l2d wc0) (FP.dmul (FP.ddiv (FP.dsub (FP.l2d wx) (0 : UInt64)) (FP.dsub (FP.l2d wv1) (0 : UInt64))) (FP.dsub (FP.l2d wc1) (FP.l2d wc0))))), .second, .val (.long (0 : Int64)), .second, .val (.long wl1), .second, .val (.long wc0), .second, .val (.long wc1), .second, .val (.long ((wc0 * wl1) + ((wx - (0 : Int64)) * (wc1 - wc0)))), .second] [(.double (FP.l2d ((wc0 * wl1) + ((wx - (0 : Int64)) * (wc1 - wc0))))), (.double (FP.dmul (FP.dadd (FP.l2d wc0) (FP.dmul (FP.ddiv (FP.dsub (FP.l2d wx) (0 : UInt64)) (FP.dsub (FP.l2d wv1) (0 : UInt64))) (FP.dsub (FP.l2d wc1) (FP.l2d wc0)))) (FP.l2d wl1)))])) t
          refine XS.dcmpS X96.here hx rfl (hb hby at_265) rfl (hT.s1 (by omega)).2.2.2.2 ?_
          refine XS.ifNo X96.here hx rfl (hb hby at_266) rfl (by decide) ?_
          refine XS.iconst X96.here hx rfl (hb hby at_269) ?_
          refine XS.goto X96.here hx rfl (pc0 := 270) (pc' := 274) rfl (hb hby at_270) (by decide) (by decide) ?_
          exact k
        refine own_retZ X96 hx hlk Bd.returns (hb hby at_274) rfl (by decide) (by decide) ?_
        show Q0 Z p0 p1 p2 p3 p4 p5 h0 n0 (some (.int (1 : Int32))) T96.heap _
        exact ⟨rfl, n97⟩
    · by_cases hc163_98 : wx < wv2
      · by_cases hc163_99 : wx = wv1
        · have hr := own_r_e hT hc163_92 hc163_98 hc163_99
          obtain ⟨cq100, kq100, qa100, qb100, qc100⟩ := isOf hZ (rfl : T76.heap = T76.heap) f77
          obtain ⟨_, _, ⟨T100, L100, k100, n100⟩, -, X100, ⟨Lc100, hQ100, l100, y100, z100⟩, st100⟩ := X76.virtualBack hx (y := (⟨"com/example/corewright/corewright/equilibrium/Strategy", "bid", "(D)D"⟩ : MethodName)) (z := (⟨"com/example/corewright/corewright/equilibrium/Strategy", "bid", "(D)D"⟩ : MethodName)) hown (mvT hZ (hw _ (List.mem_of_getElem? (i := 33) rfl))) (mvT hZ (hw _ (List.mem_of_getElem? (i := 34) rfl))) (notFace_of_selects (args := #[]) (mvT hZ (hw _ (List.mem_of_getElem? (i := 36) rfl)))) (mvT hZ (hw _ (List.mem_of_getElem? (i := 36) rfl))) (mvT hZ (hw _ (List.mem_of_getElem? (i := 35) rfl))) (by decide) (backOf (W := 0) (rmbe l Z ar hw [] b67 ((FP.l2d wx)) x0_76 k1 ((0 : UInt64)) ((FP.l2d wv1)) ((FP.l2d wv2)) ((FP.l2d wv3)) x1_76 k29 ((FP.l2d wc0)) ((FP.l2d wc1)) ((FP.l2d wc2)) ((FP.l2d wc3)) T76.heap n0 z90 f77 f78 f80 f79 f82 (own_nltG hT.d1 hT.dx (by omega)) (own_ngtL hT.d1 hT.dx (by omega)) (dcmpV_self ((Jvm.Free.Fl.Mag64.fin (Jvm.Free.Fl.l2d_mag wv1) (by decide)).noNaN) .l) (dcmpV_self ((Jvm.Free.Fl.Mag64.fin (Jvm.Free.Fl.l2d_mag wx) (by decide)).noNaN) .l) (congrArg (fun z => (FP.l2d z).toInt64) (Eq.symm hc163_99)) ((Jvm.Free.Fl.Mag64.fin (show Jvm.Free.Fl.Mag64 1090 (FP.dsub (FP.l2d wx) (FP.l2d wv1)) by have q := (Jvm.Free.Fl.dsub_mag (Jvm.Free.Fl.l2d_mag wx) (Jvm.Free.Fl.l2d_mag wv1) (by decide)); exact q) (by decide)).noNaN) ((Jvm.Free.Fl.Mag64.fin (show Jvm.Free.Fl.Mag64 1090 (FP.dsub (FP.l2d wv2) (FP.l2d wv1)) by have q := (Jvm.Free.Fl.dsub_mag (Jvm.Free.Fl.l2d_mag wv2) (Jvm.Free.Fl.l2d_mag wv1) (by decide)); exact q) (by decide)).noNaN) (hT.s2 (by omega)).1 ((Jvm.Free.Fl.Mag64.fin (show Jvm.Free.Fl.Mag64 1090 (FP.dsub (FP.l2d wc2) (FP.l2d wc1)) by have q := (Jvm.Free.Fl.dsub_mag (Jvm.Free.Fl.l2d_mag wc2) (Jvm.Free.Fl.l2d_mag wc1) (by decide)); exact q) (by decide)).noNaN) (hT.s2 (by omega)).2.1 (hT.s2 (by omega)).2.2.1) hZ (hw _ (List.mem_of_getElem? (i := 37) rfl)) (hw _ (List.mem_of_getElem? (i := 4) rfl)) (by decide) (by decide)) qa100 qc100 (g := (mkF m 163 #[.val (.int p0), .val (.int p1), .val (.int p2), .val (.int p3), .val (.int p4), .val (.int p5), .val (.long wl1), .second, .val (.long wl2), .second, .val (.long wl3), .second, .val (.long wv1), .second, .val (.long wv2), .second, .val (.long wv3), .second, .val (.long wc0), .second, .val (.long wc1), .second, .val (.long wc2), .second, .val (.long wc3), .second, .val (.long wx), .second, .val (.ref b1), .val (.ref b29), .val (.ref b67), .unset, .unset, .unset, .unset, .unset, .unset, .unset, .unset, .unset, .unset, .unset, .unset] [(.double (FP.l2d wx)), (.ref b67)])) rfl (by rw [hml]; rfl) (Steps.refl _) (argsL := [(.double (FP.l2d wx))]) (rest := []) (lenOf pd0_1 rfl) rfl (by show 2 * 0 + _ ≤ _; exact Nat.le_of_eq rfl) (hb hby at_163) (fun _ _ => ⟨rfl, (rfl : T76.heap = T76.heap), (by decide : 5 + 0 ≤ _), (by decide : 18 + 0 ≤ _)⟩)
          dsimp only [Pt.U, Pt.locs, Pt.cells, Pt.slots] at X100 l100 y100 z100 st100 hQ100
          subst l100 y100 z100
          obtain ⟨rfl, N100q, e100⟩ := hQ100
          have n101 := Fr.app n84 N100q
          refine own_tr (T' := T100) (g' := (mkF m 166 #[.val (.int p0), .val (.int p1), .val (.int p2), .val (.int p3), .val (.int p4), .val (.int p5), .val (.long wl1), .second, .val (.long wl2), .second, .val (.long wl3), .second, .val (.long wv1), .second, .val (.long wv2), .second, .val (.long wv3), .second, .val (.long wc0), .second, .val (.long wc1), .second, .val (.long wc2), .second, .val (.long wc3), .second, .val (.long wx), .second, .val (.ref b1), .val (.ref b29), .val (.ref b67), .unset, .unset, .unset, .unset, .unset, .unset, .unset, .unset, .unset, .unset, .unset, .unset] [(.double (FP.dadd (FP.l2d wc1) (FP.dmul (FP.ddiv (FP.dsub (FP.l2d wx) (FP.l2d wv1)) (FP.dsub (FP.l2d wv2) (FP.l2d wv1))) (FP.dsub (FP.l2d wc2) (FP.l2d wc1)))))])) st100 ?_
          refine own_st (T' := T100) (g' := (mkF m 274 #[.val (.int p0), .val (.int p1), .val (.int p2), .val (.int p3), .val (.int p4), .val (.int p5), .val (.long wl1), .second, .val (.long wl2), .second, .val (.long wl3), .second, .val (.long wv1), .second, .val (.long wv2), .second, .val (.long wv3), .second, .val (.long wc0), .second, .val (.long wc1), .second, .val (.long wc2), .second, .val (.long wc3), .second, .val (.long wx), .second, .val (.ref b1), .val (.ref b29), .val (.ref b67), .val (.double (FP.dadd (FP.l2d wc1) (FP.dmul (FP.ddiv (FP.dsub (FP.l2d wx) (FP.l2d wv1)) (FP.dsub (FP.l2d wv2) (FP.l2d wv1))) (FP.dsub (FP.l2d wc2) (FP.l2d wc1))))), .second, .val (.long wv1), .second, .val (.long wl2), .second, .val (.long wc1), .second, .val (.long wc2), .second, .val (.long ((wc1 * wl2) + ((wx - wv1) * (wc2 - wc1)))), .second] [(.int (1 : Int32))])) (fun t k => ?_) ?_
          · show Steps p.tables e below (T100.setTop (mkF m 166 #[.val (.int p0), .val (.int p1), .val (.int p2), .val (.int p3), .val (.int p4), .val (.int p5), .val (.long wl1), .second, .val (.long wl2), .second, .val (.long wl3), .second, .val (.long wv1), .second, .val (.long wv2), .second, .val (.long wv3), .second, .val (.long wc0), .second, .val (.long wc1), .second, .val (.long wc2), .second, .val (.long wc3), .second, .val (.long wx), .second, .val (.ref b1), .val (.ref b29), .val (.ref b67), .unset, .unset, .unset, .unset, .unset, .unset, .unset, .unset, .unset, .unset, .unset, .unset] [(.double (FP.dadd (FP.l2d wc1) (FP.dmul (FP.ddiv (FP.dsub (FP.l2d wx) (FP.l2d wv1)) (FP.dsub (FP.l2d wv2) (FP.l2d wv1))) (FP.dsub (FP.l2d wc2) (FP.l2d wc1)))))])) t
            refine XS.dstore X100.here hx rfl (hb hby at_166) rfl (l' := #[.val (.int p0), .val (.int p1), .val (.int p2), .val (.int p3), .val (.int p4), .val (.int p5), .val (.long wl1), .second, .val (.long wl2), .second, .val (.long wl3), .second, .val (.long wv1), .second, .val (.long wv2), .second, .val (.long wv3), .second, .val (.long wc0), .second, .val (.long wc1), .second, .val (.long wc2), .second, .val (.long wc3), .second, .val (.long wx), .second, .val (.ref b1), .val (.ref b29), .val (.ref b67), .val (.double (FP.dadd (FP.l2d wc1) (FP.dmul (FP.ddiv (FP.dsub (FP.l2d wx) (FP.l2d wv1)) (FP.dsub (FP.l2d wv2) (FP.l2d wv1))) (FP.dsub (FP.l2d wc2) (FP.l2d wc1))))), .second, .unset, .unset, .unset, .unset, .unset, .unset, .unset, .unset, .unset, .unset]) rfl ?_
            refine XS.lload X100.here hx rfl (hb hby at_168) rfl ?_
            refine XS.lload X100.here hx rfl (hb hby at_170) rfl ?_
            refine XS.lcmp X100.here hx rfl (hb hby at_172) rfl ?_
            refine XS.ifYes X100.here hx rfl (pc0 := 173) (pc' := 194) rfl (hb hby at_173) rfl ((if0 _ _).trans (flt (fun q => (hc163_92 : ¬ (wx < wv1)) ((lw_lt wx wv1).mp q))).2.1) (by decide) (by decide) ?_
            refine XS.lload X100.here hx rfl (hb hby at_194) rfl ?_
            refine XS.lload X100.here hx rfl (hb hby at_196) rfl ?_
            refine XS.lcmp X100.here hx rfl (hb hby at_198) rfl ?_
            show Steps p.tables e below (T100.setTop (mkF m 199 #[.val (.int p0), .val (.int p1), .val (.int p2), .val (.int p3), .val (.int p4), .val (.int p5), .val (.long wl1), .second, .val (.long wl2), .second, .val (.long wl3), .second, .val (.long wv1), .second, .val (.long wv2), .second, .val (.long wv3), .second, .val (.long wc0), .second, .val (.long wc1), .second, .val (.long wc2), .second, .val (.long wc3), .second, .val (.long wx), .second, .val (.ref b1), .val (.ref b29), .val (.ref b67), .val (.double (FP.dadd (FP.l2d wc1) (FP.dmul (FP.ddiv (FP.dsub (FP.l2d wx) (FP.l2d wv1)) (FP.dsub (FP.l2d wv2) (FP.l2d wv1))) (FP.dsub (FP.l2d wc2) (FP.l2d wc1))))), .second, .unset, .unset, .unset, .unset, .unset, .unset, .unset, .unset, .unset, .unset] [(.int (lcmpW wx wv2))])) t
            refine XS.ifNo X100.here hx rfl (hb hby at_199) rfl ((if0 _ _).trans (tlt ((lw_lt wx wv2).mpr (hc163_98 : wx < wv2))).2.1) ?_
            refine XS.lload X100.here hx rfl (hb hby at_202) rfl ?_
            refine XS.lstore X100.here hx rfl (hb hby at_204) rfl (l' := #[.val (.int p0), .val (.int p1), .val (.int p2), .val (.int p3), .val (.int p4), .val (.int p5), .val (.long wl1), .second, .val (.long wl2), .second, .val (.long wl3), .second, .val (.long wv1), .second, .val (.long wv2), .second, .val (.long wv3), .second, .val (.long wc0), .second, .val (.long wc1), .second, .val (.long wc2), .second, .val (.long wc3), .second, .val (.long wx), .second, .val (.ref b1), .val (.ref b29), .val (.ref b67), .val (.double (FP.dadd (FP.l2d wc1) (FP.dmul (FP.ddiv (FP.dsub (FP.l2d wx) (FP.l2d wv1)) (FP.dsub (FP.l2d wv2) (FP.l2d wv1))) (FP.dsub (FP.l2d wc2) (FP.l2d wc1))))), .second, .val (.long wv1), .second, .unset, .unset, .unset, .unset, .unset, .unset, .unset, .unset]) rfl ?_
            refine XS.lload X100.here hx rfl (hb hby at_206) rfl ?_
            refine XS.lstore X100.here hx rfl (hb hby at_208) rfl (l' := #[.val (.int p0), .val (.int p1), .val (.int p2), .val (.int p3), .val (.int p4), .val (.int p5), .val (.long wl1), .second, .val (.long wl2), .second, .val (.long wl3), .second, .val (.long wv1), .second, .val (.long wv2), .second, .val (.long wv3), .second, .val (.long wc0), .second, .val (.long wc1), .second, .val (.long wc2), .second, .val (.long wc3), .second, .val (.long wx), .second, .val (.ref b1), .val (.ref b29), .val (.ref b67), .val (.double (FP.dadd (FP.l2d wc1) (FP.dmul (FP.ddiv (FP.dsub (FP.l2d wx) (FP.l2d wv1)) (FP.dsub (FP.l2d wv2) (FP.l2d wv1))) (FP.dsub (FP.l2d wc2) (FP.l2d wc1))))), .second, .val (.long wv1), .second, .val (.long wl2), .second, .unset, .unset, .unset, .unset, .unset, .unset]) rfl ?_
            refine XS.lload X100.here hx rfl (hb hby at_210) rfl ?_
            refine XS.lstore X100.here hx rfl (hb hby at_212) rfl (l' := #[.val (.int p0), .val (.int p1), .val (.int p2), .val (.int p3), .val (.int p4), .val (.int p5), .val (.long wl1), .second, .val (.long wl2), .second, .val (.long wl3), .second, .val (.long wv1), .second, .val (.long wv2), .second, .val (.long wv3), .second, .val (.long wc0), .second, .val (.long wc1), .second, .val (.long wc2), .second, .val (.long wc3), .second, .val (.long wx), .second, .val (.ref b1), .val (.ref b29), .val (.ref b67), .val (.double (FP.dadd (FP.l2d wc1) (FP.dmul (FP.ddiv (FP.dsub (FP.l2d wx) (FP.l2d wv1)) (FP.dsub (FP.l2d wv2) (FP.l2d wv1))) (FP.dsub (FP.l2d wc2) (FP.l2d wc1))))), .second, .val (.long wv1), .second, .val (.long wl2), .second, .val (.long wc1), .second, .unset, .unset, .unset, .unset]) rfl ?_
            refine XS.lload X100.here hx rfl (hb hby at_214) rfl ?_
            show Steps p.tables e below (T100.setTop (mkF m 216 #[.val (.int p0), .val (.int p1), .val (.int p2), .val (.int p3), .val (.int p4), .val (.int p5), .val (.long wl1), .second, .val (.long wl2), .second, .val (.long wl3), .second, .val (.long wv1), .second, .val (.long wv2), .second, .val (.long wv3), .second, .val (.long wc0), .second, .val (.long wc1), .second, .val (.long wc2), .second, .val (.long wc3), .second, .val (.long wx), .second, .val (.ref b1), .val (.ref b29), .val (.ref b67), .val (.double (FP.dadd (FP.l2d wc1) (FP.dmul (FP.ddiv (FP.dsub (FP.l2d wx) (FP.l2d wv1)) (FP.dsub (FP.l2d wv2) (FP.l2d wv1))) (FP.dsub (FP.l2d wc2) (FP.l2d wc1))))), .second, .val (.long wv1), .second, .val (.long wl2), .second, .val (.long wc1), .second, .unset, .unset, .unset, .unset] [(.long wc2)])) t
            refine XS.lstore X100.here hx rfl (hb hby at_216) rfl (l' := #[.val (.int p0), .val (.int p1), .val (.int p2), .val (.int p3), .val (.int p4), .val (.int p5), .val (.long wl1), .second, .val (.long wl2), .second, .val (.long wl3), .second, .val (.long wv1), .second, .val (.long wv2), .second, .val (.long wv3), .second, .val (.long wc0), .second, .val (.long wc1), .second, .val (.long wc2), .second, .val (.long wc3), .second, .val (.long wx), .second, .val (.ref b1), .val (.ref b29), .val (.ref b67), .val (.double (FP.dadd (FP.l2d wc1) (FP.dmul (FP.ddiv (FP.dsub (FP.l2d wx) (FP.l2d wv1)) (FP.dsub (FP.l2d wv2) (FP.l2d wv1))) (FP.dsub (FP.l2d wc2) (FP.l2d wc1))))), .second, .val (.long wv1), .second, .val (.long wl2), .second, .val (.long wc1), .second, .val (.long wc2), .second, .unset, .unset]) rfl ?_
            refine XS.goto X100.here hx rfl (pc0 := 218) (pc' := 237) rfl (hb hby at_218) (by decide) (by decide) ?_
            refine XS.lload X100.here hx rfl (hb hby at_237) rfl ?_
            refine XS.lload X100.here hx rfl (hb hby at_239) rfl ?_
            refine XS.lmul X100.here hx rfl (hb hby at_241) rfl ?_
            refine XS.lload X100.here hx rfl (hb hby at_242) rfl ?_
            refine XS.lload X100.here hx rfl (hb hby at_244) rfl ?_
            refine XS.lsub X100.here hx rfl (hb hby at_246) rfl ?_
            show Steps p.tables e below (T100.setTop (mkF m 247 #[.val (.int p0), .val (.int p1), .val (.int p2), .val (.int p3), .val (.int p4), .val (.int p5), .val (.long wl1), .second, .val (.long wl2), .second, .val (.long wl3), .second, .val (.long wv1), .second, .val (.long wv2), .second, .val (.long wv3), .second, .val (.long wc0), .second, .val (.long wc1), .second, .val (.long wc2), .second, .val (.long wc3), .second, .val (.long wx), .second, .val (.ref b1), .val (.ref b29), .val (.ref b67), .val (.double (FP.dadd (FP.l2d wc1) (FP.dmul (FP.ddiv (FP.dsub (FP.l2d wx) (FP.l2d wv1)) (FP.dsub (FP.l2d wv2) (FP.l2d wv1))) (FP.dsub (FP.l2d wc2) (FP.l2d wc1))))), .second, .val (.long wv1), .second, .val (.long wl2), .second, .val (.long wc1), .second, .val (.long wc2), .second, .unset, .unset] [(.long (wx - wv1)), (.long (wc1 * wl2))])) t
            refine XS.lload X100.here hx rfl (hb hby at_247) rfl ?_
            refine XS.lload X100.here hx rfl (hb hby at_249) rfl ?_
            refine XS.lsub X100.here hx rfl (hb hby at_251) rfl ?_
            refine XS.lmul X100.here hx rfl (hb hby at_252) rfl ?_
            refine XS.ladd X100.here hx rfl (hb hby at_253) rfl ?_
            refine XS.lstore X100.here hx rfl (hb hby at_254) rfl (l' := #[.val (.int p0), .val (.int p1), .val (.int p2), .val (.int p3), .val (.int p4), .val (.int p5), .val (.long wl1), .second, .val (.long wl2), .second, .val (.long wl3), .second, .val (.long wv1), .second, .val (.long wv2), .second, .val (.long wv3), .second, .val (.long wc0), .second, .val (.long wc1), .second, .val (.long wc2), .second, .val (.long wc3), .second, .val (.long wx), .second, .val (.ref b1), .val (.ref b29), .val (.ref b67), .val (.double (FP.dadd (FP.l2d wc1) (FP.dmul (FP.ddiv (FP.dsub (FP.l2d wx) (FP.l2d wv1)) (FP.dsub (FP.l2d wv2) (FP.l2d wv1))) (FP.dsub (FP.l2d wc2) (FP.l2d wc1))))), .second, .val (.long wv1), .second, .val (.long wl2), .second, .val (.long wc1), .second, .val (.long wc2), .second, .val (.long ((wc1 * wl2) + ((wx - wv1) * (wc2 - wc1)))), .second]) rfl ?_
            refine XS.dload X100.here hx rfl (hb hby at_256) rfl ?_
            refine XS.lload X100.here hx rfl (hb hby at_258) rfl ?_
            show Steps p.tables e below (T100.setTop (mkF m 260 #[.val (.int p0), .val (.int p1), .val (.int p2), .val (.int p3), .val (.int p4), .val (.int p5), .val (.long wl1), .second, .val (.long wl2), .second, .val (.long wl3), .second, .val (.long wv1), .second, .val (.long wv2), .second, .val (.long wv3), .second, .val (.long wc0), .second, .val (.long wc1), .second, .val (.long wc2), .second, .val (.long wc3), .second, .val (.long wx), .second, .val (.ref b1), .val (.ref b29), .val (.ref b67), .val (.double (FP.dadd (FP.l2d wc1) (FP.dmul (FP.ddiv (FP.dsub (FP.l2d wx) (FP.l2d wv1)) (FP.dsub (FP.l2d wv2) (FP.l2d wv1))) (FP.dsub (FP.l2d wc2) (FP.l2d wc1))))), .second, .val (.long wv1), .second, .val (.long wl2), .second, .val (.long wc1), .second, .val (.long wc2), .second, .val (.long ((wc1 * wl2) + ((wx - wv1) * (wc2 - wc1)))), .second] [(.long wl2), (.double (FP.dadd (FP.l2d wc1) (FP.dmul (FP.ddiv (FP.dsub (FP.l2d wx) (FP.l2d wv1)) (FP.dsub (FP.l2d wv2) (FP.l2d wv1))) (FP.dsub (FP.l2d wc2) (FP.l2d wc1)))))])) t
            refine XS.l2dS X100.here hx rfl (hb hby at_260) rfl rfl ?_
            refine XS.dmulS X100.here hx rfl (hb hby at_261) rfl (hT.s2 (by omega)).2.2.2.1 rfl ?_
            refine XS.lload X100.here hx rfl (hb hby at_262) rfl ?_
            refine XS.l2dS X100.here hx rfl (hb hby at_264) rfl rfl ?_
            refine XS.dcmpS X100.here hx rfl (hb hby at_265) rfl (hT.s2 (by omega)).2.2.2.2 ?_
            refine XS.ifNo X100.here hx rfl (hb hby at_266) rfl (by decide) ?_
            refine XS.iconst X100.here hx rfl (hb hby at_269) ?_
            refine XS.goto X100.here hx rfl (pc0 := 270) (pc' := 274) rfl (hb hby at_270) (by decide) (by decide) ?_
            exact k
          refine own_retZ X100 hx hlk Bd.returns (hb hby at_274) rfl (by decide) (by decide) ?_
          show Q0 Z p0 p1 p2 p3 p4 p5 h0 n0 (some (.int (1 : Int32))) T100.heap _
          exact ⟨rfl, n101⟩
        · have hr := own_r_lg hT hc163_92 hc163_98 hc163_99
          obtain ⟨cq102, kq102, qa102, qb102, qc102⟩ := isOf hZ (rfl : T76.heap = T76.heap) f77
          obtain ⟨_, _, ⟨T102, L102, k102, n102⟩, -, X102, ⟨Lc102, hQ102, l102, y102, z102⟩, st102⟩ := X76.virtualBack hx (y := (⟨"com/example/corewright/corewright/equilibrium/Strategy", "bid", "(D)D"⟩ : MethodName)) (z := (⟨"com/example/corewright/corewright/equilibrium/Strategy", "bid", "(D)D"⟩ : MethodName)) hown (mvT hZ (hw _ (List.mem_of_getElem? (i := 33) rfl))) (mvT hZ (hw _ (List.mem_of_getElem? (i := 34) rfl))) (notFace_of_selects (args := #[]) (mvT hZ (hw _ (List.mem_of_getElem? (i := 36) rfl)))) (mvT hZ (hw _ (List.mem_of_getElem? (i := 36) rfl))) (mvT hZ (hw _ (List.mem_of_getElem? (i := 35) rfl))) (by decide) (backOf (W := 0) (rmblg l Z ar hw [] b67 ((FP.l2d wx)) x0_76 k1 ((0 : UInt64)) ((FP.l2d wv1)) ((FP.l2d wv2)) ((FP.l2d wv3)) x1_76 k29 ((FP.l2d wc0)) ((FP.l2d wc1)) ((FP.l2d wc2)) ((FP.l2d wc3)) T76.heap n0 z90 f77 f78 f80 f79 f82 (own_ltG hT.d1 hT.dx (by omega)) (own_nltG hT.d2 hT.dx (by omega)) (own_gtL hT.d2 hT.dx (by omega)) ((Jvm.Free.Fl.Mag64.fin (show Jvm.Free.Fl.Mag64 1090 (FP.dsub (FP.l2d wx) (FP.l2d wv1)) by have q := (Jvm.Free.Fl.dsub_mag (Jvm.Free.Fl.l2d_mag wx) (Jvm.Free.Fl.l2d_mag wv1) (by decide)); exact q) (by decide)).noNaN) ((Jvm.Free.Fl.Mag64.fin (show Jvm.Free.Fl.Mag64 1090 (FP.dsub (FP.l2d wv2) (FP.l2d wv1)) by have q := (Jvm.Free.Fl.dsub_mag (Jvm.Free.Fl.l2d_mag wv2) (Jvm.Free.Fl.l2d_mag wv1) (by decide)); exact q) (by decide)).noNaN) (hT.s2 (by omega)).1 ((Jvm.Free.Fl.Mag64.fin (show Jvm.Free.Fl.Mag64 1090 (FP.dsub (FP.l2d wc2) (FP.l2d wc1)) by have q := (Jvm.Free.Fl.dsub_mag (Jvm.Free.Fl.l2d_mag wc2) (Jvm.Free.Fl.l2d_mag wc1) (by decide)); exact q) (by decide)).noNaN) (hT.s2 (by omega)).2.1 (hT.s2 (by omega)).2.2.1) hZ (hw _ (List.mem_of_getElem? (i := 37) rfl)) (hw _ (List.mem_of_getElem? (i := 4) rfl)) (by decide) (by decide)) qa102 qc102 (g := (mkF m 163 #[.val (.int p0), .val (.int p1), .val (.int p2), .val (.int p3), .val (.int p4), .val (.int p5), .val (.long wl1), .second, .val (.long wl2), .second, .val (.long wl3), .second, .val (.long wv1), .second, .val (.long wv2), .second, .val (.long wv3), .second, .val (.long wc0), .second, .val (.long wc1), .second, .val (.long wc2), .second, .val (.long wc3), .second, .val (.long wx), .second, .val (.ref b1), .val (.ref b29), .val (.ref b67), .unset, .unset, .unset, .unset, .unset, .unset, .unset, .unset, .unset, .unset, .unset, .unset] [(.double (FP.l2d wx)), (.ref b67)])) rfl (by rw [hml]; rfl) (Steps.refl _) (argsL := [(.double (FP.l2d wx))]) (rest := []) (lenOf pd0_1 rfl) rfl (by show 2 * 0 + _ ≤ _; exact Nat.le_of_eq rfl) (hb hby at_163) (fun _ _ => ⟨rfl, (rfl : T76.heap = T76.heap), (by decide : 5 + 0 ≤ _), (by decide : 18 + 0 ≤ _)⟩)
          dsimp only [Pt.U, Pt.locs, Pt.cells, Pt.slots] at X102 l102 y102 z102 st102 hQ102
          subst l102 y102 z102
          obtain ⟨rfl, N102q, e102⟩ := hQ102
          have n103 := Fr.app n84 N102q
          refine own_tr (T' := T102) (g' := (mkF m 166 #[.val (.int p0), .val (.int p1), .val (.int p2), .val (.int p3), .val (.int p4), .val (.int p5), .val (.long wl1), .second, .val (.long wl2), .second, .val (.long wl3), .second, .val (.long wv1), .second, .val (.long wv2), .second, .val (.long wv3), .second, .val (.long wc0), .second, .val (.long wc1), .second, .val (.long wc2), .second, .val (.long wc3), .second, .val (.long wx), .second, .val (.ref b1), .val (.ref b29), .val (.ref b67), .unset, .unset, .unset, .unset, .unset, .unset, .unset, .unset, .unset, .unset, .unset, .unset] [(.double (FP.dadd (FP.l2d wc1) (FP.dmul (FP.ddiv (FP.dsub (FP.l2d wx) (FP.l2d wv1)) (FP.dsub (FP.l2d wv2) (FP.l2d wv1))) (FP.dsub (FP.l2d wc2) (FP.l2d wc1)))))])) st102 ?_
          refine own_st (T' := T102) (g' := (mkF m 274 #[.val (.int p0), .val (.int p1), .val (.int p2), .val (.int p3), .val (.int p4), .val (.int p5), .val (.long wl1), .second, .val (.long wl2), .second, .val (.long wl3), .second, .val (.long wv1), .second, .val (.long wv2), .second, .val (.long wv3), .second, .val (.long wc0), .second, .val (.long wc1), .second, .val (.long wc2), .second, .val (.long wc3), .second, .val (.long wx), .second, .val (.ref b1), .val (.ref b29), .val (.ref b67), .val (.double (FP.dadd (FP.l2d wc1) (FP.dmul (FP.ddiv (FP.dsub (FP.l2d wx) (FP.l2d wv1)) (FP.dsub (FP.l2d wv2) (FP.l2d wv1))) (FP.dsub (FP.l2d wc2) (FP.l2d wc1))))), .second, .val (.long wv1), .second, .val (.long wl2), .second, .val (.long wc1), .second, .val (.long wc2), .second, .val (.long ((wc1 * wl2) + ((wx - wv1) * (wc2 - wc1)))), .second] [(.int (1 : Int32))])) (fun t k => ?_) ?_
          · show Steps p.tables e below (T102.setTop (mkF m 166 #[.val (.int p0), .val (.int p1), .val (.int p2), .val (.int p3), .val (.int p4), .val (.int p5), .val (.long wl1), .second, .val (.long wl2), .second, .val (.long wl3), .second, .val (.long wv1), .second, .val (.long wv2), .second, .val (.long wv3), .second, .val (.long wc0), .second, .val (.long wc1), .second, .val (.long wc2), .second, .val (.long wc3), .second, .val (.long wx), .second, .val (.ref b1), .val (.ref b29), .val (.ref b67), .unset, .unset, .unset, .unset, .unset, .unset, .unset, .unset, .unset, .unset, .unset, .unset] [(.double (FP.dadd (FP.l2d wc1) (FP.dmul (FP.ddiv (FP.dsub (FP.l2d wx) (FP.l2d wv1)) (FP.dsub (FP.l2d wv2) (FP.l2d wv1))) (FP.dsub (FP.l2d wc2) (FP.l2d wc1)))))])) t
            refine XS.dstore X102.here hx rfl (hb hby at_166) rfl (l' := #[.val (.int p0), .val (.int p1), .val (.int p2), .val (.int p3), .val (.int p4), .val (.int p5), .val (.long wl1), .second, .val (.long wl2), .second, .val (.long wl3), .second, .val (.long wv1), .second, .val (.long wv2), .second, .val (.long wv3), .second, .val (.long wc0), .second, .val (.long wc1), .second, .val (.long wc2), .second, .val (.long wc3), .second, .val (.long wx), .second, .val (.ref b1), .val (.ref b29), .val (.ref b67), .val (.double (FP.dadd (FP.l2d wc1) (FP.dmul (FP.ddiv (FP.dsub (FP.l2d wx) (FP.l2d wv1)) (FP.dsub (FP.l2d wv2) (FP.l2d wv1))) (FP.dsub (FP.l2d wc2) (FP.l2d wc1))))), .second, .unset, .unset, .unset, .unset, .unset, .unset, .unset, .unset, .unset, .unset]) rfl ?_
            refine XS.lload X102.here hx rfl (hb hby at_168) rfl ?_
            refine XS.lload X102.here hx rfl (hb hby at_170) rfl ?_
            refine XS.lcmp X102.here hx rfl (hb hby at_172) rfl ?_
            refine XS.ifYes X102.here hx rfl (pc0 := 173) (pc' := 194) rfl (hb hby at_173) rfl ((if0 _ _).trans (flt (fun q => (hc163_92 : ¬ (wx < wv1)) ((lw_lt wx wv1).mp q))).2.1) (by decide) (by decide) ?_
            refine XS.lload X102.here hx rfl (hb hby at_194) rfl ?_
            refine XS.lload X102.here hx rfl (hb hby at_196) rfl ?_
            refine XS.lcmp X102.here hx rfl (hb hby at_198) rfl ?_
            show Steps p.tables e below (T102.setTop (mkF m 199 #[.val (.int p0), .val (.int p1), .val (.int p2), .val (.int p3), .val (.int p4), .val (.int p5), .val (.long wl1), .second, .val (.long wl2), .second, .val (.long wl3), .second, .val (.long wv1), .second, .val (.long wv2), .second, .val (.long wv3), .second, .val (.long wc0), .second, .val (.long wc1), .second, .val (.long wc2), .second, .val (.long wc3), .second, .val (.long wx), .second, .val (.ref b1), .val (.ref b29), .val (.ref b67), .val (.double (FP.dadd (FP.l2d wc1) (FP.dmul (FP.ddiv (FP.dsub (FP.l2d wx) (FP.l2d wv1)) (FP.dsub (FP.l2d wv2) (FP.l2d wv1))) (FP.dsub (FP.l2d wc2) (FP.l2d wc1))))), .second, .unset, .unset, .unset, .unset, .unset, .unset, .unset, .unset, .unset, .unset] [(.int (lcmpW wx wv2))])) t
            refine XS.ifNo X102.here hx rfl (hb hby at_199) rfl ((if0 _ _).trans (tlt ((lw_lt wx wv2).mpr (hc163_98 : wx < wv2))).2.1) ?_
            refine XS.lload X102.here hx rfl (hb hby at_202) rfl ?_
            refine XS.lstore X102.here hx rfl (hb hby at_204) rfl (l' := #[.val (.int p0), .val (.int p1), .val (.int p2), .val (.int p3), .val (.int p4), .val (.int p5), .val (.long wl1), .second, .val (.long wl2), .second, .val (.long wl3), .second, .val (.long wv1), .second, .val (.long wv2), .second, .val (.long wv3), .second, .val (.long wc0), .second, .val (.long wc1), .second, .val (.long wc2), .second, .val (.long wc3), .second, .val (.long wx), .second, .val (.ref b1), .val (.ref b29), .val (.ref b67), .val (.double (FP.dadd (FP.l2d wc1) (FP.dmul (FP.ddiv (FP.dsub (FP.l2d wx) (FP.l2d wv1)) (FP.dsub (FP.l2d wv2) (FP.l2d wv1))) (FP.dsub (FP.l2d wc2) (FP.l2d wc1))))), .second, .val (.long wv1), .second, .unset, .unset, .unset, .unset, .unset, .unset, .unset, .unset]) rfl ?_
            refine XS.lload X102.here hx rfl (hb hby at_206) rfl ?_
            refine XS.lstore X102.here hx rfl (hb hby at_208) rfl (l' := #[.val (.int p0), .val (.int p1), .val (.int p2), .val (.int p3), .val (.int p4), .val (.int p5), .val (.long wl1), .second, .val (.long wl2), .second, .val (.long wl3), .second, .val (.long wv1), .second, .val (.long wv2), .second, .val (.long wv3), .second, .val (.long wc0), .second, .val (.long wc1), .second, .val (.long wc2), .second, .val (.long wc3), .second, .val (.long wx), .second, .val (.ref b1), .val (.ref b29), .val (.ref b67), .val (.double (FP.dadd (FP.l2d wc1) (FP.dmul (FP.ddiv (FP.dsub (FP.l2d wx) (FP.l2d wv1)) (FP.dsub (FP.l2d wv2) (FP.l2d wv1))) (FP.dsub (FP.l2d wc2) (FP.l2d wc1))))), .second, .val (.long wv1), .second, .val (.long wl2), .second, .unset, .unset, .unset, .unset, .unset, .unset]) rfl ?_
            refine XS.lload X102.here hx rfl (hb hby at_210) rfl ?_
            refine XS.lstore X102.here hx rfl (hb hby at_212) rfl (l' := #[.val (.int p0), .val (.int p1), .val (.int p2), .val (.int p3), .val (.int p4), .val (.int p5), .val (.long wl1), .second, .val (.long wl2), .second, .val (.long wl3), .second, .val (.long wv1), .second, .val (.long wv2), .second, .val (.long wv3), .second, .val (.long wc0), .second, .val (.long wc1), .second, .val (.long wc2), .second, .val (.long wc3), .second, .val (.long wx), .second, .val (.ref b1), .val (.ref b29), .val (.ref b67), .val (.double (FP.dadd (FP.l2d wc1) (FP.dmul (FP.ddiv (FP.dsub (FP.l2d wx) (FP.l2d wv1)) (FP.dsub (FP.l2d wv2) (FP.l2d wv1))) (FP.dsub (FP.l2d wc2) (FP.l2d wc1))))), .second, .val (.long wv1), .second, .val (.long wl2), .second, .val (.long wc1), .second, .unset, .unset, .unset, .unset]) rfl ?_
            refine XS.lload X102.here hx rfl (hb hby at_214) rfl ?_
            show Steps p.tables e below (T102.setTop (mkF m 216 #[.val (.int p0), .val (.int p1), .val (.int p2), .val (.int p3), .val (.int p4), .val (.int p5), .val (.long wl1), .second, .val (.long wl2), .second, .val (.long wl3), .second, .val (.long wv1), .second, .val (.long wv2), .second, .val (.long wv3), .second, .val (.long wc0), .second, .val (.long wc1), .second, .val (.long wc2), .second, .val (.long wc3), .second, .val (.long wx), .second, .val (.ref b1), .val (.ref b29), .val (.ref b67), .val (.double (FP.dadd (FP.l2d wc1) (FP.dmul (FP.ddiv (FP.dsub (FP.l2d wx) (FP.l2d wv1)) (FP.dsub (FP.l2d wv2) (FP.l2d wv1))) (FP.dsub (FP.l2d wc2) (FP.l2d wc1))))), .second, .val (.long wv1), .second, .val (.long wl2), .second, .val (.long wc1), .second, .unset, .unset, .unset, .unset] [(.long wc2)])) t
            refine XS.lstore X102.here hx rfl (hb hby at_216) rfl (l' := #[.val (.int p0), .val (.int p1), .val (.int p2), .val (.int p3), .val (.int p4), .val (.int p5), .val (.long wl1), .second, .val (.long wl2), .second, .val (.long wl3), .second, .val (.long wv1), .second, .val (.long wv2), .second, .val (.long wv3), .second, .val (.long wc0), .second, .val (.long wc1), .second, .val (.long wc2), .second, .val (.long wc3), .second, .val (.long wx), .second, .val (.ref b1), .val (.ref b29), .val (.ref b67), .val (.double (FP.dadd (FP.l2d wc1) (FP.dmul (FP.ddiv (FP.dsub (FP.l2d wx) (FP.l2d wv1)) (FP.dsub (FP.l2d wv2) (FP.l2d wv1))) (FP.dsub (FP.l2d wc2) (FP.l2d wc1))))), .second, .val (.long wv1), .second, .val (.long wl2), .second, .val (.long wc1), .second, .val (.long wc2), .second, .unset, .unset]) rfl ?_
            refine XS.goto X102.here hx rfl (pc0 := 218) (pc' := 237) rfl (hb hby at_218) (by decide) (by decide) ?_
            refine XS.lload X102.here hx rfl (hb hby at_237) rfl ?_
            refine XS.lload X102.here hx rfl (hb hby at_239) rfl ?_
            refine XS.lmul X102.here hx rfl (hb hby at_241) rfl ?_
            refine XS.lload X102.here hx rfl (hb hby at_242) rfl ?_
            refine XS.lload X102.here hx rfl (hb hby at_244) rfl ?_
            refine XS.lsub X102.here hx rfl (hb hby at_246) rfl ?_
            show Steps p.tables e below (T102.setTop (mkF m 247 #[.val (.int p0), .val (.int p1), .val (.int p2), .val (.int p3), .val (.int p4), .val (.int p5), .val (.long wl1), .second, .val (.long wl2), .second, .val (.long wl3), .second, .val (.long wv1), .second, .val (.long wv2), .second, .val (.long wv3), .second, .val (.long wc0), .second, .val (.long wc1), .second, .val (.long wc2), .second, .val (.long wc3), .second, .val (.long wx), .second, .val (.ref b1), .val (.ref b29), .val (.ref b67), .val (.double (FP.dadd (FP.l2d wc1) (FP.dmul (FP.ddiv (FP.dsub (FP.l2d wx) (FP.l2d wv1)) (FP.dsub (FP.l2d wv2) (FP.l2d wv1))) (FP.dsub (FP.l2d wc2) (FP.l2d wc1))))), .second, .val (.long wv1), .second, .val (.long wl2), .second, .val (.long wc1), .second, .val (.long wc2), .second, .unset, .unset] [(.long (wx - wv1)), (.long (wc1 * wl2))])) t
            refine XS.lload X102.here hx rfl (hb hby at_247) rfl ?_
            refine XS.lload X102.here hx rfl (hb hby at_249) rfl ?_
            refine XS.lsub X102.here hx rfl (hb hby at_251) rfl ?_
            refine XS.lmul X102.here hx rfl (hb hby at_252) rfl ?_
            refine XS.ladd X102.here hx rfl (hb hby at_253) rfl ?_
            refine XS.lstore X102.here hx rfl (hb hby at_254) rfl (l' := #[.val (.int p0), .val (.int p1), .val (.int p2), .val (.int p3), .val (.int p4), .val (.int p5), .val (.long wl1), .second, .val (.long wl2), .second, .val (.long wl3), .second, .val (.long wv1), .second, .val (.long wv2), .second, .val (.long wv3), .second, .val (.long wc0), .second, .val (.long wc1), .second, .val (.long wc2), .second, .val (.long wc3), .second, .val (.long wx), .second, .val (.ref b1), .val (.ref b29), .val (.ref b67), .val (.double (FP.dadd (FP.l2d wc1) (FP.dmul (FP.ddiv (FP.dsub (FP.l2d wx) (FP.l2d wv1)) (FP.dsub (FP.l2d wv2) (FP.l2d wv1))) (FP.dsub (FP.l2d wc2) (FP.l2d wc1))))), .second, .val (.long wv1), .second, .val (.long wl2), .second, .val (.long wc1), .second, .val (.long wc2), .second, .val (.long ((wc1 * wl2) + ((wx - wv1) * (wc2 - wc1)))), .second]) rfl ?_
            refine XS.dload X102.here hx rfl (hb hby at_256) rfl ?_
            refine XS.lload X102.here hx rfl (hb hby at_258) rfl ?_
            show Steps p.tables e below (T102.setTop (mkF m 260 #[.val (.int p0), .val (.int p1), .val (.int p2), .val (.int p3), .val (.int p4), .val (.int p5), .val (.long wl1), .second, .val (.long wl2), .second, .val (.long wl3), .second, .val (.long wv1), .second, .val (.long wv2), .second, .val (.long wv3), .second, .val (.long wc0), .second, .val (.long wc1), .second, .val (.long wc2), .second, .val (.long wc3), .second, .val (.long wx), .second, .val (.ref b1), .val (.ref b29), .val (.ref b67), .val (.double (FP.dadd (FP.l2d wc1) (FP.dmul (FP.ddiv (FP.dsub (FP.l2d wx) (FP.l2d wv1)) (FP.dsub (FP.l2d wv2) (FP.l2d wv1))) (FP.dsub (FP.l2d wc2) (FP.l2d wc1))))), .second, .val (.long wv1), .second, .val (.long wl2), .second, .val (.long wc1), .second, .val (.long wc2), .second, .val (.long ((wc1 * wl2) + ((wx - wv1) * (wc2 - wc1)))), .second] [(.long wl2), (.double (FP.dadd (FP.l2d wc1) (FP.dmul (FP.ddiv (FP.dsub (FP.l2d wx) (FP.l2d wv1)) (FP.dsub (FP.l2d wv2) (FP.l2d wv1))) (FP.dsub (FP.l2d wc2) (FP.l2d wc1)))))])) t
            refine XS.l2dS X102.here hx rfl (hb hby at_260) rfl rfl ?_
            refine XS.dmulS X102.here hx rfl (hb hby at_261) rfl (hT.s2 (by omega)).2.2.2.1 rfl ?_
            refine XS.lload X102.here hx rfl (hb hby at_262) rfl ?_
            refine XS.l2dS X102.here hx rfl (hb hby at_264) rfl rfl ?_
            refine XS.dcmpS X102.here hx rfl (hb hby at_265) rfl (hT.s2 (by omega)).2.2.2.2 ?_
            refine XS.ifNo X102.here hx rfl (hb hby at_266) rfl (by decide) ?_
            refine XS.iconst X102.here hx rfl (hb hby at_269) ?_
            refine XS.goto X102.here hx rfl (pc0 := 270) (pc' := 274) rfl (hb hby at_270) (by decide) (by decide) ?_
            exact k
          refine own_retZ X102 hx hlk Bd.returns (hb hby at_274) rfl (by decide) (by decide) ?_
          show Q0 Z p0 p1 p2 p3 p4 p5 h0 n0 (some (.int (1 : Int32))) T102.heap _
          exact ⟨rfl, n103⟩
      · by_cases hc163_104 : wx = wv2
        · have hr := own_r_le hT hc163_92 hc163_98 hc163_104
          obtain ⟨cq105, kq105, qa105, qb105, qc105⟩ := isOf hZ (rfl : T76.heap = T76.heap) f77
          obtain ⟨_, _, ⟨T105, L105, k105, n105⟩, -, X105, ⟨Lc105, hQ105, l105, y105, z105⟩, st105⟩ := X76.virtualBack hx (y := (⟨"com/example/corewright/corewright/equilibrium/Strategy", "bid", "(D)D"⟩ : MethodName)) (z := (⟨"com/example/corewright/corewright/equilibrium/Strategy", "bid", "(D)D"⟩ : MethodName)) hown (mvT hZ (hw _ (List.mem_of_getElem? (i := 33) rfl))) (mvT hZ (hw _ (List.mem_of_getElem? (i := 34) rfl))) (notFace_of_selects (args := #[]) (mvT hZ (hw _ (List.mem_of_getElem? (i := 36) rfl)))) (mvT hZ (hw _ (List.mem_of_getElem? (i := 36) rfl))) (mvT hZ (hw _ (List.mem_of_getElem? (i := 35) rfl))) (by decide) (backOf (W := 0) (rmble l Z ar hw [] b67 ((FP.l2d wx)) x0_76 k1 ((0 : UInt64)) ((FP.l2d wv1)) ((FP.l2d wv2)) ((FP.l2d wv3)) x1_76 k29 ((FP.l2d wc0)) ((FP.l2d wc1)) ((FP.l2d wc2)) ((FP.l2d wc3)) T76.heap n0 z90 f77 f78 f80 f79 f82 (own_ltG hT.d1 hT.dx (by omega)) (own_nltG hT.d2 hT.dx (by omega)) (own_ngtL hT.d2 hT.dx (by omega)) (dcmpV_self ((Jvm.Free.Fl.Mag64.fin (Jvm.Free.Fl.l2d_mag wv2) (by decide)).noNaN) .l) (dcmpV_self ((Jvm.Free.Fl.Mag64.fin (Jvm.Free.Fl.l2d_mag wx) (by decide)).noNaN) .l) (congrArg (fun z => (FP.l2d z).toInt64) (Eq.symm hc163_104)) ((Jvm.Free.Fl.Mag64.fin (show Jvm.Free.Fl.Mag64 1090 (FP.dsub (FP.l2d wx) (FP.l2d wv2)) by have q := (Jvm.Free.Fl.dsub_mag (Jvm.Free.Fl.l2d_mag wx) (Jvm.Free.Fl.l2d_mag wv2) (by decide)); exact q) (by decide)).noNaN) ((Jvm.Free.Fl.Mag64.fin (show Jvm.Free.Fl.Mag64 1090 (FP.dsub (FP.l2d wv3) (FP.l2d wv2)) by have q := (Jvm.Free.Fl.dsub_mag (Jvm.Free.Fl.l2d_mag wv3) (Jvm.Free.Fl.l2d_mag wv2) (by decide)); exact q) (by decide)).noNaN) (hT.s3 (by omega)).1 ((Jvm.Free.Fl.Mag64.fin (show Jvm.Free.Fl.Mag64 1090 (FP.dsub (FP.l2d wc3) (FP.l2d wc2)) by have q := (Jvm.Free.Fl.dsub_mag (Jvm.Free.Fl.l2d_mag wc3) (Jvm.Free.Fl.l2d_mag wc2) (by decide)); exact q) (by decide)).noNaN) (hT.s3 (by omega)).2.1 (hT.s3 (by omega)).2.2.1) hZ (hw _ (List.mem_of_getElem? (i := 37) rfl)) (hw _ (List.mem_of_getElem? (i := 4) rfl)) (by decide) (by decide)) qa105 qc105 (g := (mkF m 163 #[.val (.int p0), .val (.int p1), .val (.int p2), .val (.int p3), .val (.int p4), .val (.int p5), .val (.long wl1), .second, .val (.long wl2), .second, .val (.long wl3), .second, .val (.long wv1), .second, .val (.long wv2), .second, .val (.long wv3), .second, .val (.long wc0), .second, .val (.long wc1), .second, .val (.long wc2), .second, .val (.long wc3), .second, .val (.long wx), .second, .val (.ref b1), .val (.ref b29), .val (.ref b67), .unset, .unset, .unset, .unset, .unset, .unset, .unset, .unset, .unset, .unset, .unset, .unset] [(.double (FP.l2d wx)), (.ref b67)])) rfl (by rw [hml]; rfl) (Steps.refl _) (argsL := [(.double (FP.l2d wx))]) (rest := []) (lenOf pd0_1 rfl) rfl (by show 2 * 0 + _ ≤ _; exact Nat.le_of_eq rfl) (hb hby at_163) (fun _ _ => ⟨rfl, (rfl : T76.heap = T76.heap), (by decide : 5 + 0 ≤ _), (by decide : 18 + 0 ≤ _)⟩)
          dsimp only [Pt.U, Pt.locs, Pt.cells, Pt.slots] at X105 l105 y105 z105 st105 hQ105
          subst l105 y105 z105
          obtain ⟨rfl, N105q, e105⟩ := hQ105
          have n106 := Fr.app n84 N105q
          refine own_tr (T' := T105) (g' := (mkF m 166 #[.val (.int p0), .val (.int p1), .val (.int p2), .val (.int p3), .val (.int p4), .val (.int p5), .val (.long wl1), .second, .val (.long wl2), .second, .val (.long wl3), .second, .val (.long wv1), .second, .val (.long wv2), .second, .val (.long wv3), .second, .val (.long wc0), .second, .val (.long wc1), .second, .val (.long wc2), .second, .val (.long wc3), .second, .val (.long wx), .second, .val (.ref b1), .val (.ref b29), .val (.ref b67), .unset, .unset, .unset, .unset, .unset, .unset, .unset, .unset, .unset, .unset, .unset, .unset] [(.double (FP.dadd (FP.l2d wc2) (FP.dmul (FP.ddiv (FP.dsub (FP.l2d wx) (FP.l2d wv2)) (FP.dsub (FP.l2d wv3) (FP.l2d wv2))) (FP.dsub (FP.l2d wc3) (FP.l2d wc2)))))])) st105 ?_
          refine own_st (T' := T105) (g' := (mkF m 274 #[.val (.int p0), .val (.int p1), .val (.int p2), .val (.int p3), .val (.int p4), .val (.int p5), .val (.long wl1), .second, .val (.long wl2), .second, .val (.long wl3), .second, .val (.long wv1), .second, .val (.long wv2), .second, .val (.long wv3), .second, .val (.long wc0), .second, .val (.long wc1), .second, .val (.long wc2), .second, .val (.long wc3), .second, .val (.long wx), .second, .val (.ref b1), .val (.ref b29), .val (.ref b67), .val (.double (FP.dadd (FP.l2d wc2) (FP.dmul (FP.ddiv (FP.dsub (FP.l2d wx) (FP.l2d wv2)) (FP.dsub (FP.l2d wv3) (FP.l2d wv2))) (FP.dsub (FP.l2d wc3) (FP.l2d wc2))))), .second, .val (.long wv2), .second, .val (.long wl3), .second, .val (.long wc2), .second, .val (.long wc3), .second, .val (.long ((wc2 * wl3) + ((wx - wv2) * (wc3 - wc2)))), .second] [(.int (1 : Int32))])) (fun t k => ?_) ?_
          · show Steps p.tables e below (T105.setTop (mkF m 166 #[.val (.int p0), .val (.int p1), .val (.int p2), .val (.int p3), .val (.int p4), .val (.int p5), .val (.long wl1), .second, .val (.long wl2), .second, .val (.long wl3), .second, .val (.long wv1), .second, .val (.long wv2), .second, .val (.long wv3), .second, .val (.long wc0), .second, .val (.long wc1), .second, .val (.long wc2), .second, .val (.long wc3), .second, .val (.long wx), .second, .val (.ref b1), .val (.ref b29), .val (.ref b67), .unset, .unset, .unset, .unset, .unset, .unset, .unset, .unset, .unset, .unset, .unset, .unset] [(.double (FP.dadd (FP.l2d wc2) (FP.dmul (FP.ddiv (FP.dsub (FP.l2d wx) (FP.l2d wv2)) (FP.dsub (FP.l2d wv3) (FP.l2d wv2))) (FP.dsub (FP.l2d wc3) (FP.l2d wc2)))))])) t
            refine XS.dstore X105.here hx rfl (hb hby at_166) rfl (l' := #[.val (.int p0), .val (.int p1), .val (.int p2), .val (.int p3), .val (.int p4), .val (.int p5), .val (.long wl1), .second, .val (.long wl2), .second, .val (.long wl3), .second, .val (.long wv1), .second, .val (.long wv2), .second, .val (.long wv3), .second, .val (.long wc0), .second, .val (.long wc1), .second, .val (.long wc2), .second, .val (.long wc3), .second, .val (.long wx), .second, .val (.ref b1), .val (.ref b29), .val (.ref b67), .val (.double (FP.dadd (FP.l2d wc2) (FP.dmul (FP.ddiv (FP.dsub (FP.l2d wx) (FP.l2d wv2)) (FP.dsub (FP.l2d wv3) (FP.l2d wv2))) (FP.dsub (FP.l2d wc3) (FP.l2d wc2))))), .second, .unset, .unset, .unset, .unset, .unset, .unset, .unset, .unset, .unset, .unset]) rfl ?_
            refine XS.lload X105.here hx rfl (hb hby at_168) rfl ?_
            refine XS.lload X105.here hx rfl (hb hby at_170) rfl ?_
            refine XS.lcmp X105.here hx rfl (hb hby at_172) rfl ?_
            refine XS.ifYes X105.here hx rfl (pc0 := 173) (pc' := 194) rfl (hb hby at_173) rfl ((if0 _ _).trans (flt (fun q => (hc163_92 : ¬ (wx < wv1)) ((lw_lt wx wv1).mp q))).2.1) (by decide) (by decide) ?_
            refine XS.lload X105.here hx rfl (hb hby at_194) rfl ?_
            refine XS.lload X105.here hx rfl (hb hby at_196) rfl ?_
            refine XS.lcmp X105.here hx rfl (hb hby at_198) rfl ?_
            show Steps p.tables e below (T105.setTop (mkF m 199 #[.val (.int p0), .val (.int p1), .val (.int p2), .val (.int p3), .val (.int p4), .val (.int p5), .val (.long wl1), .second, .val (.long wl2), .second, .val (.long wl3), .second, .val (.long wv1), .second, .val (.long wv2), .second, .val (.long wv3), .second, .val (.long wc0), .second, .val (.long wc1), .second, .val (.long wc2), .second, .val (.long wc3), .second, .val (.long wx), .second, .val (.ref b1), .val (.ref b29), .val (.ref b67), .val (.double (FP.dadd (FP.l2d wc2) (FP.dmul (FP.ddiv (FP.dsub (FP.l2d wx) (FP.l2d wv2)) (FP.dsub (FP.l2d wv3) (FP.l2d wv2))) (FP.dsub (FP.l2d wc3) (FP.l2d wc2))))), .second, .unset, .unset, .unset, .unset, .unset, .unset, .unset, .unset, .unset, .unset] [(.int (lcmpW wx wv2))])) t
            refine XS.ifYes X105.here hx rfl (pc0 := 199) (pc' := 221) rfl (hb hby at_199) rfl ((if0 _ _).trans (flt (fun q => (hc163_98 : ¬ (wx < wv2)) ((lw_lt wx wv2).mp q))).2.1) (by decide) (by decide) ?_
            refine XS.lload X105.here hx rfl (hb hby at_221) rfl ?_
            refine XS.lstore X105.here hx rfl (hb hby at_223) rfl (l' := #[.val (.int p0), .val (.int p1), .val (.int p2), .val (.int p3), .val (.int p4), .val (.int p5), .val (.long wl1), .second, .val (.long wl2), .second, .val (.long wl3), .second, .val (.long wv1), .second, .val (.long wv2), .second, .val (.long wv3), .second, .val (.long wc0), .second, .val (.long wc1), .second, .val (.long wc2), .second, .val (.long wc3), .second, .val (.long wx), .second, .val (.ref b1), .val (.ref b29), .val (.ref b67), .val (.double (FP.dadd (FP.l2d wc2) (FP.dmul (FP.ddiv (FP.dsub (FP.l2d wx) (FP.l2d wv2)) (FP.dsub (FP.l2d wv3) (FP.l2d wv2))) (FP.dsub (FP.l2d wc3) (FP.l2d wc2))))), .second, .val (.long wv2), .second, .unset, .unset, .unset, .unset, .unset, .unset, .unset, .unset]) rfl ?_
            refine XS.lload X105.here hx rfl (hb hby at_225) rfl ?_
            refine XS.lstore X105.here hx rfl (hb hby at_227) rfl (l' := #[.val (.int p0), .val (.int p1), .val (.int p2), .val (.int p3), .val (.int p4), .val (.int p5), .val (.long wl1), .second, .val (.long wl2), .second, .val (.long wl3), .second, .val (.long wv1), .second, .val (.long wv2), .second, .val (.long wv3), .second, .val (.long wc0), .second, .val (.long wc1), .second, .val (.long wc2), .second, .val (.long wc3), .second, .val (.long wx), .second, .val (.ref b1), .val (.ref b29), .val (.ref b67), .val (.double (FP.dadd (FP.l2d wc2) (FP.dmul (FP.ddiv (FP.dsub (FP.l2d wx) (FP.l2d wv2)) (FP.dsub (FP.l2d wv3) (FP.l2d wv2))) (FP.dsub (FP.l2d wc3) (FP.l2d wc2))))), .second, .val (.long wv2), .second, .val (.long wl3), .second, .unset, .unset, .unset, .unset, .unset, .unset]) rfl ?_
            refine XS.lload X105.here hx rfl (hb hby at_229) rfl ?_
            refine XS.lstore X105.here hx rfl (hb hby at_231) rfl (l' := #[.val (.int p0), .val (.int p1), .val (.int p2), .val (.int p3), .val (.int p4), .val (.int p5), .val (.long wl1), .second, .val (.long wl2), .second, .val (.long wl3), .second, .val (.long wv1), .second, .val (.long wv2), .second, .val (.long wv3), .second, .val (.long wc0), .second, .val (.long wc1), .second, .val (.long wc2), .second, .val (.long wc3), .second, .val (.long wx), .second, .val (.ref b1), .val (.ref b29), .val (.ref b67), .val (.double (FP.dadd (FP.l2d wc2) (FP.dmul (FP.ddiv (FP.dsub (FP.l2d wx) (FP.l2d wv2)) (FP.dsub (FP.l2d wv3) (FP.l2d wv2))) (FP.dsub (FP.l2d wc3) (FP.l2d wc2))))), .second, .val (.long wv2), .second, .val (.long wl3), .second, .val (.long wc2), .second, .unset, .unset, .unset, .unset]) rfl ?_
            refine XS.lload X105.here hx rfl (hb hby at_233) rfl ?_
            show Steps p.tables e below (T105.setTop (mkF m 235 #[.val (.int p0), .val (.int p1), .val (.int p2), .val (.int p3), .val (.int p4), .val (.int p5), .val (.long wl1), .second, .val (.long wl2), .second, .val (.long wl3), .second, .val (.long wv1), .second, .val (.long wv2), .second, .val (.long wv3), .second, .val (.long wc0), .second, .val (.long wc1), .second, .val (.long wc2), .second, .val (.long wc3), .second, .val (.long wx), .second, .val (.ref b1), .val (.ref b29), .val (.ref b67), .val (.double (FP.dadd (FP.l2d wc2) (FP.dmul (FP.ddiv (FP.dsub (FP.l2d wx) (FP.l2d wv2)) (FP.dsub (FP.l2d wv3) (FP.l2d wv2))) (FP.dsub (FP.l2d wc3) (FP.l2d wc2))))), .second, .val (.long wv2), .second, .val (.long wl3), .second, .val (.long wc2), .second, .unset, .unset, .unset, .unset] [(.long wc3)])) t
            refine XS.lstore X105.here hx rfl (hb hby at_235) rfl (l' := #[.val (.int p0), .val (.int p1), .val (.int p2), .val (.int p3), .val (.int p4), .val (.int p5), .val (.long wl1), .second, .val (.long wl2), .second, .val (.long wl3), .second, .val (.long wv1), .second, .val (.long wv2), .second, .val (.long wv3), .second, .val (.long wc0), .second, .val (.long wc1), .second, .val (.long wc2), .second, .val (.long wc3), .second, .val (.long wx), .second, .val (.ref b1), .val (.ref b29), .val (.ref b67), .val (.double (FP.dadd (FP.l2d wc2) (FP.dmul (FP.ddiv (FP.dsub (FP.l2d wx) (FP.l2d wv2)) (FP.dsub (FP.l2d wv3) (FP.l2d wv2))) (FP.dsub (FP.l2d wc3) (FP.l2d wc2))))), .second, .val (.long wv2), .second, .val (.long wl3), .second, .val (.long wc2), .second, .val (.long wc3), .second, .unset, .unset]) rfl ?_
            refine XS.lload X105.here hx rfl (hb hby at_237) rfl ?_
            refine XS.lload X105.here hx rfl (hb hby at_239) rfl ?_
            refine XS.lmul X105.here hx rfl (hb hby at_241) rfl ?_
            refine XS.lload X105.here hx rfl (hb hby at_242) rfl ?_
            refine XS.lload X105.here hx rfl (hb hby at_244) rfl ?_
            refine XS.lsub X105.here hx rfl (hb hby at_246) rfl ?_
            refine XS.lload X105.here hx rfl (hb hby at_247) rfl ?_
            show Steps p.tables e below (T105.setTop (mkF m 249 #[.val (.int p0), .val (.int p1), .val (.int p2), .val (.int p3), .val (.int p4), .val (.int p5), .val (.long wl1), .second, .val (.long wl2), .second, .val (.long wl3), .second, .val (.long wv1), .second, .val (.long wv2), .second, .val (.long wv3), .second, .val (.long wc0), .second, .val (.long wc1), .second, .val (.long wc2), .second, .val (.long wc3), .second, .val (.long wx), .second, .val (.ref b1), .val (.ref b29), .val (.ref b67), .val (.double (FP.dadd (FP.l2d wc2) (FP.dmul (FP.ddiv (FP.dsub (FP.l2d wx) (FP.l2d wv2)) (FP.dsub (FP.l2d wv3) (FP.l2d wv2))) (FP.dsub (FP.l2d wc3) (FP.l2d wc2))))), .second, .val (.long wv2), .second, .val (.long wl3), .second, .val (.long wc2), .second, .val (.long wc3), .second, .unset, .unset] [(.long wc3), (.long (wx - wv2)), (.long (wc2 * wl3))])) t
            refine XS.lload X105.here hx rfl (hb hby at_249) rfl ?_
            refine XS.lsub X105.here hx rfl (hb hby at_251) rfl ?_
            refine XS.lmul X105.here hx rfl (hb hby at_252) rfl ?_
            refine XS.ladd X105.here hx rfl (hb hby at_253) rfl ?_
            refine XS.lstore X105.here hx rfl (hb hby at_254) rfl (l' := #[.val (.int p0), .val (.int p1), .val (.int p2), .val (.int p3), .val (.int p4), .val (.int p5), .val (.long wl1), .second, .val (.long wl2), .second, .val (.long wl3), .second, .val (.long wv1), .second, .val (.long wv2), .second, .val (.long wv3), .second, .val (.long wc0), .second, .val (.long wc1), .second, .val (.long wc2), .second, .val (.long wc3), .second, .val (.long wx), .second, .val (.ref b1), .val (.ref b29), .val (.ref b67), .val (.double (FP.dadd (FP.l2d wc2) (FP.dmul (FP.ddiv (FP.dsub (FP.l2d wx) (FP.l2d wv2)) (FP.dsub (FP.l2d wv3) (FP.l2d wv2))) (FP.dsub (FP.l2d wc3) (FP.l2d wc2))))), .second, .val (.long wv2), .second, .val (.long wl3), .second, .val (.long wc2), .second, .val (.long wc3), .second, .val (.long ((wc2 * wl3) + ((wx - wv2) * (wc3 - wc2)))), .second]) rfl ?_
            refine XS.dload X105.here hx rfl (hb hby at_256) rfl ?_
            refine XS.lload X105.here hx rfl (hb hby at_258) rfl ?_
            refine XS.l2dS X105.here hx rfl (hb hby at_260) rfl rfl ?_
            show Steps p.tables e below (T105.setTop (mkF m 261 #[.val (.int p0), .val (.int p1), .val (.int p2), .val (.int p3), .val (.int p4), .val (.int p5), .val (.long wl1), .second, .val (.long wl2), .second, .val (.long wl3), .second, .val (.long wv1), .second, .val (.long wv2), .second, .val (.long wv3), .second, .val (.long wc0), .second, .val (.long wc1), .second, .val (.long wc2), .second, .val (.long wc3), .second, .val (.long wx), .second, .val (.ref b1), .val (.ref b29), .val (.ref b67), .val (.double (FP.dadd (FP.l2d wc2) (FP.dmul (FP.ddiv (FP.dsub (FP.l2d wx) (FP.l2d wv2)) (FP.dsub (FP.l2d wv3) (FP.l2d wv2))) (FP.dsub (FP.l2d wc3) (FP.l2d wc2))))), .second, .val (.long wv2), .second, .val (.long wl3), .second, .val (.long wc2), .second, .val (.long wc3), .second, .val (.long ((wc2 * wl3) + ((wx - wv2) * (wc3 - wc2)))), .second] [(.double (FP.l2d wl3)), (.double (FP.dadd (FP.l2d wc2) (FP.dmul (FP.ddiv (FP.dsub (FP.l2d wx) (FP.l2d wv2)) (FP.dsub (FP.l2d wv3) (FP.l2d wv2))) (FP.dsub (FP.l2d wc3) (FP.l2d wc2)))))])) t
            refine XS.dmulS X105.here hx rfl (hb hby at_261) rfl (hT.s3 (by omega)).2.2.2.1 rfl ?_
            refine XS.lload X105.here hx rfl (hb hby at_262) rfl ?_
            refine XS.l2dS X105.here hx rfl (hb hby at_264) rfl rfl ?_
            refine XS.dcmpS X105.here hx rfl (hb hby at_265) rfl (hT.s3 (by omega)).2.2.2.2 ?_
            refine XS.ifNo X105.here hx rfl (hb hby at_266) rfl (by decide) ?_
            refine XS.iconst X105.here hx rfl (hb hby at_269) ?_
            refine XS.goto X105.here hx rfl (pc0 := 270) (pc' := 274) rfl (hb hby at_270) (by decide) (by decide) ?_
            exact k
          refine own_retZ X105 hx hlk Bd.returns (hb hby at_274) rfl (by decide) (by decide) ?_
          show Q0 Z p0 p1 p2 p3 p4 p5 h0 n0 (some (.int (1 : Int32))) T105.heap _
          exact ⟨rfl, n106⟩
        · by_cases hc163_107 : wx = wv3
          · have hr := own_r_lle hT hc163_92 hc163_98 hc163_104 hc163_107
            obtain ⟨cq108, kq108, qa108, qb108, qc108⟩ := isOf hZ (rfl : T76.heap = T76.heap) f77
            obtain ⟨_, _, ⟨T108, L108, k108, n108⟩, -, X108, ⟨Lc108, hQ108, l108, y108, z108⟩, st108⟩ := X76.virtualBack hx (y := (⟨"com/example/corewright/corewright/equilibrium/Strategy", "bid", "(D)D"⟩ : MethodName)) (z := (⟨"com/example/corewright/corewright/equilibrium/Strategy", "bid", "(D)D"⟩ : MethodName)) hown (mvT hZ (hw _ (List.mem_of_getElem? (i := 33) rfl))) (mvT hZ (hw _ (List.mem_of_getElem? (i := 34) rfl))) (notFace_of_selects (args := #[]) (mvT hZ (hw _ (List.mem_of_getElem? (i := 36) rfl)))) (mvT hZ (hw _ (List.mem_of_getElem? (i := 36) rfl))) (mvT hZ (hw _ (List.mem_of_getElem? (i := 35) rfl))) (by decide) (backOf (W := 0) (rmblle l Z ar hw [] b67 ((FP.l2d wx)) x0_76 k1 ((0 : UInt64)) ((FP.l2d wv1)) ((FP.l2d wv2)) ((FP.l2d wv3)) x1_76 k29 ((FP.l2d wc0)) ((FP.l2d wc1)) ((FP.l2d wc2)) ((FP.l2d wc3)) T76.heap n0 z90 f77 f78 f80 f79 f82 (own_ltG hT.d1 hT.dx (by omega)) (own_ltG hT.d2 hT.dx (by omega)) (own_nltG hT.d3 hT.dx (by omega)) (own_ngtL hT.d3 hT.dx (by omega)) (dcmpV_self ((Jvm.Free.Fl.Mag64.fin (Jvm.Free.Fl.l2d_mag wv3) (by decide)).noNaN) .l) (dcmpV_self ((Jvm.Free.Fl.Mag64.fin (Jvm.Free.Fl.l2d_mag wx) (by decide)).noNaN) .l) (congrArg (fun z => (FP.l2d z).toInt64) (Eq.symm hc163_107)) ((Jvm.Free.Fl.Mag64.fin (show Jvm.Free.Fl.Mag64 1090 (FP.dsub (FP.l2d wx) (FP.l2d wv2)) by have q := (Jvm.Free.Fl.dsub_mag (Jvm.Free.Fl.l2d_mag wx) (Jvm.Free.Fl.l2d_mag wv2) (by decide)); exact q) (by decide)).noNaN) ((Jvm.Free.Fl.Mag64.fin (show Jvm.Free.Fl.Mag64 1090 (FP.dsub (FP.l2d wv3) (FP.l2d wv2)) by have q := (Jvm.Free.Fl.dsub_mag (Jvm.Free.Fl.l2d_mag wv3) (Jvm.Free.Fl.l2d_mag wv2) (by decide)); exact q) (by decide)).noNaN) (hT.s3 (by omega)).1 ((Jvm.Free.Fl.Mag64.fin (show Jvm.Free.Fl.Mag64 1090 (FP.dsub (FP.l2d wc3) (FP.l2d wc2)) by have q := (Jvm.Free.Fl.dsub_mag (Jvm.Free.Fl.l2d_mag wc3) (Jvm.Free.Fl.l2d_mag wc2) (by decide)); exact q) (by decide)).noNaN) (hT.s3 (by omega)).2.1 (hT.s3 (by omega)).2.2.1) hZ (hw _ (List.mem_of_getElem? (i := 37) rfl)) (hw _ (List.mem_of_getElem? (i := 4) rfl)) (by decide) (by decide)) qa108 qc108 (g := (mkF m 163 #[.val (.int p0), .val (.int p1), .val (.int p2), .val (.int p3), .val (.int p4), .val (.int p5), .val (.long wl1), .second, .val (.long wl2), .second, .val (.long wl3), .second, .val (.long wv1), .second, .val (.long wv2), .second, .val (.long wv3), .second, .val (.long wc0), .second, .val (.long wc1), .second, .val (.long wc2), .second, .val (.long wc3), .second, .val (.long wx), .second, .val (.ref b1), .val (.ref b29), .val (.ref b67), .unset, .unset, .unset, .unset, .unset, .unset, .unset, .unset, .unset, .unset, .unset, .unset] [(.double (FP.l2d wx)), (.ref b67)])) rfl (by rw [hml]; rfl) (Steps.refl _) (argsL := [(.double (FP.l2d wx))]) (rest := []) (lenOf pd0_1 rfl) rfl (by show 2 * 0 + _ ≤ _; exact Nat.le_of_eq rfl) (hb hby at_163) (fun _ _ => ⟨rfl, (rfl : T76.heap = T76.heap), (by decide : 5 + 0 ≤ _), (by decide : 18 + 0 ≤ _)⟩)
            dsimp only [Pt.U, Pt.locs, Pt.cells, Pt.slots] at X108 l108 y108 z108 st108 hQ108
            subst l108 y108 z108
            obtain ⟨rfl, N108q, e108⟩ := hQ108
            have n109 := Fr.app n84 N108q
            refine own_tr (T' := T108) (g' := (mkF m 166 #[.val (.int p0), .val (.int p1), .val (.int p2), .val (.int p3), .val (.int p4), .val (.int p5), .val (.long wl1), .second, .val (.long wl2), .second, .val (.long wl3), .second, .val (.long wv1), .second, .val (.long wv2), .second, .val (.long wv3), .second, .val (.long wc0), .second, .val (.long wc1), .second, .val (.long wc2), .second, .val (.long wc3), .second, .val (.long wx), .second, .val (.ref b1), .val (.ref b29), .val (.ref b67), .unset, .unset, .unset, .unset, .unset, .unset, .unset, .unset, .unset, .unset, .unset, .unset] [(.double (FP.dadd (FP.l2d wc2) (FP.dmul (FP.ddiv (FP.dsub (FP.l2d wx) (FP.l2d wv2)) (FP.dsub (FP.l2d wv3) (FP.l2d wv2))) (FP.dsub (FP.l2d wc3) (FP.l2d wc2)))))])) st108 ?_
            refine own_st (T' := T108) (g' := (mkF m 274 #[.val (.int p0), .val (.int p1), .val (.int p2), .val (.int p3), .val (.int p4), .val (.int p5), .val (.long wl1), .second, .val (.long wl2), .second, .val (.long wl3), .second, .val (.long wv1), .second, .val (.long wv2), .second, .val (.long wv3), .second, .val (.long wc0), .second, .val (.long wc1), .second, .val (.long wc2), .second, .val (.long wc3), .second, .val (.long wx), .second, .val (.ref b1), .val (.ref b29), .val (.ref b67), .val (.double (FP.dadd (FP.l2d wc2) (FP.dmul (FP.ddiv (FP.dsub (FP.l2d wx) (FP.l2d wv2)) (FP.dsub (FP.l2d wv3) (FP.l2d wv2))) (FP.dsub (FP.l2d wc3) (FP.l2d wc2))))), .second, .val (.long wv2), .second, .val (.long wl3), .second, .val (.long wc2), .second, .val (.long wc3), .second, .val (.long ((wc2 * wl3) + ((wx - wv2) * (wc3 - wc2)))), .second] [(.int (1 : Int32))])) (fun t k => ?_) ?_
            · show Steps p.tables e below (T108.setTop (mkF m 166 #[.val (.int p0), .val (.int p1), .val (.int p2), .val (.int p3), .val (.int p4), .val (.int p5), .val (.long wl1), .second, .val (.long wl2), .second, .val (.long wl3), .second, .val (.long wv1), .second, .val (.long wv2), .second, .val (.long wv3), .second, .val (.long wc0), .second, .val (.long wc1), .second, .val (.long wc2), .second, .val (.long wc3), .second, .val (.long wx), .second, .val (.ref b1), .val (.ref b29), .val (.ref b67), .unset, .unset, .unset, .unset, .unset, .unset, .unset, .unset, .unset, .unset, .unset, .unset] [(.double (FP.dadd (FP.l2d wc2) (FP.dmul (FP.ddiv (FP.dsub (FP.l2d wx) (FP.l2d wv2)) (FP.dsub (FP.l2d wv3) (FP.l2d wv2))) (FP.dsub (FP.l2d wc3) (FP.l2d wc2)))))])) t
              refine XS.dstore X108.here hx rfl (hb hby at_166) rfl (l' := #[.val (.int p0), .val (.int p1), .val (.int p2), .val (.int p3), .val (.int p4), .val (.int p5), .val (.long wl1), .second, .val (.long wl2), .second, .val (.long wl3), .second, .val (.long wv1), .second, .val (.long wv2), .second, .val (.long wv3), .second, .val (.long wc0), .second, .val (.long wc1), .second, .val (.long wc2), .second, .val (.long wc3), .second, .val (.long wx), .second, .val (.ref b1), .val (.ref b29), .val (.ref b67), .val (.double (FP.dadd (FP.l2d wc2) (FP.dmul (FP.ddiv (FP.dsub (FP.l2d wx) (FP.l2d wv2)) (FP.dsub (FP.l2d wv3) (FP.l2d wv2))) (FP.dsub (FP.l2d wc3) (FP.l2d wc2))))), .second, .unset, .unset, .unset, .unset, .unset, .unset, .unset, .unset, .unset, .unset]) rfl ?_
              refine XS.lload X108.here hx rfl (hb hby at_168) rfl ?_
              refine XS.lload X108.here hx rfl (hb hby at_170) rfl ?_
              refine XS.lcmp X108.here hx rfl (hb hby at_172) rfl ?_
              refine XS.ifYes X108.here hx rfl (pc0 := 173) (pc' := 194) rfl (hb hby at_173) rfl ((if0 _ _).trans (flt (fun q => (hc163_92 : ¬ (wx < wv1)) ((lw_lt wx wv1).mp q))).2.1) (by decide) (by decide) ?_
              refine XS.lload X108.here hx rfl (hb hby at_194) rfl ?_
              refine XS.lload X108.here hx rfl (hb hby at_196) rfl ?_
              refine XS.lcmp X108.here hx rfl (hb hby at_198) rfl ?_
              show Steps p.tables e below (T108.setTop (mkF m 199 #[.val (.int p0), .val (.int p1), .val (.int p2), .val (.int p3), .val (.int p4), .val (.int p5), .val (.long wl1), .second, .val (.long wl2), .second, .val (.long wl3), .second, .val (.long wv1), .second, .val (.long wv2), .second, .val (.long wv3), .second, .val (.long wc0), .second, .val (.long wc1), .second, .val (.long wc2), .second, .val (.long wc3), .second, .val (.long wx), .second, .val (.ref b1), .val (.ref b29), .val (.ref b67), .val (.double (FP.dadd (FP.l2d wc2) (FP.dmul (FP.ddiv (FP.dsub (FP.l2d wx) (FP.l2d wv2)) (FP.dsub (FP.l2d wv3) (FP.l2d wv2))) (FP.dsub (FP.l2d wc3) (FP.l2d wc2))))), .second, .unset, .unset, .unset, .unset, .unset, .unset, .unset, .unset, .unset, .unset] [(.int (lcmpW wx wv2))])) t
              refine XS.ifYes X108.here hx rfl (pc0 := 199) (pc' := 221) rfl (hb hby at_199) rfl ((if0 _ _).trans (flt (fun q => (hc163_98 : ¬ (wx < wv2)) ((lw_lt wx wv2).mp q))).2.1) (by decide) (by decide) ?_
              refine XS.lload X108.here hx rfl (hb hby at_221) rfl ?_
              refine XS.lstore X108.here hx rfl (hb hby at_223) rfl (l' := #[.val (.int p0), .val (.int p1), .val (.int p2), .val (.int p3), .val (.int p4), .val (.int p5), .val (.long wl1), .second, .val (.long wl2), .second, .val (.long wl3), .second, .val (.long wv1), .second, .val (.long wv2), .second, .val (.long wv3), .second, .val (.long wc0), .second, .val (.long wc1), .second, .val (.long wc2), .second, .val (.long wc3), .second, .val (.long wx), .second, .val (.ref b1), .val (.ref b29), .val (.ref b67), .val (.double (FP.dadd (FP.l2d wc2) (FP.dmul (FP.ddiv (FP.dsub (FP.l2d wx) (FP.l2d wv2)) (FP.dsub (FP.l2d wv3) (FP.l2d wv2))) (FP.dsub (FP.l2d wc3) (FP.l2d wc2))))), .second, .val (.long wv2), .second, .unset, .unset, .unset, .unset, .unset, .unset, .unset, .unset]) rfl ?_
              refine XS.lload X108.here hx rfl (hb hby at_225) rfl ?_
              refine XS.lstore X108.here hx rfl (hb hby at_227) rfl (l' := #[.val (.int p0), .val (.int p1), .val (.int p2), .val (.int p3), .val (.int p4), .val (.int p5), .val (.long wl1), .second, .val (.long wl2), .second, .val (.long wl3), .second, .val (.long wv1), .second, .val (.long wv2), .second, .val (.long wv3), .second, .val (.long wc0), .second, .val (.long wc1), .second, .val (.long wc2), .second, .val (.long wc3), .second, .val (.long wx), .second, .val (.ref b1), .val (.ref b29), .val (.ref b67), .val (.double (FP.dadd (FP.l2d wc2) (FP.dmul (FP.ddiv (FP.dsub (FP.l2d wx) (FP.l2d wv2)) (FP.dsub (FP.l2d wv3) (FP.l2d wv2))) (FP.dsub (FP.l2d wc3) (FP.l2d wc2))))), .second, .val (.long wv2), .second, .val (.long wl3), .second, .unset, .unset, .unset, .unset, .unset, .unset]) rfl ?_
              refine XS.lload X108.here hx rfl (hb hby at_229) rfl ?_
              refine XS.lstore X108.here hx rfl (hb hby at_231) rfl (l' := #[.val (.int p0), .val (.int p1), .val (.int p2), .val (.int p3), .val (.int p4), .val (.int p5), .val (.long wl1), .second, .val (.long wl2), .second, .val (.long wl3), .second, .val (.long wv1), .second, .val (.long wv2), .second, .val (.long wv3), .second, .val (.long wc0), .second, .val (.long wc1), .second, .val (.long wc2), .second, .val (.long wc3), .second, .val (.long wx), .second, .val (.ref b1), .val (.ref b29), .val (.ref b67), .val (.double (FP.dadd (FP.l2d wc2) (FP.dmul (FP.ddiv (FP.dsub (FP.l2d wx) (FP.l2d wv2)) (FP.dsub (FP.l2d wv3) (FP.l2d wv2))) (FP.dsub (FP.l2d wc3) (FP.l2d wc2))))), .second, .val (.long wv2), .second, .val (.long wl3), .second, .val (.long wc2), .second, .unset, .unset, .unset, .unset]) rfl ?_
              refine XS.lload X108.here hx rfl (hb hby at_233) rfl ?_
              show Steps p.tables e below (T108.setTop (mkF m 235 #[.val (.int p0), .val (.int p1), .val (.int p2), .val (.int p3), .val (.int p4), .val (.int p5), .val (.long wl1), .second, .val (.long wl2), .second, .val (.long wl3), .second, .val (.long wv1), .second, .val (.long wv2), .second, .val (.long wv3), .second, .val (.long wc0), .second, .val (.long wc1), .second, .val (.long wc2), .second, .val (.long wc3), .second, .val (.long wx), .second, .val (.ref b1), .val (.ref b29), .val (.ref b67), .val (.double (FP.dadd (FP.l2d wc2) (FP.dmul (FP.ddiv (FP.dsub (FP.l2d wx) (FP.l2d wv2)) (FP.dsub (FP.l2d wv3) (FP.l2d wv2))) (FP.dsub (FP.l2d wc3) (FP.l2d wc2))))), .second, .val (.long wv2), .second, .val (.long wl3), .second, .val (.long wc2), .second, .unset, .unset, .unset, .unset] [(.long wc3)])) t
              refine XS.lstore X108.here hx rfl (hb hby at_235) rfl (l' := #[.val (.int p0), .val (.int p1), .val (.int p2), .val (.int p3), .val (.int p4), .val (.int p5), .val (.long wl1), .second, .val (.long wl2), .second, .val (.long wl3), .second, .val (.long wv1), .second, .val (.long wv2), .second, .val (.long wv3), .second, .val (.long wc0), .second, .val (.long wc1), .second, .val (.long wc2), .second, .val (.long wc3), .second, .val (.long wx), .second, .val (.ref b1), .val (.ref b29), .val (.ref b67), .val (.double (FP.dadd (FP.l2d wc2) (FP.dmul (FP.ddiv (FP.dsub (FP.l2d wx) (FP.l2d wv2)) (FP.dsub (FP.l2d wv3) (FP.l2d wv2))) (FP.dsub (FP.l2d wc3) (FP.l2d wc2))))), .second, .val (.long wv2), .second, .val (.long wl3), .second, .val (.long wc2), .second, .val (.long wc3), .second, .unset, .unset]) rfl ?_
              refine XS.lload X108.here hx rfl (hb hby at_237) rfl ?_
              refine XS.lload X108.here hx rfl (hb hby at_239) rfl ?_
              refine XS.lmul X108.here hx rfl (hb hby at_241) rfl ?_
              refine XS.lload X108.here hx rfl (hb hby at_242) rfl ?_
              refine XS.lload X108.here hx rfl (hb hby at_244) rfl ?_
              refine XS.lsub X108.here hx rfl (hb hby at_246) rfl ?_
              refine XS.lload X108.here hx rfl (hb hby at_247) rfl ?_
              show Steps p.tables e below (T108.setTop (mkF m 249 #[.val (.int p0), .val (.int p1), .val (.int p2), .val (.int p3), .val (.int p4), .val (.int p5), .val (.long wl1), .second, .val (.long wl2), .second, .val (.long wl3), .second, .val (.long wv1), .second, .val (.long wv2), .second, .val (.long wv3), .second, .val (.long wc0), .second, .val (.long wc1), .second, .val (.long wc2), .second, .val (.long wc3), .second, .val (.long wx), .second, .val (.ref b1), .val (.ref b29), .val (.ref b67), .val (.double (FP.dadd (FP.l2d wc2) (FP.dmul (FP.ddiv (FP.dsub (FP.l2d wx) (FP.l2d wv2)) (FP.dsub (FP.l2d wv3) (FP.l2d wv2))) (FP.dsub (FP.l2d wc3) (FP.l2d wc2))))), .second, .val (.long wv2), .second, .val (.long wl3), .second, .val (.long wc2), .second, .val (.long wc3), .second, .unset, .unset] [(.long wc3), (.long (wx - wv2)), (.long (wc2 * wl3))])) t
              refine XS.lload X108.here hx rfl (hb hby at_249) rfl ?_
              refine XS.lsub X108.here hx rfl (hb hby at_251) rfl ?_
              refine XS.lmul X108.here hx rfl (hb hby at_252) rfl ?_
              refine XS.ladd X108.here hx rfl (hb hby at_253) rfl ?_
              refine XS.lstore X108.here hx rfl (hb hby at_254) rfl (l' := #[.val (.int p0), .val (.int p1), .val (.int p2), .val (.int p3), .val (.int p4), .val (.int p5), .val (.long wl1), .second, .val (.long wl2), .second, .val (.long wl3), .second, .val (.long wv1), .second, .val (.long wv2), .second, .val (.long wv3), .second, .val (.long wc0), .second, .val (.long wc1), .second, .val (.long wc2), .second, .val (.long wc3), .second, .val (.long wx), .second, .val (.ref b1), .val (.ref b29), .val (.ref b67), .val (.double (FP.dadd (FP.l2d wc2) (FP.dmul (FP.ddiv (FP.dsub (FP.l2d wx) (FP.l2d wv2)) (FP.dsub (FP.l2d wv3) (FP.l2d wv2))) (FP.dsub (FP.l2d wc3) (FP.l2d wc2))))), .second, .val (.long wv2), .second, .val (.long wl3), .second, .val (.long wc2), .second, .val (.long wc3), .second, .val (.long ((wc2 * wl3) + ((wx - wv2) * (wc3 - wc2)))), .second]) rfl ?_
              refine XS.dload X108.here hx rfl (hb hby at_256) rfl ?_
              refine XS.lload X108.here hx rfl (hb hby at_258) rfl ?_
              refine XS.l2dS X108.here hx rfl (hb hby at_260) rfl rfl ?_
              show Steps p.tables e below (T108.setTop (mkF m 261 #[.val (.int p0), .val (.int p1), .val (.int p2), .val (.int p3), .val (.int p4), .val (.int p5), .val (.long wl1), .second, .val (.long wl2), .second, .val (.long wl3), .second, .val (.long wv1), .second, .val (.long wv2), .second, .val (.long wv3), .second, .val (.long wc0), .second, .val (.long wc1), .second, .val (.long wc2), .second, .val (.long wc3), .second, .val (.long wx), .second, .val (.ref b1), .val (.ref b29), .val (.ref b67), .val (.double (FP.dadd (FP.l2d wc2) (FP.dmul (FP.ddiv (FP.dsub (FP.l2d wx) (FP.l2d wv2)) (FP.dsub (FP.l2d wv3) (FP.l2d wv2))) (FP.dsub (FP.l2d wc3) (FP.l2d wc2))))), .second, .val (.long wv2), .second, .val (.long wl3), .second, .val (.long wc2), .second, .val (.long wc3), .second, .val (.long ((wc2 * wl3) + ((wx - wv2) * (wc3 - wc2)))), .second] [(.double (FP.l2d wl3)), (.double (FP.dadd (FP.l2d wc2) (FP.dmul (FP.ddiv (FP.dsub (FP.l2d wx) (FP.l2d wv2)) (FP.dsub (FP.l2d wv3) (FP.l2d wv2))) (FP.dsub (FP.l2d wc3) (FP.l2d wc2)))))])) t
              refine XS.dmulS X108.here hx rfl (hb hby at_261) rfl (hT.s3 (by omega)).2.2.2.1 rfl ?_
              refine XS.lload X108.here hx rfl (hb hby at_262) rfl ?_
              refine XS.l2dS X108.here hx rfl (hb hby at_264) rfl rfl ?_
              refine XS.dcmpS X108.here hx rfl (hb hby at_265) rfl (hT.s3 (by omega)).2.2.2.2 ?_
              refine XS.ifNo X108.here hx rfl (hb hby at_266) rfl (by decide) ?_
              refine XS.iconst X108.here hx rfl (hb hby at_269) ?_
              refine XS.goto X108.here hx rfl (pc0 := 270) (pc' := 274) rfl (hb hby at_270) (by decide) (by decide) ?_
              exact k
            refine own_retZ X108 hx hlk Bd.returns (hb hby at_274) rfl (by decide) (by decide) ?_
            show Q0 Z p0 p1 p2 p3 p4 p5 h0 n0 (some (.int (1 : Int32))) T108.heap _
            exact ⟨rfl, n109⟩
          · have hr := own_r_llg hT hc163_92 hc163_98 hc163_104 hc163_107
            obtain ⟨cq110, kq110, qa110, qb110, qc110⟩ := isOf hZ (rfl : T76.heap = T76.heap) f77
            obtain ⟨_, _, ⟨T110, L110, k110, n110⟩, -, X110, ⟨Lc110, hQ110, l110, y110, z110⟩, st110⟩ := X76.virtualBack hx (y := (⟨"com/example/corewright/corewright/equilibrium/Strategy", "bid", "(D)D"⟩ : MethodName)) (z := (⟨"com/example/corewright/corewright/equilibrium/Strategy", "bid", "(D)D"⟩ : MethodName)) hown (mvT hZ (hw _ (List.mem_of_getElem? (i := 33) rfl))) (mvT hZ (hw _ (List.mem_of_getElem? (i := 34) rfl))) (notFace_of_selects (args := #[]) (mvT hZ (hw _ (List.mem_of_getElem? (i := 36) rfl)))) (mvT hZ (hw _ (List.mem_of_getElem? (i := 36) rfl))) (mvT hZ (hw _ (List.mem_of_getElem? (i := 35) rfl))) (by decide) (backOf (W := 0) (rmbllg l Z ar hw [] b67 ((FP.l2d wx)) x0_76 k1 ((0 : UInt64)) ((FP.l2d wv1)) ((FP.l2d wv2)) ((FP.l2d wv3)) x1_76 k29 ((FP.l2d wc0)) ((FP.l2d wc1)) ((FP.l2d wc2)) ((FP.l2d wc3)) T76.heap n0 z90 f77 f78 f80 f79 f82 (own_ltG hT.d1 hT.dx (by omega)) (own_ltG hT.d2 hT.dx (by omega)) (own_nltG hT.d3 hT.dx (by omega)) (own_gtL hT.d3 hT.dx (by omega)) ((Jvm.Free.Fl.Mag64.fin (show Jvm.Free.Fl.Mag64 1090 (FP.dsub (FP.l2d wx) (FP.l2d wv2)) by have q := (Jvm.Free.Fl.dsub_mag (Jvm.Free.Fl.l2d_mag wx) (Jvm.Free.Fl.l2d_mag wv2) (by decide)); exact q) (by decide)).noNaN) ((Jvm.Free.Fl.Mag64.fin (show Jvm.Free.Fl.Mag64 1090 (FP.dsub (FP.l2d wv3) (FP.l2d wv2)) by have q := (Jvm.Free.Fl.dsub_mag (Jvm.Free.Fl.l2d_mag wv3) (Jvm.Free.Fl.l2d_mag wv2) (by decide)); exact q) (by decide)).noNaN) (hT.s3 (by omega)).1 ((Jvm.Free.Fl.Mag64.fin (show Jvm.Free.Fl.Mag64 1090 (FP.dsub (FP.l2d wc3) (FP.l2d wc2)) by have q := (Jvm.Free.Fl.dsub_mag (Jvm.Free.Fl.l2d_mag wc3) (Jvm.Free.Fl.l2d_mag wc2) (by decide)); exact q) (by decide)).noNaN) (hT.s3 (by omega)).2.1 (hT.s3 (by omega)).2.2.1) hZ (hw _ (List.mem_of_getElem? (i := 37) rfl)) (hw _ (List.mem_of_getElem? (i := 4) rfl)) (by decide) (by decide)) qa110 qc110 (g := (mkF m 163 #[.val (.int p0), .val (.int p1), .val (.int p2), .val (.int p3), .val (.int p4), .val (.int p5), .val (.long wl1), .second, .val (.long wl2), .second, .val (.long wl3), .second, .val (.long wv1), .second, .val (.long wv2), .second, .val (.long wv3), .second, .val (.long wc0), .second, .val (.long wc1), .second, .val (.long wc2), .second, .val (.long wc3), .second, .val (.long wx), .second, .val (.ref b1), .val (.ref b29), .val (.ref b67), .unset, .unset, .unset, .unset, .unset, .unset, .unset, .unset, .unset, .unset, .unset, .unset] [(.double (FP.l2d wx)), (.ref b67)])) rfl (by rw [hml]; rfl) (Steps.refl _) (argsL := [(.double (FP.l2d wx))]) (rest := []) (lenOf pd0_1 rfl) rfl (by show 2 * 0 + _ ≤ _; exact Nat.le_of_eq rfl) (hb hby at_163) (fun _ _ => ⟨rfl, (rfl : T76.heap = T76.heap), (by decide : 5 + 0 ≤ _), (by decide : 18 + 0 ≤ _)⟩)
            dsimp only [Pt.U, Pt.locs, Pt.cells, Pt.slots] at X110 l110 y110 z110 st110 hQ110
            subst l110 y110 z110
            obtain ⟨rfl, N110q, e110⟩ := hQ110
            have n111 := Fr.app n84 N110q
            refine own_tr (T' := T110) (g' := (mkF m 166 #[.val (.int p0), .val (.int p1), .val (.int p2), .val (.int p3), .val (.int p4), .val (.int p5), .val (.long wl1), .second, .val (.long wl2), .second, .val (.long wl3), .second, .val (.long wv1), .second, .val (.long wv2), .second, .val (.long wv3), .second, .val (.long wc0), .second, .val (.long wc1), .second, .val (.long wc2), .second, .val (.long wc3), .second, .val (.long wx), .second, .val (.ref b1), .val (.ref b29), .val (.ref b67), .unset, .unset, .unset, .unset, .unset, .unset, .unset, .unset, .unset, .unset, .unset, .unset] [(.double (FP.dadd (FP.l2d wc2) (FP.dmul (FP.ddiv (FP.dsub (FP.l2d wx) (FP.l2d wv2)) (FP.dsub (FP.l2d wv3) (FP.l2d wv2))) (FP.dsub (FP.l2d wc3) (FP.l2d wc2)))))])) st110 ?_
            refine own_st (T' := T110) (g' := (mkF m 274 #[.val (.int p0), .val (.int p1), .val (.int p2), .val (.int p3), .val (.int p4), .val (.int p5), .val (.long wl1), .second, .val (.long wl2), .second, .val (.long wl3), .second, .val (.long wv1), .second, .val (.long wv2), .second, .val (.long wv3), .second, .val (.long wc0), .second, .val (.long wc1), .second, .val (.long wc2), .second, .val (.long wc3), .second, .val (.long wx), .second, .val (.ref b1), .val (.ref b29), .val (.ref b67), .val (.double (FP.dadd (FP.l2d wc2) (FP.dmul (FP.ddiv (FP.dsub (FP.l2d wx) (FP.l2d wv2)) (FP.dsub (FP.l2d wv3) (FP.l2d wv2))) (FP.dsub (FP.l2d wc3) (FP.l2d wc2))))), .second, .val (.long wv2), .second, .val (.long wl3), .second, .val (.long wc2), .second, .val (.long wc3), .second, .val (.long ((wc2 * wl3) + ((wx - wv2) * (wc3 - wc2)))), .second] [(.int (1 : Int32))])) (fun t k => ?_) ?_
            · show Steps p.tables e below (T110.setTop (mkF m 166 #[.val (.int p0), .val (.int p1), .val (.int p2), .val (.int p3), .val (.int p4), .val (.int p5), .val (.long wl1), .second, .val (.long wl2), .second, .val (.long wl3), .second, .val (.long wv1), .second, .val (.long wv2), .second, .val (.long wv3), .second, .val (.long wc0), .second, .val (.long wc1), .second, .val (.long wc2), .second, .val (.long wc3), .second, .val (.long wx), .second, .val (.ref b1), .val (.ref b29), .val (.ref b67), .unset, .unset, .unset, .unset, .unset, .unset, .unset, .unset, .unset, .unset, .unset, .unset] [(.double (FP.dadd (FP.l2d wc2) (FP.dmul (FP.ddiv (FP.dsub (FP.l2d wx) (FP.l2d wv2)) (FP.dsub (FP.l2d wv3) (FP.l2d wv2))) (FP.dsub (FP.l2d wc3) (FP.l2d wc2)))))])) t
              refine XS.dstore X110.here hx rfl (hb hby at_166) rfl (l' := #[.val (.int p0), .val (.int p1), .val (.int p2), .val (.int p3), .val (.int p4), .val (.int p5), .val (.long wl1), .second, .val (.long wl2), .second, .val (.long wl3), .second, .val (.long wv1), .second, .val (.long wv2), .second, .val (.long wv3), .second, .val (.long wc0), .second, .val (.long wc1), .second, .val (.long wc2), .second, .val (.long wc3), .second, .val (.long wx), .second, .val (.ref b1), .val (.ref b29), .val (.ref b67), .val (.double (FP.dadd (FP.l2d wc2) (FP.dmul (FP.ddiv (FP.dsub (FP.l2d wx) (FP.l2d wv2)) (FP.dsub (FP.l2d wv3) (FP.l2d wv2))) (FP.dsub (FP.l2d wc3) (FP.l2d wc2))))), .second, .unset, .unset, .unset, .unset, .unset, .unset, .unset, .unset, .unset, .unset]) rfl ?_
              refine XS.lload X110.here hx rfl (hb hby at_168) rfl ?_
              refine XS.lload X110.here hx rfl (hb hby at_170) rfl ?_
              refine XS.lcmp X110.here hx rfl (hb hby at_172) rfl ?_
              refine XS.ifYes X110.here hx rfl (pc0 := 173) (pc' := 194) rfl (hb hby at_173) rfl ((if0 _ _).trans (flt (fun q => (hc163_92 : ¬ (wx < wv1)) ((lw_lt wx wv1).mp q))).2.1) (by decide) (by decide) ?_
              refine XS.lload X110.here hx rfl (hb hby at_194) rfl ?_
              refine XS.lload X110.here hx rfl (hb hby at_196) rfl ?_
              refine XS.lcmp X110.here hx rfl (hb hby at_198) rfl ?_
              show Steps p.tables e below (T110.setTop (mkF m 199 #[.val (.int p0), .val (.int p1), .val (.int p2), .val (.int p3), .val (.int p4), .val (.int p5), .val (.long wl1), .second, .val (.long wl2), .second, .val (.long wl3), .second, .val (.long wv1), .second, .val (.long wv2), .second, .val (.long wv3), .second, .val (.long wc0), .second, .val (.long wc1), .second, .val (.long wc2), .second, .val (.long wc3), .second, .val (.long wx), .second, .val (.ref b1), .val (.ref b29), .val (.ref b67), .val (.double (FP.dadd (FP.l2d wc2) (FP.dmul (FP.ddiv (FP.dsub (FP.l2d wx) (FP.l2d wv2)) (FP.dsub (FP.l2d wv3) (FP.l2d wv2))) (FP.dsub (FP.l2d wc3) (FP.l2d wc2))))), .second, .unset, .unset, .unset, .unset, .unset, .unset, .unset, .unset, .unset, .unset] [(.int (lcmpW wx wv2))])) t
              refine XS.ifYes X110.here hx rfl (pc0 := 199) (pc' := 221) rfl (hb hby at_199) rfl ((if0 _ _).trans (flt (fun q => (hc163_98 : ¬ (wx < wv2)) ((lw_lt wx wv2).mp q))).2.1) (by decide) (by decide) ?_
              refine XS.lload X110.here hx rfl (hb hby at_221) rfl ?_
              refine XS.lstore X110.here hx rfl (hb hby at_223) rfl (l' := #[.val (.int p0), .val (.int p1), .val (.int p2), .val (.int p3), .val (.int p4), .val (.int p5), .val (.long wl1), .second, .val (.long wl2), .second, .val (.long wl3), .second, .val (.long wv1), .second, .val (.long wv2), .second, .val (.long wv3), .second, .val (.long wc0), .second, .val (.long wc1), .second, .val (.long wc2), .second, .val (.long wc3), .second, .val (.long wx), .second, .val (.ref b1), .val (.ref b29), .val (.ref b67), .val (.double (FP.dadd (FP.l2d wc2) (FP.dmul (FP.ddiv (FP.dsub (FP.l2d wx) (FP.l2d wv2)) (FP.dsub (FP.l2d wv3) (FP.l2d wv2))) (FP.dsub (FP.l2d wc3) (FP.l2d wc2))))), .second, .val (.long wv2), .second, .unset, .unset, .unset, .unset, .unset, .unset, .unset, .unset]) rfl ?_
              refine XS.lload X110.here hx rfl (hb hby at_225) rfl ?_
              refine XS.lstore X110.here hx rfl (hb hby at_227) rfl (l' := #[.val (.int p0), .val (.int p1), .val (.int p2), .val (.int p3), .val (.int p4), .val (.int p5), .val (.long wl1), .second, .val (.long wl2), .second, .val (.long wl3), .second, .val (.long wv1), .second, .val (.long wv2), .second, .val (.long wv3), .second, .val (.long wc0), .second, .val (.long wc1), .second, .val (.long wc2), .second, .val (.long wc3), .second, .val (.long wx), .second, .val (.ref b1), .val (.ref b29), .val (.ref b67), .val (.double (FP.dadd (FP.l2d wc2) (FP.dmul (FP.ddiv (FP.dsub (FP.l2d wx) (FP.l2d wv2)) (FP.dsub (FP.l2d wv3) (FP.l2d wv2))) (FP.dsub (FP.l2d wc3) (FP.l2d wc2))))), .second, .val (.long wv2), .second, .val (.long wl3), .second, .unset, .unset, .unset, .unset, .unset, .unset]) rfl ?_
              refine XS.lload X110.here hx rfl (hb hby at_229) rfl ?_
              refine XS.lstore X110.here hx rfl (hb hby at_231) rfl (l' := #[.val (.int p0), .val (.int p1), .val (.int p2), .val (.int p3), .val (.int p4), .val (.int p5), .val (.long wl1), .second, .val (.long wl2), .second, .val (.long wl3), .second, .val (.long wv1), .second, .val (.long wv2), .second, .val (.long wv3), .second, .val (.long wc0), .second, .val (.long wc1), .second, .val (.long wc2), .second, .val (.long wc3), .second, .val (.long wx), .second, .val (.ref b1), .val (.ref b29), .val (.ref b67), .val (.double (FP.dadd (FP.l2d wc2) (FP.dmul (FP.ddiv (FP.dsub (FP.l2d wx) (FP.l2d wv2)) (FP.dsub (FP.l2d wv3) (FP.l2d wv2))) (FP.dsub (FP.l2d wc3) (FP.l2d wc2))))), .second, .val (.long wv2), .second, .val (.long wl3), .second, .val (.long wc2), .second, .unset, .unset, .unset, .unset]) rfl ?_
              refine XS.lload X110.here hx rfl (hb hby at_233) rfl ?_
              show Steps p.tables e below (T110.setTop (mkF m 235 #[.val (.int p0), .val (.int p1), .val (.int p2), .val (.int p3), .val (.int p4), .val (.int p5), .val (.long wl1), .second, .val (.long wl2), .second, .val (.long wl3), .second, .val (.long wv1), .second, .val (.long wv2), .second, .val (.long wv3), .second, .val (.long wc0), .second, .val (.long wc1), .second, .val (.long wc2), .second, .val (.long wc3), .second, .val (.long wx), .second, .val (.ref b1), .val (.ref b29), .val (.ref b67), .val (.double (FP.dadd (FP.l2d wc2) (FP.dmul (FP.ddiv (FP.dsub (FP.l2d wx) (FP.l2d wv2)) (FP.dsub (FP.l2d wv3) (FP.l2d wv2))) (FP.dsub (FP.l2d wc3) (FP.l2d wc2))))), .second, .val (.long wv2), .second, .val (.long wl3), .second, .val (.long wc2), .second, .unset, .unset, .unset, .unset] [(.long wc3)])) t
              refine XS.lstore X110.here hx rfl (hb hby at_235) rfl (l' := #[.val (.int p0), .val (.int p1), .val (.int p2), .val (.int p3), .val (.int p4), .val (.int p5), .val (.long wl1), .second, .val (.long wl2), .second, .val (.long wl3), .second, .val (.long wv1), .second, .val (.long wv2), .second, .val (.long wv3), .second, .val (.long wc0), .second, .val (.long wc1), .second, .val (.long wc2), .second, .val (.long wc3), .second, .val (.long wx), .second, .val (.ref b1), .val (.ref b29), .val (.ref b67), .val (.double (FP.dadd (FP.l2d wc2) (FP.dmul (FP.ddiv (FP.dsub (FP.l2d wx) (FP.l2d wv2)) (FP.dsub (FP.l2d wv3) (FP.l2d wv2))) (FP.dsub (FP.l2d wc3) (FP.l2d wc2))))), .second, .val (.long wv2), .second, .val (.long wl3), .second, .val (.long wc2), .second, .val (.long wc3), .second, .unset, .unset]) rfl ?_
              refine XS.lload X110.here hx rfl (hb hby at_237) rfl ?_
              refine XS.lload X110.here hx rfl (hb hby at_239) rfl ?_
              refine XS.lmul X110.here hx rfl (hb hby at_241) rfl ?_
              refine XS.lload X110.here hx rfl (hb hby at_242) rfl ?_
              refine XS.lload X110.here hx rfl (hb hby at_244) rfl ?_
              refine XS.lsub X110.here hx rfl (hb hby at_246) rfl ?_
              refine XS.lload X110.here hx rfl (hb hby at_247) rfl ?_
              show Steps p.tables e below (T110.setTop (mkF m 249 #[.val (.int p0), .val (.int p1), .val (.int p2), .val (.int p3), .val (.int p4), .val (.int p5), .val (.long wl1), .second, .val (.long wl2), .second, .val (.long wl3), .second, .val (.long wv1), .second, .val (.long wv2), .second, .val (.long wv3), .second, .val (.long wc0), .second, .val (.long wc1), .second, .val (.long wc2), .second, .val (.long wc3), .second, .val (.long wx), .second, .val (.ref b1), .val (.ref b29), .val (.ref b67), .val (.double (FP.dadd (FP.l2d wc2) (FP.dmul (FP.ddiv (FP.dsub (FP.l2d wx) (FP.l2d wv2)) (FP.dsub (FP.l2d wv3) (FP.l2d wv2))) (FP.dsub (FP.l2d wc3) (FP.l2d wc2))))), .second, .val (.long wv2), .second, .val (.long wl3), .second, .val (.long wc2), .second, .val (.long wc3), .second, .unset, .unset] [(.long wc3), (.long (wx - wv2)), (.long (wc2 * wl3))])) t
              refine XS.lload X110.here hx rfl (hb hby at_249) rfl ?_
              refine XS.lsub X110.here hx rfl (hb hby at_251) rfl ?_
              refine XS.lmul X110.here hx rfl (hb hby at_252) rfl ?_
              refine XS.ladd X110.here hx rfl (hb hby at_253) rfl ?_
              refine XS.lstore X110.here hx rfl (hb hby at_254) rfl (l' := #[.val (.int p0), .val (.int p1), .val (.int p2), .val (.int p3), .val (.int p4), .val (.int p5), .val (.long wl1), .second, .val (.long wl2), .second, .val (.long wl3), .second, .val (.long wv1), .second, .val (.long wv2), .second, .val (.long wv3), .second, .val (.long wc0), .second, .val (.long wc1), .second, .val (.long wc2), .second, .val (.long wc3), .second, .val (.long wx), .second, .val (.ref b1), .val (.ref b29), .val (.ref b67), .val (.double (FP.dadd (FP.l2d wc2) (FP.dmul (FP.ddiv (FP.dsub (FP.l2d wx) (FP.l2d wv2)) (FP.dsub (FP.l2d wv3) (FP.l2d wv2))) (FP.dsub (FP.l2d wc3) (FP.l2d wc2))))), .second, .val (.long wv2), .second, .val (.long wl3), .second, .val (.long wc2), .second, .val (.long wc3), .second, .val (.long ((wc2 * wl3) + ((wx - wv2) * (wc3 - wc2)))), .second]) rfl ?_
              refine XS.dload X110.here hx rfl (hb hby at_256) rfl ?_
              refine XS.lload X110.here hx rfl (hb hby at_258) rfl ?_
              refine XS.l2dS X110.here hx rfl (hb hby at_260) rfl rfl ?_
              show Steps p.tables e below (T110.setTop (mkF m 261 #[.val (.int p0), .val (.int p1), .val (.int p2), .val (.int p3), .val (.int p4), .val (.int p5), .val (.long wl1), .second, .val (.long wl2), .second, .val (.long wl3), .second, .val (.long wv1), .second, .val (.long wv2), .second, .val (.long wv3), .second, .val (.long wc0), .second, .val (.long wc1), .second, .val (.long wc2), .second, .val (.long wc3), .second, .val (.long wx), .second, .val (.ref b1), .val (.ref b29), .val (.ref b67), .val (.double (FP.dadd (FP.l2d wc2) (FP.dmul (FP.ddiv (FP.dsub (FP.l2d wx) (FP.l2d wv2)) (FP.dsub (FP.l2d wv3) (FP.l2d wv2))) (FP.dsub (FP.l2d wc3) (FP.l2d wc2))))), .second, .val (.long wv2), .second, .val (.long wl3), .second, .val (.long wc2), .second, .val (.long wc3), .second, .val (.long ((wc2 * wl3) + ((wx - wv2) * (wc3 - wc2)))), .second] [(.double (FP.l2d wl3)), (.double (FP.dadd (FP.l2d wc2) (FP.dmul (FP.ddiv (FP.dsub (FP.l2d wx) (FP.l2d wv2)) (FP.dsub (FP.l2d wv3) (FP.l2d wv2))) (FP.dsub (FP.l2d wc3) (FP.l2d wc2)))))])) t
              refine XS.dmulS X110.here hx rfl (hb hby at_261) rfl (hT.s3 (by omega)).2.2.2.1 rfl ?_
              refine XS.lload X110.here hx rfl (hb hby at_262) rfl ?_
              refine XS.l2dS X110.here hx rfl (hb hby at_264) rfl rfl ?_
              refine XS.dcmpS X110.here hx rfl (hb hby at_265) rfl (hT.s3 (by omega)).2.2.2.2 ?_
              refine XS.ifNo X110.here hx rfl (hb hby at_266) rfl (by decide) ?_
              refine XS.iconst X110.here hx rfl (hb hby at_269) ?_
              refine XS.goto X110.here hx rfl (pc0 := 270) (pc' := 274) rfl (hb hby at_270) (by decide) (by decide) ?_
              exact k
            refine own_retZ X110 hx hlk Bd.returns (hb hby at_274) rfl (by decide) (by decide) ?_
            show Q0 Z p0 p1 p2 p3 p4 p5 h0 n0 (some (.int (1 : Int32))) T110.heap _
            exact ⟨rfl, n111⟩
  refine own_st (T' := s₁) (g' := (mkF m 89 #[.val (.int p0), .val (.int p1), .val (.int p2), .val (.int p3), .val (.int p4), .val (.int p5), .val (.long ((1 : Int64) <<< ((p0 &&& (7 : Int32)) &&& 0x3f).toInt64)), .second, .val (.long ((1 : Int64) <<< ((((p0.toUInt32 >>> ((3 : Int32) &&& 31).toUInt32).toInt32) &&& (7 : Int32)) &&& 0x3f).toInt64)), .second, .val (.long ((1 : Int64) <<< ((((p0.toUInt32 >>> ((6 : Int32) &&& 31).toUInt32).toInt32) &&& (7 : Int32)) &&& 0x3f).toInt64)), .second, .val (.long ((1 : Int64) <<< ((p0 &&& (7 : Int32)) &&& 0x3f).toInt64)), .second, .val (.long (((1 : Int64) <<< ((p0 &&& (7 : Int32)) &&& 0x3f).toInt64) + ((1 : Int64) <<< ((((p0.toUInt32 >>> ((3 : Int32) &&& 31).toUInt32).toInt32) &&& (7 : Int32)) &&& 0x3f).toInt64))), .second, .val (.long ((((1 : Int64) <<< ((p0 &&& (7 : Int32)) &&& 0x3f).toInt64) + ((1 : Int64) <<< ((((p0.toUInt32 >>> ((3 : Int32) &&& 31).toUInt32).toInt32) &&& (7 : Int32)) &&& 0x3f).toInt64)) + ((1 : Int64) <<< ((((p0.toUInt32 >>> ((6 : Int32) &&& 31).toUInt32).toInt32) &&& (7 : Int32)) &&& 0x3f).toInt64))), .second, .val (.long ((p1 &&& (2147483647 : Int32)).toInt64)), .second, .val (.long ((p2 &&& (2147483647 : Int32)).toInt64)), .second, .val (.long ((p3 &&& (2147483647 : Int32)).toInt64)), .second, .val (.long ((p4 &&& (2147483647 : Int32)).toInt64)), .second, .val (.long (((p5 &&& (2147483647 : Int32)).toInt64) - ((p5 &&& (2147483647 : Int32)).toInt64) / (((((1 : Int64) <<< ((p0 &&& (7 : Int32)) &&& 0x3f).toInt64) + ((1 : Int64) <<< ((((p0.toUInt32 >>> ((3 : Int32) &&& 31).toUInt32).toInt32) &&& (7 : Int32)) &&& 0x3f).toInt64)) + ((1 : Int64) <<< ((((p0.toUInt32 >>> ((6 : Int32) &&& 31).toUInt32).toInt32) &&& (7 : Int32)) &&& 0x3f).toInt64)) + (1 : Int64)) * (((((1 : Int64) <<< ((p0 &&& (7 : Int32)) &&& 0x3f).toInt64) + ((1 : Int64) <<< ((((p0.toUInt32 >>> ((3 : Int32) &&& 31).toUInt32).toInt32) &&& (7 : Int32)) &&& 0x3f).toInt64)) + ((1 : Int64) <<< ((((p0.toUInt32 >>> ((6 : Int32) &&& 31).toUInt32).toInt32) &&& (7 : Int32)) &&& 0x3f).toInt64)) + (1 : Int64)))), .second, .unset, .unset, .unset, .unset, .unset, .unset, .unset, .unset, .unset, .unset, .unset, .unset, .unset, .unset, .unset] [])) (fun t k => ?_) ?_
  · show Steps p.tables e below (s₁.setTop (mkF m 0 #[.val (.int p0), .val (.int p1), .val (.int p2), .val (.int p3), .val (.int p4), .val (.int p5), .unset, .unset, .unset, .unset, .unset, .unset, .unset, .unset, .unset, .unset, .unset, .unset, .unset, .unset, .unset, .unset, .unset, .unset, .unset, .unset, .unset, .unset, .unset, .unset, .unset, .unset, .unset, .unset, .unset, .unset, .unset, .unset, .unset, .unset, .unset, .unset, .unset] [])) t
    refine XS.lconst X0.here hx rfl (hb hby at_0) ?_
    refine XS.iloadN X0.here hx rfl (hb hby at_1) rfl ?_
    refine XS.bipush X0.here hx rfl (hb hby at_2) ?_
    refine XS.iand X0.here hx rfl (hb hby at_4) rfl ?_
    refine XS.lshl X0.here hx rfl (hb hby at_5) rfl ?_
    refine XS.lstore X0.here hx rfl (hb hby at_6) rfl (l' := #[.val (.int p0), .val (.int p1), .val (.int p2), .val (.int p3), .val (.int p4), .val (.int p5), .val (.long ((1 : Int64) <<< ((p0 &&& (7 : Int32)) &&& 0x3f).toInt64)), .second, .unset, .unset, .unset, .unset, .unset, .unset, .unset, .unset, .unset, .unset, .unset, .unset, .unset, .unset, .unset, .unset, .unset, .unset, .unset, .unset, .unset, .unset, .unset, .unset, .unset, .unset, .unset, .unset, .unset, .unset, .unset, .unset, .unset, .unset, .unset]) rfl ?_
    refine XS.lconst X0.here hx rfl (hb hby at_8) ?_
    refine XS.iloadN X0.here hx rfl (hb hby at_9) rfl ?_
    show Steps p.tables e below (s₁.setTop (mkF m 10 #[.val (.int p0), .val (.int p1), .val (.int p2), .val (.int p3), .val (.int p4), .val (.int p5), .val (.long ((1 : Int64) <<< ((p0 &&& (7 : Int32)) &&& 0x3f).toInt64)), .second, .unset, .unset, .unset, .unset, .unset, .unset, .unset, .unset, .unset, .unset, .unset, .unset, .unset, .unset, .unset, .unset, .unset, .unset, .unset, .unset, .unset, .unset, .unset, .unset, .unset, .unset, .unset, .unset, .unset, .unset, .unset, .unset, .unset, .unset, .unset] [(.int p0), (.long (1 : Int64))])) t
    refine XS.iconst X0.here hx rfl (hb hby at_10) ?_
    refine XS.iushr X0.here hx rfl (hb hby at_11) rfl ?_
    refine XS.bipush X0.here hx rfl (hb hby at_12) ?_
    refine XS.iand X0.here hx rfl (hb hby at_14) rfl ?_
    refine XS.lshl X0.here hx rfl (hb hby at_15) rfl ?_
    refine XS.lstore X0.here hx rfl (hb hby at_16) rfl (l' := #[.val (.int p0), .val (.int p1), .val (.int p2), .val (.int p3), .val (.int p4), .val (.int p5), .val (.long ((1 : Int64) <<< ((p0 &&& (7 : Int32)) &&& 0x3f).toInt64)), .second, .val (.long ((1 : Int64) <<< ((((p0.toUInt32 >>> ((3 : Int32) &&& 31).toUInt32).toInt32) &&& (7 : Int32)) &&& 0x3f).toInt64)), .second, .unset, .unset, .unset, .unset, .unset, .unset, .unset, .unset, .unset, .unset, .unset, .unset, .unset, .unset, .unset, .unset, .unset, .unset, .unset, .unset, .unset, .unset, .unset, .unset, .unset, .unset, .unset, .unset, .unset, .unset, .unset, .unset, .unset]) rfl ?_
    refine XS.lconst X0.here hx rfl (hb hby at_18) ?_
    refine XS.iloadN X0.here hx rfl (hb hby at_19) rfl ?_
    show Steps p.tables e below (s₁.setTop (mkF m 20 #[.val (.int p0), .val (.int p1), .val (.int p2), .val (.int p3), .val (.int p4), .val (.int p5), .val (.long ((1 : Int64) <<< ((p0 &&& (7 : Int32)) &&& 0x3f).toInt64)), .second, .val (.long ((1 : Int64) <<< ((((p0.toUInt32 >>> ((3 : Int32) &&& 31).toUInt32).toInt32) &&& (7 : Int32)) &&& 0x3f).toInt64)), .second, .unset, .unset, .unset, .unset, .unset, .unset, .unset, .unset, .unset, .unset, .unset, .unset, .unset, .unset, .unset, .unset, .unset, .unset, .unset, .unset, .unset, .unset, .unset, .unset, .unset, .unset, .unset, .unset, .unset, .unset, .unset, .unset, .unset] [(.int p0), (.long (1 : Int64))])) t
    refine XS.bipush X0.here hx rfl (hb hby at_20) ?_
    refine XS.iushr X0.here hx rfl (hb hby at_22) rfl ?_
    refine XS.bipush X0.here hx rfl (hb hby at_23) ?_
    refine XS.iand X0.here hx rfl (hb hby at_25) rfl ?_
    refine XS.lshl X0.here hx rfl (hb hby at_26) rfl ?_
    refine XS.lstore X0.here hx rfl (hb hby at_27) rfl (l' := #[.val (.int p0), .val (.int p1), .val (.int p2), .val (.int p3), .val (.int p4), .val (.int p5), .val (.long ((1 : Int64) <<< ((p0 &&& (7 : Int32)) &&& 0x3f).toInt64)), .second, .val (.long ((1 : Int64) <<< ((((p0.toUInt32 >>> ((3 : Int32) &&& 31).toUInt32).toInt32) &&& (7 : Int32)) &&& 0x3f).toInt64)), .second, .val (.long ((1 : Int64) <<< ((((p0.toUInt32 >>> ((6 : Int32) &&& 31).toUInt32).toInt32) &&& (7 : Int32)) &&& 0x3f).toInt64)), .second, .unset, .unset, .unset, .unset, .unset, .unset, .unset, .unset, .unset, .unset, .unset, .unset, .unset, .unset, .unset, .unset, .unset, .unset, .unset, .unset, .unset, .unset, .unset, .unset, .unset, .unset, .unset, .unset, .unset, .unset, .unset]) rfl ?_
    refine XS.lload X0.here hx rfl (hb hby at_29) rfl ?_
    refine XS.lstore X0.here hx rfl (hb hby at_31) rfl (l' := #[.val (.int p0), .val (.int p1), .val (.int p2), .val (.int p3), .val (.int p4), .val (.int p5), .val (.long ((1 : Int64) <<< ((p0 &&& (7 : Int32)) &&& 0x3f).toInt64)), .second, .val (.long ((1 : Int64) <<< ((((p0.toUInt32 >>> ((3 : Int32) &&& 31).toUInt32).toInt32) &&& (7 : Int32)) &&& 0x3f).toInt64)), .second, .val (.long ((1 : Int64) <<< ((((p0.toUInt32 >>> ((6 : Int32) &&& 31).toUInt32).toInt32) &&& (7 : Int32)) &&& 0x3f).toInt64)), .second, .val (.long ((1 : Int64) <<< ((p0 &&& (7 : Int32)) &&& 0x3f).toInt64)), .second, .unset, .unset, .unset, .unset, .unset, .unset, .unset, .unset, .unset, .unset, .unset, .unset, .unset, .unset, .unset, .unset, .unset, .unset, .unset, .unset, .unset, .unset, .unset, .unset, .unset, .unset, .unset, .unset, .unset]) rfl ?_
    show Steps p.tables e below (s₁.setTop (mkF m 33 #[.val (.int p0), .val (.int p1), .val (.int p2), .val (.int p3), .val (.int p4), .val (.int p5), .val (.long ((1 : Int64) <<< ((p0 &&& (7 : Int32)) &&& 0x3f).toInt64)), .second, .val (.long ((1 : Int64) <<< ((((p0.toUInt32 >>> ((3 : Int32) &&& 31).toUInt32).toInt32) &&& (7 : Int32)) &&& 0x3f).toInt64)), .second, .val (.long ((1 : Int64) <<< ((((p0.toUInt32 >>> ((6 : Int32) &&& 31).toUInt32).toInt32) &&& (7 : Int32)) &&& 0x3f).toInt64)), .second, .val (.long ((1 : Int64) <<< ((p0 &&& (7 : Int32)) &&& 0x3f).toInt64)), .second, .unset, .unset, .unset, .unset, .unset, .unset, .unset, .unset, .unset, .unset, .unset, .unset, .unset, .unset, .unset, .unset, .unset, .unset, .unset, .unset, .unset, .unset, .unset, .unset, .unset, .unset, .unset, .unset, .unset] [])) t
    refine XS.lload X0.here hx rfl (hb hby at_33) rfl ?_
    refine XS.lload X0.here hx rfl (hb hby at_35) rfl ?_
    refine XS.ladd X0.here hx rfl (hb hby at_37) rfl ?_
    refine XS.lstore X0.here hx rfl (hb hby at_38) rfl (l' := #[.val (.int p0), .val (.int p1), .val (.int p2), .val (.int p3), .val (.int p4), .val (.int p5), .val (.long ((1 : Int64) <<< ((p0 &&& (7 : Int32)) &&& 0x3f).toInt64)), .second, .val (.long ((1 : Int64) <<< ((((p0.toUInt32 >>> ((3 : Int32) &&& 31).toUInt32).toInt32) &&& (7 : Int32)) &&& 0x3f).toInt64)), .second, .val (.long ((1 : Int64) <<< ((((p0.toUInt32 >>> ((6 : Int32) &&& 31).toUInt32).toInt32) &&& (7 : Int32)) &&& 0x3f).toInt64)), .second, .val (.long ((1 : Int64) <<< ((p0 &&& (7 : Int32)) &&& 0x3f).toInt64)), .second, .val (.long (((1 : Int64) <<< ((p0 &&& (7 : Int32)) &&& 0x3f).toInt64) + ((1 : Int64) <<< ((((p0.toUInt32 >>> ((3 : Int32) &&& 31).toUInt32).toInt32) &&& (7 : Int32)) &&& 0x3f).toInt64))), .second, .unset, .unset, .unset, .unset, .unset, .unset, .unset, .unset, .unset, .unset, .unset, .unset, .unset, .unset, .unset, .unset, .unset, .unset, .unset, .unset, .unset, .unset, .unset, .unset, .unset, .unset, .unset]) rfl ?_
    refine XS.lload X0.here hx rfl (hb hby at_40) rfl ?_
    refine XS.lload X0.here hx rfl (hb hby at_42) rfl ?_
    refine XS.ladd X0.here hx rfl (hb hby at_44) rfl ?_
    refine XS.lstore X0.here hx rfl (hb hby at_45) rfl (l' := #[.val (.int p0), .val (.int p1), .val (.int p2), .val (.int p3), .val (.int p4), .val (.int p5), .val (.long ((1 : Int64) <<< ((p0 &&& (7 : Int32)) &&& 0x3f).toInt64)), .second, .val (.long ((1 : Int64) <<< ((((p0.toUInt32 >>> ((3 : Int32) &&& 31).toUInt32).toInt32) &&& (7 : Int32)) &&& 0x3f).toInt64)), .second, .val (.long ((1 : Int64) <<< ((((p0.toUInt32 >>> ((6 : Int32) &&& 31).toUInt32).toInt32) &&& (7 : Int32)) &&& 0x3f).toInt64)), .second, .val (.long ((1 : Int64) <<< ((p0 &&& (7 : Int32)) &&& 0x3f).toInt64)), .second, .val (.long (((1 : Int64) <<< ((p0 &&& (7 : Int32)) &&& 0x3f).toInt64) + ((1 : Int64) <<< ((((p0.toUInt32 >>> ((3 : Int32) &&& 31).toUInt32).toInt32) &&& (7 : Int32)) &&& 0x3f).toInt64))), .second, .val (.long ((((1 : Int64) <<< ((p0 &&& (7 : Int32)) &&& 0x3f).toInt64) + ((1 : Int64) <<< ((((p0.toUInt32 >>> ((3 : Int32) &&& 31).toUInt32).toInt32) &&& (7 : Int32)) &&& 0x3f).toInt64)) + ((1 : Int64) <<< ((((p0.toUInt32 >>> ((6 : Int32) &&& 31).toUInt32).toInt32) &&& (7 : Int32)) &&& 0x3f).toInt64))), .second, .unset, .unset, .unset, .unset, .unset, .unset, .unset, .unset, .unset, .unset, .unset, .unset, .unset, .unset, .unset, .unset, .unset, .unset, .unset, .unset, .unset, .unset, .unset, .unset, .unset]) rfl ?_
    show Steps p.tables e below (s₁.setTop (mkF m 47 #[.val (.int p0), .val (.int p1), .val (.int p2), .val (.int p3), .val (.int p4), .val (.int p5), .val (.long ((1 : Int64) <<< ((p0 &&& (7 : Int32)) &&& 0x3f).toInt64)), .second, .val (.long ((1 : Int64) <<< ((((p0.toUInt32 >>> ((3 : Int32) &&& 31).toUInt32).toInt32) &&& (7 : Int32)) &&& 0x3f).toInt64)), .second, .val (.long ((1 : Int64) <<< ((((p0.toUInt32 >>> ((6 : Int32) &&& 31).toUInt32).toInt32) &&& (7 : Int32)) &&& 0x3f).toInt64)), .second, .val (.long ((1 : Int64) <<< ((p0 &&& (7 : Int32)) &&& 0x3f).toInt64)), .second, .val (.long (((1 : Int64) <<< ((p0 &&& (7 : Int32)) &&& 0x3f).toInt64) + ((1 : Int64) <<< ((((p0.toUInt32 >>> ((3 : Int32) &&& 31).toUInt32).toInt32) &&& (7 : Int32)) &&& 0x3f).toInt64))), .second, .val (.long ((((1 : Int64) <<< ((p0 &&& (7 : Int32)) &&& 0x3f).toInt64) + ((1 : Int64) <<< ((((p0.toUInt32 >>> ((3 : Int32) &&& 31).toUInt32).toInt32) &&& (7 : Int32)) &&& 0x3f).toInt64)) + ((1 : Int64) <<< ((((p0.toUInt32 >>> ((6 : Int32) &&& 31).toUInt32).toInt32) &&& (7 : Int32)) &&& 0x3f).toInt64))), .second, .unset, .unset, .unset, .unset, .unset, .unset, .unset, .unset, .unset, .unset, .unset, .unset, .unset, .unset, .unset, .unset, .unset, .unset, .unset, .unset, .unset, .unset, .unset, .unset, .unset] [])) t
    refine XS.iloadN X0.here hx rfl (hb hby at_47) rfl ?_
    refine X0.ldcInt hx hown (mvT hZ (hw _ (List.mem_of_getElem? (i := 0) rfl))) (g := (mkF m 48 #[.val (.int p0), .val (.int p1), .val (.int p2), .val (.int p3), .val (.int p4), .val (.int p5), .val (.long ((1 : Int64) <<< ((p0 &&& (7 : Int32)) &&& 0x3f).toInt64)), .second, .val (.long ((1 : Int64) <<< ((((p0.toUInt32 >>> ((3 : Int32) &&& 31).toUInt32).toInt32) &&& (7 : Int32)) &&& 0x3f).toInt64)), .second, .val (.long ((1 : Int64) <<< ((((p0.toUInt32 >>> ((6 : Int32) &&& 31).toUInt32).toInt32) &&& (7 : Int32)) &&& 0x3f).toInt64)), .second, .val (.long ((1 : Int64) <<< ((p0 &&& (7 : Int32)) &&& 0x3f).toInt64)), .second, .val (.long (((1 : Int64) <<< ((p0 &&& (7 : Int32)) &&& 0x3f).toInt64) + ((1 : Int64) <<< ((((p0.toUInt32 >>> ((3 : Int32) &&& 31).toUInt32).toInt32) &&& (7 : Int32)) &&& 0x3f).toInt64))), .second, .val (.long ((((1 : Int64) <<< ((p0 &&& (7 : Int32)) &&& 0x3f).toInt64) + ((1 : Int64) <<< ((((p0.toUInt32 >>> ((3 : Int32) &&& 31).toUInt32).toInt32) &&& (7 : Int32)) &&& 0x3f).toInt64)) + ((1 : Int64) <<< ((((p0.toUInt32 >>> ((6 : Int32) &&& 31).toUInt32).toInt32) &&& (7 : Int32)) &&& 0x3f).toInt64))), .second, .unset, .unset, .unset, .unset, .unset, .unset, .unset, .unset, .unset, .unset, .unset, .unset, .unset, .unset, .unset, .unset, .unset, .unset, .unset, .unset, .unset, .unset, .unset, .unset, .unset] [(.int p1)])) rfl (hb hby at_48) _ ?_
    refine XS.iand X0.here hx rfl (hb hby at_50) rfl ?_
    refine XS.i2l X0.here hx rfl (hb hby at_51) rfl ?_
    refine XS.lstore X0.here hx rfl (hb hby at_52) rfl (l' := #[.val (.int p0), .val (.int p1), .val (.int p2), .val (.int p3), .val (.int p4), .val (.int p5), .val (.long ((1 : Int64) <<< ((p0 &&& (7 : Int32)) &&& 0x3f).toInt64)), .second, .val (.long ((1 : Int64) <<< ((((p0.toUInt32 >>> ((3 : Int32) &&& 31).toUInt32).toInt32) &&& (7 : Int32)) &&& 0x3f).toInt64)), .second, .val (.long ((1 : Int64) <<< ((((p0.toUInt32 >>> ((6 : Int32) &&& 31).toUInt32).toInt32) &&& (7 : Int32)) &&& 0x3f).toInt64)), .second, .val (.long ((1 : Int64) <<< ((p0 &&& (7 : Int32)) &&& 0x3f).toInt64)), .second, .val (.long (((1 : Int64) <<< ((p0 &&& (7 : Int32)) &&& 0x3f).toInt64) + ((1 : Int64) <<< ((((p0.toUInt32 >>> ((3 : Int32) &&& 31).toUInt32).toInt32) &&& (7 : Int32)) &&& 0x3f).toInt64))), .second, .val (.long ((((1 : Int64) <<< ((p0 &&& (7 : Int32)) &&& 0x3f).toInt64) + ((1 : Int64) <<< ((((p0.toUInt32 >>> ((3 : Int32) &&& 31).toUInt32).toInt32) &&& (7 : Int32)) &&& 0x3f).toInt64)) + ((1 : Int64) <<< ((((p0.toUInt32 >>> ((6 : Int32) &&& 31).toUInt32).toInt32) &&& (7 : Int32)) &&& 0x3f).toInt64))), .second, .val (.long ((p1 &&& (2147483647 : Int32)).toInt64)), .second, .unset, .unset, .unset, .unset, .unset, .unset, .unset, .unset, .unset, .unset, .unset, .unset, .unset, .unset, .unset, .unset, .unset, .unset, .unset, .unset, .unset, .unset, .unset]) rfl ?_
    refine XS.iloadN X0.here hx rfl (hb hby at_54) rfl ?_
    refine X0.ldcInt hx hown (mvT hZ (hw _ (List.mem_of_getElem? (i := 0) rfl))) (g := (mkF m 55 #[.val (.int p0), .val (.int p1), .val (.int p2), .val (.int p3), .val (.int p4), .val (.int p5), .val (.long ((1 : Int64) <<< ((p0 &&& (7 : Int32)) &&& 0x3f).toInt64)), .second, .val (.long ((1 : Int64) <<< ((((p0.toUInt32 >>> ((3 : Int32) &&& 31).toUInt32).toInt32) &&& (7 : Int32)) &&& 0x3f).toInt64)), .second, .val (.long ((1 : Int64) <<< ((((p0.toUInt32 >>> ((6 : Int32) &&& 31).toUInt32).toInt32) &&& (7 : Int32)) &&& 0x3f).toInt64)), .second, .val (.long ((1 : Int64) <<< ((p0 &&& (7 : Int32)) &&& 0x3f).toInt64)), .second, .val (.long (((1 : Int64) <<< ((p0 &&& (7 : Int32)) &&& 0x3f).toInt64) + ((1 : Int64) <<< ((((p0.toUInt32 >>> ((3 : Int32) &&& 31).toUInt32).toInt32) &&& (7 : Int32)) &&& 0x3f).toInt64))), .second, .val (.long ((((1 : Int64) <<< ((p0 &&& (7 : Int32)) &&& 0x3f).toInt64) + ((1 : Int64) <<< ((((p0.toUInt32 >>> ((3 : Int32) &&& 31).toUInt32).toInt32) &&& (7 : Int32)) &&& 0x3f).toInt64)) + ((1 : Int64) <<< ((((p0.toUInt32 >>> ((6 : Int32) &&& 31).toUInt32).toInt32) &&& (7 : Int32)) &&& 0x3f).toInt64))), .second, .val (.long ((p1 &&& (2147483647 : Int32)).toInt64)), .second, .unset, .unset, .unset, .unset, .unset, .unset, .unset, .unset, .unset, .unset, .unset, .unset, .unset, .unset, .unset, .unset, .unset, .unset, .unset, .unset, .unset, .unset, .unset] [(.int p2)])) rfl (hb hby at_55) _ ?_
    refine XS.iand X0.here hx rfl (hb hby at_57) rfl ?_
    show Steps p.tables e below (s₁.setTop (mkF m 58 #[.val (.int p0), .val (.int p1), .val (.int p2), .val (.int p3), .val (.int p4), .val (.int p5), .val (.long ((1 : Int64) <<< ((p0 &&& (7 : Int32)) &&& 0x3f).toInt64)), .second, .val (.long ((1 : Int64) <<< ((((p0.toUInt32 >>> ((3 : Int32) &&& 31).toUInt32).toInt32) &&& (7 : Int32)) &&& 0x3f).toInt64)), .second, .val (.long ((1 : Int64) <<< ((((p0.toUInt32 >>> ((6 : Int32) &&& 31).toUInt32).toInt32) &&& (7 : Int32)) &&& 0x3f).toInt64)), .second, .val (.long ((1 : Int64) <<< ((p0 &&& (7 : Int32)) &&& 0x3f).toInt64)), .second, .val (.long (((1 : Int64) <<< ((p0 &&& (7 : Int32)) &&& 0x3f).toInt64) + ((1 : Int64) <<< ((((p0.toUInt32 >>> ((3 : Int32) &&& 31).toUInt32).toInt32) &&& (7 : Int32)) &&& 0x3f).toInt64))), .second, .val (.long ((((1 : Int64) <<< ((p0 &&& (7 : Int32)) &&& 0x3f).toInt64) + ((1 : Int64) <<< ((((p0.toUInt32 >>> ((3 : Int32) &&& 31).toUInt32).toInt32) &&& (7 : Int32)) &&& 0x3f).toInt64)) + ((1 : Int64) <<< ((((p0.toUInt32 >>> ((6 : Int32) &&& 31).toUInt32).toInt32) &&& (7 : Int32)) &&& 0x3f).toInt64))), .second, .val (.long ((p1 &&& (2147483647 : Int32)).toInt64)), .second, .unset, .unset, .unset, .unset, .unset, .unset, .unset, .unset, .unset, .unset, .unset, .unset, .unset, .unset, .unset, .unset, .unset, .unset, .unset, .unset, .unset, .unset, .unset] [(.int (p2 &&& (2147483647 : Int32)))])) t
    refine XS.i2l X0.here hx rfl (hb hby at_58) rfl ?_
    refine XS.lstore X0.here hx rfl (hb hby at_59) rfl (l' := #[.val (.int p0), .val (.int p1), .val (.int p2), .val (.int p3), .val (.int p4), .val (.int p5), .val (.long ((1 : Int64) <<< ((p0 &&& (7 : Int32)) &&& 0x3f).toInt64)), .second, .val (.long ((1 : Int64) <<< ((((p0.toUInt32 >>> ((3 : Int32) &&& 31).toUInt32).toInt32) &&& (7 : Int32)) &&& 0x3f).toInt64)), .second, .val (.long ((1 : Int64) <<< ((((p0.toUInt32 >>> ((6 : Int32) &&& 31).toUInt32).toInt32) &&& (7 : Int32)) &&& 0x3f).toInt64)), .second, .val (.long ((1 : Int64) <<< ((p0 &&& (7 : Int32)) &&& 0x3f).toInt64)), .second, .val (.long (((1 : Int64) <<< ((p0 &&& (7 : Int32)) &&& 0x3f).toInt64) + ((1 : Int64) <<< ((((p0.toUInt32 >>> ((3 : Int32) &&& 31).toUInt32).toInt32) &&& (7 : Int32)) &&& 0x3f).toInt64))), .second, .val (.long ((((1 : Int64) <<< ((p0 &&& (7 : Int32)) &&& 0x3f).toInt64) + ((1 : Int64) <<< ((((p0.toUInt32 >>> ((3 : Int32) &&& 31).toUInt32).toInt32) &&& (7 : Int32)) &&& 0x3f).toInt64)) + ((1 : Int64) <<< ((((p0.toUInt32 >>> ((6 : Int32) &&& 31).toUInt32).toInt32) &&& (7 : Int32)) &&& 0x3f).toInt64))), .second, .val (.long ((p1 &&& (2147483647 : Int32)).toInt64)), .second, .val (.long ((p2 &&& (2147483647 : Int32)).toInt64)), .second, .unset, .unset, .unset, .unset, .unset, .unset, .unset, .unset, .unset, .unset, .unset, .unset, .unset, .unset, .unset, .unset, .unset, .unset, .unset, .unset, .unset]) rfl ?_
    refine XS.iloadN X0.here hx rfl (hb hby at_61) rfl ?_
    refine X0.ldcInt hx hown (mvT hZ (hw _ (List.mem_of_getElem? (i := 0) rfl))) (g := (mkF m 62 #[.val (.int p0), .val (.int p1), .val (.int p2), .val (.int p3), .val (.int p4), .val (.int p5), .val (.long ((1 : Int64) <<< ((p0 &&& (7 : Int32)) &&& 0x3f).toInt64)), .second, .val (.long ((1 : Int64) <<< ((((p0.toUInt32 >>> ((3 : Int32) &&& 31).toUInt32).toInt32) &&& (7 : Int32)) &&& 0x3f).toInt64)), .second, .val (.long ((1 : Int64) <<< ((((p0.toUInt32 >>> ((6 : Int32) &&& 31).toUInt32).toInt32) &&& (7 : Int32)) &&& 0x3f).toInt64)), .second, .val (.long ((1 : Int64) <<< ((p0 &&& (7 : Int32)) &&& 0x3f).toInt64)), .second, .val (.long (((1 : Int64) <<< ((p0 &&& (7 : Int32)) &&& 0x3f).toInt64) + ((1 : Int64) <<< ((((p0.toUInt32 >>> ((3 : Int32) &&& 31).toUInt32).toInt32) &&& (7 : Int32)) &&& 0x3f).toInt64))), .second, .val (.long ((((1 : Int64) <<< ((p0 &&& (7 : Int32)) &&& 0x3f).toInt64) + ((1 : Int64) <<< ((((p0.toUInt32 >>> ((3 : Int32) &&& 31).toUInt32).toInt32) &&& (7 : Int32)) &&& 0x3f).toInt64)) + ((1 : Int64) <<< ((((p0.toUInt32 >>> ((6 : Int32) &&& 31).toUInt32).toInt32) &&& (7 : Int32)) &&& 0x3f).toInt64))), .second, .val (.long ((p1 &&& (2147483647 : Int32)).toInt64)), .second, .val (.long ((p2 &&& (2147483647 : Int32)).toInt64)), .second, .unset, .unset, .unset, .unset, .unset, .unset, .unset, .unset, .unset, .unset, .unset, .unset, .unset, .unset, .unset, .unset, .unset, .unset, .unset, .unset, .unset] [(.int p3)])) rfl (hb hby at_62) _ ?_
    refine XS.iand X0.here hx rfl (hb hby at_64) rfl ?_
    refine XS.i2l X0.here hx rfl (hb hby at_65) rfl ?_
    refine XS.lstore X0.here hx rfl (hb hby at_66) rfl (l' := #[.val (.int p0), .val (.int p1), .val (.int p2), .val (.int p3), .val (.int p4), .val (.int p5), .val (.long ((1 : Int64) <<< ((p0 &&& (7 : Int32)) &&& 0x3f).toInt64)), .second, .val (.long ((1 : Int64) <<< ((((p0.toUInt32 >>> ((3 : Int32) &&& 31).toUInt32).toInt32) &&& (7 : Int32)) &&& 0x3f).toInt64)), .second, .val (.long ((1 : Int64) <<< ((((p0.toUInt32 >>> ((6 : Int32) &&& 31).toUInt32).toInt32) &&& (7 : Int32)) &&& 0x3f).toInt64)), .second, .val (.long ((1 : Int64) <<< ((p0 &&& (7 : Int32)) &&& 0x3f).toInt64)), .second, .val (.long (((1 : Int64) <<< ((p0 &&& (7 : Int32)) &&& 0x3f).toInt64) + ((1 : Int64) <<< ((((p0.toUInt32 >>> ((3 : Int32) &&& 31).toUInt32).toInt32) &&& (7 : Int32)) &&& 0x3f).toInt64))), .second, .val (.long ((((1 : Int64) <<< ((p0 &&& (7 : Int32)) &&& 0x3f).toInt64) + ((1 : Int64) <<< ((((p0.toUInt32 >>> ((3 : Int32) &&& 31).toUInt32).toInt32) &&& (7 : Int32)) &&& 0x3f).toInt64)) + ((1 : Int64) <<< ((((p0.toUInt32 >>> ((6 : Int32) &&& 31).toUInt32).toInt32) &&& (7 : Int32)) &&& 0x3f).toInt64))), .second, .val (.long ((p1 &&& (2147483647 : Int32)).toInt64)), .second, .val (.long ((p2 &&& (2147483647 : Int32)).toInt64)), .second, .val (.long ((p3 &&& (2147483647 : Int32)).toInt64)), .second, .unset, .unset, .unset, .unset, .unset, .unset, .unset, .unset, .unset, .unset, .unset, .unset, .unset, .unset, .unset, .unset, .unset, .unset, .unset]) rfl ?_
    refine XS.iload X0.here hx rfl (hb hby at_68) rfl ?_
    show Steps p.tables e below (s₁.setTop (mkF m 70 #[.val (.int p0), .val (.int p1), .val (.int p2), .val (.int p3), .val (.int p4), .val (.int p5), .val (.long ((1 : Int64) <<< ((p0 &&& (7 : Int32)) &&& 0x3f).toInt64)), .second, .val (.long ((1 : Int64) <<< ((((p0.toUInt32 >>> ((3 : Int32) &&& 31).toUInt32).toInt32) &&& (7 : Int32)) &&& 0x3f).toInt64)), .second, .val (.long ((1 : Int64) <<< ((((p0.toUInt32 >>> ((6 : Int32) &&& 31).toUInt32).toInt32) &&& (7 : Int32)) &&& 0x3f).toInt64)), .second, .val (.long ((1 : Int64) <<< ((p0 &&& (7 : Int32)) &&& 0x3f).toInt64)), .second, .val (.long (((1 : Int64) <<< ((p0 &&& (7 : Int32)) &&& 0x3f).toInt64) + ((1 : Int64) <<< ((((p0.toUInt32 >>> ((3 : Int32) &&& 31).toUInt32).toInt32) &&& (7 : Int32)) &&& 0x3f).toInt64))), .second, .val (.long ((((1 : Int64) <<< ((p0 &&& (7 : Int32)) &&& 0x3f).toInt64) + ((1 : Int64) <<< ((((p0.toUInt32 >>> ((3 : Int32) &&& 31).toUInt32).toInt32) &&& (7 : Int32)) &&& 0x3f).toInt64)) + ((1 : Int64) <<< ((((p0.toUInt32 >>> ((6 : Int32) &&& 31).toUInt32).toInt32) &&& (7 : Int32)) &&& 0x3f).toInt64))), .second, .val (.long ((p1 &&& (2147483647 : Int32)).toInt64)), .second, .val (.long ((p2 &&& (2147483647 : Int32)).toInt64)), .second, .val (.long ((p3 &&& (2147483647 : Int32)).toInt64)), .second, .unset, .unset, .unset, .unset, .unset, .unset, .unset, .unset, .unset, .unset, .unset, .unset, .unset, .unset, .unset, .unset, .unset, .unset, .unset] [(.int p4)])) t
    refine X0.ldcInt hx hown (mvT hZ (hw _ (List.mem_of_getElem? (i := 0) rfl))) (g := (mkF m 70 #[.val (.int p0), .val (.int p1), .val (.int p2), .val (.int p3), .val (.int p4), .val (.int p5), .val (.long ((1 : Int64) <<< ((p0 &&& (7 : Int32)) &&& 0x3f).toInt64)), .second, .val (.long ((1 : Int64) <<< ((((p0.toUInt32 >>> ((3 : Int32) &&& 31).toUInt32).toInt32) &&& (7 : Int32)) &&& 0x3f).toInt64)), .second, .val (.long ((1 : Int64) <<< ((((p0.toUInt32 >>> ((6 : Int32) &&& 31).toUInt32).toInt32) &&& (7 : Int32)) &&& 0x3f).toInt64)), .second, .val (.long ((1 : Int64) <<< ((p0 &&& (7 : Int32)) &&& 0x3f).toInt64)), .second, .val (.long (((1 : Int64) <<< ((p0 &&& (7 : Int32)) &&& 0x3f).toInt64) + ((1 : Int64) <<< ((((p0.toUInt32 >>> ((3 : Int32) &&& 31).toUInt32).toInt32) &&& (7 : Int32)) &&& 0x3f).toInt64))), .second, .val (.long ((((1 : Int64) <<< ((p0 &&& (7 : Int32)) &&& 0x3f).toInt64) + ((1 : Int64) <<< ((((p0.toUInt32 >>> ((3 : Int32) &&& 31).toUInt32).toInt32) &&& (7 : Int32)) &&& 0x3f).toInt64)) + ((1 : Int64) <<< ((((p0.toUInt32 >>> ((6 : Int32) &&& 31).toUInt32).toInt32) &&& (7 : Int32)) &&& 0x3f).toInt64))), .second, .val (.long ((p1 &&& (2147483647 : Int32)).toInt64)), .second, .val (.long ((p2 &&& (2147483647 : Int32)).toInt64)), .second, .val (.long ((p3 &&& (2147483647 : Int32)).toInt64)), .second, .unset, .unset, .unset, .unset, .unset, .unset, .unset, .unset, .unset, .unset, .unset, .unset, .unset, .unset, .unset, .unset, .unset, .unset, .unset] [(.int p4)])) rfl (hb hby at_70) _ ?_
    refine XS.iand X0.here hx rfl (hb hby at_72) rfl ?_
    refine XS.i2l X0.here hx rfl (hb hby at_73) rfl ?_
    refine XS.lstore X0.here hx rfl (hb hby at_74) rfl (l' := #[.val (.int p0), .val (.int p1), .val (.int p2), .val (.int p3), .val (.int p4), .val (.int p5), .val (.long ((1 : Int64) <<< ((p0 &&& (7 : Int32)) &&& 0x3f).toInt64)), .second, .val (.long ((1 : Int64) <<< ((((p0.toUInt32 >>> ((3 : Int32) &&& 31).toUInt32).toInt32) &&& (7 : Int32)) &&& 0x3f).toInt64)), .second, .val (.long ((1 : Int64) <<< ((((p0.toUInt32 >>> ((6 : Int32) &&& 31).toUInt32).toInt32) &&& (7 : Int32)) &&& 0x3f).toInt64)), .second, .val (.long ((1 : Int64) <<< ((p0 &&& (7 : Int32)) &&& 0x3f).toInt64)), .second, .val (.long (((1 : Int64) <<< ((p0 &&& (7 : Int32)) &&& 0x3f).toInt64) + ((1 : Int64) <<< ((((p0.toUInt32 >>> ((3 : Int32) &&& 31).toUInt32).toInt32) &&& (7 : Int32)) &&& 0x3f).toInt64))), .second, .val (.long ((((1 : Int64) <<< ((p0 &&& (7 : Int32)) &&& 0x3f).toInt64) + ((1 : Int64) <<< ((((p0.toUInt32 >>> ((3 : Int32) &&& 31).toUInt32).toInt32) &&& (7 : Int32)) &&& 0x3f).toInt64)) + ((1 : Int64) <<< ((((p0.toUInt32 >>> ((6 : Int32) &&& 31).toUInt32).toInt32) &&& (7 : Int32)) &&& 0x3f).toInt64))), .second, .val (.long ((p1 &&& (2147483647 : Int32)).toInt64)), .second, .val (.long ((p2 &&& (2147483647 : Int32)).toInt64)), .second, .val (.long ((p3 &&& (2147483647 : Int32)).toInt64)), .second, .val (.long ((p4 &&& (2147483647 : Int32)).toInt64)), .second, .unset, .unset, .unset, .unset, .unset, .unset, .unset, .unset, .unset, .unset, .unset, .unset, .unset, .unset, .unset, .unset, .unset]) rfl ?_
    refine XS.iload X0.here hx rfl (hb hby at_76) rfl ?_
    refine X0.ldcInt hx hown (mvT hZ (hw _ (List.mem_of_getElem? (i := 0) rfl))) (g := (mkF m 78 #[.val (.int p0), .val (.int p1), .val (.int p2), .val (.int p3), .val (.int p4), .val (.int p5), .val (.long ((1 : Int64) <<< ((p0 &&& (7 : Int32)) &&& 0x3f).toInt64)), .second, .val (.long ((1 : Int64) <<< ((((p0.toUInt32 >>> ((3 : Int32) &&& 31).toUInt32).toInt32) &&& (7 : Int32)) &&& 0x3f).toInt64)), .second, .val (.long ((1 : Int64) <<< ((((p0.toUInt32 >>> ((6 : Int32) &&& 31).toUInt32).toInt32) &&& (7 : Int32)) &&& 0x3f).toInt64)), .second, .val (.long ((1 : Int64) <<< ((p0 &&& (7 : Int32)) &&& 0x3f).toInt64)), .second, .val (.long (((1 : Int64) <<< ((p0 &&& (7 : Int32)) &&& 0x3f).toInt64) + ((1 : Int64) <<< ((((p0.toUInt32 >>> ((3 : Int32) &&& 31).toUInt32).toInt32) &&& (7 : Int32)) &&& 0x3f).toInt64))), .second, .val (.long ((((1 : Int64) <<< ((p0 &&& (7 : Int32)) &&& 0x3f).toInt64) + ((1 : Int64) <<< ((((p0.toUInt32 >>> ((3 : Int32) &&& 31).toUInt32).toInt32) &&& (7 : Int32)) &&& 0x3f).toInt64)) + ((1 : Int64) <<< ((((p0.toUInt32 >>> ((6 : Int32) &&& 31).toUInt32).toInt32) &&& (7 : Int32)) &&& 0x3f).toInt64))), .second, .val (.long ((p1 &&& (2147483647 : Int32)).toInt64)), .second, .val (.long ((p2 &&& (2147483647 : Int32)).toInt64)), .second, .val (.long ((p3 &&& (2147483647 : Int32)).toInt64)), .second, .val (.long ((p4 &&& (2147483647 : Int32)).toInt64)), .second, .unset, .unset, .unset, .unset, .unset, .unset, .unset, .unset, .unset, .unset, .unset, .unset, .unset, .unset, .unset, .unset, .unset] [(.int p5)])) rfl (hb hby at_78) _ ?_
    refine XS.iand X0.here hx rfl (hb hby at_80) rfl ?_
    refine XS.i2l X0.here hx rfl (hb hby at_81) rfl ?_
    show Steps p.tables e below (s₁.setTop (mkF m 82 #[.val (.int p0), .val (.int p1), .val (.int p2), .val (.int p3), .val (.int p4), .val (.int p5), .val (.long ((1 : Int64) <<< ((p0 &&& (7 : Int32)) &&& 0x3f).toInt64)), .second, .val (.long ((1 : Int64) <<< ((((p0.toUInt32 >>> ((3 : Int32) &&& 31).toUInt32).toInt32) &&& (7 : Int32)) &&& 0x3f).toInt64)), .second, .val (.long ((1 : Int64) <<< ((((p0.toUInt32 >>> ((6 : Int32) &&& 31).toUInt32).toInt32) &&& (7 : Int32)) &&& 0x3f).toInt64)), .second, .val (.long ((1 : Int64) <<< ((p0 &&& (7 : Int32)) &&& 0x3f).toInt64)), .second, .val (.long (((1 : Int64) <<< ((p0 &&& (7 : Int32)) &&& 0x3f).toInt64) + ((1 : Int64) <<< ((((p0.toUInt32 >>> ((3 : Int32) &&& 31).toUInt32).toInt32) &&& (7 : Int32)) &&& 0x3f).toInt64))), .second, .val (.long ((((1 : Int64) <<< ((p0 &&& (7 : Int32)) &&& 0x3f).toInt64) + ((1 : Int64) <<< ((((p0.toUInt32 >>> ((3 : Int32) &&& 31).toUInt32).toInt32) &&& (7 : Int32)) &&& 0x3f).toInt64)) + ((1 : Int64) <<< ((((p0.toUInt32 >>> ((6 : Int32) &&& 31).toUInt32).toInt32) &&& (7 : Int32)) &&& 0x3f).toInt64))), .second, .val (.long ((p1 &&& (2147483647 : Int32)).toInt64)), .second, .val (.long ((p2 &&& (2147483647 : Int32)).toInt64)), .second, .val (.long ((p3 &&& (2147483647 : Int32)).toInt64)), .second, .val (.long ((p4 &&& (2147483647 : Int32)).toInt64)), .second, .unset, .unset, .unset, .unset, .unset, .unset, .unset, .unset, .unset, .unset, .unset, .unset, .unset, .unset, .unset, .unset, .unset] [(.long ((p5 &&& (2147483647 : Int32)).toInt64))])) t
    refine XS.lload X0.here hx rfl (hb hby at_82) rfl ?_
    refine XS.lconst X0.here hx rfl (hb hby at_84) ?_
    refine XS.ladd X0.here hx rfl (hb hby at_85) rfl ?_
    refine XS.lrem X0.here hx rfl (hb hby at_86) rfl (own_nz _ _ _) ?_
    refine XS.lstore X0.here hx rfl (hb hby at_87) rfl (l' := #[.val (.int p0), .val (.int p1), .val (.int p2), .val (.int p3), .val (.int p4), .val (.int p5), .val (.long ((1 : Int64) <<< ((p0 &&& (7 : Int32)) &&& 0x3f).toInt64)), .second, .val (.long ((1 : Int64) <<< ((((p0.toUInt32 >>> ((3 : Int32) &&& 31).toUInt32).toInt32) &&& (7 : Int32)) &&& 0x3f).toInt64)), .second, .val (.long ((1 : Int64) <<< ((((p0.toUInt32 >>> ((6 : Int32) &&& 31).toUInt32).toInt32) &&& (7 : Int32)) &&& 0x3f).toInt64)), .second, .val (.long ((1 : Int64) <<< ((p0 &&& (7 : Int32)) &&& 0x3f).toInt64)), .second, .val (.long (((1 : Int64) <<< ((p0 &&& (7 : Int32)) &&& 0x3f).toInt64) + ((1 : Int64) <<< ((((p0.toUInt32 >>> ((3 : Int32) &&& 31).toUInt32).toInt32) &&& (7 : Int32)) &&& 0x3f).toInt64))), .second, .val (.long ((((1 : Int64) <<< ((p0 &&& (7 : Int32)) &&& 0x3f).toInt64) + ((1 : Int64) <<< ((((p0.toUInt32 >>> ((3 : Int32) &&& 31).toUInt32).toInt32) &&& (7 : Int32)) &&& 0x3f).toInt64)) + ((1 : Int64) <<< ((((p0.toUInt32 >>> ((6 : Int32) &&& 31).toUInt32).toInt32) &&& (7 : Int32)) &&& 0x3f).toInt64))), .second, .val (.long ((p1 &&& (2147483647 : Int32)).toInt64)), .second, .val (.long ((p2 &&& (2147483647 : Int32)).toInt64)), .second, .val (.long ((p3 &&& (2147483647 : Int32)).toInt64)), .second, .val (.long ((p4 &&& (2147483647 : Int32)).toInt64)), .second, .val (.long (((p5 &&& (2147483647 : Int32)).toInt64) - ((p5 &&& (2147483647 : Int32)).toInt64) / (((((1 : Int64) <<< ((p0 &&& (7 : Int32)) &&& 0x3f).toInt64) + ((1 : Int64) <<< ((((p0.toUInt32 >>> ((3 : Int32) &&& 31).toUInt32).toInt32) &&& (7 : Int32)) &&& 0x3f).toInt64)) + ((1 : Int64) <<< ((((p0.toUInt32 >>> ((6 : Int32) &&& 31).toUInt32).toInt32) &&& (7 : Int32)) &&& 0x3f).toInt64)) + (1 : Int64)) * (((((1 : Int64) <<< ((p0 &&& (7 : Int32)) &&& 0x3f).toInt64) + ((1 : Int64) <<< ((((p0.toUInt32 >>> ((3 : Int32) &&& 31).toUInt32).toInt32) &&& (7 : Int32)) &&& 0x3f).toInt64)) + ((1 : Int64) <<< ((((p0.toUInt32 >>> ((6 : Int32) &&& 31).toUInt32).toInt32) &&& (7 : Int32)) &&& 0x3f).toInt64)) + (1 : Int64)))), .second, .unset, .unset, .unset, .unset, .unset, .unset, .unset, .unset, .unset, .unset, .unset, .unset, .unset, .unset, .unset]) rfl ?_
    exact k
  exact hJ89 _ _ _ _ _ _ _ _ _ _ _ (own_hT _ _ _ _ _ _ _ _)
set_option maxRecDepth 65536 in
set_option maxHeartbeats 40000000 in
theorem comes_1 {Post : Tables → Env → Array Value → State → Outcome → State → Prop} (hpost : ∀ tb e args s v u, (limb_1_1.after args s (.returned v) u = true ∧ limb_1_2.after args s (.returned v) u = true ∧ True) → FrameEnd s (.returned v) u (Jvm.fieldLocs frame_1_writes args s ++ Jvm.arrayLocs frame_1_arrays args s ++ Jvm.staticLocs frame_1_statics s) 24 128 → Post tb e args s (.returned v) u) :
    ArmFor flags0 classFile x code maxLocals ret World_1 tables_1 room_1 Calls_1 rest_1 Pre_1 Post := by
  intro l hfl _ _ p e ha hc hk s m args below hf hA hF happ hP
  obtain ⟨hcalls, hrest, hpre⟩ := hP
  obtain ⟨-, -, -, hnamed, -, -, -, hat⟩ := (Spec.applies_iff hf).mp happ
  obtain ⟨hg, hn⟩ := and_e (Cond.before_iff.mp (show (Jvm.Cond.and given_1 narrow_1).before args s = true from hpre))
  obtain ⟨g0, gg0⟩ := and_e hg
  obtain ⟨g1, gg1⟩ := and_e gg0
  obtain ⟨g2, gg2⟩ := and_e gg1
  obtain ⟨g3, gg3⟩ := and_e gg2
  obtain ⟨g4, gg4⟩ := and_e gg3
  obtain ⟨g5, gg5⟩ := and_e gg4
  obtain ⟨w0, w1, w2, w3, w4, w5, rfl⟩ : ∃ w0 w1 w2 w3 w4 w5 : Value, args = #[w0, w1, w2, w3, w4, w5] := by
    have hs : args.size = 6 := by simpa [Cond.value, given_1] using g0
    obtain ⟨L⟩ := args
    match L, hs with
    | [w0, w1, w2, w3, w4, w5], _ => exact ⟨w0, w1, w2, w3, w4, w5, rfl⟩
  have hw := fun d (hd : d ∈ tables_1) => atoms_spec (ws := Jvm.Cond.code x code maxLocals ret :: tables_1) hat d (List.mem_cons_of_mem _ hd)
  have hfit : Fit s := fun {y c} hc i hi => by
    obtain ⟨ha, rfl⟩ := Array.getElem?_eq_some_iff.mp hc
    have q := List.all_eq_true.mp ((Array.all_eq_true_iff_forall_mem.mp hF) _ (Array.getElem_mem ha)) i (List.mem_range.mpr hi)
    simpa [Array.getElem?_eq_getElem hi] using q
  obtain ⟨p0, ei0⟩ := is_v g1
  obtain rfl : w0 = (.int p0) := Option.some.inj ei0
  obtain ⟨p1, ei1⟩ := is_v g2
  obtain rfl : w1 = (.int p1) := Option.some.inj ei1
  obtain ⟨p2, ei2⟩ := is_v g3
  obtain rfl : w2 = (.int p2) := Option.some.inj ei2
  obtain ⟨p3, ei3⟩ := is_v g4
  obtain rfl : w3 = (.int p3) := Option.some.inj ei3
  obtain ⟨p4, ei4⟩ := is_v g5
  obtain rfl : w4 = (.int p4) := Option.some.inj ei4
  obtain ⟨p5, ei5⟩ := is_v gg5
  obtain rfl : w5 = (.int p5) := Option.some.inj ei5
  obtain ⟨n, o, h1, h2, h3, _, L, rfl, ⟨rfl, N⟩, hq⟩ := rm0 l s _ hw tables_1 p0 p1 p2 p3 p4 p5 s.heap s.heap.size (Nat.le_refl _) p e ha hc hk s m _ below hf ((Spec.applies_iff_loose hf).mp happ).1 ⟨rfl, State.Warmed39.refl s, rfl⟩ trivial
  refine ⟨n, _, h1, h2, h3, hpost _ _ _ _ _ _ ⟨Cond.after_iff.mpr rfl, Cond.after_iff.mpr (eq_i res_at (Term.int_eval (1)) rfl), trivial⟩ ⟨hq.1, hq.2.1, (hq.2.2.sift fun y hy => Or.inr (N y hy)).mono (by decide) (by decide)⟩⟩
theorem main_1_1 : Claimed_1_1 := comes_1 fun _ _ _ _ _ _ h hF => ⟨h.1, hF⟩
theorem main_1_2 : Claimed_1_2 := comes_1 fun _ _ _ _ _ _ h hF => ⟨h.2.1, hF⟩
end Jvm.Pilot.@@N@@
namespace Jvm.Pilot.@@N@@
open Jvm Jvm.ClassFile Sem Op Lib Jvm.Free Jvm.Stand Jvm.Pilot.@@N@@.Jvm.D
/-! MADE BY PROGRAM (witnessworld.py) out of the Statement's table words and the real class files: 18 classes; the members and pool entries that the words name. The judged class is class 1, her method 1. -/
namespace start1
open Jvm.ClassFile
def u (s : String) : CpInfo := .utf8 (stringToUtf16 s)
/-- a pool by its gaps: so many unusable entries, then the entry; so many at the end -/
def gap : Nat → List CpInfo → List CpInfo
  | 0, r => r
  | n + 1, r => .unusable :: gap n r
def poolList (es : List (Nat × CpInfo)) (last : Nat) : List CpInfo := es.foldr (fun e r => gap e.1 (e.2 :: r)) (gap last [])
def pool (es : List (Nat × CpInfo)) (last : Nat) : Array CpInfo := ⟨poolList es last⟩
def fileOf (pool : Array CpInfo) (this : Nat) (attrs : Array Attribute := #[]) (ms : Array MethodInfo := #[]) (fl : Nat := 33) (sup : Nat := 0) (ifs : Array Nat := #[]) (fds : Array FieldInfo := #[]) : ClassFile where
  minorVersion := 0
  majorVersion := 65
  constantPool := pool
  accessFlags := fl
  thisClass := this
  superClass := sup
  interfaces := ifs
  fields := fds
  methods := ms
  attributes := attrs
def plain (name : String) (sup : Option ClassId) : Class where
  name := name
  kind := .ordinary
  loader := none
  accessFlags := 33
  super := sup
  interfaces := #[]
  cf := none
  fields := #[]
  methods := #[]
  instanceTypes := #[]
  staticTypes := #[]
  resolved := #[]
  callSites := []
  init := .initialized
  statics := none
  mirror := none

def pool0 : Array CpInfo := pool [(5, u "<init>"), (0, u "()V"), (1, .class_ 10), (1, u "java/lang/Object"), (85, u "clone"), (0, u "()Ljava/lang/Object;")] 26

def k0c0 : Code := { maxStack := 0, maxLocals := 1, code := object_method_1_code, exceptionTable := #[], attributes := #[] }
def k0m0 : Method := { name := "<init>", desc := "()V", sig := { parameters := [], returnType := none }, accessFlags := 1, code := some k0c0 }
def k0m1 : Method := { name := "clone", desc := "()Ljava/lang/Object;", sig := { parameters := [], returnType := some (.object "java/lang/Object") }, accessFlags := 260, code := none }
/-- java/lang/Object -/
def k0 : Class := { plain "java/lang/Object" none with
  accessFlags := 33
  interfaces := #[]
  cf := some (fileOf pool0 8 #[] #[{ accessFlags := 1, nameIndex := 5, descriptorIndex := 6, attributes := #[] }, { accessFlags := 260, nameIndex := 96, descriptorIndex := 97, attributes := #[] }] 33 0 #[] #[])
  fields := #[]
  methods := #[k0m0, k0m1]
  instanceTypes := #[]
  staticTypes := #[]
  resolved := Array.replicate 124 none
  statics := none }

def pool1 : Array CpInfo := pool [(2, .class_ 4), (1, u "java/lang/Object"), (0, u "<init>"), (0, u "()V"), (0, .integer 2147483647), (0, .class_ 9), (0, u "com/example/corewright/corewright/equilibrium/Strategy"), (0, .methodref 8 11), (0, .nameAndType 5 12), (0, u "([D[D)V"), (0, .methodref 8 14), (0, .nameAndType 15 16), (0, u "bid"), (0, u "(D)D"), (0, .class_ 18), (0, u "com/example/corewright/corewright/equilibrium/StrategyBidPinLaw"), (2, u "law"), (0, u "(IIIIII)Z")] 5

def k1m0 : Method := { name := "<init>", desc := "()V", sig := { parameters := [], returnType := none }, accessFlags := 1, code := none }
def k1c1 : Code := { maxStack := 8, maxLocals := 43, code := code, exceptionTable := #[], attributes := #[] }
def k1m1 : Method := { name := "law", desc := "(IIIIII)Z", sig := { parameters := [.int, .int, .int, .int, .int, .int], returnType := some .boolean }, accessFlags := 9, code := some k1c1 }
/-- com/example/corewright/corewright/equilibrium/StrategyBidPinLaw -/
def k1 : Class := { plain "com/example/corewright/corewright/equilibrium/StrategyBidPinLaw" (some 0) with
  accessFlags := 49
  interfaces := #[]
  cf := some (fileOf pool1 17 #[] #[{ accessFlags := 1, nameIndex := 5, descriptorIndex := 6, attributes := #[] }, { accessFlags := 9, nameIndex := 21, descriptorIndex := 22, attributes := #[] }] 49 2 #[] #[])
  fields := #[]
  methods := #[k1m0, k1m1]
  instanceTypes := #[]
  staticTypes := #[]
  resolved := Array.replicate 28 none
  statics := none }

def pool2 : Array CpInfo := pool [(2, .class_ 4), (1, u "com/example/corewright/corewright/equilibrium/Strategy"), (4, u "<init>"), (0, u "([D[D)V"), (0, .methodref 12 13), (0, .class_ 14), (0, .nameAndType 9 15), (0, u "java/lang/Object"), (0, u "()V"), (11, .methodref 28 29), (0, .class_ 30), (0, .nameAndType 31 32), (0, u "java/lang/Double"), (0, u "isInfinite"), (0, u "(D)Z"), (6, .methodref 40 41), (0, .class_ 42), (0, .nameAndType 43 44), (0, u "[D"), (0, u "clone"), (0, u "()Ljava/lang/Object;"), (0, .fieldref 2 46), (0, .nameAndType 47 42), (0, u "values"), (0, .fieldref 2 49), (0, .nameAndType 50 42), (0, u "bids"), (2, .methodref 54 55), (0, .class_ 56), (0, .nameAndType 57 58), (0, u "java/util/Arrays"), (0, u "binarySearch"), (0, u "([DD)I"), (0, .methodref 60 61), (0, .class_ 62), (0, .nameAndType 63 64), (0, u "java/lang/Math"), (0, u "max"), (0, u "(II)I"), (0, .methodref 60 66), (0, .nameAndType 67 64), (0, u "min"), (13, u "bid"), (0, u "(D)D")] 21

def k2c0 : Code := { maxStack := 5, maxLocals := 8, code := prog_21_method_2_code, exceptionTable := #[], attributes := #[] }
def k2m0 : Method := { name := "<init>", desc := "([D[D)V", sig := { parameters := [(.array .double), (.array .double)], returnType := none }, accessFlags := 1, code := some k2c0 }
def k2c1 : Code := { maxStack := 8, maxLocals := 8, code := prog_21_method_9_code, exceptionTable := #[], attributes := #[] }
def k2m1 : Method := { name := "bid", desc := "(D)D", sig := { parameters := [.double], returnType := some .double }, accessFlags := 1, code := some k2c1 }
/-- com/example/corewright/corewright/equilibrium/Strategy -/
def k2 : Class := { plain "com/example/corewright/corewright/equilibrium/Strategy" (some 0) with
  accessFlags := 49
  interfaces := #[]
  cf := some (fileOf pool2 2 #[] #[{ accessFlags := 1, nameIndex := 9, descriptorIndex := 10, attributes := #[] }, { accessFlags := 1, nameIndex := 81, descriptorIndex := 82, attributes := #[] }] 49 12 #[] #[{ accessFlags := 18, nameIndex := 47, descriptorIndex := 42, attributes := #[] }, { accessFlags := 18, nameIndex := 50, descriptorIndex := 42, attributes := #[] }])
  fields := #[{ name := "values", type := (.array .double), accessFlags := 18, slot := 0, constantValue := 0 }, { name := "bids", type := (.array .double), accessFlags := 18, slot := 1, constantValue := 0 }]
  methods := #[k2m0, k2m1]
  instanceTypes := #[(.array .double), (.array .double)]
  staticTypes := #[]
  resolved := Array.replicate 104 none
  statics := none }

def pool3 : Array CpInfo := pool [(1, .class_ 2), (0, u "java/io/Serializable"), (0, .class_ 4), (0, u "java/lang/Object")] 2

/-- java/io/Serializable -/
def k3 : Class := { plain "java/io/Serializable" (some 0) with
  accessFlags := 1537
  interfaces := #[]
  cf := some (fileOf pool3 1 #[] #[] 1537 3 #[] #[])
  fields := #[]
  methods := #[]
  instanceTypes := #[]
  staticTypes := #[]
  resolved := Array.replicate 7 none
  statics := none }

def pool4 : Array CpInfo := pool [(2, .class_ 4), (1, u "java/lang/Object"), (0, u "<init>"), (0, u "()V"), (1, .class_ 10), (1, u "java/lang/Number"), (2, .class_ 14), (0, u "java/io/Serializable"), (0, u "serialVersionUID"), (0, u "J")] 20

def k4m0 : Method := { name := "<init>", desc := "()V", sig := { parameters := [], returnType := none }, accessFlags := 1, code := none }
/-- java/lang/Number -/
def k4 : Class := { plain "java/lang/Number" (some 0) with
  accessFlags := 1057
  interfaces := #[3]
  cf := some (fileOf pool4 8 #[] #[{ accessFlags := 1, nameIndex := 5, descriptorIndex := 6, attributes := #[] }] 1057 2 #[13] #[{ accessFlags := 26, nameIndex := 15, descriptorIndex := 16, attributes := #[] }])
  fields := #[{ name := "serialVersionUID", type := .long, accessFlags := 26, slot := 0, constantValue := 0 }]
  methods := #[k4m0]
  instanceTypes := #[]
  staticTypes := #[.long]
  resolved := Array.replicate 37 none
  statics := none }

def pool5 : Array CpInfo := pool [(1, .class_ 2), (0, u "java/lang/Comparable"), (0, .class_ 4), (0, u "java/lang/Object")] 7

/-- java/lang/Comparable -/
def k5 : Class := { plain "java/lang/Comparable" (some 0) with
  accessFlags := 1537
  interfaces := #[]
  cf := some (fileOf pool5 1 #[] #[] 1537 3 #[] #[])
  fields := #[]
  methods := #[]
  instanceTypes := #[]
  staticTypes := #[]
  resolved := Array.replicate 12 none
  statics := none }

def pool6 : Array CpInfo := pool [(1, .class_ 2), (0, u "java/lang/constant/Constable"), (0, .class_ 4), (0, u "java/lang/Object")] 6

/-- java/lang/constant/Constable -/
def k6 : Class := { plain "java/lang/constant/Constable" (some 0) with
  accessFlags := 1537
  interfaces := #[]
  cf := some (fileOf pool6 1 #[] #[] 1537 3 #[] #[])
  fields := #[]
  methods := #[]
  instanceTypes := #[]
  staticTypes := #[]
  resolved := Array.replicate 11 none
  statics := none }

def pool7 : Array CpInfo := pool [(1, .class_ 2), (0, u "java/lang/constant/ConstantDesc"), (0, .class_ 4), (0, u "java/lang/Object")] 32

/-- java/lang/constant/ConstantDesc -/
def k7 : Class := { plain "java/lang/constant/ConstantDesc" (some 0) with
  accessFlags := 1537
  interfaces := #[]
  cf := some (fileOf pool7 1 #[] #[] 1537 3 #[] #[])
  fields := #[]
  methods := #[]
  instanceTypes := #[]
  staticTypes := #[]
  resolved := Array.replicate 37 none
  statics := none }

def pool8 : Array CpInfo := pool [(1, .class_ 2), (0, u "java/lang/Double"), (11, u "(D)Z"), (8, .class_ 25), (1, u "java/lang/Math"), (12, .methodref 23 39), (0, .nameAndType 40 41), (0, u "abs"), (0, u "(D)D"), (6, u "doubleToLongBits"), (0, u "(D)J"), (61, .double 9218868437227405311), (2, .class_ 116), (1, u "java/lang/Number"), (3, u "value"), (0, u "D"), (0, .methodref 1 123), (0, .nameAndType 124 14), (0, u "isNaN"), (2, u "isInfinite"), (6, .methodref 1 135), (0, .nameAndType 136 49), (0, u "doubleToRawLongBits"), (36, u "TYPE"), (0, u "Ljava/lang/Class;"), (0, .class_ 176), (0, u "java/lang/Comparable"), (0, .class_ 178), (0, u "java/lang/constant/Constable"), (0, .class_ 180), (0, u "java/lang/constant/ConstantDesc"), (0, u "POSITIVE_INFINITY"), (3, u "NEGATIVE_INFINITY"), (2, u "NaN"), (2, u "MAX_VALUE"), (0, u "MIN_NORMAL"), (0, u "MIN_VALUE"), (2, u "SIZE"), (0, u "I"), (1, u "PRECISION"), (1, u "MAX_EXPONENT"), (1, u "MIN_EXPONENT"), (1, u "BYTES"), (3, u "serialVersionUID"), (0, u "J")] 79

def k8c0 : Code := { maxStack := 4, maxLocals := 2, code := jdk_117_method_6_code, exceptionTable := #[], attributes := #[] }
def k8m0 : Method := { name := "isNaN", desc := "(D)Z", sig := { parameters := [.double], returnType := some .boolean }, accessFlags := 9, code := some k8c0 }
def k8c1 : Code := { maxStack := 4, maxLocals := 2, code := jdk_117_method_7_code, exceptionTable := #[], attributes := #[] }
def k8m1 : Method := { name := "isInfinite", desc := "(D)Z", sig := { parameters := [.double], returnType := some .boolean }, accessFlags := 9, code := some k8c1 }
def k8c2 : Code := { maxStack := 2, maxLocals := 2, code := jdk_117_method_23_code, exceptionTable := #[], attributes := #[] }
def k8m2 : Method := { name := "doubleToLongBits", desc := "(D)J", sig := { parameters := [.double], returnType := some .long }, accessFlags := 9, code := some k8c2 }
def k8m3 : Method := { name := "doubleToRawLongBits", desc := "(D)J", sig := { parameters := [.double], returnType := some .long }, accessFlags := 265, code := none }
/-- java/lang/Double -/
def k8 : Class := { plain "java/lang/Double" (some 4) with
  accessFlags := 49
  interfaces := #[5, 6, 7]
  cf := some (fileOf pool8 1 #[] #[{ accessFlags := 9, nameIndex := 124, descriptorIndex := 14, attributes := #[] }, { accessFlags := 9, nameIndex := 127, descriptorIndex := 14, attributes := #[] }, { accessFlags := 9, nameIndex := 48, descriptorIndex := 49, attributes := #[] }, { accessFlags := 265, nameIndex := 136, descriptorIndex := 49, attributes := #[] }] 49 114 #[175, 177, 179] #[{ accessFlags := 25, nameIndex := 181, descriptorIndex := 121, attributes := #[] }, { accessFlags := 25, nameIndex := 185, descriptorIndex := 121, attributes := #[] }, { accessFlags := 25, nameIndex := 188, descriptorIndex := 121, attributes := #[] }, { accessFlags := 25, nameIndex := 191, descriptorIndex := 121, attributes := #[] }, { accessFlags := 25, nameIndex := 192, descriptorIndex := 121, attributes := #[] }, { accessFlags := 25, nameIndex := 193, descriptorIndex := 121, attributes := #[] }, { accessFlags := 25, nameIndex := 196, descriptorIndex := 197, attributes := #[] }, { accessFlags := 25, nameIndex := 199, descriptorIndex := 197, attributes := #[] }, { accessFlags := 25, nameIndex := 201, descriptorIndex := 197, attributes := #[] }, { accessFlags := 25, nameIndex := 203, descriptorIndex := 197, attributes := #[] }, { accessFlags := 25, nameIndex := 205, descriptorIndex := 197, attributes := #[] }, { accessFlags := 25, nameIndex := 173, descriptorIndex := 174, attributes := #[] }, { accessFlags := 18, nameIndex := 120, descriptorIndex := 121, attributes := #[] }, { accessFlags := 26, nameIndex := 209, descriptorIndex := 210, attributes := #[] }])
  fields := #[{ name := "POSITIVE_INFINITY", type := .double, accessFlags := 25, slot := 0, constantValue := 0 }, { name := "NEGATIVE_INFINITY", type := .double, accessFlags := 25, slot := 1, constantValue := 0 }, { name := "NaN", type := .double, accessFlags := 25, slot := 2, constantValue := 0 }, { name := "MAX_VALUE", type := .double, accessFlags := 25, slot := 3, constantValue := 0 }, { name := "MIN_NORMAL", type := .double, accessFlags := 25, slot := 4, constantValue := 0 }, { name := "MIN_VALUE", type := .double, accessFlags := 25, slot := 5, constantValue := 0 }, { name := "SIZE", type := .int, accessFlags := 25, slot := 6, constantValue := 0 }, { name := "PRECISION", type := .int, accessFlags := 25, slot := 7, constantValue := 0 }, { name := "MAX_EXPONENT", type := .int, accessFlags := 25, slot := 8, constantValue := 0 }, { name := "MIN_EXPONENT", type := .int, accessFlags := 25, slot := 9, constantValue := 0 }, { name := "BYTES", type := .int, accessFlags := 25, slot := 10, constantValue := 0 }, { name := "TYPE", type := (.object "java/lang/Class"), accessFlags := 25, slot := 11, constantValue := 0 }, { name := "value", type := .double, accessFlags := 18, slot := 0, constantValue := 0 }, { name := "serialVersionUID", type := .long, accessFlags := 26, slot := 12, constantValue := 0 }]
  methods := #[k8m0, k8m1, k8m2, k8m3]
  instanceTypes := #[.double]
  staticTypes := #[.double, .double, .double, .double, .double, .double, .int, .int, .int, .int, .int, (.object "java/lang/Class"), .long]
  resolved := Array.replicate 290 none
  statics := none }

def pool9 : Array CpInfo := pool [(1, .class_ 2), (0, u "java/lang/Math"), (1, .class_ 6), (1, u "java/lang/Object"), (0, u "<init>"), (0, u "()V"), (5, u "(D)D"), (83, .class_ 100), (1, u "java/lang/Math$RandomNumberGeneratorHolder"), (23, u "abs"), (47, u "negativeZeroFloatBits"), (0, u "J"), (2, u "negativeZeroDoubleBits"), (21, u "max"), (2, u "min"), (43, u "$assertionsDisabled"), (0, u "Z"), (88, u "(II)I"), (2, u "twoToTheDoubleScaleDown"), (0, u "D"), (4, u "twoToTheDoubleScaleUp"), (9, u "E"), (3, u "PI"), (2, u "TAU"), (2, u "DEGREES_TO_RADIANS"), (0, u "RADIANS_TO_DEGREES")] 94

def k9m0 : Method := { name := "<init>", desc := "()V", sig := { parameters := [], returnType := none }, accessFlags := 2, code := none }
def k9c1 : Code := { maxStack := 4, maxLocals := 2, code := jdk_29_method_64_code, exceptionTable := #[], attributes := #[] }
def k9m1 : Method := { name := "abs", desc := "(D)D", sig := { parameters := [.double], returnType := some .double }, accessFlags := 9, code := some k9c1 }
def k9c2 : Code := { maxStack := 2, maxLocals := 2, code := jdk_29_method_65_code, exceptionTable := #[], attributes := #[] }
def k9m2 : Method := { name := "max", desc := "(II)I", sig := { parameters := [.int, .int], returnType := some .int }, accessFlags := 9, code := some k9c2 }
def k9c3 : Code := { maxStack := 2, maxLocals := 2, code := jdk_29_method_69_code, exceptionTable := #[], attributes := #[] }
def k9m3 : Method := { name := "min", desc := "(II)I", sig := { parameters := [.int, .int], returnType := some .int }, accessFlags := 9, code := some k9c3 }
/-- java/lang/Math -/
def k9 : Class := { plain "java/lang/Math" (some 0) with
  accessFlags := 49
  interfaces := #[]
  cf := some (fileOf pool9 1 #[.nestMembers #[98]] #[{ accessFlags := 2, nameIndex := 7, descriptorIndex := 8, attributes := #[] }, { accessFlags := 9, nameIndex := 124, descriptorIndex := 14, attributes := #[] }, { accessFlags := 9, nameIndex := 198, descriptorIndex := 335, attributes := #[] }, { accessFlags := 9, nameIndex := 201, descriptorIndex := 335, attributes := #[] }] 49 4 #[] #[{ accessFlags := 25, nameIndex := 354, descriptorIndex := 339, attributes := #[] }, { accessFlags := 25, nameIndex := 358, descriptorIndex := 339, attributes := #[] }, { accessFlags := 25, nameIndex := 361, descriptorIndex := 339, attributes := #[] }, { accessFlags := 26, nameIndex := 364, descriptorIndex := 339, attributes := #[] }, { accessFlags := 26, nameIndex := 365, descriptorIndex := 339, attributes := #[] }, { accessFlags := 26, nameIndex := 172, descriptorIndex := 173, attributes := #[] }, { accessFlags := 26, nameIndex := 176, descriptorIndex := 173, attributes := #[] }, { accessFlags := 8, nameIndex := 344, descriptorIndex := 339, attributes := #[] }, { accessFlags := 8, nameIndex := 338, descriptorIndex := 339, attributes := #[] }, { accessFlags := 4120, nameIndex := 245, descriptorIndex := 246, attributes := #[] }])
  fields := #[{ name := "E", type := .double, accessFlags := 25, slot := 0, constantValue := 0 }, { name := "PI", type := .double, accessFlags := 25, slot := 1, constantValue := 0 }, { name := "TAU", type := .double, accessFlags := 25, slot := 2, constantValue := 0 }, { name := "DEGREES_TO_RADIANS", type := .double, accessFlags := 26, slot := 3, constantValue := 0 }, { name := "RADIANS_TO_DEGREES", type := .double, accessFlags := 26, slot := 4, constantValue := 0 }, { name := "negativeZeroFloatBits", type := .long, accessFlags := 26, slot := 5, constantValue := 0 }, { name := "negativeZeroDoubleBits", type := .long, accessFlags := 26, slot := 6, constantValue := 0 }, { name := "twoToTheDoubleScaleUp", type := .double, accessFlags := 8, slot := 7, constantValue := 0 }, { name := "twoToTheDoubleScaleDown", type := .double, accessFlags := 8, slot := 8, constantValue := 0 }, { name := "$assertionsDisabled", type := .boolean, accessFlags := 4120, slot := 9, constantValue := 0 }]
  methods := #[k9m0, k9m1, k9m2, k9m3]
  instanceTypes := #[]
  staticTypes := #[.double, .double, .double, .double, .double, .long, .long, .double, .double, .boolean]
  resolved := Array.replicate 460 none
  statics := none }

def pool10 : Array CpInfo := pool [(1, .class_ 2), (0, u "java/lang/Cloneable"), (0, .class_ 4), (0, u "java/lang/Object")] 2

/-- java/lang/Cloneable -/
def k10 : Class := { plain "java/lang/Cloneable" (some 0) with
  accessFlags := 1537
  interfaces := #[]
  cf := some (fileOf pool10 1 #[] #[] 1537 3 #[] #[])
  fields := #[]
  methods := #[]
  instanceTypes := #[]
  staticTypes := #[]
  resolved := Array.replicate 7 none
  statics := none }

def pool11 : Array CpInfo := pool [(2, .class_ 4), (1, u "java/lang/Object"), (0, u "<init>"), (0, u "()V"), (7, .class_ 16), (1, u "java/util/Arrays"), (57, .class_ 76), (1, u "java/util/Arrays$NaturalOrder"), (36, .class_ 115), (1, u "java/util/Arrays$LegacyMergeSort"), (1, u "Z"), (89, u "binarySearch0"), (13, .methodref 14 222), (0, .nameAndType 207 223), (0, u "([DIID)I"), (0, .methodref 225 226), (0, .class_ 227), (0, .nameAndType 228 229), (0, u "java/lang/Double"), (0, u "doubleToLongBits"), (0, u "(D)J"), (145, .class_ 376), (0, u "java/util/Arrays$ArrayList"), (68, u "$assertionsDisabled"), (269, u "MIN_ARRAY_SORT_GRAN"), (0, u "I"), (2, u "INSERTIONSORT_THRESHOLD"), (74, u "binarySearch"), (11, u "([DD)I"), (168, .class_ 976), (0, u "java/util/Arrays$ArrayItr")] 52

def k11m0 : Method := { name := "<init>", desc := "()V", sig := { parameters := [], returnType := none }, accessFlags := 2, code := none }
def k11c1 : Code := { maxStack := 5, maxLocals := 3, code := jdk_65_method_69_code, exceptionTable := #[], attributes := #[] }
def k11m1 : Method := { name := "binarySearch", desc := "([DD)I", sig := { parameters := [(.array .double), .double], returnType := some .int }, accessFlags := 9, code := some k11c1 }
def k11c2 : Code := { maxStack := 4, maxLocals := 14, code := jdk_65_method_71_code, exceptionTable := #[], attributes := #[] }
def k11m2 : Method := { name := "binarySearch0", desc := "([DIID)I", sig := { parameters := [(.array .double), .int, .int, .double], returnType := some .int }, accessFlags := 10, code := some k11c2 }
/-- java/util/Arrays -/
def k11 : Class := { plain "java/util/Arrays" (some 0) with
  accessFlags := 49
  interfaces := #[]
  cf := some (fileOf pool11 14 #[.nestMembers #[975, 375, 113, 74]] #[{ accessFlags := 2, nameIndex := 5, descriptorIndex := 6, attributes := #[] }, { accessFlags := 9, nameIndex := 794, descriptorIndex := 806, attributes := #[] }, { accessFlags := 10, nameIndex := 207, descriptorIndex := 223, attributes := #[] }] 49 2 #[] #[{ accessFlags := 26, nameIndex := 715, descriptorIndex := 716, attributes := #[] }, { accessFlags := 26, nameIndex := 719, descriptorIndex := 716, attributes := #[] }, { accessFlags := 4120, nameIndex := 445, descriptorIndex := 117, attributes := #[] }])
  fields := #[{ name := "MIN_ARRAY_SORT_GRAN", type := .int, accessFlags := 26, slot := 0, constantValue := 0 }, { name := "INSERTIONSORT_THRESHOLD", type := .int, accessFlags := 26, slot := 1, constantValue := 0 }, { name := "$assertionsDisabled", type := .boolean, accessFlags := 4120, slot := 2, constantValue := 0 }]
  methods := #[k11m0, k11m1, k11m2]
  instanceTypes := #[]
  staticTypes := #[.int, .int, .boolean]
  resolved := Array.replicate 1029 none
  statics := none }

/-- the primitive byte -/
def k12 : Class := { plain "byte" none with kind := .primitive 'B', accessFlags := 0x411 }
/-- [B -/
def k13 : Class := { plain "[B" (some 0) with kind := .array 12 .byte, interfaces := #[10, 3], accessFlags := 1041 }

/-- the primitive double -/
def k14 : Class := { plain "double" none with kind := .primitive 'D', accessFlags := 0x411 }
/-- [D -/
def k15 : Class := { plain "[D" (some 0) with kind := .array 14 .double, interfaces := #[10, 3], accessFlags := 1041 }

/-- the primitive int -/
def k16 : Class := { plain "int" none with kind := .primitive 'I', accessFlags := 0x411 }
/-- [I -/
def k17 : Class := { plain "[I" (some 0) with kind := .array 16 .int, interfaces := #[10, 3], accessFlags := 1041 }

def heap : Heap := #[]
def classes : Array Class := #[k0, k1, k2, k3, k4, k5, k6, k7, k8, k9, k10, k11, k12, k13, k14, k15, k16, k17]
def interned : List (Array UInt16 × Addr) := []
def slotsUsed : Nat := 0
def theMethod : MethodId := ⟨1, 1⟩
def args0 : Array Value := #[.int 1, .int 1, .int 1, .int 1, .int 1, .int 1]
def aboutOver (below : List Frame) : State where
  vm := { classes := classes, interned := interned.toArray }
  heap := heap
  slotsUsed := slotsUsed
  threads := #[{ frames := .invoking theMethod args0 :: below }]
def below0 : List Frame := [.native { method := ⟨0, 0⟩, args := #[] }]
def about1 : State := aboutOver below0
def p0 : Program := .bare "" "" ""
def e0 : Env := launch0.env 0 0 0
theorem w_frames : about1.frames = Frame.invoking theMethod args0 :: below0 := rfl
set_option maxRecDepth 65536 in
theorem w_args : argsFit about1.vm theMethod args0 = true := by decide +kernel
set_option maxRecDepth 65536 in
theorem w_heap : heapFits about1 = true := by decide +kernel
set_option maxRecDepth 65536 in
theorem w_runnable : about1.curStatus? = some .runnable := by decide +kernel
set_option maxRecDepth 65536 in
theorem w_alone : about1.alone = true := by decide +kernel
set_option maxRecDepth 65536 in
theorem w_named : about1.methodNamed? x = some theMethod := by decide +kernel
set_option maxRecDepth 65536 in
theorem w_hears : about1.hears theMethod below0 = true := by decide +kernel
set_option maxRecDepth 65536 in
theorem w_ripe : about1.ripe theMethod args0 below0 = true := by decide +kernel
theorem w_running : about1.status = .running := rfl
set_option maxRecDepth 65536 in
theorem w_room : about1.hasRoom e0.platform room_1 = true :=
  launch0.hasRoom_least _ room_1 (by decide +kernel) (by decide +kernel) (by decide +kernel) (by decide +kernel) (by decide +kernel) (by decide +kernel)
theorem allAtoms_all (ts : List Jvm.Cond) (a : Array Jvm.Value) (st : Jvm.State) : (allAtoms ts).before a st = ts.all (fun c => c.before a st) := by
  induction ts with
  | nil => rfl
  | cons c t ih =>
    show (Jvm.Cond.and c (allAtoms t)).before a st = _
    rw [Jvm.Cond.before_and, ih, List.all_cons]
def words1 : List Jvm.Cond := Jvm.Cond.code x code maxLocals ret :: tables_1
/-- a 'code' word, met by the world's own term for the bytes: nothing is compared byte by byte -/
theorem code_word {y : MethodName} {bytes : ByteArray} {mx : Nat} {rt : Option FieldType} {a : Array Value} {s : State} {m : MethodId} {meth : Method} {c : Code} (h1 : s.methodNamed? y = some m) (h2 : s.vm.method? m = some meth) (h3 : meth.code = some c) (h4 : c.code = bytes)
    (h5 : (c.maxLocals == mx && c.exceptionTable.isEmpty && decide (c.maxStack ≤ mostOperands) && decide (meth.sig.returnType = rt) && !meth.locks && decide (parseMethodDescriptor y.desc = some meth.sig)) = true) : (Jvm.Cond.code y bytes mx rt).before a s = true := by
  simp only [Bool.and_eq_true, beq_iff_eq, Bool.not_eq_true', decide_eq_true_eq] at h5
  obtain ⟨⟨⟨⟨⟨g1, g2⟩, g3⟩, g4⟩, g5⟩, g6⟩ := h5
  simp [Cond.before, Cond.holds, Cond.value, h1, h2, h3, h4, g1, g2, g3, g4, g5, g6]
def isCode : Jvm.Cond → Bool
  | .code _ _ _ _ => true
  | _ => false
theorem all_split {L : List Jvm.Cond} {P : Jvm.Cond → Bool} (h1 : L.all (fun c => isCode c || P c) = true) (h2 : ∀ c ∈ L.filter isCode, P c = true) : L.all P = true := by
  refine List.all_eq_true.mpr fun c hc => ?_
  have h := List.all_eq_true.mp h1 c hc
  rcases Bool.eq_false_or_eq_true (isCode c) with hi | hi
  · exact h2 c (List.mem_filter.mpr ⟨hc, hi⟩)
  · simpa [hi] using h
set_option maxRecDepth 65536 in
theorem w_c0 : (Jvm.Cond.code x code maxLocals ret).before args0 about1 = true := code_word (m := ⟨1, 1⟩) (meth := k1m1) (c := k1c1) (by decide +kernel) rfl rfl rfl (by decide +kernel)
set_option maxRecDepth 65536 in
theorem w_c1 : (Jvm.Cond.code ({ cls := "com/example/corewright/corewright/equilibrium/Strategy", name := "<init>", desc := "([D[D)V" } : Jvm.MethodName) prog_21_method_2_code (8 : Nat) (Option.none : Option Jvm.ClassFile.FieldType)).before args0 about1 = true := code_word (m := ⟨2, 0⟩) (meth := k2m0) (c := k2c0) (by decide +kernel) rfl rfl rfl (by decide +kernel)
set_option maxRecDepth 65536 in
theorem w_c2 : (Jvm.Cond.code ({ cls := "java/lang/Object", name := "<init>", desc := "()V" } : Jvm.MethodName) object_method_1_code (1 : Nat) (Option.none : Option Jvm.ClassFile.FieldType)).before args0 about1 = true := code_word (m := ⟨0, 0⟩) (meth := k0m0) (c := k0c0) (by decide +kernel) rfl rfl rfl (by decide +kernel)
set_option maxRecDepth 65536 in
theorem w_c3 : (Jvm.Cond.code ({ cls := "java/lang/Double", name := "isInfinite", desc := "(D)Z" } : Jvm.MethodName) jdk_117_method_7_code (2 : Nat) (Option.some Jvm.ClassFile.FieldType.boolean)).before args0 about1 = true := code_word (m := ⟨8, 1⟩) (meth := k8m1) (c := k8c1) (by decide +kernel) rfl rfl rfl (by decide +kernel)
set_option maxRecDepth 65536 in
theorem w_c4 : (Jvm.Cond.code ({ cls := "java/lang/Math", name := "abs", desc := "(D)D" } : Jvm.MethodName) jdk_29_method_64_code (2 : Nat) (Option.some Jvm.ClassFile.FieldType.double)).before args0 about1 = true := code_word (m := ⟨9, 1⟩) (meth := k9m1) (c := k9c1) (by decide +kernel) rfl rfl rfl (by decide +kernel)
set_option maxRecDepth 65536 in
theorem w_c5 : (Jvm.Cond.code ({ cls := "com/example/corewright/corewright/equilibrium/Strategy", name := "bid", desc := "(D)D" } : Jvm.MethodName) prog_21_method_9_code (8 : Nat) (Option.some Jvm.ClassFile.FieldType.double)).before args0 about1 = true := code_word (m := ⟨2, 1⟩) (meth := k2m1) (c := k2c1) (by decide +kernel) rfl rfl rfl (by decide +kernel)
set_option maxRecDepth 65536 in
theorem w_c6 : (Jvm.Cond.code ({ cls := "java/util/Arrays", name := "binarySearch", desc := "([DD)I" } : Jvm.MethodName) jdk_65_method_69_code (3 : Nat) (Option.some Jvm.ClassFile.FieldType.int)).before args0 about1 = true := code_word (m := ⟨11, 1⟩) (meth := k11m1) (c := k11c1) (by decide +kernel) rfl rfl rfl (by decide +kernel)
set_option maxRecDepth 65536 in
theorem w_c7 : (Jvm.Cond.code ({ cls := "java/util/Arrays", name := "binarySearch0", desc := "([DIID)I" } : Jvm.MethodName) jdk_65_method_71_code (14 : Nat) (Option.some Jvm.ClassFile.FieldType.int)).before args0 about1 = true := code_word (m := ⟨11, 2⟩) (meth := k11m2) (c := k11c2) (by decide +kernel) rfl rfl rfl (by decide +kernel)
set_option maxRecDepth 65536 in
theorem w_c8 : (Jvm.Cond.code ({ cls := "java/lang/Double", name := "doubleToLongBits", desc := "(D)J" } : Jvm.MethodName) jdk_117_method_23_code (2 : Nat) (Option.some Jvm.ClassFile.FieldType.long)).before args0 about1 = true := code_word (m := ⟨8, 2⟩) (meth := k8m2) (c := k8c2) (by decide +kernel) rfl rfl rfl (by decide +kernel)
set_option maxRecDepth 65536 in
theorem w_c9 : (Jvm.Cond.code ({ cls := "java/lang/Double", name := "isNaN", desc := "(D)Z" } : Jvm.MethodName) jdk_117_method_6_code (2 : Nat) (Option.some Jvm.ClassFile.FieldType.boolean)).before args0 about1 = true := code_word (m := ⟨8, 0⟩) (meth := k8m0) (c := k8c0) (by decide +kernel) rfl rfl rfl (by decide +kernel)
set_option maxRecDepth 65536 in
theorem w_c10 : (Jvm.Cond.code ({ cls := "java/lang/Math", name := "max", desc := "(II)I" } : Jvm.MethodName) jdk_29_method_65_code (2 : Nat) (Option.some Jvm.ClassFile.FieldType.int)).before args0 about1 = true := code_word (m := ⟨9, 2⟩) (meth := k9m2) (c := k9c2) (by decide +kernel) rfl rfl rfl (by decide +kernel)
set_option maxRecDepth 65536 in
theorem w_c11 : (Jvm.Cond.code ({ cls := "java/lang/Math", name := "min", desc := "(II)I" } : Jvm.MethodName) jdk_29_method_69_code (2 : Nat) (Option.some Jvm.ClassFile.FieldType.int)).before args0 about1 = true := code_word (m := ⟨9, 3⟩) (meth := k9m3) (c := k9c3) (by decide +kernel) rfl rfl rfl (by decide +kernel)
def codes1 : List Jvm.Cond := [Jvm.Cond.code x code maxLocals ret, Jvm.Cond.code ({ cls := "com/example/corewright/corewright/equilibrium/Strategy", name := "<init>", desc := "([D[D)V" } : Jvm.MethodName) prog_21_method_2_code (8 : Nat) (Option.none : Option Jvm.ClassFile.FieldType), Jvm.Cond.code ({ cls := "java/lang/Object", name := "<init>", desc := "()V" } : Jvm.MethodName) object_method_1_code (1 : Nat) (Option.none : Option Jvm.ClassFile.FieldType), Jvm.Cond.code ({ cls := "java/lang/Double", name := "isInfinite", desc := "(D)Z" } : Jvm.MethodName) jdk_117_method_7_code (2 : Nat) (Option.some Jvm.ClassFile.FieldType.boolean), Jvm.Cond.code ({ cls := "java/lang/Math", name := "abs", desc := "(D)D" } : Jvm.MethodName) jdk_29_method_64_code (2 : Nat) (Option.some Jvm.ClassFile.FieldType.double), Jvm.Cond.code ({ cls := "com/example/corewright/corewright/equilibrium/Strategy", name := "bid", desc := "(D)D" } : Jvm.MethodName) prog_21_method_9_code (8 : Nat) (Option.some Jvm.ClassFile.FieldType.double), Jvm.Cond.code ({ cls := "java/util/Arrays", name := "binarySearch", desc := "([DD)I" } : Jvm.MethodName) jdk_65_method_69_code (3 : Nat) (Option.some Jvm.ClassFile.FieldType.int), Jvm.Cond.code ({ cls := "java/util/Arrays", name := "binarySearch0", desc := "([DIID)I" } : Jvm.MethodName) jdk_65_method_71_code (14 : Nat) (Option.some Jvm.ClassFile.FieldType.int), Jvm.Cond.code ({ cls := "java/lang/Double", name := "doubleToLongBits", desc := "(D)J" } : Jvm.MethodName) jdk_117_method_23_code (2 : Nat) (Option.some Jvm.ClassFile.FieldType.long), Jvm.Cond.code ({ cls := "java/lang/Double", name := "isNaN", desc := "(D)Z" } : Jvm.MethodName) jdk_117_method_6_code (2 : Nat) (Option.some Jvm.ClassFile.FieldType.boolean), Jvm.Cond.code ({ cls := "java/lang/Math", name := "max", desc := "(II)I" } : Jvm.MethodName) jdk_29_method_65_code (2 : Nat) (Option.some Jvm.ClassFile.FieldType.int), Jvm.Cond.code ({ cls := "java/lang/Math", name := "min", desc := "(II)I" } : Jvm.MethodName) jdk_29_method_69_code (2 : Nat) (Option.some Jvm.ClassFile.FieldType.int)]
set_option maxRecDepth 65536 in
theorem codes_eq : words1.filter isCode = codes1 := rfl
theorem w_codes : ∀ c ∈ words1.filter isCode, c.before args0 about1 = true := by
  rw [codes_eq]
  intro c hc
  simp only [codes1, List.mem_cons, List.not_mem_nil, or_false] at hc
  rcases hc with rfl | rfl | rfl | rfl | rfl | rfl | rfl | rfl | rfl | rfl | rfl | rfl
  · exact w_c0
  · exact w_c1
  · exact w_c2
  · exact w_c3
  · exact w_c4
  · exact w_c5
  · exact w_c6
  · exact w_c7
  · exact w_c8
  · exact w_c9
  · exact w_c10
  · exact w_c11
set_option maxRecDepth 65536 in
theorem w_t1 : (words1.take 24).all (fun c => isCode c || c.before args0 about1) = true := by decide +kernel
set_option maxRecDepth 65536 in
theorem w_t2 : ((words1.drop 24).take 24).all (fun c => isCode c || c.before args0 about1) = true := by decide +kernel
set_option maxRecDepth 65536 in
theorem w_t3 : ((words1.drop 24).drop 24).all (fun c => isCode c || c.before args0 about1) = true := by decide +kernel
theorem w_tables : (allAtoms (Jvm.Cond.code x code maxLocals ret :: tables_1)).before args0 about1 = true := by
  rw [allAtoms_all]
  show words1.all (fun c => c.before args0 about1) = true
  refine all_split ?_ w_codes
  rw [← List.take_append_drop 24 words1, List.all_append, w_t1, ← List.take_append_drop 24 (words1.drop 24), List.all_append, w_t2, w_t3]
  rfl
set_option maxRecDepth 65536 in
theorem w_case : (Jvm.Cond.and given_1 narrow_1).before args0 about1 = true := by decide +kernel
theorem w_applies : (headSpec (Jvm.Cond.code x code maxLocals ret :: tables_1) room_1).applies x e0.platform about1 = true :=
  (Spec.applies_iff w_frames).mpr ⟨w_running, w_runnable, w_alone, w_named, w_hears, w_ripe, w_room, w_tables⟩
theorem atStart : AtStart classFile x code maxLocals ret World_1 tables_1 room_1 Calls_1 rest_1 Pre_1 launch0 p0 e0 about1 theMethod args0 below0 :=
  ⟨lists_1, trivial, launch0.admits_env _ _ _, launch0.least_env, fairChoices_fair.cas, fairChoices_fair.clock, w_frames, w_args, w_heap, w_applies, trivial, trivial, w_case⟩
end start1
theorem witness_1 : WitnessClaimed_1 := ⟨start1.p0, start1.e0, start1.about1, start1.theMethod, start1.args0, start1.below0, start1.atStart⟩
end Jvm.Pilot.@@N@@
