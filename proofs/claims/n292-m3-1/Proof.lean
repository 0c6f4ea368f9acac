import JvmDerived
import JvmDerived.Pilot.@@N@@Statement
import JvmDerived.Pilot.@@N@@Code
set_option linter.unusedVariables false
set_option linter.unusedSimpArgs false
namespace Jvm.Pilot.@@N@@
open Jvm Jvm.ClassFile Sem Op Lib Jvm.Free Jvm.Stand Jvm.LawKit Jvm.RoadKit Bundle Jvm.Pilot.@@N@@.Jvm.D
section OwnWalk
variable {p : Program} {l : Launch} {e : Env} {R : Room} {s : State} {m : MethodId} {args : Array Value} {below : List Frame} {meth : Method} {c : Code} {T T' : State} {locs : List Loc} {cells slots kc ks : Nat} {g g' : JFrame} {Q : Option Value → Heap → List Loc → Prop}
/-- from here the run comes to its end, and the end is as Q says -/
def own_G (p : Program) (e : Env) (below : List Frame) (s : State) (Q : Option Value → Heap → List Loc → Prop) (kc ks : Nat) (T : State) (g : JFrame) : Prop :=
  ∃ s₂ o, Steps p.tables e below (T.setTop g) s₂ ∧ s₂.status = .running ∧ Ended s₂ below o ∧ ∃ v L, o = .returned v ∧ Q v s₂.heap L ∧ FrameEnd s o s₂ L kc ks
theorem own_fe {Z : State} {h : Heap} {a : Addr} {C n d : String} {v v' : Value} (q : Fld Z h a C n d v) (e : v = v') : Fld Z h a C n d v' := e ▸ q
theorem own_ve {Z : State} {h : Heap} {a : Addr} {k : ClassId} {ty : FieldType} {n : Int32} {vs vs' : List Value} {d : Value} (q : Arv Z h a k ty n vs d) (e : vs = vs') : Arv Z h a k ty n vs' d := e ▸ q
theorem own_gs {vs : List Value} {j : Nat} {v d : Value} (h : j < vs.length) : (vs.set j v).getD j d = v := by simp [List.getD_eq_getElem?_getD, h]
theorem own_ge {vs : List Value} {i j : Nat} {v d : Value} (e : i = j) (h : j < vs.length) : (vs.set i v).getD j d = v := by subst e; exact own_gs h
theorem own_gn {vs : List Value} {i j : Nat} {v w d : Value} (h : i ≠ j) (q : vs.getD j d = w) : (vs.set i v).getD j d = w := by rw [List.getD_eq_getElem?_getD, List.getElem?_set_ne h, ← List.getD_eq_getElem?_getD]; exact q
theorem own_ls {vs : List Value} {i j : Nat} {v : Value} (h : j < vs.length) : j < (vs.set i v).length := by rw [List.length_set]; exact h
theorem own_enter (q : g = g') (k : own_G p e below s Q kc ks T g') : own_G p e below s Q kc ks T g := q ▸ k
theorem own_st (st : ∀ t, Steps p.tables e below (T'.setTop g') t → Steps p.tables e below (T.setTop g) t) (k : own_G p e below s Q kc ks T' g') : own_G p e below s Q kc ks T g := by
  obtain ⟨s₂, o, h1, h2⟩ := k
  exact ⟨s₂, o, st _ h1, h2⟩
theorem own_tr (st : Steps p.tables e below (T.setTop g) (T'.setTop g')) (k : own_G p e below s Q kc ks T' g') : own_G p e below s Q kc ks T g := own_st (fun _ h => st.trans h) k
theorem own_ret (X : Stand p l e R s m args below meth c T locs cells slots) (hx : p.tables.exec = Jvm.exec) (hlk : meth.locks = false) {pc : Nat} {Ls : Array Slot} {w : Value} {t : FieldType} {i : Instr} {rest : List Value} (hret : meth.sig.returnType = some t) (hn : narrow t w = w)
    (hi : (i = .ireturn ∧ (t = .int ∨ t = .boolean ∨ t = .byte ∨ t = .char ∨ t = .short) ∧ ∃ z, w = .int z) ∨ (i = .lreturn ∧ t = .long ∧ ∃ z, w = .long z) ∨ (i = .dreturn ∧ t = .double ∧ ∃ z, w = .double z) ∨ (i = .freturn ∧ t = .float ∧ ∃ z, w = .float z) ∨ (i = .areturn ∧ t.isReference = true ∧ w.isRef = true))
    (hd : decode c.code pc = .ok (i, 1)) (hc : cells ≤ kc) (hs : slots ≤ ks) (hQ : Q (some w) T.heap locs) : own_G p e below s Q kc ks T (mkF m pc Ls (w :: rest)) := by
  obtain ⟨fs, hr, hrun, hended, hW, hsame⟩ := X.leave (v := some w) (fun h => by rw [hret] at h; cases h) hlk
  exact ⟨_, _, retOut X hx hret hn hi hd hr, hrun, hended, _, _, rfl, hQ, ⟨_, rfl⟩, hW, hsame.mono hc hs⟩
theorem own_retI (X : Stand p l e R s m args below meth c T locs cells slots) (hx : p.tables.exec = Jvm.exec) (hlk : meth.locks = false) {pc : Nat} {Ls : Array Slot} {z : Int32} {rest : List Value} (hret : meth.sig.returnType = some .int)
    (hd : decode c.code pc = .ok (.ireturn, 1)) (hc : cells ≤ kc) (hs : slots ≤ ks) (hQ : Q (some (.int z)) T.heap locs) : own_G p e below s Q kc ks T (mkF m pc Ls (.int z :: rest)) :=
  own_ret X hx hlk hret rfl (Or.inl ⟨rfl, Or.inl rfl, z, rfl⟩) hd hc hs hQ
theorem own_retZ (X : Stand p l e R s m args below meth c T locs cells slots) (hx : p.tables.exec = Jvm.exec) (hlk : meth.locks = false) {pc : Nat} {Ls : Array Slot} {z : Int32} {rest : List Value} (hret : meth.sig.returnType = some .boolean)
    (hd : decode c.code pc = .ok (.ireturn, 1)) (hn : narrow .boolean (.int z) = .int z) (hc : cells ≤ kc) (hs : slots ≤ ks) (hQ : Q (some (.int z)) T.heap locs) : own_G p e below s Q kc ks T (mkF m pc Ls (.int z :: rest)) :=
  own_ret X hx hlk hret hn (Or.inl ⟨rfl, Or.inr (Or.inl rfl), z, rfl⟩) hd hc hs hQ
theorem own_retJ (X : Stand p l e R s m args below meth c T locs cells slots) (hx : p.tables.exec = Jvm.exec) (hlk : meth.locks = false) {pc : Nat} {Ls : Array Slot} {z : Int64} {rest : List Value} (hret : meth.sig.returnType = some .long)
    (hd : decode c.code pc = .ok (.lreturn, 1)) (hc : cells ≤ kc) (hs : slots ≤ ks) (hQ : Q (some (.long z)) T.heap locs) : own_G p e below s Q kc ks T (mkF m pc Ls (.long z :: rest)) :=
  own_ret X hx hlk hret rfl (Or.inr (Or.inl ⟨rfl, rfl, z, rfl⟩)) hd hc hs hQ
theorem own_retD (X : Stand p l e R s m args below meth c T locs cells slots) (hx : p.tables.exec = Jvm.exec) (hlk : meth.locks = false) {pc : Nat} {Ls : Array Slot} {z : UInt64} {rest : List Value} (hret : meth.sig.returnType = some .double)
    (hd : decode c.code pc = .ok (.dreturn, 1)) (hc : cells ≤ kc) (hs : slots ≤ ks) (hQ : Q (some (.double z)) T.heap locs) : own_G p e below s Q kc ks T (mkF m pc Ls (.double z :: rest)) :=
  own_ret X hx hlk hret rfl (Or.inr (Or.inr (Or.inl ⟨rfl, rfl, z, rfl⟩))) hd hc hs hQ
theorem own_retA (X : Stand p l e R s m args below meth c T locs cells slots) (hx : p.tables.exec = Jvm.exec) (hlk : meth.locks = false) {pc : Nat} {Ls : Array Slot} {w : Value} {t : FieldType} {rest : List Value} (hret : meth.sig.returnType = some t) (ht : t.isReference = true) (hw : w.isRef = true)
    (hd : decode c.code pc = .ok (.areturn, 1)) (hc : cells ≤ kc) (hs : slots ≤ ks) (hQ : Q (some w) T.heap locs) : own_G p e below s Q kc ks T (mkF m pc Ls (w :: rest)) :=
  own_ret X hx hlk hret (by cases t <;> first | (cases ht; done) | (cases w <;> first | (cases hw; done) | rfl)) (Or.inr (Or.inr (Or.inr (Or.inr ⟨rfl, ht, hw⟩)))) hd hc hs hQ
theorem own_retV (X : Stand p l e R s m args below meth c T locs cells slots) (hx : p.tables.exec = Jvm.exec) (hlk : meth.locks = false) {pc : Nat} {Ls : Array Slot} (hret : meth.sig.returnType = none)
    (hd : decode c.code pc = .ok (.return_, 1)) (hc : cells ≤ kc) (hs : slots ≤ ks) (hQ : Q none T.heap locs) : own_G p e below s Q kc ks T (mkF m pc Ls []) := by
  obtain ⟨fs, hr, hrun, hended, hW, hsame⟩ := X.leave (v := none) (fun _ => rfl) hlk
  exact ⟨_, _, X.returnOut hx hret hd hr, hrun, hended, _, _, rfl, hQ, ⟨_, rfl⟩, hW, hsame.mono hc hs⟩
end OwnWalk
section OwnFloat
/-! ## Doubles as fractions: x is n / 2^k, exactly -/
def own_Dy (x : UInt64) (n : Int) (k : Nat) : Prop :=
  (∃ s c q, FP.Core.val64 x = .fin s c q) ∧ k ≤ 1074 ∧ FP.Core.zval FP.Core.b64 (FP.Core.val64 x) = n * ((2 ^ (1074 - k) : Nat) : Int)
theorem own_qmax : FP.Core.b64.qmax = 971 := by decide
theorem own_p : FP.Core.b64.p = 53 := by decide
theorem own_signed_abs (n : Int) : FP.Core.signed (decide (n < 0)) n.natAbs = n := by
  unfold FP.Core.signed; by_cases h : n < 0 <;> simp [h] <;> omega
/-- every n / 2^k with |n| < 2^53 is a double's value -/
theorem own_fitV {n : Int} {k : Nat} (hk : k ≤ 1074) (hn : n.natAbs < 9007199254740992) :
    ∃ V, FP.Core.fits FP.Core.b64 V ∧ (∃ s c q, V = .fin s c q) ∧ FP.Core.zval FP.Core.b64 V = n * ((2 ^ (1074 - k) : Nat) : Int) := by
  obtain ⟨c', q', h1, h2⟩ := FP.Core.round_exact FP.Core.good_b64 (decide (n < 0)) (c := n.natAbs) (q := -(k : Int)) (by rw [own_p]; exact hn) (by rw [FP.Core.qmin_b64]; omega) (by rw [own_qmax]; omega)
  refine ⟨_, FP.Core.round_fits FP.Core.good_b64 (.fin (decide (n < 0)) n.natAbs (-(k : Int))), ⟨_, _, _, h1⟩, ?_⟩
  rw [h1]
  show FP.Core.signed (decide (n < 0)) (FP.Core.inUnits c' q' FP.Core.b64.qmin) = _
  rw [h2]
  unfold FP.Core.inUnits
  rw [FP.Core.qmin_b64, show (-(k : Int) - -1074).toNat = 1074 - k by omega, FP.Core.signed_mul, own_signed_abs]
/-- what is worth n / 2^k rounds to that -/
theorem own_round {s : Bool} {c : Nat} {q e0 n : Int} {k : Nat} (hk : k ≤ 1074) (hn : n.natAbs < 9007199254740992) (h0 : e0 ≤ -1074) (h1 : e0 ≤ q)
    (h : FP.Core.signed s (FP.Core.inUnits c q e0) = n * ((2 ^ (1074 - k) : Nat) : Int) * ((2 ^ (-1074 - e0).toNat : Nat) : Int)) :
    (∃ s' c' q', FP.Core.round FP.Core.b64 (.fin s c q) = .fin s' c' q') ∧ FP.Core.zval FP.Core.b64 (FP.Core.round FP.Core.b64 (.fin s c q)) = n * ((2 ^ (1074 - k) : Nat) : Int) := by
  obtain ⟨V, v1, ⟨vs, vc, vq, v2⟩, v3⟩ := own_fitV hk hn
  have hne : V ≠ .nan := by rw [v2]; exact FP.Core.Datum.noConfusion
  have hq := FP.Core.qmin_b64
  have le := FP.Core.zval_round_le FP.Core.good_b64 (s := s) (c := c) (q := q) (e0 := e0) v1 hne (by rw [hq]; exact h0) h1 (by rw [hq, v3, h]; exact Int.le_refl _)
  have ge := FP.Core.zval_round_ge FP.Core.good_b64 (s := s) (c := c) (q := q) (e0 := e0) v1 hne (by rw [hq]; exact h0) h1 (by rw [hq, v3, h]; exact Int.le_refl _)
  have e : FP.Core.zval FP.Core.b64 (FP.Core.round FP.Core.b64 (.fin s c q)) = FP.Core.zval FP.Core.b64 V := Int.le_antisymm le ge
  refine ⟨?_, e.trans v3⟩
  rcases FP.Core.roundRatio_cases FP.Core.b64 s c 1 q with ⟨c', q', h'⟩ | h'
  · exact ⟨_, _, _, h'⟩
  · exfalso
    have e' : FP.Core.zval FP.Core.b64 (FP.Core.roundRatio FP.Core.b64 s c 1 q) = FP.Core.zval FP.Core.b64 V := e
    rw [h', v2] at e'
    rw [v2] at v1
    have hlt := FP.Core.zmag_lt_top FP.Core.good_b64 v1
    have e2 : FP.Core.signed s (FP.Core.b64.tails * 2 ^ (FP.Core.b64.exps - 2)) = FP.Core.signed vs (FP.Core.inUnits vc vq FP.Core.b64.qmin) := e'
    clear e'
    generalize FP.Core.inUnits vc vq FP.Core.b64.qmin = a at e2 hlt
    generalize FP.Core.b64.tails * 2 ^ (FP.Core.b64.exps - 2) = b at e2 hlt
    cases s <;> cases vs <;> simp only [FP.Core.signed, if_true, Bool.false_eq_true, if_false] at e2 <;> omega
theorem own_Dy.fin {x : UInt64} {n : Int} {k : Nat} (h : own_Dy x n k) : Fl.Fin64 x := by
  obtain ⟨⟨s, c, q, h1⟩, -⟩ := h
  exact Fl.fin64_core.mpr ⟨s, c, q, h1⟩
theorem own_Dy.nn {x : UInt64} {n : Int} {k : Nat} (h : own_Dy x n k) : Fl.NoNaN64 x := h.fin.noNaN
theorem own_Dy.ne {x : UInt64} {n : Int} {k : Nat} (h : own_Dy x n k) : FP.Core.val64 x ≠ .nan := by
  obtain ⟨⟨s, c, q, h1⟩, -⟩ := h; rw [h1]; exact FP.Core.Datum.noConfusion
theorem own_pow {j k : Nat} (h : j + k ≤ 1074) : ((2 ^ (1074 - j) : Nat) : Int) = ((2 ^ k : Nat) : Int) * ((2 ^ (1074 - (j + k)) : Nat) : Int) := by
  rw [← Int.natCast_mul, ← Nat.pow_add]; congr 2; omega
/-- the same number, with a greater denominator -/
theorem own_Dy.up {x : UInt64} {n : Int} {k : Nat} (h : own_Dy x n k) (j : Nat) (hj : k + j ≤ 1074) : own_Dy x (n * ((2 ^ j : Nat) : Int)) (k + j) := by
  obtain ⟨h1, -, h3⟩ := h
  refine ⟨h1, hj, ?_⟩
  rw [h3, own_pow hj, Int.mul_assoc]
theorem own_Dy.dn {x : UInt64} {n : Int} {k j : Nat} (h : own_Dy x (n * ((2 ^ j : Nat) : Int)) (k + j)) : own_Dy x n k := by
  obtain ⟨h1, h2, h3⟩ := h
  refine ⟨h1, by omega, ?_⟩
  rw [h3, own_pow h2, Int.mul_assoc]
theorem own_dy_l2d {a : Int64} (h1 : -9007199254740992 < a.toInt) (h2 : a.toInt < 9007199254740992) : own_Dy (FP.l2d a) a.toInt 0 := by
  have hr := own_round (s := decide (a.toInt < 0)) (c := a.toInt.natAbs) (q := 0) (e0 := -1074) (n := a.toInt) (k := 0) (by omega) (by omega) (by omega) (by omega) (by
    unfold FP.Core.inUnits
    rw [FP.Core.signed_mul, own_signed_abs, show (0 - -1074 : Int).toNat = 1074 from rfl, show (-1074 - -1074 : Int).toNat = 0 from rfl, Nat.pow_zero, Int.natCast_one, Int.mul_one])
  have hv : FP.Core.val64 (FP.l2d a) = FP.Core.round FP.Core.b64 (.fin (decide (a.toInt < 0)) a.toInt.natAbs 0) := FP.Core.val64_l2d a
  unfold own_Dy
  rw [hv]
  exact ⟨hr.1, by omega, hr.2⟩
theorem own_dy_i2d (a : Int32) : own_Dy (FP.i2d a) a.toInt 0 := by
  have h := Int32.toInt_lt a
  have h' := Int32.le_toInt a
  have e : a.toInt64.toInt = a.toInt := Int32.toInt_toInt64 a
  have := own_dy_l2d (a := a.toInt64) (by omega) (by omega)
  rw [e] at this
  exact (FP.Core.i2d_l2d a ▸ this : own_Dy (FP.Core.i2d a) a.toInt 0)
theorem own_Dy.add {x y : UInt64} {n m : Int} {k : Nat} (hx : own_Dy x n k) (hy : own_Dy y m k) (h : (n + m).natAbs < 9007199254740992) : own_Dy (FP.dadd x y) (n + m) k := by
  obtain ⟨⟨s, c, q, hx1⟩, hk, hx3⟩ := hx
  obtain ⟨⟨t, d, r, hy1⟩, -, hy3⟩ := hy
  obtain ⟨sg, w, e, h1, h2, h3⟩ := FP.Core.sum_units (f := FP.Core.b64) (hx1 ▸ FP.Core.val64_fits x) (hy1 ▸ FP.Core.val64_fits y)
  have hq := FP.Core.qmin_b64
  rw [← hx1, ← hy1, hx3, hy3, ← Int.add_mul] at h3
  have hr := own_round (s := sg) (c := w) (q := e) (e0 := -1074) (n := n + m) (k := k) hk h (by omega) (by rw [hq] at h2; exact h2) (by
    rw [hq] at h3; rw [h3, show (-1074 - -1074 : Int).toNat = 0 from rfl, Nat.pow_zero, Int.natCast_one, Int.mul_one])
  have hv : FP.Core.val64 (FP.dadd x y) = FP.Core.round FP.Core.b64 (.fin sg w e) := by
    have := FP.Core.val64_dadd x y
    rw [hx1, hy1, h1] at this
    exact this
  unfold own_Dy
  rw [hv]
  exact ⟨hr.1, hk, hr.2⟩
theorem own_Dy.sub {x y : UInt64} {n m : Int} {k : Nat} (hx : own_Dy x n k) (hy : own_Dy y m k) (h : (n - m).natAbs < 9007199254740992) : own_Dy (FP.dsub x y) (n - m) k := by
  obtain ⟨⟨s, c, q, hx1⟩, hk, hx3⟩ := hx
  obtain ⟨⟨t, d, r, hy1⟩, -, hy3⟩ := hy
  have hyn : FP.Core.fits FP.Core.b64 (FP.Core.negate (.fin t d r)) := FP.Core.negate_fits (hy1 ▸ FP.Core.val64_fits y)
  obtain ⟨sg, w, e, h1, h2, h3⟩ := FP.Core.sum_units (f := FP.Core.b64) (s := s) (c := c) (q := q) (t := !t) (d := d) (r := r) (hx1 ▸ FP.Core.val64_fits x) hyn
  have hq := FP.Core.qmin_b64
  have hneg : FP.Core.zval FP.Core.b64 (.fin (!t) d r) = -(m * ((2 ^ (1074 - k) : Nat) : Int)) := by
    rw [← hy3, hy1]; exact FP.Core.zval_negate FP.Core.b64 (.fin t d r)
  rw [← hx1, hx3, hneg, ← Int.sub_eq_add_neg, ← Int.sub_mul] at h3
  have hr := own_round (s := sg) (c := w) (q := e) (e0 := -1074) (n := n - m) (k := k) hk h (by omega) (by rw [hq] at h2; exact h2) (by
    rw [hq] at h3; rw [h3, show (-1074 - -1074 : Int).toNat = 0 from rfl, Nat.pow_zero, Int.natCast_one, Int.mul_one])
  have hv : FP.Core.val64 (FP.dsub x y) = FP.Core.round FP.Core.b64 (.fin sg w e) := by
    have := FP.Core.val64_dsub x y
    rw [hx1, hy1] at this
    exact this.trans (congrArg _ h1)
  unfold own_Dy
  rw [hv]
  exact ⟨hr.1, hk, hr.2⟩
theorem own_Dy.mul {x y : UInt64} {n m : Int} {k j : Nat} (hx : own_Dy x n k) (hy : own_Dy y m j) (hkj : k + j ≤ 1074) (h : (n * m).natAbs < 9007199254740992) : own_Dy (FP.dmul x y) (n * m) (k + j) := by
  obtain ⟨⟨s, c, q, hx1⟩, hk, hx3⟩ := hx
  obtain ⟨⟨t, d, r, hy1⟩, hj, hy3⟩ := hy
  obtain ⟨h1, h2, h3⟩ := FP.Core.product_units (f := FP.Core.b64) (hx1 ▸ FP.Core.val64_fits x) (hy1 ▸ FP.Core.val64_fits y)
  have hq := FP.Core.qmin_b64
  have hs : FP.Core.signed (s != t) (FP.Core.zmag FP.Core.b64 (.fin s c q) * FP.Core.zmag FP.Core.b64 (.fin t d r)) = FP.Core.zval FP.Core.b64 (.fin s c q) * FP.Core.zval FP.Core.b64 (.fin t d r) := by
    show _ = FP.Core.signed s (FP.Core.zmag FP.Core.b64 (.fin s c q)) * FP.Core.signed t (FP.Core.zmag FP.Core.b64 (.fin t d r))
    generalize FP.Core.zmag FP.Core.b64 (.fin s c q) = a
    generalize FP.Core.zmag FP.Core.b64 (.fin t d r) = b
    cases s <;> cases t <;> simp [FP.Core.signed, Int.natCast_mul, Int.neg_mul, Int.mul_neg]
  have hr := own_round (s := s != t) (c := c * d) (q := q + r) (e0 := -2148) (n := n * m) (k := k + j) hkj h (by omega) (by rw [hq] at h2; omega) (by
    rw [hq] at h3
    have h3' : FP.Core.inUnits (c * d) (q + r) (-2148) = FP.Core.zmag FP.Core.b64 (FP.Core.Datum.fin s c q) * FP.Core.zmag FP.Core.b64 (FP.Core.Datum.fin t d r) := h3
    rw [h3', hs, ← hx1, ← hy1, hx3, hy3, show (-1074 - -2148 : Int).toNat = 1074 from rfl]
    have e1 : ((2 ^ (1074 - k) : Nat) : Int) * ((2 ^ (1074 - j) : Nat) : Int) = ((2 ^ (1074 - (k + j)) : Nat) : Int) * ((2 ^ 1074 : Nat) : Int) := by
      rw [← Int.natCast_mul, ← Int.natCast_mul, ← Nat.pow_add, ← Nat.pow_add]; congr 2; omega
    generalize ((2 ^ (1074 - k) : Nat) : Int) = A at e1 ⊢
    generalize ((2 ^ (1074 - j) : Nat) : Int) = B at e1 ⊢
    generalize ((2 ^ (1074 - (k + j)) : Nat) : Int) = C at e1 ⊢
    generalize ((2 ^ 1074 : Nat) : Int) = D at e1 ⊢
    calc n * A * (m * B) = n * m * (A * B) := by ac_rfl
      _ = n * m * C * D := by rw [e1]; ac_rfl)
  have hv : FP.Core.val64 (FP.dmul x y) = FP.Core.round FP.Core.b64 (.fin (s != t) (c * d) (q + r)) := by
    have := FP.Core.val64_dmul x y
    rw [hx1, hy1] at this
    exact this.trans (congrArg _ h1)
  unfold own_Dy
  rw [hv]
  exact ⟨hr.1, hkj, hr.2⟩
theorem own_Dy.cmp {x y : UInt64} {n m : Int} {k : Nat} (hx : own_Dy x n k) (hy : own_Dy y m k) : FP.dcmp x y = some (compare n m) := by
  have h := FP.Core.dcmp_zval hx.ne hy.ne
  rw [hx.2.2, hy.2.2, FP.Core.compare_mul_pos _ _ _ (by have := Nat.two_pow_pos (1074 - k); omega)] at h
  exact h
theorem own_Dy.eq {x y : UInt64} {n m : Int} {k : Nat} (hx : own_Dy x n k) (hy : own_Dy y m k) (h : n = m) (o : CmpOp) : cmpValue (FP.dcmp x y) o = 0 := by
  rw [hx.cmp hy, (FP.Core.compare_eq_iff n m).mpr h]; rfl
theorem own_Dy.lt {x y : UInt64} {n m : Int} {k : Nat} (hx : own_Dy x n k) (hy : own_Dy y m k) (h : n < m) (o : CmpOp) : cmpValue (FP.dcmp x y) o = -1 := by
  rw [hx.cmp hy, (FP.Core.compare_lt_iff n m).mpr h]; rfl
theorem own_Dy.gt {x y : UInt64} {n m : Int} {k : Nat} (hx : own_Dy x n k) (hy : own_Dy y m k) (h : m < n) (o : CmpOp) : cmpValue (FP.dcmp x y) o = 1 := by
  rw [hx.cmp hy, (FP.Core.compare_gt_iff n m).mpr h]; rfl
end OwnFloat
section OwnInt
theorem own_ladd {a b : Int64} (h : (a.toInt + b.toInt).natAbs < 9223372036854775808) : (a + b).toInt = a.toInt + b.toInt := by
  have q := c_ladd a b; have r := rng64 (a + b); omega
theorem own_lsub {a b : Int64} (h : (a.toInt - b.toInt).natAbs < 9223372036854775808) : (a - b).toInt = a.toInt - b.toInt := by
  have q := c_lsub a b; have r := rng64 (a - b); omega
theorem own_lmul {a b : Int64} (h : (a.toInt * b.toInt).natAbs < 9223372036854775808) : (a * b).toInt = a.toInt * b.toInt := by
  have q := c_lmul a b; have r := rng64 (a * b); generalize a.toInt * b.toInt = z at *; omega
theorem own_iadd {a b : Int32} (h : (a.toInt + b.toInt).natAbs < 2147483648) : (a + b).toInt = a.toInt + b.toInt := by
  have q := c_iadd a b; have r := rng32 (a + b); omega
theorem own_isub {a b : Int32} (h : (a.toInt - b.toInt).natAbs < 2147483648) : (a - b).toInt = a.toInt - b.toInt := by
  have q := c_isub a b; have r := rng32 (a - b); omega
theorem own_imul {a b : Int32} (h : (a.toInt * b.toInt).natAbs < 2147483648) : (a * b).toInt = a.toInt * b.toInt := by
  have q := c_imul a b; have r := rng32 (a * b); generalize a.toInt * b.toInt = z at *; omega
theorem own_absmul {n m : Int} {A B : Nat} (hn : n.natAbs ≤ A) (hm : m.natAbs ≤ B) : (n * m).natAbs ≤ A * B := by
  rw [Int.natAbs_mul]; exact Nat.mul_le_mul hn hm
end OwnInt
section OwnShift
theorem own_bv {q : Int32} {n : Nat} (h : q.toInt = (n : Int)) : q.toBitVec.toNat = n := by
  have h1 : q.toBitVec.toInt = (n : Int) := h
  have h2 := BitVec.toInt_eq_toNat_cond q.toBitVec
  have h3 := q.toBitVec.isLt
  split at h2 <;> omega
theorem own_lshl {x : Int64} {q : Int32} {n : Nat} (hq : q.toInt = (n : Int)) (hn : n < 64) (hb : (x.toInt * ((2 ^ n : Nat) : Int)).natAbs < 9223372036854775808) : (x <<< (q &&& 0x3f).toInt64).toInt = x.toInt * ((2 ^ n : Nat) : Int) := by
  have h1 := c_lshl x q n (by rw [own_bv hq]; omega)
  have h2 := rng64 (x <<< (q &&& 0x3f).toInt64)
  generalize x.toInt * ((2 ^ n : Nat) : Int) = z at *
  omega
theorem own_ishl {x : Int32} {q : Int32} {n : Nat} (hq : q.toInt = (n : Int)) (hn : n < 32) (hb : (x.toInt * ((2 ^ n : Nat) : Int)).natAbs < 2147483648) : (x <<< (q &&& 31)).toInt = x.toInt * ((2 ^ n : Nat) : Int) := by
  have h1 := c_ishl x q n (by rw [own_bv hq]; omega)
  have h2 := rng32 (x <<< (q &&& 31))
  generalize x.toInt * ((2 ^ n : Nat) : Int) = z at *
  omega
theorem own_ishl1 {q : Int32} {n : Nat} (hq : q.toInt = (n : Int)) (hn : n < 31) : ((1 : Int32) <<< (q &&& 31)).toInt = ((2 ^ n : Nat) : Int) := by
  have e : (1 : Int32).toInt = 1 := by decide
  have hp : 2 ^ n ≤ 2 ^ 30 := Nat.pow_le_pow_right (by omega) (by omega)
  rw [own_ishl hq (by omega) (by rw [e, Int.one_mul, Int.natAbs_natCast]; omega), e, Int.one_mul]
theorem own_lshl1 {q : Int32} {n : Nat} (hq : q.toInt = (n : Int)) (hn : n < 63) : ((1 : Int64) <<< (q &&& 0x3f).toInt64).toInt = ((2 ^ n : Nat) : Int) := by
  have e : (1 : Int64).toInt = 1 := by decide
  have hp : 2 ^ n ≤ 2 ^ 62 := Nat.pow_le_pow_right (by omega) (by omega)
  rw [own_lshl hq (by omega) (by rw [e, Int.one_mul, Int.natAbs_natCast]; omega), e, Int.one_mul]
/-- a mask of ones: what is left is some natural below the power -/
theorem own_andN (x : Int32) (mk : Int32) (M : Nat) (hM : mk.toInt = (M : Int)) : ∃ n : Nat, (x &&& mk).toInt = (n : Int) ∧ n ≤ M := by
  have h := c_and x mk (by omega)
  exact ⟨(x &&& mk).toInt.toNat, by omega, by omega⟩
theorem own_andL (x : Int64) (mk : Int64) (k : Nat) (hk : k ≤ 63) (hm : mk.toBitVec.toNat = 2 ^ k - 1) : ∃ n : Nat, (x &&& mk).toInt = (n : Int) ∧ n < 2 ^ k := by
  have h := c_maskL x mk k hk hm
  have hp := Nat.two_pow_pos k
  have h1 := Int.emod_nonneg x.toInt (show ((2 ^ k : Nat) : Int) ≠ 0 by omega)
  have h2 := Int.emod_lt_of_pos x.toInt (show (0 : Int) < ((2 ^ k : Nat) : Int) by omega)
  exact ⟨(x &&& mk).toInt.toNat, by omega, by omega⟩
theorem own_irem {x y : Int32} (hx : 0 ≤ x.toInt) (hy : 0 < y.toInt) : (x % y).toInt = x.toInt % y.toInt := by
  rw [Int32.toInt_mod, Int.tmod_eq_emod_of_nonneg hx]
theorem own_lrem {x y : Int64} (hx : 0 ≤ x.toInt) (hy : 0 < y.toInt) : (x - x / y * y).toInt = x.toInt % y.toInt := by
  rw [lrem_mod, Int64.toInt_mod, Int.tmod_eq_emod_of_nonneg hx]
end OwnShift
section OwnPlain
def own_z (c : Int32) (d : UInt64) : Int32 := if ifCond.holds .eq (cmpValue (FP.dcmp d (0 : UInt64)) .l) = true then c else c + (1 : Int32)
theorem own_zy {d : UInt64} (c : Int32) (h : ifCond.holds .eq (cmpValue (FP.dcmp d (0 : UInt64)) .l) = true) : c = own_z c d := by unfold own_z; rw [if_pos h]
theorem own_zn {d : UInt64} (c : Int32) (h : ¬ ifCond.holds .eq (cmpValue (FP.dcmp d (0 : UInt64)) .l) = true) : c + (1 : Int32) = own_z c d := by unfold own_z; rw [if_neg h]
theorem own_zn0 {d : UInt64} (h : ¬ ifCond.holds .eq (cmpValue (FP.dcmp d (0 : UInt64)) .l) = true) : (1 : Int32) = own_z (0 : Int32) d := by unfold own_z; rw [if_neg h]; decide
theorem own_z0 : own_Dy (0 : UInt64) 0 0 := ⟨⟨false, 0, -1074, by decide +kernel⟩, by omega, by decide +kernel⟩
theorem own_ne0 {x : Int32} (h : x ≠ 0) : ¬ ifCond.holds .eq (cmpValue (FP.dcmp (FP.i2d x) (0 : UInt64)) .l) = true := by
  have e : (0 : Int32).toInt = 0 := by decide
  rcases Int.lt_trichotomy x.toInt 0 with q | q | q
  · rw [(own_dy_i2d x).lt own_z0 q .l]; decide
  · exact absurd (Int32.toInt_inj.mp (q.trans e.symm)) h
  · rw [(own_dy_i2d x).gt own_z0 q .l]; decide
theorem own_zp : ifCond.holds .eq (cmpValue (FP.dcmp (0 : UInt64) (0 : UInt64)) .l) = true := by decide +kernel
theorem own_zm : ifCond.holds .eq (cmpValue (FP.dcmp (9223372036854775808 : UInt64) (0 : UInt64)) .l) = true := by decide +kernel
theorem own_and3 (x : Int32) : x &&& (3 : Int32) = 0 ∨ x &&& (3 : Int32) = 1 ∨ ¬ (x &&& (3 : Int32)) < 2 ∧ x &&& (3 : Int32) ≠ 0 ∧ x &&& (3 : Int32) ≠ 1 := by
  obtain ⟨n, h, hn⟩ := own_andN x 3 3 (by decide)
  have e0 : (0 : Int32).toInt = 0 := by decide
  have e1 : (1 : Int32).toInt = 1 := by decide
  have e2 : (2 : Int32).toInt = 2 := by decide
  by_cases q0 : n = 0
  · exact Or.inl (Int32.toInt_inj.mp (by rw [h, q0]; rfl))
  · by_cases q1 : n = 1
    · exact Or.inr (Or.inl (Int32.toInt_inj.mp (by rw [h, q1]; rfl)))
    · refine Or.inr (Or.inr ⟨?_, fun q => ?_, fun q => ?_⟩)
      · rw [Int32.lt_iff_toInt_lt]; omega
      · rw [q] at h; omega
      · rw [q] at h; omega
def own_val (p : Int32) : UInt64 := if (p &&& (3 : Int32)) = (0 : Int32) then (0 : UInt64) else if (p &&& (3 : Int32)) = (1 : Int32) then (9223372036854775808 : UInt64) else FP.i2d p
def own_cnt (p : Int32) : Int32 := if (p &&& (3 : Int32)) < (2 : Int32) then (0 : Int32) else (1 : Int32)
theorem own_zc (c x : Int32) : own_z c (own_val x) = c + own_cnt x := by
  unfold own_val own_cnt
  rcases own_and3 x with q | q | ⟨q, q0, q1⟩
  · rw [if_pos q, if_pos (by rw [q]; decide), ← own_zy c own_zp, Int32.add_zero]
  · rw [if_neg (by rw [q]; decide), if_pos q, if_pos (by rw [q]; decide), ← own_zy c own_zm, Int32.add_zero]
  · rw [if_neg q0, if_neg q1, if_neg q, ← own_zn c (own_ne0 (fun z => q0 (by rw [z]; decide)))]
theorem own_m5 (p : Int32) : (p &&& (2147483647 : Int32)) % (5 : Int32) = 0 ∨ (p &&& (2147483647 : Int32)) % (5 : Int32) = 1 ∨ (p &&& (2147483647 : Int32)) % (5 : Int32) = 2 ∨ (p &&& (2147483647 : Int32)) % (5 : Int32) = 3 ∨ (p &&& (2147483647 : Int32)) % (5 : Int32) = 4 := by
  obtain ⟨n, h, hn⟩ := own_andN p 2147483647 2147483647 (by decide)
  have e5 : (5 : Int32).toInt = 5 := by decide
  have a : ((p &&& (2147483647 : Int32)) % (5 : Int32)).toInt = (n : Int) % 5 := by rw [own_irem (by omega) (by omega), h, e5]
  have b : (n : Int) % 5 = 0 ∨ (n : Int) % 5 = 1 ∨ (n : Int) % 5 = 2 ∨ (n : Int) % 5 = 3 ∨ (n : Int) % 5 = 4 := by omega
  rcases b with q | q | q | q | q <;> rw [q] at a
  · exact Or.inl (Int32.toInt_inj.mp a)
  · exact Or.inr (Or.inl (Int32.toInt_inj.mp a))
  · exact Or.inr (Or.inr (Or.inl (Int32.toInt_inj.mp a)))
  · exact Or.inr (Or.inr (Or.inr (Or.inl (Int32.toInt_inj.mp a))))
  · exact Or.inr (Or.inr (Or.inr (Or.inr (Int32.toInt_inj.mp a))))
end OwnPlain
theorem d9_0 : decode jdk_41_method_11_code 0 = .ok (.iload_n 0, 1) := by decide +kernel
theorem d9_1 : decode jdk_41_method_11_code 1 = .ok (.ifCond .lt 8, 3) := by decide +kernel
theorem d9_4 : decode jdk_41_method_11_code 4 = .ok (.iload_n 0, 1) := by decide +kernel
theorem d9_5 : decode jdk_41_method_11_code 5 = .ok (.iload_n 1, 1) := by decide +kernel
theorem d9_6 : decode jdk_41_method_11_code 6 = .ok (.if_icmp .lt 10, 3) := by decide +kernel
theorem d9_16 : decode jdk_41_method_11_code 16 = .ok (.iload_n 0, 1) := by decide +kernel
theorem d9_17 : decode jdk_41_method_11_code 17 = .ok (.ireturn, 1) := by decide +kernel
theorem pn9 : plainName "jdk/internal/util/Preconditions" = true := by first | (simp [plainName, overriddenIn]; done) | decide +kernel
theorem ef9 (m : MethodId) (p0 : Int32) (p1 : Int32) : entryFrame m #[(.int p0), (.int p1), .null] 3 = mkF m 0 #[.val (.int p0), .val (.int p1), .val .null] [] := by first | (simp [entryFrame, mkF, argsToLocals, Value.category]; done) | rfl
def Q9 (Z : State) (p0 : Int32) (p1 : Int32) (h0 : Heap) (n0 : Nat) (v : Option Value) (h : Heap) (L : List Loc) : Prop := v = some (.int p0) ∧ Fr n0 L ∧ h = h0
set_option maxRecDepth 65536 in
set_option maxHeartbeats 40000000 in
theorem rm9 (l : Launch) (Z : State) (ar : Array Value) (hw : ∀ d ∈ tables_1, d.before ar Z = true) (ws : List Jvm.Cond) (p0 : Int32) (p1 : Int32) (h0 : Heap) (n0 : Nat) (Z0 : n0 ≤ h0.size) (hb1 : ¬ (p0 < (0 : Int32))) (hb6 : p0 < p1) :
    MetFree l (⟨"jdk/internal/util/Preconditions", "checkIndex", "(IILjava/util/function/BiFunction;)I"⟩ : MethodName) (head1 (Jvm.Cond.code (⟨"jdk/internal/util/Preconditions", "checkIndex", "(IILjava/util/function/BiFunction;)I"⟩ : MethodName) jdk_41_method_11_code 3 (some .int) :: ws) ({ frames := 0, cells := 0, slots := 0, locals := 0 } : Room)) (fun a U => a = #[(.int p0), (.int p1), .null] ∧ Z.Warmed39 U.vm ∧ U.heap = h0) (fun _ _ _ _ _ => True) (fun _ U o U' => ∃ v L, o = .returned v ∧ Q9 Z p0 p1 h0 n0 v U'.heap L ∧ FrameEnd U o U' L ({ frames := 0, cells := 0, slots := 0, locals := 0 } : Room).cells ({ frames := 0, cells := 0, slots := 0, locals := 0 } : Room).slots) := by
  refine MetFree.of_bodySF (plainFor_of_name pn9) hisR ?_
  intro p e s m args below meth c s₁ Bd hml0 hP hK
  obtain ⟨rfl, hZ, hh⟩ := hP
  have hx := Bd.exec
  have hby := Bd.bytes
  have hlk := Bd.notSynchronized
  have hml : c.maxLocals = 3 := hml0
  have hown : s.vm.findClass "jdk/internal/util/Preconditions" = some m.cls := findClass_of_methodNamed Bd.named
  have hnm := (name_of_methodNamed Bd.named Bd.method).1
  have X0 : Stand p l e ({ frames := 0, cells := 0, slots := 0, locals := 0 } : Room) s m #[(.int p0), (.int p1), .null] below meth c s₁ [] 0 0 := Stand.of_body Bd
  have e0 : s₁.heap = h0 := by rw [← hh, Bd.state]; rfl
  have N0 := Fr.nil n0
  have K0 := Keep.refl h0 []
  refine own_enter (Q := Q9 Z p0 p1 h0 n0) (ef9 m p0 p1) ?_
  refine own_st (T' := s₁) (g' := (mkF m 17 #[.val (.int p0), .val (.int p1), .val .null] [(.int p0)])) (fun t k => ?_) ?_
  · show Steps p.tables e below (s₁.setTop (mkF m 0 #[.val (.int p0), .val (.int p1), .val .null] [])) t
    refine XS.iloadN X0.here hx rfl (hb hby d9_0) rfl ?_
    show Steps p.tables e below (s₁.setTop (mkF m 1 #[.val (.int p0), .val (.int p1), .val .null] [(.int p0)])) t
    refine XS.ifNo X0.here hx rfl (hb hby d9_1) rfl ((if0 _ _).trans (flt (hb1 : ¬ (p0 < (0 : Int32)))).1) ?_
    show Steps p.tables e below (s₁.setTop (mkF m 4 #[.val (.int p0), .val (.int p1), .val .null] [])) t
    refine XS.iloadN X0.here hx rfl (hb hby d9_4) rfl ?_
    show Steps p.tables e below (s₁.setTop (mkF m 5 #[.val (.int p0), .val (.int p1), .val .null] [(.int p0)])) t
    refine XS.iloadN X0.here hx rfl (hb hby d9_5) rfl ?_
    show Steps p.tables e below (s₁.setTop (mkF m 6 #[.val (.int p0), .val (.int p1), .val .null] [(.int p1), (.int p0)])) t
    refine XS.icmpYes X0.here hx rfl (pc0 := 6) (pc' := 16) rfl (hb hby d9_6) rfl (tlt (hb6 : p0 < p1)).1 (by decide) (by decide) ?_
    show Steps p.tables e below (s₁.setTop (mkF m 16 #[.val (.int p0), .val (.int p1), .val .null] [])) t
    refine XS.iloadN X0.here hx rfl (hb hby d9_16) rfl ?_
    exact k
  refine own_retI X0 hx hlk Bd.returns (hb hby d9_17) (by decide) (by decide) ?_
  show Q9 Z p0 p1 h0 n0 (some (.int p0)) s₁.heap _
  rw [(e0 : s₁.heap = h0)]
  exact ⟨rfl, N0, rfl⟩
theorem d8_0 : decode jdk_31_method_17_code 0 = .ok (.iload_n 0, 1) := by decide +kernel
theorem d8_1 : decode jdk_31_method_17_code 1 = .ok (.iload_n 1, 1) := by decide +kernel
theorem d8_2 : decode jdk_31_method_17_code 2 = .ok (.aconst_null, 1) := by decide +kernel
theorem d8_3 : decode jdk_31_method_17_code 3 = .ok (.invokestatic 105, 3) := by decide +kernel
theorem d8_6 : decode jdk_31_method_17_code 6 = .ok (.ireturn, 1) := by decide +kernel
theorem pn8 : plainName "java/util/Objects" = true := by first | (simp [plainName, overriddenIn]; done) | decide +kernel
theorem pd8_0 : parseMethodDescriptor "(IILjava/util/function/BiFunction;)I" = some ⟨[.int, .int, (.object "java/util/function/BiFunction")], some .int⟩ := by decide +kernel
theorem ef8 (m : MethodId) (p0 : Int32) (p1 : Int32) : entryFrame m #[(.int p0), (.int p1)] 2 = mkF m 0 #[.val (.int p0), .val (.int p1)] [] := by first | (simp [entryFrame, mkF, argsToLocals, Value.category]; done) | rfl
def Q8 (Z : State) (p0 : Int32) (p1 : Int32) (h0 : Heap) (n0 : Nat) (v : Option Value) (h : Heap) (L : List Loc) : Prop := v = some (.int p0) ∧ Fr n0 L ∧ h = h0
set_option maxRecDepth 65536 in
set_option maxHeartbeats 40000000 in
theorem rm8 (l : Launch) (Z : State) (ar : Array Value) (hw : ∀ d ∈ tables_1, d.before ar Z = true) (ws : List Jvm.Cond) (p0 : Int32) (p1 : Int32) (h0 : Heap) (n0 : Nat) (Z0 : n0 ≤ h0.size) (h3_hb1 : ¬ (p0 < (0 : Int32))) (h3_hb6 : p0 < p1) :
    MetFree l (⟨"java/util/Objects", "checkIndex", "(II)I"⟩ : MethodName) (head1 (Jvm.Cond.code (⟨"java/util/Objects", "checkIndex", "(II)I"⟩ : MethodName) jdk_31_method_17_code 2 (some .int) :: ws) ({ frames := 1, cells := 0, slots := 0, locals := 14 } : Room)) (fun a U => a = #[(.int p0), (.int p1)] ∧ Z.Warmed39 U.vm ∧ U.heap = h0) (fun _ _ _ _ _ => True) (fun _ U o U' => ∃ v L, o = .returned v ∧ Q8 Z p0 p1 h0 n0 v U'.heap L ∧ FrameEnd U o U' L ({ frames := 1, cells := 0, slots := 0, locals := 14 } : Room).cells ({ frames := 1, cells := 0, slots := 0, locals := 14 } : Room).slots) := by
  refine MetFree.of_bodySF (plainFor_of_name pn8) hisR ?_
  intro p e s m args below meth c s₁ Bd hml0 hP hK
  obtain ⟨rfl, hZ, hh⟩ := hP
  have hx := Bd.exec
  have hby := Bd.bytes
  have hlk := Bd.notSynchronized
  have hml : c.maxLocals = 2 := hml0
  have hown : s.vm.findClass "java/util/Objects" = some m.cls := findClass_of_methodNamed Bd.named
  have hnm := (name_of_methodNamed Bd.named Bd.method).1
  have X0 : Stand p l e ({ frames := 1, cells := 0, slots := 0, locals := 14 } : Room) s m #[(.int p0), (.int p1)] below meth c s₁ [] 0 0 := Stand.of_body Bd
  have e0 : s₁.heap = h0 := by rw [← hh, Bd.state]; rfl
  have N0 := Fr.nil n0
  have K0 := Keep.refl h0 []
  refine own_enter (Q := Q8 Z p0 p1 h0 n0) (ef8 m p0 p1) ?_
  refine own_st (T' := s₁) (g' := (mkF m 3 #[.val (.int p0), .val (.int p1)] [.null, (.int p1), (.int p0)])) (fun t k => ?_) ?_
  · show Steps p.tables e below (s₁.setTop (mkF m 0 #[.val (.int p0), .val (.int p1)] [])) t
    refine XS.iloadN X0.here hx rfl (hb hby d8_0) rfl ?_
    show Steps p.tables e below (s₁.setTop (mkF m 1 #[.val (.int p0), .val (.int p1)] [(.int p0)])) t
    refine XS.iloadN X0.here hx rfl (hb hby d8_1) rfl ?_
    show Steps p.tables e below (s₁.setTop (mkF m 2 #[.val (.int p0), .val (.int p1)] [(.int p1), (.int p0)])) t
    refine XS.aconstNull X0.here hx rfl (hb hby d8_2) ?_
    exact k
  obtain ⟨_, _, ⟨T1, L1, k1, n1⟩, -, X1, ⟨Lc1, hQ1, l1, y1, z1⟩, st1⟩ := Jvm.LawKit.callS X0 hx (y := (⟨"jdk/internal/util/Preconditions", "checkIndex", "(IILjava/util/function/BiFunction;)I"⟩ : MethodName)) hown (mvT hZ (hw _ (List.mem_of_getElem? (i := 44) rfl))) (mvT hZ (hw _ (List.mem_of_getElem? (i := 45) rfl))) (mvT hZ (hw _ (List.mem_of_getElem? (i := 46) rfl))) (mvT hZ (hw _ (List.mem_of_getElem? (i := 47) rfl))) (by decide) (backOf (W := 0) (rm9 l Z ar hw [] p0 p1 h0 n0 Z0 h3_hb1 h3_hb6) hZ (hw _ (List.mem_of_getElem? (i := 47) rfl)) (hw _ (List.mem_of_getElem? (i := 46) rfl)) (by decide) (by decide)) (g := (mkF m 3 #[.val (.int p0), .val (.int p1)] [.null, (.int p1), (.int p0)])) rfl (by rw [hml]; rfl) (argsL := [(.int p0), (.int p1), .null]) (rest := []) (lenOf pd8_0 rfl) rfl (by show 2 * 0 + _ ≤ _; exact Nat.le_of_eq rfl) (hb hby d8_3) (fun _ _ => ⟨rfl, e0, (by decide : 0 + 0 ≤ _), (by decide : 0 + 0 ≤ _)⟩)
  dsimp only [Pt.U, Pt.locs, Pt.cells, Pt.slots] at X1 l1 y1 z1 st1 hQ1
  subst l1 y1 z1
  obtain ⟨rfl, N1q, e1⟩ := hQ1
  have n2 := Fr.app N0 N1q
  refine own_st (T' := T1) (g' := (mkF m 6 #[.val (.int p0), .val (.int p1)] [(.int p0)])) st1 ?_
  refine own_retI X1 hx hlk Bd.returns (hb hby d8_6) (by decide) (by decide) ?_
  show Q8 Z p0 p1 h0 n0 (some (.int p0)) T1.heap _
  rw [(e1 : T1.heap = h0)]
  exact ⟨rfl, n2, rfl⟩
theorem d2_0 : decode prog_48_method_1_code 0 = .ok (.aload_n 0, 1) := by decide +kernel
theorem d2_1 : decode prog_48_method_1_code 1 = .ok (.invokespecial 1, 3) := by decide +kernel
theorem d2_4 : decode prog_48_method_1_code 4 = .ok (.iload_n 1, 1) := by decide +kernel
theorem d2_5 : decode prog_48_method_1_code 5 = .ok (.ifCond .ge 17, 3) := by decide +kernel
theorem d2_22 : decode prog_48_method_1_code 22 = .ok (.aload_n 0, 1) := by decide +kernel
theorem d2_23 : decode prog_48_method_1_code 23 = .ok (.iload_n 1, 1) := by decide +kernel
theorem d2_24 : decode prog_48_method_1_code 24 = .ok (.putfield 16, 3) := by decide +kernel
theorem d2_27 : decode prog_48_method_1_code 27 = .ok (.return_, 1) := by decide +kernel
theorem pnA0 : plainName "com/example/winnowfold/winnowfold/math/AbstractVector" = true := by first | (simp [plainName, overriddenIn]; done) | decide +kernel
theorem efA0 (m : MethodId) (a0 : Addr) : entryFrame m #[(.ref a0), (.int (0 : Int32))] 2 = mkF m 0 #[.val (.ref a0), .val (.int (0 : Int32))] [] := by first | (simp [entryFrame, mkF, argsToLocals, Value.category]; done) | rfl
def QA0 (Z : State) (a0 : Addr) (u_size_a0 : Value) (u_values_a0 : Value) (h0 : Heap) (n0 : Nat) (v : Option Value) (h : Heap) (L : List Loc) : Prop := v = none ∧ Fr n0 L ∧ Keep h0 h [a0] ∧ Exa Z h a0 "com/example/winnowfold/winnowfold/math/DenseVector" ∧ Fld Z h a0 "com/example/winnowfold/winnowfold/math/AbstractVector" "size" "I" (.int (0 : Int32)) ∧ Fld Z h a0 "com/example/winnowfold/winnowfold/math/DenseVector" "values" "[D" u_values_a0
set_option maxRecDepth 65536 in
set_option maxHeartbeats 40000000 in
theorem rmA0 (l : Launch) (Z : State) (ar : Array Value) (hw : ∀ d ∈ tables_1, d.before ar Z = true) (ws : List Jvm.Cond) (a0 : Addr) (u_size_a0 : Value) (u_values_a0 : Value) (h0 : Heap) (n0 : Nat) (Z0 : n0 ≤ h0.size) (E_a0 : Exa Z h0 a0 "com/example/winnowfold/winnowfold/math/DenseVector") (F_size_a0 : Fld Z h0 a0 "com/example/winnowfold/winnowfold/math/AbstractVector" "size" "I" u_size_a0) (F_values_a0 : Fld Z h0 a0 "com/example/winnowfold/winnowfold/math/DenseVector" "values" "[D" u_values_a0) (g_a0 : n0 ≤ a0) :
    MetFree l (⟨"com/example/winnowfold/winnowfold/math/AbstractVector", "<init>", "(I)V"⟩ : MethodName) (head1 (Jvm.Cond.code (⟨"com/example/winnowfold/winnowfold/math/AbstractVector", "<init>", "(I)V"⟩ : MethodName) prog_48_method_1_code 2 none :: ws) ({ frames := 1, cells := 0, slots := 0, locals := 12 } : Room)) (fun a U => a = #[(.ref a0), (.int (0 : Int32))] ∧ Z.Warmed39 U.vm ∧ U.heap = h0) (fun _ _ _ _ _ => True) (fun _ U o U' => ∃ v L, o = .returned v ∧ QA0 Z a0 u_size_a0 u_values_a0 h0 n0 v U'.heap L ∧ FrameEnd U o U' L ({ frames := 1, cells := 0, slots := 0, locals := 12 } : Room).cells ({ frames := 1, cells := 0, slots := 0, locals := 12 } : Room).slots) := by
  refine MetFree.of_bodySF (plainFor_of_name pnA0) hisR ?_
  intro p e s m args below meth c s₁ Bd hml0 hP hK
  obtain ⟨rfl, hZ, hh⟩ := hP
  have hx := Bd.exec
  have hby := Bd.bytes
  have hlk := Bd.notSynchronized
  have hml : c.maxLocals = 2 := hml0
  have hown : s.vm.findClass "com/example/winnowfold/winnowfold/math/AbstractVector" = some m.cls := findClass_of_methodNamed Bd.named
  have hnm := (name_of_methodNamed Bd.named Bd.method).1
  have X0 : Stand p l e ({ frames := 1, cells := 0, slots := 0, locals := 12 } : Room) s m #[(.ref a0), (.int (0 : Int32))] below meth c s₁ [] 0 0 := Stand.of_body Bd
  have e0 : s₁.heap = h0 := by rw [← hh, Bd.state]; rfl
  have N0 := Fr.nil n0
  have K0 := Keep.refl h0 [a0]
  refine own_enter (Q := QA0 Z a0 u_size_a0 u_values_a0 h0 n0) (efA0 m a0) ?_
  refine own_st (T' := s₁) (g' := (mkF m 1 #[.val (.ref a0), .val (.int (0 : Int32))] [(.ref a0)])) (fun t k => ?_) ?_
  · show Steps p.tables e below (s₁.setTop (mkF m 0 #[.val (.ref a0), .val (.int (0 : Int32))] [])) t
    refine XS.aloadN X0.here hx rfl (hb hby d2_0) rfl rfl ?_
    exact k
  obtain ⟨T1, X1, e1, st1⟩ := initO X0 hx hZ hown (hw _ (List.mem_of_getElem? (i := 12) rfl)) (hw _ (List.mem_of_getElem? (i := 13) rfl)) (hw _ (List.mem_of_getElem? (i := 14) rfl)) e0 (g := (mkF m 1 #[.val (.ref a0), .val (.int (0 : Int32))] [(.ref a0)])) rfl (by rw [hml]; rfl) rfl (hb hby d2_1) (by decide) (W := 0) (by show 2 * 0 + _ ≤ _; exact Nat.le_of_eq rfl) (by decide)
  refine own_st (T' := T1) (g' := (mkF m 4 #[.val (.ref a0), .val (.int (0 : Int32))] [])) st1 ?_
  refine own_st (T' := T1) (g' := (mkF m 24 #[.val (.ref a0), .val (.int (0 : Int32))] [(.int (0 : Int32)), (.ref a0)])) (fun t k => ?_) ?_
  · show Steps p.tables e below (T1.setTop (mkF m 4 #[.val (.ref a0), .val (.int (0 : Int32))] [])) t
    refine XS.iloadN X1.here hx rfl (hb hby d2_4) rfl ?_
    show Steps p.tables e below (T1.setTop (mkF m 5 #[.val (.ref a0), .val (.int (0 : Int32))] [(.int (0 : Int32))])) t
    refine XS.ifYes X1.here hx rfl (pc0 := 5) (pc' := 22) rfl (hb hby d2_5) rfl (by decide) (by decide) (by decide) ?_
    show Steps p.tables e below (T1.setTop (mkF m 22 #[.val (.ref a0), .val (.int (0 : Int32))] [])) t
    refine XS.aloadN X1.here hx rfl (hb hby d2_22) rfl rfl ?_
    show Steps p.tables e below (T1.setTop (mkF m 23 #[.val (.ref a0), .val (.int (0 : Int32))] [(.ref a0)])) t
    refine XS.iloadN X1.here hx rfl (hb hby d2_23) rfl ?_
    exact k
  obtain ⟨T2, h2, X2, e2, W2, st2⟩ := putF X1 hx hZ hown (host := "") (Or.inl (hw _ (List.mem_of_getElem? (i := 15) rfl))) Via.refl e1 F_size_a0 E_a0 (Or.inr ⟨(hw _ (List.mem_of_getElem? (i := 16) rfl)), rfl, hnm⟩) (hw _ (List.mem_of_getElem? (i := 2) rfl)) (ty := .int) (by decide) rfl rfl (g := (mkF m 24 #[.val (.ref a0), .val (.int (0 : Int32))] [(.int (0 : Int32)), (.ref a0)])) rfl rfl (hb hby d2_24)
  have f3 := E_a0.wr W2
  have f4 := F_size_a0.same W2
  have f5 := F_values_a0.other W2 (Or.inr (slot_ne (Or.inr (hw _ (List.mem_of_getElem? (i := 19) rfl))) (Or.inr (hw _ (List.mem_of_getElem? (i := 16) rfl))) (by decide) (t := (.array .double)) (t' := .int) (by decide) (by decide)))
  have z6 := Nat.le_trans Z0 (Keep.of_wr W2).1
  have k7 := K0.wr W2 (Or.inl (List.mem_of_getElem? (i := 0) rfl))
  have n8 := Fr.snoc X2 N0 g_a0
  refine own_st (T' := T2) (g' := (mkF m 27 #[.val (.ref a0), .val (.int (0 : Int32))] [])) st2 ?_
  refine own_retV X2 hx hlk Bd.returns (hb hby d2_27) (by decide) (by decide) ?_
  show QA0 Z a0 u_size_a0 u_values_a0 h0 n0 none T2.heap _
  rw [(e2 : T2.heap = h2)]
  exact ⟨rfl, n8, k7, f3, f4, f5⟩
theorem pnA1 : plainName "com/example/winnowfold/winnowfold/math/AbstractVector" = true := by first | (simp [plainName, overriddenIn]; done) | decide +kernel
theorem efA1 (m : MethodId) (a0 : Addr) : entryFrame m #[(.ref a0), (.int (1 : Int32))] 2 = mkF m 0 #[.val (.ref a0), .val (.int (1 : Int32))] [] := by first | (simp [entryFrame, mkF, argsToLocals, Value.category]; done) | rfl
def QA1 (Z : State) (a0 : Addr) (u_size_a0 : Value) (u_values_a0 : Value) (h0 : Heap) (n0 : Nat) (v : Option Value) (h : Heap) (L : List Loc) : Prop := v = none ∧ Fr n0 L ∧ Keep h0 h [a0] ∧ Exa Z h a0 "com/example/winnowfold/winnowfold/math/DenseVector" ∧ Fld Z h a0 "com/example/winnowfold/winnowfold/math/AbstractVector" "size" "I" (.int (1 : Int32)) ∧ Fld Z h a0 "com/example/winnowfold/winnowfold/math/DenseVector" "values" "[D" u_values_a0
set_option maxRecDepth 65536 in
set_option maxHeartbeats 40000000 in
theorem rmA1 (l : Launch) (Z : State) (ar : Array Value) (hw : ∀ d ∈ tables_1, d.before ar Z = true) (ws : List Jvm.Cond) (a0 : Addr) (u_size_a0 : Value) (u_values_a0 : Value) (h0 : Heap) (n0 : Nat) (Z0 : n0 ≤ h0.size) (E_a0 : Exa Z h0 a0 "com/example/winnowfold/winnowfold/math/DenseVector") (F_size_a0 : Fld Z h0 a0 "com/example/winnowfold/winnowfold/math/AbstractVector" "size" "I" u_size_a0) (F_values_a0 : Fld Z h0 a0 "com/example/winnowfold/winnowfold/math/DenseVector" "values" "[D" u_values_a0) (g_a0 : n0 ≤ a0) :
    MetFree l (⟨"com/example/winnowfold/winnowfold/math/AbstractVector", "<init>", "(I)V"⟩ : MethodName) (head1 (Jvm.Cond.code (⟨"com/example/winnowfold/winnowfold/math/AbstractVector", "<init>", "(I)V"⟩ : MethodName) prog_48_method_1_code 2 none :: ws) ({ frames := 1, cells := 0, slots := 0, locals := 12 } : Room)) (fun a U => a = #[(.ref a0), (.int (1 : Int32))] ∧ Z.Warmed39 U.vm ∧ U.heap = h0) (fun _ _ _ _ _ => True) (fun _ U o U' => ∃ v L, o = .returned v ∧ QA1 Z a0 u_size_a0 u_values_a0 h0 n0 v U'.heap L ∧ FrameEnd U o U' L ({ frames := 1, cells := 0, slots := 0, locals := 12 } : Room).cells ({ frames := 1, cells := 0, slots := 0, locals := 12 } : Room).slots) := by
  refine MetFree.of_bodySF (plainFor_of_name pnA1) hisR ?_
  intro p e s m args below meth c s₁ Bd hml0 hP hK
  obtain ⟨rfl, hZ, hh⟩ := hP
  have hx := Bd.exec
  have hby := Bd.bytes
  have hlk := Bd.notSynchronized
  have hml : c.maxLocals = 2 := hml0
  have hown : s.vm.findClass "com/example/winnowfold/winnowfold/math/AbstractVector" = some m.cls := findClass_of_methodNamed Bd.named
  have hnm := (name_of_methodNamed Bd.named Bd.method).1
  have X0 : Stand p l e ({ frames := 1, cells := 0, slots := 0, locals := 12 } : Room) s m #[(.ref a0), (.int (1 : Int32))] below meth c s₁ [] 0 0 := Stand.of_body Bd
  have e0 : s₁.heap = h0 := by rw [← hh, Bd.state]; rfl
  have N0 := Fr.nil n0
  have K0 := Keep.refl h0 [a0]
  refine own_enter (Q := QA1 Z a0 u_size_a0 u_values_a0 h0 n0) (efA1 m a0) ?_
  refine own_st (T' := s₁) (g' := (mkF m 1 #[.val (.ref a0), .val (.int (1 : Int32))] [(.ref a0)])) (fun t k => ?_) ?_
  · show Steps p.tables e below (s₁.setTop (mkF m 0 #[.val (.ref a0), .val (.int (1 : Int32))] [])) t
    refine XS.aloadN X0.here hx rfl (hb hby d2_0) rfl rfl ?_
    exact k
  obtain ⟨T1, X1, e1, st1⟩ := initO X0 hx hZ hown (hw _ (List.mem_of_getElem? (i := 12) rfl)) (hw _ (List.mem_of_getElem? (i := 13) rfl)) (hw _ (List.mem_of_getElem? (i := 14) rfl)) e0 (g := (mkF m 1 #[.val (.ref a0), .val (.int (1 : Int32))] [(.ref a0)])) rfl (by rw [hml]; rfl) rfl (hb hby d2_1) (by decide) (W := 0) (by show 2 * 0 + _ ≤ _; exact Nat.le_of_eq rfl) (by decide)
  refine own_st (T' := T1) (g' := (mkF m 4 #[.val (.ref a0), .val (.int (1 : Int32))] [])) st1 ?_
  refine own_st (T' := T1) (g' := (mkF m 24 #[.val (.ref a0), .val (.int (1 : Int32))] [(.int (1 : Int32)), (.ref a0)])) (fun t k => ?_) ?_
  · show Steps p.tables e below (T1.setTop (mkF m 4 #[.val (.ref a0), .val (.int (1 : Int32))] [])) t
    refine XS.iloadN X1.here hx rfl (hb hby d2_4) rfl ?_
    show Steps p.tables e below (T1.setTop (mkF m 5 #[.val (.ref a0), .val (.int (1 : Int32))] [(.int (1 : Int32))])) t
    refine XS.ifYes X1.here hx rfl (pc0 := 5) (pc' := 22) rfl (hb hby d2_5) rfl (by decide) (by decide) (by decide) ?_
    show Steps p.tables e below (T1.setTop (mkF m 22 #[.val (.ref a0), .val (.int (1 : Int32))] [])) t
    refine XS.aloadN X1.here hx rfl (hb hby d2_22) rfl rfl ?_
    show Steps p.tables e below (T1.setTop (mkF m 23 #[.val (.ref a0), .val (.int (1 : Int32))] [(.ref a0)])) t
    refine XS.iloadN X1.here hx rfl (hb hby d2_23) rfl ?_
    exact k
  obtain ⟨T2, h2, X2, e2, W2, st2⟩ := putF X1 hx hZ hown (host := "") (Or.inl (hw _ (List.mem_of_getElem? (i := 15) rfl))) Via.refl e1 F_size_a0 E_a0 (Or.inr ⟨(hw _ (List.mem_of_getElem? (i := 16) rfl)), rfl, hnm⟩) (hw _ (List.mem_of_getElem? (i := 2) rfl)) (ty := .int) (by decide) rfl rfl (g := (mkF m 24 #[.val (.ref a0), .val (.int (1 : Int32))] [(.int (1 : Int32)), (.ref a0)])) rfl rfl (hb hby d2_24)
  have f3 := E_a0.wr W2
  have f4 := F_size_a0.same W2
  have f5 := F_values_a0.other W2 (Or.inr (slot_ne (Or.inr (hw _ (List.mem_of_getElem? (i := 19) rfl))) (Or.inr (hw _ (List.mem_of_getElem? (i := 16) rfl))) (by decide) (t := (.array .double)) (t' := .int) (by decide) (by decide)))
  have z6 := Nat.le_trans Z0 (Keep.of_wr W2).1
  have k7 := K0.wr W2 (Or.inl (List.mem_of_getElem? (i := 0) rfl))
  have n8 := Fr.snoc X2 N0 g_a0
  refine own_st (T' := T2) (g' := (mkF m 27 #[.val (.ref a0), .val (.int (1 : Int32))] [])) st2 ?_
  refine own_retV X2 hx hlk Bd.returns (hb hby d2_27) (by decide) (by decide) ?_
  show QA1 Z a0 u_size_a0 u_values_a0 h0 n0 none T2.heap _
  rw [(e2 : T2.heap = h2)]
  exact ⟨rfl, n8, k7, f3, f4, f5⟩
theorem pnA2 : plainName "com/example/winnowfold/winnowfold/math/AbstractVector" = true := by first | (simp [plainName, overriddenIn]; done) | decide +kernel
theorem efA2 (m : MethodId) (a0 : Addr) : entryFrame m #[(.ref a0), (.int (2 : Int32))] 2 = mkF m 0 #[.val (.ref a0), .val (.int (2 : Int32))] [] := by first | (simp [entryFrame, mkF, argsToLocals, Value.category]; done) | rfl
def QA2 (Z : State) (a0 : Addr) (u_size_a0 : Value) (u_values_a0 : Value) (h0 : Heap) (n0 : Nat) (v : Option Value) (h : Heap) (L : List Loc) : Prop := v = none ∧ Fr n0 L ∧ Keep h0 h [a0] ∧ Exa Z h a0 "com/example/winnowfold/winnowfold/math/DenseVector" ∧ Fld Z h a0 "com/example/winnowfold/winnowfold/math/AbstractVector" "size" "I" (.int (2 : Int32)) ∧ Fld Z h a0 "com/example/winnowfold/winnowfold/math/DenseVector" "values" "[D" u_values_a0
set_option maxRecDepth 65536 in
set_option maxHeartbeats 40000000 in
theorem rmA2 (l : Launch) (Z : State) (ar : Array Value) (hw : ∀ d ∈ tables_1, d.before ar Z = true) (ws : List Jvm.Cond) (a0 : Addr) (u_size_a0 : Value) (u_values_a0 : Value) (h0 : Heap) (n0 : Nat) (Z0 : n0 ≤ h0.size) (E_a0 : Exa Z h0 a0 "com/example/winnowfold/winnowfold/math/DenseVector") (F_size_a0 : Fld Z h0 a0 "com/example/winnowfold/winnowfold/math/AbstractVector" "size" "I" u_size_a0) (F_values_a0 : Fld Z h0 a0 "com/example/winnowfold/winnowfold/math/DenseVector" "values" "[D" u_values_a0) (g_a0 : n0 ≤ a0) :
    MetFree l (⟨"com/example/winnowfold/winnowfold/math/AbstractVector", "<init>", "(I)V"⟩ : MethodName) (head1 (Jvm.Cond.code (⟨"com/example/winnowfold/winnowfold/math/AbstractVector", "<init>", "(I)V"⟩ : MethodName) prog_48_method_1_code 2 none :: ws) ({ frames := 1, cells := 0, slots := 0, locals := 12 } : Room)) (fun a U => a = #[(.ref a0), (.int (2 : Int32))] ∧ Z.Warmed39 U.vm ∧ U.heap = h0) (fun _ _ _ _ _ => True) (fun _ U o U' => ∃ v L, o = .returned v ∧ QA2 Z a0 u_size_a0 u_values_a0 h0 n0 v U'.heap L ∧ FrameEnd U o U' L ({ frames := 1, cells := 0, slots := 0, locals := 12 } : Room).cells ({ frames := 1, cells := 0, slots := 0, locals := 12 } : Room).slots) := by
  refine MetFree.of_bodySF (plainFor_of_name pnA2) hisR ?_
  intro p e s m args below meth c s₁ Bd hml0 hP hK
  obtain ⟨rfl, hZ, hh⟩ := hP
  have hx := Bd.exec
  have hby := Bd.bytes
  have hlk := Bd.notSynchronized
  have hml : c.maxLocals = 2 := hml0
  have hown : s.vm.findClass "com/example/winnowfold/winnowfold/math/AbstractVector" = some m.cls := findClass_of_methodNamed Bd.named
  have hnm := (name_of_methodNamed Bd.named Bd.method).1
  have X0 : Stand p l e ({ frames := 1, cells := 0, slots := 0, locals := 12 } : Room) s m #[(.ref a0), (.int (2 : Int32))] below meth c s₁ [] 0 0 := Stand.of_body Bd
  have e0 : s₁.heap = h0 := by rw [← hh, Bd.state]; rfl
  have N0 := Fr.nil n0
  have K0 := Keep.refl h0 [a0]
  refine own_enter (Q := QA2 Z a0 u_size_a0 u_values_a0 h0 n0) (efA2 m a0) ?_
  refine own_st (T' := s₁) (g' := (mkF m 1 #[.val (.ref a0), .val (.int (2 : Int32))] [(.ref a0)])) (fun t k => ?_) ?_
  · show Steps p.tables e below (s₁.setTop (mkF m 0 #[.val (.ref a0), .val (.int (2 : Int32))] [])) t
    refine XS.aloadN X0.here hx rfl (hb hby d2_0) rfl rfl ?_
    exact k
  obtain ⟨T1, X1, e1, st1⟩ := initO X0 hx hZ hown (hw _ (List.mem_of_getElem? (i := 12) rfl)) (hw _ (List.mem_of_getElem? (i := 13) rfl)) (hw _ (List.mem_of_getElem? (i := 14) rfl)) e0 (g := (mkF m 1 #[.val (.ref a0), .val (.int (2 : Int32))] [(.ref a0)])) rfl (by rw [hml]; rfl) rfl (hb hby d2_1) (by decide) (W := 0) (by show 2 * 0 + _ ≤ _; exact Nat.le_of_eq rfl) (by decide)
  refine own_st (T' := T1) (g' := (mkF m 4 #[.val (.ref a0), .val (.int (2 : Int32))] [])) st1 ?_
  refine own_st (T' := T1) (g' := (mkF m 24 #[.val (.ref a0), .val (.int (2 : Int32))] [(.int (2 : Int32)), (.ref a0)])) (fun t k => ?_) ?_
  · show Steps p.tables e below (T1.setTop (mkF m 4 #[.val (.ref a0), .val (.int (2 : Int32))] [])) t
    refine XS.iloadN X1.here hx rfl (hb hby d2_4) rfl ?_
    show Steps p.tables e below (T1.setTop (mkF m 5 #[.val (.ref a0), .val (.int (2 : Int32))] [(.int (2 : Int32))])) t
    refine XS.ifYes X1.here hx rfl (pc0 := 5) (pc' := 22) rfl (hb hby d2_5) rfl (by decide) (by decide) (by decide) ?_
    show Steps p.tables e below (T1.setTop (mkF m 22 #[.val (.ref a0), .val (.int (2 : Int32))] [])) t
    refine XS.aloadN X1.here hx rfl (hb hby d2_22) rfl rfl ?_
    show Steps p.tables e below (T1.setTop (mkF m 23 #[.val (.ref a0), .val (.int (2 : Int32))] [(.ref a0)])) t
    refine XS.iloadN X1.here hx rfl (hb hby d2_23) rfl ?_
    exact k
  obtain ⟨T2, h2, X2, e2, W2, st2⟩ := putF X1 hx hZ hown (host := "") (Or.inl (hw _ (List.mem_of_getElem? (i := 15) rfl))) Via.refl e1 F_size_a0 E_a0 (Or.inr ⟨(hw _ (List.mem_of_getElem? (i := 16) rfl)), rfl, hnm⟩) (hw _ (List.mem_of_getElem? (i := 2) rfl)) (ty := .int) (by decide) rfl rfl (g := (mkF m 24 #[.val (.ref a0), .val (.int (2 : Int32))] [(.int (2 : Int32)), (.ref a0)])) rfl rfl (hb hby d2_24)
  have f3 := E_a0.wr W2
  have f4 := F_size_a0.same W2
  have f5 := F_values_a0.other W2 (Or.inr (slot_ne (Or.inr (hw _ (List.mem_of_getElem? (i := 19) rfl))) (Or.inr (hw _ (List.mem_of_getElem? (i := 16) rfl))) (by decide) (t := (.array .double)) (t' := .int) (by decide) (by decide)))
  have z6 := Nat.le_trans Z0 (Keep.of_wr W2).1
  have k7 := K0.wr W2 (Or.inl (List.mem_of_getElem? (i := 0) rfl))
  have n8 := Fr.snoc X2 N0 g_a0
  refine own_st (T' := T2) (g' := (mkF m 27 #[.val (.ref a0), .val (.int (2 : Int32))] [])) st2 ?_
  refine own_retV X2 hx hlk Bd.returns (hb hby d2_27) (by decide) (by decide) ?_
  show QA2 Z a0 u_size_a0 u_values_a0 h0 n0 none T2.heap _
  rw [(e2 : T2.heap = h2)]
  exact ⟨rfl, n8, k7, f3, f4, f5⟩
theorem pnA3 : plainName "com/example/winnowfold/winnowfold/math/AbstractVector" = true := by first | (simp [plainName, overriddenIn]; done) | decide +kernel
theorem efA3 (m : MethodId) (a0 : Addr) : entryFrame m #[(.ref a0), (.int (3 : Int32))] 2 = mkF m 0 #[.val (.ref a0), .val (.int (3 : Int32))] [] := by first | (simp [entryFrame, mkF, argsToLocals, Value.category]; done) | rfl
def QA3 (Z : State) (a0 : Addr) (u_size_a0 : Value) (u_values_a0 : Value) (h0 : Heap) (n0 : Nat) (v : Option Value) (h : Heap) (L : List Loc) : Prop := v = none ∧ Fr n0 L ∧ Keep h0 h [a0] ∧ Exa Z h a0 "com/example/winnowfold/winnowfold/math/DenseVector" ∧ Fld Z h a0 "com/example/winnowfold/winnowfold/math/AbstractVector" "size" "I" (.int (3 : Int32)) ∧ Fld Z h a0 "com/example/winnowfold/winnowfold/math/DenseVector" "values" "[D" u_values_a0
set_option maxRecDepth 65536 in
set_option maxHeartbeats 40000000 in
theorem rmA3 (l : Launch) (Z : State) (ar : Array Value) (hw : ∀ d ∈ tables_1, d.before ar Z = true) (ws : List Jvm.Cond) (a0 : Addr) (u_size_a0 : Value) (u_values_a0 : Value) (h0 : Heap) (n0 : Nat) (Z0 : n0 ≤ h0.size) (E_a0 : Exa Z h0 a0 "com/example/winnowfold/winnowfold/math/DenseVector") (F_size_a0 : Fld Z h0 a0 "com/example/winnowfold/winnowfold/math/AbstractVector" "size" "I" u_size_a0) (F_values_a0 : Fld Z h0 a0 "com/example/winnowfold/winnowfold/math/DenseVector" "values" "[D" u_values_a0) (g_a0 : n0 ≤ a0) :
    MetFree l (⟨"com/example/winnowfold/winnowfold/math/AbstractVector", "<init>", "(I)V"⟩ : MethodName) (head1 (Jvm.Cond.code (⟨"com/example/winnowfold/winnowfold/math/AbstractVector", "<init>", "(I)V"⟩ : MethodName) prog_48_method_1_code 2 none :: ws) ({ frames := 1, cells := 0, slots := 0, locals := 12 } : Room)) (fun a U => a = #[(.ref a0), (.int (3 : Int32))] ∧ Z.Warmed39 U.vm ∧ U.heap = h0) (fun _ _ _ _ _ => True) (fun _ U o U' => ∃ v L, o = .returned v ∧ QA3 Z a0 u_size_a0 u_values_a0 h0 n0 v U'.heap L ∧ FrameEnd U o U' L ({ frames := 1, cells := 0, slots := 0, locals := 12 } : Room).cells ({ frames := 1, cells := 0, slots := 0, locals := 12 } : Room).slots) := by
  refine MetFree.of_bodySF (plainFor_of_name pnA3) hisR ?_
  intro p e s m args below meth c s₁ Bd hml0 hP hK
  obtain ⟨rfl, hZ, hh⟩ := hP
  have hx := Bd.exec
  have hby := Bd.bytes
  have hlk := Bd.notSynchronized
  have hml : c.maxLocals = 2 := hml0
  have hown : s.vm.findClass "com/example/winnowfold/winnowfold/math/AbstractVector" = some m.cls := findClass_of_methodNamed Bd.named
  have hnm := (name_of_methodNamed Bd.named Bd.method).1
  have X0 : Stand p l e ({ frames := 1, cells := 0, slots := 0, locals := 12 } : Room) s m #[(.ref a0), (.int (3 : Int32))] below meth c s₁ [] 0 0 := Stand.of_body Bd
  have e0 : s₁.heap = h0 := by rw [← hh, Bd.state]; rfl
  have N0 := Fr.nil n0
  have K0 := Keep.refl h0 [a0]
  refine own_enter (Q := QA3 Z a0 u_size_a0 u_values_a0 h0 n0) (efA3 m a0) ?_
  refine own_st (T' := s₁) (g' := (mkF m 1 #[.val (.ref a0), .val (.int (3 : Int32))] [(.ref a0)])) (fun t k => ?_) ?_
  · show Steps p.tables e below (s₁.setTop (mkF m 0 #[.val (.ref a0), .val (.int (3 : Int32))] [])) t
    refine XS.aloadN X0.here hx rfl (hb hby d2_0) rfl rfl ?_
    exact k
  obtain ⟨T1, X1, e1, st1⟩ := initO X0 hx hZ hown (hw _ (List.mem_of_getElem? (i := 12) rfl)) (hw _ (List.mem_of_getElem? (i := 13) rfl)) (hw _ (List.mem_of_getElem? (i := 14) rfl)) e0 (g := (mkF m 1 #[.val (.ref a0), .val (.int (3 : Int32))] [(.ref a0)])) rfl (by rw [hml]; rfl) rfl (hb hby d2_1) (by decide) (W := 0) (by show 2 * 0 + _ ≤ _; exact Nat.le_of_eq rfl) (by decide)
  refine own_st (T' := T1) (g' := (mkF m 4 #[.val (.ref a0), .val (.int (3 : Int32))] [])) st1 ?_
  refine own_st (T' := T1) (g' := (mkF m 24 #[.val (.ref a0), .val (.int (3 : Int32))] [(.int (3 : Int32)), (.ref a0)])) (fun t k => ?_) ?_
  · show Steps p.tables e below (T1.setTop (mkF m 4 #[.val (.ref a0), .val (.int (3 : Int32))] [])) t
    refine XS.iloadN X1.here hx rfl (hb hby d2_4) rfl ?_
    show Steps p.tables e below (T1.setTop (mkF m 5 #[.val (.ref a0), .val (.int (3 : Int32))] [(.int (3 : Int32))])) t
    refine XS.ifYes X1.here hx rfl (pc0 := 5) (pc' := 22) rfl (hb hby d2_5) rfl (by decide) (by decide) (by decide) ?_
    show Steps p.tables e below (T1.setTop (mkF m 22 #[.val (.ref a0), .val (.int (3 : Int32))] [])) t
    refine XS.aloadN X1.here hx rfl (hb hby d2_22) rfl rfl ?_
    show Steps p.tables e below (T1.setTop (mkF m 23 #[.val (.ref a0), .val (.int (3 : Int32))] [(.ref a0)])) t
    refine XS.iloadN X1.here hx rfl (hb hby d2_23) rfl ?_
    exact k
  obtain ⟨T2, h2, X2, e2, W2, st2⟩ := putF X1 hx hZ hown (host := "") (Or.inl (hw _ (List.mem_of_getElem? (i := 15) rfl))) Via.refl e1 F_size_a0 E_a0 (Or.inr ⟨(hw _ (List.mem_of_getElem? (i := 16) rfl)), rfl, hnm⟩) (hw _ (List.mem_of_getElem? (i := 2) rfl)) (ty := .int) (by decide) rfl rfl (g := (mkF m 24 #[.val (.ref a0), .val (.int (3 : Int32))] [(.int (3 : Int32)), (.ref a0)])) rfl rfl (hb hby d2_24)
  have f3 := E_a0.wr W2
  have f4 := F_size_a0.same W2
  have f5 := F_values_a0.other W2 (Or.inr (slot_ne (Or.inr (hw _ (List.mem_of_getElem? (i := 19) rfl))) (Or.inr (hw _ (List.mem_of_getElem? (i := 16) rfl))) (by decide) (t := (.array .double)) (t' := .int) (by decide) (by decide)))
  have z6 := Nat.le_trans Z0 (Keep.of_wr W2).1
  have k7 := K0.wr W2 (Or.inl (List.mem_of_getElem? (i := 0) rfl))
  have n8 := Fr.snoc X2 N0 g_a0
  refine own_st (T' := T2) (g' := (mkF m 27 #[.val (.ref a0), .val (.int (3 : Int32))] [])) st2 ?_
  refine own_retV X2 hx hlk Bd.returns (hb hby d2_27) (by decide) (by decide) ?_
  show QA3 Z a0 u_size_a0 u_values_a0 h0 n0 none T2.heap _
  rw [(e2 : T2.heap = h2)]
  exact ⟨rfl, n8, k7, f3, f4, f5⟩
theorem pnA4 : plainName "com/example/winnowfold/winnowfold/math/AbstractVector" = true := by first | (simp [plainName, overriddenIn]; done) | decide +kernel
theorem efA4 (m : MethodId) (a0 : Addr) : entryFrame m #[(.ref a0), (.int (4 : Int32))] 2 = mkF m 0 #[.val (.ref a0), .val (.int (4 : Int32))] [] := by first | (simp [entryFrame, mkF, argsToLocals, Value.category]; done) | rfl
def QA4 (Z : State) (a0 : Addr) (u_size_a0 : Value) (u_values_a0 : Value) (h0 : Heap) (n0 : Nat) (v : Option Value) (h : Heap) (L : List Loc) : Prop := v = none ∧ Fr n0 L ∧ Keep h0 h [a0] ∧ Exa Z h a0 "com/example/winnowfold/winnowfold/math/DenseVector" ∧ Fld Z h a0 "com/example/winnowfold/winnowfold/math/AbstractVector" "size" "I" (.int (4 : Int32)) ∧ Fld Z h a0 "com/example/winnowfold/winnowfold/math/DenseVector" "values" "[D" u_values_a0
set_option maxRecDepth 65536 in
set_option maxHeartbeats 40000000 in
theorem rmA4 (l : Launch) (Z : State) (ar : Array Value) (hw : ∀ d ∈ tables_1, d.before ar Z = true) (ws : List Jvm.Cond) (a0 : Addr) (u_size_a0 : Value) (u_values_a0 : Value) (h0 : Heap) (n0 : Nat) (Z0 : n0 ≤ h0.size) (E_a0 : Exa Z h0 a0 "com/example/winnowfold/winnowfold/math/DenseVector") (F_size_a0 : Fld Z h0 a0 "com/example/winnowfold/winnowfold/math/AbstractVector" "size" "I" u_size_a0) (F_values_a0 : Fld Z h0 a0 "com/example/winnowfold/winnowfold/math/DenseVector" "values" "[D" u_values_a0) (g_a0 : n0 ≤ a0) :
    MetFree l (⟨"com/example/winnowfold/winnowfold/math/AbstractVector", "<init>", "(I)V"⟩ : MethodName) (head1 (Jvm.Cond.code (⟨"com/example/winnowfold/winnowfold/math/AbstractVector", "<init>", "(I)V"⟩ : MethodName) prog_48_method_1_code 2 none :: ws) ({ frames := 1, cells := 0, slots := 0, locals := 12 } : Room)) (fun a U => a = #[(.ref a0), (.int (4 : Int32))] ∧ Z.Warmed39 U.vm ∧ U.heap = h0) (fun _ _ _ _ _ => True) (fun _ U o U' => ∃ v L, o = .returned v ∧ QA4 Z a0 u_size_a0 u_values_a0 h0 n0 v U'.heap L ∧ FrameEnd U o U' L ({ frames := 1, cells := 0, slots := 0, locals := 12 } : Room).cells ({ frames := 1, cells := 0, slots := 0, locals := 12 } : Room).slots) := by
  refine MetFree.of_bodySF (plainFor_of_name pnA4) hisR ?_
  intro p e s m args below meth c s₁ Bd hml0 hP hK
  obtain ⟨rfl, hZ, hh⟩ := hP
  have hx := Bd.exec
  have hby := Bd.bytes
  have hlk := Bd.notSynchronized
  have hml : c.maxLocals = 2 := hml0
  have hown : s.vm.findClass "com/example/winnowfold/winnowfold/math/AbstractVector" = some m.cls := findClass_of_methodNamed Bd.named
  have hnm := (name_of_methodNamed Bd.named Bd.method).1
  have X0 : Stand p l e ({ frames := 1, cells := 0, slots := 0, locals := 12 } : Room) s m #[(.ref a0), (.int (4 : Int32))] below meth c s₁ [] 0 0 := Stand.of_body Bd
  have e0 : s₁.heap = h0 := by rw [← hh, Bd.state]; rfl
  have N0 := Fr.nil n0
  have K0 := Keep.refl h0 [a0]
  refine own_enter (Q := QA4 Z a0 u_size_a0 u_values_a0 h0 n0) (efA4 m a0) ?_
  refine own_st (T' := s₁) (g' := (mkF m 1 #[.val (.ref a0), .val (.int (4 : Int32))] [(.ref a0)])) (fun t k => ?_) ?_
  · show Steps p.tables e below (s₁.setTop (mkF m 0 #[.val (.ref a0), .val (.int (4 : Int32))] [])) t
    refine XS.aloadN X0.here hx rfl (hb hby d2_0) rfl rfl ?_
    exact k
  obtain ⟨T1, X1, e1, st1⟩ := initO X0 hx hZ hown (hw _ (List.mem_of_getElem? (i := 12) rfl)) (hw _ (List.mem_of_getElem? (i := 13) rfl)) (hw _ (List.mem_of_getElem? (i := 14) rfl)) e0 (g := (mkF m 1 #[.val (.ref a0), .val (.int (4 : Int32))] [(.ref a0)])) rfl (by rw [hml]; rfl) rfl (hb hby d2_1) (by decide) (W := 0) (by show 2 * 0 + _ ≤ _; exact Nat.le_of_eq rfl) (by decide)
  refine own_st (T' := T1) (g' := (mkF m 4 #[.val (.ref a0), .val (.int (4 : Int32))] [])) st1 ?_
  refine own_st (T' := T1) (g' := (mkF m 24 #[.val (.ref a0), .val (.int (4 : Int32))] [(.int (4 : Int32)), (.ref a0)])) (fun t k => ?_) ?_
  · show Steps p.tables e below (T1.setTop (mkF m 4 #[.val (.ref a0), .val (.int (4 : Int32))] [])) t
    refine XS.iloadN X1.here hx rfl (hb hby d2_4) rfl ?_
    show Steps p.tables e below (T1.setTop (mkF m 5 #[.val (.ref a0), .val (.int (4 : Int32))] [(.int (4 : Int32))])) t
    refine XS.ifYes X1.here hx rfl (pc0 := 5) (pc' := 22) rfl (hb hby d2_5) rfl (by decide) (by decide) (by decide) ?_
    show Steps p.tables e below (T1.setTop (mkF m 22 #[.val (.ref a0), .val (.int (4 : Int32))] [])) t
    refine XS.aloadN X1.here hx rfl (hb hby d2_22) rfl rfl ?_
    show Steps p.tables e below (T1.setTop (mkF m 23 #[.val (.ref a0), .val (.int (4 : Int32))] [(.ref a0)])) t
    refine XS.iloadN X1.here hx rfl (hb hby d2_23) rfl ?_
    exact k
  obtain ⟨T2, h2, X2, e2, W2, st2⟩ := putF X1 hx hZ hown (host := "") (Or.inl (hw _ (List.mem_of_getElem? (i := 15) rfl))) Via.refl e1 F_size_a0 E_a0 (Or.inr ⟨(hw _ (List.mem_of_getElem? (i := 16) rfl)), rfl, hnm⟩) (hw _ (List.mem_of_getElem? (i := 2) rfl)) (ty := .int) (by decide) rfl rfl (g := (mkF m 24 #[.val (.ref a0), .val (.int (4 : Int32))] [(.int (4 : Int32)), (.ref a0)])) rfl rfl (hb hby d2_24)
  have f3 := E_a0.wr W2
  have f4 := F_size_a0.same W2
  have f5 := F_values_a0.other W2 (Or.inr (slot_ne (Or.inr (hw _ (List.mem_of_getElem? (i := 19) rfl))) (Or.inr (hw _ (List.mem_of_getElem? (i := 16) rfl))) (by decide) (t := (.array .double)) (t' := .int) (by decide) (by decide)))
  have z6 := Nat.le_trans Z0 (Keep.of_wr W2).1
  have k7 := K0.wr W2 (Or.inl (List.mem_of_getElem? (i := 0) rfl))
  have n8 := Fr.snoc X2 N0 g_a0
  refine own_st (T' := T2) (g' := (mkF m 27 #[.val (.ref a0), .val (.int (4 : Int32))] [])) st2 ?_
  refine own_retV X2 hx hlk Bd.returns (hb hby d2_27) (by decide) (by decide) ?_
  show QA4 Z a0 u_size_a0 u_values_a0 h0 n0 none T2.heap _
  rw [(e2 : T2.heap = h2)]
  exact ⟨rfl, n8, k7, f3, f4, f5⟩
theorem d1_0 : decode prog_52_method_1_code 0 = .ok (.aload_n 0, 1) := by decide +kernel
theorem d1_1 : decode prog_52_method_1_code 1 = .ok (.iload_n 1, 1) := by decide +kernel
theorem d1_2 : decode prog_52_method_1_code 2 = .ok (.invokespecial 1, 3) := by decide +kernel
theorem d1_5 : decode prog_52_method_1_code 5 = .ok (.aload_n 0, 1) := by decide +kernel
theorem d1_6 : decode prog_52_method_1_code 6 = .ok (.iload_n 1, 1) := by decide +kernel
theorem d1_7 : decode prog_52_method_1_code 7 = .ok (.newarray .double, 2) := by decide +kernel
theorem d1_9 : decode prog_52_method_1_code 9 = .ok (.putfield 7, 3) := by decide +kernel
theorem d1_12 : decode prog_52_method_1_code 12 = .ok (.return_, 1) := by decide +kernel
theorem pnI0 : plainName "com/example/winnowfold/winnowfold/math/DenseVector" = true := by first | (simp [plainName, overriddenIn]; done) | decide +kernel
theorem pdI0_0 : parseMethodDescriptor "(I)V" = some ⟨[.int], none⟩ := by decide +kernel
theorem efI0 (m : MethodId) (a0 : Addr) : entryFrame m #[(.ref a0), (.int (0 : Int32))] 2 = mkF m 0 #[.val (.ref a0), .val (.int (0 : Int32))] [] := by first | (simp [entryFrame, mkF, argsToLocals, Value.category]; done) | rfl
def QI0 (Z : State) (a0 : Addr) (u_size_a0 : Value) (u_values_a0 : Value) (h0 : Heap) (n0 : Nat) (v : Option Value) (h : Heap) (L : List Loc) : Prop := ∃ (x0 : Addr) (kx_x0 : ClassId), v = none ∧ Fr n0 L ∧ Keep h0 h [a0] ∧ h0.size ≤ x0 ∧ Exa Z h a0 "com/example/winnowfold/winnowfold/math/DenseVector" ∧ Fld Z h a0 "com/example/winnowfold/winnowfold/math/AbstractVector" "size" "I" (.int (0 : Int32)) ∧ Fld Z h a0 "com/example/winnowfold/winnowfold/math/DenseVector" "values" "[D" (.ref x0) ∧ Arv Z h x0 kx_x0 .double (0 : Int32) [] (.double (0 : UInt64))
set_option maxRecDepth 65536 in
set_option maxHeartbeats 40000000 in
theorem rmI0 (l : Launch) (Z : State) (ar : Array Value) (hw : ∀ d ∈ tables_1, d.before ar Z = true) (ws : List Jvm.Cond) (a0 : Addr) (u_size_a0 : Value) (u_values_a0 : Value) (h0 : Heap) (n0 : Nat) (Z0 : n0 ≤ h0.size) (E_a0 : Exa Z h0 a0 "com/example/winnowfold/winnowfold/math/DenseVector") (F_size_a0 : Fld Z h0 a0 "com/example/winnowfold/winnowfold/math/AbstractVector" "size" "I" u_size_a0) (F_values_a0 : Fld Z h0 a0 "com/example/winnowfold/winnowfold/math/DenseVector" "values" "[D" u_values_a0) (g_a0 : n0 ≤ a0) :
    MetFree l (⟨"com/example/winnowfold/winnowfold/math/DenseVector", "<init>", "(I)V"⟩ : MethodName) (head1 (Jvm.Cond.code (⟨"com/example/winnowfold/winnowfold/math/DenseVector", "<init>", "(I)V"⟩ : MethodName) prog_52_method_1_code 2 none :: ws) ({ frames := 2, cells := 1, slots := 0, locals := 25 } : Room)) (fun a U => a = #[(.ref a0), (.int (0 : Int32))] ∧ Z.Warmed39 U.vm ∧ U.heap = h0) (fun _ _ _ _ _ => True) (fun _ U o U' => ∃ v L, o = .returned v ∧ QI0 Z a0 u_size_a0 u_values_a0 h0 n0 v U'.heap L ∧ FrameEnd U o U' L ({ frames := 2, cells := 1, slots := 0, locals := 25 } : Room).cells ({ frames := 2, cells := 1, slots := 0, locals := 25 } : Room).slots) := by
  refine MetFree.of_bodySF (plainFor_of_name pnI0) hisR ?_
  intro p e s m args below meth c s₁ Bd hml0 hP hK
  obtain ⟨rfl, hZ, hh⟩ := hP
  have hx := Bd.exec
  have hby := Bd.bytes
  have hlk := Bd.notSynchronized
  have hml : c.maxLocals = 2 := hml0
  have hown : s.vm.findClass "com/example/winnowfold/winnowfold/math/DenseVector" = some m.cls := findClass_of_methodNamed Bd.named
  have hnm := (name_of_methodNamed Bd.named Bd.method).1
  have X0 : Stand p l e ({ frames := 2, cells := 1, slots := 0, locals := 25 } : Room) s m #[(.ref a0), (.int (0 : Int32))] below meth c s₁ [] 0 0 := Stand.of_body Bd
  have e0 : s₁.heap = h0 := by rw [← hh, Bd.state]; rfl
  have N0 := Fr.nil n0
  have K0 := Keep.refl h0 [a0]
  refine own_enter (Q := QI0 Z a0 u_size_a0 u_values_a0 h0 n0) (efI0 m a0) ?_
  refine own_st (T' := s₁) (g' := (mkF m 2 #[.val (.ref a0), .val (.int (0 : Int32))] [(.int (0 : Int32)), (.ref a0)])) (fun t k => ?_) ?_
  · show Steps p.tables e below (s₁.setTop (mkF m 0 #[.val (.ref a0), .val (.int (0 : Int32))] [])) t
    refine XS.aloadN X0.here hx rfl (hb hby d1_0) rfl rfl ?_
    show Steps p.tables e below (s₁.setTop (mkF m 1 #[.val (.ref a0), .val (.int (0 : Int32))] [(.ref a0)])) t
    refine XS.iloadN X0.here hx rfl (hb hby d1_1) rfl ?_
    exact k
  obtain ⟨_, _, ⟨T1, L1, k1, n1⟩, -, X1, ⟨Lc1, hQ1, l1, y1, z1⟩, st1⟩ := X0.specialBack hx (y := (⟨"com/example/winnowfold/winnowfold/math/AbstractVector", "<init>", "(I)V"⟩ : MethodName)) rfl hown (mvT hZ (hw _ (List.mem_of_getElem? (i := 7) rfl))) (mvT hZ (hw _ (List.mem_of_getElem? (i := 8) rfl))) (mvT hZ (hw _ (List.mem_of_getElem? (i := 11) rfl))) (by decide) (backOf (W := 0) (rmA0 l Z ar hw [] a0 u_size_a0 u_values_a0 h0 n0 Z0 E_a0 F_size_a0 F_values_a0 g_a0) hZ (hw _ (List.mem_of_getElem? (i := 11) rfl)) (hw _ (List.mem_of_getElem? (i := 10) rfl)) (by decide) (by decide)) (g := (mkF m 2 #[.val (.ref a0), .val (.int (0 : Int32))] [(.int (0 : Int32)), (.ref a0)])) rfl (by rw [hml]; rfl) (Steps.refl _) (a := a0) (argsL := [(.int (0 : Int32))]) (rest := []) (lenOf pdI0_0 rfl) rfl (by show 2 * 0 + _ ≤ _; exact Nat.le_of_eq rfl) (hb hby d1_2) (fun _ _ => ⟨rfl, e0, (by decide : 0 + 0 ≤ _), (by decide : 0 + 0 ≤ _)⟩)
  dsimp only [Pt.U, Pt.locs, Pt.cells, Pt.slots] at X1 l1 y1 z1 st1 hQ1
  subst l1 y1 z1
  obtain ⟨rfl, N1q, K1, f2, f3, f4⟩ := hQ1
  have n5 := Fr.app N0 N1q
  have f6 := E_a0.keep K1
  have z7 := Nat.le_trans Z0 K1.1
  have k8 := K0.trans K1 (allS (Or.inl (List.mem_of_getElem? (i := 0) rfl)) all0)
  refine own_tr (T' := T1) (g' := (mkF m 5 #[.val (.ref a0), .val (.int (0 : Int32))] [])) st1 ?_
  refine own_st (T' := T1) (g' := (mkF m 7 #[.val (.ref a0), .val (.int (0 : Int32))] [(.int (0 : Int32)), (.ref a0)])) (fun t k => ?_) ?_
  · show Steps p.tables e below (T1.setTop (mkF m 5 #[.val (.ref a0), .val (.int (0 : Int32))] [])) t
    refine XS.aloadN X1.here hx rfl (hb hby d1_5) rfl rfl ?_
    show Steps p.tables e below (T1.setTop (mkF m 6 #[.val (.ref a0), .val (.int (0 : Int32))] [(.ref a0)])) t
    refine XS.iloadN X1.here hx rfl (hb hby d1_6) rfl ?_
    exact k
  obtain ⟨T9, h9, k9, X9, e9, E9, A9, st9⟩ := newP X1 hx hZ (hw _ (List.mem_of_getElem? (i := 17) rfl)) (rfl : T1.heap = T1.heap) (g := (mkF m 7 #[.val (.ref a0), .val (.int (0 : Int32))] [(.int (0 : Int32)), (.ref a0)])) rfl (hb hby d1_7) rfl (by decide) (cap := 0) (by decide) (by decide) (by decide) (by decide)
  obtain ⟨b9, g9⟩ : ∃ z, z = T1.heap.size := ⟨_, rfl⟩
  rw [← g9] at A9 st9
  have ne_a0_b9 : a0 ≠ b9 := Nat.ne_of_lt (Nat.lt_of_lt_of_le f2.lt (Nat.le_of_eq g9.symm))
  have g_b9 : n0 ≤ b9 := Nat.le_trans z7 (Nat.le_of_eq g9.symm)
  have sz_b9 : h0.size ≤ b9 := Nat.le_trans k8.1 (Nat.le_of_eq g9.symm)
  have f10 := f2.ext E9
  have f11 := f3.ext E9
  have f12 := f4.ext E9
  have z13 := Nat.le_trans z7 E9.1
  have k14 := k8.ext E9
  have v15 : Arv Z h9 b9 k9 .double (0 : Int32) [] (.double (0 : UInt64)) := Arv.new A9 (by decide)
  refine own_st (T' := T9) (g' := (mkF m 9 #[.val (.ref a0), .val (.int (0 : Int32))] [(.ref b9), (.ref a0)])) st9 ?_
  obtain ⟨T16, h16, X16, e16, W16, st16⟩ := putF X9 hx hZ hown (host := "") (Or.inl (hw _ (List.mem_of_getElem? (i := 18) rfl))) Via.refl e9 f12 f10 (Or.inr ⟨(hw _ (List.mem_of_getElem? (i := 19) rfl)), rfl, hnm⟩) (hw _ (List.mem_of_getElem? (i := 2) rfl)) (ty := (.array .double)) (by decide) rfl rfl (g := (mkF m 9 #[.val (.ref a0), .val (.int (0 : Int32))] [(.ref b9), (.ref a0)])) rfl rfl (hb hby d1_9)
  have f17 := f10.wr W16
  have f18 := f11.other W16 (Or.inr (slot_ne (Or.inr (hw _ (List.mem_of_getElem? (i := 16) rfl))) (Or.inr (hw _ (List.mem_of_getElem? (i := 19) rfl))) (by decide) (t := .int) (t' := (.array .double)) (by decide) (by decide)))
  have f19 := f12.same W16
  have f20 := v15.other W16 (Ne.symm ne_a0_b9)
  have z21 := Nat.le_trans z13 (Keep.of_wr W16).1
  have k22 := k14.wr W16 (Or.inl (List.mem_of_getElem? (i := 0) rfl))
  have n23 := Fr.snoc X16 n5 g_a0
  refine own_st (T' := T16) (g' := (mkF m 12 #[.val (.ref a0), .val (.int (0 : Int32))] [])) st16 ?_
  refine own_retV X16 hx hlk Bd.returns (hb hby d1_12) (by decide) (by decide) ?_
  show QI0 Z a0 u_size_a0 u_values_a0 h0 n0 none T16.heap _
  rw [(e16 : T16.heap = h16)]
  exact ⟨b9, k9, rfl, n23, k22, sz_b9, f17, f18, f19, f20⟩
theorem pnI1 : plainName "com/example/winnowfold/winnowfold/math/DenseVector" = true := by first | (simp [plainName, overriddenIn]; done) | decide +kernel
theorem pdI1_0 : parseMethodDescriptor "(I)V" = some ⟨[.int], none⟩ := by decide +kernel
theorem efI1 (m : MethodId) (a0 : Addr) : entryFrame m #[(.ref a0), (.int (1 : Int32))] 2 = mkF m 0 #[.val (.ref a0), .val (.int (1 : Int32))] [] := by first | (simp [entryFrame, mkF, argsToLocals, Value.category]; done) | rfl
def QI1 (Z : State) (a0 : Addr) (u_size_a0 : Value) (u_values_a0 : Value) (h0 : Heap) (n0 : Nat) (v : Option Value) (h : Heap) (L : List Loc) : Prop := ∃ (x0 : Addr) (kx_x0 : ClassId), v = none ∧ Fr n0 L ∧ Keep h0 h [a0] ∧ h0.size ≤ x0 ∧ Exa Z h a0 "com/example/winnowfold/winnowfold/math/DenseVector" ∧ Fld Z h a0 "com/example/winnowfold/winnowfold/math/AbstractVector" "size" "I" (.int (1 : Int32)) ∧ Fld Z h a0 "com/example/winnowfold/winnowfold/math/DenseVector" "values" "[D" (.ref x0) ∧ Arv Z h x0 kx_x0 .double (1 : Int32) [(.double (0 : UInt64))] (.double (0 : UInt64))
set_option maxRecDepth 65536 in
set_option maxHeartbeats 40000000 in
theorem rmI1 (l : Launch) (Z : State) (ar : Array Value) (hw : ∀ d ∈ tables_1, d.before ar Z = true) (ws : List Jvm.Cond) (a0 : Addr) (u_size_a0 : Value) (u_values_a0 : Value) (h0 : Heap) (n0 : Nat) (Z0 : n0 ≤ h0.size) (E_a0 : Exa Z h0 a0 "com/example/winnowfold/winnowfold/math/DenseVector") (F_size_a0 : Fld Z h0 a0 "com/example/winnowfold/winnowfold/math/AbstractVector" "size" "I" u_size_a0) (F_values_a0 : Fld Z h0 a0 "com/example/winnowfold/winnowfold/math/DenseVector" "values" "[D" u_values_a0) (g_a0 : n0 ≤ a0) :
    MetFree l (⟨"com/example/winnowfold/winnowfold/math/DenseVector", "<init>", "(I)V"⟩ : MethodName) (head1 (Jvm.Cond.code (⟨"com/example/winnowfold/winnowfold/math/DenseVector", "<init>", "(I)V"⟩ : MethodName) prog_52_method_1_code 2 none :: ws) ({ frames := 2, cells := 1, slots := 1, locals := 25 } : Room)) (fun a U => a = #[(.ref a0), (.int (1 : Int32))] ∧ Z.Warmed39 U.vm ∧ U.heap = h0) (fun _ _ _ _ _ => True) (fun _ U o U' => ∃ v L, o = .returned v ∧ QI1 Z a0 u_size_a0 u_values_a0 h0 n0 v U'.heap L ∧ FrameEnd U o U' L ({ frames := 2, cells := 1, slots := 1, locals := 25 } : Room).cells ({ frames := 2, cells := 1, slots := 1, locals := 25 } : Room).slots) := by
  refine MetFree.of_bodySF (plainFor_of_name pnI1) hisR ?_
  intro p e s m args below meth c s₁ Bd hml0 hP hK
  obtain ⟨rfl, hZ, hh⟩ := hP
  have hx := Bd.exec
  have hby := Bd.bytes
  have hlk := Bd.notSynchronized
  have hml : c.maxLocals = 2 := hml0
  have hown : s.vm.findClass "com/example/winnowfold/winnowfold/math/DenseVector" = some m.cls := findClass_of_methodNamed Bd.named
  have hnm := (name_of_methodNamed Bd.named Bd.method).1
  have X0 : Stand p l e ({ frames := 2, cells := 1, slots := 1, locals := 25 } : Room) s m #[(.ref a0), (.int (1 : Int32))] below meth c s₁ [] 0 0 := Stand.of_body Bd
  have e0 : s₁.heap = h0 := by rw [← hh, Bd.state]; rfl
  have N0 := Fr.nil n0
  have K0 := Keep.refl h0 [a0]
  refine own_enter (Q := QI1 Z a0 u_size_a0 u_values_a0 h0 n0) (efI1 m a0) ?_
  refine own_st (T' := s₁) (g' := (mkF m 2 #[.val (.ref a0), .val (.int (1 : Int32))] [(.int (1 : Int32)), (.ref a0)])) (fun t k => ?_) ?_
  · show Steps p.tables e below (s₁.setTop (mkF m 0 #[.val (.ref a0), .val (.int (1 : Int32))] [])) t
    refine XS.aloadN X0.here hx rfl (hb hby d1_0) rfl rfl ?_
    show Steps p.tables e below (s₁.setTop (mkF m 1 #[.val (.ref a0), .val (.int (1 : Int32))] [(.ref a0)])) t
    refine XS.iloadN X0.here hx rfl (hb hby d1_1) rfl ?_
    exact k
  obtain ⟨_, _, ⟨T1, L1, k1, n1⟩, -, X1, ⟨Lc1, hQ1, l1, y1, z1⟩, st1⟩ := X0.specialBack hx (y := (⟨"com/example/winnowfold/winnowfold/math/AbstractVector", "<init>", "(I)V"⟩ : MethodName)) rfl hown (mvT hZ (hw _ (List.mem_of_getElem? (i := 7) rfl))) (mvT hZ (hw _ (List.mem_of_getElem? (i := 8) rfl))) (mvT hZ (hw _ (List.mem_of_getElem? (i := 11) rfl))) (by decide) (backOf (W := 0) (rmA1 l Z ar hw [] a0 u_size_a0 u_values_a0 h0 n0 Z0 E_a0 F_size_a0 F_values_a0 g_a0) hZ (hw _ (List.mem_of_getElem? (i := 11) rfl)) (hw _ (List.mem_of_getElem? (i := 10) rfl)) (by decide) (by decide)) (g := (mkF m 2 #[.val (.ref a0), .val (.int (1 : Int32))] [(.int (1 : Int32)), (.ref a0)])) rfl (by rw [hml]; rfl) (Steps.refl _) (a := a0) (argsL := [(.int (1 : Int32))]) (rest := []) (lenOf pdI1_0 rfl) rfl (by show 2 * 0 + _ ≤ _; exact Nat.le_of_eq rfl) (hb hby d1_2) (fun _ _ => ⟨rfl, e0, (by decide : 0 + 0 ≤ _), (by decide : 0 + 0 ≤ _)⟩)
  dsimp only [Pt.U, Pt.locs, Pt.cells, Pt.slots] at X1 l1 y1 z1 st1 hQ1
  subst l1 y1 z1
  obtain ⟨rfl, N1q, K1, f2, f3, f4⟩ := hQ1
  have n5 := Fr.app N0 N1q
  have f6 := E_a0.keep K1
  have z7 := Nat.le_trans Z0 K1.1
  have k8 := K0.trans K1 (allS (Or.inl (List.mem_of_getElem? (i := 0) rfl)) all0)
  refine own_tr (T' := T1) (g' := (mkF m 5 #[.val (.ref a0), .val (.int (1 : Int32))] [])) st1 ?_
  refine own_st (T' := T1) (g' := (mkF m 7 #[.val (.ref a0), .val (.int (1 : Int32))] [(.int (1 : Int32)), (.ref a0)])) (fun t k => ?_) ?_
  · show Steps p.tables e below (T1.setTop (mkF m 5 #[.val (.ref a0), .val (.int (1 : Int32))] [])) t
    refine XS.aloadN X1.here hx rfl (hb hby d1_5) rfl rfl ?_
    show Steps p.tables e below (T1.setTop (mkF m 6 #[.val (.ref a0), .val (.int (1 : Int32))] [(.ref a0)])) t
    refine XS.iloadN X1.here hx rfl (hb hby d1_6) rfl ?_
    exact k
  obtain ⟨T9, h9, k9, X9, e9, E9, A9, st9⟩ := newP X1 hx hZ (hw _ (List.mem_of_getElem? (i := 17) rfl)) (rfl : T1.heap = T1.heap) (g := (mkF m 7 #[.val (.ref a0), .val (.int (1 : Int32))] [(.int (1 : Int32)), (.ref a0)])) rfl (hb hby d1_7) rfl (by decide) (cap := 1) (by decide) (by decide) (by decide) (by decide)
  obtain ⟨b9, g9⟩ : ∃ z, z = T1.heap.size := ⟨_, rfl⟩
  rw [← g9] at A9 st9
  have ne_a0_b9 : a0 ≠ b9 := Nat.ne_of_lt (Nat.lt_of_lt_of_le f2.lt (Nat.le_of_eq g9.symm))
  have g_b9 : n0 ≤ b9 := Nat.le_trans z7 (Nat.le_of_eq g9.symm)
  have sz_b9 : h0.size ≤ b9 := Nat.le_trans k8.1 (Nat.le_of_eq g9.symm)
  have f10 := f2.ext E9
  have f11 := f3.ext E9
  have f12 := f4.ext E9
  have z13 := Nat.le_trans z7 E9.1
  have k14 := k8.ext E9
  have v15 : Arv Z h9 b9 k9 .double (1 : Int32) [(.double (0 : UInt64))] (.double (0 : UInt64)) := (Arv.new A9 (by decide)).pad (pad_rep [] (.double (0 : UInt64)) 1)
  refine own_st (T' := T9) (g' := (mkF m 9 #[.val (.ref a0), .val (.int (1 : Int32))] [(.ref b9), (.ref a0)])) st9 ?_
  obtain ⟨T16, h16, X16, e16, W16, st16⟩ := putF X9 hx hZ hown (host := "") (Or.inl (hw _ (List.mem_of_getElem? (i := 18) rfl))) Via.refl e9 f12 f10 (Or.inr ⟨(hw _ (List.mem_of_getElem? (i := 19) rfl)), rfl, hnm⟩) (hw _ (List.mem_of_getElem? (i := 2) rfl)) (ty := (.array .double)) (by decide) rfl rfl (g := (mkF m 9 #[.val (.ref a0), .val (.int (1 : Int32))] [(.ref b9), (.ref a0)])) rfl rfl (hb hby d1_9)
  have f17 := f10.wr W16
  have f18 := f11.other W16 (Or.inr (slot_ne (Or.inr (hw _ (List.mem_of_getElem? (i := 16) rfl))) (Or.inr (hw _ (List.mem_of_getElem? (i := 19) rfl))) (by decide) (t := .int) (t' := (.array .double)) (by decide) (by decide)))
  have f19 := f12.same W16
  have f20 := v15.other W16 (Ne.symm ne_a0_b9)
  have z21 := Nat.le_trans z13 (Keep.of_wr W16).1
  have k22 := k14.wr W16 (Or.inl (List.mem_of_getElem? (i := 0) rfl))
  have n23 := Fr.snoc X16 n5 g_a0
  refine own_st (T' := T16) (g' := (mkF m 12 #[.val (.ref a0), .val (.int (1 : Int32))] [])) st16 ?_
  refine own_retV X16 hx hlk Bd.returns (hb hby d1_12) (by decide) (by decide) ?_
  show QI1 Z a0 u_size_a0 u_values_a0 h0 n0 none T16.heap _
  rw [(e16 : T16.heap = h16)]
  exact ⟨b9, k9, rfl, n23, k22, sz_b9, f17, f18, f19, f20⟩
theorem pnI2 : plainName "com/example/winnowfold/winnowfold/math/DenseVector" = true := by first | (simp [plainName, overriddenIn]; done) | decide +kernel
theorem pdI2_0 : parseMethodDescriptor "(I)V" = some ⟨[.int], none⟩ := by decide +kernel
theorem efI2 (m : MethodId) (a0 : Addr) : entryFrame m #[(.ref a0), (.int (2 : Int32))] 2 = mkF m 0 #[.val (.ref a0), .val (.int (2 : Int32))] [] := by first | (simp [entryFrame, mkF, argsToLocals, Value.category]; done) | rfl
def QI2 (Z : State) (a0 : Addr) (u_size_a0 : Value) (u_values_a0 : Value) (h0 : Heap) (n0 : Nat) (v : Option Value) (h : Heap) (L : List Loc) : Prop := ∃ (x0 : Addr) (kx_x0 : ClassId), v = none ∧ Fr n0 L ∧ Keep h0 h [a0] ∧ h0.size ≤ x0 ∧ Exa Z h a0 "com/example/winnowfold/winnowfold/math/DenseVector" ∧ Fld Z h a0 "com/example/winnowfold/winnowfold/math/AbstractVector" "size" "I" (.int (2 : Int32)) ∧ Fld Z h a0 "com/example/winnowfold/winnowfold/math/DenseVector" "values" "[D" (.ref x0) ∧ Arv Z h x0 kx_x0 .double (2 : Int32) [(.double (0 : UInt64)), (.double (0 : UInt64))] (.double (0 : UInt64))
set_option maxRecDepth 65536 in
set_option maxHeartbeats 40000000 in
theorem rmI2 (l : Launch) (Z : State) (ar : Array Value) (hw : ∀ d ∈ tables_1, d.before ar Z = true) (ws : List Jvm.Cond) (a0 : Addr) (u_size_a0 : Value) (u_values_a0 : Value) (h0 : Heap) (n0 : Nat) (Z0 : n0 ≤ h0.size) (E_a0 : Exa Z h0 a0 "com/example/winnowfold/winnowfold/math/DenseVector") (F_size_a0 : Fld Z h0 a0 "com/example/winnowfold/winnowfold/math/AbstractVector" "size" "I" u_size_a0) (F_values_a0 : Fld Z h0 a0 "com/example/winnowfold/winnowfold/math/DenseVector" "values" "[D" u_values_a0) (g_a0 : n0 ≤ a0) :
    MetFree l (⟨"com/example/winnowfold/winnowfold/math/DenseVector", "<init>", "(I)V"⟩ : MethodName) (head1 (Jvm.Cond.code (⟨"com/example/winnowfold/winnowfold/math/DenseVector", "<init>", "(I)V"⟩ : MethodName) prog_52_method_1_code 2 none :: ws) ({ frames := 2, cells := 1, slots := 2, locals := 25 } : Room)) (fun a U => a = #[(.ref a0), (.int (2 : Int32))] ∧ Z.Warmed39 U.vm ∧ U.heap = h0) (fun _ _ _ _ _ => True) (fun _ U o U' => ∃ v L, o = .returned v ∧ QI2 Z a0 u_size_a0 u_values_a0 h0 n0 v U'.heap L ∧ FrameEnd U o U' L ({ frames := 2, cells := 1, slots := 2, locals := 25 } : Room).cells ({ frames := 2, cells := 1, slots := 2, locals := 25 } : Room).slots) := by
  refine MetFree.of_bodySF (plainFor_of_name pnI2) hisR ?_
  intro p e s m args below meth c s₁ Bd hml0 hP hK
  obtain ⟨rfl, hZ, hh⟩ := hP
  have hx := Bd.exec
  have hby := Bd.bytes
  have hlk := Bd.notSynchronized
  have hml : c.maxLocals = 2 := hml0
  have hown : s.vm.findClass "com/example/winnowfold/winnowfold/math/DenseVector" = some m.cls := findClass_of_methodNamed Bd.named
  have hnm := (name_of_methodNamed Bd.named Bd.method).1
  have X0 : Stand p l e ({ frames := 2, cells := 1, slots := 2, locals := 25 } : Room) s m #[(.ref a0), (.int (2 : Int32))] below meth c s₁ [] 0 0 := Stand.of_body Bd
  have e0 : s₁.heap = h0 := by rw [← hh, Bd.state]; rfl
  have N0 := Fr.nil n0
  have K0 := Keep.refl h0 [a0]
  refine own_enter (Q := QI2 Z a0 u_size_a0 u_values_a0 h0 n0) (efI2 m a0) ?_
  refine own_st (T' := s₁) (g' := (mkF m 2 #[.val (.ref a0), .val (.int (2 : Int32))] [(.int (2 : Int32)), (.ref a0)])) (fun t k => ?_) ?_
  · show Steps p.tables e below (s₁.setTop (mkF m 0 #[.val (.ref a0), .val (.int (2 : Int32))] [])) t
    refine XS.aloadN X0.here hx rfl (hb hby d1_0) rfl rfl ?_
    show Steps p.tables e below (s₁.setTop (mkF m 1 #[.val (.ref a0), .val (.int (2 : Int32))] [(.ref a0)])) t
    refine XS.iloadN X0.here hx rfl (hb hby d1_1) rfl ?_
    exact k
  obtain ⟨_, _, ⟨T1, L1, k1, n1⟩, -, X1, ⟨Lc1, hQ1, l1, y1, z1⟩, st1⟩ := X0.specialBack hx (y := (⟨"com/example/winnowfold/winnowfold/math/AbstractVector", "<init>", "(I)V"⟩ : MethodName)) rfl hown (mvT hZ (hw _ (List.mem_of_getElem? (i := 7) rfl))) (mvT hZ (hw _ (List.mem_of_getElem? (i := 8) rfl))) (mvT hZ (hw _ (List.mem_of_getElem? (i := 11) rfl))) (by decide) (backOf (W := 0) (rmA2 l Z ar hw [] a0 u_size_a0 u_values_a0 h0 n0 Z0 E_a0 F_size_a0 F_values_a0 g_a0) hZ (hw _ (List.mem_of_getElem? (i := 11) rfl)) (hw _ (List.mem_of_getElem? (i := 10) rfl)) (by decide) (by decide)) (g := (mkF m 2 #[.val (.ref a0), .val (.int (2 : Int32))] [(.int (2 : Int32)), (.ref a0)])) rfl (by rw [hml]; rfl) (Steps.refl _) (a := a0) (argsL := [(.int (2 : Int32))]) (rest := []) (lenOf pdI2_0 rfl) rfl (by show 2 * 0 + _ ≤ _; exact Nat.le_of_eq rfl) (hb hby d1_2) (fun _ _ => ⟨rfl, e0, (by decide : 0 + 0 ≤ _), (by decide : 0 + 0 ≤ _)⟩)
  dsimp only [Pt.U, Pt.locs, Pt.cells, Pt.slots] at X1 l1 y1 z1 st1 hQ1
  subst l1 y1 z1
  obtain ⟨rfl, N1q, K1, f2, f3, f4⟩ := hQ1
  have n5 := Fr.app N0 N1q
  have f6 := E_a0.keep K1
  have z7 := Nat.le_trans Z0 K1.1
  have k8 := K0.trans K1 (allS (Or.inl (List.mem_of_getElem? (i := 0) rfl)) all0)
  refine own_tr (T' := T1) (g' := (mkF m 5 #[.val (.ref a0), .val (.int (2 : Int32))] [])) st1 ?_
  refine own_st (T' := T1) (g' := (mkF m 7 #[.val (.ref a0), .val (.int (2 : Int32))] [(.int (2 : Int32)), (.ref a0)])) (fun t k => ?_) ?_
  · show Steps p.tables e below (T1.setTop (mkF m 5 #[.val (.ref a0), .val (.int (2 : Int32))] [])) t
    refine XS.aloadN X1.here hx rfl (hb hby d1_5) rfl rfl ?_
    show Steps p.tables e below (T1.setTop (mkF m 6 #[.val (.ref a0), .val (.int (2 : Int32))] [(.ref a0)])) t
    refine XS.iloadN X1.here hx rfl (hb hby d1_6) rfl ?_
    exact k
  obtain ⟨T9, h9, k9, X9, e9, E9, A9, st9⟩ := newP X1 hx hZ (hw _ (List.mem_of_getElem? (i := 17) rfl)) (rfl : T1.heap = T1.heap) (g := (mkF m 7 #[.val (.ref a0), .val (.int (2 : Int32))] [(.int (2 : Int32)), (.ref a0)])) rfl (hb hby d1_7) rfl (by decide) (cap := 2) (by decide) (by decide) (by decide) (by decide)
  obtain ⟨b9, g9⟩ : ∃ z, z = T1.heap.size := ⟨_, rfl⟩
  rw [← g9] at A9 st9
  have ne_a0_b9 : a0 ≠ b9 := Nat.ne_of_lt (Nat.lt_of_lt_of_le f2.lt (Nat.le_of_eq g9.symm))
  have g_b9 : n0 ≤ b9 := Nat.le_trans z7 (Nat.le_of_eq g9.symm)
  have sz_b9 : h0.size ≤ b9 := Nat.le_trans k8.1 (Nat.le_of_eq g9.symm)
  have f10 := f2.ext E9
  have f11 := f3.ext E9
  have f12 := f4.ext E9
  have z13 := Nat.le_trans z7 E9.1
  have k14 := k8.ext E9
  have v15 : Arv Z h9 b9 k9 .double (2 : Int32) [(.double (0 : UInt64)), (.double (0 : UInt64))] (.double (0 : UInt64)) := (Arv.new A9 (by decide)).pad (pad_rep [] (.double (0 : UInt64)) 2)
  refine own_st (T' := T9) (g' := (mkF m 9 #[.val (.ref a0), .val (.int (2 : Int32))] [(.ref b9), (.ref a0)])) st9 ?_
  obtain ⟨T16, h16, X16, e16, W16, st16⟩ := putF X9 hx hZ hown (host := "") (Or.inl (hw _ (List.mem_of_getElem? (i := 18) rfl))) Via.refl e9 f12 f10 (Or.inr ⟨(hw _ (List.mem_of_getElem? (i := 19) rfl)), rfl, hnm⟩) (hw _ (List.mem_of_getElem? (i := 2) rfl)) (ty := (.array .double)) (by decide) rfl rfl (g := (mkF m 9 #[.val (.ref a0), .val (.int (2 : Int32))] [(.ref b9), (.ref a0)])) rfl rfl (hb hby d1_9)
  have f17 := f10.wr W16
  have f18 := f11.other W16 (Or.inr (slot_ne (Or.inr (hw _ (List.mem_of_getElem? (i := 16) rfl))) (Or.inr (hw _ (List.mem_of_getElem? (i := 19) rfl))) (by decide) (t := .int) (t' := (.array .double)) (by decide) (by decide)))
  have f19 := f12.same W16
  have f20 := v15.other W16 (Ne.symm ne_a0_b9)
  have z21 := Nat.le_trans z13 (Keep.of_wr W16).1
  have k22 := k14.wr W16 (Or.inl (List.mem_of_getElem? (i := 0) rfl))
  have n23 := Fr.snoc X16 n5 g_a0
  refine own_st (T' := T16) (g' := (mkF m 12 #[.val (.ref a0), .val (.int (2 : Int32))] [])) st16 ?_
  refine own_retV X16 hx hlk Bd.returns (hb hby d1_12) (by decide) (by decide) ?_
  show QI2 Z a0 u_size_a0 u_values_a0 h0 n0 none T16.heap _
  rw [(e16 : T16.heap = h16)]
  exact ⟨b9, k9, rfl, n23, k22, sz_b9, f17, f18, f19, f20⟩
theorem pnI3 : plainName "com/example/winnowfold/winnowfold/math/DenseVector" = true := by first | (simp [plainName, overriddenIn]; done) | decide +kernel
theorem pdI3_0 : parseMethodDescriptor "(I)V" = some ⟨[.int], none⟩ := by decide +kernel
theorem efI3 (m : MethodId) (a0 : Addr) : entryFrame m #[(.ref a0), (.int (3 : Int32))] 2 = mkF m 0 #[.val (.ref a0), .val (.int (3 : Int32))] [] := by first | (simp [entryFrame, mkF, argsToLocals, Value.category]; done) | rfl
def QI3 (Z : State) (a0 : Addr) (u_size_a0 : Value) (u_values_a0 : Value) (h0 : Heap) (n0 : Nat) (v : Option Value) (h : Heap) (L : List Loc) : Prop := ∃ (x0 : Addr) (kx_x0 : ClassId), v = none ∧ Fr n0 L ∧ Keep h0 h [a0] ∧ h0.size ≤ x0 ∧ Exa Z h a0 "com/example/winnowfold/winnowfold/math/DenseVector" ∧ Fld Z h a0 "com/example/winnowfold/winnowfold/math/AbstractVector" "size" "I" (.int (3 : Int32)) ∧ Fld Z h a0 "com/example/winnowfold/winnowfold/math/DenseVector" "values" "[D" (.ref x0) ∧ Arv Z h x0 kx_x0 .double (3 : Int32) [(.double (0 : UInt64)), (.double (0 : UInt64)), (.double (0 : UInt64))] (.double (0 : UInt64))
set_option maxRecDepth 65536 in
set_option maxHeartbeats 40000000 in
theorem rmI3 (l : Launch) (Z : State) (ar : Array Value) (hw : ∀ d ∈ tables_1, d.before ar Z = true) (ws : List Jvm.Cond) (a0 : Addr) (u_size_a0 : Value) (u_values_a0 : Value) (h0 : Heap) (n0 : Nat) (Z0 : n0 ≤ h0.size) (E_a0 : Exa Z h0 a0 "com/example/winnowfold/winnowfold/math/DenseVector") (F_size_a0 : Fld Z h0 a0 "com/example/winnowfold/winnowfold/math/AbstractVector" "size" "I" u_size_a0) (F_values_a0 : Fld Z h0 a0 "com/example/winnowfold/winnowfold/math/DenseVector" "values" "[D" u_values_a0) (g_a0 : n0 ≤ a0) :
    MetFree l (⟨"com/example/winnowfold/winnowfold/math/DenseVector", "<init>", "(I)V"⟩ : MethodName) (head1 (Jvm.Cond.code (⟨"com/example/winnowfold/winnowfold/math/DenseVector", "<init>", "(I)V"⟩ : MethodName) prog_52_method_1_code 2 none :: ws) ({ frames := 2, cells := 1, slots := 3, locals := 25 } : Room)) (fun a U => a = #[(.ref a0), (.int (3 : Int32))] ∧ Z.Warmed39 U.vm ∧ U.heap = h0) (fun _ _ _ _ _ => True) (fun _ U o U' => ∃ v L, o = .returned v ∧ QI3 Z a0 u_size_a0 u_values_a0 h0 n0 v U'.heap L ∧ FrameEnd U o U' L ({ frames := 2, cells := 1, slots := 3, locals := 25 } : Room).cells ({ frames := 2, cells := 1, slots := 3, locals := 25 } : Room).slots) := by
  refine MetFree.of_bodySF (plainFor_of_name pnI3) hisR ?_
  intro p e s m args below meth c s₁ Bd hml0 hP hK
  obtain ⟨rfl, hZ, hh⟩ := hP
  have hx := Bd.exec
  have hby := Bd.bytes
  have hlk := Bd.notSynchronized
  have hml : c.maxLocals = 2 := hml0
  have hown : s.vm.findClass "com/example/winnowfold/winnowfold/math/DenseVector" = some m.cls := findClass_of_methodNamed Bd.named
  have hnm := (name_of_methodNamed Bd.named Bd.method).1
  have X0 : Stand p l e ({ frames := 2, cells := 1, slots := 3, locals := 25 } : Room) s m #[(.ref a0), (.int (3 : Int32))] below meth c s₁ [] 0 0 := Stand.of_body Bd
  have e0 : s₁.heap = h0 := by rw [← hh, Bd.state]; rfl
  have N0 := Fr.nil n0
  have K0 := Keep.refl h0 [a0]
  refine own_enter (Q := QI3 Z a0 u_size_a0 u_values_a0 h0 n0) (efI3 m a0) ?_
  refine own_st (T' := s₁) (g' := (mkF m 2 #[.val (.ref a0), .val (.int (3 : Int32))] [(.int (3 : Int32)), (.ref a0)])) (fun t k => ?_) ?_
  · show Steps p.tables e below (s₁.setTop (mkF m 0 #[.val (.ref a0), .val (.int (3 : Int32))] [])) t
    refine XS.aloadN X0.here hx rfl (hb hby d1_0) rfl rfl ?_
    show Steps p.tables e below (s₁.setTop (mkF m 1 #[.val (.ref a0), .val (.int (3 : Int32))] [(.ref a0)])) t
    refine XS.iloadN X0.here hx rfl (hb hby d1_1) rfl ?_
    exact k
  obtain ⟨_, _, ⟨T1, L1, k1, n1⟩, -, X1, ⟨Lc1, hQ1, l1, y1, z1⟩, st1⟩ := X0.specialBack hx (y := (⟨"com/example/winnowfold/winnowfold/math/AbstractVector", "<init>", "(I)V"⟩ : MethodName)) rfl hown (mvT hZ (hw _ (List.mem_of_getElem? (i := 7) rfl))) (mvT hZ (hw _ (List.mem_of_getElem? (i := 8) rfl))) (mvT hZ (hw _ (List.mem_of_getElem? (i := 11) rfl))) (by decide) (backOf (W := 0) (rmA3 l Z ar hw [] a0 u_size_a0 u_values_a0 h0 n0 Z0 E_a0 F_size_a0 F_values_a0 g_a0) hZ (hw _ (List.mem_of_getElem? (i := 11) rfl)) (hw _ (List.mem_of_getElem? (i := 10) rfl)) (by decide) (by decide)) (g := (mkF m 2 #[.val (.ref a0), .val (.int (3 : Int32))] [(.int (3 : Int32)), (.ref a0)])) rfl (by rw [hml]; rfl) (Steps.refl _) (a := a0) (argsL := [(.int (3 : Int32))]) (rest := []) (lenOf pdI3_0 rfl) rfl (by show 2 * 0 + _ ≤ _; exact Nat.le_of_eq rfl) (hb hby d1_2) (fun _ _ => ⟨rfl, e0, (by decide : 0 + 0 ≤ _), (by decide : 0 + 0 ≤ _)⟩)
  dsimp only [Pt.U, Pt.locs, Pt.cells, Pt.slots] at X1 l1 y1 z1 st1 hQ1
  subst l1 y1 z1
  obtain ⟨rfl, N1q, K1, f2, f3, f4⟩ := hQ1
  have n5 := Fr.app N0 N1q
  have f6 := E_a0.keep K1
  have z7 := Nat.le_trans Z0 K1.1
  have k8 := K0.trans K1 (allS (Or.inl (List.mem_of_getElem? (i := 0) rfl)) all0)
  refine own_tr (T' := T1) (g' := (mkF m 5 #[.val (.ref a0), .val (.int (3 : Int32))] [])) st1 ?_
  refine own_st (T' := T1) (g' := (mkF m 7 #[.val (.ref a0), .val (.int (3 : Int32))] [(.int (3 : Int32)), (.ref a0)])) (fun t k => ?_) ?_
  · show Steps p.tables e below (T1.setTop (mkF m 5 #[.val (.ref a0), .val (.int (3 : Int32))] [])) t
    refine XS.aloadN X1.here hx rfl (hb hby d1_5) rfl rfl ?_
    show Steps p.tables e below (T1.setTop (mkF m 6 #[.val (.ref a0), .val (.int (3 : Int32))] [(.ref a0)])) t
    refine XS.iloadN X1.here hx rfl (hb hby d1_6) rfl ?_
    exact k
  obtain ⟨T9, h9, k9, X9, e9, E9, A9, st9⟩ := newP X1 hx hZ (hw _ (List.mem_of_getElem? (i := 17) rfl)) (rfl : T1.heap = T1.heap) (g := (mkF m 7 #[.val (.ref a0), .val (.int (3 : Int32))] [(.int (3 : Int32)), (.ref a0)])) rfl (hb hby d1_7) rfl (by decide) (cap := 3) (by decide) (by decide) (by decide) (by decide)
  obtain ⟨b9, g9⟩ : ∃ z, z = T1.heap.size := ⟨_, rfl⟩
  rw [← g9] at A9 st9
  have ne_a0_b9 : a0 ≠ b9 := Nat.ne_of_lt (Nat.lt_of_lt_of_le f2.lt (Nat.le_of_eq g9.symm))
  have g_b9 : n0 ≤ b9 := Nat.le_trans z7 (Nat.le_of_eq g9.symm)
  have sz_b9 : h0.size ≤ b9 := Nat.le_trans k8.1 (Nat.le_of_eq g9.symm)
  have f10 := f2.ext E9
  have f11 := f3.ext E9
  have f12 := f4.ext E9
  have z13 := Nat.le_trans z7 E9.1
  have k14 := k8.ext E9
  have v15 : Arv Z h9 b9 k9 .double (3 : Int32) [(.double (0 : UInt64)), (.double (0 : UInt64)), (.double (0 : UInt64))] (.double (0 : UInt64)) := (Arv.new A9 (by decide)).pad (pad_rep [] (.double (0 : UInt64)) 3)
  refine own_st (T' := T9) (g' := (mkF m 9 #[.val (.ref a0), .val (.int (3 : Int32))] [(.ref b9), (.ref a0)])) st9 ?_
  obtain ⟨T16, h16, X16, e16, W16, st16⟩ := putF X9 hx hZ hown (host := "") (Or.inl (hw _ (List.mem_of_getElem? (i := 18) rfl))) Via.refl e9 f12 f10 (Or.inr ⟨(hw _ (List.mem_of_getElem? (i := 19) rfl)), rfl, hnm⟩) (hw _ (List.mem_of_getElem? (i := 2) rfl)) (ty := (.array .double)) (by decide) rfl rfl (g := (mkF m 9 #[.val (.ref a0), .val (.int (3 : Int32))] [(.ref b9), (.ref a0)])) rfl rfl (hb hby d1_9)
  have f17 := f10.wr W16
  have f18 := f11.other W16 (Or.inr (slot_ne (Or.inr (hw _ (List.mem_of_getElem? (i := 16) rfl))) (Or.inr (hw _ (List.mem_of_getElem? (i := 19) rfl))) (by decide) (t := .int) (t' := (.array .double)) (by decide) (by decide)))
  have f19 := f12.same W16
  have f20 := v15.other W16 (Ne.symm ne_a0_b9)
  have z21 := Nat.le_trans z13 (Keep.of_wr W16).1
  have k22 := k14.wr W16 (Or.inl (List.mem_of_getElem? (i := 0) rfl))
  have n23 := Fr.snoc X16 n5 g_a0
  refine own_st (T' := T16) (g' := (mkF m 12 #[.val (.ref a0), .val (.int (3 : Int32))] [])) st16 ?_
  refine own_retV X16 hx hlk Bd.returns (hb hby d1_12) (by decide) (by decide) ?_
  show QI3 Z a0 u_size_a0 u_values_a0 h0 n0 none T16.heap _
  rw [(e16 : T16.heap = h16)]
  exact ⟨b9, k9, rfl, n23, k22, sz_b9, f17, f18, f19, f20⟩
theorem pnI4 : plainName "com/example/winnowfold/winnowfold/math/DenseVector" = true := by first | (simp [plainName, overriddenIn]; done) | decide +kernel
theorem pdI4_0 : parseMethodDescriptor "(I)V" = some ⟨[.int], none⟩ := by decide +kernel
theorem efI4 (m : MethodId) (a0 : Addr) : entryFrame m #[(.ref a0), (.int (4 : Int32))] 2 = mkF m 0 #[.val (.ref a0), .val (.int (4 : Int32))] [] := by first | (simp [entryFrame, mkF, argsToLocals, Value.category]; done) | rfl
def QI4 (Z : State) (a0 : Addr) (u_size_a0 : Value) (u_values_a0 : Value) (h0 : Heap) (n0 : Nat) (v : Option Value) (h : Heap) (L : List Loc) : Prop := ∃ (x0 : Addr) (kx_x0 : ClassId), v = none ∧ Fr n0 L ∧ Keep h0 h [a0] ∧ h0.size ≤ x0 ∧ Exa Z h a0 "com/example/winnowfold/winnowfold/math/DenseVector" ∧ Fld Z h a0 "com/example/winnowfold/winnowfold/math/AbstractVector" "size" "I" (.int (4 : Int32)) ∧ Fld Z h a0 "com/example/winnowfold/winnowfold/math/DenseVector" "values" "[D" (.ref x0) ∧ Arv Z h x0 kx_x0 .double (4 : Int32) [(.double (0 : UInt64)), (.double (0 : UInt64)), (.double (0 : UInt64)), (.double (0 : UInt64))] (.double (0 : UInt64))
set_option maxRecDepth 65536 in
set_option maxHeartbeats 40000000 in
theorem rmI4 (l : Launch) (Z : State) (ar : Array Value) (hw : ∀ d ∈ tables_1, d.before ar Z = true) (ws : List Jvm.Cond) (a0 : Addr) (u_size_a0 : Value) (u_values_a0 : Value) (h0 : Heap) (n0 : Nat) (Z0 : n0 ≤ h0.size) (E_a0 : Exa Z h0 a0 "com/example/winnowfold/winnowfold/math/DenseVector") (F_size_a0 : Fld Z h0 a0 "com/example/winnowfold/winnowfold/math/AbstractVector" "size" "I" u_size_a0) (F_values_a0 : Fld Z h0 a0 "com/example/winnowfold/winnowfold/math/DenseVector" "values" "[D" u_values_a0) (g_a0 : n0 ≤ a0) :
    MetFree l (⟨"com/example/winnowfold/winnowfold/math/DenseVector", "<init>", "(I)V"⟩ : MethodName) (head1 (Jvm.Cond.code (⟨"com/example/winnowfold/winnowfold/math/DenseVector", "<init>", "(I)V"⟩ : MethodName) prog_52_method_1_code 2 none :: ws) ({ frames := 2, cells := 1, slots := 4, locals := 25 } : Room)) (fun a U => a = #[(.ref a0), (.int (4 : Int32))] ∧ Z.Warmed39 U.vm ∧ U.heap = h0) (fun _ _ _ _ _ => True) (fun _ U o U' => ∃ v L, o = .returned v ∧ QI4 Z a0 u_size_a0 u_values_a0 h0 n0 v U'.heap L ∧ FrameEnd U o U' L ({ frames := 2, cells := 1, slots := 4, locals := 25 } : Room).cells ({ frames := 2, cells := 1, slots := 4, locals := 25 } : Room).slots) := by
  refine MetFree.of_bodySF (plainFor_of_name pnI4) hisR ?_
  intro p e s m args below meth c s₁ Bd hml0 hP hK
  obtain ⟨rfl, hZ, hh⟩ := hP
  have hx := Bd.exec
  have hby := Bd.bytes
  have hlk := Bd.notSynchronized
  have hml : c.maxLocals = 2 := hml0
  have hown : s.vm.findClass "com/example/winnowfold/winnowfold/math/DenseVector" = some m.cls := findClass_of_methodNamed Bd.named
  have hnm := (name_of_methodNamed Bd.named Bd.method).1
  have X0 : Stand p l e ({ frames := 2, cells := 1, slots := 4, locals := 25 } : Room) s m #[(.ref a0), (.int (4 : Int32))] below meth c s₁ [] 0 0 := Stand.of_body Bd
  have e0 : s₁.heap = h0 := by rw [← hh, Bd.state]; rfl
  have N0 := Fr.nil n0
  have K0 := Keep.refl h0 [a0]
  refine own_enter (Q := QI4 Z a0 u_size_a0 u_values_a0 h0 n0) (efI4 m a0) ?_
  refine own_st (T' := s₁) (g' := (mkF m 2 #[.val (.ref a0), .val (.int (4 : Int32))] [(.int (4 : Int32)), (.ref a0)])) (fun t k => ?_) ?_
  · show Steps p.tables e below (s₁.setTop (mkF m 0 #[.val (.ref a0), .val (.int (4 : Int32))] [])) t
    refine XS.aloadN X0.here hx rfl (hb hby d1_0) rfl rfl ?_
    show Steps p.tables e below (s₁.setTop (mkF m 1 #[.val (.ref a0), .val (.int (4 : Int32))] [(.ref a0)])) t
    refine XS.iloadN X0.here hx rfl (hb hby d1_1) rfl ?_
    exact k
  obtain ⟨_, _, ⟨T1, L1, k1, n1⟩, -, X1, ⟨Lc1, hQ1, l1, y1, z1⟩, st1⟩ := X0.specialBack hx (y := (⟨"com/example/winnowfold/winnowfold/math/AbstractVector", "<init>", "(I)V"⟩ : MethodName)) rfl hown (mvT hZ (hw _ (List.mem_of_getElem? (i := 7) rfl))) (mvT hZ (hw _ (List.mem_of_getElem? (i := 8) rfl))) (mvT hZ (hw _ (List.mem_of_getElem? (i := 11) rfl))) (by decide) (backOf (W := 0) (rmA4 l Z ar hw [] a0 u_size_a0 u_values_a0 h0 n0 Z0 E_a0 F_size_a0 F_values_a0 g_a0) hZ (hw _ (List.mem_of_getElem? (i := 11) rfl)) (hw _ (List.mem_of_getElem? (i := 10) rfl)) (by decide) (by decide)) (g := (mkF m 2 #[.val (.ref a0), .val (.int (4 : Int32))] [(.int (4 : Int32)), (.ref a0)])) rfl (by rw [hml]; rfl) (Steps.refl _) (a := a0) (argsL := [(.int (4 : Int32))]) (rest := []) (lenOf pdI4_0 rfl) rfl (by show 2 * 0 + _ ≤ _; exact Nat.le_of_eq rfl) (hb hby d1_2) (fun _ _ => ⟨rfl, e0, (by decide : 0 + 0 ≤ _), (by decide : 0 + 0 ≤ _)⟩)
  dsimp only [Pt.U, Pt.locs, Pt.cells, Pt.slots] at X1 l1 y1 z1 st1 hQ1
  subst l1 y1 z1
  obtain ⟨rfl, N1q, K1, f2, f3, f4⟩ := hQ1
  have n5 := Fr.app N0 N1q
  have f6 := E_a0.keep K1
  have z7 := Nat.le_trans Z0 K1.1
  have k8 := K0.trans K1 (allS (Or.inl (List.mem_of_getElem? (i := 0) rfl)) all0)
  refine own_tr (T' := T1) (g' := (mkF m 5 #[.val (.ref a0), .val (.int (4 : Int32))] [])) st1 ?_
  refine own_st (T' := T1) (g' := (mkF m 7 #[.val (.ref a0), .val (.int (4 : Int32))] [(.int (4 : Int32)), (.ref a0)])) (fun t k => ?_) ?_
  · show Steps p.tables e below (T1.setTop (mkF m 5 #[.val (.ref a0), .val (.int (4 : Int32))] [])) t
    refine XS.aloadN X1.here hx rfl (hb hby d1_5) rfl rfl ?_
    show Steps p.tables e below (T1.setTop (mkF m 6 #[.val (.ref a0), .val (.int (4 : Int32))] [(.ref a0)])) t
    refine XS.iloadN X1.here hx rfl (hb hby d1_6) rfl ?_
    exact k
  obtain ⟨T9, h9, k9, X9, e9, E9, A9, st9⟩ := newP X1 hx hZ (hw _ (List.mem_of_getElem? (i := 17) rfl)) (rfl : T1.heap = T1.heap) (g := (mkF m 7 #[.val (.ref a0), .val (.int (4 : Int32))] [(.int (4 : Int32)), (.ref a0)])) rfl (hb hby d1_7) rfl (by decide) (cap := 4) (by decide) (by decide) (by decide) (by decide)
  obtain ⟨b9, g9⟩ : ∃ z, z = T1.heap.size := ⟨_, rfl⟩
  rw [← g9] at A9 st9
  have ne_a0_b9 : a0 ≠ b9 := Nat.ne_of_lt (Nat.lt_of_lt_of_le f2.lt (Nat.le_of_eq g9.symm))
  have g_b9 : n0 ≤ b9 := Nat.le_trans z7 (Nat.le_of_eq g9.symm)
  have sz_b9 : h0.size ≤ b9 := Nat.le_trans k8.1 (Nat.le_of_eq g9.symm)
  have f10 := f2.ext E9
  have f11 := f3.ext E9
  have f12 := f4.ext E9
  have z13 := Nat.le_trans z7 E9.1
  have k14 := k8.ext E9
  have v15 : Arv Z h9 b9 k9 .double (4 : Int32) [(.double (0 : UInt64)), (.double (0 : UInt64)), (.double (0 : UInt64)), (.double (0 : UInt64))] (.double (0 : UInt64)) := (Arv.new A9 (by decide)).pad (pad_rep [] (.double (0 : UInt64)) 4)
  refine own_st (T' := T9) (g' := (mkF m 9 #[.val (.ref a0), .val (.int (4 : Int32))] [(.ref b9), (.ref a0)])) st9 ?_
  obtain ⟨T16, h16, X16, e16, W16, st16⟩ := putF X9 hx hZ hown (host := "") (Or.inl (hw _ (List.mem_of_getElem? (i := 18) rfl))) Via.refl e9 f12 f10 (Or.inr ⟨(hw _ (List.mem_of_getElem? (i := 19) rfl)), rfl, hnm⟩) (hw _ (List.mem_of_getElem? (i := 2) rfl)) (ty := (.array .double)) (by decide) rfl rfl (g := (mkF m 9 #[.val (.ref a0), .val (.int (4 : Int32))] [(.ref b9), (.ref a0)])) rfl rfl (hb hby d1_9)
  have f17 := f10.wr W16
  have f18 := f11.other W16 (Or.inr (slot_ne (Or.inr (hw _ (List.mem_of_getElem? (i := 16) rfl))) (Or.inr (hw _ (List.mem_of_getElem? (i := 19) rfl))) (by decide) (t := .int) (t' := (.array .double)) (by decide) (by decide)))
  have f19 := f12.same W16
  have f20 := v15.other W16 (Ne.symm ne_a0_b9)
  have z21 := Nat.le_trans z13 (Keep.of_wr W16).1
  have k22 := k14.wr W16 (Or.inl (List.mem_of_getElem? (i := 0) rfl))
  have n23 := Fr.snoc X16 n5 g_a0
  refine own_st (T' := T16) (g' := (mkF m 12 #[.val (.ref a0), .val (.int (4 : Int32))] [])) st16 ?_
  refine own_retV X16 hx hlk Bd.returns (hb hby d1_12) (by decide) (by decide) ?_
  show QI4 Z a0 u_size_a0 u_values_a0 h0 n0 none T16.heap _
  rw [(e16 : T16.heap = h16)]
  exact ⟨b9, k9, rfl, n23, k22, sz_b9, f17, f18, f19, f20⟩
theorem d7_0 : decode prog_48_method_23_code 0 = .ok (.iload_n 1, 1) := by decide +kernel
theorem d7_1 : decode prog_48_method_23_code 1 = .ok (.aload_n 0, 1) := by decide +kernel
theorem d7_2 : decode prog_48_method_23_code 2 = .ok (.getfield 16, 3) := by decide +kernel
theorem d7_5 : decode prog_48_method_23_code 5 = .ok (.invokestatic 211, 3) := by decide +kernel
theorem d7_8 : decode prog_48_method_23_code 8 = .ok (.ireturn, 1) := by decide +kernel
theorem pn7 : plainName "com/example/winnowfold/winnowfold/math/AbstractVector" = true := by first | (simp [plainName, overriddenIn]; done) | decide +kernel
theorem pd7_0 : parseMethodDescriptor "(II)I" = some ⟨[.int, .int], some .int⟩ := by decide +kernel
theorem ef7 (m : MethodId) (a0 : Addr) (p1 : Int32) : entryFrame m #[(.ref a0), (.int p1)] 2 = mkF m 0 #[.val (.ref a0), .val (.int p1)] [] := by first | (simp [entryFrame, mkF, argsToLocals, Value.category]; done) | rfl
def Q7 (Z : State) (a0 : Addr) (p1 : Int32) (w_size_a0 : Int32) (h0 : Heap) (n0 : Nat) (v : Option Value) (h : Heap) (L : List Loc) : Prop := v = some (.int p1) ∧ Fr n0 L ∧ h = h0
set_option maxRecDepth 65536 in
set_option maxHeartbeats 40000000 in
theorem rm7 (l : Launch) (Z : State) (ar : Array Value) (hw : ∀ d ∈ tables_1, d.before ar Z = true) (ws : List Jvm.Cond) (a0 : Addr) (p1 : Int32) (w_size_a0 : Int32) (h0 : Heap) (n0 : Nat) (Z0 : n0 ≤ h0.size) (E_a0 : Exa Z h0 a0 "com/example/winnowfold/winnowfold/math/DenseVector") (F_size_a0 : Fld Z h0 a0 "com/example/winnowfold/winnowfold/math/AbstractVector" "size" "I" (.int w_size_a0)) (h5_h3_hb1 : ¬ (p1 < (0 : Int32))) (h5_h3_hb6 : p1 < w_size_a0) :
    MetFree l (⟨"com/example/winnowfold/winnowfold/math/AbstractVector", "checkIndex", "(I)I"⟩ : MethodName) (head1 (Jvm.Cond.code (⟨"com/example/winnowfold/winnowfold/math/AbstractVector", "checkIndex", "(I)I"⟩ : MethodName) prog_48_method_23_code 2 (some .int) :: ws) ({ frames := 2, cells := 0, slots := 0, locals := 27 } : Room)) (fun a U => a = #[(.ref a0), (.int p1)] ∧ Z.Warmed39 U.vm ∧ U.heap = h0) (fun _ _ _ _ _ => True) (fun _ U o U' => ∃ v L, o = .returned v ∧ Q7 Z a0 p1 w_size_a0 h0 n0 v U'.heap L ∧ FrameEnd U o U' L ({ frames := 2, cells := 0, slots := 0, locals := 27 } : Room).cells ({ frames := 2, cells := 0, slots := 0, locals := 27 } : Room).slots) := by
  refine MetFree.of_bodySF (plainFor_of_name pn7) hisR ?_
  intro p e s m args below meth c s₁ Bd hml0 hP hK
  obtain ⟨rfl, hZ, hh⟩ := hP
  have hx := Bd.exec
  have hby := Bd.bytes
  have hlk := Bd.notSynchronized
  have hml : c.maxLocals = 2 := hml0
  have hown : s.vm.findClass "com/example/winnowfold/winnowfold/math/AbstractVector" = some m.cls := findClass_of_methodNamed Bd.named
  have hnm := (name_of_methodNamed Bd.named Bd.method).1
  have X0 : Stand p l e ({ frames := 2, cells := 0, slots := 0, locals := 27 } : Room) s m #[(.ref a0), (.int p1)] below meth c s₁ [] 0 0 := Stand.of_body Bd
  have e0 : s₁.heap = h0 := by rw [← hh, Bd.state]; rfl
  have N0 := Fr.nil n0
  have K0 := Keep.refl h0 []
  refine own_enter (Q := Q7 Z a0 p1 w_size_a0 h0 n0) (ef7 m a0 p1) ?_
  refine own_st (T' := s₁) (g' := (mkF m 2 #[.val (.ref a0), .val (.int p1)] [(.ref a0), (.int p1)])) (fun t k => ?_) ?_
  · show Steps p.tables e below (s₁.setTop (mkF m 0 #[.val (.ref a0), .val (.int p1)] [])) t
    refine XS.iloadN X0.here hx rfl (hb hby d7_0) rfl ?_
    show Steps p.tables e below (s₁.setTop (mkF m 1 #[.val (.ref a0), .val (.int p1)] [(.int p1)])) t
    refine XS.aloadN X0.here hx rfl (hb hby d7_1) rfl rfl ?_
    exact k
  obtain ⟨T1, X1, e1, st1⟩ := getF X0 hx hZ hown (host := "") (Or.inl (hw _ (List.mem_of_getElem? (i := 15) rfl))) Via.refl e0 F_size_a0 (g := (mkF m 2 #[.val (.ref a0), .val (.int p1)] [(.ref a0), (.int p1)])) rfl rfl (hb hby d7_2)
  refine own_st (T' := T1) (g' := (mkF m 5 #[.val (.ref a0), .val (.int p1)] [(.int w_size_a0), (.int p1)])) st1 ?_
  obtain ⟨_, _, ⟨T2, L2, k2, n2⟩, -, X2, ⟨Lc2, hQ2, l2, y2, z2⟩, st2⟩ := Jvm.LawKit.callS X1 hx (y := (⟨"java/util/Objects", "checkIndex", "(II)I"⟩ : MethodName)) hown (mvT hZ (hw _ (List.mem_of_getElem? (i := 40) rfl))) (mvT hZ (hw _ (List.mem_of_getElem? (i := 41) rfl))) (mvT hZ (hw _ (List.mem_of_getElem? (i := 42) rfl))) (mvT hZ (hw _ (List.mem_of_getElem? (i := 43) rfl))) (by decide) (backOf (W := 0) (rm8 l Z ar hw [] p1 w_size_a0 h0 n0 Z0 h5_h3_hb1 h5_h3_hb6) hZ (hw _ (List.mem_of_getElem? (i := 43) rfl)) (hw _ (List.mem_of_getElem? (i := 42) rfl)) (by decide) (by decide)) (g := (mkF m 5 #[.val (.ref a0), .val (.int p1)] [(.int w_size_a0), (.int p1)])) rfl (by rw [hml]; rfl) (argsL := [(.int p1), (.int w_size_a0)]) (rest := []) (lenOf pd7_0 rfl) rfl (by show 2 * 0 + _ ≤ _; exact Nat.le_of_eq rfl) (hb hby d7_5) (fun _ _ => ⟨rfl, e1, (by decide : 0 + 0 ≤ _), (by decide : 0 + 0 ≤ _)⟩)
  dsimp only [Pt.U, Pt.locs, Pt.cells, Pt.slots] at X2 l2 y2 z2 st2 hQ2
  subst l2 y2 z2
  obtain ⟨rfl, N2q, e2⟩ := hQ2
  have n3 := Fr.app N0 N2q
  refine own_st (T' := T2) (g' := (mkF m 8 #[.val (.ref a0), .val (.int p1)] [(.int p1)])) st2 ?_
  refine own_retI X2 hx hlk Bd.returns (hb hby d7_8) (by decide) (by decide) ?_
  show Q7 Z a0 p1 w_size_a0 h0 n0 (some (.int p1)) T2.heap _
  rw [(e2 : T2.heap = h0)]
  exact ⟨rfl, n3, rfl⟩
theorem d6_0 : decode prog_52_method_5_code 0 = .ok (.aload_n 0, 1) := by decide +kernel
theorem d6_1 : decode prog_52_method_5_code 1 = .ok (.getfield 7, 3) := by decide +kernel
theorem d6_4 : decode prog_52_method_5_code 4 = .ok (.aload_n 0, 1) := by decide +kernel
theorem d6_5 : decode prog_52_method_5_code 5 = .ok (.iload_n 1, 1) := by decide +kernel
theorem d6_6 : decode prog_52_method_5_code 6 = .ok (.invokevirtual 53, 3) := by decide +kernel
theorem d6_9 : decode prog_52_method_5_code 9 = .ok (.dload_n 2, 1) := by decide +kernel
theorem d6_10 : decode prog_52_method_5_code 10 = .ok (.dastore, 1) := by decide +kernel
theorem d6_11 : decode prog_52_method_5_code 11 = .ok (.return_, 1) := by decide +kernel
theorem pn6 : plainName "com/example/winnowfold/winnowfold/math/DenseVector" = true := by first | (simp [plainName, overriddenIn]; done) | decide +kernel
theorem pd6_0 : parseMethodDescriptor "(I)I" = some ⟨[.int], some .int⟩ := by decide +kernel
theorem ef6 (m : MethodId) (a0 : Addr) (p1 : Int32) (d2 : UInt64) : entryFrame m #[(.ref a0), (.int p1), (.double d2)] 4 = mkF m 0 #[.val (.ref a0), .val (.int p1), .val (.double d2), .second] [] := by first | (simp [entryFrame, mkF, argsToLocals, Value.category]; done) | rfl
def Q6 (Z : State) (a0 : Addr) (p1 : Int32) (d2 : UInt64) (w_size_a0 : Int32) (w_values_a0 : Addr) (kk_w_values_a0 : ClassId) (z_w_values_a0 : Int32) (vs_w_values_a0 : List Value) (dv_w_values_a0 : Value) (h0 : Heap) (n0 : Nat) (v : Option Value) (h : Heap) (L : List Loc) : Prop := v = none ∧ Fr n0 L ∧ Keep h0 h [w_values_a0] ∧ Arv Z h w_values_a0 kk_w_values_a0 .double z_w_values_a0 (vs_w_values_a0.set (p1).toNatClampNeg (.double d2)) dv_w_values_a0
set_option maxRecDepth 65536 in
set_option maxHeartbeats 40000000 in
theorem rm6 (l : Launch) (Z : State) (ar : Array Value) (hw : ∀ d ∈ tables_1, d.before ar Z = true) (ws : List Jvm.Cond) (a0 : Addr) (p1 : Int32) (d2 : UInt64) (w_size_a0 : Int32) (w_values_a0 : Addr) (kk_w_values_a0 : ClassId) (z_w_values_a0 : Int32) (vs_w_values_a0 : List Value) (dv_w_values_a0 : Value) (h0 : Heap) (n0 : Nat) (Z0 : n0 ≤ h0.size) (E_a0 : Exa Z h0 a0 "com/example/winnowfold/winnowfold/math/DenseVector") (F_size_a0 : Fld Z h0 a0 "com/example/winnowfold/winnowfold/math/AbstractVector" "size" "I" (.int w_size_a0)) (F_values_a0 : Fld Z h0 a0 "com/example/winnowfold/winnowfold/math/DenseVector" "values" "[D" (.ref w_values_a0)) (V_w_values_a0 : Arv Z h0 w_values_a0 kk_w_values_a0 .double z_w_values_a0 vs_w_values_a0 dv_w_values_a0) (h6_h5_h3_hb1 : ¬ (p1 < (0 : Int32))) (h6_h5_h3_hb6 : p1 < w_size_a0) (hin10 : ¬ p1 < 0 ∧ p1 < z_w_values_a0) (hle_vs_w_values_a0 : (p1).toNatClampNeg < (vs_w_values_a0).length) (ne_a0_w_values_a0 : a0 ≠ w_values_a0) (g_w_values_a0 : n0 ≤ w_values_a0) :
    MetFree l (⟨"com/example/winnowfold/winnowfold/math/DenseVector", "set", "(ID)V"⟩ : MethodName) (head1 (Jvm.Cond.code (⟨"com/example/winnowfold/winnowfold/math/DenseVector", "set", "(ID)V"⟩ : MethodName) prog_52_method_5_code 4 none :: ws) ({ frames := 3, cells := 0, slots := 0, locals := 41 } : Room)) (fun a U => a = #[(.ref a0), (.int p1), (.double d2)] ∧ Z.Warmed39 U.vm ∧ U.heap = h0) (fun _ _ _ _ _ => True) (fun _ U o U' => ∃ v L, o = .returned v ∧ Q6 Z a0 p1 d2 w_size_a0 w_values_a0 kk_w_values_a0 z_w_values_a0 vs_w_values_a0 dv_w_values_a0 h0 n0 v U'.heap L ∧ FrameEnd U o U' L ({ frames := 3, cells := 0, slots := 0, locals := 41 } : Room).cells ({ frames := 3, cells := 0, slots := 0, locals := 41 } : Room).slots) := by
  refine MetFree.of_bodySF (plainFor_of_name pn6) hisR ?_
  intro p e s m args below meth c s₁ Bd hml0 hP hK
  obtain ⟨rfl, hZ, hh⟩ := hP
  have hx := Bd.exec
  have hby := Bd.bytes
  have hlk := Bd.notSynchronized
  have hml : c.maxLocals = 4 := hml0
  have hown : s.vm.findClass "com/example/winnowfold/winnowfold/math/DenseVector" = some m.cls := findClass_of_methodNamed Bd.named
  have hnm := (name_of_methodNamed Bd.named Bd.method).1
  have X0 : Stand p l e ({ frames := 3, cells := 0, slots := 0, locals := 41 } : Room) s m #[(.ref a0), (.int p1), (.double d2)] below meth c s₁ [] 0 0 := Stand.of_body Bd
  have e0 : s₁.heap = h0 := by rw [← hh, Bd.state]; rfl
  have N0 := Fr.nil n0
  have K0 := Keep.refl h0 [w_values_a0]
  refine own_enter (Q := Q6 Z a0 p1 d2 w_size_a0 w_values_a0 kk_w_values_a0 z_w_values_a0 vs_w_values_a0 dv_w_values_a0 h0 n0) (ef6 m a0 p1 d2) ?_
  refine own_st (T' := s₁) (g' := (mkF m 1 #[.val (.ref a0), .val (.int p1), .val (.double d2), .second] [(.ref a0)])) (fun t k => ?_) ?_
  · show Steps p.tables e below (s₁.setTop (mkF m 0 #[.val (.ref a0), .val (.int p1), .val (.double d2), .second] [])) t
    refine XS.aloadN X0.here hx rfl (hb hby d6_0) rfl rfl ?_
    exact k
  obtain ⟨T1, X1, e1, st1⟩ := getF X0 hx hZ hown (host := "") (Or.inl (hw _ (List.mem_of_getElem? (i := 18) rfl))) Via.refl e0 F_values_a0 (g := (mkF m 1 #[.val (.ref a0), .val (.int p1), .val (.double d2), .second] [(.ref a0)])) rfl rfl (hb hby d6_1)
  refine own_st (T' := T1) (g' := (mkF m 4 #[.val (.ref a0), .val (.int p1), .val (.double d2), .second] [(.ref w_values_a0)])) st1 ?_
  refine own_st (T' := T1) (g' := (mkF m 6 #[.val (.ref a0), .val (.int p1), .val (.double d2), .second] [(.int p1), (.ref a0), (.ref w_values_a0)])) (fun t k => ?_) ?_
  · show Steps p.tables e below (T1.setTop (mkF m 4 #[.val (.ref a0), .val (.int p1), .val (.double d2), .second] [(.ref w_values_a0)])) t
    refine XS.aloadN X1.here hx rfl (hb hby d6_4) rfl rfl ?_
    show Steps p.tables e below (T1.setTop (mkF m 5 #[.val (.ref a0), .val (.int p1), .val (.double d2), .second] [(.ref a0), (.ref w_values_a0)])) t
    refine XS.iloadN X1.here hx rfl (hb hby d6_5) rfl ?_
    exact k
  obtain ⟨cq2, kq2, qa2, qb2, qc2⟩ := isOf hZ e1 E_a0
  obtain ⟨_, _, ⟨T2, L2, k2, n2⟩, -, X2, ⟨Lc2, hQ2, l2, y2, z2⟩, st2⟩ := X1.virtualBackUp hx (owner := "com/example/winnowfold/winnowfold/math/AbstractVector") (x := (⟨"com/example/winnowfold/winnowfold/math/DenseVector", "checkIndex", "(I)I"⟩ : MethodName)) (y := (⟨"com/example/winnowfold/winnowfold/math/AbstractVector", "checkIndex", "(I)I"⟩ : MethodName)) hown (mvT hZ (hw _ (List.mem_of_getElem? (i := 34) rfl))) (mvT hZ (hw _ (List.mem_of_getElem? (i := 35) rfl))) (mvT hZ (hw _ (List.mem_of_getElem? (i := 36) rfl))) (by decide) (mvT hZ (hw _ (List.mem_of_getElem? (i := 38) rfl))) (mvT hZ (hw _ (List.mem_of_getElem? (i := 37) rfl))) (backOf (W := 1) (rm7 l Z ar hw [] a0 p1 w_size_a0 h0 n0 Z0 E_a0 F_size_a0 h6_h5_h3_hb1 h6_h5_h3_hb6) hZ (hw _ (List.mem_of_getElem? (i := 39) rfl)) (hw _ (List.mem_of_getElem? (i := 10) rfl)) (by decide) (by decide)) qa2 qc2 (g := (mkF m 6 #[.val (.ref a0), .val (.int p1), .val (.double d2), .second] [(.int p1), (.ref a0), (.ref w_values_a0)])) rfl (by rw [hml]; rfl) (Steps.refl _) (argsL := [(.int p1)]) (rest := [(.ref w_values_a0)]) (lenOf pd6_0 rfl) rfl (by show 2 * 0 + _ ≤ _; exact Nat.le_of_eq rfl) (hb hby d6_6) (fun _ _ => ⟨rfl, e1, (by decide : 0 + 0 ≤ _), (by decide : 0 + 0 ≤ _)⟩)
  dsimp only [Pt.U, Pt.locs, Pt.cells, Pt.slots] at X2 l2 y2 z2 st2 hQ2
  subst l2 y2 z2
  obtain ⟨rfl, N2q, e2⟩ := hQ2
  have n3 := Fr.app N0 N2q
  refine own_tr (T' := T2) (g' := (mkF m 9 #[.val (.ref a0), .val (.int p1), .val (.double d2), .second] [(.int p1), (.ref w_values_a0)])) st2 ?_
  refine own_st (T' := T2) (g' := (mkF m 10 #[.val (.ref a0), .val (.int p1), .val (.double d2), .second] [(.double d2), (.int p1), (.ref w_values_a0)])) (fun t k => ?_) ?_
  · show Steps p.tables e below (T2.setTop (mkF m 9 #[.val (.ref a0), .val (.int p1), .val (.double d2), .second] [(.int p1), (.ref w_values_a0)])) t
    refine XS.dloadN X2.here hx rfl (hb hby d6_9) rfl ?_
    exact k
  obtain ⟨c4, r4a, r4b, r4c, r4d, r4e, r4f⟩ := id V_w_values_a0
  have i4 : ¬ (p1 < 0 ∨ c4.slots.size ≤ (p1).toNatClampNeg) := inb_of r4c hin10
  obtain ⟨T4, h4, X4, e4, W4, st4⟩ := stD X2 hx hZ e2 r4a (j := p1) i4 (g := (mkF m 10 #[.val (.ref a0), .val (.int p1), .val (.double d2), .second] [(.double d2), (.int p1), (.ref w_values_a0)])) rfl rfl (hb hby d6_10)
  have v5 := Arv.set r4a r4b r4c r4d r4e r4f rfl W4 (p1).toNatClampNeg rfl hle_vs_w_values_a0
  have f6 := E_a0.wr W4
  have f7 := F_size_a0.other W4 (Or.inl ne_a0_w_values_a0)
  have f8 := F_values_a0.other W4 (Or.inl ne_a0_w_values_a0)
  have z9 := Nat.le_trans Z0 (Keep.of_wr W4).1
  have k10 := K0.wr W4 (Or.inl (List.mem_of_getElem? (i := 0) rfl))
  have n11 := Fr.snoc X4 n3 g_w_values_a0
  refine own_st (T' := T4) (g' := (mkF m 11 #[.val (.ref a0), .val (.int p1), .val (.double d2), .second] [])) st4 ?_
  refine own_retV X4 hx hlk Bd.returns (hb hby d6_11) (by decide) (by decide) ?_
  show Q6 Z a0 p1 d2 w_size_a0 w_values_a0 kk_w_values_a0 z_w_values_a0 vs_w_values_a0 dv_w_values_a0 h0 n0 none T4.heap _
  rw [(e4 : T4.heap = h4)]
  exact ⟨rfl, n11, k10, v5⟩
theorem d5_0 : decode method_3_code 0 = .ok (.iload_n 0, 1) := by decide +kernel
theorem d5_1 : decode method_3_code 1 = .ok (.iconst 3, 1) := by decide +kernel
theorem d5_2 : decode method_3_code 2 = .ok (.iand, 1) := by decide +kernel
theorem d5_3 : decode method_3_code 3 = .ok (.istore_n 1, 1) := by decide +kernel
theorem d5_4 : decode method_3_code 4 = .ok (.iload_n 1, 1) := by decide +kernel
theorem d5_5 : decode method_3_code 5 = .ok (.ifCond .ne 5, 3) := by decide +kernel
theorem d5_8 : decode method_3_code 8 = .ok (.dconst 0, 1) := by decide +kernel
theorem d5_9 : decode method_3_code 9 = .ok (.dreturn, 1) := by decide +kernel
theorem d5_10 : decode method_3_code 10 = .ok (.iload_n 1, 1) := by decide +kernel
theorem d5_11 : decode method_3_code 11 = .ok (.iconst 1, 1) := by decide +kernel
theorem d5_12 : decode method_3_code 12 = .ok (.if_icmp .ne 7, 3) := by decide +kernel
theorem d5_15 : decode method_3_code 15 = .ok (.ldc2_w 31, 3) := by decide +kernel
theorem d5_18 : decode method_3_code 18 = .ok (.dreturn, 1) := by decide +kernel
theorem d5_19 : decode method_3_code 19 = .ok (.iload_n 0, 1) := by decide +kernel
theorem d5_20 : decode method_3_code 20 = .ok (.i2d, 1) := by decide +kernel
theorem d5_21 : decode method_3_code 21 = .ok (.dreturn, 1) := by decide +kernel
theorem pn5 : plainName "com/example/winnowfold/winnowfold/math/DenseVectorNonZeroCountPinLaw" = true := by first | (simp [plainName, overriddenIn]; done) | decide +kernel
theorem ef5 (m : MethodId) (p0 : Int32) : entryFrame m #[(.int p0)] 2 = mkF m 0 #[.val (.int p0), .unset] [] := by first | (simp [entryFrame, mkF, argsToLocals, Value.category]; done) | rfl
def Q5 (Z : State) (p0 : Int32) (h0 : Heap) (n0 : Nat) (v : Option Value) (h : Heap) (L : List Loc) : Prop := v = some (.double (own_val p0)) ∧ Fr n0 L ∧ h = h0
set_option maxRecDepth 65536 in
set_option maxHeartbeats 40000000 in
theorem rm5 (l : Launch) (Z : State) (ar : Array Value) (hw : ∀ d ∈ tables_1, d.before ar Z = true) (ws : List Jvm.Cond) (p0 : Int32) (h0 : Heap) (n0 : Nat) (Z0 : n0 ≤ h0.size) :
    MetFree l (⟨"com/example/winnowfold/winnowfold/math/DenseVectorNonZeroCountPinLaw", "cell", "(I)D"⟩ : MethodName) (head1 (Jvm.Cond.code (⟨"com/example/winnowfold/winnowfold/math/DenseVectorNonZeroCountPinLaw", "cell", "(I)D"⟩ : MethodName) method_3_code 2 (some .double) :: ws) ({ frames := 0, cells := 0, slots := 0, locals := 0 } : Room)) (fun a U => a = #[(.int p0)] ∧ Z.Warmed39 U.vm ∧ U.heap = h0) (fun _ _ _ _ _ => True) (fun _ U o U' => ∃ v L, o = .returned v ∧ Q5 Z p0 h0 n0 v U'.heap L ∧ FrameEnd U o U' L ({ frames := 0, cells := 0, slots := 0, locals := 0 } : Room).cells ({ frames := 0, cells := 0, slots := 0, locals := 0 } : Room).slots) := by
  refine MetFree.of_bodySF (plainFor_of_name pn5) hisR ?_
  intro p e s m args below meth c s₁ Bd hml0 hP hK
  obtain ⟨rfl, hZ, hh⟩ := hP
  have hx := Bd.exec
  have hby := Bd.bytes
  have hlk := Bd.notSynchronized
  have hml : c.maxLocals = 2 := hml0
  have hown : s.vm.findClass "com/example/winnowfold/winnowfold/math/DenseVectorNonZeroCountPinLaw" = some m.cls := findClass_of_methodNamed Bd.named
  have hnm := (name_of_methodNamed Bd.named Bd.method).1
  have X0 : Stand p l e ({ frames := 0, cells := 0, slots := 0, locals := 0 } : Room) s m #[(.int p0)] below meth c s₁ [] 0 0 := Stand.of_body Bd
  have e0 : s₁.heap = h0 := by rw [← hh, Bd.state]; rfl
  have N0 := Fr.nil n0
  have K0 := Keep.refl h0 []
  refine own_enter (Q := Q5 Z p0 h0 n0) (ef5 m p0) ?_
  refine own_st (T' := s₁) (g' := (mkF m 5 #[.val (.int p0), .val (.int (p0 &&& (3 : Int32)))] [(.int (p0 &&& (3 : Int32)))])) (fun t k => ?_) ?_
  · show Steps p.tables e below (s₁.setTop (mkF m 0 #[.val (.int p0), .unset] [])) t
    refine XS.iloadN X0.here hx rfl (hb hby d5_0) rfl ?_
    show Steps p.tables e below (s₁.setTop (mkF m 1 #[.val (.int p0), .unset] [(.int p0)])) t
    refine XS.iconst X0.here hx rfl (hb hby d5_1) ?_
    show Steps p.tables e below (s₁.setTop (mkF m 2 #[.val (.int p0), .unset] [(.int (3 : Int32)), (.int p0)])) t
    refine XS.iand X0.here hx rfl (hb hby d5_2) rfl ?_
    show Steps p.tables e below (s₁.setTop (mkF m 3 #[.val (.int p0), .unset] [(.int (p0 &&& (3 : Int32)))])) t
    refine XS.istoreN X0.here hx rfl (hb hby d5_3) rfl (l' := #[.val (.int p0), .val (.int (p0 &&& (3 : Int32)))]) rfl ?_
    show Steps p.tables e below (s₁.setTop (mkF m 4 #[.val (.int p0), .val (.int (p0 &&& (3 : Int32)))] [])) t
    refine XS.iloadN X0.here hx rfl (hb hby d5_4) rfl ?_
    exact k
  by_cases hc5_1 : (p0 &&& (3 : Int32)) = (0 : Int32)
  · refine own_st (T' := s₁) (g' := (mkF m 9 #[.val (.int p0), .val (.int (p0 &&& (3 : Int32)))] [(.double (0 : UInt64))])) (fun t k => ?_) ?_
    · show Steps p.tables e below (s₁.setTop (mkF m 5 #[.val (.int p0), .val (.int (p0 &&& (3 : Int32)))] [(.int (p0 &&& (3 : Int32)))])) t
      refine XS.ifNo X0.here hx rfl (hb hby d5_5) rfl ((if0 _ _).trans (teq hc5_1).2) ?_
      show Steps p.tables e below (s₁.setTop (mkF m 8 #[.val (.int p0), .val (.int (p0 &&& (3 : Int32)))] [])) t
      refine XS.dconst0 X0.here hx rfl (hb hby d5_8) rfl ?_
      exact k
    refine own_retD X0 hx hlk Bd.returns (hb hby d5_9) (by decide) (by decide) ?_
    show Q5 Z p0 h0 n0 (some (.double (0 : UInt64))) s₁.heap _
    rw [(e0 : s₁.heap = h0)]
    exact ⟨congrArg (fun z => some (Value.double z)) (by unfold own_val; rw [if_pos hc5_1]), N0, rfl⟩
  · refine own_st (T' := s₁) (g' := (mkF m 12 #[.val (.int p0), .val (.int (p0 &&& (3 : Int32)))] [(.int (1 : Int32)), (.int (p0 &&& (3 : Int32)))])) (fun t k => ?_) ?_
    · show Steps p.tables e below (s₁.setTop (mkF m 5 #[.val (.int p0), .val (.int (p0 &&& (3 : Int32)))] [(.int (p0 &&& (3 : Int32)))])) t
      refine XS.ifYes X0.here hx rfl (pc0 := 5) (pc' := 10) rfl (hb hby d5_5) rfl ((if0 _ _).trans (feq hc5_1).2) (by decide) (by decide) ?_
      show Steps p.tables e below (s₁.setTop (mkF m 10 #[.val (.int p0), .val (.int (p0 &&& (3 : Int32)))] [])) t
      refine XS.iloadN X0.here hx rfl (hb hby d5_10) rfl ?_
      show Steps p.tables e below (s₁.setTop (mkF m 11 #[.val (.int p0), .val (.int (p0 &&& (3 : Int32)))] [(.int (p0 &&& (3 : Int32)))])) t
      refine XS.iconst X0.here hx rfl (hb hby d5_11) ?_
      exact k
    by_cases hc12_2 : (p0 &&& (3 : Int32)) = (1 : Int32)
    · refine own_st (T' := s₁) (g' := (mkF m 18 #[.val (.int p0), .val (.int (p0 &&& (3 : Int32)))] [(.double (9223372036854775808 : UInt64))])) (fun t k => ?_) ?_
      · show Steps p.tables e below (s₁.setTop (mkF m 12 #[.val (.int p0), .val (.int (p0 &&& (3 : Int32)))] [(.int (1 : Int32)), (.int (p0 &&& (3 : Int32)))])) t
        refine XS.icmpNo X0.here hx rfl (hb hby d5_12) rfl (teq hc12_2).2 ?_
        show Steps p.tables e below (s₁.setTop (mkF m 15 #[.val (.int p0), .val (.int (p0 &&& (3 : Int32)))] [])) t
        refine X0.ldc2DoubleC hx hown (mvT hZ (hw _ (List.mem_of_getElem? (i := 51) rfl))) (g := (mkF m 15 #[.val (.int p0), .val (.int (p0 &&& (3 : Int32)))] [])) rfl (hb hby d5_15) _ ?_
        exact k
      refine own_retD X0 hx hlk Bd.returns (hb hby d5_18) (by decide) (by decide) ?_
      show Q5 Z p0 h0 n0 (some (.double (9223372036854775808 : UInt64))) s₁.heap _
      rw [(e0 : s₁.heap = h0)]
      exact ⟨congrArg (fun z => some (Value.double z)) (by unfold own_val; rw [if_neg hc5_1]; rw [if_pos hc12_2]), N0, rfl⟩
    · refine own_st (T' := s₁) (g' := (mkF m 21 #[.val (.int p0), .val (.int (p0 &&& (3 : Int32)))] [(.double (FP.i2d p0))])) (fun t k => ?_) ?_
      · show Steps p.tables e below (s₁.setTop (mkF m 12 #[.val (.int p0), .val (.int (p0 &&& (3 : Int32)))] [(.int (1 : Int32)), (.int (p0 &&& (3 : Int32)))])) t
        refine XS.icmpYes X0.here hx rfl (pc0 := 12) (pc' := 19) rfl (hb hby d5_12) rfl (feq hc12_2).2 (by decide) (by decide) ?_
        show Steps p.tables e below (s₁.setTop (mkF m 19 #[.val (.int p0), .val (.int (p0 &&& (3 : Int32)))] [])) t
        refine XS.iloadN X0.here hx rfl (hb hby d5_19) rfl ?_
        show Steps p.tables e below (s₁.setTop (mkF m 20 #[.val (.int p0), .val (.int (p0 &&& (3 : Int32)))] [(.int p0)])) t
        refine XS.i2dS X0.here hx rfl (hb hby d5_20) rfl rfl ?_
        exact k
      refine own_retD X0 hx hlk Bd.returns (hb hby d5_21) (by decide) (by decide) ?_
      show Q5 Z p0 h0 n0 (some (.double (FP.i2d p0))) s₁.heap _
      rw [(e0 : s₁.heap = h0)]
      exact ⟨congrArg (fun z => some (Value.double z)) (by unfold own_val; rw [if_neg hc5_1]; rw [if_neg hc12_2]), N0, rfl⟩
theorem d10_0 : decode method_4_code 0 = .ok (.iload_n 0, 1) := by decide +kernel
theorem d10_1 : decode method_4_code 1 = .ok (.iconst 3, 1) := by decide +kernel
theorem d10_2 : decode method_4_code 2 = .ok (.iand, 1) := by decide +kernel
theorem d10_3 : decode method_4_code 3 = .ok (.iconst 2, 1) := by decide +kernel
theorem d10_4 : decode method_4_code 4 = .ok (.if_icmp .lt 7, 3) := by decide +kernel
theorem d10_7 : decode method_4_code 7 = .ok (.iconst 1, 1) := by decide +kernel
theorem d10_8 : decode method_4_code 8 = .ok (.goto 4, 3) := by decide +kernel
theorem d10_11 : decode method_4_code 11 = .ok (.iconst 0, 1) := by decide +kernel
theorem d10_12 : decode method_4_code 12 = .ok (.ireturn, 1) := by decide +kernel
theorem pn10 : plainName "com/example/winnowfold/winnowfold/math/DenseVectorNonZeroCountPinLaw" = true := by first | (simp [plainName, overriddenIn]; done) | decide +kernel
theorem ef10 (m : MethodId) (p0 : Int32) : entryFrame m #[(.int p0)] 1 = mkF m 0 #[.val (.int p0)] [] := by first | (simp [entryFrame, mkF, argsToLocals, Value.category]; done) | rfl
def Q10 (Z : State) (p0 : Int32) (h0 : Heap) (n0 : Nat) (v : Option Value) (h : Heap) (L : List Loc) : Prop := v = some (.int (own_cnt p0)) ∧ Fr n0 L ∧ h = h0
set_option maxRecDepth 65536 in
set_option maxHeartbeats 40000000 in
theorem rm10 (l : Launch) (Z : State) (ar : Array Value) (hw : ∀ d ∈ tables_1, d.before ar Z = true) (ws : List Jvm.Cond) (p0 : Int32) (h0 : Heap) (n0 : Nat) (Z0 : n0 ≤ h0.size) :
    MetFree l (⟨"com/example/winnowfold/winnowfold/math/DenseVectorNonZeroCountPinLaw", "counts", "(I)I"⟩ : MethodName) (head1 (Jvm.Cond.code (⟨"com/example/winnowfold/winnowfold/math/DenseVectorNonZeroCountPinLaw", "counts", "(I)I"⟩ : MethodName) method_4_code 1 (some .int) :: ws) ({ frames := 0, cells := 0, slots := 0, locals := 0 } : Room)) (fun a U => a = #[(.int p0)] ∧ Z.Warmed39 U.vm ∧ U.heap = h0) (fun _ _ _ _ _ => True) (fun _ U o U' => ∃ v L, o = .returned v ∧ Q10 Z p0 h0 n0 v U'.heap L ∧ FrameEnd U o U' L ({ frames := 0, cells := 0, slots := 0, locals := 0 } : Room).cells ({ frames := 0, cells := 0, slots := 0, locals := 0 } : Room).slots) := by
  refine MetFree.of_bodySF (plainFor_of_name pn10) hisR ?_
  intro p e s m args below meth c s₁ Bd hml0 hP hK
  obtain ⟨rfl, hZ, hh⟩ := hP
  have hx := Bd.exec
  have hby := Bd.bytes
  have hlk := Bd.notSynchronized
  have hml : c.maxLocals = 1 := hml0
  have hown : s.vm.findClass "com/example/winnowfold/winnowfold/math/DenseVectorNonZeroCountPinLaw" = some m.cls := findClass_of_methodNamed Bd.named
  have hnm := (name_of_methodNamed Bd.named Bd.method).1
  have X0 : Stand p l e ({ frames := 0, cells := 0, slots := 0, locals := 0 } : Room) s m #[(.int p0)] below meth c s₁ [] 0 0 := Stand.of_body Bd
  have e0 : s₁.heap = h0 := by rw [← hh, Bd.state]; rfl
  have N0 := Fr.nil n0
  have K0 := Keep.refl h0 []
  refine own_enter (Q := Q10 Z p0 h0 n0) (ef10 m p0) ?_
  refine own_st (T' := s₁) (g' := (mkF m 4 #[.val (.int p0)] [(.int (2 : Int32)), (.int (p0 &&& (3 : Int32)))])) (fun t k => ?_) ?_
  · show Steps p.tables e below (s₁.setTop (mkF m 0 #[.val (.int p0)] [])) t
    refine XS.iloadN X0.here hx rfl (hb hby d10_0) rfl ?_
    show Steps p.tables e below (s₁.setTop (mkF m 1 #[.val (.int p0)] [(.int p0)])) t
    refine XS.iconst X0.here hx rfl (hb hby d10_1) ?_
    show Steps p.tables e below (s₁.setTop (mkF m 2 #[.val (.int p0)] [(.int (3 : Int32)), (.int p0)])) t
    refine XS.iand X0.here hx rfl (hb hby d10_2) rfl ?_
    show Steps p.tables e below (s₁.setTop (mkF m 3 #[.val (.int p0)] [(.int (p0 &&& (3 : Int32)))])) t
    refine XS.iconst X0.here hx rfl (hb hby d10_3) ?_
    exact k
  by_cases hc4_1 : (p0 &&& (3 : Int32)) < (2 : Int32)
  · refine own_st (T' := s₁) (g' := (mkF m 12 #[.val (.int p0)] [(.int (0 : Int32))])) (fun t k => ?_) ?_
    · show Steps p.tables e below (s₁.setTop (mkF m 4 #[.val (.int p0)] [(.int (2 : Int32)), (.int (p0 &&& (3 : Int32)))])) t
      refine XS.icmpYes X0.here hx rfl (pc0 := 4) (pc' := 11) rfl (hb hby d10_4) rfl (tlt hc4_1).1 (by decide) (by decide) ?_
      show Steps p.tables e below (s₁.setTop (mkF m 11 #[.val (.int p0)] [])) t
      refine XS.iconst X0.here hx rfl (hb hby d10_11) ?_
      exact k
    refine own_retI X0 hx hlk Bd.returns (hb hby d10_12) (by decide) (by decide) ?_
    show Q10 Z p0 h0 n0 (some (.int (0 : Int32))) s₁.heap _
    rw [(e0 : s₁.heap = h0)]
    exact ⟨congrArg (fun z => some (Value.int z)) (by unfold own_cnt; rw [if_pos hc4_1]), N0, rfl⟩
  · refine own_st (T' := s₁) (g' := (mkF m 12 #[.val (.int p0)] [(.int (1 : Int32))])) (fun t k => ?_) ?_
    · show Steps p.tables e below (s₁.setTop (mkF m 4 #[.val (.int p0)] [(.int (2 : Int32)), (.int (p0 &&& (3 : Int32)))])) t
      refine XS.icmpNo X0.here hx rfl (hb hby d10_4) rfl (flt hc4_1).1 ?_
      show Steps p.tables e below (s₁.setTop (mkF m 7 #[.val (.int p0)] [])) t
      refine XS.iconst X0.here hx rfl (hb hby d10_7) ?_
      show Steps p.tables e below (s₁.setTop (mkF m 8 #[.val (.int p0)] [(.int (1 : Int32))])) t
      refine XS.goto X0.here hx rfl (pc0 := 8) (pc' := 12) rfl (hb hby d10_8) (by decide) (by decide) ?_
      exact k
    refine own_retI X0 hx hlk Bd.returns (hb hby d10_12) (by decide) (by decide) ?_
    show Q10 Z p0 h0 n0 (some (.int (1 : Int32))) s₁.heap _
    rw [(e0 : s₁.heap = h0)]
    exact ⟨congrArg (fun z => some (Value.int z)) (by unfold own_cnt; rw [if_neg hc4_1]), N0, rfl⟩
theorem d4_0 : decode prog_52_method_6_code 0 = .ok (.iconst 0, 1) := by decide +kernel
theorem d4_1 : decode prog_52_method_6_code 1 = .ok (.istore_n 1, 1) := by decide +kernel
theorem d4_2 : decode prog_52_method_6_code 2 = .ok (.aload_n 0, 1) := by decide +kernel
theorem d4_3 : decode prog_52_method_6_code 3 = .ok (.getfield 7, 3) := by decide +kernel
theorem d4_6 : decode prog_52_method_6_code 6 = .ok (.astore_n 2, 1) := by decide +kernel
theorem d4_7 : decode prog_52_method_6_code 7 = .ok (.aload_n 2, 1) := by decide +kernel
theorem d4_8 : decode prog_52_method_6_code 8 = .ok (.arraylength, 1) := by decide +kernel
theorem d4_9 : decode prog_52_method_6_code 9 = .ok (.istore_n 3, 1) := by decide +kernel
theorem d4_10 : decode prog_52_method_6_code 10 = .ok (.iconst 0, 1) := by decide +kernel
theorem d4_11 : decode prog_52_method_6_code 11 = .ok (.istore 4, 2) := by decide +kernel
theorem d4_13 : decode prog_52_method_6_code 13 = .ok (.iload 4, 2) := by decide +kernel
theorem d4_15 : decode prog_52_method_6_code 15 = .ok (.iload_n 3, 1) := by decide +kernel
theorem d4_16 : decode prog_52_method_6_code 16 = .ok (.if_icmp .ge 25, 3) := by decide +kernel
theorem d4_41 : decode prog_52_method_6_code 41 = .ok (.iload_n 1, 1) := by decide +kernel
theorem d4_42 : decode prog_52_method_6_code 42 = .ok (.ireturn, 1) := by decide +kernel
theorem pnz0 : plainName "com/example/winnowfold/winnowfold/math/DenseVector" = true := by first | (simp [plainName, overriddenIn]; done) | decide +kernel
theorem efz0 (m : MethodId) (a0 : Addr) : entryFrame m #[(.ref a0)] 7 = mkF m 0 #[.val (.ref a0), .unset, .unset, .unset, .unset, .unset, .unset] [] := by first | (simp [entryFrame, mkF, argsToLocals, Value.category]; done) | rfl
def Qz0 (Z : State) (a0 : Addr) (w_values_a0 : Addr) (kk_w_values_a0 : ClassId) (h0 : Heap) (n0 : Nat) (v : Option Value) (h : Heap) (L : List Loc) : Prop := v = some (.int (0 : Int32)) ∧ Fr n0 L ∧ h = h0
set_option maxRecDepth 65536 in
set_option maxHeartbeats 40000000 in
theorem rmz0 (l : Launch) (Z : State) (ar : Array Value) (hw : ∀ d ∈ tables_1, d.before ar Z = true) (ws : List Jvm.Cond) (a0 : Addr) (w_values_a0 : Addr) (kk_w_values_a0 : ClassId) (h0 : Heap) (n0 : Nat) (Z0 : n0 ≤ h0.size) (E_a0 : Exa Z h0 a0 "com/example/winnowfold/winnowfold/math/DenseVector") (F_values_a0 : Fld Z h0 a0 "com/example/winnowfold/winnowfold/math/DenseVector" "values" "[D" (.ref w_values_a0)) (V_w_values_a0 : Arv Z h0 w_values_a0 kk_w_values_a0 .double (0 : Int32) [] (.double (0 : UInt64))) :
    MetFree l (⟨"com/example/winnowfold/winnowfold/math/DenseVector", "nonZeroCount", "()I"⟩ : MethodName) (head1 (Jvm.Cond.code (⟨"com/example/winnowfold/winnowfold/math/DenseVector", "nonZeroCount", "()I"⟩ : MethodName) prog_52_method_6_code 7 (some .int) :: ws) ({ frames := 0, cells := 0, slots := 0, locals := 0 } : Room)) (fun a U => a = #[(.ref a0)] ∧ Z.Warmed39 U.vm ∧ U.heap = h0) (fun _ _ _ _ _ => True) (fun _ U o U' => ∃ v L, o = .returned v ∧ Qz0 Z a0 w_values_a0 kk_w_values_a0 h0 n0 v U'.heap L ∧ FrameEnd U o U' L ({ frames := 0, cells := 0, slots := 0, locals := 0 } : Room).cells ({ frames := 0, cells := 0, slots := 0, locals := 0 } : Room).slots) := by
  refine MetFree.of_bodySF (plainFor_of_name pnz0) hisR ?_
  intro p e s m args below meth c s₁ Bd hml0 hP hK
  obtain ⟨rfl, hZ, hh⟩ := hP
  have hx := Bd.exec
  have hby := Bd.bytes
  have hlk := Bd.notSynchronized
  have hml : c.maxLocals = 7 := hml0
  have hown : s.vm.findClass "com/example/winnowfold/winnowfold/math/DenseVector" = some m.cls := findClass_of_methodNamed Bd.named
  have hnm := (name_of_methodNamed Bd.named Bd.method).1
  have X0 : Stand p l e ({ frames := 0, cells := 0, slots := 0, locals := 0 } : Room) s m #[(.ref a0)] below meth c s₁ [] 0 0 := Stand.of_body Bd
  have e0 : s₁.heap = h0 := by rw [← hh, Bd.state]; rfl
  have N0 := Fr.nil n0
  have K0 := Keep.refl h0 []
  refine own_enter (Q := Qz0 Z a0 w_values_a0 kk_w_values_a0 h0 n0) (efz0 m a0) ?_
  refine own_st (T' := s₁) (g' := (mkF m 3 #[.val (.ref a0), .val (.int (0 : Int32)), .unset, .unset, .unset, .unset, .unset] [(.ref a0)])) (fun t k => ?_) ?_
  · show Steps p.tables e below (s₁.setTop (mkF m 0 #[.val (.ref a0), .unset, .unset, .unset, .unset, .unset, .unset] [])) t
    refine XS.iconst X0.here hx rfl (hb hby d4_0) ?_
    show Steps p.tables e below (s₁.setTop (mkF m 1 #[.val (.ref a0), .unset, .unset, .unset, .unset, .unset, .unset] [(.int (0 : Int32))])) t
    refine XS.istoreN X0.here hx rfl (hb hby d4_1) rfl (l' := #[.val (.ref a0), .val (.int (0 : Int32)), .unset, .unset, .unset, .unset, .unset]) rfl ?_
    show Steps p.tables e below (s₁.setTop (mkF m 2 #[.val (.ref a0), .val (.int (0 : Int32)), .unset, .unset, .unset, .unset, .unset] [])) t
    refine XS.aloadN X0.here hx rfl (hb hby d4_2) rfl rfl ?_
    exact k
  obtain ⟨T1, X1, e1, st1⟩ := getF X0 hx hZ hown (host := "") (Or.inl (hw _ (List.mem_of_getElem? (i := 18) rfl))) Via.refl e0 F_values_a0 (g := (mkF m 3 #[.val (.ref a0), .val (.int (0 : Int32)), .unset, .unset, .unset, .unset, .unset] [(.ref a0)])) rfl rfl (hb hby d4_3)
  refine own_st (T' := T1) (g' := (mkF m 6 #[.val (.ref a0), .val (.int (0 : Int32)), .unset, .unset, .unset, .unset, .unset] [(.ref w_values_a0)])) st1 ?_
  refine own_st (T' := T1) (g' := (mkF m 8 #[.val (.ref a0), .val (.int (0 : Int32)), .val (.ref w_values_a0), .unset, .unset, .unset, .unset] [(.ref w_values_a0)])) (fun t k => ?_) ?_
  · show Steps p.tables e below (T1.setTop (mkF m 6 #[.val (.ref a0), .val (.int (0 : Int32)), .unset, .unset, .unset, .unset, .unset] [(.ref w_values_a0)])) t
    refine XS.astoreN X1.here hx rfl (hb hby d4_6) rfl rfl (l' := #[.val (.ref a0), .val (.int (0 : Int32)), .val (.ref w_values_a0), .unset, .unset, .unset, .unset]) rfl ?_
    show Steps p.tables e below (T1.setTop (mkF m 7 #[.val (.ref a0), .val (.int (0 : Int32)), .val (.ref w_values_a0), .unset, .unset, .unset, .unset] [])) t
    refine XS.aloadN X1.here hx rfl (hb hby d4_7) rfl rfl ?_
    exact k
  obtain ⟨c2, r2a, -, r2c, r2d, -, -⟩ := id V_w_values_a0
  refine own_st (T' := T1) (g' := (mkF m 42 #[.val (.ref a0), .val (.int (0 : Int32)), .val (.ref w_values_a0), .val (.int (0 : Int32)), .val (.int (0 : Int32)), .unset, .unset] [(.int (0 : Int32))])) (fun t k => ?_) ?_
  · show Steps p.tables e below (T1.setTop (mkF m 8 #[.val (.ref a0), .val (.int (0 : Int32)), .val (.ref w_values_a0), .unset, .unset, .unset, .unset] [(.ref w_values_a0)])) t
    refine X1.arraylength hx (by rw [e1]; exact r2a.1) (State.isArrayOf_alike hZ.alike r2a.2.1) (g := (mkF m 8 #[.val (.ref a0), .val (.int (0 : Int32)), .val (.ref w_values_a0), .unset, .unset, .unset, .unset] [(.ref w_values_a0)])) rfl rfl (hb hby d4_8) _ ?_
    rw [len_of r2c r2d]
    show Steps p.tables e below (T1.setTop (mkF m 9 #[.val (.ref a0), .val (.int (0 : Int32)), .val (.ref w_values_a0), .unset, .unset, .unset, .unset] [(.int (0 : Int32))])) t
    refine XS.istoreN X1.here hx rfl (hb hby d4_9) rfl (l' := #[.val (.ref a0), .val (.int (0 : Int32)), .val (.ref w_values_a0), .val (.int (0 : Int32)), .unset, .unset, .unset]) rfl ?_
    show Steps p.tables e below (T1.setTop (mkF m 10 #[.val (.ref a0), .val (.int (0 : Int32)), .val (.ref w_values_a0), .val (.int (0 : Int32)), .unset, .unset, .unset] [])) t
    refine XS.iconst X1.here hx rfl (hb hby d4_10) ?_
    show Steps p.tables e below (T1.setTop (mkF m 11 #[.val (.ref a0), .val (.int (0 : Int32)), .val (.ref w_values_a0), .val (.int (0 : Int32)), .unset, .unset, .unset] [(.int (0 : Int32))])) t
    refine XS.istore X1.here hx rfl (hb hby d4_11) rfl (l' := #[.val (.ref a0), .val (.int (0 : Int32)), .val (.ref w_values_a0), .val (.int (0 : Int32)), .val (.int (0 : Int32)), .unset, .unset]) rfl ?_
    show Steps p.tables e below (T1.setTop (mkF m 13 #[.val (.ref a0), .val (.int (0 : Int32)), .val (.ref w_values_a0), .val (.int (0 : Int32)), .val (.int (0 : Int32)), .unset, .unset] [])) t
    refine XS.iload X1.here hx rfl (hb hby d4_13) rfl ?_
    show Steps p.tables e below (T1.setTop (mkF m 15 #[.val (.ref a0), .val (.int (0 : Int32)), .val (.ref w_values_a0), .val (.int (0 : Int32)), .val (.int (0 : Int32)), .unset, .unset] [(.int (0 : Int32))])) t
    refine XS.iloadN X1.here hx rfl (hb hby d4_15) rfl ?_
    show Steps p.tables e below (T1.setTop (mkF m 16 #[.val (.ref a0), .val (.int (0 : Int32)), .val (.ref w_values_a0), .val (.int (0 : Int32)), .val (.int (0 : Int32)), .unset, .unset] [(.int (0 : Int32)), (.int (0 : Int32))])) t
    refine XS.icmpYes X1.here hx rfl (pc0 := 16) (pc' := 41) rfl (hb hby d4_16) rfl (by decide) (by decide) (by decide) ?_
    show Steps p.tables e below (T1.setTop (mkF m 41 #[.val (.ref a0), .val (.int (0 : Int32)), .val (.ref w_values_a0), .val (.int (0 : Int32)), .val (.int (0 : Int32)), .unset, .unset] [])) t
    refine XS.iloadN X1.here hx rfl (hb hby d4_41) rfl ?_
    exact k
  refine own_retI X1 hx hlk Bd.returns (hb hby d4_42) (by decide) (by decide) ?_
  show Qz0 Z a0 w_values_a0 kk_w_values_a0 h0 n0 (some (.int (0 : Int32))) T1.heap _
  rw [(e1 : T1.heap = h0)]
  exact ⟨congrArg (fun z => some (Value.int z)) (rfl), N0, rfl⟩
theorem d4_19 : decode prog_52_method_6_code 19 = .ok (.aload_n 2, 1) := by decide +kernel
theorem d4_20 : decode prog_52_method_6_code 20 = .ok (.iload 4, 2) := by decide +kernel
theorem d4_22 : decode prog_52_method_6_code 22 = .ok (.daload, 1) := by decide +kernel
theorem d4_23 : decode prog_52_method_6_code 23 = .ok (.dstore 5, 2) := by decide +kernel
theorem d4_25 : decode prog_52_method_6_code 25 = .ok (.dload 5, 2) := by decide +kernel
theorem d4_27 : decode prog_52_method_6_code 27 = .ok (.dconst 0, 1) := by decide +kernel
theorem d4_28 : decode prog_52_method_6_code 28 = .ok (.dcmp .l, 1) := by decide +kernel
theorem d4_29 : decode prog_52_method_6_code 29 = .ok (.ifCond .eq 6, 3) := by decide +kernel
theorem d4_32 : decode prog_52_method_6_code 32 = .ok (.iinc 1 1, 3) := by decide +kernel
theorem d4_35 : decode prog_52_method_6_code 35 = .ok (.iinc 4 1, 3) := by decide +kernel
theorem d4_38 : decode prog_52_method_6_code 38 = .ok (.goto (-25), 3) := by decide +kernel
theorem pnz1 : plainName "com/example/winnowfold/winnowfold/math/DenseVector" = true := by first | (simp [plainName, overriddenIn]; done) | decide +kernel
theorem efz1 (m : MethodId) (a0 : Addr) : entryFrame m #[(.ref a0)] 7 = mkF m 0 #[.val (.ref a0), .unset, .unset, .unset, .unset, .unset, .unset] [] := by first | (simp [entryFrame, mkF, argsToLocals, Value.category]; done) | rfl
def Qz1 (Z : State) (a0 : Addr) (w_values_a0 : Addr) (kk_w_values_a0 : ClassId) (el0 : UInt64) (h0 : Heap) (n0 : Nat) (v : Option Value) (h : Heap) (L : List Loc) : Prop := v = some (.int (own_z (0 : Int32) el0)) ∧ Fr n0 L ∧ h = h0
set_option maxRecDepth 65536 in
set_option maxHeartbeats 40000000 in
theorem rmz1 (l : Launch) (Z : State) (ar : Array Value) (hw : ∀ d ∈ tables_1, d.before ar Z = true) (ws : List Jvm.Cond) (a0 : Addr) (w_values_a0 : Addr) (kk_w_values_a0 : ClassId) (el0 : UInt64) (h0 : Heap) (n0 : Nat) (Z0 : n0 ≤ h0.size) (E_a0 : Exa Z h0 a0 "com/example/winnowfold/winnowfold/math/DenseVector") (F_values_a0 : Fld Z h0 a0 "com/example/winnowfold/winnowfold/math/DenseVector" "values" "[D" (.ref w_values_a0)) (V_w_values_a0 : Arv Z h0 w_values_a0 kk_w_values_a0 .double (1 : Int32) [(.double el0)] (.double (0 : UInt64))) :
    MetFree l (⟨"com/example/winnowfold/winnowfold/math/DenseVector", "nonZeroCount", "()I"⟩ : MethodName) (head1 (Jvm.Cond.code (⟨"com/example/winnowfold/winnowfold/math/DenseVector", "nonZeroCount", "()I"⟩ : MethodName) prog_52_method_6_code 7 (some .int) :: ws) ({ frames := 0, cells := 0, slots := 0, locals := 0 } : Room)) (fun a U => a = #[(.ref a0)] ∧ Z.Warmed39 U.vm ∧ U.heap = h0) (fun _ _ _ _ _ => True) (fun _ U o U' => ∃ v L, o = .returned v ∧ Qz1 Z a0 w_values_a0 kk_w_values_a0 el0 h0 n0 v U'.heap L ∧ FrameEnd U o U' L ({ frames := 0, cells := 0, slots := 0, locals := 0 } : Room).cells ({ frames := 0, cells := 0, slots := 0, locals := 0 } : Room).slots) := by
  refine MetFree.of_bodySF (plainFor_of_name pnz1) hisR ?_
  intro p e s m args below meth c s₁ Bd hml0 hP hK
  obtain ⟨rfl, hZ, hh⟩ := hP
  have hx := Bd.exec
  have hby := Bd.bytes
  have hlk := Bd.notSynchronized
  have hml : c.maxLocals = 7 := hml0
  have hown : s.vm.findClass "com/example/winnowfold/winnowfold/math/DenseVector" = some m.cls := findClass_of_methodNamed Bd.named
  have hnm := (name_of_methodNamed Bd.named Bd.method).1
  have X0 : Stand p l e ({ frames := 0, cells := 0, slots := 0, locals := 0 } : Room) s m #[(.ref a0)] below meth c s₁ [] 0 0 := Stand.of_body Bd
  have e0 : s₁.heap = h0 := by rw [← hh, Bd.state]; rfl
  have N0 := Fr.nil n0
  have K0 := Keep.refl h0 []
  refine own_enter (Q := Qz1 Z a0 w_values_a0 kk_w_values_a0 el0 h0 n0) (efz1 m a0) ?_
  refine own_st (T' := s₁) (g' := (mkF m 3 #[.val (.ref a0), .val (.int (0 : Int32)), .unset, .unset, .unset, .unset, .unset] [(.ref a0)])) (fun t k => ?_) ?_
  · show Steps p.tables e below (s₁.setTop (mkF m 0 #[.val (.ref a0), .unset, .unset, .unset, .unset, .unset, .unset] [])) t
    refine XS.iconst X0.here hx rfl (hb hby d4_0) ?_
    show Steps p.tables e below (s₁.setTop (mkF m 1 #[.val (.ref a0), .unset, .unset, .unset, .unset, .unset, .unset] [(.int (0 : Int32))])) t
    refine XS.istoreN X0.here hx rfl (hb hby d4_1) rfl (l' := #[.val (.ref a0), .val (.int (0 : Int32)), .unset, .unset, .unset, .unset, .unset]) rfl ?_
    show Steps p.tables e below (s₁.setTop (mkF m 2 #[.val (.ref a0), .val (.int (0 : Int32)), .unset, .unset, .unset, .unset, .unset] [])) t
    refine XS.aloadN X0.here hx rfl (hb hby d4_2) rfl rfl ?_
    exact k
  obtain ⟨T1, X1, e1, st1⟩ := getF X0 hx hZ hown (host := "") (Or.inl (hw _ (List.mem_of_getElem? (i := 18) rfl))) Via.refl e0 F_values_a0 (g := (mkF m 3 #[.val (.ref a0), .val (.int (0 : Int32)), .unset, .unset, .unset, .unset, .unset] [(.ref a0)])) rfl rfl (hb hby d4_3)
  refine own_st (T' := T1) (g' := (mkF m 6 #[.val (.ref a0), .val (.int (0 : Int32)), .unset, .unset, .unset, .unset, .unset] [(.ref w_values_a0)])) st1 ?_
  refine own_st (T' := T1) (g' := (mkF m 8 #[.val (.ref a0), .val (.int (0 : Int32)), .val (.ref w_values_a0), .unset, .unset, .unset, .unset] [(.ref w_values_a0)])) (fun t k => ?_) ?_
  · show Steps p.tables e below (T1.setTop (mkF m 6 #[.val (.ref a0), .val (.int (0 : Int32)), .unset, .unset, .unset, .unset, .unset] [(.ref w_values_a0)])) t
    refine XS.astoreN X1.here hx rfl (hb hby d4_6) rfl rfl (l' := #[.val (.ref a0), .val (.int (0 : Int32)), .val (.ref w_values_a0), .unset, .unset, .unset, .unset]) rfl ?_
    show Steps p.tables e below (T1.setTop (mkF m 7 #[.val (.ref a0), .val (.int (0 : Int32)), .val (.ref w_values_a0), .unset, .unset, .unset, .unset] [])) t
    refine XS.aloadN X1.here hx rfl (hb hby d4_7) rfl rfl ?_
    exact k
  obtain ⟨c2, r2a, -, r2c, r2d, -, -⟩ := id V_w_values_a0
  refine own_st (T' := T1) (g' := (mkF m 22 #[.val (.ref a0), .val (.int (0 : Int32)), .val (.ref w_values_a0), .val (.int (1 : Int32)), .val (.int (0 : Int32)), .unset, .unset] [(.int (0 : Int32)), (.ref w_values_a0)])) (fun t k => ?_) ?_
  · show Steps p.tables e below (T1.setTop (mkF m 8 #[.val (.ref a0), .val (.int (0 : Int32)), .val (.ref w_values_a0), .unset, .unset, .unset, .unset] [(.ref w_values_a0)])) t
    refine X1.arraylength hx (by rw [e1]; exact r2a.1) (State.isArrayOf_alike hZ.alike r2a.2.1) (g := (mkF m 8 #[.val (.ref a0), .val (.int (0 : Int32)), .val (.ref w_values_a0), .unset, .unset, .unset, .unset] [(.ref w_values_a0)])) rfl rfl (hb hby d4_8) _ ?_
    rw [len_of r2c r2d]
    show Steps p.tables e below (T1.setTop (mkF m 9 #[.val (.ref a0), .val (.int (0 : Int32)), .val (.ref w_values_a0), .unset, .unset, .unset, .unset] [(.int (1 : Int32))])) t
    refine XS.istoreN X1.here hx rfl (hb hby d4_9) rfl (l' := #[.val (.ref a0), .val (.int (0 : Int32)), .val (.ref w_values_a0), .val (.int (1 : Int32)), .unset, .unset, .unset]) rfl ?_
    show Steps p.tables e below (T1.setTop (mkF m 10 #[.val (.ref a0), .val (.int (0 : Int32)), .val (.ref w_values_a0), .val (.int (1 : Int32)), .unset, .unset, .unset] [])) t
    refine XS.iconst X1.here hx rfl (hb hby d4_10) ?_
    show Steps p.tables e below (T1.setTop (mkF m 11 #[.val (.ref a0), .val (.int (0 : Int32)), .val (.ref w_values_a0), .val (.int (1 : Int32)), .unset, .unset, .unset] [(.int (0 : Int32))])) t
    refine XS.istore X1.here hx rfl (hb hby d4_11) rfl (l' := #[.val (.ref a0), .val (.int (0 : Int32)), .val (.ref w_values_a0), .val (.int (1 : Int32)), .val (.int (0 : Int32)), .unset, .unset]) rfl ?_
    show Steps p.tables e below (T1.setTop (mkF m 13 #[.val (.ref a0), .val (.int (0 : Int32)), .val (.ref w_values_a0), .val (.int (1 : Int32)), .val (.int (0 : Int32)), .unset, .unset] [])) t
    refine XS.iload X1.here hx rfl (hb hby d4_13) rfl ?_
    show Steps p.tables e below (T1.setTop (mkF m 15 #[.val (.ref a0), .val (.int (0 : Int32)), .val (.ref w_values_a0), .val (.int (1 : Int32)), .val (.int (0 : Int32)), .unset, .unset] [(.int (0 : Int32))])) t
    refine XS.iloadN X1.here hx rfl (hb hby d4_15) rfl ?_
    show Steps p.tables e below (T1.setTop (mkF m 16 #[.val (.ref a0), .val (.int (0 : Int32)), .val (.ref w_values_a0), .val (.int (1 : Int32)), .val (.int (0 : Int32)), .unset, .unset] [(.int (1 : Int32)), (.int (0 : Int32))])) t
    refine XS.icmpNo X1.here hx rfl (hb hby d4_16) rfl (by decide) ?_
    show Steps p.tables e below (T1.setTop (mkF m 19 #[.val (.ref a0), .val (.int (0 : Int32)), .val (.ref w_values_a0), .val (.int (1 : Int32)), .val (.int (0 : Int32)), .unset, .unset] [])) t
    refine XS.aloadN X1.here hx rfl (hb hby d4_19) rfl rfl ?_
    show Steps p.tables e below (T1.setTop (mkF m 20 #[.val (.ref a0), .val (.int (0 : Int32)), .val (.ref w_values_a0), .val (.int (1 : Int32)), .val (.int (0 : Int32)), .unset, .unset] [(.ref w_values_a0)])) t
    refine XS.iload X1.here hx rfl (hb hby d4_20) rfl ?_
    exact k
  obtain ⟨c3, r3a, r3b, r3c, r3d, r3e, r3f⟩ := id V_w_values_a0
  have i3 : ¬ ((0 : Int32) < 0 ∨ c3.slots.size ≤ ((0 : Int32)).toNatClampNeg) := inb_of r3c ⟨by decide, by decide⟩
  have y3 : c3.slots[((0 : Int32)).toNatClampNeg]? = some (.double el0) := r3e.at i3 rfl
  refine own_st (T' := T1) (g' := (mkF m 25 #[.val (.ref a0), .val (.int (0 : Int32)), .val (.ref w_values_a0), .val (.int (1 : Int32)), .val (.int (0 : Int32)), .val (.double el0), .second] [])) (fun t k => ?_) ?_
  · show Steps p.tables e below (T1.setTop (mkF m 22 #[.val (.ref a0), .val (.int (0 : Int32)), .val (.ref w_values_a0), .val (.int (1 : Int32)), .val (.int (0 : Int32)), .unset, .unset] [(.int (0 : Int32)), (.ref w_values_a0)])) t
    refine X1.daload hx (j := (0 : Int32)) (v := (.double el0)) (by rw [e1]; exact r3a.1) (State.isArrayOf_alike hZ.alike r3a.2.1) r3a.2.2 i3 y3 (g := (mkF m 22 #[.val (.ref a0), .val (.int (0 : Int32)), .val (.ref w_values_a0), .val (.int (1 : Int32)), .val (.int (0 : Int32)), .unset, .unset] [(.int (0 : Int32)), (.ref w_values_a0)])) rfl rfl (hb hby d4_22) _ ?_
    show Steps p.tables e below (T1.setTop (mkF m 23 #[.val (.ref a0), .val (.int (0 : Int32)), .val (.ref w_values_a0), .val (.int (1 : Int32)), .val (.int (0 : Int32)), .unset, .unset] [(.double el0)])) t
    refine XS.dstore X1.here hx rfl (hb hby d4_23) rfl (l' := #[.val (.ref a0), .val (.int (0 : Int32)), .val (.ref w_values_a0), .val (.int (1 : Int32)), .val (.int (0 : Int32)), .val (.double el0), .second]) rfl ?_
    exact k
  have hJ35_0 : ∀ (c0 : Int32) (hc0 : c0 = own_z (0 : Int32) el0), own_G p e below s (Qz1 Z a0 w_values_a0 kk_w_values_a0 el0 h0 n0) (({ frames := 0, cells := 0, slots := 0, locals := 0 } : Room)).cells (({ frames := 0, cells := 0, slots := 0, locals := 0 } : Room)).slots T1 (mkF m 35 #[.val (.ref a0), .val (.int c0), .val (.ref w_values_a0), .val (.int (1 : Int32)), .val (.int (0 : Int32)), .val (.double el0), .second] []) := by
    intro c0 hc0
    refine own_st (T' := T1) (g' := (mkF m 42 #[.val (.ref a0), .val (.int c0), .val (.ref w_values_a0), .val (.int (1 : Int32)), .val (.int (1 : Int32)), .val (.double el0), .second] [(.int c0)])) (fun t k => ?_) ?_
    · show Steps p.tables e below (T1.setTop (mkF m 35 #[.val (.ref a0), .val (.int c0), .val (.ref w_values_a0), .val (.int (1 : Int32)), .val (.int (0 : Int32)), .val (.double el0), .second] [])) t
      refine XS.iinc X1.here hx rfl (hb hby d4_35) rfl (l' := #[.val (.ref a0), .val (.int c0), .val (.ref w_values_a0), .val (.int (1 : Int32)), .val (.int (1 : Int32)), .val (.double el0), .second]) rfl ?_
      show Steps p.tables e below (T1.setTop (mkF m 38 #[.val (.ref a0), .val (.int c0), .val (.ref w_values_a0), .val (.int (1 : Int32)), .val (.int (1 : Int32)), .val (.double el0), .second] [])) t
      refine XS.goto X1.here hx rfl (pc0 := 38) (pc' := 13) rfl (hb hby d4_38) (by decide) (by decide) ?_
      show Steps p.tables e below (T1.setTop (mkF m 13 #[.val (.ref a0), .val (.int c0), .val (.ref w_values_a0), .val (.int (1 : Int32)), .val (.int (1 : Int32)), .val (.double el0), .second] [])) t
      refine XS.iload X1.here hx rfl (hb hby d4_13) rfl ?_
      show Steps p.tables e below (T1.setTop (mkF m 15 #[.val (.ref a0), .val (.int c0), .val (.ref w_values_a0), .val (.int (1 : Int32)), .val (.int (1 : Int32)), .val (.double el0), .second] [(.int (1 : Int32))])) t
      refine XS.iloadN X1.here hx rfl (hb hby d4_15) rfl ?_
      show Steps p.tables e below (T1.setTop (mkF m 16 #[.val (.ref a0), .val (.int c0), .val (.ref w_values_a0), .val (.int (1 : Int32)), .val (.int (1 : Int32)), .val (.double el0), .second] [(.int (1 : Int32)), (.int (1 : Int32))])) t
      refine XS.icmpYes X1.here hx rfl (pc0 := 16) (pc' := 41) rfl (hb hby d4_16) rfl (by decide) (by decide) (by decide) ?_
      show Steps p.tables e below (T1.setTop (mkF m 41 #[.val (.ref a0), .val (.int c0), .val (.ref w_values_a0), .val (.int (1 : Int32)), .val (.int (1 : Int32)), .val (.double el0), .second] [])) t
      refine XS.iloadN X1.here hx rfl (hb hby d4_41) rfl ?_
      exact k
    refine own_retI X1 hx hlk Bd.returns (hb hby d4_42) (by decide) (by decide) ?_
    show Qz1 Z a0 w_values_a0 kk_w_values_a0 el0 h0 n0 (some (.int c0)) T1.heap _
    rw [(e1 : T1.heap = h0)]
    exact ⟨congrArg (fun z => some (Value.int z)) (by rw [hc0]), N0, rfl⟩
  refine own_st (T' := T1) (g' := (mkF m 29 #[.val (.ref a0), .val (.int (0 : Int32)), .val (.ref w_values_a0), .val (.int (1 : Int32)), .val (.int (0 : Int32)), .val (.double el0), .second] [(.int (cmpValue (FP.dcmp el0 (0 : UInt64)) .l))])) (fun t k => ?_) ?_
  · show Steps p.tables e below (T1.setTop (mkF m 25 #[.val (.ref a0), .val (.int (0 : Int32)), .val (.ref w_values_a0), .val (.int (1 : Int32)), .val (.int (0 : Int32)), .val (.double el0), .second] [])) t
    refine XS.dload X1.here hx rfl (hb hby d4_25) rfl ?_
    show Steps p.tables e below (T1.setTop (mkF m 27 #[.val (.ref a0), .val (.int (0 : Int32)), .val (.ref w_values_a0), .val (.int (1 : Int32)), .val (.int (0 : Int32)), .val (.double el0), .second] [(.double el0)])) t
    refine XS.dconst0 X1.here hx rfl (hb hby d4_27) rfl ?_
    show Steps p.tables e below (T1.setTop (mkF m 28 #[.val (.ref a0), .val (.int (0 : Int32)), .val (.ref w_values_a0), .val (.int (1 : Int32)), .val (.int (0 : Int32)), .val (.double el0), .second] [(.double (0 : UInt64)), (.double el0)])) t
    refine XS.dcmpS X1.here hx rfl (hb hby d4_28) rfl rfl ?_
    exact k
  by_cases hc29_4 : ifCond.holds .eq (cmpValue (FP.dcmp el0 (0 : UInt64)) .l) = true
  · refine own_st (T' := T1) (g' := (mkF m 35 #[.val (.ref a0), .val (.int (0 : Int32)), .val (.ref w_values_a0), .val (.int (1 : Int32)), .val (.int (0 : Int32)), .val (.double el0), .second] [])) (fun t k => ?_) ?_
    · show Steps p.tables e below (T1.setTop (mkF m 29 #[.val (.ref a0), .val (.int (0 : Int32)), .val (.ref w_values_a0), .val (.int (1 : Int32)), .val (.int (0 : Int32)), .val (.double el0), .second] [(.int (cmpValue (FP.dcmp el0 (0 : UInt64)) .l))])) t
      refine XS.ifYes X1.here hx rfl (pc0 := 29) (pc' := 35) rfl (hb hby d4_29) rfl hc29_4 (by decide) (by decide) ?_
      exact k
    exact hJ35_0 _ (own_zy _ hc29_4)
  · refine own_st (T' := T1) (g' := (mkF m 35 #[.val (.ref a0), .val (.int (1 : Int32)), .val (.ref w_values_a0), .val (.int (1 : Int32)), .val (.int (0 : Int32)), .val (.double el0), .second] [])) (fun t k => ?_) ?_
    · show Steps p.tables e below (T1.setTop (mkF m 29 #[.val (.ref a0), .val (.int (0 : Int32)), .val (.ref w_values_a0), .val (.int (1 : Int32)), .val (.int (0 : Int32)), .val (.double el0), .second] [(.int (cmpValue (FP.dcmp el0 (0 : UInt64)) .l))])) t
      refine XS.ifNo X1.here hx rfl (hb hby d4_29) rfl (Bool.eq_false_iff.mpr hc29_4) ?_
      show Steps p.tables e below (T1.setTop (mkF m 32 #[.val (.ref a0), .val (.int (0 : Int32)), .val (.ref w_values_a0), .val (.int (1 : Int32)), .val (.int (0 : Int32)), .val (.double el0), .second] [])) t
      refine XS.iinc X1.here hx rfl (hb hby d4_32) rfl (l' := #[.val (.ref a0), .val (.int (1 : Int32)), .val (.ref w_values_a0), .val (.int (1 : Int32)), .val (.int (0 : Int32)), .val (.double el0), .second]) rfl ?_
      exact k
    exact hJ35_0 _ (own_zn0 hc29_4)
theorem pnz2 : plainName "com/example/winnowfold/winnowfold/math/DenseVector" = true := by first | (simp [plainName, overriddenIn]; done) | decide +kernel
theorem efz2 (m : MethodId) (a0 : Addr) : entryFrame m #[(.ref a0)] 7 = mkF m 0 #[.val (.ref a0), .unset, .unset, .unset, .unset, .unset, .unset] [] := by first | (simp [entryFrame, mkF, argsToLocals, Value.category]; done) | rfl
def Qz2 (Z : State) (a0 : Addr) (w_values_a0 : Addr) (kk_w_values_a0 : ClassId) (el0 : UInt64) (el1 : UInt64) (h0 : Heap) (n0 : Nat) (v : Option Value) (h : Heap) (L : List Loc) : Prop := v = some (.int (own_z (own_z (0 : Int32) el0) el1)) ∧ Fr n0 L ∧ h = h0
set_option maxRecDepth 65536 in
set_option maxHeartbeats 40000000 in
theorem rmz2 (l : Launch) (Z : State) (ar : Array Value) (hw : ∀ d ∈ tables_1, d.before ar Z = true) (ws : List Jvm.Cond) (a0 : Addr) (w_values_a0 : Addr) (kk_w_values_a0 : ClassId) (el0 : UInt64) (el1 : UInt64) (h0 : Heap) (n0 : Nat) (Z0 : n0 ≤ h0.size) (E_a0 : Exa Z h0 a0 "com/example/winnowfold/winnowfold/math/DenseVector") (F_values_a0 : Fld Z h0 a0 "com/example/winnowfold/winnowfold/math/DenseVector" "values" "[D" (.ref w_values_a0)) (V_w_values_a0 : Arv Z h0 w_values_a0 kk_w_values_a0 .double (2 : Int32) [(.double el0), (.double el1)] (.double (0 : UInt64))) :
    MetFree l (⟨"com/example/winnowfold/winnowfold/math/DenseVector", "nonZeroCount", "()I"⟩ : MethodName) (head1 (Jvm.Cond.code (⟨"com/example/winnowfold/winnowfold/math/DenseVector", "nonZeroCount", "()I"⟩ : MethodName) prog_52_method_6_code 7 (some .int) :: ws) ({ frames := 0, cells := 0, slots := 0, locals := 0 } : Room)) (fun a U => a = #[(.ref a0)] ∧ Z.Warmed39 U.vm ∧ U.heap = h0) (fun _ _ _ _ _ => True) (fun _ U o U' => ∃ v L, o = .returned v ∧ Qz2 Z a0 w_values_a0 kk_w_values_a0 el0 el1 h0 n0 v U'.heap L ∧ FrameEnd U o U' L ({ frames := 0, cells := 0, slots := 0, locals := 0 } : Room).cells ({ frames := 0, cells := 0, slots := 0, locals := 0 } : Room).slots) := by
  refine MetFree.of_bodySF (plainFor_of_name pnz2) hisR ?_
  intro p e s m args below meth c s₁ Bd hml0 hP hK
  obtain ⟨rfl, hZ, hh⟩ := hP
  have hx := Bd.exec
  have hby := Bd.bytes
  have hlk := Bd.notSynchronized
  have hml : c.maxLocals = 7 := hml0
  have hown : s.vm.findClass "com/example/winnowfold/winnowfold/math/DenseVector" = some m.cls := findClass_of_methodNamed Bd.named
  have hnm := (name_of_methodNamed Bd.named Bd.method).1
  have X0 : Stand p l e ({ frames := 0, cells := 0, slots := 0, locals := 0 } : Room) s m #[(.ref a0)] below meth c s₁ [] 0 0 := Stand.of_body Bd
  have e0 : s₁.heap = h0 := by rw [← hh, Bd.state]; rfl
  have N0 := Fr.nil n0
  have K0 := Keep.refl h0 []
  refine own_enter (Q := Qz2 Z a0 w_values_a0 kk_w_values_a0 el0 el1 h0 n0) (efz2 m a0) ?_
  refine own_st (T' := s₁) (g' := (mkF m 3 #[.val (.ref a0), .val (.int (0 : Int32)), .unset, .unset, .unset, .unset, .unset] [(.ref a0)])) (fun t k => ?_) ?_
  · show Steps p.tables e below (s₁.setTop (mkF m 0 #[.val (.ref a0), .unset, .unset, .unset, .unset, .unset, .unset] [])) t
    refine XS.iconst X0.here hx rfl (hb hby d4_0) ?_
    show Steps p.tables e below (s₁.setTop (mkF m 1 #[.val (.ref a0), .unset, .unset, .unset, .unset, .unset, .unset] [(.int (0 : Int32))])) t
    refine XS.istoreN X0.here hx rfl (hb hby d4_1) rfl (l' := #[.val (.ref a0), .val (.int (0 : Int32)), .unset, .unset, .unset, .unset, .unset]) rfl ?_
    show Steps p.tables e below (s₁.setTop (mkF m 2 #[.val (.ref a0), .val (.int (0 : Int32)), .unset, .unset, .unset, .unset, .unset] [])) t
    refine XS.aloadN X0.here hx rfl (hb hby d4_2) rfl rfl ?_
    exact k
  obtain ⟨T1, X1, e1, st1⟩ := getF X0 hx hZ hown (host := "") (Or.inl (hw _ (List.mem_of_getElem? (i := 18) rfl))) Via.refl e0 F_values_a0 (g := (mkF m 3 #[.val (.ref a0), .val (.int (0 : Int32)), .unset, .unset, .unset, .unset, .unset] [(.ref a0)])) rfl rfl (hb hby d4_3)
  refine own_st (T' := T1) (g' := (mkF m 6 #[.val (.ref a0), .val (.int (0 : Int32)), .unset, .unset, .unset, .unset, .unset] [(.ref w_values_a0)])) st1 ?_
  refine own_st (T' := T1) (g' := (mkF m 8 #[.val (.ref a0), .val (.int (0 : Int32)), .val (.ref w_values_a0), .unset, .unset, .unset, .unset] [(.ref w_values_a0)])) (fun t k => ?_) ?_
  · show Steps p.tables e below (T1.setTop (mkF m 6 #[.val (.ref a0), .val (.int (0 : Int32)), .unset, .unset, .unset, .unset, .unset] [(.ref w_values_a0)])) t
    refine XS.astoreN X1.here hx rfl (hb hby d4_6) rfl rfl (l' := #[.val (.ref a0), .val (.int (0 : Int32)), .val (.ref w_values_a0), .unset, .unset, .unset, .unset]) rfl ?_
    show Steps p.tables e below (T1.setTop (mkF m 7 #[.val (.ref a0), .val (.int (0 : Int32)), .val (.ref w_values_a0), .unset, .unset, .unset, .unset] [])) t
    refine XS.aloadN X1.here hx rfl (hb hby d4_7) rfl rfl ?_
    exact k
  obtain ⟨c2, r2a, -, r2c, r2d, -, -⟩ := id V_w_values_a0
  refine own_st (T' := T1) (g' := (mkF m 22 #[.val (.ref a0), .val (.int (0 : Int32)), .val (.ref w_values_a0), .val (.int (2 : Int32)), .val (.int (0 : Int32)), .unset, .unset] [(.int (0 : Int32)), (.ref w_values_a0)])) (fun t k => ?_) ?_
  · show Steps p.tables e below (T1.setTop (mkF m 8 #[.val (.ref a0), .val (.int (0 : Int32)), .val (.ref w_values_a0), .unset, .unset, .unset, .unset] [(.ref w_values_a0)])) t
    refine X1.arraylength hx (by rw [e1]; exact r2a.1) (State.isArrayOf_alike hZ.alike r2a.2.1) (g := (mkF m 8 #[.val (.ref a0), .val (.int (0 : Int32)), .val (.ref w_values_a0), .unset, .unset, .unset, .unset] [(.ref w_values_a0)])) rfl rfl (hb hby d4_8) _ ?_
    rw [len_of r2c r2d]
    show Steps p.tables e below (T1.setTop (mkF m 9 #[.val (.ref a0), .val (.int (0 : Int32)), .val (.ref w_values_a0), .unset, .unset, .unset, .unset] [(.int (2 : Int32))])) t
    refine XS.istoreN X1.here hx rfl (hb hby d4_9) rfl (l' := #[.val (.ref a0), .val (.int (0 : Int32)), .val (.ref w_values_a0), .val (.int (2 : Int32)), .unset, .unset, .unset]) rfl ?_
    show Steps p.tables e below (T1.setTop (mkF m 10 #[.val (.ref a0), .val (.int (0 : Int32)), .val (.ref w_values_a0), .val (.int (2 : Int32)), .unset, .unset, .unset] [])) t
    refine XS.iconst X1.here hx rfl (hb hby d4_10) ?_
    show Steps p.tables e below (T1.setTop (mkF m 11 #[.val (.ref a0), .val (.int (0 : Int32)), .val (.ref w_values_a0), .val (.int (2 : Int32)), .unset, .unset, .unset] [(.int (0 : Int32))])) t
    refine XS.istore X1.here hx rfl (hb hby d4_11) rfl (l' := #[.val (.ref a0), .val (.int (0 : Int32)), .val (.ref w_values_a0), .val (.int (2 : Int32)), .val (.int (0 : Int32)), .unset, .unset]) rfl ?_
    show Steps p.tables e below (T1.setTop (mkF m 13 #[.val (.ref a0), .val (.int (0 : Int32)), .val (.ref w_values_a0), .val (.int (2 : Int32)), .val (.int (0 : Int32)), .unset, .unset] [])) t
    refine XS.iload X1.here hx rfl (hb hby d4_13) rfl ?_
    show Steps p.tables e below (T1.setTop (mkF m 15 #[.val (.ref a0), .val (.int (0 : Int32)), .val (.ref w_values_a0), .val (.int (2 : Int32)), .val (.int (0 : Int32)), .unset, .unset] [(.int (0 : Int32))])) t
    refine XS.iloadN X1.here hx rfl (hb hby d4_15) rfl ?_
    show Steps p.tables e below (T1.setTop (mkF m 16 #[.val (.ref a0), .val (.int (0 : Int32)), .val (.ref w_values_a0), .val (.int (2 : Int32)), .val (.int (0 : Int32)), .unset, .unset] [(.int (2 : Int32)), (.int (0 : Int32))])) t
    refine XS.icmpNo X1.here hx rfl (hb hby d4_16) rfl (by decide) ?_
    show Steps p.tables e below (T1.setTop (mkF m 19 #[.val (.ref a0), .val (.int (0 : Int32)), .val (.ref w_values_a0), .val (.int (2 : Int32)), .val (.int (0 : Int32)), .unset, .unset] [])) t
    refine XS.aloadN X1.here hx rfl (hb hby d4_19) rfl rfl ?_
    show Steps p.tables e below (T1.setTop (mkF m 20 #[.val (.ref a0), .val (.int (0 : Int32)), .val (.ref w_values_a0), .val (.int (2 : Int32)), .val (.int (0 : Int32)), .unset, .unset] [(.ref w_values_a0)])) t
    refine XS.iload X1.here hx rfl (hb hby d4_20) rfl ?_
    exact k
  obtain ⟨c3, r3a, r3b, r3c, r3d, r3e, r3f⟩ := id V_w_values_a0
  have i3 : ¬ ((0 : Int32) < 0 ∨ c3.slots.size ≤ ((0 : Int32)).toNatClampNeg) := inb_of r3c ⟨by decide, by decide⟩
  have y3 : c3.slots[((0 : Int32)).toNatClampNeg]? = some (.double el0) := r3e.at i3 rfl
  refine own_st (T' := T1) (g' := (mkF m 25 #[.val (.ref a0), .val (.int (0 : Int32)), .val (.ref w_values_a0), .val (.int (2 : Int32)), .val (.int (0 : Int32)), .val (.double el0), .second] [])) (fun t k => ?_) ?_
  · show Steps p.tables e below (T1.setTop (mkF m 22 #[.val (.ref a0), .val (.int (0 : Int32)), .val (.ref w_values_a0), .val (.int (2 : Int32)), .val (.int (0 : Int32)), .unset, .unset] [(.int (0 : Int32)), (.ref w_values_a0)])) t
    refine X1.daload hx (j := (0 : Int32)) (v := (.double el0)) (by rw [e1]; exact r3a.1) (State.isArrayOf_alike hZ.alike r3a.2.1) r3a.2.2 i3 y3 (g := (mkF m 22 #[.val (.ref a0), .val (.int (0 : Int32)), .val (.ref w_values_a0), .val (.int (2 : Int32)), .val (.int (0 : Int32)), .unset, .unset] [(.int (0 : Int32)), (.ref w_values_a0)])) rfl rfl (hb hby d4_22) _ ?_
    show Steps p.tables e below (T1.setTop (mkF m 23 #[.val (.ref a0), .val (.int (0 : Int32)), .val (.ref w_values_a0), .val (.int (2 : Int32)), .val (.int (0 : Int32)), .unset, .unset] [(.double el0)])) t
    refine XS.dstore X1.here hx rfl (hb hby d4_23) rfl (l' := #[.val (.ref a0), .val (.int (0 : Int32)), .val (.ref w_values_a0), .val (.int (2 : Int32)), .val (.int (0 : Int32)), .val (.double el0), .second]) rfl ?_
    exact k
  have hJ35_0 : ∀ (c0 : Int32) (hc0 : c0 = own_z (0 : Int32) el0), own_G p e below s (Qz2 Z a0 w_values_a0 kk_w_values_a0 el0 el1 h0 n0) (({ frames := 0, cells := 0, slots := 0, locals := 0 } : Room)).cells (({ frames := 0, cells := 0, slots := 0, locals := 0 } : Room)).slots T1 (mkF m 35 #[.val (.ref a0), .val (.int c0), .val (.ref w_values_a0), .val (.int (2 : Int32)), .val (.int (0 : Int32)), .val (.double el0), .second] []) := by
    intro c0 hc0
    refine own_st (T' := T1) (g' := (mkF m 22 #[.val (.ref a0), .val (.int c0), .val (.ref w_values_a0), .val (.int (2 : Int32)), .val (.int (1 : Int32)), .val (.double el0), .second] [(.int (1 : Int32)), (.ref w_values_a0)])) (fun t k => ?_) ?_
    · show Steps p.tables e below (T1.setTop (mkF m 35 #[.val (.ref a0), .val (.int c0), .val (.ref w_values_a0), .val (.int (2 : Int32)), .val (.int (0 : Int32)), .val (.double el0), .second] [])) t
      refine XS.iinc X1.here hx rfl (hb hby d4_35) rfl (l' := #[.val (.ref a0), .val (.int c0), .val (.ref w_values_a0), .val (.int (2 : Int32)), .val (.int (1 : Int32)), .val (.double el0), .second]) rfl ?_
      show Steps p.tables e below (T1.setTop (mkF m 38 #[.val (.ref a0), .val (.int c0), .val (.ref w_values_a0), .val (.int (2 : Int32)), .val (.int (1 : Int32)), .val (.double el0), .second] [])) t
      refine XS.goto X1.here hx rfl (pc0 := 38) (pc' := 13) rfl (hb hby d4_38) (by decide) (by decide) ?_
      show Steps p.tables e below (T1.setTop (mkF m 13 #[.val (.ref a0), .val (.int c0), .val (.ref w_values_a0), .val (.int (2 : Int32)), .val (.int (1 : Int32)), .val (.double el0), .second] [])) t
      refine XS.iload X1.here hx rfl (hb hby d4_13) rfl ?_
      show Steps p.tables e below (T1.setTop (mkF m 15 #[.val (.ref a0), .val (.int c0), .val (.ref w_values_a0), .val (.int (2 : Int32)), .val (.int (1 : Int32)), .val (.double el0), .second] [(.int (1 : Int32))])) t
      refine XS.iloadN X1.here hx rfl (hb hby d4_15) rfl ?_
      show Steps p.tables e below (T1.setTop (mkF m 16 #[.val (.ref a0), .val (.int c0), .val (.ref w_values_a0), .val (.int (2 : Int32)), .val (.int (1 : Int32)), .val (.double el0), .second] [(.int (2 : Int32)), (.int (1 : Int32))])) t
      refine XS.icmpNo X1.here hx rfl (hb hby d4_16) rfl (by decide) ?_
      show Steps p.tables e below (T1.setTop (mkF m 19 #[.val (.ref a0), .val (.int c0), .val (.ref w_values_a0), .val (.int (2 : Int32)), .val (.int (1 : Int32)), .val (.double el0), .second] [])) t
      refine XS.aloadN X1.here hx rfl (hb hby d4_19) rfl rfl ?_
      show Steps p.tables e below (T1.setTop (mkF m 20 #[.val (.ref a0), .val (.int c0), .val (.ref w_values_a0), .val (.int (2 : Int32)), .val (.int (1 : Int32)), .val (.double el0), .second] [(.ref w_values_a0)])) t
      refine XS.iload X1.here hx rfl (hb hby d4_20) rfl ?_
      exact k
    obtain ⟨c4, r4a, r4b, r4c, r4d, r4e, r4f⟩ := id V_w_values_a0
    have i4 : ¬ ((1 : Int32) < 0 ∨ c4.slots.size ≤ ((1 : Int32)).toNatClampNeg) := inb_of r4c ⟨by decide, by decide⟩
    have y4 : c4.slots[((1 : Int32)).toNatClampNeg]? = some (.double el1) := r4e.at i4 rfl
    refine own_st (T' := T1) (g' := (mkF m 25 #[.val (.ref a0), .val (.int c0), .val (.ref w_values_a0), .val (.int (2 : Int32)), .val (.int (1 : Int32)), .val (.double el1), .second] [])) (fun t k => ?_) ?_
    · show Steps p.tables e below (T1.setTop (mkF m 22 #[.val (.ref a0), .val (.int c0), .val (.ref w_values_a0), .val (.int (2 : Int32)), .val (.int (1 : Int32)), .val (.double el0), .second] [(.int (1 : Int32)), (.ref w_values_a0)])) t
      refine X1.daload hx (j := (1 : Int32)) (v := (.double el1)) (by rw [e1]; exact r4a.1) (State.isArrayOf_alike hZ.alike r4a.2.1) r4a.2.2 i4 y4 (g := (mkF m 22 #[.val (.ref a0), .val (.int c0), .val (.ref w_values_a0), .val (.int (2 : Int32)), .val (.int (1 : Int32)), .val (.double el0), .second] [(.int (1 : Int32)), (.ref w_values_a0)])) rfl rfl (hb hby d4_22) _ ?_
      show Steps p.tables e below (T1.setTop (mkF m 23 #[.val (.ref a0), .val (.int c0), .val (.ref w_values_a0), .val (.int (2 : Int32)), .val (.int (1 : Int32)), .val (.double el0), .second] [(.double el1)])) t
      refine XS.dstore X1.here hx rfl (hb hby d4_23) rfl (l' := #[.val (.ref a0), .val (.int c0), .val (.ref w_values_a0), .val (.int (2 : Int32)), .val (.int (1 : Int32)), .val (.double el1), .second]) rfl ?_
      exact k
    have hJ35_1 : ∀ (c1 : Int32) (hc1 : c1 = own_z c0 el1), own_G p e below s (Qz2 Z a0 w_values_a0 kk_w_values_a0 el0 el1 h0 n0) (({ frames := 0, cells := 0, slots := 0, locals := 0 } : Room)).cells (({ frames := 0, cells := 0, slots := 0, locals := 0 } : Room)).slots T1 (mkF m 35 #[.val (.ref a0), .val (.int c1), .val (.ref w_values_a0), .val (.int (2 : Int32)), .val (.int (1 : Int32)), .val (.double el1), .second] []) := by
      intro c1 hc1
      refine own_st (T' := T1) (g' := (mkF m 42 #[.val (.ref a0), .val (.int c1), .val (.ref w_values_a0), .val (.int (2 : Int32)), .val (.int (2 : Int32)), .val (.double el1), .second] [(.int c1)])) (fun t k => ?_) ?_
      · show Steps p.tables e below (T1.setTop (mkF m 35 #[.val (.ref a0), .val (.int c1), .val (.ref w_values_a0), .val (.int (2 : Int32)), .val (.int (1 : Int32)), .val (.double el1), .second] [])) t
        refine XS.iinc X1.here hx rfl (hb hby d4_35) rfl (l' := #[.val (.ref a0), .val (.int c1), .val (.ref w_values_a0), .val (.int (2 : Int32)), .val (.int (2 : Int32)), .val (.double el1), .second]) rfl ?_
        show Steps p.tables e below (T1.setTop (mkF m 38 #[.val (.ref a0), .val (.int c1), .val (.ref w_values_a0), .val (.int (2 : Int32)), .val (.int (2 : Int32)), .val (.double el1), .second] [])) t
        refine XS.goto X1.here hx rfl (pc0 := 38) (pc' := 13) rfl (hb hby d4_38) (by decide) (by decide) ?_
        show Steps p.tables e below (T1.setTop (mkF m 13 #[.val (.ref a0), .val (.int c1), .val (.ref w_values_a0), .val (.int (2 : Int32)), .val (.int (2 : Int32)), .val (.double el1), .second] [])) t
        refine XS.iload X1.here hx rfl (hb hby d4_13) rfl ?_
        show Steps p.tables e below (T1.setTop (mkF m 15 #[.val (.ref a0), .val (.int c1), .val (.ref w_values_a0), .val (.int (2 : Int32)), .val (.int (2 : Int32)), .val (.double el1), .second] [(.int (2 : Int32))])) t
        refine XS.iloadN X1.here hx rfl (hb hby d4_15) rfl ?_
        show Steps p.tables e below (T1.setTop (mkF m 16 #[.val (.ref a0), .val (.int c1), .val (.ref w_values_a0), .val (.int (2 : Int32)), .val (.int (2 : Int32)), .val (.double el1), .second] [(.int (2 : Int32)), (.int (2 : Int32))])) t
        refine XS.icmpYes X1.here hx rfl (pc0 := 16) (pc' := 41) rfl (hb hby d4_16) rfl (by decide) (by decide) (by decide) ?_
        show Steps p.tables e below (T1.setTop (mkF m 41 #[.val (.ref a0), .val (.int c1), .val (.ref w_values_a0), .val (.int (2 : Int32)), .val (.int (2 : Int32)), .val (.double el1), .second] [])) t
        refine XS.iloadN X1.here hx rfl (hb hby d4_41) rfl ?_
        exact k
      refine own_retI X1 hx hlk Bd.returns (hb hby d4_42) (by decide) (by decide) ?_
      show Qz2 Z a0 w_values_a0 kk_w_values_a0 el0 el1 h0 n0 (some (.int c1)) T1.heap _
      rw [(e1 : T1.heap = h0)]
      exact ⟨congrArg (fun z => some (Value.int z)) (by rw [hc1, hc0]), N0, rfl⟩
    refine own_st (T' := T1) (g' := (mkF m 29 #[.val (.ref a0), .val (.int c0), .val (.ref w_values_a0), .val (.int (2 : Int32)), .val (.int (1 : Int32)), .val (.double el1), .second] [(.int (cmpValue (FP.dcmp el1 (0 : UInt64)) .l))])) (fun t k => ?_) ?_
    · show Steps p.tables e below (T1.setTop (mkF m 25 #[.val (.ref a0), .val (.int c0), .val (.ref w_values_a0), .val (.int (2 : Int32)), .val (.int (1 : Int32)), .val (.double el1), .second] [])) t
      refine XS.dload X1.here hx rfl (hb hby d4_25) rfl ?_
      show Steps p.tables e below (T1.setTop (mkF m 27 #[.val (.ref a0), .val (.int c0), .val (.ref w_values_a0), .val (.int (2 : Int32)), .val (.int (1 : Int32)), .val (.double el1), .second] [(.double el1)])) t
      refine XS.dconst0 X1.here hx rfl (hb hby d4_27) rfl ?_
      show Steps p.tables e below (T1.setTop (mkF m 28 #[.val (.ref a0), .val (.int c0), .val (.ref w_values_a0), .val (.int (2 : Int32)), .val (.int (1 : Int32)), .val (.double el1), .second] [(.double (0 : UInt64)), (.double el1)])) t
      refine XS.dcmpS X1.here hx rfl (hb hby d4_28) rfl rfl ?_
      exact k
    by_cases hc29_5 : ifCond.holds .eq (cmpValue (FP.dcmp el1 (0 : UInt64)) .l) = true
    · refine own_st (T' := T1) (g' := (mkF m 35 #[.val (.ref a0), .val (.int c0), .val (.ref w_values_a0), .val (.int (2 : Int32)), .val (.int (1 : Int32)), .val (.double el1), .second] [])) (fun t k => ?_) ?_
      · show Steps p.tables e below (T1.setTop (mkF m 29 #[.val (.ref a0), .val (.int c0), .val (.ref w_values_a0), .val (.int (2 : Int32)), .val (.int (1 : Int32)), .val (.double el1), .second] [(.int (cmpValue (FP.dcmp el1 (0 : UInt64)) .l))])) t
        refine XS.ifYes X1.here hx rfl (pc0 := 29) (pc' := 35) rfl (hb hby d4_29) rfl hc29_5 (by decide) (by decide) ?_
        exact k
      exact hJ35_1 _ (own_zy _ hc29_5)
    · refine own_st (T' := T1) (g' := (mkF m 35 #[.val (.ref a0), .val (.int (c0 + (1 : Int32))), .val (.ref w_values_a0), .val (.int (2 : Int32)), .val (.int (1 : Int32)), .val (.double el1), .second] [])) (fun t k => ?_) ?_
      · show Steps p.tables e below (T1.setTop (mkF m 29 #[.val (.ref a0), .val (.int c0), .val (.ref w_values_a0), .val (.int (2 : Int32)), .val (.int (1 : Int32)), .val (.double el1), .second] [(.int (cmpValue (FP.dcmp el1 (0 : UInt64)) .l))])) t
        refine XS.ifNo X1.here hx rfl (hb hby d4_29) rfl (Bool.eq_false_iff.mpr hc29_5) ?_
        show Steps p.tables e below (T1.setTop (mkF m 32 #[.val (.ref a0), .val (.int c0), .val (.ref w_values_a0), .val (.int (2 : Int32)), .val (.int (1 : Int32)), .val (.double el1), .second] [])) t
        refine XS.iinc X1.here hx rfl (hb hby d4_32) rfl (l' := #[.val (.ref a0), .val (.int (c0 + (1 : Int32))), .val (.ref w_values_a0), .val (.int (2 : Int32)), .val (.int (1 : Int32)), .val (.double el1), .second]) rfl ?_
        exact k
      exact hJ35_1 _ (own_zn _ hc29_5)
  refine own_st (T' := T1) (g' := (mkF m 29 #[.val (.ref a0), .val (.int (0 : Int32)), .val (.ref w_values_a0), .val (.int (2 : Int32)), .val (.int (0 : Int32)), .val (.double el0), .second] [(.int (cmpValue (FP.dcmp el0 (0 : UInt64)) .l))])) (fun t k => ?_) ?_
  · show Steps p.tables e below (T1.setTop (mkF m 25 #[.val (.ref a0), .val (.int (0 : Int32)), .val (.ref w_values_a0), .val (.int (2 : Int32)), .val (.int (0 : Int32)), .val (.double el0), .second] [])) t
    refine XS.dload X1.here hx rfl (hb hby d4_25) rfl ?_
    show Steps p.tables e below (T1.setTop (mkF m 27 #[.val (.ref a0), .val (.int (0 : Int32)), .val (.ref w_values_a0), .val (.int (2 : Int32)), .val (.int (0 : Int32)), .val (.double el0), .second] [(.double el0)])) t
    refine XS.dconst0 X1.here hx rfl (hb hby d4_27) rfl ?_
    show Steps p.tables e below (T1.setTop (mkF m 28 #[.val (.ref a0), .val (.int (0 : Int32)), .val (.ref w_values_a0), .val (.int (2 : Int32)), .val (.int (0 : Int32)), .val (.double el0), .second] [(.double (0 : UInt64)), (.double el0)])) t
    refine XS.dcmpS X1.here hx rfl (hb hby d4_28) rfl rfl ?_
    exact k
  by_cases hc29_6 : ifCond.holds .eq (cmpValue (FP.dcmp el0 (0 : UInt64)) .l) = true
  · refine own_st (T' := T1) (g' := (mkF m 35 #[.val (.ref a0), .val (.int (0 : Int32)), .val (.ref w_values_a0), .val (.int (2 : Int32)), .val (.int (0 : Int32)), .val (.double el0), .second] [])) (fun t k => ?_) ?_
    · show Steps p.tables e below (T1.setTop (mkF m 29 #[.val (.ref a0), .val (.int (0 : Int32)), .val (.ref w_values_a0), .val (.int (2 : Int32)), .val (.int (0 : Int32)), .val (.double el0), .second] [(.int (cmpValue (FP.dcmp el0 (0 : UInt64)) .l))])) t
      refine XS.ifYes X1.here hx rfl (pc0 := 29) (pc' := 35) rfl (hb hby d4_29) rfl hc29_6 (by decide) (by decide) ?_
      exact k
    exact hJ35_0 _ (own_zy _ hc29_6)
  · refine own_st (T' := T1) (g' := (mkF m 35 #[.val (.ref a0), .val (.int (1 : Int32)), .val (.ref w_values_a0), .val (.int (2 : Int32)), .val (.int (0 : Int32)), .val (.double el0), .second] [])) (fun t k => ?_) ?_
    · show Steps p.tables e below (T1.setTop (mkF m 29 #[.val (.ref a0), .val (.int (0 : Int32)), .val (.ref w_values_a0), .val (.int (2 : Int32)), .val (.int (0 : Int32)), .val (.double el0), .second] [(.int (cmpValue (FP.dcmp el0 (0 : UInt64)) .l))])) t
      refine XS.ifNo X1.here hx rfl (hb hby d4_29) rfl (Bool.eq_false_iff.mpr hc29_6) ?_
      show Steps p.tables e below (T1.setTop (mkF m 32 #[.val (.ref a0), .val (.int (0 : Int32)), .val (.ref w_values_a0), .val (.int (2 : Int32)), .val (.int (0 : Int32)), .val (.double el0), .second] [])) t
      refine XS.iinc X1.here hx rfl (hb hby d4_32) rfl (l' := #[.val (.ref a0), .val (.int (1 : Int32)), .val (.ref w_values_a0), .val (.int (2 : Int32)), .val (.int (0 : Int32)), .val (.double el0), .second]) rfl ?_
      exact k
    exact hJ35_0 _ (own_zn0 hc29_6)
theorem pnz3 : plainName "com/example/winnowfold/winnowfold/math/DenseVector" = true := by first | (simp [plainName, overriddenIn]; done) | decide +kernel
theorem efz3 (m : MethodId) (a0 : Addr) : entryFrame m #[(.ref a0)] 7 = mkF m 0 #[.val (.ref a0), .unset, .unset, .unset, .unset, .unset, .unset] [] := by first | (simp [entryFrame, mkF, argsToLocals, Value.category]; done) | rfl
def Qz3 (Z : State) (a0 : Addr) (w_values_a0 : Addr) (kk_w_values_a0 : ClassId) (el0 : UInt64) (el1 : UInt64) (el2 : UInt64) (h0 : Heap) (n0 : Nat) (v : Option Value) (h : Heap) (L : List Loc) : Prop := v = some (.int (own_z (own_z (own_z (0 : Int32) el0) el1) el2)) ∧ Fr n0 L ∧ h = h0
set_option maxRecDepth 65536 in
set_option maxHeartbeats 40000000 in
theorem rmz3 (l : Launch) (Z : State) (ar : Array Value) (hw : ∀ d ∈ tables_1, d.before ar Z = true) (ws : List Jvm.Cond) (a0 : Addr) (w_values_a0 : Addr) (kk_w_values_a0 : ClassId) (el0 : UInt64) (el1 : UInt64) (el2 : UInt64) (h0 : Heap) (n0 : Nat) (Z0 : n0 ≤ h0.size) (E_a0 : Exa Z h0 a0 "com/example/winnowfold/winnowfold/math/DenseVector") (F_values_a0 : Fld Z h0 a0 "com/example/winnowfold/winnowfold/math/DenseVector" "values" "[D" (.ref w_values_a0)) (V_w_values_a0 : Arv Z h0 w_values_a0 kk_w_values_a0 .double (3 : Int32) [(.double el0), (.double el1), (.double el2)] (.double (0 : UInt64))) :
    MetFree l (⟨"com/example/winnowfold/winnowfold/math/DenseVector", "nonZeroCount", "()I"⟩ : MethodName) (head1 (Jvm.Cond.code (⟨"com/example/winnowfold/winnowfold/math/DenseVector", "nonZeroCount", "()I"⟩ : MethodName) prog_52_method_6_code 7 (some .int) :: ws) ({ frames := 0, cells := 0, slots := 0, locals := 0 } : Room)) (fun a U => a = #[(.ref a0)] ∧ Z.Warmed39 U.vm ∧ U.heap = h0) (fun _ _ _ _ _ => True) (fun _ U o U' => ∃ v L, o = .returned v ∧ Qz3 Z a0 w_values_a0 kk_w_values_a0 el0 el1 el2 h0 n0 v U'.heap L ∧ FrameEnd U o U' L ({ frames := 0, cells := 0, slots := 0, locals := 0 } : Room).cells ({ frames := 0, cells := 0, slots := 0, locals := 0 } : Room).slots) := by
  refine MetFree.of_bodySF (plainFor_of_name pnz3) hisR ?_
  intro p e s m args below meth c s₁ Bd hml0 hP hK
  obtain ⟨rfl, hZ, hh⟩ := hP
  have hx := Bd.exec
  have hby := Bd.bytes
  have hlk := Bd.notSynchronized
  have hml : c.maxLocals = 7 := hml0
  have hown : s.vm.findClass "com/example/winnowfold/winnowfold/math/DenseVector" = some m.cls := findClass_of_methodNamed Bd.named
  have hnm := (name_of_methodNamed Bd.named Bd.method).1
  have X0 : Stand p l e ({ frames := 0, cells := 0, slots := 0, locals := 0 } : Room) s m #[(.ref a0)] below meth c s₁ [] 0 0 := Stand.of_body Bd
  have e0 : s₁.heap = h0 := by rw [← hh, Bd.state]; rfl
  have N0 := Fr.nil n0
  have K0 := Keep.refl h0 []
  refine own_enter (Q := Qz3 Z a0 w_values_a0 kk_w_values_a0 el0 el1 el2 h0 n0) (efz3 m a0) ?_
  refine own_st (T' := s₁) (g' := (mkF m 3 #[.val (.ref a0), .val (.int (0 : Int32)), .unset, .unset, .unset, .unset, .unset] [(.ref a0)])) (fun t k => ?_) ?_
  · show Steps p.tables e below (s₁.setTop (mkF m 0 #[.val (.ref a0), .unset, .unset, .unset, .unset, .unset, .unset] [])) t
    refine XS.iconst X0.here hx rfl (hb hby d4_0) ?_
    show Steps p.tables e below (s₁.setTop (mkF m 1 #[.val (.ref a0), .unset, .unset, .unset, .unset, .unset, .unset] [(.int (0 : Int32))])) t
    refine XS.istoreN X0.here hx rfl (hb hby d4_1) rfl (l' := #[.val (.ref a0), .val (.int (0 : Int32)), .unset, .unset, .unset, .unset, .unset]) rfl ?_
    show Steps p.tables e below (s₁.setTop (mkF m 2 #[.val (.ref a0), .val (.int (0 : Int32)), .unset, .unset, .unset, .unset, .unset] [])) t
    refine XS.aloadN X0.here hx rfl (hb hby d4_2) rfl rfl ?_
    exact k
  obtain ⟨T1, X1, e1, st1⟩ := getF X0 hx hZ hown (host := "") (Or.inl (hw _ (List.mem_of_getElem? (i := 18) rfl))) Via.refl e0 F_values_a0 (g := (mkF m 3 #[.val (.ref a0), .val (.int (0 : Int32)), .unset, .unset, .unset, .unset, .unset] [(.ref a0)])) rfl rfl (hb hby d4_3)
  refine own_st (T' := T1) (g' := (mkF m 6 #[.val (.ref a0), .val (.int (0 : Int32)), .unset, .unset, .unset, .unset, .unset] [(.ref w_values_a0)])) st1 ?_
  refine own_st (T' := T1) (g' := (mkF m 8 #[.val (.ref a0), .val (.int (0 : Int32)), .val (.ref w_values_a0), .unset, .unset, .unset, .unset] [(.ref w_values_a0)])) (fun t k => ?_) ?_
  · show Steps p.tables e below (T1.setTop (mkF m 6 #[.val (.ref a0), .val (.int (0 : Int32)), .unset, .unset, .unset, .unset, .unset] [(.ref w_values_a0)])) t
    refine XS.astoreN X1.here hx rfl (hb hby d4_6) rfl rfl (l' := #[.val (.ref a0), .val (.int (0 : Int32)), .val (.ref w_values_a0), .unset, .unset, .unset, .unset]) rfl ?_
    show Steps p.tables e below (T1.setTop (mkF m 7 #[.val (.ref a0), .val (.int (0 : Int32)), .val (.ref w_values_a0), .unset, .unset, .unset, .unset] [])) t
    refine XS.aloadN X1.here hx rfl (hb hby d4_7) rfl rfl ?_
    exact k
  obtain ⟨c2, r2a, -, r2c, r2d, -, -⟩ := id V_w_values_a0
  refine own_st (T' := T1) (g' := (mkF m 22 #[.val (.ref a0), .val (.int (0 : Int32)), .val (.ref w_values_a0), .val (.int (3 : Int32)), .val (.int (0 : Int32)), .unset, .unset] [(.int (0 : Int32)), (.ref w_values_a0)])) (fun t k => ?_) ?_
  · show Steps p.tables e below (T1.setTop (mkF m 8 #[.val (.ref a0), .val (.int (0 : Int32)), .val (.ref w_values_a0), .unset, .unset, .unset, .unset] [(.ref w_values_a0)])) t
    refine X1.arraylength hx (by rw [e1]; exact r2a.1) (State.isArrayOf_alike hZ.alike r2a.2.1) (g := (mkF m 8 #[.val (.ref a0), .val (.int (0 : Int32)), .val (.ref w_values_a0), .unset, .unset, .unset, .unset] [(.ref w_values_a0)])) rfl rfl (hb hby d4_8) _ ?_
    rw [len_of r2c r2d]
    show Steps p.tables e below (T1.setTop (mkF m 9 #[.val (.ref a0), .val (.int (0 : Int32)), .val (.ref w_values_a0), .unset, .unset, .unset, .unset] [(.int (3 : Int32))])) t
    refine XS.istoreN X1.here hx rfl (hb hby d4_9) rfl (l' := #[.val (.ref a0), .val (.int (0 : Int32)), .val (.ref w_values_a0), .val (.int (3 : Int32)), .unset, .unset, .unset]) rfl ?_
    show Steps p.tables e below (T1.setTop (mkF m 10 #[.val (.ref a0), .val (.int (0 : Int32)), .val (.ref w_values_a0), .val (.int (3 : Int32)), .unset, .unset, .unset] [])) t
    refine XS.iconst X1.here hx rfl (hb hby d4_10) ?_
    show Steps p.tables e below (T1.setTop (mkF m 11 #[.val (.ref a0), .val (.int (0 : Int32)), .val (.ref w_values_a0), .val (.int (3 : Int32)), .unset, .unset, .unset] [(.int (0 : Int32))])) t
    refine XS.istore X1.here hx rfl (hb hby d4_11) rfl (l' := #[.val (.ref a0), .val (.int (0 : Int32)), .val (.ref w_values_a0), .val (.int (3 : Int32)), .val (.int (0 : Int32)), .unset, .unset]) rfl ?_
    show Steps p.tables e below (T1.setTop (mkF m 13 #[.val (.ref a0), .val (.int (0 : Int32)), .val (.ref w_values_a0), .val (.int (3 : Int32)), .val (.int (0 : Int32)), .unset, .unset] [])) t
    refine XS.iload X1.here hx rfl (hb hby d4_13) rfl ?_
    show Steps p.tables e below (T1.setTop (mkF m 15 #[.val (.ref a0), .val (.int (0 : Int32)), .val (.ref w_values_a0), .val (.int (3 : Int32)), .val (.int (0 : Int32)), .unset, .unset] [(.int (0 : Int32))])) t
    refine XS.iloadN X1.here hx rfl (hb hby d4_15) rfl ?_
    show Steps p.tables e below (T1.setTop (mkF m 16 #[.val (.ref a0), .val (.int (0 : Int32)), .val (.ref w_values_a0), .val (.int (3 : Int32)), .val (.int (0 : Int32)), .unset, .unset] [(.int (3 : Int32)), (.int (0 : Int32))])) t
    refine XS.icmpNo X1.here hx rfl (hb hby d4_16) rfl (by decide) ?_
    show Steps p.tables e below (T1.setTop (mkF m 19 #[.val (.ref a0), .val (.int (0 : Int32)), .val (.ref w_values_a0), .val (.int (3 : Int32)), .val (.int (0 : Int32)), .unset, .unset] [])) t
    refine XS.aloadN X1.here hx rfl (hb hby d4_19) rfl rfl ?_
    show Steps p.tables e below (T1.setTop (mkF m 20 #[.val (.ref a0), .val (.int (0 : Int32)), .val (.ref w_values_a0), .val (.int (3 : Int32)), .val (.int (0 : Int32)), .unset, .unset] [(.ref w_values_a0)])) t
    refine XS.iload X1.here hx rfl (hb hby d4_20) rfl ?_
    exact k
  obtain ⟨c3, r3a, r3b, r3c, r3d, r3e, r3f⟩ := id V_w_values_a0
  have i3 : ¬ ((0 : Int32) < 0 ∨ c3.slots.size ≤ ((0 : Int32)).toNatClampNeg) := inb_of r3c ⟨by decide, by decide⟩
  have y3 : c3.slots[((0 : Int32)).toNatClampNeg]? = some (.double el0) := r3e.at i3 rfl
  refine own_st (T' := T1) (g' := (mkF m 25 #[.val (.ref a0), .val (.int (0 : Int32)), .val (.ref w_values_a0), .val (.int (3 : Int32)), .val (.int (0 : Int32)), .val (.double el0), .second] [])) (fun t k => ?_) ?_
  · show Steps p.tables e below (T1.setTop (mkF m 22 #[.val (.ref a0), .val (.int (0 : Int32)), .val (.ref w_values_a0), .val (.int (3 : Int32)), .val (.int (0 : Int32)), .unset, .unset] [(.int (0 : Int32)), (.ref w_values_a0)])) t
    refine X1.daload hx (j := (0 : Int32)) (v := (.double el0)) (by rw [e1]; exact r3a.1) (State.isArrayOf_alike hZ.alike r3a.2.1) r3a.2.2 i3 y3 (g := (mkF m 22 #[.val (.ref a0), .val (.int (0 : Int32)), .val (.ref w_values_a0), .val (.int (3 : Int32)), .val (.int (0 : Int32)), .unset, .unset] [(.int (0 : Int32)), (.ref w_values_a0)])) rfl rfl (hb hby d4_22) _ ?_
    show Steps p.tables e below (T1.setTop (mkF m 23 #[.val (.ref a0), .val (.int (0 : Int32)), .val (.ref w_values_a0), .val (.int (3 : Int32)), .val (.int (0 : Int32)), .unset, .unset] [(.double el0)])) t
    refine XS.dstore X1.here hx rfl (hb hby d4_23) rfl (l' := #[.val (.ref a0), .val (.int (0 : Int32)), .val (.ref w_values_a0), .val (.int (3 : Int32)), .val (.int (0 : Int32)), .val (.double el0), .second]) rfl ?_
    exact k
  have hJ35_0 : ∀ (c0 : Int32) (hc0 : c0 = own_z (0 : Int32) el0), own_G p e below s (Qz3 Z a0 w_values_a0 kk_w_values_a0 el0 el1 el2 h0 n0) (({ frames := 0, cells := 0, slots := 0, locals := 0 } : Room)).cells (({ frames := 0, cells := 0, slots := 0, locals := 0 } : Room)).slots T1 (mkF m 35 #[.val (.ref a0), .val (.int c0), .val (.ref w_values_a0), .val (.int (3 : Int32)), .val (.int (0 : Int32)), .val (.double el0), .second] []) := by
    intro c0 hc0
    refine own_st (T' := T1) (g' := (mkF m 22 #[.val (.ref a0), .val (.int c0), .val (.ref w_values_a0), .val (.int (3 : Int32)), .val (.int (1 : Int32)), .val (.double el0), .second] [(.int (1 : Int32)), (.ref w_values_a0)])) (fun t k => ?_) ?_
    · show Steps p.tables e below (T1.setTop (mkF m 35 #[.val (.ref a0), .val (.int c0), .val (.ref w_values_a0), .val (.int (3 : Int32)), .val (.int (0 : Int32)), .val (.double el0), .second] [])) t
      refine XS.iinc X1.here hx rfl (hb hby d4_35) rfl (l' := #[.val (.ref a0), .val (.int c0), .val (.ref w_values_a0), .val (.int (3 : Int32)), .val (.int (1 : Int32)), .val (.double el0), .second]) rfl ?_
      show Steps p.tables e below (T1.setTop (mkF m 38 #[.val (.ref a0), .val (.int c0), .val (.ref w_values_a0), .val (.int (3 : Int32)), .val (.int (1 : Int32)), .val (.double el0), .second] [])) t
      refine XS.goto X1.here hx rfl (pc0 := 38) (pc' := 13) rfl (hb hby d4_38) (by decide) (by decide) ?_
      show Steps p.tables e below (T1.setTop (mkF m 13 #[.val (.ref a0), .val (.int c0), .val (.ref w_values_a0), .val (.int (3 : Int32)), .val (.int (1 : Int32)), .val (.double el0), .second] [])) t
      refine XS.iload X1.here hx rfl (hb hby d4_13) rfl ?_
      show Steps p.tables e below (T1.setTop (mkF m 15 #[.val (.ref a0), .val (.int c0), .val (.ref w_values_a0), .val (.int (3 : Int32)), .val (.int (1 : Int32)), .val (.double el0), .second] [(.int (1 : Int32))])) t
      refine XS.iloadN X1.here hx rfl (hb hby d4_15) rfl ?_
      show Steps p.tables e below (T1.setTop (mkF m 16 #[.val (.ref a0), .val (.int c0), .val (.ref w_values_a0), .val (.int (3 : Int32)), .val (.int (1 : Int32)), .val (.double el0), .second] [(.int (3 : Int32)), (.int (1 : Int32))])) t
      refine XS.icmpNo X1.here hx rfl (hb hby d4_16) rfl (by decide) ?_
      show Steps p.tables e below (T1.setTop (mkF m 19 #[.val (.ref a0), .val (.int c0), .val (.ref w_values_a0), .val (.int (3 : Int32)), .val (.int (1 : Int32)), .val (.double el0), .second] [])) t
      refine XS.aloadN X1.here hx rfl (hb hby d4_19) rfl rfl ?_
      show Steps p.tables e below (T1.setTop (mkF m 20 #[.val (.ref a0), .val (.int c0), .val (.ref w_values_a0), .val (.int (3 : Int32)), .val (.int (1 : Int32)), .val (.double el0), .second] [(.ref w_values_a0)])) t
      refine XS.iload X1.here hx rfl (hb hby d4_20) rfl ?_
      exact k
    obtain ⟨c4, r4a, r4b, r4c, r4d, r4e, r4f⟩ := id V_w_values_a0
    have i4 : ¬ ((1 : Int32) < 0 ∨ c4.slots.size ≤ ((1 : Int32)).toNatClampNeg) := inb_of r4c ⟨by decide, by decide⟩
    have y4 : c4.slots[((1 : Int32)).toNatClampNeg]? = some (.double el1) := r4e.at i4 rfl
    refine own_st (T' := T1) (g' := (mkF m 25 #[.val (.ref a0), .val (.int c0), .val (.ref w_values_a0), .val (.int (3 : Int32)), .val (.int (1 : Int32)), .val (.double el1), .second] [])) (fun t k => ?_) ?_
    · show Steps p.tables e below (T1.setTop (mkF m 22 #[.val (.ref a0), .val (.int c0), .val (.ref w_values_a0), .val (.int (3 : Int32)), .val (.int (1 : Int32)), .val (.double el0), .second] [(.int (1 : Int32)), (.ref w_values_a0)])) t
      refine X1.daload hx (j := (1 : Int32)) (v := (.double el1)) (by rw [e1]; exact r4a.1) (State.isArrayOf_alike hZ.alike r4a.2.1) r4a.2.2 i4 y4 (g := (mkF m 22 #[.val (.ref a0), .val (.int c0), .val (.ref w_values_a0), .val (.int (3 : Int32)), .val (.int (1 : Int32)), .val (.double el0), .second] [(.int (1 : Int32)), (.ref w_values_a0)])) rfl rfl (hb hby d4_22) _ ?_
      show Steps p.tables e below (T1.setTop (mkF m 23 #[.val (.ref a0), .val (.int c0), .val (.ref w_values_a0), .val (.int (3 : Int32)), .val (.int (1 : Int32)), .val (.double el0), .second] [(.double el1)])) t
      refine XS.dstore X1.here hx rfl (hb hby d4_23) rfl (l' := #[.val (.ref a0), .val (.int c0), .val (.ref w_values_a0), .val (.int (3 : Int32)), .val (.int (1 : Int32)), .val (.double el1), .second]) rfl ?_
      exact k
    have hJ35_1 : ∀ (c1 : Int32) (hc1 : c1 = own_z c0 el1), own_G p e below s (Qz3 Z a0 w_values_a0 kk_w_values_a0 el0 el1 el2 h0 n0) (({ frames := 0, cells := 0, slots := 0, locals := 0 } : Room)).cells (({ frames := 0, cells := 0, slots := 0, locals := 0 } : Room)).slots T1 (mkF m 35 #[.val (.ref a0), .val (.int c1), .val (.ref w_values_a0), .val (.int (3 : Int32)), .val (.int (1 : Int32)), .val (.double el1), .second] []) := by
      intro c1 hc1
      refine own_st (T' := T1) (g' := (mkF m 22 #[.val (.ref a0), .val (.int c1), .val (.ref w_values_a0), .val (.int (3 : Int32)), .val (.int (2 : Int32)), .val (.double el1), .second] [(.int (2 : Int32)), (.ref w_values_a0)])) (fun t k => ?_) ?_
      · show Steps p.tables e below (T1.setTop (mkF m 35 #[.val (.ref a0), .val (.int c1), .val (.ref w_values_a0), .val (.int (3 : Int32)), .val (.int (1 : Int32)), .val (.double el1), .second] [])) t
        refine XS.iinc X1.here hx rfl (hb hby d4_35) rfl (l' := #[.val (.ref a0), .val (.int c1), .val (.ref w_values_a0), .val (.int (3 : Int32)), .val (.int (2 : Int32)), .val (.double el1), .second]) rfl ?_
        show Steps p.tables e below (T1.setTop (mkF m 38 #[.val (.ref a0), .val (.int c1), .val (.ref w_values_a0), .val (.int (3 : Int32)), .val (.int (2 : Int32)), .val (.double el1), .second] [])) t
        refine XS.goto X1.here hx rfl (pc0 := 38) (pc' := 13) rfl (hb hby d4_38) (by decide) (by decide) ?_
        show Steps p.tables e below (T1.setTop (mkF m 13 #[.val (.ref a0), .val (.int c1), .val (.ref w_values_a0), .val (.int (3 : Int32)), .val (.int (2 : Int32)), .val (.double el1), .second] [])) t
        refine XS.iload X1.here hx rfl (hb hby d4_13) rfl ?_
        show Steps p.tables e below (T1.setTop (mkF m 15 #[.val (.ref a0), .val (.int c1), .val (.ref w_values_a0), .val (.int (3 : Int32)), .val (.int (2 : Int32)), .val (.double el1), .second] [(.int (2 : Int32))])) t
        refine XS.iloadN X1.here hx rfl (hb hby d4_15) rfl ?_
        show Steps p.tables e below (T1.setTop (mkF m 16 #[.val (.ref a0), .val (.int c1), .val (.ref w_values_a0), .val (.int (3 : Int32)), .val (.int (2 : Int32)), .val (.double el1), .second] [(.int (3 : Int32)), (.int (2 : Int32))])) t
        refine XS.icmpNo X1.here hx rfl (hb hby d4_16) rfl (by decide) ?_
        show Steps p.tables e below (T1.setTop (mkF m 19 #[.val (.ref a0), .val (.int c1), .val (.ref w_values_a0), .val (.int (3 : Int32)), .val (.int (2 : Int32)), .val (.double el1), .second] [])) t
        refine XS.aloadN X1.here hx rfl (hb hby d4_19) rfl rfl ?_
        show Steps p.tables e below (T1.setTop (mkF m 20 #[.val (.ref a0), .val (.int c1), .val (.ref w_values_a0), .val (.int (3 : Int32)), .val (.int (2 : Int32)), .val (.double el1), .second] [(.ref w_values_a0)])) t
        refine XS.iload X1.here hx rfl (hb hby d4_20) rfl ?_
        exact k
      obtain ⟨c5, r5a, r5b, r5c, r5d, r5e, r5f⟩ := id V_w_values_a0
      have i5 : ¬ ((2 : Int32) < 0 ∨ c5.slots.size ≤ ((2 : Int32)).toNatClampNeg) := inb_of r5c ⟨by decide, by decide⟩
      have y5 : c5.slots[((2 : Int32)).toNatClampNeg]? = some (.double el2) := r5e.at i5 rfl
      refine own_st (T' := T1) (g' := (mkF m 25 #[.val (.ref a0), .val (.int c1), .val (.ref w_values_a0), .val (.int (3 : Int32)), .val (.int (2 : Int32)), .val (.double el2), .second] [])) (fun t k => ?_) ?_
      · show Steps p.tables e below (T1.setTop (mkF m 22 #[.val (.ref a0), .val (.int c1), .val (.ref w_values_a0), .val (.int (3 : Int32)), .val (.int (2 : Int32)), .val (.double el1), .second] [(.int (2 : Int32)), (.ref w_values_a0)])) t
        refine X1.daload hx (j := (2 : Int32)) (v := (.double el2)) (by rw [e1]; exact r5a.1) (State.isArrayOf_alike hZ.alike r5a.2.1) r5a.2.2 i5 y5 (g := (mkF m 22 #[.val (.ref a0), .val (.int c1), .val (.ref w_values_a0), .val (.int (3 : Int32)), .val (.int (2 : Int32)), .val (.double el1), .second] [(.int (2 : Int32)), (.ref w_values_a0)])) rfl rfl (hb hby d4_22) _ ?_
        show Steps p.tables e below (T1.setTop (mkF m 23 #[.val (.ref a0), .val (.int c1), .val (.ref w_values_a0), .val (.int (3 : Int32)), .val (.int (2 : Int32)), .val (.double el1), .second] [(.double el2)])) t
        refine XS.dstore X1.here hx rfl (hb hby d4_23) rfl (l' := #[.val (.ref a0), .val (.int c1), .val (.ref w_values_a0), .val (.int (3 : Int32)), .val (.int (2 : Int32)), .val (.double el2), .second]) rfl ?_
        exact k
      have hJ35_2 : ∀ (c2 : Int32) (hc2 : c2 = own_z c1 el2), own_G p e below s (Qz3 Z a0 w_values_a0 kk_w_values_a0 el0 el1 el2 h0 n0) (({ frames := 0, cells := 0, slots := 0, locals := 0 } : Room)).cells (({ frames := 0, cells := 0, slots := 0, locals := 0 } : Room)).slots T1 (mkF m 35 #[.val (.ref a0), .val (.int c2), .val (.ref w_values_a0), .val (.int (3 : Int32)), .val (.int (2 : Int32)), .val (.double el2), .second] []) := by
        intro c2 hc2
        refine own_st (T' := T1) (g' := (mkF m 42 #[.val (.ref a0), .val (.int c2), .val (.ref w_values_a0), .val (.int (3 : Int32)), .val (.int (3 : Int32)), .val (.double el2), .second] [(.int c2)])) (fun t k => ?_) ?_
        · show Steps p.tables e below (T1.setTop (mkF m 35 #[.val (.ref a0), .val (.int c2), .val (.ref w_values_a0), .val (.int (3 : Int32)), .val (.int (2 : Int32)), .val (.double el2), .second] [])) t
          refine XS.iinc X1.here hx rfl (hb hby d4_35) rfl (l' := #[.val (.ref a0), .val (.int c2), .val (.ref w_values_a0), .val (.int (3 : Int32)), .val (.int (3 : Int32)), .val (.double el2), .second]) rfl ?_
          show Steps p.tables e below (T1.setTop (mkF m 38 #[.val (.ref a0), .val (.int c2), .val (.ref w_values_a0), .val (.int (3 : Int32)), .val (.int (3 : Int32)), .val (.double el2), .second] [])) t
          refine XS.goto X1.here hx rfl (pc0 := 38) (pc' := 13) rfl (hb hby d4_38) (by decide) (by decide) ?_
          show Steps p.tables e below (T1.setTop (mkF m 13 #[.val (.ref a0), .val (.int c2), .val (.ref w_values_a0), .val (.int (3 : Int32)), .val (.int (3 : Int32)), .val (.double el2), .second] [])) t
          refine XS.iload X1.here hx rfl (hb hby d4_13) rfl ?_
          show Steps p.tables e below (T1.setTop (mkF m 15 #[.val (.ref a0), .val (.int c2), .val (.ref w_values_a0), .val (.int (3 : Int32)), .val (.int (3 : Int32)), .val (.double el2), .second] [(.int (3 : Int32))])) t
          refine XS.iloadN X1.here hx rfl (hb hby d4_15) rfl ?_
          show Steps p.tables e below (T1.setTop (mkF m 16 #[.val (.ref a0), .val (.int c2), .val (.ref w_values_a0), .val (.int (3 : Int32)), .val (.int (3 : Int32)), .val (.double el2), .second] [(.int (3 : Int32)), (.int (3 : Int32))])) t
          refine XS.icmpYes X1.here hx rfl (pc0 := 16) (pc' := 41) rfl (hb hby d4_16) rfl (by decide) (by decide) (by decide) ?_
          show Steps p.tables e below (T1.setTop (mkF m 41 #[.val (.ref a0), .val (.int c2), .val (.ref w_values_a0), .val (.int (3 : Int32)), .val (.int (3 : Int32)), .val (.double el2), .second] [])) t
          refine XS.iloadN X1.here hx rfl (hb hby d4_41) rfl ?_
          exact k
        refine own_retI X1 hx hlk Bd.returns (hb hby d4_42) (by decide) (by decide) ?_
        show Qz3 Z a0 w_values_a0 kk_w_values_a0 el0 el1 el2 h0 n0 (some (.int c2)) T1.heap _
        rw [(e1 : T1.heap = h0)]
        exact ⟨congrArg (fun z => some (Value.int z)) (by rw [hc2, hc1, hc0]), N0, rfl⟩
      refine own_st (T' := T1) (g' := (mkF m 29 #[.val (.ref a0), .val (.int c1), .val (.ref w_values_a0), .val (.int (3 : Int32)), .val (.int (2 : Int32)), .val (.double el2), .second] [(.int (cmpValue (FP.dcmp el2 (0 : UInt64)) .l))])) (fun t k => ?_) ?_
      · show Steps p.tables e below (T1.setTop (mkF m 25 #[.val (.ref a0), .val (.int c1), .val (.ref w_values_a0), .val (.int (3 : Int32)), .val (.int (2 : Int32)), .val (.double el2), .second] [])) t
        refine XS.dload X1.here hx rfl (hb hby d4_25) rfl ?_
        show Steps p.tables e below (T1.setTop (mkF m 27 #[.val (.ref a0), .val (.int c1), .val (.ref w_values_a0), .val (.int (3 : Int32)), .val (.int (2 : Int32)), .val (.double el2), .second] [(.double el2)])) t
        refine XS.dconst0 X1.here hx rfl (hb hby d4_27) rfl ?_
        show Steps p.tables e below (T1.setTop (mkF m 28 #[.val (.ref a0), .val (.int c1), .val (.ref w_values_a0), .val (.int (3 : Int32)), .val (.int (2 : Int32)), .val (.double el2), .second] [(.double (0 : UInt64)), (.double el2)])) t
        refine XS.dcmpS X1.here hx rfl (hb hby d4_28) rfl rfl ?_
        exact k
      by_cases hc29_6 : ifCond.holds .eq (cmpValue (FP.dcmp el2 (0 : UInt64)) .l) = true
      · refine own_st (T' := T1) (g' := (mkF m 35 #[.val (.ref a0), .val (.int c1), .val (.ref w_values_a0), .val (.int (3 : Int32)), .val (.int (2 : Int32)), .val (.double el2), .second] [])) (fun t k => ?_) ?_
        · show Steps p.tables e below (T1.setTop (mkF m 29 #[.val (.ref a0), .val (.int c1), .val (.ref w_values_a0), .val (.int (3 : Int32)), .val (.int (2 : Int32)), .val (.double el2), .second] [(.int (cmpValue (FP.dcmp el2 (0 : UInt64)) .l))])) t
          refine XS.ifYes X1.here hx rfl (pc0 := 29) (pc' := 35) rfl (hb hby d4_29) rfl hc29_6 (by decide) (by decide) ?_
          exact k
        exact hJ35_2 _ (own_zy _ hc29_6)
      · refine own_st (T' := T1) (g' := (mkF m 35 #[.val (.ref a0), .val (.int (c1 + (1 : Int32))), .val (.ref w_values_a0), .val (.int (3 : Int32)), .val (.int (2 : Int32)), .val (.double el2), .second] [])) (fun t k => ?_) ?_
        · show Steps p.tables e below (T1.setTop (mkF m 29 #[.val (.ref a0), .val (.int c1), .val (.ref w_values_a0), .val (.int (3 : Int32)), .val (.int (2 : Int32)), .val (.double el2), .second] [(.int (cmpValue (FP.dcmp el2 (0 : UInt64)) .l))])) t
          refine XS.ifNo X1.here hx rfl (hb hby d4_29) rfl (Bool.eq_false_iff.mpr hc29_6) ?_
          show Steps p.tables e below (T1.setTop (mkF m 32 #[.val (.ref a0), .val (.int c1), .val (.ref w_values_a0), .val (.int (3 : Int32)), .val (.int (2 : Int32)), .val (.double el2), .second] [])) t
          refine XS.iinc X1.here hx rfl (hb hby d4_32) rfl (l' := #[.val (.ref a0), .val (.int (c1 + (1 : Int32))), .val (.ref w_values_a0), .val (.int (3 : Int32)), .val (.int (2 : Int32)), .val (.double el2), .second]) rfl ?_
          exact k
        exact hJ35_2 _ (own_zn _ hc29_6)
    refine own_st (T' := T1) (g' := (mkF m 29 #[.val (.ref a0), .val (.int c0), .val (.ref w_values_a0), .val (.int (3 : Int32)), .val (.int (1 : Int32)), .val (.double el1), .second] [(.int (cmpValue (FP.dcmp el1 (0 : UInt64)) .l))])) (fun t k => ?_) ?_
    · show Steps p.tables e below (T1.setTop (mkF m 25 #[.val (.ref a0), .val (.int c0), .val (.ref w_values_a0), .val (.int (3 : Int32)), .val (.int (1 : Int32)), .val (.double el1), .second] [])) t
      refine XS.dload X1.here hx rfl (hb hby d4_25) rfl ?_
      show Steps p.tables e below (T1.setTop (mkF m 27 #[.val (.ref a0), .val (.int c0), .val (.ref w_values_a0), .val (.int (3 : Int32)), .val (.int (1 : Int32)), .val (.double el1), .second] [(.double el1)])) t
      refine XS.dconst0 X1.here hx rfl (hb hby d4_27) rfl ?_
      show Steps p.tables e below (T1.setTop (mkF m 28 #[.val (.ref a0), .val (.int c0), .val (.ref w_values_a0), .val (.int (3 : Int32)), .val (.int (1 : Int32)), .val (.double el1), .second] [(.double (0 : UInt64)), (.double el1)])) t
      refine XS.dcmpS X1.here hx rfl (hb hby d4_28) rfl rfl ?_
      exact k
    by_cases hc29_7 : ifCond.holds .eq (cmpValue (FP.dcmp el1 (0 : UInt64)) .l) = true
    · refine own_st (T' := T1) (g' := (mkF m 35 #[.val (.ref a0), .val (.int c0), .val (.ref w_values_a0), .val (.int (3 : Int32)), .val (.int (1 : Int32)), .val (.double el1), .second] [])) (fun t k => ?_) ?_
      · show Steps p.tables e below (T1.setTop (mkF m 29 #[.val (.ref a0), .val (.int c0), .val (.ref w_values_a0), .val (.int (3 : Int32)), .val (.int (1 : Int32)), .val (.double el1), .second] [(.int (cmpValue (FP.dcmp el1 (0 : UInt64)) .l))])) t
        refine XS.ifYes X1.here hx rfl (pc0 := 29) (pc' := 35) rfl (hb hby d4_29) rfl hc29_7 (by decide) (by decide) ?_
        exact k
      exact hJ35_1 _ (own_zy _ hc29_7)
    · refine own_st (T' := T1) (g' := (mkF m 35 #[.val (.ref a0), .val (.int (c0 + (1 : Int32))), .val (.ref w_values_a0), .val (.int (3 : Int32)), .val (.int (1 : Int32)), .val (.double el1), .second] [])) (fun t k => ?_) ?_
      · show Steps p.tables e below (T1.setTop (mkF m 29 #[.val (.ref a0), .val (.int c0), .val (.ref w_values_a0), .val (.int (3 : Int32)), .val (.int (1 : Int32)), .val (.double el1), .second] [(.int (cmpValue (FP.dcmp el1 (0 : UInt64)) .l))])) t
        refine XS.ifNo X1.here hx rfl (hb hby d4_29) rfl (Bool.eq_false_iff.mpr hc29_7) ?_
        show Steps p.tables e below (T1.setTop (mkF m 32 #[.val (.ref a0), .val (.int c0), .val (.ref w_values_a0), .val (.int (3 : Int32)), .val (.int (1 : Int32)), .val (.double el1), .second] [])) t
        refine XS.iinc X1.here hx rfl (hb hby d4_32) rfl (l' := #[.val (.ref a0), .val (.int (c0 + (1 : Int32))), .val (.ref w_values_a0), .val (.int (3 : Int32)), .val (.int (1 : Int32)), .val (.double el1), .second]) rfl ?_
        exact k
      exact hJ35_1 _ (own_zn _ hc29_7)
  refine own_st (T' := T1) (g' := (mkF m 29 #[.val (.ref a0), .val (.int (0 : Int32)), .val (.ref w_values_a0), .val (.int (3 : Int32)), .val (.int (0 : Int32)), .val (.double el0), .second] [(.int (cmpValue (FP.dcmp el0 (0 : UInt64)) .l))])) (fun t k => ?_) ?_
  · show Steps p.tables e below (T1.setTop (mkF m 25 #[.val (.ref a0), .val (.int (0 : Int32)), .val (.ref w_values_a0), .val (.int (3 : Int32)), .val (.int (0 : Int32)), .val (.double el0), .second] [])) t
    refine XS.dload X1.here hx rfl (hb hby d4_25) rfl ?_
    show Steps p.tables e below (T1.setTop (mkF m 27 #[.val (.ref a0), .val (.int (0 : Int32)), .val (.ref w_values_a0), .val (.int (3 : Int32)), .val (.int (0 : Int32)), .val (.double el0), .second] [(.double el0)])) t
    refine XS.dconst0 X1.here hx rfl (hb hby d4_27) rfl ?_
    show Steps p.tables e below (T1.setTop (mkF m 28 #[.val (.ref a0), .val (.int (0 : Int32)), .val (.ref w_values_a0), .val (.int (3 : Int32)), .val (.int (0 : Int32)), .val (.double el0), .second] [(.double (0 : UInt64)), (.double el0)])) t
    refine XS.dcmpS X1.here hx rfl (hb hby d4_28) rfl rfl ?_
    exact k
  by_cases hc29_8 : ifCond.holds .eq (cmpValue (FP.dcmp el0 (0 : UInt64)) .l) = true
  · refine own_st (T' := T1) (g' := (mkF m 35 #[.val (.ref a0), .val (.int (0 : Int32)), .val (.ref w_values_a0), .val (.int (3 : Int32)), .val (.int (0 : Int32)), .val (.double el0), .second] [])) (fun t k => ?_) ?_
    · show Steps p.tables e below (T1.setTop (mkF m 29 #[.val (.ref a0), .val (.int (0 : Int32)), .val (.ref w_values_a0), .val (.int (3 : Int32)), .val (.int (0 : Int32)), .val (.double el0), .second] [(.int (cmpValue (FP.dcmp el0 (0 : UInt64)) .l))])) t
      refine XS.ifYes X1.here hx rfl (pc0 := 29) (pc' := 35) rfl (hb hby d4_29) rfl hc29_8 (by decide) (by decide) ?_
      exact k
    exact hJ35_0 _ (own_zy _ hc29_8)
  · refine own_st (T' := T1) (g' := (mkF m 35 #[.val (.ref a0), .val (.int (1 : Int32)), .val (.ref w_values_a0), .val (.int (3 : Int32)), .val (.int (0 : Int32)), .val (.double el0), .second] [])) (fun t k => ?_) ?_
    · show Steps p.tables e below (T1.setTop (mkF m 29 #[.val (.ref a0), .val (.int (0 : Int32)), .val (.ref w_values_a0), .val (.int (3 : Int32)), .val (.int (0 : Int32)), .val (.double el0), .second] [(.int (cmpValue (FP.dcmp el0 (0 : UInt64)) .l))])) t
      refine XS.ifNo X1.here hx rfl (hb hby d4_29) rfl (Bool.eq_false_iff.mpr hc29_8) ?_
      show Steps p.tables e below (T1.setTop (mkF m 32 #[.val (.ref a0), .val (.int (0 : Int32)), .val (.ref w_values_a0), .val (.int (3 : Int32)), .val (.int (0 : Int32)), .val (.double el0), .second] [])) t
      refine XS.iinc X1.here hx rfl (hb hby d4_32) rfl (l' := #[.val (.ref a0), .val (.int (1 : Int32)), .val (.ref w_values_a0), .val (.int (3 : Int32)), .val (.int (0 : Int32)), .val (.double el0), .second]) rfl ?_
      exact k
    exact hJ35_0 _ (own_zn0 hc29_8)
theorem pnz4 : plainName "com/example/winnowfold/winnowfold/math/DenseVector" = true := by first | (simp [plainName, overriddenIn]; done) | decide +kernel
theorem efz4 (m : MethodId) (a0 : Addr) : entryFrame m #[(.ref a0)] 7 = mkF m 0 #[.val (.ref a0), .unset, .unset, .unset, .unset, .unset, .unset] [] := by first | (simp [entryFrame, mkF, argsToLocals, Value.category]; done) | rfl
def Qz4 (Z : State) (a0 : Addr) (w_values_a0 : Addr) (kk_w_values_a0 : ClassId) (el0 : UInt64) (el1 : UInt64) (el2 : UInt64) (el3 : UInt64) (h0 : Heap) (n0 : Nat) (v : Option Value) (h : Heap) (L : List Loc) : Prop := v = some (.int (own_z (own_z (own_z (own_z (0 : Int32) el0) el1) el2) el3)) ∧ Fr n0 L ∧ h = h0
set_option maxRecDepth 65536 in
set_option maxHeartbeats 40000000 in
theorem rmz4 (l : Launch) (Z : State) (ar : Array Value) (hw : ∀ d ∈ tables_1, d.before ar Z = true) (ws : List Jvm.Cond) (a0 : Addr) (w_values_a0 : Addr) (kk_w_values_a0 : ClassId) (el0 : UInt64) (el1 : UInt64) (el2 : UInt64) (el3 : UInt64) (h0 : Heap) (n0 : Nat) (Z0 : n0 ≤ h0.size) (E_a0 : Exa Z h0 a0 "com/example/winnowfold/winnowfold/math/DenseVector") (F_values_a0 : Fld Z h0 a0 "com/example/winnowfold/winnowfold/math/DenseVector" "values" "[D" (.ref w_values_a0)) (V_w_values_a0 : Arv Z h0 w_values_a0 kk_w_values_a0 .double (4 : Int32) [(.double el0), (.double el1), (.double el2), (.double el3)] (.double (0 : UInt64))) :
    MetFree l (⟨"com/example/winnowfold/winnowfold/math/DenseVector", "nonZeroCount", "()I"⟩ : MethodName) (head1 (Jvm.Cond.code (⟨"com/example/winnowfold/winnowfold/math/DenseVector", "nonZeroCount", "()I"⟩ : MethodName) prog_52_method_6_code 7 (some .int) :: ws) ({ frames := 0, cells := 0, slots := 0, locals := 0 } : Room)) (fun a U => a = #[(.ref a0)] ∧ Z.Warmed39 U.vm ∧ U.heap = h0) (fun _ _ _ _ _ => True) (fun _ U o U' => ∃ v L, o = .returned v ∧ Qz4 Z a0 w_values_a0 kk_w_values_a0 el0 el1 el2 el3 h0 n0 v U'.heap L ∧ FrameEnd U o U' L ({ frames := 0, cells := 0, slots := 0, locals := 0 } : Room).cells ({ frames := 0, cells := 0, slots := 0, locals := 0 } : Room).slots) := by
  refine MetFree.of_bodySF (plainFor_of_name pnz4) hisR ?_
  intro p e s m args below meth c s₁ Bd hml0 hP hK
  obtain ⟨rfl, hZ, hh⟩ := hP
  have hx := Bd.exec
  have hby := Bd.bytes
  have hlk := Bd.notSynchronized
  have hml : c.maxLocals = 7 := hml0
  have hown : s.vm.findClass "com/example/winnowfold/winnowfold/math/DenseVector" = some m.cls := findClass_of_methodNamed Bd.named
  have hnm := (name_of_methodNamed Bd.named Bd.method).1
  have X0 : Stand p l e ({ frames := 0, cells := 0, slots := 0, locals := 0 } : Room) s m #[(.ref a0)] below meth c s₁ [] 0 0 := Stand.of_body Bd
  have e0 : s₁.heap = h0 := by rw [← hh, Bd.state]; rfl
  have N0 := Fr.nil n0
  have K0 := Keep.refl h0 []
  refine own_enter (Q := Qz4 Z a0 w_values_a0 kk_w_values_a0 el0 el1 el2 el3 h0 n0) (efz4 m a0) ?_
  refine own_st (T' := s₁) (g' := (mkF m 3 #[.val (.ref a0), .val (.int (0 : Int32)), .unset, .unset, .unset, .unset, .unset] [(.ref a0)])) (fun t k => ?_) ?_
  · show Steps p.tables e below (s₁.setTop (mkF m 0 #[.val (.ref a0), .unset, .unset, .unset, .unset, .unset, .unset] [])) t
    refine XS.iconst X0.here hx rfl (hb hby d4_0) ?_
    show Steps p.tables e below (s₁.setTop (mkF m 1 #[.val (.ref a0), .unset, .unset, .unset, .unset, .unset, .unset] [(.int (0 : Int32))])) t
    refine XS.istoreN X0.here hx rfl (hb hby d4_1) rfl (l' := #[.val (.ref a0), .val (.int (0 : Int32)), .unset, .unset, .unset, .unset, .unset]) rfl ?_
    show Steps p.tables e below (s₁.setTop (mkF m 2 #[.val (.ref a0), .val (.int (0 : Int32)), .unset, .unset, .unset, .unset, .unset] [])) t
    refine XS.aloadN X0.here hx rfl (hb hby d4_2) rfl rfl ?_
    exact k
  obtain ⟨T1, X1, e1, st1⟩ := getF X0 hx hZ hown (host := "") (Or.inl (hw _ (List.mem_of_getElem? (i := 18) rfl))) Via.refl e0 F_values_a0 (g := (mkF m 3 #[.val (.ref a0), .val (.int (0 : Int32)), .unset, .unset, .unset, .unset, .unset] [(.ref a0)])) rfl rfl (hb hby d4_3)
  refine own_st (T' := T1) (g' := (mkF m 6 #[.val (.ref a0), .val (.int (0 : Int32)), .unset, .unset, .unset, .unset, .unset] [(.ref w_values_a0)])) st1 ?_
  refine own_st (T' := T1) (g' := (mkF m 8 #[.val (.ref a0), .val (.int (0 : Int32)), .val (.ref w_values_a0), .unset, .unset, .unset, .unset] [(.ref w_values_a0)])) (fun t k => ?_) ?_
  · show Steps p.tables e below (T1.setTop (mkF m 6 #[.val (.ref a0), .val (.int (0 : Int32)), .unset, .unset, .unset, .unset, .unset] [(.ref w_values_a0)])) t
    refine XS.astoreN X1.here hx rfl (hb hby d4_6) rfl rfl (l' := #[.val (.ref a0), .val (.int (0 : Int32)), .val (.ref w_values_a0), .unset, .unset, .unset, .unset]) rfl ?_
    show Steps p.tables e below (T1.setTop (mkF m 7 #[.val (.ref a0), .val (.int (0 : Int32)), .val (.ref w_values_a0), .unset, .unset, .unset, .unset] [])) t
    refine XS.aloadN X1.here hx rfl (hb hby d4_7) rfl rfl ?_
    exact k
  obtain ⟨c2, r2a, -, r2c, r2d, -, -⟩ := id V_w_values_a0
  refine own_st (T' := T1) (g' := (mkF m 22 #[.val (.ref a0), .val (.int (0 : Int32)), .val (.ref w_values_a0), .val (.int (4 : Int32)), .val (.int (0 : Int32)), .unset, .unset] [(.int (0 : Int32)), (.ref w_values_a0)])) (fun t k => ?_) ?_
  · show Steps p.tables e below (T1.setTop (mkF m 8 #[.val (.ref a0), .val (.int (0 : Int32)), .val (.ref w_values_a0), .unset, .unset, .unset, .unset] [(.ref w_values_a0)])) t
    refine X1.arraylength hx (by rw [e1]; exact r2a.1) (State.isArrayOf_alike hZ.alike r2a.2.1) (g := (mkF m 8 #[.val (.ref a0), .val (.int (0 : Int32)), .val (.ref w_values_a0), .unset, .unset, .unset, .unset] [(.ref w_values_a0)])) rfl rfl (hb hby d4_8) _ ?_
    rw [len_of r2c r2d]
    show Steps p.tables e below (T1.setTop (mkF m 9 #[.val (.ref a0), .val (.int (0 : Int32)), .val (.ref w_values_a0), .unset, .unset, .unset, .unset] [(.int (4 : Int32))])) t
    refine XS.istoreN X1.here hx rfl (hb hby d4_9) rfl (l' := #[.val (.ref a0), .val (.int (0 : Int32)), .val (.ref w_values_a0), .val (.int (4 : Int32)), .unset, .unset, .unset]) rfl ?_
    show Steps p.tables e below (T1.setTop (mkF m 10 #[.val (.ref a0), .val (.int (0 : Int32)), .val (.ref w_values_a0), .val (.int (4 : Int32)), .unset, .unset, .unset] [])) t
    refine XS.iconst X1.here hx rfl (hb hby d4_10) ?_
    show Steps p.tables e below (T1.setTop (mkF m 11 #[.val (.ref a0), .val (.int (0 : Int32)), .val (.ref w_values_a0), .val (.int (4 : Int32)), .unset, .unset, .unset] [(.int (0 : Int32))])) t
    refine XS.istore X1.here hx rfl (hb hby d4_11) rfl (l' := #[.val (.ref a0), .val (.int (0 : Int32)), .val (.ref w_values_a0), .val (.int (4 : Int32)), .val (.int (0 : Int32)), .unset, .unset]) rfl ?_
    show Steps p.tables e below (T1.setTop (mkF m 13 #[.val (.ref a0), .val (.int (0 : Int32)), .val (.ref w_values_a0), .val (.int (4 : Int32)), .val (.int (0 : Int32)), .unset, .unset] [])) t
    refine XS.iload X1.here hx rfl (hb hby d4_13) rfl ?_
    show Steps p.tables e below (T1.setTop (mkF m 15 #[.val (.ref a0), .val (.int (0 : Int32)), .val (.ref w_values_a0), .val (.int (4 : Int32)), .val (.int (0 : Int32)), .unset, .unset] [(.int (0 : Int32))])) t
    refine XS.iloadN X1.here hx rfl (hb hby d4_15) rfl ?_
    show Steps p.tables e below (T1.setTop (mkF m 16 #[.val (.ref a0), .val (.int (0 : Int32)), .val (.ref w_values_a0), .val (.int (4 : Int32)), .val (.int (0 : Int32)), .unset, .unset] [(.int (4 : Int32)), (.int (0 : Int32))])) t
    refine XS.icmpNo X1.here hx rfl (hb hby d4_16) rfl (by decide) ?_
    show Steps p.tables e below (T1.setTop (mkF m 19 #[.val (.ref a0), .val (.int (0 : Int32)), .val (.ref w_values_a0), .val (.int (4 : Int32)), .val (.int (0 : Int32)), .unset, .unset] [])) t
    refine XS.aloadN X1.here hx rfl (hb hby d4_19) rfl rfl ?_
    show Steps p.tables e below (T1.setTop (mkF m 20 #[.val (.ref a0), .val (.int (0 : Int32)), .val (.ref w_values_a0), .val (.int (4 : Int32)), .val (.int (0 : Int32)), .unset, .unset] [(.ref w_values_a0)])) t
    refine XS.iload X1.here hx rfl (hb hby d4_20) rfl ?_
    exact k
  obtain ⟨c3, r3a, r3b, r3c, r3d, r3e, r3f⟩ := id V_w_values_a0
  have i3 : ¬ ((0 : Int32) < 0 ∨ c3.slots.size ≤ ((0 : Int32)).toNatClampNeg) := inb_of r3c ⟨by decide, by decide⟩
  have y3 : c3.slots[((0 : Int32)).toNatClampNeg]? = some (.double el0) := r3e.at i3 rfl
  refine own_st (T' := T1) (g' := (mkF m 25 #[.val (.ref a0), .val (.int (0 : Int32)), .val (.ref w_values_a0), .val (.int (4 : Int32)), .val (.int (0 : Int32)), .val (.double el0), .second] [])) (fun t k => ?_) ?_
  · show Steps p.tables e below (T1.setTop (mkF m 22 #[.val (.ref a0), .val (.int (0 : Int32)), .val (.ref w_values_a0), .val (.int (4 : Int32)), .val (.int (0 : Int32)), .unset, .unset] [(.int (0 : Int32)), (.ref w_values_a0)])) t
    refine X1.daload hx (j := (0 : Int32)) (v := (.double el0)) (by rw [e1]; exact r3a.1) (State.isArrayOf_alike hZ.alike r3a.2.1) r3a.2.2 i3 y3 (g := (mkF m 22 #[.val (.ref a0), .val (.int (0 : Int32)), .val (.ref w_values_a0), .val (.int (4 : Int32)), .val (.int (0 : Int32)), .unset, .unset] [(.int (0 : Int32)), (.ref w_values_a0)])) rfl rfl (hb hby d4_22) _ ?_
    show Steps p.tables e below (T1.setTop (mkF m 23 #[.val (.ref a0), .val (.int (0 : Int32)), .val (.ref w_values_a0), .val (.int (4 : Int32)), .val (.int (0 : Int32)), .unset, .unset] [(.double el0)])) t
    refine XS.dstore X1.here hx rfl (hb hby d4_23) rfl (l' := #[.val (.ref a0), .val (.int (0 : Int32)), .val (.ref w_values_a0), .val (.int (4 : Int32)), .val (.int (0 : Int32)), .val (.double el0), .second]) rfl ?_
    exact k
  have hJ35_0 : ∀ (c0 : Int32) (hc0 : c0 = own_z (0 : Int32) el0), own_G p e below s (Qz4 Z a0 w_values_a0 kk_w_values_a0 el0 el1 el2 el3 h0 n0) (({ frames := 0, cells := 0, slots := 0, locals := 0 } : Room)).cells (({ frames := 0, cells := 0, slots := 0, locals := 0 } : Room)).slots T1 (mkF m 35 #[.val (.ref a0), .val (.int c0), .val (.ref w_values_a0), .val (.int (4 : Int32)), .val (.int (0 : Int32)), .val (.double el0), .second] []) := by
    intro c0 hc0
    refine own_st (T' := T1) (g' := (mkF m 22 #[.val (.ref a0), .val (.int c0), .val (.ref w_values_a0), .val (.int (4 : Int32)), .val (.int (1 : Int32)), .val (.double el0), .second] [(.int (1 : Int32)), (.ref w_values_a0)])) (fun t k => ?_) ?_
    · show Steps p.tables e below (T1.setTop (mkF m 35 #[.val (.ref a0), .val (.int c0), .val (.ref w_values_a0), .val (.int (4 : Int32)), .val (.int (0 : Int32)), .val (.double el0), .second] [])) t
      refine XS.iinc X1.here hx rfl (hb hby d4_35) rfl (l' := #[.val (.ref a0), .val (.int c0), .val (.ref w_values_a0), .val (.int (4 : Int32)), .val (.int (1 : Int32)), .val (.double el0), .second]) rfl ?_
      show Steps p.tables e below (T1.setTop (mkF m 38 #[.val (.ref a0), .val (.int c0), .val (.ref w_values_a0), .val (.int (4 : Int32)), .val (.int (1 : Int32)), .val (.double el0), .second] [])) t
      refine XS.goto X1.here hx rfl (pc0 := 38) (pc' := 13) rfl (hb hby d4_38) (by decide) (by decide) ?_
      show Steps p.tables e below (T1.setTop (mkF m 13 #[.val (.ref a0), .val (.int c0), .val (.ref w_values_a0), .val (.int (4 : Int32)), .val (.int (1 : Int32)), .val (.double el0), .second] [])) t
      refine XS.iload X1.here hx rfl (hb hby d4_13) rfl ?_
      show Steps p.tables e below (T1.setTop (mkF m 15 #[.val (.ref a0), .val (.int c0), .val (.ref w_values_a0), .val (.int (4 : Int32)), .val (.int (1 : Int32)), .val (.double el0), .second] [(.int (1 : Int32))])) t
      refine XS.iloadN X1.here hx rfl (hb hby d4_15) rfl ?_
      show Steps p.tables e below (T1.setTop (mkF m 16 #[.val (.ref a0), .val (.int c0), .val (.ref w_values_a0), .val (.int (4 : Int32)), .val (.int (1 : Int32)), .val (.double el0), .second] [(.int (4 : Int32)), (.int (1 : Int32))])) t
      refine XS.icmpNo X1.here hx rfl (hb hby d4_16) rfl (by decide) ?_
      show Steps p.tables e below (T1.setTop (mkF m 19 #[.val (.ref a0), .val (.int c0), .val (.ref w_values_a0), .val (.int (4 : Int32)), .val (.int (1 : Int32)), .val (.double el0), .second] [])) t
      refine XS.aloadN X1.here hx rfl (hb hby d4_19) rfl rfl ?_
      show Steps p.tables e below (T1.setTop (mkF m 20 #[.val (.ref a0), .val (.int c0), .val (.ref w_values_a0), .val (.int (4 : Int32)), .val (.int (1 : Int32)), .val (.double el0), .second] [(.ref w_values_a0)])) t
      refine XS.iload X1.here hx rfl (hb hby d4_20) rfl ?_
      exact k
    obtain ⟨c4, r4a, r4b, r4c, r4d, r4e, r4f⟩ := id V_w_values_a0
    have i4 : ¬ ((1 : Int32) < 0 ∨ c4.slots.size ≤ ((1 : Int32)).toNatClampNeg) := inb_of r4c ⟨by decide, by decide⟩
    have y4 : c4.slots[((1 : Int32)).toNatClampNeg]? = some (.double el1) := r4e.at i4 rfl
    refine own_st (T' := T1) (g' := (mkF m 25 #[.val (.ref a0), .val (.int c0), .val (.ref w_values_a0), .val (.int (4 : Int32)), .val (.int (1 : Int32)), .val (.double el1), .second] [])) (fun t k => ?_) ?_
    · show Steps p.tables e below (T1.setTop (mkF m 22 #[.val (.ref a0), .val (.int c0), .val (.ref w_values_a0), .val (.int (4 : Int32)), .val (.int (1 : Int32)), .val (.double el0), .second] [(.int (1 : Int32)), (.ref w_values_a0)])) t
      refine X1.daload hx (j := (1 : Int32)) (v := (.double el1)) (by rw [e1]; exact r4a.1) (State.isArrayOf_alike hZ.alike r4a.2.1) r4a.2.2 i4 y4 (g := (mkF m 22 #[.val (.ref a0), .val (.int c0), .val (.ref w_values_a0), .val (.int (4 : Int32)), .val (.int (1 : Int32)), .val (.double el0), .second] [(.int (1 : Int32)), (.ref w_values_a0)])) rfl rfl (hb hby d4_22) _ ?_
      show Steps p.tables e below (T1.setTop (mkF m 23 #[.val (.ref a0), .val (.int c0), .val (.ref w_values_a0), .val (.int (4 : Int32)), .val (.int (1 : Int32)), .val (.double el0), .second] [(.double el1)])) t
      refine XS.dstore X1.here hx rfl (hb hby d4_23) rfl (l' := #[.val (.ref a0), .val (.int c0), .val (.ref w_values_a0), .val (.int (4 : Int32)), .val (.int (1 : Int32)), .val (.double el1), .second]) rfl ?_
      exact k
    have hJ35_1 : ∀ (c1 : Int32) (hc1 : c1 = own_z c0 el1), own_G p e below s (Qz4 Z a0 w_values_a0 kk_w_values_a0 el0 el1 el2 el3 h0 n0) (({ frames := 0, cells := 0, slots := 0, locals := 0 } : Room)).cells (({ frames := 0, cells := 0, slots := 0, locals := 0 } : Room)).slots T1 (mkF m 35 #[.val (.ref a0), .val (.int c1), .val (.ref w_values_a0), .val (.int (4 : Int32)), .val (.int (1 : Int32)), .val (.double el1), .second] []) := by
      intro c1 hc1
      refine own_st (T' := T1) (g' := (mkF m 22 #[.val (.ref a0), .val (.int c1), .val (.ref w_values_a0), .val (.int (4 : Int32)), .val (.int (2 : Int32)), .val (.double el1), .second] [(.int (2 : Int32)), (.ref w_values_a0)])) (fun t k => ?_) ?_
      · show Steps p.tables e below (T1.setTop (mkF m 35 #[.val (.ref a0), .val (.int c1), .val (.ref w_values_a0), .val (.int (4 : Int32)), .val (.int (1 : Int32)), .val (.double el1), .second] [])) t
        refine XS.iinc X1.here hx rfl (hb hby d4_35) rfl (l' := #[.val (.ref a0), .val (.int c1), .val (.ref w_values_a0), .val (.int (4 : Int32)), .val (.int (2 : Int32)), .val (.double el1), .second]) rfl ?_
        show Steps p.tables e below (T1.setTop (mkF m 38 #[.val (.ref a0), .val (.int c1), .val (.ref w_values_a0), .val (.int (4 : Int32)), .val (.int (2 : Int32)), .val (.double el1), .second] [])) t
        refine XS.goto X1.here hx rfl (pc0 := 38) (pc' := 13) rfl (hb hby d4_38) (by decide) (by decide) ?_
        show Steps p.tables e below (T1.setTop (mkF m 13 #[.val (.ref a0), .val (.int c1), .val (.ref w_values_a0), .val (.int (4 : Int32)), .val (.int (2 : Int32)), .val (.double el1), .second] [])) t
        refine XS.iload X1.here hx rfl (hb hby d4_13) rfl ?_
        show Steps p.tables e below (T1.setTop (mkF m 15 #[.val (.ref a0), .val (.int c1), .val (.ref w_values_a0), .val (.int (4 : Int32)), .val (.int (2 : Int32)), .val (.double el1), .second] [(.int (2 : Int32))])) t
        refine XS.iloadN X1.here hx rfl (hb hby d4_15) rfl ?_
        show Steps p.tables e below (T1.setTop (mkF m 16 #[.val (.ref a0), .val (.int c1), .val (.ref w_values_a0), .val (.int (4 : Int32)), .val (.int (2 : Int32)), .val (.double el1), .second] [(.int (4 : Int32)), (.int (2 : Int32))])) t
        refine XS.icmpNo X1.here hx rfl (hb hby d4_16) rfl (by decide) ?_
        show Steps p.tables e below (T1.setTop (mkF m 19 #[.val (.ref a0), .val (.int c1), .val (.ref w_values_a0), .val (.int (4 : Int32)), .val (.int (2 : Int32)), .val (.double el1), .second] [])) t
        refine XS.aloadN X1.here hx rfl (hb hby d4_19) rfl rfl ?_
        show Steps p.tables e below (T1.setTop (mkF m 20 #[.val (.ref a0), .val (.int c1), .val (.ref w_values_a0), .val (.int (4 : Int32)), .val (.int (2 : Int32)), .val (.double el1), .second] [(.ref w_values_a0)])) t
        refine XS.iload X1.here hx rfl (hb hby d4_20) rfl ?_
        exact k
      obtain ⟨c5, r5a, r5b, r5c, r5d, r5e, r5f⟩ := id V_w_values_a0
      have i5 : ¬ ((2 : Int32) < 0 ∨ c5.slots.size ≤ ((2 : Int32)).toNatClampNeg) := inb_of r5c ⟨by decide, by decide⟩
      have y5 : c5.slots[((2 : Int32)).toNatClampNeg]? = some (.double el2) := r5e.at i5 rfl
      refine own_st (T' := T1) (g' := (mkF m 25 #[.val (.ref a0), .val (.int c1), .val (.ref w_values_a0), .val (.int (4 : Int32)), .val (.int (2 : Int32)), .val (.double el2), .second] [])) (fun t k => ?_) ?_
      · show Steps p.tables e below (T1.setTop (mkF m 22 #[.val (.ref a0), .val (.int c1), .val (.ref w_values_a0), .val (.int (4 : Int32)), .val (.int (2 : Int32)), .val (.double el1), .second] [(.int (2 : Int32)), (.ref w_values_a0)])) t
        refine X1.daload hx (j := (2 : Int32)) (v := (.double el2)) (by rw [e1]; exact r5a.1) (State.isArrayOf_alike hZ.alike r5a.2.1) r5a.2.2 i5 y5 (g := (mkF m 22 #[.val (.ref a0), .val (.int c1), .val (.ref w_values_a0), .val (.int (4 : Int32)), .val (.int (2 : Int32)), .val (.double el1), .second] [(.int (2 : Int32)), (.ref w_values_a0)])) rfl rfl (hb hby d4_22) _ ?_
        show Steps p.tables e below (T1.setTop (mkF m 23 #[.val (.ref a0), .val (.int c1), .val (.ref w_values_a0), .val (.int (4 : Int32)), .val (.int (2 : Int32)), .val (.double el1), .second] [(.double el2)])) t
        refine XS.dstore X1.here hx rfl (hb hby d4_23) rfl (l' := #[.val (.ref a0), .val (.int c1), .val (.ref w_values_a0), .val (.int (4 : Int32)), .val (.int (2 : Int32)), .val (.double el2), .second]) rfl ?_
        exact k
      have hJ35_2 : ∀ (c2 : Int32) (hc2 : c2 = own_z c1 el2), own_G p e below s (Qz4 Z a0 w_values_a0 kk_w_values_a0 el0 el1 el2 el3 h0 n0) (({ frames := 0, cells := 0, slots := 0, locals := 0 } : Room)).cells (({ frames := 0, cells := 0, slots := 0, locals := 0 } : Room)).slots T1 (mkF m 35 #[.val (.ref a0), .val (.int c2), .val (.ref w_values_a0), .val (.int (4 : Int32)), .val (.int (2 : Int32)), .val (.double el2), .second] []) := by
        intro c2 hc2
        refine own_st (T' := T1) (g' := (mkF m 22 #[.val (.ref a0), .val (.int c2), .val (.ref w_values_a0), .val (.int (4 : Int32)), .val (.int (3 : Int32)), .val (.double el2), .second] [(.int (3 : Int32)), (.ref w_values_a0)])) (fun t k => ?_) ?_
        · show Steps p.tables e below (T1.setTop (mkF m 35 #[.val (.ref a0), .val (.int c2), .val (.ref w_values_a0), .val (.int (4 : Int32)), .val (.int (2 : Int32)), .val (.double el2), .second] [])) t
          refine XS.iinc X1.here hx rfl (hb hby d4_35) rfl (l' := #[.val (.ref a0), .val (.int c2), .val (.ref w_values_a0), .val (.int (4 : Int32)), .val (.int (3 : Int32)), .val (.double el2), .second]) rfl ?_
          show Steps p.tables e below (T1.setTop (mkF m 38 #[.val (.ref a0), .val (.int c2), .val (.ref w_values_a0), .val (.int (4 : Int32)), .val (.int (3 : Int32)), .val (.double el2), .second] [])) t
          refine XS.goto X1.here hx rfl (pc0 := 38) (pc' := 13) rfl (hb hby d4_38) (by decide) (by decide) ?_
          show Steps p.tables e below (T1.setTop (mkF m 13 #[.val (.ref a0), .val (.int c2), .val (.ref w_values_a0), .val (.int (4 : Int32)), .val (.int (3 : Int32)), .val (.double el2), .second] [])) t
          refine XS.iload X1.here hx rfl (hb hby d4_13) rfl ?_
          show Steps p.tables e below (T1.setTop (mkF m 15 #[.val (.ref a0), .val (.int c2), .val (.ref w_values_a0), .val (.int (4 : Int32)), .val (.int (3 : Int32)), .val (.double el2), .second] [(.int (3 : Int32))])) t
          refine XS.iloadN X1.here hx rfl (hb hby d4_15) rfl ?_
          show Steps p.tables e below (T1.setTop (mkF m 16 #[.val (.ref a0), .val (.int c2), .val (.ref w_values_a0), .val (.int (4 : Int32)), .val (.int (3 : Int32)), .val (.double el2), .second] [(.int (4 : Int32)), (.int (3 : Int32))])) t
          refine XS.icmpNo X1.here hx rfl (hb hby d4_16) rfl (by decide) ?_
          show Steps p.tables e below (T1.setTop (mkF m 19 #[.val (.ref a0), .val (.int c2), .val (.ref w_values_a0), .val (.int (4 : Int32)), .val (.int (3 : Int32)), .val (.double el2), .second] [])) t
          refine XS.aloadN X1.here hx rfl (hb hby d4_19) rfl rfl ?_
          show Steps p.tables e below (T1.setTop (mkF m 20 #[.val (.ref a0), .val (.int c2), .val (.ref w_values_a0), .val (.int (4 : Int32)), .val (.int (3 : Int32)), .val (.double el2), .second] [(.ref w_values_a0)])) t
          refine XS.iload X1.here hx rfl (hb hby d4_20) rfl ?_
          exact k
        obtain ⟨c6, r6a, r6b, r6c, r6d, r6e, r6f⟩ := id V_w_values_a0
        have i6 : ¬ ((3 : Int32) < 0 ∨ c6.slots.size ≤ ((3 : Int32)).toNatClampNeg) := inb_of r6c ⟨by decide, by decide⟩
        have y6 : c6.slots[((3 : Int32)).toNatClampNeg]? = some (.double el3) := r6e.at i6 rfl
        refine own_st (T' := T1) (g' := (mkF m 25 #[.val (.ref a0), .val (.int c2), .val (.ref w_values_a0), .val (.int (4 : Int32)), .val (.int (3 : Int32)), .val (.double el3), .second] [])) (fun t k => ?_) ?_
        · show Steps p.tables e below (T1.setTop (mkF m 22 #[.val (.ref a0), .val (.int c2), .val (.ref w_values_a0), .val (.int (4 : Int32)), .val (.int (3 : Int32)), .val (.double el2), .second] [(.int (3 : Int32)), (.ref w_values_a0)])) t
          refine X1.daload hx (j := (3 : Int32)) (v := (.double el3)) (by rw [e1]; exact r6a.1) (State.isArrayOf_alike hZ.alike r6a.2.1) r6a.2.2 i6 y6 (g := (mkF m 22 #[.val (.ref a0), .val (.int c2), .val (.ref w_values_a0), .val (.int (4 : Int32)), .val (.int (3 : Int32)), .val (.double el2), .second] [(.int (3 : Int32)), (.ref w_values_a0)])) rfl rfl (hb hby d4_22) _ ?_
          show Steps p.tables e below (T1.setTop (mkF m 23 #[.val (.ref a0), .val (.int c2), .val (.ref w_values_a0), .val (.int (4 : Int32)), .val (.int (3 : Int32)), .val (.double el2), .second] [(.double el3)])) t
          refine XS.dstore X1.here hx rfl (hb hby d4_23) rfl (l' := #[.val (.ref a0), .val (.int c2), .val (.ref w_values_a0), .val (.int (4 : Int32)), .val (.int (3 : Int32)), .val (.double el3), .second]) rfl ?_
          exact k
        have hJ35_3 : ∀ (c3 : Int32) (hc3 : c3 = own_z c2 el3), own_G p e below s (Qz4 Z a0 w_values_a0 kk_w_values_a0 el0 el1 el2 el3 h0 n0) (({ frames := 0, cells := 0, slots := 0, locals := 0 } : Room)).cells (({ frames := 0, cells := 0, slots := 0, locals := 0 } : Room)).slots T1 (mkF m 35 #[.val (.ref a0), .val (.int c3), .val (.ref w_values_a0), .val (.int (4 : Int32)), .val (.int (3 : Int32)), .val (.double el3), .second] []) := by
          intro c3 hc3
          refine own_st (T' := T1) (g' := (mkF m 42 #[.val (.ref a0), .val (.int c3), .val (.ref w_values_a0), .val (.int (4 : Int32)), .val (.int (4 : Int32)), .val (.double el3), .second] [(.int c3)])) (fun t k => ?_) ?_
          · show Steps p.tables e below (T1.setTop (mkF m 35 #[.val (.ref a0), .val (.int c3), .val (.ref w_values_a0), .val (.int (4 : Int32)), .val (.int (3 : Int32)), .val (.double el3), .second] [])) t
            refine XS.iinc X1.here hx rfl (hb hby d4_35) rfl (l' := #[.val (.ref a0), .val (.int c3), .val (.ref w_values_a0), .val (.int (4 : Int32)), .val (.int (4 : Int32)), .val (.double el3), .second]) rfl ?_
            show Steps p.tables e below (T1.setTop (mkF m 38 #[.val (.ref a0), .val (.int c3), .val (.ref w_values_a0), .val (.int (4 : Int32)), .val (.int (4 : Int32)), .val (.double el3), .second] [])) t
            refine XS.goto X1.here hx rfl (pc0 := 38) (pc' := 13) rfl (hb hby d4_38) (by decide) (by decide) ?_
            show Steps p.tables e below (T1.setTop (mkF m 13 #[.val (.ref a0), .val (.int c3), .val (.ref w_values_a0), .val (.int (4 : Int32)), .val (.int (4 : Int32)), .val (.double el3), .second] [])) t
            refine XS.iload X1.here hx rfl (hb hby d4_13) rfl ?_
            show Steps p.tables e below (T1.setTop (mkF m 15 #[.val (.ref a0), .val (.int c3), .val (.ref w_values_a0), .val (.int (4 : Int32)), .val (.int (4 : Int32)), .val (.double el3), .second] [(.int (4 : Int32))])) t
            refine XS.iloadN X1.here hx rfl (hb hby d4_15) rfl ?_
            show Steps p.tables e below (T1.setTop (mkF m 16 #[.val (.ref a0), .val (.int c3), .val (.ref w_values_a0), .val (.int (4 : Int32)), .val (.int (4 : Int32)), .val (.double el3), .second] [(.int (4 : Int32)), (.int (4 : Int32))])) t
            refine XS.icmpYes X1.here hx rfl (pc0 := 16) (pc' := 41) rfl (hb hby d4_16) rfl (by decide) (by decide) (by decide) ?_
            show Steps p.tables e below (T1.setTop (mkF m 41 #[.val (.ref a0), .val (.int c3), .val (.ref w_values_a0), .val (.int (4 : Int32)), .val (.int (4 : Int32)), .val (.double el3), .second] [])) t
            refine XS.iloadN X1.here hx rfl (hb hby d4_41) rfl ?_
            exact k
          refine own_retI X1 hx hlk Bd.returns (hb hby d4_42) (by decide) (by decide) ?_
          show Qz4 Z a0 w_values_a0 kk_w_values_a0 el0 el1 el2 el3 h0 n0 (some (.int c3)) T1.heap _
          rw [(e1 : T1.heap = h0)]
          exact ⟨congrArg (fun z => some (Value.int z)) (by rw [hc3, hc2, hc1, hc0]), N0, rfl⟩
        refine own_st (T' := T1) (g' := (mkF m 29 #[.val (.ref a0), .val (.int c2), .val (.ref w_values_a0), .val (.int (4 : Int32)), .val (.int (3 : Int32)), .val (.double el3), .second] [(.int (cmpValue (FP.dcmp el3 (0 : UInt64)) .l))])) (fun t k => ?_) ?_
        · show Steps p.tables e below (T1.setTop (mkF m 25 #[.val (.ref a0), .val (.int c2), .val (.ref w_values_a0), .val (.int (4 : Int32)), .val (.int (3 : Int32)), .val (.double el3), .second] [])) t
          refine XS.dload X1.here hx rfl (hb hby d4_25) rfl ?_
          show Steps p.tables e below (T1.setTop (mkF m 27 #[.val (.ref a0), .val (.int c2), .val (.ref w_values_a0), .val (.int (4 : Int32)), .val (.int (3 : Int32)), .val (.double el3), .second] [(.double el3)])) t
          refine XS.dconst0 X1.here hx rfl (hb hby d4_27) rfl ?_
          show Steps p.tables e below (T1.setTop (mkF m 28 #[.val (.ref a0), .val (.int c2), .val (.ref w_values_a0), .val (.int (4 : Int32)), .val (.int (3 : Int32)), .val (.double el3), .second] [(.double (0 : UInt64)), (.double el3)])) t
          refine XS.dcmpS X1.here hx rfl (hb hby d4_28) rfl rfl ?_
          exact k
        by_cases hc29_7 : ifCond.holds .eq (cmpValue (FP.dcmp el3 (0 : UInt64)) .l) = true
        · refine own_st (T' := T1) (g' := (mkF m 35 #[.val (.ref a0), .val (.int c2), .val (.ref w_values_a0), .val (.int (4 : Int32)), .val (.int (3 : Int32)), .val (.double el3), .second] [])) (fun t k => ?_) ?_
          · show Steps p.tables e below (T1.setTop (mkF m 29 #[.val (.ref a0), .val (.int c2), .val (.ref w_values_a0), .val (.int (4 : Int32)), .val (.int (3 : Int32)), .val (.double el3), .second] [(.int (cmpValue (FP.dcmp el3 (0 : UInt64)) .l))])) t
            refine XS.ifYes X1.here hx rfl (pc0 := 29) (pc' := 35) rfl (hb hby d4_29) rfl hc29_7 (by decide) (by decide) ?_
            exact k
          exact hJ35_3 _ (own_zy _ hc29_7)
        · refine own_st (T' := T1) (g' := (mkF m 35 #[.val (.ref a0), .val (.int (c2 + (1 : Int32))), .val (.ref w_values_a0), .val (.int (4 : Int32)), .val (.int (3 : Int32)), .val (.double el3), .second] [])) (fun t k => ?_) ?_
          · show Steps p.tables e below (T1.setTop (mkF m 29 #[.val (.ref a0), .val (.int c2), .val (.ref w_values_a0), .val (.int (4 : Int32)), .val (.int (3 : Int32)), .val (.double el3), .second] [(.int (cmpValue (FP.dcmp el3 (0 : UInt64)) .l))])) t
            refine XS.ifNo X1.here hx rfl (hb hby d4_29) rfl (Bool.eq_false_iff.mpr hc29_7) ?_
            show Steps p.tables e below (T1.setTop (mkF m 32 #[.val (.ref a0), .val (.int c2), .val (.ref w_values_a0), .val (.int (4 : Int32)), .val (.int (3 : Int32)), .val (.double el3), .second] [])) t
            refine XS.iinc X1.here hx rfl (hb hby d4_32) rfl (l' := #[.val (.ref a0), .val (.int (c2 + (1 : Int32))), .val (.ref w_values_a0), .val (.int (4 : Int32)), .val (.int (3 : Int32)), .val (.double el3), .second]) rfl ?_
            exact k
          exact hJ35_3 _ (own_zn _ hc29_7)
      refine own_st (T' := T1) (g' := (mkF m 29 #[.val (.ref a0), .val (.int c1), .val (.ref w_values_a0), .val (.int (4 : Int32)), .val (.int (2 : Int32)), .val (.double el2), .second] [(.int (cmpValue (FP.dcmp el2 (0 : UInt64)) .l))])) (fun t k => ?_) ?_
      · show Steps p.tables e below (T1.setTop (mkF m 25 #[.val (.ref a0), .val (.int c1), .val (.ref w_values_a0), .val (.int (4 : Int32)), .val (.int (2 : Int32)), .val (.double el2), .second] [])) t
        refine XS.dload X1.here hx rfl (hb hby d4_25) rfl ?_
        show Steps p.tables e below (T1.setTop (mkF m 27 #[.val (.ref a0), .val (.int c1), .val (.ref w_values_a0), .val (.int (4 : Int32)), .val (.int (2 : Int32)), .val (.double el2), .second] [(.double el2)])) t
        refine XS.dconst0 X1.here hx rfl (hb hby d4_27) rfl ?_
        show Steps p.tables e below (T1.setTop (mkF m 28 #[.val (.ref a0), .val (.int c1), .val (.ref w_values_a0), .val (.int (4 : Int32)), .val (.int (2 : Int32)), .val (.double el2), .second] [(.double (0 : UInt64)), (.double el2)])) t
        refine XS.dcmpS X1.here hx rfl (hb hby d4_28) rfl rfl ?_
        exact k
      by_cases hc29_8 : ifCond.holds .eq (cmpValue (FP.dcmp el2 (0 : UInt64)) .l) = true
      · refine own_st (T' := T1) (g' := (mkF m 35 #[.val (.ref a0), .val (.int c1), .val (.ref w_values_a0), .val (.int (4 : Int32)), .val (.int (2 : Int32)), .val (.double el2), .second] [])) (fun t k => ?_) ?_
        · show Steps p.tables e below (T1.setTop (mkF m 29 #[.val (.ref a0), .val (.int c1), .val (.ref w_values_a0), .val (.int (4 : Int32)), .val (.int (2 : Int32)), .val (.double el2), .second] [(.int (cmpValue (FP.dcmp el2 (0 : UInt64)) .l))])) t
          refine XS.ifYes X1.here hx rfl (pc0 := 29) (pc' := 35) rfl (hb hby d4_29) rfl hc29_8 (by decide) (by decide) ?_
          exact k
        exact hJ35_2 _ (own_zy _ hc29_8)
      · refine own_st (T' := T1) (g' := (mkF m 35 #[.val (.ref a0), .val (.int (c1 + (1 : Int32))), .val (.ref w_values_a0), .val (.int (4 : Int32)), .val (.int (2 : Int32)), .val (.double el2), .second] [])) (fun t k => ?_) ?_
        · show Steps p.tables e below (T1.setTop (mkF m 29 #[.val (.ref a0), .val (.int c1), .val (.ref w_values_a0), .val (.int (4 : Int32)), .val (.int (2 : Int32)), .val (.double el2), .second] [(.int (cmpValue (FP.dcmp el2 (0 : UInt64)) .l))])) t
          refine XS.ifNo X1.here hx rfl (hb hby d4_29) rfl (Bool.eq_false_iff.mpr hc29_8) ?_
          show Steps p.tables e below (T1.setTop (mkF m 32 #[.val (.ref a0), .val (.int c1), .val (.ref w_values_a0), .val (.int (4 : Int32)), .val (.int (2 : Int32)), .val (.double el2), .second] [])) t
          refine XS.iinc X1.here hx rfl (hb hby d4_32) rfl (l' := #[.val (.ref a0), .val (.int (c1 + (1 : Int32))), .val (.ref w_values_a0), .val (.int (4 : Int32)), .val (.int (2 : Int32)), .val (.double el2), .second]) rfl ?_
          exact k
        exact hJ35_2 _ (own_zn _ hc29_8)
    refine own_st (T' := T1) (g' := (mkF m 29 #[.val (.ref a0), .val (.int c0), .val (.ref w_values_a0), .val (.int (4 : Int32)), .val (.int (1 : Int32)), .val (.double el1), .second] [(.int (cmpValue (FP.dcmp el1 (0 : UInt64)) .l))])) (fun t k => ?_) ?_
    · show Steps p.tables e below (T1.setTop (mkF m 25 #[.val (.ref a0), .val (.int c0), .val (.ref w_values_a0), .val (.int (4 : Int32)), .val (.int (1 : Int32)), .val (.double el1), .second] [])) t
      refine XS.dload X1.here hx rfl (hb hby d4_25) rfl ?_
      show Steps p.tables e below (T1.setTop (mkF m 27 #[.val (.ref a0), .val (.int c0), .val (.ref w_values_a0), .val (.int (4 : Int32)), .val (.int (1 : Int32)), .val (.double el1), .second] [(.double el1)])) t
      refine XS.dconst0 X1.here hx rfl (hb hby d4_27) rfl ?_
      show Steps p.tables e below (T1.setTop (mkF m 28 #[.val (.ref a0), .val (.int c0), .val (.ref w_values_a0), .val (.int (4 : Int32)), .val (.int (1 : Int32)), .val (.double el1), .second] [(.double (0 : UInt64)), (.double el1)])) t
      refine XS.dcmpS X1.here hx rfl (hb hby d4_28) rfl rfl ?_
      exact k
    by_cases hc29_9 : ifCond.holds .eq (cmpValue (FP.dcmp el1 (0 : UInt64)) .l) = true
    · refine own_st (T' := T1) (g' := (mkF m 35 #[.val (.ref a0), .val (.int c0), .val (.ref w_values_a0), .val (.int (4 : Int32)), .val (.int (1 : Int32)), .val (.double el1), .second] [])) (fun t k => ?_) ?_
      · show Steps p.tables e below (T1.setTop (mkF m 29 #[.val (.ref a0), .val (.int c0), .val (.ref w_values_a0), .val (.int (4 : Int32)), .val (.int (1 : Int32)), .val (.double el1), .second] [(.int (cmpValue (FP.dcmp el1 (0 : UInt64)) .l))])) t
        refine XS.ifYes X1.here hx rfl (pc0 := 29) (pc' := 35) rfl (hb hby d4_29) rfl hc29_9 (by decide) (by decide) ?_
        exact k
      exact hJ35_1 _ (own_zy _ hc29_9)
    · refine own_st (T' := T1) (g' := (mkF m 35 #[.val (.ref a0), .val (.int (c0 + (1 : Int32))), .val (.ref w_values_a0), .val (.int (4 : Int32)), .val (.int (1 : Int32)), .val (.double el1), .second] [])) (fun t k => ?_) ?_
      · show Steps p.tables e below (T1.setTop (mkF m 29 #[.val (.ref a0), .val (.int c0), .val (.ref w_values_a0), .val (.int (4 : Int32)), .val (.int (1 : Int32)), .val (.double el1), .second] [(.int (cmpValue (FP.dcmp el1 (0 : UInt64)) .l))])) t
        refine XS.ifNo X1.here hx rfl (hb hby d4_29) rfl (Bool.eq_false_iff.mpr hc29_9) ?_
        show Steps p.tables e below (T1.setTop (mkF m 32 #[.val (.ref a0), .val (.int c0), .val (.ref w_values_a0), .val (.int (4 : Int32)), .val (.int (1 : Int32)), .val (.double el1), .second] [])) t
        refine XS.iinc X1.here hx rfl (hb hby d4_32) rfl (l' := #[.val (.ref a0), .val (.int (c0 + (1 : Int32))), .val (.ref w_values_a0), .val (.int (4 : Int32)), .val (.int (1 : Int32)), .val (.double el1), .second]) rfl ?_
        exact k
      exact hJ35_1 _ (own_zn _ hc29_9)
  refine own_st (T' := T1) (g' := (mkF m 29 #[.val (.ref a0), .val (.int (0 : Int32)), .val (.ref w_values_a0), .val (.int (4 : Int32)), .val (.int (0 : Int32)), .val (.double el0), .second] [(.int (cmpValue (FP.dcmp el0 (0 : UInt64)) .l))])) (fun t k => ?_) ?_
  · show Steps p.tables e below (T1.setTop (mkF m 25 #[.val (.ref a0), .val (.int (0 : Int32)), .val (.ref w_values_a0), .val (.int (4 : Int32)), .val (.int (0 : Int32)), .val (.double el0), .second] [])) t
    refine XS.dload X1.here hx rfl (hb hby d4_25) rfl ?_
    show Steps p.tables e below (T1.setTop (mkF m 27 #[.val (.ref a0), .val (.int (0 : Int32)), .val (.ref w_values_a0), .val (.int (4 : Int32)), .val (.int (0 : Int32)), .val (.double el0), .second] [(.double el0)])) t
    refine XS.dconst0 X1.here hx rfl (hb hby d4_27) rfl ?_
    show Steps p.tables e below (T1.setTop (mkF m 28 #[.val (.ref a0), .val (.int (0 : Int32)), .val (.ref w_values_a0), .val (.int (4 : Int32)), .val (.int (0 : Int32)), .val (.double el0), .second] [(.double (0 : UInt64)), (.double el0)])) t
    refine XS.dcmpS X1.here hx rfl (hb hby d4_28) rfl rfl ?_
    exact k
  by_cases hc29_10 : ifCond.holds .eq (cmpValue (FP.dcmp el0 (0 : UInt64)) .l) = true
  · refine own_st (T' := T1) (g' := (mkF m 35 #[.val (.ref a0), .val (.int (0 : Int32)), .val (.ref w_values_a0), .val (.int (4 : Int32)), .val (.int (0 : Int32)), .val (.double el0), .second] [])) (fun t k => ?_) ?_
    · show Steps p.tables e below (T1.setTop (mkF m 29 #[.val (.ref a0), .val (.int (0 : Int32)), .val (.ref w_values_a0), .val (.int (4 : Int32)), .val (.int (0 : Int32)), .val (.double el0), .second] [(.int (cmpValue (FP.dcmp el0 (0 : UInt64)) .l))])) t
      refine XS.ifYes X1.here hx rfl (pc0 := 29) (pc' := 35) rfl (hb hby d4_29) rfl hc29_10 (by decide) (by decide) ?_
      exact k
    exact hJ35_0 _ (own_zy _ hc29_10)
  · refine own_st (T' := T1) (g' := (mkF m 35 #[.val (.ref a0), .val (.int (1 : Int32)), .val (.ref w_values_a0), .val (.int (4 : Int32)), .val (.int (0 : Int32)), .val (.double el0), .second] [])) (fun t k => ?_) ?_
    · show Steps p.tables e below (T1.setTop (mkF m 29 #[.val (.ref a0), .val (.int (0 : Int32)), .val (.ref w_values_a0), .val (.int (4 : Int32)), .val (.int (0 : Int32)), .val (.double el0), .second] [(.int (cmpValue (FP.dcmp el0 (0 : UInt64)) .l))])) t
      refine XS.ifNo X1.here hx rfl (hb hby d4_29) rfl (Bool.eq_false_iff.mpr hc29_10) ?_
      show Steps p.tables e below (T1.setTop (mkF m 32 #[.val (.ref a0), .val (.int (0 : Int32)), .val (.ref w_values_a0), .val (.int (4 : Int32)), .val (.int (0 : Int32)), .val (.double el0), .second] [])) t
      refine XS.iinc X1.here hx rfl (hb hby d4_32) rfl (l' := #[.val (.ref a0), .val (.int (1 : Int32)), .val (.ref w_values_a0), .val (.int (4 : Int32)), .val (.int (0 : Int32)), .val (.double el0), .second]) rfl ?_
      exact k
    exact hJ35_0 _ (own_zn0 hc29_10)
theorem pn0 : plainName "com/example/winnowfold/winnowfold/math/DenseVectorNonZeroCountPinLaw" = true := by first | (simp [plainName, overriddenIn]; done) | decide +kernel
theorem pd0_0 : parseMethodDescriptor "(I)V" = some ⟨[.int], none⟩ := by decide +kernel
theorem pd0_1 : parseMethodDescriptor "()I" = some ⟨[], some .int⟩ := by decide +kernel
theorem pd0_2 : parseMethodDescriptor "(I)D" = some ⟨[.int], some .double⟩ := by decide +kernel
theorem pd0_3 : parseMethodDescriptor "(ID)V" = some ⟨[.int, .double], none⟩ := by decide +kernel
theorem pd0_4 : parseMethodDescriptor "(I)I" = some ⟨[.int], some .int⟩ := by decide +kernel
theorem ef0 (m : MethodId) (p0 : Int32) (p1 : Int32) (p2 : Int32) (p3 : Int32) (p4 : Int32) : entryFrame m #[(.int p0), (.int p1), (.int p2), (.int p3), (.int p4)] maxLocals = mkF m 0 #[.val (.int p0), .val (.int p1), .val (.int p2), .val (.int p3), .val (.int p4), .unset, .unset, .unset] [] := by first | (simp [entryFrame, mkF, argsToLocals, Value.category, maxLocals]; done) | rfl
def Q0 (Z : State) (p0 : Int32) (p1 : Int32) (p2 : Int32) (p3 : Int32) (p4 : Int32) (h0 : Heap) (n0 : Nat) (v : Option Value) (h : Heap) (L : List Loc) : Prop := v = some (.int (1 : Int32)) ∧ Fr n0 L
set_option maxRecDepth 65536 in
set_option maxHeartbeats 40000000 in
theorem rm0 (l : Launch) (Z : State) (ar : Array Value) (hw : ∀ d ∈ tables_1, d.before ar Z = true) (ws : List Jvm.Cond) (p0 : Int32) (p1 : Int32) (p2 : Int32) (p3 : Int32) (p4 : Int32) (h0 : Heap) (n0 : Nat) (Z0 : n0 ≤ h0.size) :
    MetFree l x (head1 (Jvm.Cond.code x code maxLocals ret :: ws) room_1) (fun a U => a = #[(.int p0), (.int p1), (.int p2), (.int p3), (.int p4)] ∧ Z.Warmed39 U.vm ∧ U.heap = h0) (fun _ _ _ _ _ => True) (fun _ U o U' => ∃ v L, o = .returned v ∧ Q0 Z p0 p1 p2 p3 p4 h0 n0 v U'.heap L ∧ FrameEnd U o U' L room_1.cells room_1.slots) := by
  refine MetFree.of_bodySF (plainFor_of_name pn0) hisR ?_
  intro p e s m args below meth c s₁ Bd hml0 hP hK
  obtain ⟨rfl, hZ, hh⟩ := hP
  have hx := Bd.exec
  have hby := Bd.bytes
  have hlk := Bd.notSynchronized
  have hml : c.maxLocals = 8 := hml0
  have hown : s.vm.findClass "com/example/winnowfold/winnowfold/math/DenseVectorNonZeroCountPinLaw" = some m.cls := findClass_of_methodNamed Bd.named
  have hnm := (name_of_methodNamed Bd.named Bd.method).1
  have X0 : Stand p l e room_1 s m #[(.int p0), (.int p1), (.int p2), (.int p3), (.int p4)] below meth c s₁ [] 0 0 := Stand.of_body Bd
  have e0 : s₁.heap = h0 := by rw [← hh, Bd.state]; rfl
  have N0 := Fr.nil n0
  have K0 := Keep.refl h0 []
  refine own_enter (Q := Q0 Z p0 p1 p2 p3 p4 h0 n0) (ef0 m p0 p1 p2 p3 p4) ?_
  refine own_st (T' := s₁) (g' := (mkF m 6 #[.val (.int p0), .val (.int p1), .val (.int p2), .val (.int p3), .val (.int p4), .unset, .unset, .unset] [(.int ((p0 &&& (2147483647 : Int32)) % (5 : Int32)))])) (fun t k => ?_) ?_
  · show Steps p.tables e below (s₁.setTop (mkF m 0 #[.val (.int p0), .val (.int p1), .val (.int p2), .val (.int p3), .val (.int p4), .unset, .unset, .unset] [])) t
    refine XS.iloadN X0.here hx rfl (hb hby at_0) rfl ?_
    show Steps p.tables e below (s₁.setTop (mkF m 1 #[.val (.int p0), .val (.int p1), .val (.int p2), .val (.int p3), .val (.int p4), .unset, .unset, .unset] [(.int p0)])) t
    refine X0.ldcInt hx hown (mvT hZ (hw _ (List.mem_of_getElem? (i := 0) rfl))) (g := (mkF m 1 #[.val (.int p0), .val (.int p1), .val (.int p2), .val (.int p3), .val (.int p4), .unset, .unset, .unset] [(.int p0)])) rfl (hb hby at_1) _ ?_
    show Steps p.tables e below (s₁.setTop (mkF m 3 #[.val (.int p0), .val (.int p1), .val (.int p2), .val (.int p3), .val (.int p4), .unset, .unset, .unset] [(.int (2147483647 : Int32)), (.int p0)])) t
    refine XS.iand X0.here hx rfl (hb hby at_3) rfl ?_
    show Steps p.tables e below (s₁.setTop (mkF m 4 #[.val (.int p0), .val (.int p1), .val (.int p2), .val (.int p3), .val (.int p4), .unset, .unset, .unset] [(.int (p0 &&& (2147483647 : Int32)))])) t
    refine XS.iconst X0.here hx rfl (hb hby at_4) ?_
    show Steps p.tables e below (s₁.setTop (mkF m 5 #[.val (.int p0), .val (.int p1), .val (.int p2), .val (.int p3), .val (.int p4), .unset, .unset, .unset] [(.int (5 : Int32)), (.int (p0 &&& (2147483647 : Int32)))])) t
    refine iremM X0 hx rfl (hb hby at_5) rfl (by decide) ?_
    exact k
  rcases own_m5 p0 with hk6_1 | hk6_2 | hk6_3 | hk6_4 | hk6_5
  · rw [hk6_1]
    refine own_st (T' := s₁) (g' := (mkF m 8 #[.val (.int p0), .val (.int p1), .val (.int p2), .val (.int p3), .val (.int p4), .val (.int (0 : Int32)), .unset, .unset] [])) (fun t k => ?_) ?_
    · show Steps p.tables e below (s₁.setTop (mkF m 6 #[.val (.int p0), .val (.int p1), .val (.int p2), .val (.int p3), .val (.int p4), .unset, .unset, .unset] [(.int (0 : Int32))])) t
      refine XS.istore X0.here hx rfl (hb hby at_6) rfl (l' := #[.val (.int p0), .val (.int p1), .val (.int p2), .val (.int p3), .val (.int p4), .val (.int (0 : Int32)), .unset, .unset]) rfl ?_
      exact k
    obtain ⟨T6, h6, X6, e6, E6, A6, D6, -, st6⟩ := newO X0 hx hZ hown (hw _ (List.mem_of_getElem? (i := 1) rfl)) (hw _ (List.mem_of_getElem? (i := 2) rfl)) (hw _ (List.mem_of_getElem? (i := 3) rfl)) e0 (g := (mkF m 8 #[.val (.int p0), .val (.int p1), .val (.int p2), .val (.int p3), .val (.int p4), .val (.int (0 : Int32)), .unset, .unset] [])) rfl (hb hby at_8) (by decide) (by decide)
    obtain ⟨b6, g6⟩ : ∃ z, z = h0.size := ⟨_, rfl⟩
    rw [← g6] at A6 D6 st6
    have g_b6 : n0 ≤ b6 := Nat.le_trans Z0 (Nat.le_of_eq g6.symm)
    have sz_b6 : h0.size ≤ b6 := Nat.le_trans K0.1 (Nat.le_of_eq g6.symm)
    have z7 := Nat.le_trans Z0 E6.1
    have k8 := K0.ext E6
    have f9 : Fld Z h6 b6 "com/example/winnowfold/winnowfold/math/AbstractVector" "size" "I" (.int (0 : Int32)) := D6 (Or.inr (hw _ (List.mem_of_getElem? (i := 16) rfl))) (ty := .int) (by decide)
    have f10 : Fld Z h6 b6 "com/example/winnowfold/winnowfold/math/DenseVector" "values" "[D" .null := D6 (Or.inr (hw _ (List.mem_of_getElem? (i := 19) rfl))) (ty := (.array .double)) (by decide)
    refine own_st (T' := T6) (g' := (mkF m 11 #[.val (.int p0), .val (.int p1), .val (.int p2), .val (.int p3), .val (.int p4), .val (.int (0 : Int32)), .unset, .unset] [(.ref b6)])) st6 ?_
    refine own_st (T' := T6) (g' := (mkF m 14 #[.val (.int p0), .val (.int p1), .val (.int p2), .val (.int p3), .val (.int p4), .val (.int (0 : Int32)), .unset, .unset] [(.int (0 : Int32)), (.ref b6), (.ref b6)])) (fun t k => ?_) ?_
    · show Steps p.tables e below (T6.setTop (mkF m 11 #[.val (.int p0), .val (.int p1), .val (.int p2), .val (.int p3), .val (.int p4), .val (.int (0 : Int32)), .unset, .unset] [(.ref b6)])) t
      refine XS.dup X6.here hx rfl (hb hby at_11) rfl rfl ?_
      show Steps p.tables e below (T6.setTop (mkF m 12 #[.val (.int p0), .val (.int p1), .val (.int p2), .val (.int p3), .val (.int p4), .val (.int (0 : Int32)), .unset, .unset] [(.ref b6), (.ref b6)])) t
      refine XS.iload X6.here hx rfl (hb hby at_12) rfl ?_
      exact k
    obtain ⟨_, _, ⟨T11, L11, k11, n11⟩, -, X11, ⟨Lc11, hQ11, l11, y11, z11⟩, st11⟩ := X6.specialBack hx (y := (⟨"com/example/winnowfold/winnowfold/math/DenseVector", "<init>", "(I)V"⟩ : MethodName)) rfl hown (mvT hZ (hw _ (List.mem_of_getElem? (i := 4) rfl))) (mvT hZ (hw _ (List.mem_of_getElem? (i := 5) rfl))) (mvT hZ (hw _ (List.mem_of_getElem? (i := 6) rfl))) (by decide) (backOf (W := 1) (rmI0 l Z ar hw [] b6 ((.int (0 : Int32))) (.null) h6 n0 z7 A6 f9 f10 g_b6) hZ (hw _ (List.mem_of_getElem? (i := 6) rfl)) (hw _ (List.mem_of_getElem? (i := 3) rfl)) (by decide) (by decide)) (g := (mkF m 14 #[.val (.int p0), .val (.int p1), .val (.int p2), .val (.int p3), .val (.int p4), .val (.int (0 : Int32)), .unset, .unset] [(.int (0 : Int32)), (.ref b6), (.ref b6)])) rfl (by rw [hml]; rfl) (Steps.refl _) (a := b6) (argsL := [(.int (0 : Int32))]) (rest := [(.ref b6)]) (lenOf pd0_0 rfl) rfl (by show 2 * 0 + _ ≤ _; exact Nat.le_of_eq rfl) (hb hby at_14) (fun _ _ => ⟨rfl, e6, (by decide : 1 + 1 ≤ _), (by decide : 2 + 0 ≤ _)⟩)
    dsimp only [Pt.U, Pt.locs, Pt.cells, Pt.slots] at X11 l11 y11 z11 st11 hQ11
    subst l11 y11 z11
    obtain ⟨x0_11, kx_x0_11, rfl, N11q, K11, sz11_x0, f12, f13, f14, f15⟩ := hQ11
    have n16 := Fr.app N0 N11q
    have ne_b6_x0_11 : b6 ≠ x0_11 := Nat.ne_of_lt (Nat.lt_of_lt_of_le A6.lt sz11_x0)
    have g_x0_11 : n0 ≤ x0_11 := Nat.le_trans z7 sz11_x0
    have sz_x0_11 : h0.size ≤ x0_11 := Nat.le_trans k8.1 sz11_x0
    have f17 := A6.keep K11
    have z18 := Nat.le_trans z7 K11.1
    have k19 := k8.trans K11 (allS (Or.inr sz_b6) all0)
    refine own_tr (T' := T11) (g' := (mkF m 17 #[.val (.int p0), .val (.int p1), .val (.int p2), .val (.int p3), .val (.int p4), .val (.int (0 : Int32)), .unset, .unset] [(.ref b6)])) st11 ?_
    refine own_st (T' := T11) (g' := (mkF m 125 #[.val (.int p0), .val (.int p1), .val (.int p2), .val (.int p3), .val (.int p4), .val (.int (0 : Int32)), .val (.ref b6), .val (.int (0 : Int32))] [(.ref b6)])) (fun t k => ?_) ?_
    · show Steps p.tables e below (T11.setTop (mkF m 17 #[.val (.int p0), .val (.int p1), .val (.int p2), .val (.int p3), .val (.int p4), .val (.int (0 : Int32)), .unset, .unset] [(.ref b6)])) t
      refine XS.astore X11.here hx rfl (hb hby at_17) rfl rfl (l' := #[.val (.int p0), .val (.int p1), .val (.int p2), .val (.int p3), .val (.int p4), .val (.int (0 : Int32)), .val (.ref b6), .unset]) rfl ?_
      show Steps p.tables e below (T11.setTop (mkF m 19 #[.val (.int p0), .val (.int p1), .val (.int p2), .val (.int p3), .val (.int p4), .val (.int (0 : Int32)), .val (.ref b6), .unset] [])) t
      refine XS.iconst X11.here hx rfl (hb hby at_19) ?_
      show Steps p.tables e below (T11.setTop (mkF m 20 #[.val (.int p0), .val (.int p1), .val (.int p2), .val (.int p3), .val (.int p4), .val (.int (0 : Int32)), .val (.ref b6), .unset] [(.int (0 : Int32))])) t
      refine XS.istore X11.here hx rfl (hb hby at_20) rfl (l' := #[.val (.int p0), .val (.int p1), .val (.int p2), .val (.int p3), .val (.int p4), .val (.int (0 : Int32)), .val (.ref b6), .val (.int (0 : Int32))]) rfl ?_
      show Steps p.tables e below (T11.setTop (mkF m 22 #[.val (.int p0), .val (.int p1), .val (.int p2), .val (.int p3), .val (.int p4), .val (.int (0 : Int32)), .val (.ref b6), .val (.int (0 : Int32))] [])) t
      refine XS.iload X11.here hx rfl (hb hby at_22) rfl ?_
      show Steps p.tables e below (T11.setTop (mkF m 24 #[.val (.int p0), .val (.int p1), .val (.int p2), .val (.int p3), .val (.int p4), .val (.int (0 : Int32)), .val (.ref b6), .val (.int (0 : Int32))] [(.int (0 : Int32))])) t
      refine XS.ifYes X11.here hx rfl (pc0 := 24) (pc' := 46) rfl (hb hby at_24) rfl (by decide) (by decide) (by decide) ?_
      show Steps p.tables e below (T11.setTop (mkF m 46 #[.val (.int p0), .val (.int p1), .val (.int p2), .val (.int p3), .val (.int p4), .val (.int (0 : Int32)), .val (.ref b6), .val (.int (0 : Int32))] [])) t
      refine XS.iload X11.here hx rfl (hb hby at_46) rfl ?_
      show Steps p.tables e below (T11.setTop (mkF m 48 #[.val (.int p0), .val (.int p1), .val (.int p2), .val (.int p3), .val (.int p4), .val (.int (0 : Int32)), .val (.ref b6), .val (.int (0 : Int32))] [(.int (0 : Int32))])) t
      refine XS.iconst X11.here hx rfl (hb hby at_48) ?_
      show Steps p.tables e below (T11.setTop (mkF m 49 #[.val (.int p0), .val (.int p1), .val (.int p2), .val (.int p3), .val (.int p4), .val (.int (0 : Int32)), .val (.ref b6), .val (.int (0 : Int32))] [(.int (1 : Int32)), (.int (0 : Int32))])) t
      refine XS.icmpYes X11.here hx rfl (pc0 := 49) (pc' := 71) rfl (hb hby at_49) rfl (by decide) (by decide) (by decide) ?_
      show Steps p.tables e below (T11.setTop (mkF m 71 #[.val (.int p0), .val (.int p1), .val (.int p2), .val (.int p3), .val (.int p4), .val (.int (0 : Int32)), .val (.ref b6), .val (.int (0 : Int32))] [])) t
      refine XS.iload X11.here hx rfl (hb hby at_71) rfl ?_
      show Steps p.tables e below (T11.setTop (mkF m 73 #[.val (.int p0), .val (.int p1), .val (.int p2), .val (.int p3), .val (.int p4), .val (.int (0 : Int32)), .val (.ref b6), .val (.int (0 : Int32))] [(.int (0 : Int32))])) t
      refine XS.iconst X11.here hx rfl (hb hby at_73) ?_
      show Steps p.tables e below (T11.setTop (mkF m 74 #[.val (.int p0), .val (.int p1), .val (.int p2), .val (.int p3), .val (.int p4), .val (.int (0 : Int32)), .val (.ref b6), .val (.int (0 : Int32))] [(.int (2 : Int32)), (.int (0 : Int32))])) t
      refine XS.icmpYes X11.here hx rfl (pc0 := 74) (pc' := 96) rfl (hb hby at_74) rfl (by decide) (by decide) (by decide) ?_
      show Steps p.tables e below (T11.setTop (mkF m 96 #[.val (.int p0), .val (.int p1), .val (.int p2), .val (.int p3), .val (.int p4), .val (.int (0 : Int32)), .val (.ref b6), .val (.int (0 : Int32))] [])) t
      refine XS.iload X11.here hx rfl (hb hby at_96) rfl ?_
      show Steps p.tables e below (T11.setTop (mkF m 98 #[.val (.int p0), .val (.int p1), .val (.int p2), .val (.int p3), .val (.int p4), .val (.int (0 : Int32)), .val (.ref b6), .val (.int (0 : Int32))] [(.int (0 : Int32))])) t
      refine XS.iconst X11.here hx rfl (hb hby at_98) ?_
      show Steps p.tables e below (T11.setTop (mkF m 99 #[.val (.int p0), .val (.int p1), .val (.int p2), .val (.int p3), .val (.int p4), .val (.int (0 : Int32)), .val (.ref b6), .val (.int (0 : Int32))] [(.int (3 : Int32)), (.int (0 : Int32))])) t
      refine XS.icmpYes X11.here hx rfl (pc0 := 99) (pc' := 123) rfl (hb hby at_99) rfl (by decide) (by decide) (by decide) ?_
      show Steps p.tables e below (T11.setTop (mkF m 123 #[.val (.int p0), .val (.int p1), .val (.int p2), .val (.int p3), .val (.int p4), .val (.int (0 : Int32)), .val (.ref b6), .val (.int (0 : Int32))] [])) t
      refine XS.aload X11.here hx rfl (hb hby at_123) rfl rfl ?_
      exact k
    obtain ⟨cq20, kq20, qa20, qb20, qc20⟩ := isOf hZ (rfl : T11.heap = T11.heap) f12
    obtain ⟨_, _, ⟨T20, L20, k20, n20⟩, -, X20, ⟨Lc20, hQ20, l20, y20, z20⟩, st20⟩ := X11.virtualBack hx (y := (⟨"com/example/winnowfold/winnowfold/math/DenseVector", "nonZeroCount", "()I"⟩ : MethodName)) (z := (⟨"com/example/winnowfold/winnowfold/math/DenseVector", "nonZeroCount", "()I"⟩ : MethodName)) hown (mvT hZ (hw _ (List.mem_of_getElem? (i := 20) rfl))) (mvT hZ (hw _ (List.mem_of_getElem? (i := 21) rfl))) (notFace_of_selects (args := #[]) (mvT hZ (hw _ (List.mem_of_getElem? (i := 23) rfl)))) (mvT hZ (hw _ (List.mem_of_getElem? (i := 23) rfl))) (mvT hZ (hw _ (List.mem_of_getElem? (i := 22) rfl))) (by decide) (backOf (W := 0) (rmz0 l Z ar hw [] b6 x0_11 kx_x0_11 T11.heap n0 z18 f12 f14 f15) hZ (hw _ (List.mem_of_getElem? (i := 24) rfl)) (hw _ (List.mem_of_getElem? (i := 3) rfl)) (by decide) (by decide)) qa20 qc20 (g := (mkF m 125 #[.val (.int p0), .val (.int p1), .val (.int p2), .val (.int p3), .val (.int p4), .val (.int (0 : Int32)), .val (.ref b6), .val (.int (0 : Int32))] [(.ref b6)])) rfl (by rw [hml]; rfl) (Steps.refl _) (argsL := []) (rest := []) (lenOf pd0_1 rfl) rfl (by show 2 * 0 + _ ≤ _; exact Nat.le_of_eq rfl) (hb hby at_125) (fun _ _ => ⟨rfl, (rfl : T11.heap = T11.heap), (by decide : 2 + 0 ≤ _), (by decide : 2 + 0 ≤ _)⟩)
    dsimp only [Pt.U, Pt.locs, Pt.cells, Pt.slots] at X20 l20 y20 z20 st20 hQ20
    subst l20 y20 z20
    obtain ⟨rfl, N20q, e20⟩ := hQ20
    have n21 := Fr.app n16 N20q
    refine own_tr (T' := T20) (g' := (mkF m 128 #[.val (.int p0), .val (.int p1), .val (.int p2), .val (.int p3), .val (.int p4), .val (.int (0 : Int32)), .val (.ref b6), .val (.int (0 : Int32))] [(.int (0 : Int32))])) st20 ?_
    refine own_st (T' := T20) (g' := (mkF m 138 #[.val (.int p0), .val (.int p1), .val (.int p2), .val (.int p3), .val (.int p4), .val (.int (0 : Int32)), .val (.ref b6), .val (.int (0 : Int32))] [(.int (1 : Int32))])) (fun t k => ?_) ?_
    · show Steps p.tables e below (T20.setTop (mkF m 128 #[.val (.int p0), .val (.int p1), .val (.int p2), .val (.int p3), .val (.int p4), .val (.int (0 : Int32)), .val (.ref b6), .val (.int (0 : Int32))] [(.int (0 : Int32))])) t
      refine XS.iload X20.here hx rfl (hb hby at_128) rfl ?_
      show Steps p.tables e below (T20.setTop (mkF m 130 #[.val (.int p0), .val (.int p1), .val (.int p2), .val (.int p3), .val (.int p4), .val (.int (0 : Int32)), .val (.ref b6), .val (.int (0 : Int32))] [(.int (0 : Int32)), (.int (0 : Int32))])) t
      refine XS.icmpNo X20.here hx rfl (hb hby at_130) rfl (by decide) ?_
      show Steps p.tables e below (T20.setTop (mkF m 133 #[.val (.int p0), .val (.int p1), .val (.int p2), .val (.int p3), .val (.int p4), .val (.int (0 : Int32)), .val (.ref b6), .val (.int (0 : Int32))] [])) t
      refine XS.iconst X20.here hx rfl (hb hby at_133) ?_
      show Steps p.tables e below (T20.setTop (mkF m 134 #[.val (.int p0), .val (.int p1), .val (.int p2), .val (.int p3), .val (.int p4), .val (.int (0 : Int32)), .val (.ref b6), .val (.int (0 : Int32))] [(.int (1 : Int32))])) t
      refine XS.goto X20.here hx rfl (pc0 := 134) (pc' := 138) rfl (hb hby at_134) (by decide) (by decide) ?_
      exact k
    refine own_retZ X20 hx hlk Bd.returns (hb hby at_138) rfl (by decide) (by decide) ?_
    show Q0 Z p0 p1 p2 p3 p4 h0 n0 (some (.int (1 : Int32))) T20.heap _
    exact ⟨rfl, n21⟩
  · rw [hk6_2]
    refine own_st (T' := s₁) (g' := (mkF m 8 #[.val (.int p0), .val (.int p1), .val (.int p2), .val (.int p3), .val (.int p4), .val (.int (1 : Int32)), .unset, .unset] [])) (fun t k => ?_) ?_
    · show Steps p.tables e below (s₁.setTop (mkF m 6 #[.val (.int p0), .val (.int p1), .val (.int p2), .val (.int p3), .val (.int p4), .unset, .unset, .unset] [(.int (1 : Int32))])) t
      refine XS.istore X0.here hx rfl (hb hby at_6) rfl (l' := #[.val (.int p0), .val (.int p1), .val (.int p2), .val (.int p3), .val (.int p4), .val (.int (1 : Int32)), .unset, .unset]) rfl ?_
      exact k
    obtain ⟨T22, h22, X22, e22, E22, A22, D22, -, st22⟩ := newO X0 hx hZ hown (hw _ (List.mem_of_getElem? (i := 1) rfl)) (hw _ (List.mem_of_getElem? (i := 2) rfl)) (hw _ (List.mem_of_getElem? (i := 3) rfl)) e0 (g := (mkF m 8 #[.val (.int p0), .val (.int p1), .val (.int p2), .val (.int p3), .val (.int p4), .val (.int (1 : Int32)), .unset, .unset] [])) rfl (hb hby at_8) (by decide) (by decide)
    obtain ⟨b22, g22⟩ : ∃ z, z = h0.size := ⟨_, rfl⟩
    rw [← g22] at A22 D22 st22
    have g_b22 : n0 ≤ b22 := Nat.le_trans Z0 (Nat.le_of_eq g22.symm)
    have sz_b22 : h0.size ≤ b22 := Nat.le_trans K0.1 (Nat.le_of_eq g22.symm)
    have z23 := Nat.le_trans Z0 E22.1
    have k24 := K0.ext E22
    have f25 : Fld Z h22 b22 "com/example/winnowfold/winnowfold/math/AbstractVector" "size" "I" (.int (0 : Int32)) := D22 (Or.inr (hw _ (List.mem_of_getElem? (i := 16) rfl))) (ty := .int) (by decide)
    have f26 : Fld Z h22 b22 "com/example/winnowfold/winnowfold/math/DenseVector" "values" "[D" .null := D22 (Or.inr (hw _ (List.mem_of_getElem? (i := 19) rfl))) (ty := (.array .double)) (by decide)
    refine own_st (T' := T22) (g' := (mkF m 11 #[.val (.int p0), .val (.int p1), .val (.int p2), .val (.int p3), .val (.int p4), .val (.int (1 : Int32)), .unset, .unset] [(.ref b22)])) st22 ?_
    refine own_st (T' := T22) (g' := (mkF m 14 #[.val (.int p0), .val (.int p1), .val (.int p2), .val (.int p3), .val (.int p4), .val (.int (1 : Int32)), .unset, .unset] [(.int (1 : Int32)), (.ref b22), (.ref b22)])) (fun t k => ?_) ?_
    · show Steps p.tables e below (T22.setTop (mkF m 11 #[.val (.int p0), .val (.int p1), .val (.int p2), .val (.int p3), .val (.int p4), .val (.int (1 : Int32)), .unset, .unset] [(.ref b22)])) t
      refine XS.dup X22.here hx rfl (hb hby at_11) rfl rfl ?_
      show Steps p.tables e below (T22.setTop (mkF m 12 #[.val (.int p0), .val (.int p1), .val (.int p2), .val (.int p3), .val (.int p4), .val (.int (1 : Int32)), .unset, .unset] [(.ref b22), (.ref b22)])) t
      refine XS.iload X22.here hx rfl (hb hby at_12) rfl ?_
      exact k
    obtain ⟨_, _, ⟨T27, L27, k27, n27⟩, -, X27, ⟨Lc27, hQ27, l27, y27, z27⟩, st27⟩ := X22.specialBack hx (y := (⟨"com/example/winnowfold/winnowfold/math/DenseVector", "<init>", "(I)V"⟩ : MethodName)) rfl hown (mvT hZ (hw _ (List.mem_of_getElem? (i := 4) rfl))) (mvT hZ (hw _ (List.mem_of_getElem? (i := 5) rfl))) (mvT hZ (hw _ (List.mem_of_getElem? (i := 6) rfl))) (by decide) (backOf (W := 1) (rmI1 l Z ar hw [] b22 ((.int (0 : Int32))) (.null) h22 n0 z23 A22 f25 f26 g_b22) hZ (hw _ (List.mem_of_getElem? (i := 6) rfl)) (hw _ (List.mem_of_getElem? (i := 3) rfl)) (by decide) (by decide)) (g := (mkF m 14 #[.val (.int p0), .val (.int p1), .val (.int p2), .val (.int p3), .val (.int p4), .val (.int (1 : Int32)), .unset, .unset] [(.int (1 : Int32)), (.ref b22), (.ref b22)])) rfl (by rw [hml]; rfl) (Steps.refl _) (a := b22) (argsL := [(.int (1 : Int32))]) (rest := [(.ref b22)]) (lenOf pd0_0 rfl) rfl (by show 2 * 0 + _ ≤ _; exact Nat.le_of_eq rfl) (hb hby at_14) (fun _ _ => ⟨rfl, e22, (by decide : 1 + 1 ≤ _), (by decide : 2 + 1 ≤ _)⟩)
    dsimp only [Pt.U, Pt.locs, Pt.cells, Pt.slots] at X27 l27 y27 z27 st27 hQ27
    subst l27 y27 z27
    obtain ⟨x0_27, kx_x0_27, rfl, N27q, K27, sz27_x0, f28, f29, f30, f31⟩ := hQ27
    have n32 := Fr.app N0 N27q
    have ne_b22_x0_27 : b22 ≠ x0_27 := Nat.ne_of_lt (Nat.lt_of_lt_of_le A22.lt sz27_x0)
    have g_x0_27 : n0 ≤ x0_27 := Nat.le_trans z23 sz27_x0
    have sz_x0_27 : h0.size ≤ x0_27 := Nat.le_trans k24.1 sz27_x0
    have f33 := A22.keep K27
    have z34 := Nat.le_trans z23 K27.1
    have k35 := k24.trans K27 (allS (Or.inr sz_b22) all0)
    refine own_tr (T' := T27) (g' := (mkF m 17 #[.val (.int p0), .val (.int p1), .val (.int p2), .val (.int p3), .val (.int p4), .val (.int (1 : Int32)), .unset, .unset] [(.ref b22)])) st27 ?_
    refine own_st (T' := T27) (g' := (mkF m 31 #[.val (.int p0), .val (.int p1), .val (.int p2), .val (.int p3), .val (.int p4), .val (.int (1 : Int32)), .val (.ref b22), .val (.int (0 : Int32))] [(.int p1), (.int (0 : Int32)), (.ref b22)])) (fun t k => ?_) ?_
    · show Steps p.tables e below (T27.setTop (mkF m 17 #[.val (.int p0), .val (.int p1), .val (.int p2), .val (.int p3), .val (.int p4), .val (.int (1 : Int32)), .unset, .unset] [(.ref b22)])) t
      refine XS.astore X27.here hx rfl (hb hby at_17) rfl rfl (l' := #[.val (.int p0), .val (.int p1), .val (.int p2), .val (.int p3), .val (.int p4), .val (.int (1 : Int32)), .val (.ref b22), .unset]) rfl ?_
      show Steps p.tables e below (T27.setTop (mkF m 19 #[.val (.int p0), .val (.int p1), .val (.int p2), .val (.int p3), .val (.int p4), .val (.int (1 : Int32)), .val (.ref b22), .unset] [])) t
      refine XS.iconst X27.here hx rfl (hb hby at_19) ?_
      show Steps p.tables e below (T27.setTop (mkF m 20 #[.val (.int p0), .val (.int p1), .val (.int p2), .val (.int p3), .val (.int p4), .val (.int (1 : Int32)), .val (.ref b22), .unset] [(.int (0 : Int32))])) t
      refine XS.istore X27.here hx rfl (hb hby at_20) rfl (l' := #[.val (.int p0), .val (.int p1), .val (.int p2), .val (.int p3), .val (.int p4), .val (.int (1 : Int32)), .val (.ref b22), .val (.int (0 : Int32))]) rfl ?_
      show Steps p.tables e below (T27.setTop (mkF m 22 #[.val (.int p0), .val (.int p1), .val (.int p2), .val (.int p3), .val (.int p4), .val (.int (1 : Int32)), .val (.ref b22), .val (.int (0 : Int32))] [])) t
      refine XS.iload X27.here hx rfl (hb hby at_22) rfl ?_
      show Steps p.tables e below (T27.setTop (mkF m 24 #[.val (.int p0), .val (.int p1), .val (.int p2), .val (.int p3), .val (.int p4), .val (.int (1 : Int32)), .val (.ref b22), .val (.int (0 : Int32))] [(.int (1 : Int32))])) t
      refine XS.ifNo X27.here hx rfl (hb hby at_24) rfl (by decide) ?_
      show Steps p.tables e below (T27.setTop (mkF m 27 #[.val (.int p0), .val (.int p1), .val (.int p2), .val (.int p3), .val (.int p4), .val (.int (1 : Int32)), .val (.ref b22), .val (.int (0 : Int32))] [])) t
      refine XS.aload X27.here hx rfl (hb hby at_27) rfl rfl ?_
      show Steps p.tables e below (T27.setTop (mkF m 29 #[.val (.int p0), .val (.int p1), .val (.int p2), .val (.int p3), .val (.int p4), .val (.int (1 : Int32)), .val (.ref b22), .val (.int (0 : Int32))] [(.ref b22)])) t
      refine XS.iconst X27.here hx rfl (hb hby at_29) ?_
      show Steps p.tables e below (T27.setTop (mkF m 30 #[.val (.int p0), .val (.int p1), .val (.int p2), .val (.int p3), .val (.int p4), .val (.int (1 : Int32)), .val (.ref b22), .val (.int (0 : Int32))] [(.int (0 : Int32)), (.ref b22)])) t
      refine XS.iloadN X27.here hx rfl (hb hby at_30) rfl ?_
      exact k
    obtain ⟨_, _, ⟨T36, L36, k36, n36⟩, -, X36, ⟨Lc36, hQ36, l36, y36, z36⟩, st36⟩ := Jvm.LawKit.callS X27 hx (y := (⟨"com/example/winnowfold/winnowfold/math/DenseVectorNonZeroCountPinLaw", "cell", "(I)D"⟩ : MethodName)) hown (mvT hZ (hw _ (List.mem_of_getElem? (i := 25) rfl))) (mvT hZ (hw _ (List.mem_of_getElem? (i := 26) rfl))) (mvT hZ (hw _ (List.mem_of_getElem? (i := 27) rfl))) (mvT hZ (hw _ (List.mem_of_getElem? (i := 28) rfl))) (by decide) (backOf (W := 2) (rm5 l Z ar hw [] p1 T27.heap n0 z34) hZ (hw _ (List.mem_of_getElem? (i := 28) rfl)) (hw _ (List.mem_of_getElem? (i := 27) rfl)) (by decide) (by decide)) (g := (mkF m 31 #[.val (.int p0), .val (.int p1), .val (.int p2), .val (.int p3), .val (.int p4), .val (.int (1 : Int32)), .val (.ref b22), .val (.int (0 : Int32))] [(.int p1), (.int (0 : Int32)), (.ref b22)])) rfl (by rw [hml]; rfl) (argsL := [(.int p1)]) (rest := [(.int (0 : Int32)), (.ref b22)]) (lenOf pd0_2 rfl) rfl (by show 2 * 0 + _ ≤ _; exact Nat.le_of_eq rfl) (hb hby at_31) (fun _ _ => ⟨rfl, (rfl : T27.heap = T27.heap), (by decide : 2 + 0 ≤ _), (by decide : 3 + 0 ≤ _)⟩)
    dsimp only [Pt.U, Pt.locs, Pt.cells, Pt.slots] at X36 l36 y36 z36 st36 hQ36
    subst l36 y36 z36
    obtain ⟨rfl, N36q, e36⟩ := hQ36
    have n37 := Fr.app n32 N36q
    refine own_st (T' := T36) (g' := (mkF m 34 #[.val (.int p0), .val (.int p1), .val (.int p2), .val (.int p3), .val (.int p4), .val (.int (1 : Int32)), .val (.ref b22), .val (.int (0 : Int32))] [(.double (own_val p1)), (.int (0 : Int32)), (.ref b22)])) st36 ?_
    obtain ⟨cq38, kq38, qa38, qb38, qc38⟩ := isOf hZ e36 f28
    obtain ⟨_, _, ⟨T38, L38, k38, n38⟩, -, X38, ⟨Lc38, hQ38, l38, y38, z38⟩, st38⟩ := X36.virtualBack hx (y := (⟨"com/example/winnowfold/winnowfold/math/DenseVector", "set", "(ID)V"⟩ : MethodName)) (z := (⟨"com/example/winnowfold/winnowfold/math/DenseVector", "set", "(ID)V"⟩ : MethodName)) hown (mvT hZ (hw _ (List.mem_of_getElem? (i := 29) rfl))) (mvT hZ (hw _ (List.mem_of_getElem? (i := 30) rfl))) (notFace_of_selects (args := #[]) (mvT hZ (hw _ (List.mem_of_getElem? (i := 32) rfl)))) (mvT hZ (hw _ (List.mem_of_getElem? (i := 32) rfl))) (mvT hZ (hw _ (List.mem_of_getElem? (i := 31) rfl))) (by decide) (backOf (W := 0) (rm6 l Z ar hw [] b22 ((0 : Int32)) ((own_val p1)) ((1 : Int32)) x0_27 kx_x0_27 ((1 : Int32)) ([(.double (0 : UInt64))]) ((.double (0 : UInt64))) T27.heap n0 z34 f28 f29 f30 f31 (by decide) (by decide) (by decide) (show ((0 : Int32)).toNatClampNeg < 1 by decide) ne_b22_x0_27 g_x0_27) hZ (hw _ (List.mem_of_getElem? (i := 33) rfl)) (hw _ (List.mem_of_getElem? (i := 3) rfl)) (by decide) (by decide)) qa38 qc38 (g := (mkF m 34 #[.val (.int p0), .val (.int p1), .val (.int p2), .val (.int p3), .val (.int p4), .val (.int (1 : Int32)), .val (.ref b22), .val (.int (0 : Int32))] [(.double (own_val p1)), (.int (0 : Int32)), (.ref b22)])) rfl (by rw [hml]; rfl) (Steps.refl _) (argsL := [(.int (0 : Int32)), (.double (own_val p1))]) (rest := []) (lenOf pd0_3 rfl) rfl (by show 2 * 0 + _ ≤ _; exact Nat.le_of_eq rfl) (hb hby at_34) (fun _ _ => ⟨rfl, e36, (by decide : 2 + 0 ≤ _), (by decide : 3 + 0 ≤ _)⟩)
    dsimp only [Pt.U, Pt.locs, Pt.cells, Pt.slots] at X38 l38 y38 z38 st38 hQ38
    subst l38 y38 z38
    obtain ⟨rfl, N38q, K38, f39⟩ := hQ38
    have n40 := Fr.app n37 N38q
    have f41 := f28.keep K38
    have f42 := f29.keep K38 (ninS ne_b22_x0_27 nin0)
    have f43 := f30.keep K38 (ninS ne_b22_x0_27 nin0)
    have f44 := own_ve (vs' := [(.double (own_val p1))]) f39 (by rw [show ((0 : Int32)).toNatClampNeg = 0 by decide]; rfl)
    have z45 := Nat.le_trans z34 K38.1
    have k46 := k35.trans K38 (allS (Or.inr sz_x0_27) all0)
    refine own_tr (T' := T38) (g' := (mkF m 37 #[.val (.int p0), .val (.int p1), .val (.int p2), .val (.int p3), .val (.int p4), .val (.int (1 : Int32)), .val (.ref b22), .val (.int (0 : Int32))] [])) st38 ?_
    refine own_st (T' := T38) (g' := (mkF m 40 #[.val (.int p0), .val (.int p1), .val (.int p2), .val (.int p3), .val (.int p4), .val (.int (1 : Int32)), .val (.ref b22), .val (.int (0 : Int32))] [(.int p1), (.int (0 : Int32))])) (fun t k => ?_) ?_
    · show Steps p.tables e below (T38.setTop (mkF m 37 #[.val (.int p0), .val (.int p1), .val (.int p2), .val (.int p3), .val (.int p4), .val (.int (1 : Int32)), .val (.ref b22), .val (.int (0 : Int32))] [])) t
      refine XS.iload X38.here hx rfl (hb hby at_37) rfl ?_
      show Steps p.tables e below (T38.setTop (mkF m 39 #[.val (.int p0), .val (.int p1), .val (.int p2), .val (.int p3), .val (.int p4), .val (.int (1 : Int32)), .val (.ref b22), .val (.int (0 : Int32))] [(.int (0 : Int32))])) t
      refine XS.iloadN X38.here hx rfl (hb hby at_39) rfl ?_
      exact k
    obtain ⟨_, _, ⟨T47, L47, k47, n47⟩, -, X47, ⟨Lc47, hQ47, l47, y47, z47⟩, st47⟩ := Jvm.LawKit.callS X38 hx (y := (⟨"com/example/winnowfold/winnowfold/math/DenseVectorNonZeroCountPinLaw", "counts", "(I)I"⟩ : MethodName)) hown (mvT hZ (hw _ (List.mem_of_getElem? (i := 48) rfl))) (mvT hZ (hw _ (List.mem_of_getElem? (i := 49) rfl))) (mvT hZ (hw _ (List.mem_of_getElem? (i := 27) rfl))) (mvT hZ (hw _ (List.mem_of_getElem? (i := 50) rfl))) (by decide) (backOf (W := 1) (rm10 l Z ar hw [] p1 T38.heap n0 z45) hZ (hw _ (List.mem_of_getElem? (i := 50) rfl)) (hw _ (List.mem_of_getElem? (i := 27) rfl)) (by decide) (by decide)) (g := (mkF m 40 #[.val (.int p0), .val (.int p1), .val (.int p2), .val (.int p3), .val (.int p4), .val (.int (1 : Int32)), .val (.ref b22), .val (.int (0 : Int32))] [(.int p1), (.int (0 : Int32))])) rfl (by rw [hml]; rfl) (argsL := [(.int p1)]) (rest := [(.int (0 : Int32))]) (lenOf pd0_4 rfl) rfl (by show 2 * 0 + _ ≤ _; exact Nat.le_of_eq rfl) (hb hby at_40) (fun _ _ => ⟨rfl, (rfl : T38.heap = T38.heap), (by decide : 2 + 0 ≤ _), (by decide : 3 + 0 ≤ _)⟩)
    dsimp only [Pt.U, Pt.locs, Pt.cells, Pt.slots] at X47 l47 y47 z47 st47 hQ47
    subst l47 y47 z47
    obtain ⟨rfl, N47q, e47⟩ := hQ47
    have n48 := Fr.app n40 N47q
    refine own_st (T' := T47) (g' := (mkF m 43 #[.val (.int p0), .val (.int p1), .val (.int p2), .val (.int p3), .val (.int p4), .val (.int (1 : Int32)), .val (.ref b22), .val (.int (0 : Int32))] [(.int (own_cnt p1)), (.int (0 : Int32))])) st47 ?_
    refine own_st (T' := T47) (g' := (mkF m 125 #[.val (.int p0), .val (.int p1), .val (.int p2), .val (.int p3), .val (.int p4), .val (.int (1 : Int32)), .val (.ref b22), .val (.int ((0 : Int32) + (own_cnt p1)))] [(.ref b22)])) (fun t k => ?_) ?_
    · show Steps p.tables e below (T47.setTop (mkF m 43 #[.val (.int p0), .val (.int p1), .val (.int p2), .val (.int p3), .val (.int p4), .val (.int (1 : Int32)), .val (.ref b22), .val (.int (0 : Int32))] [(.int (own_cnt p1)), (.int (0 : Int32))])) t
      refine XS.iadd X47.here hx rfl (hb hby at_43) rfl ?_
      show Steps p.tables e below (T47.setTop (mkF m 44 #[.val (.int p0), .val (.int p1), .val (.int p2), .val (.int p3), .val (.int p4), .val (.int (1 : Int32)), .val (.ref b22), .val (.int (0 : Int32))] [(.int ((0 : Int32) + (own_cnt p1)))])) t
      refine XS.istore X47.here hx rfl (hb hby at_44) rfl (l' := #[.val (.int p0), .val (.int p1), .val (.int p2), .val (.int p3), .val (.int p4), .val (.int (1 : Int32)), .val (.ref b22), .val (.int ((0 : Int32) + (own_cnt p1)))]) rfl ?_
      show Steps p.tables e below (T47.setTop (mkF m 46 #[.val (.int p0), .val (.int p1), .val (.int p2), .val (.int p3), .val (.int p4), .val (.int (1 : Int32)), .val (.ref b22), .val (.int ((0 : Int32) + (own_cnt p1)))] [])) t
      refine XS.iload X47.here hx rfl (hb hby at_46) rfl ?_
      show Steps p.tables e below (T47.setTop (mkF m 48 #[.val (.int p0), .val (.int p1), .val (.int p2), .val (.int p3), .val (.int p4), .val (.int (1 : Int32)), .val (.ref b22), .val (.int ((0 : Int32) + (own_cnt p1)))] [(.int (1 : Int32))])) t
      refine XS.iconst X47.here hx rfl (hb hby at_48) ?_
      show Steps p.tables e below (T47.setTop (mkF m 49 #[.val (.int p0), .val (.int p1), .val (.int p2), .val (.int p3), .val (.int p4), .val (.int (1 : Int32)), .val (.ref b22), .val (.int ((0 : Int32) + (own_cnt p1)))] [(.int (1 : Int32)), (.int (1 : Int32))])) t
      refine XS.icmpYes X47.here hx rfl (pc0 := 49) (pc' := 71) rfl (hb hby at_49) rfl (by decide) (by decide) (by decide) ?_
      show Steps p.tables e below (T47.setTop (mkF m 71 #[.val (.int p0), .val (.int p1), .val (.int p2), .val (.int p3), .val (.int p4), .val (.int (1 : Int32)), .val (.ref b22), .val (.int ((0 : Int32) + (own_cnt p1)))] [])) t
      refine XS.iload X47.here hx rfl (hb hby at_71) rfl ?_
      show Steps p.tables e below (T47.setTop (mkF m 73 #[.val (.int p0), .val (.int p1), .val (.int p2), .val (.int p3), .val (.int p4), .val (.int (1 : Int32)), .val (.ref b22), .val (.int ((0 : Int32) + (own_cnt p1)))] [(.int (1 : Int32))])) t
      refine XS.iconst X47.here hx rfl (hb hby at_73) ?_
      show Steps p.tables e below (T47.setTop (mkF m 74 #[.val (.int p0), .val (.int p1), .val (.int p2), .val (.int p3), .val (.int p4), .val (.int (1 : Int32)), .val (.ref b22), .val (.int ((0 : Int32) + (own_cnt p1)))] [(.int (2 : Int32)), (.int (1 : Int32))])) t
      refine XS.icmpYes X47.here hx rfl (pc0 := 74) (pc' := 96) rfl (hb hby at_74) rfl (by decide) (by decide) (by decide) ?_
      show Steps p.tables e below (T47.setTop (mkF m 96 #[.val (.int p0), .val (.int p1), .val (.int p2), .val (.int p3), .val (.int p4), .val (.int (1 : Int32)), .val (.ref b22), .val (.int ((0 : Int32) + (own_cnt p1)))] [])) t
      refine XS.iload X47.here hx rfl (hb hby at_96) rfl ?_
      show Steps p.tables e below (T47.setTop (mkF m 98 #[.val (.int p0), .val (.int p1), .val (.int p2), .val (.int p3), .val (.int p4), .val (.int (1 : Int32)), .val (.ref b22), .val (.int ((0 : Int32) + (own_cnt p1)))] [(.int (1 : Int32))])) t
      refine XS.iconst X47.here hx rfl (hb hby at_98) ?_
      show Steps p.tables e below (T47.setTop (mkF m 99 #[.val (.int p0), .val (.int p1), .val (.int p2), .val (.int p3), .val (.int p4), .val (.int (1 : Int32)), .val (.ref b22), .val (.int ((0 : Int32) + (own_cnt p1)))] [(.int (3 : Int32)), (.int (1 : Int32))])) t
      refine XS.icmpYes X47.here hx rfl (pc0 := 99) (pc' := 123) rfl (hb hby at_99) rfl (by decide) (by decide) (by decide) ?_
      show Steps p.tables e below (T47.setTop (mkF m 123 #[.val (.int p0), .val (.int p1), .val (.int p2), .val (.int p3), .val (.int p4), .val (.int (1 : Int32)), .val (.ref b22), .val (.int ((0 : Int32) + (own_cnt p1)))] [])) t
      refine XS.aload X47.here hx rfl (hb hby at_123) rfl rfl ?_
      exact k
    obtain ⟨cq49, kq49, qa49, qb49, qc49⟩ := isOf hZ e47 f41
    obtain ⟨_, _, ⟨T49, L49, k49, n49⟩, -, X49, ⟨Lc49, hQ49, l49, y49, z49⟩, st49⟩ := X47.virtualBack hx (y := (⟨"com/example/winnowfold/winnowfold/math/DenseVector", "nonZeroCount", "()I"⟩ : MethodName)) (z := (⟨"com/example/winnowfold/winnowfold/math/DenseVector", "nonZeroCount", "()I"⟩ : MethodName)) hown (mvT hZ (hw _ (List.mem_of_getElem? (i := 20) rfl))) (mvT hZ (hw _ (List.mem_of_getElem? (i := 21) rfl))) (notFace_of_selects (args := #[]) (mvT hZ (hw _ (List.mem_of_getElem? (i := 23) rfl)))) (mvT hZ (hw _ (List.mem_of_getElem? (i := 23) rfl))) (mvT hZ (hw _ (List.mem_of_getElem? (i := 22) rfl))) (by decide) (backOf (W := 0) (rmz1 l Z ar hw [] b22 x0_27 kx_x0_27 ((own_val p1)) T38.heap n0 z45 f41 f43 f44) hZ (hw _ (List.mem_of_getElem? (i := 24) rfl)) (hw _ (List.mem_of_getElem? (i := 3) rfl)) (by decide) (by decide)) qa49 qc49 (g := (mkF m 125 #[.val (.int p0), .val (.int p1), .val (.int p2), .val (.int p3), .val (.int p4), .val (.int (1 : Int32)), .val (.ref b22), .val (.int ((0 : Int32) + (own_cnt p1)))] [(.ref b22)])) rfl (by rw [hml]; rfl) (Steps.refl _) (argsL := []) (rest := []) (lenOf pd0_1 rfl) rfl (by show 2 * 0 + _ ≤ _; exact Nat.le_of_eq rfl) (hb hby at_125) (fun _ _ => ⟨rfl, e47, (by decide : 2 + 0 ≤ _), (by decide : 3 + 0 ≤ _)⟩)
    dsimp only [Pt.U, Pt.locs, Pt.cells, Pt.slots] at X49 l49 y49 z49 st49 hQ49
    subst l49 y49 z49
    obtain ⟨rfl, N49q, e49⟩ := hQ49
    have n50 := Fr.app n48 N49q
    refine own_tr (T' := T49) (g' := (mkF m 128 #[.val (.int p0), .val (.int p1), .val (.int p2), .val (.int p3), .val (.int p4), .val (.int (1 : Int32)), .val (.ref b22), .val (.int ((0 : Int32) + (own_cnt p1)))] [(.int (own_z (0 : Int32) (own_val p1)))])) st49 ?_
    refine own_st (T' := T49) (g' := (mkF m 138 #[.val (.int p0), .val (.int p1), .val (.int p2), .val (.int p3), .val (.int p4), .val (.int (1 : Int32)), .val (.ref b22), .val (.int ((0 : Int32) + (own_cnt p1)))] [(.int (1 : Int32))])) (fun t k => ?_) ?_
    · show Steps p.tables e below (T49.setTop (mkF m 128 #[.val (.int p0), .val (.int p1), .val (.int p2), .val (.int p3), .val (.int p4), .val (.int (1 : Int32)), .val (.ref b22), .val (.int ((0 : Int32) + (own_cnt p1)))] [(.int (own_z (0 : Int32) (own_val p1)))])) t
      refine XS.iload X49.here hx rfl (hb hby at_128) rfl ?_
      show Steps p.tables e below (T49.setTop (mkF m 130 #[.val (.int p0), .val (.int p1), .val (.int p2), .val (.int p3), .val (.int p4), .val (.int (1 : Int32)), .val (.ref b22), .val (.int ((0 : Int32) + (own_cnt p1)))] [(.int ((0 : Int32) + (own_cnt p1))), (.int (own_z (0 : Int32) (own_val p1)))])) t
      refine XS.icmpNo X49.here hx rfl (hb hby at_130) rfl (teq ((by simp only [own_zc]) : (own_z (0 : Int32) (own_val p1)) = ((0 : Int32) + (own_cnt p1)))).2 ?_
      show Steps p.tables e below (T49.setTop (mkF m 133 #[.val (.int p0), .val (.int p1), .val (.int p2), .val (.int p3), .val (.int p4), .val (.int (1 : Int32)), .val (.ref b22), .val (.int ((0 : Int32) + (own_cnt p1)))] [])) t
      refine XS.iconst X49.here hx rfl (hb hby at_133) ?_
      show Steps p.tables e below (T49.setTop (mkF m 134 #[.val (.int p0), .val (.int p1), .val (.int p2), .val (.int p3), .val (.int p4), .val (.int (1 : Int32)), .val (.ref b22), .val (.int ((0 : Int32) + (own_cnt p1)))] [(.int (1 : Int32))])) t
      refine XS.goto X49.here hx rfl (pc0 := 134) (pc' := 138) rfl (hb hby at_134) (by decide) (by decide) ?_
      exact k
    refine own_retZ X49 hx hlk Bd.returns (hb hby at_138) rfl (by decide) (by decide) ?_
    show Q0 Z p0 p1 p2 p3 p4 h0 n0 (some (.int (1 : Int32))) T49.heap _
    exact ⟨rfl, n50⟩
  · rw [hk6_3]
    refine own_st (T' := s₁) (g' := (mkF m 8 #[.val (.int p0), .val (.int p1), .val (.int p2), .val (.int p3), .val (.int p4), .val (.int (2 : Int32)), .unset, .unset] [])) (fun t k => ?_) ?_
    · show Steps p.tables e below (s₁.setTop (mkF m 6 #[.val (.int p0), .val (.int p1), .val (.int p2), .val (.int p3), .val (.int p4), .unset, .unset, .unset] [(.int (2 : Int32))])) t
      refine XS.istore X0.here hx rfl (hb hby at_6) rfl (l' := #[.val (.int p0), .val (.int p1), .val (.int p2), .val (.int p3), .val (.int p4), .val (.int (2 : Int32)), .unset, .unset]) rfl ?_
      exact k
    obtain ⟨T51, h51, X51, e51, E51, A51, D51, -, st51⟩ := newO X0 hx hZ hown (hw _ (List.mem_of_getElem? (i := 1) rfl)) (hw _ (List.mem_of_getElem? (i := 2) rfl)) (hw _ (List.mem_of_getElem? (i := 3) rfl)) e0 (g := (mkF m 8 #[.val (.int p0), .val (.int p1), .val (.int p2), .val (.int p3), .val (.int p4), .val (.int (2 : Int32)), .unset, .unset] [])) rfl (hb hby at_8) (by decide) (by decide)
    obtain ⟨b51, g51⟩ : ∃ z, z = h0.size := ⟨_, rfl⟩
    rw [← g51] at A51 D51 st51
    have g_b51 : n0 ≤ b51 := Nat.le_trans Z0 (Nat.le_of_eq g51.symm)
    have sz_b51 : h0.size ≤ b51 := Nat.le_trans K0.1 (Nat.le_of_eq g51.symm)
    have z52 := Nat.le_trans Z0 E51.1
    have k53 := K0.ext E51
    have f54 : Fld Z h51 b51 "com/example/winnowfold/winnowfold/math/AbstractVector" "size" "I" (.int (0 : Int32)) := D51 (Or.inr (hw _ (List.mem_of_getElem? (i := 16) rfl))) (ty := .int) (by decide)
    have f55 : Fld Z h51 b51 "com/example/winnowfold/winnowfold/math/DenseVector" "values" "[D" .null := D51 (Or.inr (hw _ (List.mem_of_getElem? (i := 19) rfl))) (ty := (.array .double)) (by decide)
    refine own_st (T' := T51) (g' := (mkF m 11 #[.val (.int p0), .val (.int p1), .val (.int p2), .val (.int p3), .val (.int p4), .val (.int (2 : Int32)), .unset, .unset] [(.ref b51)])) st51 ?_
    refine own_st (T' := T51) (g' := (mkF m 14 #[.val (.int p0), .val (.int p1), .val (.int p2), .val (.int p3), .val (.int p4), .val (.int (2 : Int32)), .unset, .unset] [(.int (2 : Int32)), (.ref b51), (.ref b51)])) (fun t k => ?_) ?_
    · show Steps p.tables e below (T51.setTop (mkF m 11 #[.val (.int p0), .val (.int p1), .val (.int p2), .val (.int p3), .val (.int p4), .val (.int (2 : Int32)), .unset, .unset] [(.ref b51)])) t
      refine XS.dup X51.here hx rfl (hb hby at_11) rfl rfl ?_
      show Steps p.tables e below (T51.setTop (mkF m 12 #[.val (.int p0), .val (.int p1), .val (.int p2), .val (.int p3), .val (.int p4), .val (.int (2 : Int32)), .unset, .unset] [(.ref b51), (.ref b51)])) t
      refine XS.iload X51.here hx rfl (hb hby at_12) rfl ?_
      exact k
    obtain ⟨_, _, ⟨T56, L56, k56, n56⟩, -, X56, ⟨Lc56, hQ56, l56, y56, z56⟩, st56⟩ := X51.specialBack hx (y := (⟨"com/example/winnowfold/winnowfold/math/DenseVector", "<init>", "(I)V"⟩ : MethodName)) rfl hown (mvT hZ (hw _ (List.mem_of_getElem? (i := 4) rfl))) (mvT hZ (hw _ (List.mem_of_getElem? (i := 5) rfl))) (mvT hZ (hw _ (List.mem_of_getElem? (i := 6) rfl))) (by decide) (backOf (W := 1) (rmI2 l Z ar hw [] b51 ((.int (0 : Int32))) (.null) h51 n0 z52 A51 f54 f55 g_b51) hZ (hw _ (List.mem_of_getElem? (i := 6) rfl)) (hw _ (List.mem_of_getElem? (i := 3) rfl)) (by decide) (by decide)) (g := (mkF m 14 #[.val (.int p0), .val (.int p1), .val (.int p2), .val (.int p3), .val (.int p4), .val (.int (2 : Int32)), .unset, .unset] [(.int (2 : Int32)), (.ref b51), (.ref b51)])) rfl (by rw [hml]; rfl) (Steps.refl _) (a := b51) (argsL := [(.int (2 : Int32))]) (rest := [(.ref b51)]) (lenOf pd0_0 rfl) rfl (by show 2 * 0 + _ ≤ _; exact Nat.le_of_eq rfl) (hb hby at_14) (fun _ _ => ⟨rfl, e51, (by decide : 1 + 1 ≤ _), (by decide : 2 + 2 ≤ _)⟩)
    dsimp only [Pt.U, Pt.locs, Pt.cells, Pt.slots] at X56 l56 y56 z56 st56 hQ56
    subst l56 y56 z56
    obtain ⟨x0_56, kx_x0_56, rfl, N56q, K56, sz56_x0, f57, f58, f59, f60⟩ := hQ56
    have n61 := Fr.app N0 N56q
    have ne_b51_x0_56 : b51 ≠ x0_56 := Nat.ne_of_lt (Nat.lt_of_lt_of_le A51.lt sz56_x0)
    have g_x0_56 : n0 ≤ x0_56 := Nat.le_trans z52 sz56_x0
    have sz_x0_56 : h0.size ≤ x0_56 := Nat.le_trans k53.1 sz56_x0
    have f62 := A51.keep K56
    have z63 := Nat.le_trans z52 K56.1
    have k64 := k53.trans K56 (allS (Or.inr sz_b51) all0)
    refine own_tr (T' := T56) (g' := (mkF m 17 #[.val (.int p0), .val (.int p1), .val (.int p2), .val (.int p3), .val (.int p4), .val (.int (2 : Int32)), .unset, .unset] [(.ref b51)])) st56 ?_
    refine own_st (T' := T56) (g' := (mkF m 31 #[.val (.int p0), .val (.int p1), .val (.int p2), .val (.int p3), .val (.int p4), .val (.int (2 : Int32)), .val (.ref b51), .val (.int (0 : Int32))] [(.int p1), (.int (0 : Int32)), (.ref b51)])) (fun t k => ?_) ?_
    · show Steps p.tables e below (T56.setTop (mkF m 17 #[.val (.int p0), .val (.int p1), .val (.int p2), .val (.int p3), .val (.int p4), .val (.int (2 : Int32)), .unset, .unset] [(.ref b51)])) t
      refine XS.astore X56.here hx rfl (hb hby at_17) rfl rfl (l' := #[.val (.int p0), .val (.int p1), .val (.int p2), .val (.int p3), .val (.int p4), .val (.int (2 : Int32)), .val (.ref b51), .unset]) rfl ?_
      show Steps p.tables e below (T56.setTop (mkF m 19 #[.val (.int p0), .val (.int p1), .val (.int p2), .val (.int p3), .val (.int p4), .val (.int (2 : Int32)), .val (.ref b51), .unset] [])) t
      refine XS.iconst X56.here hx rfl (hb hby at_19) ?_
      show Steps p.tables e below (T56.setTop (mkF m 20 #[.val (.int p0), .val (.int p1), .val (.int p2), .val (.int p3), .val (.int p4), .val (.int (2 : Int32)), .val (.ref b51), .unset] [(.int (0 : Int32))])) t
      refine XS.istore X56.here hx rfl (hb hby at_20) rfl (l' := #[.val (.int p0), .val (.int p1), .val (.int p2), .val (.int p3), .val (.int p4), .val (.int (2 : Int32)), .val (.ref b51), .val (.int (0 : Int32))]) rfl ?_
      show Steps p.tables e below (T56.setTop (mkF m 22 #[.val (.int p0), .val (.int p1), .val (.int p2), .val (.int p3), .val (.int p4), .val (.int (2 : Int32)), .val (.ref b51), .val (.int (0 : Int32))] [])) t
      refine XS.iload X56.here hx rfl (hb hby at_22) rfl ?_
      show Steps p.tables e below (T56.setTop (mkF m 24 #[.val (.int p0), .val (.int p1), .val (.int p2), .val (.int p3), .val (.int p4), .val (.int (2 : Int32)), .val (.ref b51), .val (.int (0 : Int32))] [(.int (2 : Int32))])) t
      refine XS.ifNo X56.here hx rfl (hb hby at_24) rfl (by decide) ?_
      show Steps p.tables e below (T56.setTop (mkF m 27 #[.val (.int p0), .val (.int p1), .val (.int p2), .val (.int p3), .val (.int p4), .val (.int (2 : Int32)), .val (.ref b51), .val (.int (0 : Int32))] [])) t
      refine XS.aload X56.here hx rfl (hb hby at_27) rfl rfl ?_
      show Steps p.tables e below (T56.setTop (mkF m 29 #[.val (.int p0), .val (.int p1), .val (.int p2), .val (.int p3), .val (.int p4), .val (.int (2 : Int32)), .val (.ref b51), .val (.int (0 : Int32))] [(.ref b51)])) t
      refine XS.iconst X56.here hx rfl (hb hby at_29) ?_
      show Steps p.tables e below (T56.setTop (mkF m 30 #[.val (.int p0), .val (.int p1), .val (.int p2), .val (.int p3), .val (.int p4), .val (.int (2 : Int32)), .val (.ref b51), .val (.int (0 : Int32))] [(.int (0 : Int32)), (.ref b51)])) t
      refine XS.iloadN X56.here hx rfl (hb hby at_30) rfl ?_
      exact k
    obtain ⟨_, _, ⟨T65, L65, k65, n65⟩, -, X65, ⟨Lc65, hQ65, l65, y65, z65⟩, st65⟩ := Jvm.LawKit.callS X56 hx (y := (⟨"com/example/winnowfold/winnowfold/math/DenseVectorNonZeroCountPinLaw", "cell", "(I)D"⟩ : MethodName)) hown (mvT hZ (hw _ (List.mem_of_getElem? (i := 25) rfl))) (mvT hZ (hw _ (List.mem_of_getElem? (i := 26) rfl))) (mvT hZ (hw _ (List.mem_of_getElem? (i := 27) rfl))) (mvT hZ (hw _ (List.mem_of_getElem? (i := 28) rfl))) (by decide) (backOf (W := 2) (rm5 l Z ar hw [] p1 T56.heap n0 z63) hZ (hw _ (List.mem_of_getElem? (i := 28) rfl)) (hw _ (List.mem_of_getElem? (i := 27) rfl)) (by decide) (by decide)) (g := (mkF m 31 #[.val (.int p0), .val (.int p1), .val (.int p2), .val (.int p3), .val (.int p4), .val (.int (2 : Int32)), .val (.ref b51), .val (.int (0 : Int32))] [(.int p1), (.int (0 : Int32)), (.ref b51)])) rfl (by rw [hml]; rfl) (argsL := [(.int p1)]) (rest := [(.int (0 : Int32)), (.ref b51)]) (lenOf pd0_2 rfl) rfl (by show 2 * 0 + _ ≤ _; exact Nat.le_of_eq rfl) (hb hby at_31) (fun _ _ => ⟨rfl, (rfl : T56.heap = T56.heap), (by decide : 2 + 0 ≤ _), (by decide : 4 + 0 ≤ _)⟩)
    dsimp only [Pt.U, Pt.locs, Pt.cells, Pt.slots] at X65 l65 y65 z65 st65 hQ65
    subst l65 y65 z65
    obtain ⟨rfl, N65q, e65⟩ := hQ65
    have n66 := Fr.app n61 N65q
    refine own_st (T' := T65) (g' := (mkF m 34 #[.val (.int p0), .val (.int p1), .val (.int p2), .val (.int p3), .val (.int p4), .val (.int (2 : Int32)), .val (.ref b51), .val (.int (0 : Int32))] [(.double (own_val p1)), (.int (0 : Int32)), (.ref b51)])) st65 ?_
    obtain ⟨cq67, kq67, qa67, qb67, qc67⟩ := isOf hZ e65 f57
    obtain ⟨_, _, ⟨T67, L67, k67, n67⟩, -, X67, ⟨Lc67, hQ67, l67, y67, z67⟩, st67⟩ := X65.virtualBack hx (y := (⟨"com/example/winnowfold/winnowfold/math/DenseVector", "set", "(ID)V"⟩ : MethodName)) (z := (⟨"com/example/winnowfold/winnowfold/math/DenseVector", "set", "(ID)V"⟩ : MethodName)) hown (mvT hZ (hw _ (List.mem_of_getElem? (i := 29) rfl))) (mvT hZ (hw _ (List.mem_of_getElem? (i := 30) rfl))) (notFace_of_selects (args := #[]) (mvT hZ (hw _ (List.mem_of_getElem? (i := 32) rfl)))) (mvT hZ (hw _ (List.mem_of_getElem? (i := 32) rfl))) (mvT hZ (hw _ (List.mem_of_getElem? (i := 31) rfl))) (by decide) (backOf (W := 0) (rm6 l Z ar hw [] b51 ((0 : Int32)) ((own_val p1)) ((2 : Int32)) x0_56 kx_x0_56 ((2 : Int32)) ([(.double (0 : UInt64)), (.double (0 : UInt64))]) ((.double (0 : UInt64))) T56.heap n0 z63 f57 f58 f59 f60 (by decide) (by decide) (by decide) (show ((0 : Int32)).toNatClampNeg < 2 by decide) ne_b51_x0_56 g_x0_56) hZ (hw _ (List.mem_of_getElem? (i := 33) rfl)) (hw _ (List.mem_of_getElem? (i := 3) rfl)) (by decide) (by decide)) qa67 qc67 (g := (mkF m 34 #[.val (.int p0), .val (.int p1), .val (.int p2), .val (.int p3), .val (.int p4), .val (.int (2 : Int32)), .val (.ref b51), .val (.int (0 : Int32))] [(.double (own_val p1)), (.int (0 : Int32)), (.ref b51)])) rfl (by rw [hml]; rfl) (Steps.refl _) (argsL := [(.int (0 : Int32)), (.double (own_val p1))]) (rest := []) (lenOf pd0_3 rfl) rfl (by show 2 * 0 + _ ≤ _; exact Nat.le_of_eq rfl) (hb hby at_34) (fun _ _ => ⟨rfl, e65, (by decide : 2 + 0 ≤ _), (by decide : 4 + 0 ≤ _)⟩)
    dsimp only [Pt.U, Pt.locs, Pt.cells, Pt.slots] at X67 l67 y67 z67 st67 hQ67
    subst l67 y67 z67
    obtain ⟨rfl, N67q, K67, f68⟩ := hQ67
    have n69 := Fr.app n66 N67q
    have f70 := f57.keep K67
    have f71 := f58.keep K67 (ninS ne_b51_x0_56 nin0)
    have f72 := f59.keep K67 (ninS ne_b51_x0_56 nin0)
    have f73 := own_ve (vs' := [(.double (own_val p1)), (.double (0 : UInt64))]) f68 (by rw [show ((0 : Int32)).toNatClampNeg = 0 by decide]; rfl)
    have z74 := Nat.le_trans z63 K67.1
    have k75 := k64.trans K67 (allS (Or.inr sz_x0_56) all0)
    refine own_tr (T' := T67) (g' := (mkF m 37 #[.val (.int p0), .val (.int p1), .val (.int p2), .val (.int p3), .val (.int p4), .val (.int (2 : Int32)), .val (.ref b51), .val (.int (0 : Int32))] [])) st67 ?_
    refine own_st (T' := T67) (g' := (mkF m 40 #[.val (.int p0), .val (.int p1), .val (.int p2), .val (.int p3), .val (.int p4), .val (.int (2 : Int32)), .val (.ref b51), .val (.int (0 : Int32))] [(.int p1), (.int (0 : Int32))])) (fun t k => ?_) ?_
    · show Steps p.tables e below (T67.setTop (mkF m 37 #[.val (.int p0), .val (.int p1), .val (.int p2), .val (.int p3), .val (.int p4), .val (.int (2 : Int32)), .val (.ref b51), .val (.int (0 : Int32))] [])) t
      refine XS.iload X67.here hx rfl (hb hby at_37) rfl ?_
      show Steps p.tables e below (T67.setTop (mkF m 39 #[.val (.int p0), .val (.int p1), .val (.int p2), .val (.int p3), .val (.int p4), .val (.int (2 : Int32)), .val (.ref b51), .val (.int (0 : Int32))] [(.int (0 : Int32))])) t
      refine XS.iloadN X67.here hx rfl (hb hby at_39) rfl ?_
      exact k
    obtain ⟨_, _, ⟨T76, L76, k76, n76⟩, -, X76, ⟨Lc76, hQ76, l76, y76, z76⟩, st76⟩ := Jvm.LawKit.callS X67 hx (y := (⟨"com/example/winnowfold/winnowfold/math/DenseVectorNonZeroCountPinLaw", "counts", "(I)I"⟩ : MethodName)) hown (mvT hZ (hw _ (List.mem_of_getElem? (i := 48) rfl))) (mvT hZ (hw _ (List.mem_of_getElem? (i := 49) rfl))) (mvT hZ (hw _ (List.mem_of_getElem? (i := 27) rfl))) (mvT hZ (hw _ (List.mem_of_getElem? (i := 50) rfl))) (by decide) (backOf (W := 1) (rm10 l Z ar hw [] p1 T67.heap n0 z74) hZ (hw _ (List.mem_of_getElem? (i := 50) rfl)) (hw _ (List.mem_of_getElem? (i := 27) rfl)) (by decide) (by decide)) (g := (mkF m 40 #[.val (.int p0), .val (.int p1), .val (.int p2), .val (.int p3), .val (.int p4), .val (.int (2 : Int32)), .val (.ref b51), .val (.int (0 : Int32))] [(.int p1), (.int (0 : Int32))])) rfl (by rw [hml]; rfl) (argsL := [(.int p1)]) (rest := [(.int (0 : Int32))]) (lenOf pd0_4 rfl) rfl (by show 2 * 0 + _ ≤ _; exact Nat.le_of_eq rfl) (hb hby at_40) (fun _ _ => ⟨rfl, (rfl : T67.heap = T67.heap), (by decide : 2 + 0 ≤ _), (by decide : 4 + 0 ≤ _)⟩)
    dsimp only [Pt.U, Pt.locs, Pt.cells, Pt.slots] at X76 l76 y76 z76 st76 hQ76
    subst l76 y76 z76
    obtain ⟨rfl, N76q, e76⟩ := hQ76
    have n77 := Fr.app n69 N76q
    refine own_st (T' := T76) (g' := (mkF m 43 #[.val (.int p0), .val (.int p1), .val (.int p2), .val (.int p3), .val (.int p4), .val (.int (2 : Int32)), .val (.ref b51), .val (.int (0 : Int32))] [(.int (own_cnt p1)), (.int (0 : Int32))])) st76 ?_
    refine own_st (T' := T76) (g' := (mkF m 56 #[.val (.int p0), .val (.int p1), .val (.int p2), .val (.int p3), .val (.int p4), .val (.int (2 : Int32)), .val (.ref b51), .val (.int ((0 : Int32) + (own_cnt p1)))] [(.int p2), (.int (1 : Int32)), (.ref b51)])) (fun t k => ?_) ?_
    · show Steps p.tables e below (T76.setTop (mkF m 43 #[.val (.int p0), .val (.int p1), .val (.int p2), .val (.int p3), .val (.int p4), .val (.int (2 : Int32)), .val (.ref b51), .val (.int (0 : Int32))] [(.int (own_cnt p1)), (.int (0 : Int32))])) t
      refine XS.iadd X76.here hx rfl (hb hby at_43) rfl ?_
      show Steps p.tables e below (T76.setTop (mkF m 44 #[.val (.int p0), .val (.int p1), .val (.int p2), .val (.int p3), .val (.int p4), .val (.int (2 : Int32)), .val (.ref b51), .val (.int (0 : Int32))] [(.int ((0 : Int32) + (own_cnt p1)))])) t
      refine XS.istore X76.here hx rfl (hb hby at_44) rfl (l' := #[.val (.int p0), .val (.int p1), .val (.int p2), .val (.int p3), .val (.int p4), .val (.int (2 : Int32)), .val (.ref b51), .val (.int ((0 : Int32) + (own_cnt p1)))]) rfl ?_
      show Steps p.tables e below (T76.setTop (mkF m 46 #[.val (.int p0), .val (.int p1), .val (.int p2), .val (.int p3), .val (.int p4), .val (.int (2 : Int32)), .val (.ref b51), .val (.int ((0 : Int32) + (own_cnt p1)))] [])) t
      refine XS.iload X76.here hx rfl (hb hby at_46) rfl ?_
      show Steps p.tables e below (T76.setTop (mkF m 48 #[.val (.int p0), .val (.int p1), .val (.int p2), .val (.int p3), .val (.int p4), .val (.int (2 : Int32)), .val (.ref b51), .val (.int ((0 : Int32) + (own_cnt p1)))] [(.int (2 : Int32))])) t
      refine XS.iconst X76.here hx rfl (hb hby at_48) ?_
      show Steps p.tables e below (T76.setTop (mkF m 49 #[.val (.int p0), .val (.int p1), .val (.int p2), .val (.int p3), .val (.int p4), .val (.int (2 : Int32)), .val (.ref b51), .val (.int ((0 : Int32) + (own_cnt p1)))] [(.int (1 : Int32)), (.int (2 : Int32))])) t
      refine XS.icmpNo X76.here hx rfl (hb hby at_49) rfl (by decide) ?_
      show Steps p.tables e below (T76.setTop (mkF m 52 #[.val (.int p0), .val (.int p1), .val (.int p2), .val (.int p3), .val (.int p4), .val (.int (2 : Int32)), .val (.ref b51), .val (.int ((0 : Int32) + (own_cnt p1)))] [])) t
      refine XS.aload X76.here hx rfl (hb hby at_52) rfl rfl ?_
      show Steps p.tables e below (T76.setTop (mkF m 54 #[.val (.int p0), .val (.int p1), .val (.int p2), .val (.int p3), .val (.int p4), .val (.int (2 : Int32)), .val (.ref b51), .val (.int ((0 : Int32) + (own_cnt p1)))] [(.ref b51)])) t
      refine XS.iconst X76.here hx rfl (hb hby at_54) ?_
      show Steps p.tables e below (T76.setTop (mkF m 55 #[.val (.int p0), .val (.int p1), .val (.int p2), .val (.int p3), .val (.int p4), .val (.int (2 : Int32)), .val (.ref b51), .val (.int ((0 : Int32) + (own_cnt p1)))] [(.int (1 : Int32)), (.ref b51)])) t
      refine XS.iloadN X76.here hx rfl (hb hby at_55) rfl ?_
      exact k
    obtain ⟨_, _, ⟨T78, L78, k78, n78⟩, -, X78, ⟨Lc78, hQ78, l78, y78, z78⟩, st78⟩ := Jvm.LawKit.callS X76 hx (y := (⟨"com/example/winnowfold/winnowfold/math/DenseVectorNonZeroCountPinLaw", "cell", "(I)D"⟩ : MethodName)) hown (mvT hZ (hw _ (List.mem_of_getElem? (i := 25) rfl))) (mvT hZ (hw _ (List.mem_of_getElem? (i := 26) rfl))) (mvT hZ (hw _ (List.mem_of_getElem? (i := 27) rfl))) (mvT hZ (hw _ (List.mem_of_getElem? (i := 28) rfl))) (by decide) (backOf (W := 2) (rm5 l Z ar hw [] p2 T67.heap n0 z74) hZ (hw _ (List.mem_of_getElem? (i := 28) rfl)) (hw _ (List.mem_of_getElem? (i := 27) rfl)) (by decide) (by decide)) (g := (mkF m 56 #[.val (.int p0), .val (.int p1), .val (.int p2), .val (.int p3), .val (.int p4), .val (.int (2 : Int32)), .val (.ref b51), .val (.int ((0 : Int32) + (own_cnt p1)))] [(.int p2), (.int (1 : Int32)), (.ref b51)])) rfl (by rw [hml]; rfl) (argsL := [(.int p2)]) (rest := [(.int (1 : Int32)), (.ref b51)]) (lenOf pd0_2 rfl) rfl (by show 2 * 0 + _ ≤ _; exact Nat.le_of_eq rfl) (hb hby at_56) (fun _ _ => ⟨rfl, e76, (by decide : 2 + 0 ≤ _), (by decide : 4 + 0 ≤ _)⟩)
    dsimp only [Pt.U, Pt.locs, Pt.cells, Pt.slots] at X78 l78 y78 z78 st78 hQ78
    subst l78 y78 z78
    obtain ⟨rfl, N78q, e78⟩ := hQ78
    have n79 := Fr.app n77 N78q
    refine own_st (T' := T78) (g' := (mkF m 59 #[.val (.int p0), .val (.int p1), .val (.int p2), .val (.int p3), .val (.int p4), .val (.int (2 : Int32)), .val (.ref b51), .val (.int ((0 : Int32) + (own_cnt p1)))] [(.double (own_val p2)), (.int (1 : Int32)), (.ref b51)])) st78 ?_
    obtain ⟨cq80, kq80, qa80, qb80, qc80⟩ := isOf hZ e78 f70
    obtain ⟨_, _, ⟨T80, L80, k80, n80⟩, -, X80, ⟨Lc80, hQ80, l80, y80, z80⟩, st80⟩ := X78.virtualBack hx (y := (⟨"com/example/winnowfold/winnowfold/math/DenseVector", "set", "(ID)V"⟩ : MethodName)) (z := (⟨"com/example/winnowfold/winnowfold/math/DenseVector", "set", "(ID)V"⟩ : MethodName)) hown (mvT hZ (hw _ (List.mem_of_getElem? (i := 29) rfl))) (mvT hZ (hw _ (List.mem_of_getElem? (i := 30) rfl))) (notFace_of_selects (args := #[]) (mvT hZ (hw _ (List.mem_of_getElem? (i := 32) rfl)))) (mvT hZ (hw _ (List.mem_of_getElem? (i := 32) rfl))) (mvT hZ (hw _ (List.mem_of_getElem? (i := 31) rfl))) (by decide) (backOf (W := 0) (rm6 l Z ar hw [] b51 ((1 : Int32)) ((own_val p2)) ((2 : Int32)) x0_56 kx_x0_56 ((2 : Int32)) ([(.double (own_val p1)), (.double (0 : UInt64))]) ((.double (0 : UInt64))) T67.heap n0 z74 f70 f71 f72 f73 (by decide) (by decide) (by decide) (show ((1 : Int32)).toNatClampNeg < 2 by decide) ne_b51_x0_56 g_x0_56) hZ (hw _ (List.mem_of_getElem? (i := 33) rfl)) (hw _ (List.mem_of_getElem? (i := 3) rfl)) (by decide) (by decide)) qa80 qc80 (g := (mkF m 59 #[.val (.int p0), .val (.int p1), .val (.int p2), .val (.int p3), .val (.int p4), .val (.int (2 : Int32)), .val (.ref b51), .val (.int ((0 : Int32) + (own_cnt p1)))] [(.double (own_val p2)), (.int (1 : Int32)), (.ref b51)])) rfl (by rw [hml]; rfl) (Steps.refl _) (argsL := [(.int (1 : Int32)), (.double (own_val p2))]) (rest := []) (lenOf pd0_3 rfl) rfl (by show 2 * 0 + _ ≤ _; exact Nat.le_of_eq rfl) (hb hby at_59) (fun _ _ => ⟨rfl, e78, (by decide : 2 + 0 ≤ _), (by decide : 4 + 0 ≤ _)⟩)
    dsimp only [Pt.U, Pt.locs, Pt.cells, Pt.slots] at X80 l80 y80 z80 st80 hQ80
    subst l80 y80 z80
    obtain ⟨rfl, N80q, K80, f81⟩ := hQ80
    have n82 := Fr.app n79 N80q
    have f83 := f70.keep K80
    have f84 := f71.keep K80 (ninS ne_b51_x0_56 nin0)
    have f85 := f72.keep K80 (ninS ne_b51_x0_56 nin0)
    have f86 := own_ve (vs' := [(.double (own_val p1)), (.double (own_val p2))]) f81 (by rw [show ((1 : Int32)).toNatClampNeg = 1 by decide]; rfl)
    have z87 := Nat.le_trans z74 K80.1
    have k88 := k75.trans K80 (allS (Or.inr sz_x0_56) all0)
    refine own_tr (T' := T80) (g' := (mkF m 62 #[.val (.int p0), .val (.int p1), .val (.int p2), .val (.int p3), .val (.int p4), .val (.int (2 : Int32)), .val (.ref b51), .val (.int ((0 : Int32) + (own_cnt p1)))] [])) st80 ?_
    refine own_st (T' := T80) (g' := (mkF m 65 #[.val (.int p0), .val (.int p1), .val (.int p2), .val (.int p3), .val (.int p4), .val (.int (2 : Int32)), .val (.ref b51), .val (.int ((0 : Int32) + (own_cnt p1)))] [(.int p2), (.int ((0 : Int32) + (own_cnt p1)))])) (fun t k => ?_) ?_
    · show Steps p.tables e below (T80.setTop (mkF m 62 #[.val (.int p0), .val (.int p1), .val (.int p2), .val (.int p3), .val (.int p4), .val (.int (2 : Int32)), .val (.ref b51), .val (.int ((0 : Int32) + (own_cnt p1)))] [])) t
      refine XS.iload X80.here hx rfl (hb hby at_62) rfl ?_
      show Steps p.tables e below (T80.setTop (mkF m 64 #[.val (.int p0), .val (.int p1), .val (.int p2), .val (.int p3), .val (.int p4), .val (.int (2 : Int32)), .val (.ref b51), .val (.int ((0 : Int32) + (own_cnt p1)))] [(.int ((0 : Int32) + (own_cnt p1)))])) t
      refine XS.iloadN X80.here hx rfl (hb hby at_64) rfl ?_
      exact k
    obtain ⟨_, _, ⟨T89, L89, k89, n89⟩, -, X89, ⟨Lc89, hQ89, l89, y89, z89⟩, st89⟩ := Jvm.LawKit.callS X80 hx (y := (⟨"com/example/winnowfold/winnowfold/math/DenseVectorNonZeroCountPinLaw", "counts", "(I)I"⟩ : MethodName)) hown (mvT hZ (hw _ (List.mem_of_getElem? (i := 48) rfl))) (mvT hZ (hw _ (List.mem_of_getElem? (i := 49) rfl))) (mvT hZ (hw _ (List.mem_of_getElem? (i := 27) rfl))) (mvT hZ (hw _ (List.mem_of_getElem? (i := 50) rfl))) (by decide) (backOf (W := 1) (rm10 l Z ar hw [] p2 T80.heap n0 z87) hZ (hw _ (List.mem_of_getElem? (i := 50) rfl)) (hw _ (List.mem_of_getElem? (i := 27) rfl)) (by decide) (by decide)) (g := (mkF m 65 #[.val (.int p0), .val (.int p1), .val (.int p2), .val (.int p3), .val (.int p4), .val (.int (2 : Int32)), .val (.ref b51), .val (.int ((0 : Int32) + (own_cnt p1)))] [(.int p2), (.int ((0 : Int32) + (own_cnt p1)))])) rfl (by rw [hml]; rfl) (argsL := [(.int p2)]) (rest := [(.int ((0 : Int32) + (own_cnt p1)))]) (lenOf pd0_4 rfl) rfl (by show 2 * 0 + _ ≤ _; exact Nat.le_of_eq rfl) (hb hby at_65) (fun _ _ => ⟨rfl, (rfl : T80.heap = T80.heap), (by decide : 2 + 0 ≤ _), (by decide : 4 + 0 ≤ _)⟩)
    dsimp only [Pt.U, Pt.locs, Pt.cells, Pt.slots] at X89 l89 y89 z89 st89 hQ89
    subst l89 y89 z89
    obtain ⟨rfl, N89q, e89⟩ := hQ89
    have n90 := Fr.app n82 N89q
    refine own_st (T' := T89) (g' := (mkF m 68 #[.val (.int p0), .val (.int p1), .val (.int p2), .val (.int p3), .val (.int p4), .val (.int (2 : Int32)), .val (.ref b51), .val (.int ((0 : Int32) + (own_cnt p1)))] [(.int (own_cnt p2)), (.int ((0 : Int32) + (own_cnt p1)))])) st89 ?_
    refine own_st (T' := T89) (g' := (mkF m 125 #[.val (.int p0), .val (.int p1), .val (.int p2), .val (.int p3), .val (.int p4), .val (.int (2 : Int32)), .val (.ref b51), .val (.int (((0 : Int32) + (own_cnt p1)) + (own_cnt p2)))] [(.ref b51)])) (fun t k => ?_) ?_
    · show Steps p.tables e below (T89.setTop (mkF m 68 #[.val (.int p0), .val (.int p1), .val (.int p2), .val (.int p3), .val (.int p4), .val (.int (2 : Int32)), .val (.ref b51), .val (.int ((0 : Int32) + (own_cnt p1)))] [(.int (own_cnt p2)), (.int ((0 : Int32) + (own_cnt p1)))])) t
      refine XS.iadd X89.here hx rfl (hb hby at_68) rfl ?_
      show Steps p.tables e below (T89.setTop (mkF m 69 #[.val (.int p0), .val (.int p1), .val (.int p2), .val (.int p3), .val (.int p4), .val (.int (2 : Int32)), .val (.ref b51), .val (.int ((0 : Int32) + (own_cnt p1)))] [(.int (((0 : Int32) + (own_cnt p1)) + (own_cnt p2)))])) t
      refine XS.istore X89.here hx rfl (hb hby at_69) rfl (l' := #[.val (.int p0), .val (.int p1), .val (.int p2), .val (.int p3), .val (.int p4), .val (.int (2 : Int32)), .val (.ref b51), .val (.int (((0 : Int32) + (own_cnt p1)) + (own_cnt p2)))]) rfl ?_
      show Steps p.tables e below (T89.setTop (mkF m 71 #[.val (.int p0), .val (.int p1), .val (.int p2), .val (.int p3), .val (.int p4), .val (.int (2 : Int32)), .val (.ref b51), .val (.int (((0 : Int32) + (own_cnt p1)) + (own_cnt p2)))] [])) t
      refine XS.iload X89.here hx rfl (hb hby at_71) rfl ?_
      show Steps p.tables e below (T89.setTop (mkF m 73 #[.val (.int p0), .val (.int p1), .val (.int p2), .val (.int p3), .val (.int p4), .val (.int (2 : Int32)), .val (.ref b51), .val (.int (((0 : Int32) + (own_cnt p1)) + (own_cnt p2)))] [(.int (2 : Int32))])) t
      refine XS.iconst X89.here hx rfl (hb hby at_73) ?_
      show Steps p.tables e below (T89.setTop (mkF m 74 #[.val (.int p0), .val (.int p1), .val (.int p2), .val (.int p3), .val (.int p4), .val (.int (2 : Int32)), .val (.ref b51), .val (.int (((0 : Int32) + (own_cnt p1)) + (own_cnt p2)))] [(.int (2 : Int32)), (.int (2 : Int32))])) t
      refine XS.icmpYes X89.here hx rfl (pc0 := 74) (pc' := 96) rfl (hb hby at_74) rfl (by decide) (by decide) (by decide) ?_
      show Steps p.tables e below (T89.setTop (mkF m 96 #[.val (.int p0), .val (.int p1), .val (.int p2), .val (.int p3), .val (.int p4), .val (.int (2 : Int32)), .val (.ref b51), .val (.int (((0 : Int32) + (own_cnt p1)) + (own_cnt p2)))] [])) t
      refine XS.iload X89.here hx rfl (hb hby at_96) rfl ?_
      show Steps p.tables e below (T89.setTop (mkF m 98 #[.val (.int p0), .val (.int p1), .val (.int p2), .val (.int p3), .val (.int p4), .val (.int (2 : Int32)), .val (.ref b51), .val (.int (((0 : Int32) + (own_cnt p1)) + (own_cnt p2)))] [(.int (2 : Int32))])) t
      refine XS.iconst X89.here hx rfl (hb hby at_98) ?_
      show Steps p.tables e below (T89.setTop (mkF m 99 #[.val (.int p0), .val (.int p1), .val (.int p2), .val (.int p3), .val (.int p4), .val (.int (2 : Int32)), .val (.ref b51), .val (.int (((0 : Int32) + (own_cnt p1)) + (own_cnt p2)))] [(.int (3 : Int32)), (.int (2 : Int32))])) t
      refine XS.icmpYes X89.here hx rfl (pc0 := 99) (pc' := 123) rfl (hb hby at_99) rfl (by decide) (by decide) (by decide) ?_
      show Steps p.tables e below (T89.setTop (mkF m 123 #[.val (.int p0), .val (.int p1), .val (.int p2), .val (.int p3), .val (.int p4), .val (.int (2 : Int32)), .val (.ref b51), .val (.int (((0 : Int32) + (own_cnt p1)) + (own_cnt p2)))] [])) t
      refine XS.aload X89.here hx rfl (hb hby at_123) rfl rfl ?_
      exact k
    obtain ⟨cq91, kq91, qa91, qb91, qc91⟩ := isOf hZ e89 f83
    obtain ⟨_, _, ⟨T91, L91, k91, n91⟩, -, X91, ⟨Lc91, hQ91, l91, y91, z91⟩, st91⟩ := X89.virtualBack hx (y := (⟨"com/example/winnowfold/winnowfold/math/DenseVector", "nonZeroCount", "()I"⟩ : MethodName)) (z := (⟨"com/example/winnowfold/winnowfold/math/DenseVector", "nonZeroCount", "()I"⟩ : MethodName)) hown (mvT hZ (hw _ (List.mem_of_getElem? (i := 20) rfl))) (mvT hZ (hw _ (List.mem_of_getElem? (i := 21) rfl))) (notFace_of_selects (args := #[]) (mvT hZ (hw _ (List.mem_of_getElem? (i := 23) rfl)))) (mvT hZ (hw _ (List.mem_of_getElem? (i := 23) rfl))) (mvT hZ (hw _ (List.mem_of_getElem? (i := 22) rfl))) (by decide) (backOf (W := 0) (rmz2 l Z ar hw [] b51 x0_56 kx_x0_56 ((own_val p1)) ((own_val p2)) T80.heap n0 z87 f83 f85 f86) hZ (hw _ (List.mem_of_getElem? (i := 24) rfl)) (hw _ (List.mem_of_getElem? (i := 3) rfl)) (by decide) (by decide)) qa91 qc91 (g := (mkF m 125 #[.val (.int p0), .val (.int p1), .val (.int p2), .val (.int p3), .val (.int p4), .val (.int (2 : Int32)), .val (.ref b51), .val (.int (((0 : Int32) + (own_cnt p1)) + (own_cnt p2)))] [(.ref b51)])) rfl (by rw [hml]; rfl) (Steps.refl _) (argsL := []) (rest := []) (lenOf pd0_1 rfl) rfl (by show 2 * 0 + _ ≤ _; exact Nat.le_of_eq rfl) (hb hby at_125) (fun _ _ => ⟨rfl, e89, (by decide : 2 + 0 ≤ _), (by decide : 4 + 0 ≤ _)⟩)
    dsimp only [Pt.U, Pt.locs, Pt.cells, Pt.slots] at X91 l91 y91 z91 st91 hQ91
    subst l91 y91 z91
    obtain ⟨rfl, N91q, e91⟩ := hQ91
    have n92 := Fr.app n90 N91q
    refine own_tr (T' := T91) (g' := (mkF m 128 #[.val (.int p0), .val (.int p1), .val (.int p2), .val (.int p3), .val (.int p4), .val (.int (2 : Int32)), .val (.ref b51), .val (.int (((0 : Int32) + (own_cnt p1)) + (own_cnt p2)))] [(.int (own_z (own_z (0 : Int32) (own_val p1)) (own_val p2)))])) st91 ?_
    refine own_st (T' := T91) (g' := (mkF m 138 #[.val (.int p0), .val (.int p1), .val (.int p2), .val (.int p3), .val (.int p4), .val (.int (2 : Int32)), .val (.ref b51), .val (.int (((0 : Int32) + (own_cnt p1)) + (own_cnt p2)))] [(.int (1 : Int32))])) (fun t k => ?_) ?_
    · show Steps p.tables e below (T91.setTop (mkF m 128 #[.val (.int p0), .val (.int p1), .val (.int p2), .val (.int p3), .val (.int p4), .val (.int (2 : Int32)), .val (.ref b51), .val (.int (((0 : Int32) + (own_cnt p1)) + (own_cnt p2)))] [(.int (own_z (own_z (0 : Int32) (own_val p1)) (own_val p2)))])) t
      refine XS.iload X91.here hx rfl (hb hby at_128) rfl ?_
      show Steps p.tables e below (T91.setTop (mkF m 130 #[.val (.int p0), .val (.int p1), .val (.int p2), .val (.int p3), .val (.int p4), .val (.int (2 : Int32)), .val (.ref b51), .val (.int (((0 : Int32) + (own_cnt p1)) + (own_cnt p2)))] [(.int (((0 : Int32) + (own_cnt p1)) + (own_cnt p2))), (.int (own_z (own_z (0 : Int32) (own_val p1)) (own_val p2)))])) t
      refine XS.icmpNo X91.here hx rfl (hb hby at_130) rfl (teq ((by simp only [own_zc]) : (own_z (own_z (0 : Int32) (own_val p1)) (own_val p2)) = (((0 : Int32) + (own_cnt p1)) + (own_cnt p2)))).2 ?_
      show Steps p.tables e below (T91.setTop (mkF m 133 #[.val (.int p0), .val (.int p1), .val (.int p2), .val (.int p3), .val (.int p4), .val (.int (2 : Int32)), .val (.ref b51), .val (.int (((0 : Int32) + (own_cnt p1)) + (own_cnt p2)))] [])) t
      refine XS.iconst X91.here hx rfl (hb hby at_133) ?_
      show Steps p.tables e below (T91.setTop (mkF m 134 #[.val (.int p0), .val (.int p1), .val (.int p2), .val (.int p3), .val (.int p4), .val (.int (2 : Int32)), .val (.ref b51), .val (.int (((0 : Int32) + (own_cnt p1)) + (own_cnt p2)))] [(.int (1 : Int32))])) t
      refine XS.goto X91.here hx rfl (pc0 := 134) (pc' := 138) rfl (hb hby at_134) (by decide) (by decide) ?_
      exact k
    refine own_retZ X91 hx hlk Bd.returns (hb hby at_138) rfl (by decide) (by decide) ?_
    show Q0 Z p0 p1 p2 p3 p4 h0 n0 (some (.int (1 : Int32))) T91.heap _
    exact ⟨rfl, n92⟩
  · rw [hk6_4]
    refine own_st (T' := s₁) (g' := (mkF m 8 #[.val (.int p0), .val (.int p1), .val (.int p2), .val (.int p3), .val (.int p4), .val (.int (3 : Int32)), .unset, .unset] [])) (fun t k => ?_) ?_
    · show Steps p.tables e below (s₁.setTop (mkF m 6 #[.val (.int p0), .val (.int p1), .val (.int p2), .val (.int p3), .val (.int p4), .unset, .unset, .unset] [(.int (3 : Int32))])) t
      refine XS.istore X0.here hx rfl (hb hby at_6) rfl (l' := #[.val (.int p0), .val (.int p1), .val (.int p2), .val (.int p3), .val (.int p4), .val (.int (3 : Int32)), .unset, .unset]) rfl ?_
      exact k
    obtain ⟨T93, h93, X93, e93, E93, A93, D93, -, st93⟩ := newO X0 hx hZ hown (hw _ (List.mem_of_getElem? (i := 1) rfl)) (hw _ (List.mem_of_getElem? (i := 2) rfl)) (hw _ (List.mem_of_getElem? (i := 3) rfl)) e0 (g := (mkF m 8 #[.val (.int p0), .val (.int p1), .val (.int p2), .val (.int p3), .val (.int p4), .val (.int (3 : Int32)), .unset, .unset] [])) rfl (hb hby at_8) (by decide) (by decide)
    obtain ⟨b93, g93⟩ : ∃ z, z = h0.size := ⟨_, rfl⟩
    rw [← g93] at A93 D93 st93
    have g_b93 : n0 ≤ b93 := Nat.le_trans Z0 (Nat.le_of_eq g93.symm)
    have sz_b93 : h0.size ≤ b93 := Nat.le_trans K0.1 (Nat.le_of_eq g93.symm)
    have z94 := Nat.le_trans Z0 E93.1
    have k95 := K0.ext E93
    have f96 : Fld Z h93 b93 "com/example/winnowfold/winnowfold/math/AbstractVector" "size" "I" (.int (0 : Int32)) := D93 (Or.inr (hw _ (List.mem_of_getElem? (i := 16) rfl))) (ty := .int) (by decide)
    have f97 : Fld Z h93 b93 "com/example/winnowfold/winnowfold/math/DenseVector" "values" "[D" .null := D93 (Or.inr (hw _ (List.mem_of_getElem? (i := 19) rfl))) (ty := (.array .double)) (by decide)
    refine own_st (T' := T93) (g' := (mkF m 11 #[.val (.int p0), .val (.int p1), .val (.int p2), .val (.int p3), .val (.int p4), .val (.int (3 : Int32)), .unset, .unset] [(.ref b93)])) st93 ?_
    refine own_st (T' := T93) (g' := (mkF m 14 #[.val (.int p0), .val (.int p1), .val (.int p2), .val (.int p3), .val (.int p4), .val (.int (3 : Int32)), .unset, .unset] [(.int (3 : Int32)), (.ref b93), (.ref b93)])) (fun t k => ?_) ?_
    · show Steps p.tables e below (T93.setTop (mkF m 11 #[.val (.int p0), .val (.int p1), .val (.int p2), .val (.int p3), .val (.int p4), .val (.int (3 : Int32)), .unset, .unset] [(.ref b93)])) t
      refine XS.dup X93.here hx rfl (hb hby at_11) rfl rfl ?_
      show Steps p.tables e below (T93.setTop (mkF m 12 #[.val (.int p0), .val (.int p1), .val (.int p2), .val (.int p3), .val (.int p4), .val (.int (3 : Int32)), .unset, .unset] [(.ref b93), (.ref b93)])) t
      refine XS.iload X93.here hx rfl (hb hby at_12) rfl ?_
      exact k
    obtain ⟨_, _, ⟨T98, L98, k98, n98⟩, -, X98, ⟨Lc98, hQ98, l98, y98, z98⟩, st98⟩ := X93.specialBack hx (y := (⟨"com/example/winnowfold/winnowfold/math/DenseVector", "<init>", "(I)V"⟩ : MethodName)) rfl hown (mvT hZ (hw _ (List.mem_of_getElem? (i := 4) rfl))) (mvT hZ (hw _ (List.mem_of_getElem? (i := 5) rfl))) (mvT hZ (hw _ (List.mem_of_getElem? (i := 6) rfl))) (by decide) (backOf (W := 1) (rmI3 l Z ar hw [] b93 ((.int (0 : Int32))) (.null) h93 n0 z94 A93 f96 f97 g_b93) hZ (hw _ (List.mem_of_getElem? (i := 6) rfl)) (hw _ (List.mem_of_getElem? (i := 3) rfl)) (by decide) (by decide)) (g := (mkF m 14 #[.val (.int p0), .val (.int p1), .val (.int p2), .val (.int p3), .val (.int p4), .val (.int (3 : Int32)), .unset, .unset] [(.int (3 : Int32)), (.ref b93), (.ref b93)])) rfl (by rw [hml]; rfl) (Steps.refl _) (a := b93) (argsL := [(.int (3 : Int32))]) (rest := [(.ref b93)]) (lenOf pd0_0 rfl) rfl (by show 2 * 0 + _ ≤ _; exact Nat.le_of_eq rfl) (hb hby at_14) (fun _ _ => ⟨rfl, e93, (by decide : 1 + 1 ≤ _), (by decide : 2 + 3 ≤ _)⟩)
    dsimp only [Pt.U, Pt.locs, Pt.cells, Pt.slots] at X98 l98 y98 z98 st98 hQ98
    subst l98 y98 z98
    obtain ⟨x0_98, kx_x0_98, rfl, N98q, K98, sz98_x0, f99, f100, f101, f102⟩ := hQ98
    have n103 := Fr.app N0 N98q
    have ne_b93_x0_98 : b93 ≠ x0_98 := Nat.ne_of_lt (Nat.lt_of_lt_of_le A93.lt sz98_x0)
    have g_x0_98 : n0 ≤ x0_98 := Nat.le_trans z94 sz98_x0
    have sz_x0_98 : h0.size ≤ x0_98 := Nat.le_trans k95.1 sz98_x0
    have f104 := A93.keep K98
    have z105 := Nat.le_trans z94 K98.1
    have k106 := k95.trans K98 (allS (Or.inr sz_b93) all0)
    refine own_tr (T' := T98) (g' := (mkF m 17 #[.val (.int p0), .val (.int p1), .val (.int p2), .val (.int p3), .val (.int p4), .val (.int (3 : Int32)), .unset, .unset] [(.ref b93)])) st98 ?_
    refine own_st (T' := T98) (g' := (mkF m 31 #[.val (.int p0), .val (.int p1), .val (.int p2), .val (.int p3), .val (.int p4), .val (.int (3 : Int32)), .val (.ref b93), .val (.int (0 : Int32))] [(.int p1), (.int (0 : Int32)), (.ref b93)])) (fun t k => ?_) ?_
    · show Steps p.tables e below (T98.setTop (mkF m 17 #[.val (.int p0), .val (.int p1), .val (.int p2), .val (.int p3), .val (.int p4), .val (.int (3 : Int32)), .unset, .unset] [(.ref b93)])) t
      refine XS.astore X98.here hx rfl (hb hby at_17) rfl rfl (l' := #[.val (.int p0), .val (.int p1), .val (.int p2), .val (.int p3), .val (.int p4), .val (.int (3 : Int32)), .val (.ref b93), .unset]) rfl ?_
      show Steps p.tables e below (T98.setTop (mkF m 19 #[.val (.int p0), .val (.int p1), .val (.int p2), .val (.int p3), .val (.int p4), .val (.int (3 : Int32)), .val (.ref b93), .unset] [])) t
      refine XS.iconst X98.here hx rfl (hb hby at_19) ?_
      show Steps p.tables e below (T98.setTop (mkF m 20 #[.val (.int p0), .val (.int p1), .val (.int p2), .val (.int p3), .val (.int p4), .val (.int (3 : Int32)), .val (.ref b93), .unset] [(.int (0 : Int32))])) t
      refine XS.istore X98.here hx rfl (hb hby at_20) rfl (l' := #[.val (.int p0), .val (.int p1), .val (.int p2), .val (.int p3), .val (.int p4), .val (.int (3 : Int32)), .val (.ref b93), .val (.int (0 : Int32))]) rfl ?_
      show Steps p.tables e below (T98.setTop (mkF m 22 #[.val (.int p0), .val (.int p1), .val (.int p2), .val (.int p3), .val (.int p4), .val (.int (3 : Int32)), .val (.ref b93), .val (.int (0 : Int32))] [])) t
      refine XS.iload X98.here hx rfl (hb hby at_22) rfl ?_
      show Steps p.tables e below (T98.setTop (mkF m 24 #[.val (.int p0), .val (.int p1), .val (.int p2), .val (.int p3), .val (.int p4), .val (.int (3 : Int32)), .val (.ref b93), .val (.int (0 : Int32))] [(.int (3 : Int32))])) t
      refine XS.ifNo X98.here hx rfl (hb hby at_24) rfl (by decide) ?_
      show Steps p.tables e below (T98.setTop (mkF m 27 #[.val (.int p0), .val (.int p1), .val (.int p2), .val (.int p3), .val (.int p4), .val (.int (3 : Int32)), .val (.ref b93), .val (.int (0 : Int32))] [])) t
      refine XS.aload X98.here hx rfl (hb hby at_27) rfl rfl ?_
      show Steps p.tables e below (T98.setTop (mkF m 29 #[.val (.int p0), .val (.int p1), .val (.int p2), .val (.int p3), .val (.int p4), .val (.int (3 : Int32)), .val (.ref b93), .val (.int (0 : Int32))] [(.ref b93)])) t
      refine XS.iconst X98.here hx rfl (hb hby at_29) ?_
      show Steps p.tables e below (T98.setTop (mkF m 30 #[.val (.int p0), .val (.int p1), .val (.int p2), .val (.int p3), .val (.int p4), .val (.int (3 : Int32)), .val (.ref b93), .val (.int (0 : Int32))] [(.int (0 : Int32)), (.ref b93)])) t
      refine XS.iloadN X98.here hx rfl (hb hby at_30) rfl ?_
      exact k
    obtain ⟨_, _, ⟨T107, L107, k107, n107⟩, -, X107, ⟨Lc107, hQ107, l107, y107, z107⟩, st107⟩ := Jvm.LawKit.callS X98 hx (y := (⟨"com/example/winnowfold/winnowfold/math/DenseVectorNonZeroCountPinLaw", "cell", "(I)D"⟩ : MethodName)) hown (mvT hZ (hw _ (List.mem_of_getElem? (i := 25) rfl))) (mvT hZ (hw _ (List.mem_of_getElem? (i := 26) rfl))) (mvT hZ (hw _ (List.mem_of_getElem? (i := 27) rfl))) (mvT hZ (hw _ (List.mem_of_getElem? (i := 28) rfl))) (by decide) (backOf (W := 2) (rm5 l Z ar hw [] p1 T98.heap n0 z105) hZ (hw _ (List.mem_of_getElem? (i := 28) rfl)) (hw _ (List.mem_of_getElem? (i := 27) rfl)) (by decide) (by decide)) (g := (mkF m 31 #[.val (.int p0), .val (.int p1), .val (.int p2), .val (.int p3), .val (.int p4), .val (.int (3 : Int32)), .val (.ref b93), .val (.int (0 : Int32))] [(.int p1), (.int (0 : Int32)), (.ref b93)])) rfl (by rw [hml]; rfl) (argsL := [(.int p1)]) (rest := [(.int (0 : Int32)), (.ref b93)]) (lenOf pd0_2 rfl) rfl (by show 2 * 0 + _ ≤ _; exact Nat.le_of_eq rfl) (hb hby at_31) (fun _ _ => ⟨rfl, (rfl : T98.heap = T98.heap), (by decide : 2 + 0 ≤ _), (by decide : 5 + 0 ≤ _)⟩)
    dsimp only [Pt.U, Pt.locs, Pt.cells, Pt.slots] at X107 l107 y107 z107 st107 hQ107
    subst l107 y107 z107
    obtain ⟨rfl, N107q, e107⟩ := hQ107
    have n108 := Fr.app n103 N107q
    refine own_st (T' := T107) (g' := (mkF m 34 #[.val (.int p0), .val (.int p1), .val (.int p2), .val (.int p3), .val (.int p4), .val (.int (3 : Int32)), .val (.ref b93), .val (.int (0 : Int32))] [(.double (own_val p1)), (.int (0 : Int32)), (.ref b93)])) st107 ?_
    obtain ⟨cq109, kq109, qa109, qb109, qc109⟩ := isOf hZ e107 f99
    obtain ⟨_, _, ⟨T109, L109, k109, n109⟩, -, X109, ⟨Lc109, hQ109, l109, y109, z109⟩, st109⟩ := X107.virtualBack hx (y := (⟨"com/example/winnowfold/winnowfold/math/DenseVector", "set", "(ID)V"⟩ : MethodName)) (z := (⟨"com/example/winnowfold/winnowfold/math/DenseVector", "set", "(ID)V"⟩ : MethodName)) hown (mvT hZ (hw _ (List.mem_of_getElem? (i := 29) rfl))) (mvT hZ (hw _ (List.mem_of_getElem? (i := 30) rfl))) (notFace_of_selects (args := #[]) (mvT hZ (hw _ (List.mem_of_getElem? (i := 32) rfl)))) (mvT hZ (hw _ (List.mem_of_getElem? (i := 32) rfl))) (mvT hZ (hw _ (List.mem_of_getElem? (i := 31) rfl))) (by decide) (backOf (W := 0) (rm6 l Z ar hw [] b93 ((0 : Int32)) ((own_val p1)) ((3 : Int32)) x0_98 kx_x0_98 ((3 : Int32)) ([(.double (0 : UInt64)), (.double (0 : UInt64)), (.double (0 : UInt64))]) ((.double (0 : UInt64))) T98.heap n0 z105 f99 f100 f101 f102 (by decide) (by decide) (by decide) (show ((0 : Int32)).toNatClampNeg < 3 by decide) ne_b93_x0_98 g_x0_98) hZ (hw _ (List.mem_of_getElem? (i := 33) rfl)) (hw _ (List.mem_of_getElem? (i := 3) rfl)) (by decide) (by decide)) qa109 qc109 (g := (mkF m 34 #[.val (.int p0), .val (.int p1), .val (.int p2), .val (.int p3), .val (.int p4), .val (.int (3 : Int32)), .val (.ref b93), .val (.int (0 : Int32))] [(.double (own_val p1)), (.int (0 : Int32)), (.ref b93)])) rfl (by rw [hml]; rfl) (Steps.refl _) (argsL := [(.int (0 : Int32)), (.double (own_val p1))]) (rest := []) (lenOf pd0_3 rfl) rfl (by show 2 * 0 + _ ≤ _; exact Nat.le_of_eq rfl) (hb hby at_34) (fun _ _ => ⟨rfl, e107, (by decide : 2 + 0 ≤ _), (by decide : 5 + 0 ≤ _)⟩)
    dsimp only [Pt.U, Pt.locs, Pt.cells, Pt.slots] at X109 l109 y109 z109 st109 hQ109
    subst l109 y109 z109
    obtain ⟨rfl, N109q, K109, f110⟩ := hQ109
    have n111 := Fr.app n108 N109q
    have f112 := f99.keep K109
    have f113 := f100.keep K109 (ninS ne_b93_x0_98 nin0)
    have f114 := f101.keep K109 (ninS ne_b93_x0_98 nin0)
    have f115 := own_ve (vs' := [(.double (own_val p1)), (.double (0 : UInt64)), (.double (0 : UInt64))]) f110 (by rw [show ((0 : Int32)).toNatClampNeg = 0 by decide]; rfl)
    have z116 := Nat.le_trans z105 K109.1
    have k117 := k106.trans K109 (allS (Or.inr sz_x0_98) all0)
    refine own_tr (T' := T109) (g' := (mkF m 37 #[.val (.int p0), .val (.int p1), .val (.int p2), .val (.int p3), .val (.int p4), .val (.int (3 : Int32)), .val (.ref b93), .val (.int (0 : Int32))] [])) st109 ?_
    refine own_st (T' := T109) (g' := (mkF m 40 #[.val (.int p0), .val (.int p1), .val (.int p2), .val (.int p3), .val (.int p4), .val (.int (3 : Int32)), .val (.ref b93), .val (.int (0 : Int32))] [(.int p1), (.int (0 : Int32))])) (fun t k => ?_) ?_
    · show Steps p.tables e below (T109.setTop (mkF m 37 #[.val (.int p0), .val (.int p1), .val (.int p2), .val (.int p3), .val (.int p4), .val (.int (3 : Int32)), .val (.ref b93), .val (.int (0 : Int32))] [])) t
      refine XS.iload X109.here hx rfl (hb hby at_37) rfl ?_
      show Steps p.tables e below (T109.setTop (mkF m 39 #[.val (.int p0), .val (.int p1), .val (.int p2), .val (.int p3), .val (.int p4), .val (.int (3 : Int32)), .val (.ref b93), .val (.int (0 : Int32))] [(.int (0 : Int32))])) t
      refine XS.iloadN X109.here hx rfl (hb hby at_39) rfl ?_
      exact k
    obtain ⟨_, _, ⟨T118, L118, k118, n118⟩, -, X118, ⟨Lc118, hQ118, l118, y118, z118⟩, st118⟩ := Jvm.LawKit.callS X109 hx (y := (⟨"com/example/winnowfold/winnowfold/math/DenseVectorNonZeroCountPinLaw", "counts", "(I)I"⟩ : MethodName)) hown (mvT hZ (hw _ (List.mem_of_getElem? (i := 48) rfl))) (mvT hZ (hw _ (List.mem_of_getElem? (i := 49) rfl))) (mvT hZ (hw _ (List.mem_of_getElem? (i := 27) rfl))) (mvT hZ (hw _ (List.mem_of_getElem? (i := 50) rfl))) (by decide) (backOf (W := 1) (rm10 l Z ar hw [] p1 T109.heap n0 z116) hZ (hw _ (List.mem_of_getElem? (i := 50) rfl)) (hw _ (List.mem_of_getElem? (i := 27) rfl)) (by decide) (by decide)) (g := (mkF m 40 #[.val (.int p0), .val (.int p1), .val (.int p2), .val (.int p3), .val (.int p4), .val (.int (3 : Int32)), .val (.ref b93), .val (.int (0 : Int32))] [(.int p1), (.int (0 : Int32))])) rfl (by rw [hml]; rfl) (argsL := [(.int p1)]) (rest := [(.int (0 : Int32))]) (lenOf pd0_4 rfl) rfl (by show 2 * 0 + _ ≤ _; exact Nat.le_of_eq rfl) (hb hby at_40) (fun _ _ => ⟨rfl, (rfl : T109.heap = T109.heap), (by decide : 2 + 0 ≤ _), (by decide : 5 + 0 ≤ _)⟩)
    dsimp only [Pt.U, Pt.locs, Pt.cells, Pt.slots] at X118 l118 y118 z118 st118 hQ118
    subst l118 y118 z118
    obtain ⟨rfl, N118q, e118⟩ := hQ118
    have n119 := Fr.app n111 N118q
    refine own_st (T' := T118) (g' := (mkF m 43 #[.val (.int p0), .val (.int p1), .val (.int p2), .val (.int p3), .val (.int p4), .val (.int (3 : Int32)), .val (.ref b93), .val (.int (0 : Int32))] [(.int (own_cnt p1)), (.int (0 : Int32))])) st118 ?_
    refine own_st (T' := T118) (g' := (mkF m 56 #[.val (.int p0), .val (.int p1), .val (.int p2), .val (.int p3), .val (.int p4), .val (.int (3 : Int32)), .val (.ref b93), .val (.int ((0 : Int32) + (own_cnt p1)))] [(.int p2), (.int (1 : Int32)), (.ref b93)])) (fun t k => ?_) ?_
    · show Steps p.tables e below (T118.setTop (mkF m 43 #[.val (.int p0), .val (.int p1), .val (.int p2), .val (.int p3), .val (.int p4), .val (.int (3 : Int32)), .val (.ref b93), .val (.int (0 : Int32))] [(.int (own_cnt p1)), (.int (0 : Int32))])) t
      refine XS.iadd X118.here hx rfl (hb hby at_43) rfl ?_
      show Steps p.tables e below (T118.setTop (mkF m 44 #[.val (.int p0), .val (.int p1), .val (.int p2), .val (.int p3), .val (.int p4), .val (.int (3 : Int32)), .val (.ref b93), .val (.int (0 : Int32))] [(.int ((0 : Int32) + (own_cnt p1)))])) t
      refine XS.istore X118.here hx rfl (hb hby at_44) rfl (l' := #[.val (.int p0), .val (.int p1), .val (.int p2), .val (.int p3), .val (.int p4), .val (.int (3 : Int32)), .val (.ref b93), .val (.int ((0 : Int32) + (own_cnt p1)))]) rfl ?_
      show Steps p.tables e below (T118.setTop (mkF m 46 #[.val (.int p0), .val (.int p1), .val (.int p2), .val (.int p3), .val (.int p4), .val (.int (3 : Int32)), .val (.ref b93), .val (.int ((0 : Int32) + (own_cnt p1)))] [])) t
      refine XS.iload X118.here hx rfl (hb hby at_46) rfl ?_
      show Steps p.tables e below (T118.setTop (mkF m 48 #[.val (.int p0), .val (.int p1), .val (.int p2), .val (.int p3), .val (.int p4), .val (.int (3 : Int32)), .val (.ref b93), .val (.int ((0 : Int32) + (own_cnt p1)))] [(.int (3 : Int32))])) t
      refine XS.iconst X118.here hx rfl (hb hby at_48) ?_
      show Steps p.tables e below (T118.setTop (mkF m 49 #[.val (.int p0), .val (.int p1), .val (.int p2), .val (.int p3), .val (.int p4), .val (.int (3 : Int32)), .val (.ref b93), .val (.int ((0 : Int32) + (own_cnt p1)))] [(.int (1 : Int32)), (.int (3 : Int32))])) t
      refine XS.icmpNo X118.here hx rfl (hb hby at_49) rfl (by decide) ?_
      show Steps p.tables e below (T118.setTop (mkF m 52 #[.val (.int p0), .val (.int p1), .val (.int p2), .val (.int p3), .val (.int p4), .val (.int (3 : Int32)), .val (.ref b93), .val (.int ((0 : Int32) + (own_cnt p1)))] [])) t
      refine XS.aload X118.here hx rfl (hb hby at_52) rfl rfl ?_
      show Steps p.tables e below (T118.setTop (mkF m 54 #[.val (.int p0), .val (.int p1), .val (.int p2), .val (.int p3), .val (.int p4), .val (.int (3 : Int32)), .val (.ref b93), .val (.int ((0 : Int32) + (own_cnt p1)))] [(.ref b93)])) t
      refine XS.iconst X118.here hx rfl (hb hby at_54) ?_
      show Steps p.tables e below (T118.setTop (mkF m 55 #[.val (.int p0), .val (.int p1), .val (.int p2), .val (.int p3), .val (.int p4), .val (.int (3 : Int32)), .val (.ref b93), .val (.int ((0 : Int32) + (own_cnt p1)))] [(.int (1 : Int32)), (.ref b93)])) t
      refine XS.iloadN X118.here hx rfl (hb hby at_55) rfl ?_
      exact k
    obtain ⟨_, _, ⟨T120, L120, k120, n120⟩, -, X120, ⟨Lc120, hQ120, l120, y120, z120⟩, st120⟩ := Jvm.LawKit.callS X118 hx (y := (⟨"com/example/winnowfold/winnowfold/math/DenseVectorNonZeroCountPinLaw", "cell", "(I)D"⟩ : MethodName)) hown (mvT hZ (hw _ (List.mem_of_getElem? (i := 25) rfl))) (mvT hZ (hw _ (List.mem_of_getElem? (i := 26) rfl))) (mvT hZ (hw _ (List.mem_of_getElem? (i := 27) rfl))) (mvT hZ (hw _ (List.mem_of_getElem? (i := 28) rfl))) (by decide) (backOf (W := 2) (rm5 l Z ar hw [] p2 T109.heap n0 z116) hZ (hw _ (List.mem_of_getElem? (i := 28) rfl)) (hw _ (List.mem_of_getElem? (i := 27) rfl)) (by decide) (by decide)) (g := (mkF m 56 #[.val (.int p0), .val (.int p1), .val (.int p2), .val (.int p3), .val (.int p4), .val (.int (3 : Int32)), .val (.ref b93), .val (.int ((0 : Int32) + (own_cnt p1)))] [(.int p2), (.int (1 : Int32)), (.ref b93)])) rfl (by rw [hml]; rfl) (argsL := [(.int p2)]) (rest := [(.int (1 : Int32)), (.ref b93)]) (lenOf pd0_2 rfl) rfl (by show 2 * 0 + _ ≤ _; exact Nat.le_of_eq rfl) (hb hby at_56) (fun _ _ => ⟨rfl, e118, (by decide : 2 + 0 ≤ _), (by decide : 5 + 0 ≤ _)⟩)
    dsimp only [Pt.U, Pt.locs, Pt.cells, Pt.slots] at X120 l120 y120 z120 st120 hQ120
    subst l120 y120 z120
    obtain ⟨rfl, N120q, e120⟩ := hQ120
    have n121 := Fr.app n119 N120q
    refine own_st (T' := T120) (g' := (mkF m 59 #[.val (.int p0), .val (.int p1), .val (.int p2), .val (.int p3), .val (.int p4), .val (.int (3 : Int32)), .val (.ref b93), .val (.int ((0 : Int32) + (own_cnt p1)))] [(.double (own_val p2)), (.int (1 : Int32)), (.ref b93)])) st120 ?_
    obtain ⟨cq122, kq122, qa122, qb122, qc122⟩ := isOf hZ e120 f112
    obtain ⟨_, _, ⟨T122, L122, k122, n122⟩, -, X122, ⟨Lc122, hQ122, l122, y122, z122⟩, st122⟩ := X120.virtualBack hx (y := (⟨"com/example/winnowfold/winnowfold/math/DenseVector", "set", "(ID)V"⟩ : MethodName)) (z := (⟨"com/example/winnowfold/winnowfold/math/DenseVector", "set", "(ID)V"⟩ : MethodName)) hown (mvT hZ (hw _ (List.mem_of_getElem? (i := 29) rfl))) (mvT hZ (hw _ (List.mem_of_getElem? (i := 30) rfl))) (notFace_of_selects (args := #[]) (mvT hZ (hw _ (List.mem_of_getElem? (i := 32) rfl)))) (mvT hZ (hw _ (List.mem_of_getElem? (i := 32) rfl))) (mvT hZ (hw _ (List.mem_of_getElem? (i := 31) rfl))) (by decide) (backOf (W := 0) (rm6 l Z ar hw [] b93 ((1 : Int32)) ((own_val p2)) ((3 : Int32)) x0_98 kx_x0_98 ((3 : Int32)) ([(.double (own_val p1)), (.double (0 : UInt64)), (.double (0 : UInt64))]) ((.double (0 : UInt64))) T109.heap n0 z116 f112 f113 f114 f115 (by decide) (by decide) (by decide) (show ((1 : Int32)).toNatClampNeg < 3 by decide) ne_b93_x0_98 g_x0_98) hZ (hw _ (List.mem_of_getElem? (i := 33) rfl)) (hw _ (List.mem_of_getElem? (i := 3) rfl)) (by decide) (by decide)) qa122 qc122 (g := (mkF m 59 #[.val (.int p0), .val (.int p1), .val (.int p2), .val (.int p3), .val (.int p4), .val (.int (3 : Int32)), .val (.ref b93), .val (.int ((0 : Int32) + (own_cnt p1)))] [(.double (own_val p2)), (.int (1 : Int32)), (.ref b93)])) rfl (by rw [hml]; rfl) (Steps.refl _) (argsL := [(.int (1 : Int32)), (.double (own_val p2))]) (rest := []) (lenOf pd0_3 rfl) rfl (by show 2 * 0 + _ ≤ _; exact Nat.le_of_eq rfl) (hb hby at_59) (fun _ _ => ⟨rfl, e120, (by decide : 2 + 0 ≤ _), (by decide : 5 + 0 ≤ _)⟩)
    dsimp only [Pt.U, Pt.locs, Pt.cells, Pt.slots] at X122 l122 y122 z122 st122 hQ122
    subst l122 y122 z122
    obtain ⟨rfl, N122q, K122, f123⟩ := hQ122
    have n124 := Fr.app n121 N122q
    have f125 := f112.keep K122
    have f126 := f113.keep K122 (ninS ne_b93_x0_98 nin0)
    have f127 := f114.keep K122 (ninS ne_b93_x0_98 nin0)
    have f128 := own_ve (vs' := [(.double (own_val p1)), (.double (own_val p2)), (.double (0 : UInt64))]) f123 (by rw [show ((1 : Int32)).toNatClampNeg = 1 by decide]; rfl)
    have z129 := Nat.le_trans z116 K122.1
    have k130 := k117.trans K122 (allS (Or.inr sz_x0_98) all0)
    refine own_tr (T' := T122) (g' := (mkF m 62 #[.val (.int p0), .val (.int p1), .val (.int p2), .val (.int p3), .val (.int p4), .val (.int (3 : Int32)), .val (.ref b93), .val (.int ((0 : Int32) + (own_cnt p1)))] [])) st122 ?_
    refine own_st (T' := T122) (g' := (mkF m 65 #[.val (.int p0), .val (.int p1), .val (.int p2), .val (.int p3), .val (.int p4), .val (.int (3 : Int32)), .val (.ref b93), .val (.int ((0 : Int32) + (own_cnt p1)))] [(.int p2), (.int ((0 : Int32) + (own_cnt p1)))])) (fun t k => ?_) ?_
    · show Steps p.tables e below (T122.setTop (mkF m 62 #[.val (.int p0), .val (.int p1), .val (.int p2), .val (.int p3), .val (.int p4), .val (.int (3 : Int32)), .val (.ref b93), .val (.int ((0 : Int32) + (own_cnt p1)))] [])) t
      refine XS.iload X122.here hx rfl (hb hby at_62) rfl ?_
      show Steps p.tables e below (T122.setTop (mkF m 64 #[.val (.int p0), .val (.int p1), .val (.int p2), .val (.int p3), .val (.int p4), .val (.int (3 : Int32)), .val (.ref b93), .val (.int ((0 : Int32) + (own_cnt p1)))] [(.int ((0 : Int32) + (own_cnt p1)))])) t
      refine XS.iloadN X122.here hx rfl (hb hby at_64) rfl ?_
      exact k
    obtain ⟨_, _, ⟨T131, L131, k131, n131⟩, -, X131, ⟨Lc131, hQ131, l131, y131, z131⟩, st131⟩ := Jvm.LawKit.callS X122 hx (y := (⟨"com/example/winnowfold/winnowfold/math/DenseVectorNonZeroCountPinLaw", "counts", "(I)I"⟩ : MethodName)) hown (mvT hZ (hw _ (List.mem_of_getElem? (i := 48) rfl))) (mvT hZ (hw _ (List.mem_of_getElem? (i := 49) rfl))) (mvT hZ (hw _ (List.mem_of_getElem? (i := 27) rfl))) (mvT hZ (hw _ (List.mem_of_getElem? (i := 50) rfl))) (by decide) (backOf (W := 1) (rm10 l Z ar hw [] p2 T122.heap n0 z129) hZ (hw _ (List.mem_of_getElem? (i := 50) rfl)) (hw _ (List.mem_of_getElem? (i := 27) rfl)) (by decide) (by decide)) (g := (mkF m 65 #[.val (.int p0), .val (.int p1), .val (.int p2), .val (.int p3), .val (.int p4), .val (.int (3 : Int32)), .val (.ref b93), .val (.int ((0 : Int32) + (own_cnt p1)))] [(.int p2), (.int ((0 : Int32) + (own_cnt p1)))])) rfl (by rw [hml]; rfl) (argsL := [(.int p2)]) (rest := [(.int ((0 : Int32) + (own_cnt p1)))]) (lenOf pd0_4 rfl) rfl (by show 2 * 0 + _ ≤ _; exact Nat.le_of_eq rfl) (hb hby at_65) (fun _ _ => ⟨rfl, (rfl : T122.heap = T122.heap), (by decide : 2 + 0 ≤ _), (by decide : 5 + 0 ≤ _)⟩)
    dsimp only [Pt.U, Pt.locs, Pt.cells, Pt.slots] at X131 l131 y131 z131 st131 hQ131
    subst l131 y131 z131
    obtain ⟨rfl, N131q, e131⟩ := hQ131
    have n132 := Fr.app n124 N131q
    refine own_st (T' := T131) (g' := (mkF m 68 #[.val (.int p0), .val (.int p1), .val (.int p2), .val (.int p3), .val (.int p4), .val (.int (3 : Int32)), .val (.ref b93), .val (.int ((0 : Int32) + (own_cnt p1)))] [(.int (own_cnt p2)), (.int ((0 : Int32) + (own_cnt p1)))])) st131 ?_
    refine own_st (T' := T131) (g' := (mkF m 81 #[.val (.int p0), .val (.int p1), .val (.int p2), .val (.int p3), .val (.int p4), .val (.int (3 : Int32)), .val (.ref b93), .val (.int (((0 : Int32) + (own_cnt p1)) + (own_cnt p2)))] [(.int p3), (.int (2 : Int32)), (.ref b93)])) (fun t k => ?_) ?_
    · show Steps p.tables e below (T131.setTop (mkF m 68 #[.val (.int p0), .val (.int p1), .val (.int p2), .val (.int p3), .val (.int p4), .val (.int (3 : Int32)), .val (.ref b93), .val (.int ((0 : Int32) + (own_cnt p1)))] [(.int (own_cnt p2)), (.int ((0 : Int32) + (own_cnt p1)))])) t
      refine XS.iadd X131.here hx rfl (hb hby at_68) rfl ?_
      show Steps p.tables e below (T131.setTop (mkF m 69 #[.val (.int p0), .val (.int p1), .val (.int p2), .val (.int p3), .val (.int p4), .val (.int (3 : Int32)), .val (.ref b93), .val (.int ((0 : Int32) + (own_cnt p1)))] [(.int (((0 : Int32) + (own_cnt p1)) + (own_cnt p2)))])) t
      refine XS.istore X131.here hx rfl (hb hby at_69) rfl (l' := #[.val (.int p0), .val (.int p1), .val (.int p2), .val (.int p3), .val (.int p4), .val (.int (3 : Int32)), .val (.ref b93), .val (.int (((0 : Int32) + (own_cnt p1)) + (own_cnt p2)))]) rfl ?_
      show Steps p.tables e below (T131.setTop (mkF m 71 #[.val (.int p0), .val (.int p1), .val (.int p2), .val (.int p3), .val (.int p4), .val (.int (3 : Int32)), .val (.ref b93), .val (.int (((0 : Int32) + (own_cnt p1)) + (own_cnt p2)))] [])) t
      refine XS.iload X131.here hx rfl (hb hby at_71) rfl ?_
      show Steps p.tables e below (T131.setTop (mkF m 73 #[.val (.int p0), .val (.int p1), .val (.int p2), .val (.int p3), .val (.int p4), .val (.int (3 : Int32)), .val (.ref b93), .val (.int (((0 : Int32) + (own_cnt p1)) + (own_cnt p2)))] [(.int (3 : Int32))])) t
      refine XS.iconst X131.here hx rfl (hb hby at_73) ?_
      show Steps p.tables e below (T131.setTop (mkF m 74 #[.val (.int p0), .val (.int p1), .val (.int p2), .val (.int p3), .val (.int p4), .val (.int (3 : Int32)), .val (.ref b93), .val (.int (((0 : Int32) + (own_cnt p1)) + (own_cnt p2)))] [(.int (2 : Int32)), (.int (3 : Int32))])) t
      refine XS.icmpNo X131.here hx rfl (hb hby at_74) rfl (by decide) ?_
      show Steps p.tables e below (T131.setTop (mkF m 77 #[.val (.int p0), .val (.int p1), .val (.int p2), .val (.int p3), .val (.int p4), .val (.int (3 : Int32)), .val (.ref b93), .val (.int (((0 : Int32) + (own_cnt p1)) + (own_cnt p2)))] [])) t
      refine XS.aload X131.here hx rfl (hb hby at_77) rfl rfl ?_
      show Steps p.tables e below (T131.setTop (mkF m 79 #[.val (.int p0), .val (.int p1), .val (.int p2), .val (.int p3), .val (.int p4), .val (.int (3 : Int32)), .val (.ref b93), .val (.int (((0 : Int32) + (own_cnt p1)) + (own_cnt p2)))] [(.ref b93)])) t
      refine XS.iconst X131.here hx rfl (hb hby at_79) ?_
      show Steps p.tables e below (T131.setTop (mkF m 80 #[.val (.int p0), .val (.int p1), .val (.int p2), .val (.int p3), .val (.int p4), .val (.int (3 : Int32)), .val (.ref b93), .val (.int (((0 : Int32) + (own_cnt p1)) + (own_cnt p2)))] [(.int (2 : Int32)), (.ref b93)])) t
      refine XS.iloadN X131.here hx rfl (hb hby at_80) rfl ?_
      exact k
    obtain ⟨_, _, ⟨T133, L133, k133, n133⟩, -, X133, ⟨Lc133, hQ133, l133, y133, z133⟩, st133⟩ := Jvm.LawKit.callS X131 hx (y := (⟨"com/example/winnowfold/winnowfold/math/DenseVectorNonZeroCountPinLaw", "cell", "(I)D"⟩ : MethodName)) hown (mvT hZ (hw _ (List.mem_of_getElem? (i := 25) rfl))) (mvT hZ (hw _ (List.mem_of_getElem? (i := 26) rfl))) (mvT hZ (hw _ (List.mem_of_getElem? (i := 27) rfl))) (mvT hZ (hw _ (List.mem_of_getElem? (i := 28) rfl))) (by decide) (backOf (W := 2) (rm5 l Z ar hw [] p3 T122.heap n0 z129) hZ (hw _ (List.mem_of_getElem? (i := 28) rfl)) (hw _ (List.mem_of_getElem? (i := 27) rfl)) (by decide) (by decide)) (g := (mkF m 81 #[.val (.int p0), .val (.int p1), .val (.int p2), .val (.int p3), .val (.int p4), .val (.int (3 : Int32)), .val (.ref b93), .val (.int (((0 : Int32) + (own_cnt p1)) + (own_cnt p2)))] [(.int p3), (.int (2 : Int32)), (.ref b93)])) rfl (by rw [hml]; rfl) (argsL := [(.int p3)]) (rest := [(.int (2 : Int32)), (.ref b93)]) (lenOf pd0_2 rfl) rfl (by show 2 * 0 + _ ≤ _; exact Nat.le_of_eq rfl) (hb hby at_81) (fun _ _ => ⟨rfl, e131, (by decide : 2 + 0 ≤ _), (by decide : 5 + 0 ≤ _)⟩)
    dsimp only [Pt.U, Pt.locs, Pt.cells, Pt.slots] at X133 l133 y133 z133 st133 hQ133
    subst l133 y133 z133
    obtain ⟨rfl, N133q, e133⟩ := hQ133
    have n134 := Fr.app n132 N133q
    refine own_st (T' := T133) (g' := (mkF m 84 #[.val (.int p0), .val (.int p1), .val (.int p2), .val (.int p3), .val (.int p4), .val (.int (3 : Int32)), .val (.ref b93), .val (.int (((0 : Int32) + (own_cnt p1)) + (own_cnt p2)))] [(.double (own_val p3)), (.int (2 : Int32)), (.ref b93)])) st133 ?_
    obtain ⟨cq135, kq135, qa135, qb135, qc135⟩ := isOf hZ e133 f125
    obtain ⟨_, _, ⟨T135, L135, k135, n135⟩, -, X135, ⟨Lc135, hQ135, l135, y135, z135⟩, st135⟩ := X133.virtualBack hx (y := (⟨"com/example/winnowfold/winnowfold/math/DenseVector", "set", "(ID)V"⟩ : MethodName)) (z := (⟨"com/example/winnowfold/winnowfold/math/DenseVector", "set", "(ID)V"⟩ : MethodName)) hown (mvT hZ (hw _ (List.mem_of_getElem? (i := 29) rfl))) (mvT hZ (hw _ (List.mem_of_getElem? (i := 30) rfl))) (notFace_of_selects (args := #[]) (mvT hZ (hw _ (List.mem_of_getElem? (i := 32) rfl)))) (mvT hZ (hw _ (List.mem_of_getElem? (i := 32) rfl))) (mvT hZ (hw _ (List.mem_of_getElem? (i := 31) rfl))) (by decide) (backOf (W := 0) (rm6 l Z ar hw [] b93 ((2 : Int32)) ((own_val p3)) ((3 : Int32)) x0_98 kx_x0_98 ((3 : Int32)) ([(.double (own_val p1)), (.double (own_val p2)), (.double (0 : UInt64))]) ((.double (0 : UInt64))) T122.heap n0 z129 f125 f126 f127 f128 (by decide) (by decide) (by decide) (show ((2 : Int32)).toNatClampNeg < 3 by decide) ne_b93_x0_98 g_x0_98) hZ (hw _ (List.mem_of_getElem? (i := 33) rfl)) (hw _ (List.mem_of_getElem? (i := 3) rfl)) (by decide) (by decide)) qa135 qc135 (g := (mkF m 84 #[.val (.int p0), .val (.int p1), .val (.int p2), .val (.int p3), .val (.int p4), .val (.int (3 : Int32)), .val (.ref b93), .val (.int (((0 : Int32) + (own_cnt p1)) + (own_cnt p2)))] [(.double (own_val p3)), (.int (2 : Int32)), (.ref b93)])) rfl (by rw [hml]; rfl) (Steps.refl _) (argsL := [(.int (2 : Int32)), (.double (own_val p3))]) (rest := []) (lenOf pd0_3 rfl) rfl (by show 2 * 0 + _ ≤ _; exact Nat.le_of_eq rfl) (hb hby at_84) (fun _ _ => ⟨rfl, e133, (by decide : 2 + 0 ≤ _), (by decide : 5 + 0 ≤ _)⟩)
    dsimp only [Pt.U, Pt.locs, Pt.cells, Pt.slots] at X135 l135 y135 z135 st135 hQ135
    subst l135 y135 z135
    obtain ⟨rfl, N135q, K135, f136⟩ := hQ135
    have n137 := Fr.app n134 N135q
    have f138 := f125.keep K135
    have f139 := f126.keep K135 (ninS ne_b93_x0_98 nin0)
    have f140 := f127.keep K135 (ninS ne_b93_x0_98 nin0)
    have f141 := own_ve (vs' := [(.double (own_val p1)), (.double (own_val p2)), (.double (own_val p3))]) f136 (by rw [show ((2 : Int32)).toNatClampNeg = 2 by decide]; rfl)
    have z142 := Nat.le_trans z129 K135.1
    have k143 := k130.trans K135 (allS (Or.inr sz_x0_98) all0)
    refine own_tr (T' := T135) (g' := (mkF m 87 #[.val (.int p0), .val (.int p1), .val (.int p2), .val (.int p3), .val (.int p4), .val (.int (3 : Int32)), .val (.ref b93), .val (.int (((0 : Int32) + (own_cnt p1)) + (own_cnt p2)))] [])) st135 ?_
    refine own_st (T' := T135) (g' := (mkF m 90 #[.val (.int p0), .val (.int p1), .val (.int p2), .val (.int p3), .val (.int p4), .val (.int (3 : Int32)), .val (.ref b93), .val (.int (((0 : Int32) + (own_cnt p1)) + (own_cnt p2)))] [(.int p3), (.int (((0 : Int32) + (own_cnt p1)) + (own_cnt p2)))])) (fun t k => ?_) ?_
    · show Steps p.tables e below (T135.setTop (mkF m 87 #[.val (.int p0), .val (.int p1), .val (.int p2), .val (.int p3), .val (.int p4), .val (.int (3 : Int32)), .val (.ref b93), .val (.int (((0 : Int32) + (own_cnt p1)) + (own_cnt p2)))] [])) t
      refine XS.iload X135.here hx rfl (hb hby at_87) rfl ?_
      show Steps p.tables e below (T135.setTop (mkF m 89 #[.val (.int p0), .val (.int p1), .val (.int p2), .val (.int p3), .val (.int p4), .val (.int (3 : Int32)), .val (.ref b93), .val (.int (((0 : Int32) + (own_cnt p1)) + (own_cnt p2)))] [(.int (((0 : Int32) + (own_cnt p1)) + (own_cnt p2)))])) t
      refine XS.iloadN X135.here hx rfl (hb hby at_89) rfl ?_
      exact k
    obtain ⟨_, _, ⟨T144, L144, k144, n144⟩, -, X144, ⟨Lc144, hQ144, l144, y144, z144⟩, st144⟩ := Jvm.LawKit.callS X135 hx (y := (⟨"com/example/winnowfold/winnowfold/math/DenseVectorNonZeroCountPinLaw", "counts", "(I)I"⟩ : MethodName)) hown (mvT hZ (hw _ (List.mem_of_getElem? (i := 48) rfl))) (mvT hZ (hw _ (List.mem_of_getElem? (i := 49) rfl))) (mvT hZ (hw _ (List.mem_of_getElem? (i := 27) rfl))) (mvT hZ (hw _ (List.mem_of_getElem? (i := 50) rfl))) (by decide) (backOf (W := 1) (rm10 l Z ar hw [] p3 T135.heap n0 z142) hZ (hw _ (List.mem_of_getElem? (i := 50) rfl)) (hw _ (List.mem_of_getElem? (i := 27) rfl)) (by decide) (by decide)) (g := (mkF m 90 #[.val (.int p0), .val (.int p1), .val (.int p2), .val (.int p3), .val (.int p4), .val (.int (3 : Int32)), .val (.ref b93), .val (.int (((0 : Int32) + (own_cnt p1)) + (own_cnt p2)))] [(.int p3), (.int (((0 : Int32) + (own_cnt p1)) + (own_cnt p2)))])) rfl (by rw [hml]; rfl) (argsL := [(.int p3)]) (rest := [(.int (((0 : Int32) + (own_cnt p1)) + (own_cnt p2)))]) (lenOf pd0_4 rfl) rfl (by show 2 * 0 + _ ≤ _; exact Nat.le_of_eq rfl) (hb hby at_90) (fun _ _ => ⟨rfl, (rfl : T135.heap = T135.heap), (by decide : 2 + 0 ≤ _), (by decide : 5 + 0 ≤ _)⟩)
    dsimp only [Pt.U, Pt.locs, Pt.cells, Pt.slots] at X144 l144 y144 z144 st144 hQ144
    subst l144 y144 z144
    obtain ⟨rfl, N144q, e144⟩ := hQ144
    have n145 := Fr.app n137 N144q
    refine own_st (T' := T144) (g' := (mkF m 93 #[.val (.int p0), .val (.int p1), .val (.int p2), .val (.int p3), .val (.int p4), .val (.int (3 : Int32)), .val (.ref b93), .val (.int (((0 : Int32) + (own_cnt p1)) + (own_cnt p2)))] [(.int (own_cnt p3)), (.int (((0 : Int32) + (own_cnt p1)) + (own_cnt p2)))])) st144 ?_
    refine own_st (T' := T144) (g' := (mkF m 125 #[.val (.int p0), .val (.int p1), .val (.int p2), .val (.int p3), .val (.int p4), .val (.int (3 : Int32)), .val (.ref b93), .val (.int ((((0 : Int32) + (own_cnt p1)) + (own_cnt p2)) + (own_cnt p3)))] [(.ref b93)])) (fun t k => ?_) ?_
    · show Steps p.tables e below (T144.setTop (mkF m 93 #[.val (.int p0), .val (.int p1), .val (.int p2), .val (.int p3), .val (.int p4), .val (.int (3 : Int32)), .val (.ref b93), .val (.int (((0 : Int32) + (own_cnt p1)) + (own_cnt p2)))] [(.int (own_cnt p3)), (.int (((0 : Int32) + (own_cnt p1)) + (own_cnt p2)))])) t
      refine XS.iadd X144.here hx rfl (hb hby at_93) rfl ?_
      show Steps p.tables e below (T144.setTop (mkF m 94 #[.val (.int p0), .val (.int p1), .val (.int p2), .val (.int p3), .val (.int p4), .val (.int (3 : Int32)), .val (.ref b93), .val (.int (((0 : Int32) + (own_cnt p1)) + (own_cnt p2)))] [(.int ((((0 : Int32) + (own_cnt p1)) + (own_cnt p2)) + (own_cnt p3)))])) t
      refine XS.istore X144.here hx rfl (hb hby at_94) rfl (l' := #[.val (.int p0), .val (.int p1), .val (.int p2), .val (.int p3), .val (.int p4), .val (.int (3 : Int32)), .val (.ref b93), .val (.int ((((0 : Int32) + (own_cnt p1)) + (own_cnt p2)) + (own_cnt p3)))]) rfl ?_
      show Steps p.tables e below (T144.setTop (mkF m 96 #[.val (.int p0), .val (.int p1), .val (.int p2), .val (.int p3), .val (.int p4), .val (.int (3 : Int32)), .val (.ref b93), .val (.int ((((0 : Int32) + (own_cnt p1)) + (own_cnt p2)) + (own_cnt p3)))] [])) t
      refine XS.iload X144.here hx rfl (hb hby at_96) rfl ?_
      show Steps p.tables e below (T144.setTop (mkF m 98 #[.val (.int p0), .val (.int p1), .val (.int p2), .val (.int p3), .val (.int p4), .val (.int (3 : Int32)), .val (.ref b93), .val (.int ((((0 : Int32) + (own_cnt p1)) + (own_cnt p2)) + (own_cnt p3)))] [(.int (3 : Int32))])) t
      refine XS.iconst X144.here hx rfl (hb hby at_98) ?_
      show Steps p.tables e below (T144.setTop (mkF m 99 #[.val (.int p0), .val (.int p1), .val (.int p2), .val (.int p3), .val (.int p4), .val (.int (3 : Int32)), .val (.ref b93), .val (.int ((((0 : Int32) + (own_cnt p1)) + (own_cnt p2)) + (own_cnt p3)))] [(.int (3 : Int32)), (.int (3 : Int32))])) t
      refine XS.icmpYes X144.here hx rfl (pc0 := 99) (pc' := 123) rfl (hb hby at_99) rfl (by decide) (by decide) (by decide) ?_
      show Steps p.tables e below (T144.setTop (mkF m 123 #[.val (.int p0), .val (.int p1), .val (.int p2), .val (.int p3), .val (.int p4), .val (.int (3 : Int32)), .val (.ref b93), .val (.int ((((0 : Int32) + (own_cnt p1)) + (own_cnt p2)) + (own_cnt p3)))] [])) t
      refine XS.aload X144.here hx rfl (hb hby at_123) rfl rfl ?_
      exact k
    obtain ⟨cq146, kq146, qa146, qb146, qc146⟩ := isOf hZ e144 f138
    obtain ⟨_, _, ⟨T146, L146, k146, n146⟩, -, X146, ⟨Lc146, hQ146, l146, y146, z146⟩, st146⟩ := X144.virtualBack hx (y := (⟨"com/example/winnowfold/winnowfold/math/DenseVector", "nonZeroCount", "()I"⟩ : MethodName)) (z := (⟨"com/example/winnowfold/winnowfold/math/DenseVector", "nonZeroCount", "()I"⟩ : MethodName)) hown (mvT hZ (hw _ (List.mem_of_getElem? (i := 20) rfl))) (mvT hZ (hw _ (List.mem_of_getElem? (i := 21) rfl))) (notFace_of_selects (args := #[]) (mvT hZ (hw _ (List.mem_of_getElem? (i := 23) rfl)))) (mvT hZ (hw _ (List.mem_of_getElem? (i := 23) rfl))) (mvT hZ (hw _ (List.mem_of_getElem? (i := 22) rfl))) (by decide) (backOf (W := 0) (rmz3 l Z ar hw [] b93 x0_98 kx_x0_98 ((own_val p1)) ((own_val p2)) ((own_val p3)) T135.heap n0 z142 f138 f140 f141) hZ (hw _ (List.mem_of_getElem? (i := 24) rfl)) (hw _ (List.mem_of_getElem? (i := 3) rfl)) (by decide) (by decide)) qa146 qc146 (g := (mkF m 125 #[.val (.int p0), .val (.int p1), .val (.int p2), .val (.int p3), .val (.int p4), .val (.int (3 : Int32)), .val (.ref b93), .val (.int ((((0 : Int32) + (own_cnt p1)) + (own_cnt p2)) + (own_cnt p3)))] [(.ref b93)])) rfl (by rw [hml]; rfl) (Steps.refl _) (argsL := []) (rest := []) (lenOf pd0_1 rfl) rfl (by show 2 * 0 + _ ≤ _; exact Nat.le_of_eq rfl) (hb hby at_125) (fun _ _ => ⟨rfl, e144, (by decide : 2 + 0 ≤ _), (by decide : 5 + 0 ≤ _)⟩)
    dsimp only [Pt.U, Pt.locs, Pt.cells, Pt.slots] at X146 l146 y146 z146 st146 hQ146
    subst l146 y146 z146
    obtain ⟨rfl, N146q, e146⟩ := hQ146
    have n147 := Fr.app n145 N146q
    refine own_tr (T' := T146) (g' := (mkF m 128 #[.val (.int p0), .val (.int p1), .val (.int p2), .val (.int p3), .val (.int p4), .val (.int (3 : Int32)), .val (.ref b93), .val (.int ((((0 : Int32) + (own_cnt p1)) + (own_cnt p2)) + (own_cnt p3)))] [(.int (own_z (own_z (own_z (0 : Int32) (own_val p1)) (own_val p2)) (own_val p3)))])) st146 ?_
    refine own_st (T' := T146) (g' := (mkF m 138 #[.val (.int p0), .val (.int p1), .val (.int p2), .val (.int p3), .val (.int p4), .val (.int (3 : Int32)), .val (.ref b93), .val (.int ((((0 : Int32) + (own_cnt p1)) + (own_cnt p2)) + (own_cnt p3)))] [(.int (1 : Int32))])) (fun t k => ?_) ?_
    · show Steps p.tables e below (T146.setTop (mkF m 128 #[.val (.int p0), .val (.int p1), .val (.int p2), .val (.int p3), .val (.int p4), .val (.int (3 : Int32)), .val (.ref b93), .val (.int ((((0 : Int32) + (own_cnt p1)) + (own_cnt p2)) + (own_cnt p3)))] [(.int (own_z (own_z (own_z (0 : Int32) (own_val p1)) (own_val p2)) (own_val p3)))])) t
      refine XS.iload X146.here hx rfl (hb hby at_128) rfl ?_
      show Steps p.tables e below (T146.setTop (mkF m 130 #[.val (.int p0), .val (.int p1), .val (.int p2), .val (.int p3), .val (.int p4), .val (.int (3 : Int32)), .val (.ref b93), .val (.int ((((0 : Int32) + (own_cnt p1)) + (own_cnt p2)) + (own_cnt p3)))] [(.int ((((0 : Int32) + (own_cnt p1)) + (own_cnt p2)) + (own_cnt p3))), (.int (own_z (own_z (own_z (0 : Int32) (own_val p1)) (own_val p2)) (own_val p3)))])) t
      refine XS.icmpNo X146.here hx rfl (hb hby at_130) rfl (teq ((by simp only [own_zc]) : (own_z (own_z (own_z (0 : Int32) (own_val p1)) (own_val p2)) (own_val p3)) = ((((0 : Int32) + (own_cnt p1)) + (own_cnt p2)) + (own_cnt p3)))).2 ?_
      show Steps p.tables e below (T146.setTop (mkF m 133 #[.val (.int p0), .val (.int p1), .val (.int p2), .val (.int p3), .val (.int p4), .val (.int (3 : Int32)), .val (.ref b93), .val (.int ((((0 : Int32) + (own_cnt p1)) + (own_cnt p2)) + (own_cnt p3)))] [])) t
      refine XS.iconst X146.here hx rfl (hb hby at_133) ?_
      show Steps p.tables e below (T146.setTop (mkF m 134 #[.val (.int p0), .val (.int p1), .val (.int p2), .val (.int p3), .val (.int p4), .val (.int (3 : Int32)), .val (.ref b93), .val (.int ((((0 : Int32) + (own_cnt p1)) + (own_cnt p2)) + (own_cnt p3)))] [(.int (1 : Int32))])) t
      refine XS.goto X146.here hx rfl (pc0 := 134) (pc' := 138) rfl (hb hby at_134) (by decide) (by decide) ?_
      exact k
    refine own_retZ X146 hx hlk Bd.returns (hb hby at_138) rfl (by decide) (by decide) ?_
    show Q0 Z p0 p1 p2 p3 p4 h0 n0 (some (.int (1 : Int32))) T146.heap _
    exact ⟨rfl, n147⟩
  · rw [hk6_5]
    refine own_st (T' := s₁) (g' := (mkF m 8 #[.val (.int p0), .val (.int p1), .val (.int p2), .val (.int p3), .val (.int p4), .val (.int (4 : Int32)), .unset, .unset] [])) (fun t k => ?_) ?_
    · show Steps p.tables e below (s₁.setTop (mkF m 6 #[.val (.int p0), .val (.int p1), .val (.int p2), .val (.int p3), .val (.int p4), .unset, .unset, .unset] [(.int (4 : Int32))])) t
      refine XS.istore X0.here hx rfl (hb hby at_6) rfl (l' := #[.val (.int p0), .val (.int p1), .val (.int p2), .val (.int p3), .val (.int p4), .val (.int (4 : Int32)), .unset, .unset]) rfl ?_
      exact k
    obtain ⟨T148, h148, X148, e148, E148, A148, D148, -, st148⟩ := newO X0 hx hZ hown (hw _ (List.mem_of_getElem? (i := 1) rfl)) (hw _ (List.mem_of_getElem? (i := 2) rfl)) (hw _ (List.mem_of_getElem? (i := 3) rfl)) e0 (g := (mkF m 8 #[.val (.int p0), .val (.int p1), .val (.int p2), .val (.int p3), .val (.int p4), .val (.int (4 : Int32)), .unset, .unset] [])) rfl (hb hby at_8) (by decide) (by decide)
    obtain ⟨b148, g148⟩ : ∃ z, z = h0.size := ⟨_, rfl⟩
    rw [← g148] at A148 D148 st148
    have g_b148 : n0 ≤ b148 := Nat.le_trans Z0 (Nat.le_of_eq g148.symm)
    have sz_b148 : h0.size ≤ b148 := Nat.le_trans K0.1 (Nat.le_of_eq g148.symm)
    have z149 := Nat.le_trans Z0 E148.1
    have k150 := K0.ext E148
    have f151 : Fld Z h148 b148 "com/example/winnowfold/winnowfold/math/AbstractVector" "size" "I" (.int (0 : Int32)) := D148 (Or.inr (hw _ (List.mem_of_getElem? (i := 16) rfl))) (ty := .int) (by decide)
    have f152 : Fld Z h148 b148 "com/example/winnowfold/winnowfold/math/DenseVector" "values" "[D" .null := D148 (Or.inr (hw _ (List.mem_of_getElem? (i := 19) rfl))) (ty := (.array .double)) (by decide)
    refine own_st (T' := T148) (g' := (mkF m 11 #[.val (.int p0), .val (.int p1), .val (.int p2), .val (.int p3), .val (.int p4), .val (.int (4 : Int32)), .unset, .unset] [(.ref b148)])) st148 ?_
    refine own_st (T' := T148) (g' := (mkF m 14 #[.val (.int p0), .val (.int p1), .val (.int p2), .val (.int p3), .val (.int p4), .val (.int (4 : Int32)), .unset, .unset] [(.int (4 : Int32)), (.ref b148), (.ref b148)])) (fun t k => ?_) ?_
    · show Steps p.tables e below (T148.setTop (mkF m 11 #[.val (.int p0), .val (.int p1), .val (.int p2), .val (.int p3), .val (.int p4), .val (.int (4 : Int32)), .unset, .unset] [(.ref b148)])) t
      refine XS.dup X148.here hx rfl (hb hby at_11) rfl rfl ?_
      show Steps p.tables e below (T148.setTop (mkF m 12 #[.val (.int p0), .val (.int p1), .val (.int p2), .val (.int p3), .val (.int p4), .val (.int (4 : Int32)), .unset, .unset] [(.ref b148), (.ref b148)])) t
      refine XS.iload X148.here hx rfl (hb hby at_12) rfl ?_
      exact k
    obtain ⟨_, _, ⟨T153, L153, k153, n153⟩, -, X153, ⟨Lc153, hQ153, l153, y153, z153⟩, st153⟩ := X148.specialBack hx (y := (⟨"com/example/winnowfold/winnowfold/math/DenseVector", "<init>", "(I)V"⟩ : MethodName)) rfl hown (mvT hZ (hw _ (List.mem_of_getElem? (i := 4) rfl))) (mvT hZ (hw _ (List.mem_of_getElem? (i := 5) rfl))) (mvT hZ (hw _ (List.mem_of_getElem? (i := 6) rfl))) (by decide) (backOf (W := 1) (rmI4 l Z ar hw [] b148 ((.int (0 : Int32))) (.null) h148 n0 z149 A148 f151 f152 g_b148) hZ (hw _ (List.mem_of_getElem? (i := 6) rfl)) (hw _ (List.mem_of_getElem? (i := 3) rfl)) (by decide) (by decide)) (g := (mkF m 14 #[.val (.int p0), .val (.int p1), .val (.int p2), .val (.int p3), .val (.int p4), .val (.int (4 : Int32)), .unset, .unset] [(.int (4 : Int32)), (.ref b148), (.ref b148)])) rfl (by rw [hml]; rfl) (Steps.refl _) (a := b148) (argsL := [(.int (4 : Int32))]) (rest := [(.ref b148)]) (lenOf pd0_0 rfl) rfl (by show 2 * 0 + _ ≤ _; exact Nat.le_of_eq rfl) (hb hby at_14) (fun _ _ => ⟨rfl, e148, (by decide : 1 + 1 ≤ _), (by decide : 2 + 4 ≤ _)⟩)
    dsimp only [Pt.U, Pt.locs, Pt.cells, Pt.slots] at X153 l153 y153 z153 st153 hQ153
    subst l153 y153 z153
    obtain ⟨x0_153, kx_x0_153, rfl, N153q, K153, sz153_x0, f154, f155, f156, f157⟩ := hQ153
    have n158 := Fr.app N0 N153q
    have ne_b148_x0_153 : b148 ≠ x0_153 := Nat.ne_of_lt (Nat.lt_of_lt_of_le A148.lt sz153_x0)
    have g_x0_153 : n0 ≤ x0_153 := Nat.le_trans z149 sz153_x0
    have sz_x0_153 : h0.size ≤ x0_153 := Nat.le_trans k150.1 sz153_x0
    have f159 := A148.keep K153
    have z160 := Nat.le_trans z149 K153.1
    have k161 := k150.trans K153 (allS (Or.inr sz_b148) all0)
    refine own_tr (T' := T153) (g' := (mkF m 17 #[.val (.int p0), .val (.int p1), .val (.int p2), .val (.int p3), .val (.int p4), .val (.int (4 : Int32)), .unset, .unset] [(.ref b148)])) st153 ?_
    refine own_st (T' := T153) (g' := (mkF m 31 #[.val (.int p0), .val (.int p1), .val (.int p2), .val (.int p3), .val (.int p4), .val (.int (4 : Int32)), .val (.ref b148), .val (.int (0 : Int32))] [(.int p1), (.int (0 : Int32)), (.ref b148)])) (fun t k => ?_) ?_
    · show Steps p.tables e below (T153.setTop (mkF m 17 #[.val (.int p0), .val (.int p1), .val (.int p2), .val (.int p3), .val (.int p4), .val (.int (4 : Int32)), .unset, .unset] [(.ref b148)])) t
      refine XS.astore X153.here hx rfl (hb hby at_17) rfl rfl (l' := #[.val (.int p0), .val (.int p1), .val (.int p2), .val (.int p3), .val (.int p4), .val (.int (4 : Int32)), .val (.ref b148), .unset]) rfl ?_
      show Steps p.tables e below (T153.setTop (mkF m 19 #[.val (.int p0), .val (.int p1), .val (.int p2), .val (.int p3), .val (.int p4), .val (.int (4 : Int32)), .val (.ref b148), .unset] [])) t
      refine XS.iconst X153.here hx rfl (hb hby at_19) ?_
      show Steps p.tables e below (T153.setTop (mkF m 20 #[.val (.int p0), .val (.int p1), .val (.int p2), .val (.int p3), .val (.int p4), .val (.int (4 : Int32)), .val (.ref b148), .unset] [(.int (0 : Int32))])) t
      refine XS.istore X153.here hx rfl (hb hby at_20) rfl (l' := #[.val (.int p0), .val (.int p1), .val (.int p2), .val (.int p3), .val (.int p4), .val (.int (4 : Int32)), .val (.ref b148), .val (.int (0 : Int32))]) rfl ?_
      show Steps p.tables e below (T153.setTop (mkF m 22 #[.val (.int p0), .val (.int p1), .val (.int p2), .val (.int p3), .val (.int p4), .val (.int (4 : Int32)), .val (.ref b148), .val (.int (0 : Int32))] [])) t
      refine XS.iload X153.here hx rfl (hb hby at_22) rfl ?_
      show Steps p.tables e below (T153.setTop (mkF m 24 #[.val (.int p0), .val (.int p1), .val (.int p2), .val (.int p3), .val (.int p4), .val (.int (4 : Int32)), .val (.ref b148), .val (.int (0 : Int32))] [(.int (4 : Int32))])) t
      refine XS.ifNo X153.here hx rfl (hb hby at_24) rfl (by decide) ?_
      show Steps p.tables e below (T153.setTop (mkF m 27 #[.val (.int p0), .val (.int p1), .val (.int p2), .val (.int p3), .val (.int p4), .val (.int (4 : Int32)), .val (.ref b148), .val (.int (0 : Int32))] [])) t
      refine XS.aload X153.here hx rfl (hb hby at_27) rfl rfl ?_
      show Steps p.tables e below (T153.setTop (mkF m 29 #[.val (.int p0), .val (.int p1), .val (.int p2), .val (.int p3), .val (.int p4), .val (.int (4 : Int32)), .val (.ref b148), .val (.int (0 : Int32))] [(.ref b148)])) t
      refine XS.iconst X153.here hx rfl (hb hby at_29) ?_
      show Steps p.tables e below (T153.setTop (mkF m 30 #[.val (.int p0), .val (.int p1), .val (.int p2), .val (.int p3), .val (.int p4), .val (.int (4 : Int32)), .val (.ref b148), .val (.int (0 : Int32))] [(.int (0 : Int32)), (.ref b148)])) t
      refine XS.iloadN X153.here hx rfl (hb hby at_30) rfl ?_
      exact k
    obtain ⟨_, _, ⟨T162, L162, k162, n162⟩, -, X162, ⟨Lc162, hQ162, l162, y162, z162⟩, st162⟩ := Jvm.LawKit.callS X153 hx (y := (⟨"com/example/winnowfold/winnowfold/math/DenseVectorNonZeroCountPinLaw", "cell", "(I)D"⟩ : MethodName)) hown (mvT hZ (hw _ (List.mem_of_getElem? (i := 25) rfl))) (mvT hZ (hw _ (List.mem_of_getElem? (i := 26) rfl))) (mvT hZ (hw _ (List.mem_of_getElem? (i := 27) rfl))) (mvT hZ (hw _ (List.mem_of_getElem? (i := 28) rfl))) (by decide) (backOf (W := 2) (rm5 l Z ar hw [] p1 T153.heap n0 z160) hZ (hw _ (List.mem_of_getElem? (i := 28) rfl)) (hw _ (List.mem_of_getElem? (i := 27) rfl)) (by decide) (by decide)) (g := (mkF m 31 #[.val (.int p0), .val (.int p1), .val (.int p2), .val (.int p3), .val (.int p4), .val (.int (4 : Int32)), .val (.ref b148), .val (.int (0 : Int32))] [(.int p1), (.int (0 : Int32)), (.ref b148)])) rfl (by rw [hml]; rfl) (argsL := [(.int p1)]) (rest := [(.int (0 : Int32)), (.ref b148)]) (lenOf pd0_2 rfl) rfl (by show 2 * 0 + _ ≤ _; exact Nat.le_of_eq rfl) (hb hby at_31) (fun _ _ => ⟨rfl, (rfl : T153.heap = T153.heap), (by decide : 2 + 0 ≤ _), (by decide : 6 + 0 ≤ _)⟩)
    dsimp only [Pt.U, Pt.locs, Pt.cells, Pt.slots] at X162 l162 y162 z162 st162 hQ162
    subst l162 y162 z162
    obtain ⟨rfl, N162q, e162⟩ := hQ162
    have n163 := Fr.app n158 N162q
    refine own_st (T' := T162) (g' := (mkF m 34 #[.val (.int p0), .val (.int p1), .val (.int p2), .val (.int p3), .val (.int p4), .val (.int (4 : Int32)), .val (.ref b148), .val (.int (0 : Int32))] [(.double (own_val p1)), (.int (0 : Int32)), (.ref b148)])) st162 ?_
    obtain ⟨cq164, kq164, qa164, qb164, qc164⟩ := isOf hZ e162 f154
    obtain ⟨_, _, ⟨T164, L164, k164, n164⟩, -, X164, ⟨Lc164, hQ164, l164, y164, z164⟩, st164⟩ := X162.virtualBack hx (y := (⟨"com/example/winnowfold/winnowfold/math/DenseVector", "set", "(ID)V"⟩ : MethodName)) (z := (⟨"com/example/winnowfold/winnowfold/math/DenseVector", "set", "(ID)V"⟩ : MethodName)) hown (mvT hZ (hw _ (List.mem_of_getElem? (i := 29) rfl))) (mvT hZ (hw _ (List.mem_of_getElem? (i := 30) rfl))) (notFace_of_selects (args := #[]) (mvT hZ (hw _ (List.mem_of_getElem? (i := 32) rfl)))) (mvT hZ (hw _ (List.mem_of_getElem? (i := 32) rfl))) (mvT hZ (hw _ (List.mem_of_getElem? (i := 31) rfl))) (by decide) (backOf (W := 0) (rm6 l Z ar hw [] b148 ((0 : Int32)) ((own_val p1)) ((4 : Int32)) x0_153 kx_x0_153 ((4 : Int32)) ([(.double (0 : UInt64)), (.double (0 : UInt64)), (.double (0 : UInt64)), (.double (0 : UInt64))]) ((.double (0 : UInt64))) T153.heap n0 z160 f154 f155 f156 f157 (by decide) (by decide) (by decide) (show ((0 : Int32)).toNatClampNeg < 4 by decide) ne_b148_x0_153 g_x0_153) hZ (hw _ (List.mem_of_getElem? (i := 33) rfl)) (hw _ (List.mem_of_getElem? (i := 3) rfl)) (by decide) (by decide)) qa164 qc164 (g := (mkF m 34 #[.val (.int p0), .val (.int p1), .val (.int p2), .val (.int p3), .val (.int p4), .val (.int (4 : Int32)), .val (.ref b148), .val (.int (0 : Int32))] [(.double (own_val p1)), (.int (0 : Int32)), (.ref b148)])) rfl (by rw [hml]; rfl) (Steps.refl _) (argsL := [(.int (0 : Int32)), (.double (own_val p1))]) (rest := []) (lenOf pd0_3 rfl) rfl (by show 2 * 0 + _ ≤ _; exact Nat.le_of_eq rfl) (hb hby at_34) (fun _ _ => ⟨rfl, e162, (by decide : 2 + 0 ≤ _), (by decide : 6 + 0 ≤ _)⟩)
    dsimp only [Pt.U, Pt.locs, Pt.cells, Pt.slots] at X164 l164 y164 z164 st164 hQ164
    subst l164 y164 z164
    obtain ⟨rfl, N164q, K164, f165⟩ := hQ164
    have n166 := Fr.app n163 N164q
    have f167 := f154.keep K164
    have f168 := f155.keep K164 (ninS ne_b148_x0_153 nin0)
    have f169 := f156.keep K164 (ninS ne_b148_x0_153 nin0)
    have f170 := own_ve (vs' := [(.double (own_val p1)), (.double (0 : UInt64)), (.double (0 : UInt64)), (.double (0 : UInt64))]) f165 (by rw [show ((0 : Int32)).toNatClampNeg = 0 by decide]; rfl)
    have z171 := Nat.le_trans z160 K164.1
    have k172 := k161.trans K164 (allS (Or.inr sz_x0_153) all0)
    refine own_tr (T' := T164) (g' := (mkF m 37 #[.val (.int p0), .val (.int p1), .val (.int p2), .val (.int p3), .val (.int p4), .val (.int (4 : Int32)), .val (.ref b148), .val (.int (0 : Int32))] [])) st164 ?_
    refine own_st (T' := T164) (g' := (mkF m 40 #[.val (.int p0), .val (.int p1), .val (.int p2), .val (.int p3), .val (.int p4), .val (.int (4 : Int32)), .val (.ref b148), .val (.int (0 : Int32))] [(.int p1), (.int (0 : Int32))])) (fun t k => ?_) ?_
    · show Steps p.tables e below (T164.setTop (mkF m 37 #[.val (.int p0), .val (.int p1), .val (.int p2), .val (.int p3), .val (.int p4), .val (.int (4 : Int32)), .val (.ref b148), .val (.int (0 : Int32))] [])) t
      refine XS.iload X164.here hx rfl (hb hby at_37) rfl ?_
      show Steps p.tables e below (T164.setTop (mkF m 39 #[.val (.int p0), .val (.int p1), .val (.int p2), .val (.int p3), .val (.int p4), .val (.int (4 : Int32)), .val (.ref b148), .val (.int (0 : Int32))] [(.int (0 : Int32))])) t
      refine XS.iloadN X164.here hx rfl (hb hby at_39) rfl ?_
      exact k
    obtain ⟨_, _, ⟨T173, L173, k173, n173⟩, -, X173, ⟨Lc173, hQ173, l173, y173, z173⟩, st173⟩ := Jvm.LawKit.callS X164 hx (y := (⟨"com/example/winnowfold/winnowfold/math/DenseVectorNonZeroCountPinLaw", "counts", "(I)I"⟩ : MethodName)) hown (mvT hZ (hw _ (List.mem_of_getElem? (i := 48) rfl))) (mvT hZ (hw _ (List.mem_of_getElem? (i := 49) rfl))) (mvT hZ (hw _ (List.mem_of_getElem? (i := 27) rfl))) (mvT hZ (hw _ (List.mem_of_getElem? (i := 50) rfl))) (by decide) (backOf (W := 1) (rm10 l Z ar hw [] p1 T164.heap n0 z171) hZ (hw _ (List.mem_of_getElem? (i := 50) rfl)) (hw _ (List.mem_of_getElem? (i := 27) rfl)) (by decide) (by decide)) (g := (mkF m 40 #[.val (.int p0), .val (.int p1), .val (.int p2), .val (.int p3), .val (.int p4), .val (.int (4 : Int32)), .val (.ref b148), .val (.int (0 : Int32))] [(.int p1), (.int (0 : Int32))])) rfl (by rw [hml]; rfl) (argsL := [(.int p1)]) (rest := [(.int (0 : Int32))]) (lenOf pd0_4 rfl) rfl (by show 2 * 0 + _ ≤ _; exact Nat.le_of_eq rfl) (hb hby at_40) (fun _ _ => ⟨rfl, (rfl : T164.heap = T164.heap), (by decide : 2 + 0 ≤ _), (by decide : 6 + 0 ≤ _)⟩)
    dsimp only [Pt.U, Pt.locs, Pt.cells, Pt.slots] at X173 l173 y173 z173 st173 hQ173
    subst l173 y173 z173
    obtain ⟨rfl, N173q, e173⟩ := hQ173
    have n174 := Fr.app n166 N173q
    refine own_st (T' := T173) (g' := (mkF m 43 #[.val (.int p0), .val (.int p1), .val (.int p2), .val (.int p3), .val (.int p4), .val (.int (4 : Int32)), .val (.ref b148), .val (.int (0 : Int32))] [(.int (own_cnt p1)), (.int (0 : Int32))])) st173 ?_
    refine own_st (T' := T173) (g' := (mkF m 56 #[.val (.int p0), .val (.int p1), .val (.int p2), .val (.int p3), .val (.int p4), .val (.int (4 : Int32)), .val (.ref b148), .val (.int ((0 : Int32) + (own_cnt p1)))] [(.int p2), (.int (1 : Int32)), (.ref b148)])) (fun t k => ?_) ?_
    · show Steps p.tables e below (T173.setTop (mkF m 43 #[.val (.int p0), .val (.int p1), .val (.int p2), .val (.int p3), .val (.int p4), .val (.int (4 : Int32)), .val (.ref b148), .val (.int (0 : Int32))] [(.int (own_cnt p1)), (.int (0 : Int32))])) t
      refine XS.iadd X173.here hx rfl (hb hby at_43) rfl ?_
      show Steps p.tables e below (T173.setTop (mkF m 44 #[.val (.int p0), .val (.int p1), .val (.int p2), .val (.int p3), .val (.int p4), .val (.int (4 : Int32)), .val (.ref b148), .val (.int (0 : Int32))] [(.int ((0 : Int32) + (own_cnt p1)))])) t
      refine XS.istore X173.here hx rfl (hb hby at_44) rfl (l' := #[.val (.int p0), .val (.int p1), .val (.int p2), .val (.int p3), .val (.int p4), .val (.int (4 : Int32)), .val (.ref b148), .val (.int ((0 : Int32) + (own_cnt p1)))]) rfl ?_
      show Steps p.tables e below (T173.setTop (mkF m 46 #[.val (.int p0), .val (.int p1), .val (.int p2), .val (.int p3), .val (.int p4), .val (.int (4 : Int32)), .val (.ref b148), .val (.int ((0 : Int32) + (own_cnt p1)))] [])) t
      refine XS.iload X173.here hx rfl (hb hby at_46) rfl ?_
      show Steps p.tables e below (T173.setTop (mkF m 48 #[.val (.int p0), .val (.int p1), .val (.int p2), .val (.int p3), .val (.int p4), .val (.int (4 : Int32)), .val (.ref b148), .val (.int ((0 : Int32) + (own_cnt p1)))] [(.int (4 : Int32))])) t
      refine XS.iconst X173.here hx rfl (hb hby at_48) ?_
      show Steps p.tables e below (T173.setTop (mkF m 49 #[.val (.int p0), .val (.int p1), .val (.int p2), .val (.int p3), .val (.int p4), .val (.int (4 : Int32)), .val (.ref b148), .val (.int ((0 : Int32) + (own_cnt p1)))] [(.int (1 : Int32)), (.int (4 : Int32))])) t
      refine XS.icmpNo X173.here hx rfl (hb hby at_49) rfl (by decide) ?_
      show Steps p.tables e below (T173.setTop (mkF m 52 #[.val (.int p0), .val (.int p1), .val (.int p2), .val (.int p3), .val (.int p4), .val (.int (4 : Int32)), .val (.ref b148), .val (.int ((0 : Int32) + (own_cnt p1)))] [])) t
      refine XS.aload X173.here hx rfl (hb hby at_52) rfl rfl ?_
      show Steps p.tables e below (T173.setTop (mkF m 54 #[.val (.int p0), .val (.int p1), .val (.int p2), .val (.int p3), .val (.int p4), .val (.int (4 : Int32)), .val (.ref b148), .val (.int ((0 : Int32) + (own_cnt p1)))] [(.ref b148)])) t
      refine XS.iconst X173.here hx rfl (hb hby at_54) ?_
      show Steps p.tables e below (T173.setTop (mkF m 55 #[.val (.int p0), .val (.int p1), .val (.int p2), .val (.int p3), .val (.int p4), .val (.int (4 : Int32)), .val (.ref b148), .val (.int ((0 : Int32) + (own_cnt p1)))] [(.int (1 : Int32)), (.ref b148)])) t
      refine XS.iloadN X173.here hx rfl (hb hby at_55) rfl ?_
      exact k
    obtain ⟨_, _, ⟨T175, L175, k175, n175⟩, -, X175, ⟨Lc175, hQ175, l175, y175, z175⟩, st175⟩ := Jvm.LawKit.callS X173 hx (y := (⟨"com/example/winnowfold/winnowfold/math/DenseVectorNonZeroCountPinLaw", "cell", "(I)D"⟩ : MethodName)) hown (mvT hZ (hw _ (List.mem_of_getElem? (i := 25) rfl))) (mvT hZ (hw _ (List.mem_of_getElem? (i := 26) rfl))) (mvT hZ (hw _ (List.mem_of_getElem? (i := 27) rfl))) (mvT hZ (hw _ (List.mem_of_getElem? (i := 28) rfl))) (by decide) (backOf (W := 2) (rm5 l Z ar hw [] p2 T164.heap n0 z171) hZ (hw _ (List.mem_of_getElem? (i := 28) rfl)) (hw _ (List.mem_of_getElem? (i := 27) rfl)) (by decide) (by decide)) (g := (mkF m 56 #[.val (.int p0), .val (.int p1), .val (.int p2), .val (.int p3), .val (.int p4), .val (.int (4 : Int32)), .val (.ref b148), .val (.int ((0 : Int32) + (own_cnt p1)))] [(.int p2), (.int (1 : Int32)), (.ref b148)])) rfl (by rw [hml]; rfl) (argsL := [(.int p2)]) (rest := [(.int (1 : Int32)), (.ref b148)]) (lenOf pd0_2 rfl) rfl (by show 2 * 0 + _ ≤ _; exact Nat.le_of_eq rfl) (hb hby at_56) (fun _ _ => ⟨rfl, e173, (by decide : 2 + 0 ≤ _), (by decide : 6 + 0 ≤ _)⟩)
    dsimp only [Pt.U, Pt.locs, Pt.cells, Pt.slots] at X175 l175 y175 z175 st175 hQ175
    subst l175 y175 z175
    obtain ⟨rfl, N175q, e175⟩ := hQ175
    have n176 := Fr.app n174 N175q
    refine own_st (T' := T175) (g' := (mkF m 59 #[.val (.int p0), .val (.int p1), .val (.int p2), .val (.int p3), .val (.int p4), .val (.int (4 : Int32)), .val (.ref b148), .val (.int ((0 : Int32) + (own_cnt p1)))] [(.double (own_val p2)), (.int (1 : Int32)), (.ref b148)])) st175 ?_
    obtain ⟨cq177, kq177, qa177, qb177, qc177⟩ := isOf hZ e175 f167
    obtain ⟨_, _, ⟨T177, L177, k177, n177⟩, -, X177, ⟨Lc177, hQ177, l177, y177, z177⟩, st177⟩ := X175.virtualBack hx (y := (⟨"com/example/winnowfold/winnowfold/math/DenseVector", "set", "(ID)V"⟩ : MethodName)) (z := (⟨"com/example/winnowfold/winnowfold/math/DenseVector", "set", "(ID)V"⟩ : MethodName)) hown (mvT hZ (hw _ (List.mem_of_getElem? (i := 29) rfl))) (mvT hZ (hw _ (List.mem_of_getElem? (i := 30) rfl))) (notFace_of_selects (args := #[]) (mvT hZ (hw _ (List.mem_of_getElem? (i := 32) rfl)))) (mvT hZ (hw _ (List.mem_of_getElem? (i := 32) rfl))) (mvT hZ (hw _ (List.mem_of_getElem? (i := 31) rfl))) (by decide) (backOf (W := 0) (rm6 l Z ar hw [] b148 ((1 : Int32)) ((own_val p2)) ((4 : Int32)) x0_153 kx_x0_153 ((4 : Int32)) ([(.double (own_val p1)), (.double (0 : UInt64)), (.double (0 : UInt64)), (.double (0 : UInt64))]) ((.double (0 : UInt64))) T164.heap n0 z171 f167 f168 f169 f170 (by decide) (by decide) (by decide) (show ((1 : Int32)).toNatClampNeg < 4 by decide) ne_b148_x0_153 g_x0_153) hZ (hw _ (List.mem_of_getElem? (i := 33) rfl)) (hw _ (List.mem_of_getElem? (i := 3) rfl)) (by decide) (by decide)) qa177 qc177 (g := (mkF m 59 #[.val (.int p0), .val (.int p1), .val (.int p2), .val (.int p3), .val (.int p4), .val (.int (4 : Int32)), .val (.ref b148), .val (.int ((0 : Int32) + (own_cnt p1)))] [(.double (own_val p2)), (.int (1 : Int32)), (.ref b148)])) rfl (by rw [hml]; rfl) (Steps.refl _) (argsL := [(.int (1 : Int32)), (.double (own_val p2))]) (rest := []) (lenOf pd0_3 rfl) rfl (by show 2 * 0 + _ ≤ _; exact Nat.le_of_eq rfl) (hb hby at_59) (fun _ _ => ⟨rfl, e175, (by decide : 2 + 0 ≤ _), (by decide : 6 + 0 ≤ _)⟩)
    dsimp only [Pt.U, Pt.locs, Pt.cells, Pt.slots] at X177 l177 y177 z177 st177 hQ177
    subst l177 y177 z177
    obtain ⟨rfl, N177q, K177, f178⟩ := hQ177
    have n179 := Fr.app n176 N177q
    have f180 := f167.keep K177
    have f181 := f168.keep K177 (ninS ne_b148_x0_153 nin0)
    have f182 := f169.keep K177 (ninS ne_b148_x0_153 nin0)
    have f183 := own_ve (vs' := [(.double (own_val p1)), (.double (own_val p2)), (.double (0 : UInt64)), (.double (0 : UInt64))]) f178 (by rw [show ((1 : Int32)).toNatClampNeg = 1 by decide]; rfl)
    have z184 := Nat.le_trans z171 K177.1
    have k185 := k172.trans K177 (allS (Or.inr sz_x0_153) all0)
    refine own_tr (T' := T177) (g' := (mkF m 62 #[.val (.int p0), .val (.int p1), .val (.int p2), .val (.int p3), .val (.int p4), .val (.int (4 : Int32)), .val (.ref b148), .val (.int ((0 : Int32) + (own_cnt p1)))] [])) st177 ?_
    refine own_st (T' := T177) (g' := (mkF m 65 #[.val (.int p0), .val (.int p1), .val (.int p2), .val (.int p3), .val (.int p4), .val (.int (4 : Int32)), .val (.ref b148), .val (.int ((0 : Int32) + (own_cnt p1)))] [(.int p2), (.int ((0 : Int32) + (own_cnt p1)))])) (fun t k => ?_) ?_
    · show Steps p.tables e below (T177.setTop (mkF m 62 #[.val (.int p0), .val (.int p1), .val (.int p2), .val (.int p3), .val (.int p4), .val (.int (4 : Int32)), .val (.ref b148), .val (.int ((0 : Int32) + (own_cnt p1)))] [])) t
      refine XS.iload X177.here hx rfl (hb hby at_62) rfl ?_
      show Steps p.tables e below (T177.setTop (mkF m 64 #[.val (.int p0), .val (.int p1), .val (.int p2), .val (.int p3), .val (.int p4), .val (.int (4 : Int32)), .val (.ref b148), .val (.int ((0 : Int32) + (own_cnt p1)))] [(.int ((0 : Int32) + (own_cnt p1)))])) t
      refine XS.iloadN X177.here hx rfl (hb hby at_64) rfl ?_
      exact k
    obtain ⟨_, _, ⟨T186, L186, k186, n186⟩, -, X186, ⟨Lc186, hQ186, l186, y186, z186⟩, st186⟩ := Jvm.LawKit.callS X177 hx (y := (⟨"com/example/winnowfold/winnowfold/math/DenseVectorNonZeroCountPinLaw", "counts", "(I)I"⟩ : MethodName)) hown (mvT hZ (hw _ (List.mem_of_getElem? (i := 48) rfl))) (mvT hZ (hw _ (List.mem_of_getElem? (i := 49) rfl))) (mvT hZ (hw _ (List.mem_of_getElem? (i := 27) rfl))) (mvT hZ (hw _ (List.mem_of_getElem? (i := 50) rfl))) (by decide) (backOf (W := 1) (rm10 l Z ar hw [] p2 T177.heap n0 z184) hZ (hw _ (List.mem_of_getElem? (i := 50) rfl)) (hw _ (List.mem_of_getElem? (i := 27) rfl)) (by decide) (by decide)) (g := (mkF m 65 #[.val (.int p0), .val (.int p1), .val (.int p2), .val (.int p3), .val (.int p4), .val (.int (4 : Int32)), .val (.ref b148), .val (.int ((0 : Int32) + (own_cnt p1)))] [(.int p2), (.int ((0 : Int32) + (own_cnt p1)))])) rfl (by rw [hml]; rfl) (argsL := [(.int p2)]) (rest := [(.int ((0 : Int32) + (own_cnt p1)))]) (lenOf pd0_4 rfl) rfl (by show 2 * 0 + _ ≤ _; exact Nat.le_of_eq rfl) (hb hby at_65) (fun _ _ => ⟨rfl, (rfl : T177.heap = T177.heap), (by decide : 2 + 0 ≤ _), (by decide : 6 + 0 ≤ _)⟩)
    dsimp only [Pt.U, Pt.locs, Pt.cells, Pt.slots] at X186 l186 y186 z186 st186 hQ186
    subst l186 y186 z186
    obtain ⟨rfl, N186q, e186⟩ := hQ186
    have n187 := Fr.app n179 N186q
    refine own_st (T' := T186) (g' := (mkF m 68 #[.val (.int p0), .val (.int p1), .val (.int p2), .val (.int p3), .val (.int p4), .val (.int (4 : Int32)), .val (.ref b148), .val (.int ((0 : Int32) + (own_cnt p1)))] [(.int (own_cnt p2)), (.int ((0 : Int32) + (own_cnt p1)))])) st186 ?_
    refine own_st (T' := T186) (g' := (mkF m 81 #[.val (.int p0), .val (.int p1), .val (.int p2), .val (.int p3), .val (.int p4), .val (.int (4 : Int32)), .val (.ref b148), .val (.int (((0 : Int32) + (own_cnt p1)) + (own_cnt p2)))] [(.int p3), (.int (2 : Int32)), (.ref b148)])) (fun t k => ?_) ?_
    · show Steps p.tables e below (T186.setTop (mkF m 68 #[.val (.int p0), .val (.int p1), .val (.int p2), .val (.int p3), .val (.int p4), .val (.int (4 : Int32)), .val (.ref b148), .val (.int ((0 : Int32) + (own_cnt p1)))] [(.int (own_cnt p2)), (.int ((0 : Int32) + (own_cnt p1)))])) t
      refine XS.iadd X186.here hx rfl (hb hby at_68) rfl ?_
      show Steps p.tables e below (T186.setTop (mkF m 69 #[.val (.int p0), .val (.int p1), .val (.int p2), .val (.int p3), .val (.int p4), .val (.int (4 : Int32)), .val (.ref b148), .val (.int ((0 : Int32) + (own_cnt p1)))] [(.int (((0 : Int32) + (own_cnt p1)) + (own_cnt p2)))])) t
      refine XS.istore X186.here hx rfl (hb hby at_69) rfl (l' := #[.val (.int p0), .val (.int p1), .val (.int p2), .val (.int p3), .val (.int p4), .val (.int (4 : Int32)), .val (.ref b148), .val (.int (((0 : Int32) + (own_cnt p1)) + (own_cnt p2)))]) rfl ?_
      show Steps p.tables e below (T186.setTop (mkF m 71 #[.val (.int p0), .val (.int p1), .val (.int p2), .val (.int p3), .val (.int p4), .val (.int (4 : Int32)), .val (.ref b148), .val (.int (((0 : Int32) + (own_cnt p1)) + (own_cnt p2)))] [])) t
      refine XS.iload X186.here hx rfl (hb hby at_71) rfl ?_
      show Steps p.tables e below (T186.setTop (mkF m 73 #[.val (.int p0), .val (.int p1), .val (.int p2), .val (.int p3), .val (.int p4), .val (.int (4 : Int32)), .val (.ref b148), .val (.int (((0 : Int32) + (own_cnt p1)) + (own_cnt p2)))] [(.int (4 : Int32))])) t
      refine XS.iconst X186.here hx rfl (hb hby at_73) ?_
      show Steps p.tables e below (T186.setTop (mkF m 74 #[.val (.int p0), .val (.int p1), .val (.int p2), .val (.int p3), .val (.int p4), .val (.int (4 : Int32)), .val (.ref b148), .val (.int (((0 : Int32) + (own_cnt p1)) + (own_cnt p2)))] [(.int (2 : Int32)), (.int (4 : Int32))])) t
      refine XS.icmpNo X186.here hx rfl (hb hby at_74) rfl (by decide) ?_
      show Steps p.tables e below (T186.setTop (mkF m 77 #[.val (.int p0), .val (.int p1), .val (.int p2), .val (.int p3), .val (.int p4), .val (.int (4 : Int32)), .val (.ref b148), .val (.int (((0 : Int32) + (own_cnt p1)) + (own_cnt p2)))] [])) t
      refine XS.aload X186.here hx rfl (hb hby at_77) rfl rfl ?_
      show Steps p.tables e below (T186.setTop (mkF m 79 #[.val (.int p0), .val (.int p1), .val (.int p2), .val (.int p3), .val (.int p4), .val (.int (4 : Int32)), .val (.ref b148), .val (.int (((0 : Int32) + (own_cnt p1)) + (own_cnt p2)))] [(.ref b148)])) t
      refine XS.iconst X186.here hx rfl (hb hby at_79) ?_
      show Steps p.tables e below (T186.setTop (mkF m 80 #[.val (.int p0), .val (.int p1), .val (.int p2), .val (.int p3), .val (.int p4), .val (.int (4 : Int32)), .val (.ref b148), .val (.int (((0 : Int32) + (own_cnt p1)) + (own_cnt p2)))] [(.int (2 : Int32)), (.ref b148)])) t
      refine XS.iloadN X186.here hx rfl (hb hby at_80) rfl ?_
      exact k
    obtain ⟨_, _, ⟨T188, L188, k188, n188⟩, -, X188, ⟨Lc188, hQ188, l188, y188, z188⟩, st188⟩ := Jvm.LawKit.callS X186 hx (y := (⟨"com/example/winnowfold/winnowfold/math/DenseVectorNonZeroCountPinLaw", "cell", "(I)D"⟩ : MethodName)) hown (mvT hZ (hw _ (List.mem_of_getElem? (i := 25) rfl))) (mvT hZ (hw _ (List.mem_of_getElem? (i := 26) rfl))) (mvT hZ (hw _ (List.mem_of_getElem? (i := 27) rfl))) (mvT hZ (hw _ (List.mem_of_getElem? (i := 28) rfl))) (by decide) (backOf (W := 2) (rm5 l Z ar hw [] p3 T177.heap n0 z184) hZ (hw _ (List.mem_of_getElem? (i := 28) rfl)) (hw _ (List.mem_of_getElem? (i := 27) rfl)) (by decide) (by decide)) (g := (mkF m 81 #[.val (.int p0), .val (.int p1), .val (.int p2), .val (.int p3), .val (.int p4), .val (.int (4 : Int32)), .val (.ref b148), .val (.int (((0 : Int32) + (own_cnt p1)) + (own_cnt p2)))] [(.int p3), (.int (2 : Int32)), (.ref b148)])) rfl (by rw [hml]; rfl) (argsL := [(.int p3)]) (rest := [(.int (2 : Int32)), (.ref b148)]) (lenOf pd0_2 rfl) rfl (by show 2 * 0 + _ ≤ _; exact Nat.le_of_eq rfl) (hb hby at_81) (fun _ _ => ⟨rfl, e186, (by decide : 2 + 0 ≤ _), (by decide : 6 + 0 ≤ _)⟩)
    dsimp only [Pt.U, Pt.locs, Pt.cells, Pt.slots] at X188 l188 y188 z188 st188 hQ188
    subst l188 y188 z188
    obtain ⟨rfl, N188q, e188⟩ := hQ188
    have n189 := Fr.app n187 N188q
    refine own_st (T' := T188) (g' := (mkF m 84 #[.val (.int p0), .val (.int p1), .val (.int p2), .val (.int p3), .val (.int p4), .val (.int (4 : Int32)), .val (.ref b148), .val (.int (((0 : Int32) + (own_cnt p1)) + (own_cnt p2)))] [(.double (own_val p3)), (.int (2 : Int32)), (.ref b148)])) st188 ?_
    obtain ⟨cq190, kq190, qa190, qb190, qc190⟩ := isOf hZ e188 f180
    obtain ⟨_, _, ⟨T190, L190, k190, n190⟩, -, X190, ⟨Lc190, hQ190, l190, y190, z190⟩, st190⟩ := X188.virtualBack hx (y := (⟨"com/example/winnowfold/winnowfold/math/DenseVector", "set", "(ID)V"⟩ : MethodName)) (z := (⟨"com/example/winnowfold/winnowfold/math/DenseVector", "set", "(ID)V"⟩ : MethodName)) hown (mvT hZ (hw _ (List.mem_of_getElem? (i := 29) rfl))) (mvT hZ (hw _ (List.mem_of_getElem? (i := 30) rfl))) (notFace_of_selects (args := #[]) (mvT hZ (hw _ (List.mem_of_getElem? (i := 32) rfl)))) (mvT hZ (hw _ (List.mem_of_getElem? (i := 32) rfl))) (mvT hZ (hw _ (List.mem_of_getElem? (i := 31) rfl))) (by decide) (backOf (W := 0) (rm6 l Z ar hw [] b148 ((2 : Int32)) ((own_val p3)) ((4 : Int32)) x0_153 kx_x0_153 ((4 : Int32)) ([(.double (own_val p1)), (.double (own_val p2)), (.double (0 : UInt64)), (.double (0 : UInt64))]) ((.double (0 : UInt64))) T177.heap n0 z184 f180 f181 f182 f183 (by decide) (by decide) (by decide) (show ((2 : Int32)).toNatClampNeg < 4 by decide) ne_b148_x0_153 g_x0_153) hZ (hw _ (List.mem_of_getElem? (i := 33) rfl)) (hw _ (List.mem_of_getElem? (i := 3) rfl)) (by decide) (by decide)) qa190 qc190 (g := (mkF m 84 #[.val (.int p0), .val (.int p1), .val (.int p2), .val (.int p3), .val (.int p4), .val (.int (4 : Int32)), .val (.ref b148), .val (.int (((0 : Int32) + (own_cnt p1)) + (own_cnt p2)))] [(.double (own_val p3)), (.int (2 : Int32)), (.ref b148)])) rfl (by rw [hml]; rfl) (Steps.refl _) (argsL := [(.int (2 : Int32)), (.double (own_val p3))]) (rest := []) (lenOf pd0_3 rfl) rfl (by show 2 * 0 + _ ≤ _; exact Nat.le_of_eq rfl) (hb hby at_84) (fun _ _ => ⟨rfl, e188, (by decide : 2 + 0 ≤ _), (by decide : 6 + 0 ≤ _)⟩)
    dsimp only [Pt.U, Pt.locs, Pt.cells, Pt.slots] at X190 l190 y190 z190 st190 hQ190
    subst l190 y190 z190
    obtain ⟨rfl, N190q, K190, f191⟩ := hQ190
    have n192 := Fr.app n189 N190q
    have f193 := f180.keep K190
    have f194 := f181.keep K190 (ninS ne_b148_x0_153 nin0)
    have f195 := f182.keep K190 (ninS ne_b148_x0_153 nin0)
    have f196 := own_ve (vs' := [(.double (own_val p1)), (.double (own_val p2)), (.double (own_val p3)), (.double (0 : UInt64))]) f191 (by rw [show ((2 : Int32)).toNatClampNeg = 2 by decide]; rfl)
    have z197 := Nat.le_trans z184 K190.1
    have k198 := k185.trans K190 (allS (Or.inr sz_x0_153) all0)
    refine own_tr (T' := T190) (g' := (mkF m 87 #[.val (.int p0), .val (.int p1), .val (.int p2), .val (.int p3), .val (.int p4), .val (.int (4 : Int32)), .val (.ref b148), .val (.int (((0 : Int32) + (own_cnt p1)) + (own_cnt p2)))] [])) st190 ?_
    refine own_st (T' := T190) (g' := (mkF m 90 #[.val (.int p0), .val (.int p1), .val (.int p2), .val (.int p3), .val (.int p4), .val (.int (4 : Int32)), .val (.ref b148), .val (.int (((0 : Int32) + (own_cnt p1)) + (own_cnt p2)))] [(.int p3), (.int (((0 : Int32) + (own_cnt p1)) + (own_cnt p2)))])) (fun t k => ?_) ?_
    · show Steps p.tables e below (T190.setTop (mkF m 87 #[.val (.int p0), .val (.int p1), .val (.int p2), .val (.int p3), .val (.int p4), .val (.int (4 : Int32)), .val (.ref b148), .val (.int (((0 : Int32) + (own_cnt p1)) + (own_cnt p2)))] [])) t
      refine XS.iload X190.here hx rfl (hb hby at_87) rfl ?_
      show Steps p.tables e below (T190.setTop (mkF m 89 #[.val (.int p0), .val (.int p1), .val (.int p2), .val (.int p3), .val (.int p4), .val (.int (4 : Int32)), .val (.ref b148), .val (.int (((0 : Int32) + (own_cnt p1)) + (own_cnt p2)))] [(.int (((0 : Int32) + (own_cnt p1)) + (own_cnt p2)))])) t
      refine XS.iloadN X190.here hx rfl (hb hby at_89) rfl ?_
      exact k
    obtain ⟨_, _, ⟨T199, L199, k199, n199⟩, -, X199, ⟨Lc199, hQ199, l199, y199, z199⟩, st199⟩ := Jvm.LawKit.callS X190 hx (y := (⟨"com/example/winnowfold/winnowfold/math/DenseVectorNonZeroCountPinLaw", "counts", "(I)I"⟩ : MethodName)) hown (mvT hZ (hw _ (List.mem_of_getElem? (i := 48) rfl))) (mvT hZ (hw _ (List.mem_of_getElem? (i := 49) rfl))) (mvT hZ (hw _ (List.mem_of_getElem? (i := 27) rfl))) (mvT hZ (hw _ (List.mem_of_getElem? (i := 50) rfl))) (by decide) (backOf (W := 1) (rm10 l Z ar hw [] p3 T190.heap n0 z197) hZ (hw _ (List.mem_of_getElem? (i := 50) rfl)) (hw _ (List.mem_of_getElem? (i := 27) rfl)) (by decide) (by decide)) (g := (mkF m 90 #[.val (.int p0), .val (.int p1), .val (.int p2), .val (.int p3), .val (.int p4), .val (.int (4 : Int32)), .val (.ref b148), .val (.int (((0 : Int32) + (own_cnt p1)) + (own_cnt p2)))] [(.int p3), (.int (((0 : Int32) + (own_cnt p1)) + (own_cnt p2)))])) rfl (by rw [hml]; rfl) (argsL := [(.int p3)]) (rest := [(.int (((0 : Int32) + (own_cnt p1)) + (own_cnt p2)))]) (lenOf pd0_4 rfl) rfl (by show 2 * 0 + _ ≤ _; exact Nat.le_of_eq rfl) (hb hby at_90) (fun _ _ => ⟨rfl, (rfl : T190.heap = T190.heap), (by decide : 2 + 0 ≤ _), (by decide : 6 + 0 ≤ _)⟩)
    dsimp only [Pt.U, Pt.locs, Pt.cells, Pt.slots] at X199 l199 y199 z199 st199 hQ199
    subst l199 y199 z199
    obtain ⟨rfl, N199q, e199⟩ := hQ199
    have n200 := Fr.app n192 N199q
    refine own_st (T' := T199) (g' := (mkF m 93 #[.val (.int p0), .val (.int p1), .val (.int p2), .val (.int p3), .val (.int p4), .val (.int (4 : Int32)), .val (.ref b148), .val (.int (((0 : Int32) + (own_cnt p1)) + (own_cnt p2)))] [(.int (own_cnt p3)), (.int (((0 : Int32) + (own_cnt p1)) + (own_cnt p2)))])) st199 ?_
    refine own_st (T' := T199) (g' := (mkF m 107 #[.val (.int p0), .val (.int p1), .val (.int p2), .val (.int p3), .val (.int p4), .val (.int (4 : Int32)), .val (.ref b148), .val (.int ((((0 : Int32) + (own_cnt p1)) + (own_cnt p2)) + (own_cnt p3)))] [(.int p4), (.int (3 : Int32)), (.ref b148)])) (fun t k => ?_) ?_
    · show Steps p.tables e below (T199.setTop (mkF m 93 #[.val (.int p0), .val (.int p1), .val (.int p2), .val (.int p3), .val (.int p4), .val (.int (4 : Int32)), .val (.ref b148), .val (.int (((0 : Int32) + (own_cnt p1)) + (own_cnt p2)))] [(.int (own_cnt p3)), (.int (((0 : Int32) + (own_cnt p1)) + (own_cnt p2)))])) t
      refine XS.iadd X199.here hx rfl (hb hby at_93) rfl ?_
      show Steps p.tables e below (T199.setTop (mkF m 94 #[.val (.int p0), .val (.int p1), .val (.int p2), .val (.int p3), .val (.int p4), .val (.int (4 : Int32)), .val (.ref b148), .val (.int (((0 : Int32) + (own_cnt p1)) + (own_cnt p2)))] [(.int ((((0 : Int32) + (own_cnt p1)) + (own_cnt p2)) + (own_cnt p3)))])) t
      refine XS.istore X199.here hx rfl (hb hby at_94) rfl (l' := #[.val (.int p0), .val (.int p1), .val (.int p2), .val (.int p3), .val (.int p4), .val (.int (4 : Int32)), .val (.ref b148), .val (.int ((((0 : Int32) + (own_cnt p1)) + (own_cnt p2)) + (own_cnt p3)))]) rfl ?_
      show Steps p.tables e below (T199.setTop (mkF m 96 #[.val (.int p0), .val (.int p1), .val (.int p2), .val (.int p3), .val (.int p4), .val (.int (4 : Int32)), .val (.ref b148), .val (.int ((((0 : Int32) + (own_cnt p1)) + (own_cnt p2)) + (own_cnt p3)))] [])) t
      refine XS.iload X199.here hx rfl (hb hby at_96) rfl ?_
      show Steps p.tables e below (T199.setTop (mkF m 98 #[.val (.int p0), .val (.int p1), .val (.int p2), .val (.int p3), .val (.int p4), .val (.int (4 : Int32)), .val (.ref b148), .val (.int ((((0 : Int32) + (own_cnt p1)) + (own_cnt p2)) + (own_cnt p3)))] [(.int (4 : Int32))])) t
      refine XS.iconst X199.here hx rfl (hb hby at_98) ?_
      show Steps p.tables e below (T199.setTop (mkF m 99 #[.val (.int p0), .val (.int p1), .val (.int p2), .val (.int p3), .val (.int p4), .val (.int (4 : Int32)), .val (.ref b148), .val (.int ((((0 : Int32) + (own_cnt p1)) + (own_cnt p2)) + (own_cnt p3)))] [(.int (3 : Int32)), (.int (4 : Int32))])) t
      refine XS.icmpNo X199.here hx rfl (hb hby at_99) rfl (by decide) ?_
      show Steps p.tables e below (T199.setTop (mkF m 102 #[.val (.int p0), .val (.int p1), .val (.int p2), .val (.int p3), .val (.int p4), .val (.int (4 : Int32)), .val (.ref b148), .val (.int ((((0 : Int32) + (own_cnt p1)) + (own_cnt p2)) + (own_cnt p3)))] [])) t
      refine XS.aload X199.here hx rfl (hb hby at_102) rfl rfl ?_
      show Steps p.tables e below (T199.setTop (mkF m 104 #[.val (.int p0), .val (.int p1), .val (.int p2), .val (.int p3), .val (.int p4), .val (.int (4 : Int32)), .val (.ref b148), .val (.int ((((0 : Int32) + (own_cnt p1)) + (own_cnt p2)) + (own_cnt p3)))] [(.ref b148)])) t
      refine XS.iconst X199.here hx rfl (hb hby at_104) ?_
      show Steps p.tables e below (T199.setTop (mkF m 105 #[.val (.int p0), .val (.int p1), .val (.int p2), .val (.int p3), .val (.int p4), .val (.int (4 : Int32)), .val (.ref b148), .val (.int ((((0 : Int32) + (own_cnt p1)) + (own_cnt p2)) + (own_cnt p3)))] [(.int (3 : Int32)), (.ref b148)])) t
      refine XS.iload X199.here hx rfl (hb hby at_105) rfl ?_
      exact k
    obtain ⟨_, _, ⟨T201, L201, k201, n201⟩, -, X201, ⟨Lc201, hQ201, l201, y201, z201⟩, st201⟩ := Jvm.LawKit.callS X199 hx (y := (⟨"com/example/winnowfold/winnowfold/math/DenseVectorNonZeroCountPinLaw", "cell", "(I)D"⟩ : MethodName)) hown (mvT hZ (hw _ (List.mem_of_getElem? (i := 25) rfl))) (mvT hZ (hw _ (List.mem_of_getElem? (i := 26) rfl))) (mvT hZ (hw _ (List.mem_of_getElem? (i := 27) rfl))) (mvT hZ (hw _ (List.mem_of_getElem? (i := 28) rfl))) (by decide) (backOf (W := 2) (rm5 l Z ar hw [] p4 T190.heap n0 z197) hZ (hw _ (List.mem_of_getElem? (i := 28) rfl)) (hw _ (List.mem_of_getElem? (i := 27) rfl)) (by decide) (by decide)) (g := (mkF m 107 #[.val (.int p0), .val (.int p1), .val (.int p2), .val (.int p3), .val (.int p4), .val (.int (4 : Int32)), .val (.ref b148), .val (.int ((((0 : Int32) + (own_cnt p1)) + (own_cnt p2)) + (own_cnt p3)))] [(.int p4), (.int (3 : Int32)), (.ref b148)])) rfl (by rw [hml]; rfl) (argsL := [(.int p4)]) (rest := [(.int (3 : Int32)), (.ref b148)]) (lenOf pd0_2 rfl) rfl (by show 2 * 0 + _ ≤ _; exact Nat.le_of_eq rfl) (hb hby at_107) (fun _ _ => ⟨rfl, e199, (by decide : 2 + 0 ≤ _), (by decide : 6 + 0 ≤ _)⟩)
    dsimp only [Pt.U, Pt.locs, Pt.cells, Pt.slots] at X201 l201 y201 z201 st201 hQ201
    subst l201 y201 z201
    obtain ⟨rfl, N201q, e201⟩ := hQ201
    have n202 := Fr.app n200 N201q
    refine own_st (T' := T201) (g' := (mkF m 110 #[.val (.int p0), .val (.int p1), .val (.int p2), .val (.int p3), .val (.int p4), .val (.int (4 : Int32)), .val (.ref b148), .val (.int ((((0 : Int32) + (own_cnt p1)) + (own_cnt p2)) + (own_cnt p3)))] [(.double (own_val p4)), (.int (3 : Int32)), (.ref b148)])) st201 ?_
    obtain ⟨cq203, kq203, qa203, qb203, qc203⟩ := isOf hZ e201 f193
    obtain ⟨_, _, ⟨T203, L203, k203, n203⟩, -, X203, ⟨Lc203, hQ203, l203, y203, z203⟩, st203⟩ := X201.virtualBack hx (y := (⟨"com/example/winnowfold/winnowfold/math/DenseVector", "set", "(ID)V"⟩ : MethodName)) (z := (⟨"com/example/winnowfold/winnowfold/math/DenseVector", "set", "(ID)V"⟩ : MethodName)) hown (mvT hZ (hw _ (List.mem_of_getElem? (i := 29) rfl))) (mvT hZ (hw _ (List.mem_of_getElem? (i := 30) rfl))) (notFace_of_selects (args := #[]) (mvT hZ (hw _ (List.mem_of_getElem? (i := 32) rfl)))) (mvT hZ (hw _ (List.mem_of_getElem? (i := 32) rfl))) (mvT hZ (hw _ (List.mem_of_getElem? (i := 31) rfl))) (by decide) (backOf (W := 0) (rm6 l Z ar hw [] b148 ((3 : Int32)) ((own_val p4)) ((4 : Int32)) x0_153 kx_x0_153 ((4 : Int32)) ([(.double (own_val p1)), (.double (own_val p2)), (.double (own_val p3)), (.double (0 : UInt64))]) ((.double (0 : UInt64))) T190.heap n0 z197 f193 f194 f195 f196 (by decide) (by decide) (by decide) (show ((3 : Int32)).toNatClampNeg < 4 by decide) ne_b148_x0_153 g_x0_153) hZ (hw _ (List.mem_of_getElem? (i := 33) rfl)) (hw _ (List.mem_of_getElem? (i := 3) rfl)) (by decide) (by decide)) qa203 qc203 (g := (mkF m 110 #[.val (.int p0), .val (.int p1), .val (.int p2), .val (.int p3), .val (.int p4), .val (.int (4 : Int32)), .val (.ref b148), .val (.int ((((0 : Int32) + (own_cnt p1)) + (own_cnt p2)) + (own_cnt p3)))] [(.double (own_val p4)), (.int (3 : Int32)), (.ref b148)])) rfl (by rw [hml]; rfl) (Steps.refl _) (argsL := [(.int (3 : Int32)), (.double (own_val p4))]) (rest := []) (lenOf pd0_3 rfl) rfl (by show 2 * 0 + _ ≤ _; exact Nat.le_of_eq rfl) (hb hby at_110) (fun _ _ => ⟨rfl, e201, (by decide : 2 + 0 ≤ _), (by decide : 6 + 0 ≤ _)⟩)
    dsimp only [Pt.U, Pt.locs, Pt.cells, Pt.slots] at X203 l203 y203 z203 st203 hQ203
    subst l203 y203 z203
    obtain ⟨rfl, N203q, K203, f204⟩ := hQ203
    have n205 := Fr.app n202 N203q
    have f206 := f193.keep K203
    have f207 := f194.keep K203 (ninS ne_b148_x0_153 nin0)
    have f208 := f195.keep K203 (ninS ne_b148_x0_153 nin0)
    have f209 := own_ve (vs' := [(.double (own_val p1)), (.double (own_val p2)), (.double (own_val p3)), (.double (own_val p4))]) f204 (by rw [show ((3 : Int32)).toNatClampNeg = 3 by decide]; rfl)
    have z210 := Nat.le_trans z197 K203.1
    have k211 := k198.trans K203 (allS (Or.inr sz_x0_153) all0)
    refine own_tr (T' := T203) (g' := (mkF m 113 #[.val (.int p0), .val (.int p1), .val (.int p2), .val (.int p3), .val (.int p4), .val (.int (4 : Int32)), .val (.ref b148), .val (.int ((((0 : Int32) + (own_cnt p1)) + (own_cnt p2)) + (own_cnt p3)))] [])) st203 ?_
    refine own_st (T' := T203) (g' := (mkF m 117 #[.val (.int p0), .val (.int p1), .val (.int p2), .val (.int p3), .val (.int p4), .val (.int (4 : Int32)), .val (.ref b148), .val (.int ((((0 : Int32) + (own_cnt p1)) + (own_cnt p2)) + (own_cnt p3)))] [(.int p4), (.int ((((0 : Int32) + (own_cnt p1)) + (own_cnt p2)) + (own_cnt p3)))])) (fun t k => ?_) ?_
    · show Steps p.tables e below (T203.setTop (mkF m 113 #[.val (.int p0), .val (.int p1), .val (.int p2), .val (.int p3), .val (.int p4), .val (.int (4 : Int32)), .val (.ref b148), .val (.int ((((0 : Int32) + (own_cnt p1)) + (own_cnt p2)) + (own_cnt p3)))] [])) t
      refine XS.iload X203.here hx rfl (hb hby at_113) rfl ?_
      show Steps p.tables e below (T203.setTop (mkF m 115 #[.val (.int p0), .val (.int p1), .val (.int p2), .val (.int p3), .val (.int p4), .val (.int (4 : Int32)), .val (.ref b148), .val (.int ((((0 : Int32) + (own_cnt p1)) + (own_cnt p2)) + (own_cnt p3)))] [(.int ((((0 : Int32) + (own_cnt p1)) + (own_cnt p2)) + (own_cnt p3)))])) t
      refine XS.iload X203.here hx rfl (hb hby at_115) rfl ?_
      exact k
    obtain ⟨_, _, ⟨T212, L212, k212, n212⟩, -, X212, ⟨Lc212, hQ212, l212, y212, z212⟩, st212⟩ := Jvm.LawKit.callS X203 hx (y := (⟨"com/example/winnowfold/winnowfold/math/DenseVectorNonZeroCountPinLaw", "counts", "(I)I"⟩ : MethodName)) hown (mvT hZ (hw _ (List.mem_of_getElem? (i := 48) rfl))) (mvT hZ (hw _ (List.mem_of_getElem? (i := 49) rfl))) (mvT hZ (hw _ (List.mem_of_getElem? (i := 27) rfl))) (mvT hZ (hw _ (List.mem_of_getElem? (i := 50) rfl))) (by decide) (backOf (W := 1) (rm10 l Z ar hw [] p4 T203.heap n0 z210) hZ (hw _ (List.mem_of_getElem? (i := 50) rfl)) (hw _ (List.mem_of_getElem? (i := 27) rfl)) (by decide) (by decide)) (g := (mkF m 117 #[.val (.int p0), .val (.int p1), .val (.int p2), .val (.int p3), .val (.int p4), .val (.int (4 : Int32)), .val (.ref b148), .val (.int ((((0 : Int32) + (own_cnt p1)) + (own_cnt p2)) + (own_cnt p3)))] [(.int p4), (.int ((((0 : Int32) + (own_cnt p1)) + (own_cnt p2)) + (own_cnt p3)))])) rfl (by rw [hml]; rfl) (argsL := [(.int p4)]) (rest := [(.int ((((0 : Int32) + (own_cnt p1)) + (own_cnt p2)) + (own_cnt p3)))]) (lenOf pd0_4 rfl) rfl (by show 2 * 0 + _ ≤ _; exact Nat.le_of_eq rfl) (hb hby at_117) (fun _ _ => ⟨rfl, (rfl : T203.heap = T203.heap), (by decide : 2 + 0 ≤ _), (by decide : 6 + 0 ≤ _)⟩)
    dsimp only [Pt.U, Pt.locs, Pt.cells, Pt.slots] at X212 l212 y212 z212 st212 hQ212
    subst l212 y212 z212
    obtain ⟨rfl, N212q, e212⟩ := hQ212
    have n213 := Fr.app n205 N212q
    refine own_st (T' := T212) (g' := (mkF m 120 #[.val (.int p0), .val (.int p1), .val (.int p2), .val (.int p3), .val (.int p4), .val (.int (4 : Int32)), .val (.ref b148), .val (.int ((((0 : Int32) + (own_cnt p1)) + (own_cnt p2)) + (own_cnt p3)))] [(.int (own_cnt p4)), (.int ((((0 : Int32) + (own_cnt p1)) + (own_cnt p2)) + (own_cnt p3)))])) st212 ?_
    refine own_st (T' := T212) (g' := (mkF m 125 #[.val (.int p0), .val (.int p1), .val (.int p2), .val (.int p3), .val (.int p4), .val (.int (4 : Int32)), .val (.ref b148), .val (.int (((((0 : Int32) + (own_cnt p1)) + (own_cnt p2)) + (own_cnt p3)) + (own_cnt p4)))] [(.ref b148)])) (fun t k => ?_) ?_
    · show Steps p.tables e below (T212.setTop (mkF m 120 #[.val (.int p0), .val (.int p1), .val (.int p2), .val (.int p3), .val (.int p4), .val (.int (4 : Int32)), .val (.ref b148), .val (.int ((((0 : Int32) + (own_cnt p1)) + (own_cnt p2)) + (own_cnt p3)))] [(.int (own_cnt p4)), (.int ((((0 : Int32) + (own_cnt p1)) + (own_cnt p2)) + (own_cnt p3)))])) t
      refine XS.iadd X212.here hx rfl (hb hby at_120) rfl ?_
      show Steps p.tables e below (T212.setTop (mkF m 121 #[.val (.int p0), .val (.int p1), .val (.int p2), .val (.int p3), .val (.int p4), .val (.int (4 : Int32)), .val (.ref b148), .val (.int ((((0 : Int32) + (own_cnt p1)) + (own_cnt p2)) + (own_cnt p3)))] [(.int (((((0 : Int32) + (own_cnt p1)) + (own_cnt p2)) + (own_cnt p3)) + (own_cnt p4)))])) t
      refine XS.istore X212.here hx rfl (hb hby at_121) rfl (l' := #[.val (.int p0), .val (.int p1), .val (.int p2), .val (.int p3), .val (.int p4), .val (.int (4 : Int32)), .val (.ref b148), .val (.int (((((0 : Int32) + (own_cnt p1)) + (own_cnt p2)) + (own_cnt p3)) + (own_cnt p4)))]) rfl ?_
      show Steps p.tables e below (T212.setTop (mkF m 123 #[.val (.int p0), .val (.int p1), .val (.int p2), .val (.int p3), .val (.int p4), .val (.int (4 : Int32)), .val (.ref b148), .val (.int (((((0 : Int32) + (own_cnt p1)) + (own_cnt p2)) + (own_cnt p3)) + (own_cnt p4)))] [])) t
      refine XS.aload X212.here hx rfl (hb hby at_123) rfl rfl ?_
      exact k
    obtain ⟨cq214, kq214, qa214, qb214, qc214⟩ := isOf hZ e212 f206
    obtain ⟨_, _, ⟨T214, L214, k214, n214⟩, -, X214, ⟨Lc214, hQ214, l214, y214, z214⟩, st214⟩ := X212.virtualBack hx (y := (⟨"com/example/winnowfold/winnowfold/math/DenseVector", "nonZeroCount", "()I"⟩ : MethodName)) (z := (⟨"com/example/winnowfold/winnowfold/math/DenseVector", "nonZeroCount", "()I"⟩ : MethodName)) hown (mvT hZ (hw _ (List.mem_of_getElem? (i := 20) rfl))) (mvT hZ (hw _ (List.mem_of_getElem? (i := 21) rfl))) (notFace_of_selects (args := #[]) (mvT hZ (hw _ (List.mem_of_getElem? (i := 23) rfl)))) (mvT hZ (hw _ (List.mem_of_getElem? (i := 23) rfl))) (mvT hZ (hw _ (List.mem_of_getElem? (i := 22) rfl))) (by decide) (backOf (W := 0) (rmz4 l Z ar hw [] b148 x0_153 kx_x0_153 ((own_val p1)) ((own_val p2)) ((own_val p3)) ((own_val p4)) T203.heap n0 z210 f206 f208 f209) hZ (hw _ (List.mem_of_getElem? (i := 24) rfl)) (hw _ (List.mem_of_getElem? (i := 3) rfl)) (by decide) (by decide)) qa214 qc214 (g := (mkF m 125 #[.val (.int p0), .val (.int p1), .val (.int p2), .val (.int p3), .val (.int p4), .val (.int (4 : Int32)), .val (.ref b148), .val (.int (((((0 : Int32) + (own_cnt p1)) + (own_cnt p2)) + (own_cnt p3)) + (own_cnt p4)))] [(.ref b148)])) rfl (by rw [hml]; rfl) (Steps.refl _) (argsL := []) (rest := []) (lenOf pd0_1 rfl) rfl (by show 2 * 0 + _ ≤ _; exact Nat.le_of_eq rfl) (hb hby at_125) (fun _ _ => ⟨rfl, e212, (by decide : 2 + 0 ≤ _), (by decide : 6 + 0 ≤ _)⟩)
    dsimp only [Pt.U, Pt.locs, Pt.cells, Pt.slots] at X214 l214 y214 z214 st214 hQ214
    subst l214 y214 z214
    obtain ⟨rfl, N214q, e214⟩ := hQ214
    have n215 := Fr.app n213 N214q
    refine own_tr (T' := T214) (g' := (mkF m 128 #[.val (.int p0), .val (.int p1), .val (.int p2), .val (.int p3), .val (.int p4), .val (.int (4 : Int32)), .val (.ref b148), .val (.int (((((0 : Int32) + (own_cnt p1)) + (own_cnt p2)) + (own_cnt p3)) + (own_cnt p4)))] [(.int (own_z (own_z (own_z (own_z (0 : Int32) (own_val p1)) (own_val p2)) (own_val p3)) (own_val p4)))])) st214 ?_
    refine own_st (T' := T214) (g' := (mkF m 138 #[.val (.int p0), .val (.int p1), .val (.int p2), .val (.int p3), .val (.int p4), .val (.int (4 : Int32)), .val (.ref b148), .val (.int (((((0 : Int32) + (own_cnt p1)) + (own_cnt p2)) + (own_cnt p3)) + (own_cnt p4)))] [(.int (1 : Int32))])) (fun t k => ?_) ?_
    · show Steps p.tables e below (T214.setTop (mkF m 128 #[.val (.int p0), .val (.int p1), .val (.int p2), .val (.int p3), .val (.int p4), .val (.int (4 : Int32)), .val (.ref b148), .val (.int (((((0 : Int32) + (own_cnt p1)) + (own_cnt p2)) + (own_cnt p3)) + (own_cnt p4)))] [(.int (own_z (own_z (own_z (own_z (0 : Int32) (own_val p1)) (own_val p2)) (own_val p3)) (own_val p4)))])) t
      refine XS.iload X214.here hx rfl (hb hby at_128) rfl ?_
      show Steps p.tables e below (T214.setTop (mkF m 130 #[.val (.int p0), .val (.int p1), .val (.int p2), .val (.int p3), .val (.int p4), .val (.int (4 : Int32)), .val (.ref b148), .val (.int (((((0 : Int32) + (own_cnt p1)) + (own_cnt p2)) + (own_cnt p3)) + (own_cnt p4)))] [(.int (((((0 : Int32) + (own_cnt p1)) + (own_cnt p2)) + (own_cnt p3)) + (own_cnt p4))), (.int (own_z (own_z (own_z (own_z (0 : Int32) (own_val p1)) (own_val p2)) (own_val p3)) (own_val p4)))])) t
      refine XS.icmpNo X214.here hx rfl (hb hby at_130) rfl (teq ((by simp only [own_zc]) : (own_z (own_z (own_z (own_z (0 : Int32) (own_val p1)) (own_val p2)) (own_val p3)) (own_val p4)) = (((((0 : Int32) + (own_cnt p1)) + (own_cnt p2)) + (own_cnt p3)) + (own_cnt p4)))).2 ?_
      show Steps p.tables e below (T214.setTop (mkF m 133 #[.val (.int p0), .val (.int p1), .val (.int p2), .val (.int p3), .val (.int p4), .val (.int (4 : Int32)), .val (.ref b148), .val (.int (((((0 : Int32) + (own_cnt p1)) + (own_cnt p2)) + (own_cnt p3)) + (own_cnt p4)))] [])) t
      refine XS.iconst X214.here hx rfl (hb hby at_133) ?_
      show Steps p.tables e below (T214.setTop (mkF m 134 #[.val (.int p0), .val (.int p1), .val (.int p2), .val (.int p3), .val (.int p4), .val (.int (4 : Int32)), .val (.ref b148), .val (.int (((((0 : Int32) + (own_cnt p1)) + (own_cnt p2)) + (own_cnt p3)) + (own_cnt p4)))] [(.int (1 : Int32))])) t
      refine XS.goto X214.here hx rfl (pc0 := 134) (pc' := 138) rfl (hb hby at_134) (by decide) (by decide) ?_
      exact k
    refine own_retZ X214 hx hlk Bd.returns (hb hby at_138) rfl (by decide) (by decide) ?_
    show Q0 Z p0 p1 p2 p3 p4 h0 n0 (some (.int (1 : Int32))) T214.heap _
    exact ⟨rfl, n215⟩
set_option maxRecDepth 65536 in
set_option maxHeartbeats 40000000 in
theorem comes_1 {Post : Tables → Env → Array Value → State → Outcome → State → Prop} (hpost : ∀ tb e args s v u, (limb_1_1.after args s (.returned v) u = true ∧ limb_1_2.after args s (.returned v) u = true ∧ True) → FrameEnd s (.returned v) u (Jvm.fieldLocs frame_1_writes args s ++ Jvm.arrayLocs frame_1_arrays args s ++ Jvm.staticLocs frame_1_statics s) 16 128 → Post tb e args s (.returned v) u) :
    ArmFor flags0 classFile x code maxLocals ret World_1 tables_1 room_1 Calls_1 rest_1 Pre_1 Post := by
  intro l hfl _ _ p e ha hc hk s m args below hf hA hF happ hP
  obtain ⟨hcalls, hrest, hpre⟩ := hP
  obtain ⟨-, -, -, hnamed, -, -, -, hat⟩ := (Spec.applies_iff hf).mp happ
  obtain ⟨hg, hn⟩ := and_e (Cond.before_iff.mp (show (Jvm.Cond.and given_1 narrow_1).before args s = true from hpre))
  obtain ⟨g0, gg0⟩ := and_e hg
  obtain ⟨g1, gg1⟩ := and_e gg0
  obtain ⟨g2, gg2⟩ := and_e gg1
  obtain ⟨g3, gg3⟩ := and_e gg2
  obtain ⟨g4, gg4⟩ := and_e gg3
  obtain ⟨w0, w1, w2, w3, w4, rfl⟩ : ∃ w0 w1 w2 w3 w4 : Value, args = #[w0, w1, w2, w3, w4] := by
    have hs : args.size = 5 := by simpa [Cond.value, given_1] using g0
    obtain ⟨L⟩ := args
    match L, hs with
    | [w0, w1, w2, w3, w4], _ => exact ⟨w0, w1, w2, w3, w4, rfl⟩
  have hw := fun d (hd : d ∈ tables_1) => atoms_spec (ws := Jvm.Cond.code x code maxLocals ret :: tables_1) hat d (List.mem_cons_of_mem _ hd)
  have hfit : Fit s := fun {y c} hc i hi => by
    obtain ⟨ha, rfl⟩ := Array.getElem?_eq_some_iff.mp hc
    have q := List.all_eq_true.mp ((Array.all_eq_true_iff_forall_mem.mp hF) _ (Array.getElem_mem ha)) i (List.mem_range.mpr hi)
    simpa [Array.getElem?_eq_getElem hi] using q
  obtain ⟨p0, ei0⟩ := is_v g1
  obtain rfl : w0 = (.int p0) := Option.some.inj ei0
  obtain ⟨p1, ei1⟩ := is_v g2
  obtain rfl : w1 = (.int p1) := Option.some.inj ei1
  obtain ⟨p2, ei2⟩ := is_v g3
  obtain rfl : w2 = (.int p2) := Option.some.inj ei2
  obtain ⟨p3, ei3⟩ := is_v g4
  obtain rfl : w3 = (.int p3) := Option.some.inj ei3
  obtain ⟨p4, ei4⟩ := is_v gg4
  obtain rfl : w4 = (.int p4) := Option.some.inj ei4
  obtain ⟨n, o, h1, h2, h3, _, L, rfl, ⟨rfl, N⟩, hq⟩ := rm0 l s _ hw tables_1 p0 p1 p2 p3 p4 s.heap s.heap.size (Nat.le_refl _) p e ha hc hk s m _ below hf ((Spec.applies_iff_loose hf).mp happ).1 ⟨rfl, State.Warmed39.refl s, rfl⟩ trivial
  refine ⟨n, _, h1, h2, h3, hpost _ _ _ _ _ _ ⟨Cond.after_iff.mpr rfl, Cond.after_iff.mpr (eq_i res_at (Term.int_eval (1)) rfl), trivial⟩ ⟨hq.1, hq.2.1, (hq.2.2.sift fun y hy => Or.inr (N y hy)).mono (by decide) (by decide)⟩⟩
theorem main_1_1 : Claimed_1_1 := comes_1 fun _ _ _ _ _ _ h hF => ⟨h.1, hF⟩
theorem main_1_2 : Claimed_1_2 := comes_1 fun _ _ _ _ _ _ h hF => ⟨h.2.1, hF⟩
end Jvm.Pilot.@@N@@
namespace Jvm.Pilot.@@N@@
open Jvm Jvm.ClassFile Sem Op Lib Jvm.Free Jvm.Stand Jvm.Pilot.@@N@@.Jvm.D
/-! MADE BY PROGRAM (witnessworld.py) out of the Statement's table words and the real class files: 15 classes; the members and pool entries that the words name. The judged class is class 1, her method 1. -/
namespace start1
open Jvm.ClassFile
def u (s : String) : CpInfo := .utf8 (stringToUtf16 s)
/-- a pool by its gaps: so many unusable entries, then the entry; so many at the end -/
def gap : Nat → List CpInfo → List CpInfo
  | 0, r => r
  | n + 1, r => .unusable :: gap n r
def poolList (es : List (Nat × CpInfo)) (last : Nat) : List CpInfo := es.foldr (fun e r => gap e.1 (e.2 :: r)) (gap last [])
def pool (es : List (Nat × CpInfo)) (last : Nat) : Array CpInfo := ⟨poolList es last⟩
def fileOf (pool : Array CpInfo) (this : Nat) (attrs : Array Attribute := #[]) (ms : Array MethodInfo := #[]) (fl : Nat := 33) (sup : Nat := 0) (ifs : Array Nat := #[]) (fds : Array FieldInfo := #[]) : ClassFile where
  minorVersion := 0
  majorVersion := 65
  constantPool := pool
  accessFlags := fl
  thisClass := this
  superClass := sup
  interfaces := ifs
  fields := fds
  methods := ms
  attributes := attrs
def plain (name : String) (sup : Option ClassId) : Class where
  name := name
  kind := .ordinary
  loader := none
  accessFlags := 33
  super := sup
  interfaces := #[]
  cf := none
  fields := #[]
  methods := #[]
  instanceTypes := #[]
  staticTypes := #[]
  resolved := #[]
  callSites := []
  init := .initialized
  statics := none
  mirror := none

def pool0 : Array CpInfo := pool [(5, u "<init>"), (0, u "()V"), (1, .class_ 10), (1, u "java/lang/Object")] 113

def k0c0 : Code := { maxStack := 0, maxLocals := 1, code := object_method_1_code, exceptionTable := #[], attributes := #[] }
def k0m0 : Method := { name := "<init>", desc := "()V", sig := { parameters := [], returnType := none }, accessFlags := 1, code := some k0c0 }
/-- java/lang/Object -/
def k0 : Class := { plain "java/lang/Object" none with
  accessFlags := 33
  interfaces := #[]
  cf := some (fileOf pool0 8 #[] #[{ accessFlags := 1, nameIndex := 5, descriptorIndex := 6, attributes := #[] }] 33 0 #[] #[])
  fields := #[]
  methods := #[k0m0]
  instanceTypes := #[]
  staticTypes := #[]
  resolved := Array.replicate 124 none
  statics := none }

def pool1 : Array CpInfo := pool [(2, .class_ 4), (1, u "java/lang/Object"), (0, u "<init>"), (0, u "()V"), (0, .integer 2147483647), (0, .class_ 9), (0, u "com/example/winnowfold/winnowfold/math/DenseVector"), (0, .methodref 8 11), (0, .nameAndType 5 12), (0, u "(I)V"), (0, .methodref 14 15), (0, .class_ 16), (0, .nameAndType 17 18), (0, u "com/example/winnowfold/winnowfold/math/DenseVectorNonZeroCountPinLaw"), (0, u "cell"), (0, u "(I)D"), (0, .methodref 8 20), (0, .nameAndType 21 22), (0, u "set"), (0, u "(ID)V"), (0, .methodref 14 24), (0, .nameAndType 25 26), (0, u "counts"), (0, u "(I)I"), (0, .methodref 8 28), (0, .nameAndType 29 30), (0, u "nonZeroCount"), (0, u "()I"), (0, .double 9223372036854775808), (3, u "law"), (0, u "(IIIII)Z")] 3

def k1m0 : Method := { name := "<init>", desc := "()V", sig := { parameters := [], returnType := none }, accessFlags := 1, code := none }
def k1c1 : Code := { maxStack := 4, maxLocals := 8, code := code, exceptionTable := #[], attributes := #[] }
def k1m1 : Method := { name := "law", desc := "(IIIII)Z", sig := { parameters := [.int, .int, .int, .int, .int], returnType := some .boolean }, accessFlags := 9, code := some k1c1 }
def k1c2 : Code := { maxStack := 2, maxLocals := 2, code := method_3_code, exceptionTable := #[], attributes := #[] }
def k1m2 : Method := { name := "cell", desc := "(I)D", sig := { parameters := [.int], returnType := some .double }, accessFlags := 10, code := some k1c2 }
def k1c3 : Code := { maxStack := 2, maxLocals := 1, code := method_4_code, exceptionTable := #[], attributes := #[] }
def k1m3 : Method := { name := "counts", desc := "(I)I", sig := { parameters := [.int], returnType := some .int }, accessFlags := 10, code := some k1c3 }
/-- com/example/winnowfold/winnowfold/math/DenseVectorNonZeroCountPinLaw -/
def k1 : Class := { plain "com/example/winnowfold/winnowfold/math/DenseVectorNonZeroCountPinLaw" (some 0) with
  accessFlags := 49
  interfaces := #[]
  cf := some (fileOf pool1 14 #[] #[{ accessFlags := 1, nameIndex := 5, descriptorIndex := 6, attributes := #[] }, { accessFlags := 9, nameIndex := 35, descriptorIndex := 36, attributes := #[] }, { accessFlags := 10, nameIndex := 17, descriptorIndex := 18, attributes := #[] }, { accessFlags := 10, nameIndex := 25, descriptorIndex := 26, attributes := #[] }] 49 2 #[] #[])
  fields := #[]
  methods := #[k1m0, k1m1, k1m2, k1m3]
  instanceTypes := #[]
  staticTypes := #[]
  resolved := Array.replicate 40 none
  statics := none }

def pool2 : Array CpInfo := pool [(1, .class_ 2), (0, u "com/example/winnowfold/winnowfold/math/Vector"), (0, .class_ 4), (0, u "java/lang/Object"), (34, .class_ 40), (0, u "com/example/winnowfold/winnowfold/math/Vector$Element")] 2

/-- com/example/winnowfold/winnowfold/math/Vector -/
def k2 : Class := { plain "com/example/winnowfold/winnowfold/math/Vector" (some 0) with
  accessFlags := 1537
  interfaces := #[]
  cf := some (fileOf pool2 1 #[.nestMembers #[39]] #[] 1537 3 #[] #[])
  fields := #[]
  methods := #[]
  instanceTypes := #[]
  staticTypes := #[]
  resolved := Array.replicate 43 none
  statics := none }

def pool3 : Array CpInfo := pool [(1, .methodref 2 3), (0, .class_ 4), (0, .nameAndType 5 6), (0, u "java/lang/Object"), (0, u "<init>"), (0, u "()V"), (9, .fieldref 17 18), (0, .class_ 19), (0, .nameAndType 20 21), (0, u "com/example/winnowfold/winnowfold/math/AbstractVector"), (0, u "size"), (0, u "I"), (35, .class_ 59), (1, u "com/example/winnowfold/winnowfold/math/Vector"), (78, .class_ 139), (0, u "com/example/winnowfold/winnowfold/math/AbstractVector$Fold"), (71, .methodref 212 213), (0, .class_ 214), (0, .nameAndType 215 216), (0, u "java/util/Objects"), (0, u "checkIndex"), (0, u "(II)I"), (10, u "(I)V"), (23, u "(I)I"), (7, .class_ 260), (0, u "com/example/winnowfold/winnowfold/math/AbstractVector$CellIterator")] 43

def k3c0 : Code := { maxStack := 3, maxLocals := 2, code := prog_48_method_1_code, exceptionTable := #[], attributes := #[] }
def k3m0 : Method := { name := "<init>", desc := "(I)V", sig := { parameters := [.int], returnType := none }, accessFlags := 0, code := some k3c0 }
def k3c1 : Code := { maxStack := 2, maxLocals := 2, code := prog_48_method_23_code, exceptionTable := #[], attributes := #[] }
def k3m1 : Method := { name := "checkIndex", desc := "(I)I", sig := { parameters := [.int], returnType := some .int }, accessFlags := 16, code := some k3c1 }
/-- com/example/winnowfold/winnowfold/math/AbstractVector -/
def k3 : Class := { plain "com/example/winnowfold/winnowfold/math/AbstractVector" (some 0) with
  accessFlags := 1056
  interfaces := #[2]
  cf := some (fileOf pool3 17 #[.nestMembers #[138, 259]] #[{ accessFlags := 0, nameIndex := 5, descriptorIndex := 227, attributes := #[] }, { accessFlags := 16, nameIndex := 215, descriptorIndex := 251, attributes := #[] }] 1056 2 #[57] #[{ accessFlags := 18, nameIndex := 20, descriptorIndex := 21, attributes := #[] }])
  fields := #[{ name := "size", type := .int, accessFlags := 18, slot := 0, constantValue := 0 }]
  methods := #[k3m0, k3m1]
  instanceTypes := #[.int]
  staticTypes := #[]
  resolved := Array.replicate 304 none
  statics := none }

def pool4 : Array CpInfo := pool [(1, .methodref 2 3), (0, .class_ 4), (0, .nameAndType 5 6), (0, u "com/example/winnowfold/winnowfold/math/AbstractVector"), (0, u "<init>"), (0, u "(I)V"), (0, .fieldref 8 9), (0, .class_ 10), (0, .nameAndType 11 12), (0, u "com/example/winnowfold/winnowfold/math/DenseVector"), (0, u "values"), (0, u "[D"), (10, u "()I"), (29, .methodref 8 54), (0, .nameAndType 55 56), (0, u "checkIndex"), (0, u "(I)I"), (81, .class_ 139), (0, u "com/example/winnowfold/winnowfold/math/DenseVector$1"), (6, u "set"), (0, u "(ID)V"), (0, u "nonZeroCount")] 33

def k4c0 : Code := { maxStack := 2, maxLocals := 2, code := prog_52_method_1_code, exceptionTable := #[], attributes := #[] }
def k4m0 : Method := { name := "<init>", desc := "(I)V", sig := { parameters := [.int], returnType := none }, accessFlags := 1, code := some k4c0 }
def k4c1 : Code := { maxStack := 4, maxLocals := 4, code := prog_52_method_5_code, exceptionTable := #[], attributes := #[] }
def k4m1 : Method := { name := "set", desc := "(ID)V", sig := { parameters := [.int, .double], returnType := none }, accessFlags := 1, code := some k4c1 }
def k4c2 : Code := { maxStack := 4, maxLocals := 7, code := prog_52_method_6_code, exceptionTable := #[], attributes := #[] }
def k4m2 : Method := { name := "nonZeroCount", desc := "()I", sig := { parameters := [], returnType := some .int }, accessFlags := 1, code := some k4c2 }
/-- com/example/winnowfold/winnowfold/math/DenseVector -/
def k4 : Class := { plain "com/example/winnowfold/winnowfold/math/DenseVector" (some 3) with
  accessFlags := 49
  interfaces := #[]
  cf := some (fileOf pool4 8 #[.nestMembers #[138]] #[{ accessFlags := 1, nameIndex := 5, descriptorIndex := 6, attributes := #[] }, { accessFlags := 1, nameIndex := 146, descriptorIndex := 147, attributes := #[] }, { accessFlags := 1, nameIndex := 148, descriptorIndex := 23, attributes := #[] }] 49 2 #[] #[{ accessFlags := 18, nameIndex := 11, descriptorIndex := 12, attributes := #[] }])
  fields := #[{ name := "values", type := (.array .double), accessFlags := 18, slot := 1, constantValue := 0 }]
  methods := #[k4m0, k4m1, k4m2]
  instanceTypes := #[.int, (.array .double)]
  staticTypes := #[]
  resolved := Array.replicate 182 none
  statics := none }

def pool5 : Array CpInfo := pool [(2, .class_ 4), (1, u "java/lang/Object"), (0, u "<init>"), (0, u "()V"), (35, .class_ 44), (1, u "java/util/Objects"), (60, .methodref 106 107), (0, .class_ 108), (0, .nameAndType 109 110), (0, u "jdk/internal/util/Preconditions"), (0, u "checkIndex"), (0, u "(IILjava/util/function/BiFunction;)I"), (60, u "(II)I")] 12

def k5m0 : Method := { name := "<init>", desc := "()V", sig := { parameters := [], returnType := none }, accessFlags := 2, code := none }
def k5c1 : Code := { maxStack := 3, maxLocals := 2, code := jdk_31_method_17_code, exceptionTable := #[], attributes := #[] }
def k5m1 : Method := { name := "checkIndex", desc := "(II)I", sig := { parameters := [.int, .int], returnType := some .int }, accessFlags := 9, code := some k5c1 }
/-- java/util/Objects -/
def k5 : Class := { plain "java/util/Objects" (some 0) with
  accessFlags := 49
  interfaces := #[]
  cf := some (fileOf pool5 42 #[] #[{ accessFlags := 2, nameIndex := 5, descriptorIndex := 6, attributes := #[] }, { accessFlags := 9, nameIndex := 109, descriptorIndex := 171, attributes := #[] }] 49 2 #[] #[])
  fields := #[]
  methods := #[k5m0, k5m1]
  instanceTypes := #[]
  staticTypes := #[]
  resolved := Array.replicate 184 none
  statics := none }

def pool6 : Array CpInfo := pool [(2, .class_ 4), (1, u "java/lang/Object"), (0, u "<init>"), (0, u "()V"), (17, .class_ 26), (1, u "jdk/internal/util/Preconditions"), (6, u "checkIndex"), (21, .class_ 56), (0, u "jdk/internal/util/Preconditions$4"), (57, .class_ 115), (0, u "jdk/internal/util/Preconditions$1"), (7, u "SIOOBE_FORMATTER"), (0, u "Ljava/util/function/BiFunction;"), (0, .class_ 126), (0, u "jdk/internal/util/Preconditions$2"), (3, u "AIOOBE_FORMATTER"), (0, .class_ 132), (0, u "jdk/internal/util/Preconditions$3"), (3, u "IOOBE_FORMATTER"), (41, u "(IILjava/util/function/BiFunction;)I")] 15

def k6m0 : Method := { name := "<init>", desc := "()V", sig := { parameters := [], returnType := none }, accessFlags := 1, code := none }
def k6c1 : Code := { maxStack := 3, maxLocals := 3, code := jdk_41_method_11_code, exceptionTable := #[], attributes := #[] }
def k6m1 : Method := { name := "checkIndex", desc := "(IILjava/util/function/BiFunction;)I", sig := { parameters := [.int, .int, (.object "java/util/function/BiFunction")], returnType := some .int }, accessFlags := 9, code := some k6c1 }
/-- jdk/internal/util/Preconditions -/
def k6 : Class := { plain "jdk/internal/util/Preconditions" (some 0) with
  accessFlags := 33
  interfaces := #[]
  cf := some (fileOf pool6 24 #[.nestMembers #[55, 131, 125, 114]] #[{ accessFlags := 1, nameIndex := 5, descriptorIndex := 6, attributes := #[] }, { accessFlags := 9, nameIndex := 33, descriptorIndex := 178, attributes := #[] }] 33 2 #[] #[{ accessFlags := 25, nameIndex := 123, descriptorIndex := 124, attributes := #[] }, { accessFlags := 25, nameIndex := 130, descriptorIndex := 124, attributes := #[] }, { accessFlags := 25, nameIndex := 136, descriptorIndex := 124, attributes := #[] }])
  fields := #[{ name := "SIOOBE_FORMATTER", type := (.object "java/util/function/BiFunction"), accessFlags := 25, slot := 0, constantValue := 0 }, { name := "AIOOBE_FORMATTER", type := (.object "java/util/function/BiFunction"), accessFlags := 25, slot := 1, constantValue := 0 }, { name := "IOOBE_FORMATTER", type := (.object "java/util/function/BiFunction"), accessFlags := 25, slot := 2, constantValue := 0 }]
  methods := #[k6m0, k6m1]
  instanceTypes := #[]
  staticTypes := #[(.object "java/util/function/BiFunction"), (.object "java/util/function/BiFunction"), (.object "java/util/function/BiFunction")]
  resolved := Array.replicate 194 none
  statics := none }

def pool7 : Array CpInfo := pool [(1, u "java/lang/Cloneable"), (0, .class_ 1), (0, u "java/lang/Object"), (0, .class_ 3)] 3

/-- java/lang/Cloneable -/
def k7 : Class := { plain "java/lang/Cloneable" (some 0) with
  accessFlags := 1537
  interfaces := #[]
  cf := some (fileOf pool7 2 #[] #[] 1537 4 #[] #[])
  fields := #[]
  methods := #[]
  instanceTypes := #[]
  staticTypes := #[]
  resolved := Array.replicate 8 none
  statics := none }

def pool8 : Array CpInfo := pool [(1, u "java/io/Serializable"), (0, .class_ 1), (0, u "java/lang/Object"), (0, .class_ 3)] 3

/-- java/io/Serializable -/
def k8 : Class := { plain "java/io/Serializable" (some 0) with
  accessFlags := 1537
  interfaces := #[]
  cf := some (fileOf pool8 2 #[] #[] 1537 4 #[] #[])
  fields := #[]
  methods := #[]
  instanceTypes := #[]
  staticTypes := #[]
  resolved := Array.replicate 8 none
  statics := none }

/-- the primitive byte -/
def k9 : Class := { plain "byte" none with kind := .primitive 'B', accessFlags := 0x411 }
/-- [B -/
def k10 : Class := { plain "[B" (some 0) with kind := .array 9 .byte, interfaces := #[7, 8], accessFlags := 1041 }

/-- the primitive double -/
def k11 : Class := { plain "double" none with kind := .primitive 'D', accessFlags := 0x411 }
/-- [D -/
def k12 : Class := { plain "[D" (some 0) with kind := .array 11 .double, interfaces := #[7, 8], accessFlags := 1041 }

/-- the primitive int -/
def k13 : Class := { plain "int" none with kind := .primitive 'I', accessFlags := 0x411 }
/-- [I -/
def k14 : Class := { plain "[I" (some 0) with kind := .array 13 .int, interfaces := #[7, 8], accessFlags := 1041 }

def heap : Heap := #[]
def classes : Array Class := #[k0, k1, k2, k3, k4, k5, k6, k7, k8, k9, k10, k11, k12, k13, k14]
def interned : List (Array UInt16 × Addr) := []
def slotsUsed : Nat := 0
def theMethod : MethodId := ⟨1, 1⟩
def args0 : Array Value := #[.int 1, .int 1, .int 1, .int 1, .int 1]
def aboutOver (below : List Frame) : State where
  vm := { classes := classes, interned := interned.toArray }
  heap := heap
  slotsUsed := slotsUsed
  threads := #[{ frames := .invoking theMethod args0 :: below }]
def below0 : List Frame := [.native { method := ⟨0, 0⟩, args := #[] }]
def about1 : State := aboutOver below0
def p0 : Program := .bare "" "" ""
def e0 : Env := launch0.env 0 0 0
theorem w_frames : about1.frames = Frame.invoking theMethod args0 :: below0 := rfl
set_option maxRecDepth 65536 in
theorem w_args : argsFit about1.vm theMethod args0 = true := by decide +kernel
set_option maxRecDepth 65536 in
theorem w_heap : heapFits about1 = true := by decide +kernel
set_option maxRecDepth 65536 in
theorem w_runnable : about1.curStatus? = some .runnable := by decide +kernel
set_option maxRecDepth 65536 in
theorem w_alone : about1.alone = true := by decide +kernel
set_option maxRecDepth 65536 in
theorem w_named : about1.methodNamed? x = some theMethod := by decide +kernel
set_option maxRecDepth 65536 in
theorem w_hears : about1.hears theMethod below0 = true := by decide +kernel
set_option maxRecDepth 65536 in
theorem w_ripe : about1.ripe theMethod args0 below0 = true := by decide +kernel
theorem w_running : about1.status = .running := rfl
set_option maxRecDepth 65536 in
theorem w_room : about1.hasRoom e0.platform room_1 = true :=
  launch0.hasRoom_least _ room_1 (by decide +kernel) (by decide +kernel) (by decide +kernel) (by decide +kernel) (by decide +kernel) (by decide +kernel)
theorem allAtoms_all (ts : List Jvm.Cond) (a : Array Jvm.Value) (st : Jvm.State) : (allAtoms ts).before a st = ts.all (fun c => c.before a st) := by
  induction ts with
  | nil => rfl
  | cons c t ih =>
    show (Jvm.Cond.and c (allAtoms t)).before a st = _
    rw [Jvm.Cond.before_and, ih, List.all_cons]
def words1 : List Jvm.Cond := Jvm.Cond.code x code maxLocals ret :: tables_1
/-- a 'code' word, met by the world's own term for the bytes: nothing is compared byte by byte -/
theorem code_word {y : MethodName} {bytes : ByteArray} {mx : Nat} {rt : Option FieldType} {a : Array Value} {s : State} {m : MethodId} {meth : Method} {c : Code} (h1 : s.methodNamed? y = some m) (h2 : s.vm.method? m = some meth) (h3 : meth.code = some c) (h4 : c.code = bytes)
    (h5 : (c.maxLocals == mx && c.exceptionTable.isEmpty && decide (c.maxStack ≤ mostOperands) && decide (meth.sig.returnType = rt) && !meth.locks && decide (parseMethodDescriptor y.desc = some meth.sig)) = true) : (Jvm.Cond.code y bytes mx rt).before a s = true := by
  simp only [Bool.and_eq_true, beq_iff_eq, Bool.not_eq_true', decide_eq_true_eq] at h5
  obtain ⟨⟨⟨⟨⟨g1, g2⟩, g3⟩, g4⟩, g5⟩, g6⟩ := h5
  simp [Cond.before, Cond.holds, Cond.value, h1, h2, h3, h4, g1, g2, g3, g4, g5, g6]
def isCode : Jvm.Cond → Bool
  | .code _ _ _ _ => true
  | _ => false
theorem all_split {L : List Jvm.Cond} {P : Jvm.Cond → Bool} (h1 : L.all (fun c => isCode c || P c) = true) (h2 : ∀ c ∈ L.filter isCode, P c = true) : L.all P = true := by
  refine List.all_eq_true.mpr fun c hc => ?_
  have h := List.all_eq_true.mp h1 c hc
  rcases Bool.eq_false_or_eq_true (isCode c) with hi | hi
  · exact h2 c (List.mem_filter.mpr ⟨hc, hi⟩)
  · simpa [hi] using h
set_option maxRecDepth 65536 in
theorem w_c0 : (Jvm.Cond.code x code maxLocals ret).before args0 about1 = true := code_word (m := ⟨1, 1⟩) (meth := k1m1) (c := k1c1) (by decide +kernel) rfl rfl rfl (by decide +kernel)
set_option maxRecDepth 65536 in
theorem w_c1 : (Jvm.Cond.code ({ cls := "com/example/winnowfold/winnowfold/math/DenseVector", name := "<init>", desc := "(I)V" } : Jvm.MethodName) prog_52_method_1_code (2 : Nat) (Option.none : Option Jvm.ClassFile.FieldType)).before args0 about1 = true := code_word (m := ⟨4, 0⟩) (meth := k4m0) (c := k4c0) (by decide +kernel) rfl rfl rfl (by decide +kernel)
set_option maxRecDepth 65536 in
theorem w_c2 : (Jvm.Cond.code ({ cls := "com/example/winnowfold/winnowfold/math/AbstractVector", name := "<init>", desc := "(I)V" } : Jvm.MethodName) prog_48_method_1_code (2 : Nat) (Option.none : Option Jvm.ClassFile.FieldType)).before args0 about1 = true := code_word (m := ⟨3, 0⟩) (meth := k3m0) (c := k3c0) (by decide +kernel) rfl rfl rfl (by decide +kernel)
set_option maxRecDepth 65536 in
theorem w_c3 : (Jvm.Cond.code ({ cls := "java/lang/Object", name := "<init>", desc := "()V" } : Jvm.MethodName) object_method_1_code (1 : Nat) (Option.none : Option Jvm.ClassFile.FieldType)).before args0 about1 = true := code_word (m := ⟨0, 0⟩) (meth := k0m0) (c := k0c0) (by decide +kernel) rfl rfl rfl (by decide +kernel)
set_option maxRecDepth 65536 in
theorem w_c4 : (Jvm.Cond.code ({ cls := "com/example/winnowfold/winnowfold/math/DenseVector", name := "nonZeroCount", desc := "()I" } : Jvm.MethodName) prog_52_method_6_code (7 : Nat) (Option.some Jvm.ClassFile.FieldType.int)).before args0 about1 = true := code_word (m := ⟨4, 2⟩) (meth := k4m2) (c := k4c2) (by decide +kernel) rfl rfl rfl (by decide +kernel)
set_option maxRecDepth 65536 in
theorem w_c5 : (Jvm.Cond.code ({ cls := "com/example/winnowfold/winnowfold/math/DenseVectorNonZeroCountPinLaw", name := "cell", desc := "(I)D" } : Jvm.MethodName) method_3_code (2 : Nat) (Option.some Jvm.ClassFile.FieldType.double)).before args0 about1 = true := code_word (m := ⟨1, 2⟩) (meth := k1m2) (c := k1c2) (by decide +kernel) rfl rfl rfl (by decide +kernel)
set_option maxRecDepth 65536 in
theorem w_c6 : (Jvm.Cond.code ({ cls := "com/example/winnowfold/winnowfold/math/DenseVector", name := "set", desc := "(ID)V" } : Jvm.MethodName) prog_52_method_5_code (4 : Nat) (Option.none : Option Jvm.ClassFile.FieldType)).before args0 about1 = true := code_word (m := ⟨4, 1⟩) (meth := k4m1) (c := k4c1) (by decide +kernel) rfl rfl rfl (by decide +kernel)
set_option maxRecDepth 65536 in
theorem w_c7 : (Jvm.Cond.code ({ cls := "com/example/winnowfold/winnowfold/math/AbstractVector", name := "checkIndex", desc := "(I)I" } : Jvm.MethodName) prog_48_method_23_code (2 : Nat) (Option.some Jvm.ClassFile.FieldType.int)).before args0 about1 = true := code_word (m := ⟨3, 1⟩) (meth := k3m1) (c := k3c1) (by decide +kernel) rfl rfl rfl (by decide +kernel)
set_option maxRecDepth 65536 in
theorem w_c8 : (Jvm.Cond.code ({ cls := "java/util/Objects", name := "checkIndex", desc := "(II)I" } : Jvm.MethodName) jdk_31_method_17_code (2 : Nat) (Option.some Jvm.ClassFile.FieldType.int)).before args0 about1 = true := code_word (m := ⟨5, 1⟩) (meth := k5m1) (c := k5c1) (by decide +kernel) rfl rfl rfl (by decide +kernel)
set_option maxRecDepth 65536 in
theorem w_c9 : (Jvm.Cond.code ({ cls := "jdk/internal/util/Preconditions", name := "checkIndex", desc := "(IILjava/util/function/BiFunction;)I" } : Jvm.MethodName) jdk_41_method_11_code (3 : Nat) (Option.some Jvm.ClassFile.FieldType.int)).before args0 about1 = true := code_word (m := ⟨6, 1⟩) (meth := k6m1) (c := k6c1) (by decide +kernel) rfl rfl rfl (by decide +kernel)
set_option maxRecDepth 65536 in
theorem w_c10 : (Jvm.Cond.code ({ cls := "com/example/winnowfold/winnowfold/math/DenseVectorNonZeroCountPinLaw", name := "counts", desc := "(I)I" } : Jvm.MethodName) method_4_code (1 : Nat) (Option.some Jvm.ClassFile.FieldType.int)).before args0 about1 = true := code_word (m := ⟨1, 3⟩) (meth := k1m3) (c := k1c3) (by decide +kernel) rfl rfl rfl (by decide +kernel)
def codes1 : List Jvm.Cond := [Jvm.Cond.code x code maxLocals ret, Jvm.Cond.code ({ cls := "com/example/winnowfold/winnowfold/math/DenseVector", name := "<init>", desc := "(I)V" } : Jvm.MethodName) prog_52_method_1_code (2 : Nat) (Option.none : Option Jvm.ClassFile.FieldType), Jvm.Cond.code ({ cls := "com/example/winnowfold/winnowfold/math/AbstractVector", name := "<init>", desc := "(I)V" } : Jvm.MethodName) prog_48_method_1_code (2 : Nat) (Option.none : Option Jvm.ClassFile.FieldType), Jvm.Cond.code ({ cls := "java/lang/Object", name := "<init>", desc := "()V" } : Jvm.MethodName) object_method_1_code (1 : Nat) (Option.none : Option Jvm.ClassFile.FieldType), Jvm.Cond.code ({ cls := "com/example/winnowfold/winnowfold/math/DenseVector", name := "nonZeroCount", desc := "()I" } : Jvm.MethodName) prog_52_method_6_code (7 : Nat) (Option.some Jvm.ClassFile.FieldType.int), Jvm.Cond.code ({ cls := "com/example/winnowfold/winnowfold/math/DenseVectorNonZeroCountPinLaw", name := "cell", desc := "(I)D" } : Jvm.MethodName) method_3_code (2 : Nat) (Option.some Jvm.ClassFile.FieldType.double), Jvm.Cond.code ({ cls := "com/example/winnowfold/winnowfold/math/DenseVector", name := "set", desc := "(ID)V" } : Jvm.MethodName) prog_52_method_5_code (4 : Nat) (Option.none : Option Jvm.ClassFile.FieldType), Jvm.Cond.code ({ cls := "com/example/winnowfold/winnowfold/math/AbstractVector", name := "checkIndex", desc := "(I)I" } : Jvm.MethodName) prog_48_method_23_code (2 : Nat) (Option.some Jvm.ClassFile.FieldType.int), Jvm.Cond.code ({ cls := "java/util/Objects", name := "checkIndex", desc := "(II)I" } : Jvm.MethodName) jdk_31_method_17_code (2 : Nat) (Option.some Jvm.ClassFile.FieldType.int), Jvm.Cond.code ({ cls := "jdk/internal/util/Preconditions", name := "checkIndex", desc := "(IILjava/util/function/BiFunction;)I" } : Jvm.MethodName) jdk_41_method_11_code (3 : Nat) (Option.some Jvm.ClassFile.FieldType.int), Jvm.Cond.code ({ cls := "com/example/winnowfold/winnowfold/math/DenseVectorNonZeroCountPinLaw", name := "counts", desc := "(I)I" } : Jvm.MethodName) method_4_code (1 : Nat) (Option.some Jvm.ClassFile.FieldType.int)]
set_option maxRecDepth 65536 in
theorem codes_eq : words1.filter isCode = codes1 := rfl
theorem w_codes : ∀ c ∈ words1.filter isCode, c.before args0 about1 = true := by
  rw [codes_eq]
  intro c hc
  simp only [codes1, List.mem_cons, List.not_mem_nil, or_false] at hc
  rcases hc with rfl | rfl | rfl | rfl | rfl | rfl | rfl | rfl | rfl | rfl | rfl
  · exact w_c0
  · exact w_c1
  · exact w_c2
  · exact w_c3
  · exact w_c4
  · exact w_c5
  · exact w_c6
  · exact w_c7
  · exact w_c8
  · exact w_c9
  · exact w_c10
set_option maxRecDepth 65536 in
theorem w_t1 : (words1.take 24).all (fun c => isCode c || c.before args0 about1) = true := by decide +kernel
set_option maxRecDepth 65536 in
theorem w_t2 : ((words1.drop 24).take 24).all (fun c => isCode c || c.before args0 about1) = true := by decide +kernel
set_option maxRecDepth 65536 in
theorem w_t3 : ((words1.drop 24).drop 24).all (fun c => isCode c || c.before args0 about1) = true := by decide +kernel
theorem w_tables : (allAtoms (Jvm.Cond.code x code maxLocals ret :: tables_1)).before args0 about1 = true := by
  rw [allAtoms_all]
  show words1.all (fun c => c.before args0 about1) = true
  refine all_split ?_ w_codes
  rw [← List.take_append_drop 24 words1, List.all_append, w_t1, ← List.take_append_drop 24 (words1.drop 24), List.all_append, w_t2, w_t3]
  rfl
set_option maxRecDepth 65536 in
theorem w_case : (Jvm.Cond.and given_1 narrow_1).before args0 about1 = true := by decide +kernel
theorem w_applies : (headSpec (Jvm.Cond.code x code maxLocals ret :: tables_1) room_1).applies x e0.platform about1 = true :=
  (Spec.applies_iff w_frames).mpr ⟨w_running, w_runnable, w_alone, w_named, w_hears, w_ripe, w_room, w_tables⟩
theorem atStart : AtStart classFile x code maxLocals ret World_1 tables_1 room_1 Calls_1 rest_1 Pre_1 launch0 p0 e0 about1 theMethod args0 below0 :=
  ⟨lists_1, trivial, launch0.admits_env _ _ _, launch0.least_env, fairChoices_fair.cas, fairChoices_fair.clock, w_frames, w_args, w_heap, w_applies, trivial, trivial, w_case⟩
end start1
theorem witness_1 : WitnessClaimed_1 := ⟨start1.p0, start1.e0, start1.about1, start1.theMethod, start1.args0, start1.below0, start1.atStart⟩
end Jvm.Pilot.@@N@@
