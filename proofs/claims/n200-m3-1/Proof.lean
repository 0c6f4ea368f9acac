import JvmDerived
import JvmDerived.Pilot.@@N@@Statement
import JvmDerived.Pilot.@@N@@Code
set_option linter.unusedVariables false
set_option linter.unusedSimpArgs false
namespace Jvm.Pilot.@@N@@
open Jvm Jvm.ClassFile Sem Op Lib Jvm.Free Jvm.Stand Jvm.LawKit Jvm.RoadKit Bundle Jvm.Pilot.@@N@@.Jvm.D
section OwnWalk
variable {p : Program} {l : Launch} {e : Env} {R : Room} {s : State} {m : MethodId} {args : Array Value} {below : List Frame} {meth : Method} {c : Code} {T T' : State} {locs : List Loc} {cells slots kc ks : Nat} {g g' : JFrame} {Q : Option Value → Heap → List Loc → Prop}
/-- from here the run comes to its end, and the end is as Q says -/
def own_G (p : Program) (e : Env) (below : List Frame) (s : State) (Q : Option Value → Heap → List Loc → Prop) (kc ks : Nat) (T : State) (g : JFrame) : Prop :=
  ∃ s₂ o, Steps p.tables e below (T.setTop g) s₂ ∧ s₂.status = .running ∧ Ended s₂ below o ∧ ∃ v L, o = .returned v ∧ Q v s₂.heap L ∧ FrameEnd s o s₂ L kc ks
theorem own_fe {Z : State} {h : Heap} {a : Addr} {C n d : String} {v v' : Value} (q : Fld Z h a C n d v) (e : v = v') : Fld Z h a C n d v' := e ▸ q
theorem own_ve {Z : State} {h : Heap} {a : Addr} {k : ClassId} {ty : FieldType} {n : Int32} {vs vs' : List Value} {d : Value} (q : Arv Z h a k ty n vs d) (e : vs = vs') : Arv Z h a k ty n vs' d := e ▸ q
theorem own_gs {vs : List Value} {j : Nat} {v d : Value} (h : j < vs.length) : (vs.set j v).getD j d = v := by simp [List.getD_eq_getElem?_getD, h]
theorem own_ge {vs : List Value} {i j : Nat} {v d : Value} (e : i = j) (h : j < vs.length) : (vs.set i v).getD j d = v := by subst e; exact own_gs h
theorem own_gn {vs : List Value} {i j : Nat} {v w d : Value} (h : i ≠ j) (q : vs.getD j d = w) : (vs.set i v).getD j d = w := by rw [List.getD_eq_getElem?_getD, List.getElem?_set_ne h, ← List.getD_eq_getElem?_getD]; exact q
theorem own_ls {vs : List Value} {i j : Nat} {v : Value} (h : j < vs.length) : j < (vs.set i v).length := by rw [List.length_set]; exact h
theorem own_sta {Z : State} {h h' : Heap} {O n d : String} {v : Value} (F : Sta Z h O n d v) (K : Keep h h' []) : Sta Z h' O n d v := by
  obtain ⟨cf, i, k, f, st, cell, h1, h2, h3, h4, h5, h6, h7⟩ := F
  exact ⟨cf, i, k, f, st, cell, h1, h2, h3, h4, K.2.1 _ _ h5 nin0, h6, h7⟩
theorem own_enter (q : g = g') (k : own_G p e below s Q kc ks T g') : own_G p e below s Q kc ks T g := q ▸ k
theorem own_st (st : ∀ t, Steps p.tables e below (T'.setTop g') t → Steps p.tables e below (T.setTop g) t) (k : own_G p e below s Q kc ks T' g') : own_G p e below s Q kc ks T g := by
  obtain ⟨s₂, o, h1, h2⟩ := k
  exact ⟨s₂, o, st _ h1, h2⟩
theorem own_tr (st : Steps p.tables e below (T.setTop g) (T'.setTop g')) (k : own_G p e below s Q kc ks T' g') : own_G p e below s Q kc ks T g := own_st (fun _ h => st.trans h) k
theorem own_ret (X : Stand p l e R s m args below meth c T locs cells slots) (hx : p.tables.exec = Jvm.exec) (hlk : meth.locks = false) {pc : Nat} {Ls : Array Slot} {w : Value} {t : FieldType} {i : Instr} {rest : List Value} (hret : meth.sig.returnType = some t) (hn : narrow t w = w)
    (hi : (i = .ireturn ∧ (t = .int ∨ t = .boolean ∨ t = .byte ∨ t = .char ∨ t = .short) ∧ ∃ z, w = .int z) ∨ (i = .lreturn ∧ t = .long ∧ ∃ z, w = .long z) ∨ (i = .dreturn ∧ t = .double ∧ ∃ z, w = .double z) ∨ (i = .freturn ∧ t = .float ∧ ∃ z, w = .float z) ∨ (i = .areturn ∧ t.isReference = true ∧ w.isRef = true))
    (hd : decode c.code pc = .ok (i, 1)) (hc : cells ≤ kc) (hs : slots ≤ ks) (hQ : Q (some w) T.heap locs) : own_G p e below s Q kc ks T (mkF m pc Ls (w :: rest)) := by
  obtain ⟨fs, hr, hrun, hended, hW, hsame⟩ := X.leave (v := some w) (fun h => by rw [hret] at h; cases h) hlk
  exact ⟨_, _, retOut X hx hret hn hi hd hr, hrun, hended, _, _, rfl, hQ, ⟨_, rfl⟩, hW, hsame.mono hc hs⟩
theorem own_retI (X : Stand p l e R s m args below meth c T locs cells slots) (hx : p.tables.exec = Jvm.exec) (hlk : meth.locks = false) {pc : Nat} {Ls : Array Slot} {z : Int32} {rest : List Value} (hret : meth.sig.returnType = some .int)
    (hd : decode c.code pc = .ok (.ireturn, 1)) (hc : cells ≤ kc) (hs : slots ≤ ks) (hQ : Q (some (.int z)) T.heap locs) : own_G p e below s Q kc ks T (mkF m pc Ls (.int z :: rest)) :=
  own_ret X hx hlk hret rfl (Or.inl ⟨rfl, Or.inl rfl, z, rfl⟩) hd hc hs hQ
theorem own_retZ (X : Stand p l e R s m args below meth c T locs cells slots) (hx : p.tables.exec = Jvm.exec) (hlk : meth.locks = false) {pc : Nat} {Ls : Array Slot} {z : Int32} {rest : List Value} (hret : meth.sig.returnType = some .boolean)
    (hd : decode c.code pc = .ok (.ireturn, 1)) (hn : narrow .boolean (.int z) = .int z) (hc : cells ≤ kc) (hs : slots ≤ ks) (hQ : Q (some (.int z)) T.heap locs) : own_G p e below s Q kc ks T (mkF m pc Ls (.int z :: rest)) :=
  own_ret X hx hlk hret hn (Or.inl ⟨rfl, Or.inr (Or.inl rfl), z, rfl⟩) hd hc hs hQ
theorem own_retJ (X : Stand p l e R s m args below meth c T locs cells slots) (hx : p.tables.exec = Jvm.exec) (hlk : meth.locks = false) {pc : Nat} {Ls : Array Slot} {z : Int64} {rest : List Value} (hret : meth.sig.returnType = some .long)
    (hd : decode c.code pc = .ok (.lreturn, 1)) (hc : cells ≤ kc) (hs : slots ≤ ks) (hQ : Q (some (.long z)) T.heap locs) : own_G p e below s Q kc ks T (mkF m pc Ls (.long z :: rest)) :=
  own_ret X hx hlk hret rfl (Or.inr (Or.inl ⟨rfl, rfl, z, rfl⟩)) hd hc hs hQ
theorem own_retD (X : Stand p l e R s m args below meth c T locs cells slots) (hx : p.tables.exec = Jvm.exec) (hlk : meth.locks = false) {pc : Nat} {Ls : Array Slot} {z : UInt64} {rest : List Value} (hret : meth.sig.returnType = some .double)
    (hd : decode c.code pc = .ok (.dreturn, 1)) (hc : cells ≤ kc) (hs : slots ≤ ks) (hQ : Q (some (.double z)) T.heap locs) : own_G p e below s Q kc ks T (mkF m pc Ls (.double z :: rest)) :=
  own_ret X hx hlk hret rfl (Or.inr (Or.inr (Or.inl ⟨rfl, rfl, z, rfl⟩))) hd hc hs hQ
theorem own_retA (X : Stand p l e R s m args below meth c T locs cells slots) (hx : p.tables.exec = Jvm.exec) (hlk : meth.locks = false) {pc : Nat} {Ls : Array Slot} {w : Value} {t : FieldType} {rest : List Value} (hret : meth.sig.returnType = some t) (ht : t.isReference = true) (hw : w.isRef = true)
    (hd : decode c.code pc = .ok (.areturn, 1)) (hc : cells ≤ kc) (hs : slots ≤ ks) (hQ : Q (some w) T.heap locs) : own_G p e below s Q kc ks T (mkF m pc Ls (w :: rest)) :=
  own_ret X hx hlk hret (by cases t <;> first | (cases ht; done) | (cases w <;> first | (cases hw; done) | rfl)) (Or.inr (Or.inr (Or.inr (Or.inr ⟨rfl, ht, hw⟩)))) hd hc hs hQ
theorem own_retV (X : Stand p l e R s m args below meth c T locs cells slots) (hx : p.tables.exec = Jvm.exec) (hlk : meth.locks = false) {pc : Nat} {Ls : Array Slot} (hret : meth.sig.returnType = none)
    (hd : decode c.code pc = .ok (.return_, 1)) (hc : cells ≤ kc) (hs : slots ≤ ks) (hQ : Q none T.heap locs) : own_G p e below s Q kc ks T (mkF m pc Ls []) := by
  obtain ⟨fs, hr, hrun, hended, hW, hsame⟩ := X.leave (v := none) (fun _ => rfl) hlk
  exact ⟨_, _, X.returnOut hx hret hd hr, hrun, hended, _, _, rfl, hQ, ⟨_, rfl⟩, hW, hsame.mono hc hs⟩
end OwnWalk
section OwnWide
variable {p : Program} {l : Launch} {e : Env} {R : Room} {s : State} {m : MethodId} {args : Array Value} {below : List Frame} {meth : Method} {c : Code} {T T' : State} {locs : List Loc} {cells slots kc ks : Nat} {g g' : JFrame} {Q : Option Value → Heap → List Loc → Prop}
/-- own_G, where String constants may be booked on the way -/
def own_GW (p : Program) (e : Env) (below : List Frame) (s : State) (Q : Option Value → Heap → List Loc → Prop) (kc ks : Nat) (T : State) (g : JFrame) : Prop :=
  ∃ s₂ o, Steps p.tables e below (T.setTop g) s₂ ∧ s₂.status = .running ∧ Ended s₂ below o ∧ ∃ v L, o = .returned v ∧ Q v s₂.heap L ∧ ReturnedEndW s o s₂ L kc ks
theorem own_enterW (q : g = g') (k : own_GW p e below s Q kc ks T g') : own_GW p e below s Q kc ks T g := q ▸ k
theorem own_stW (st : ∀ t, Steps p.tables e below (T'.setTop g') t → Steps p.tables e below (T.setTop g) t) (k : own_GW p e below s Q kc ks T' g') : own_GW p e below s Q kc ks T g := by
  obtain ⟨s₂, o, h1, h2⟩ := k
  exact ⟨s₂, o, st _ h1, h2⟩
theorem own_trW (st : Steps p.tables e below (T.setTop g) (T'.setTop g')) (k : own_GW p e below s Q kc ks T' g') : own_GW p e below s Q kc ks T g := own_stW (fun _ h => st.trans h) k
theorem own_retW {vm1 : Vm} (X : Stand p l e R (s.setVm vm1) m args below meth c T locs cells slots) (hx : p.tables.exec = Jvm.exec) (hlk : meth.locks = false) {n : Nat} (hS : s.Since vm1 n) (hn : n ≤ T.heap.size) {pc : Nat} {Ls : Array Slot} {w : Value} {t : FieldType} {i : Instr} {rest : List Value} (hret : meth.sig.returnType = some t) (hnw : narrow t w = w)
    (hi : (i = .ireturn ∧ (t = .int ∨ t = .boolean ∨ t = .byte ∨ t = .char ∨ t = .short) ∧ ∃ z, w = .int z) ∨ (i = .lreturn ∧ t = .long ∧ ∃ z, w = .long z) ∨ (i = .dreturn ∧ t = .double ∧ ∃ z, w = .double z) ∨ (i = .freturn ∧ t = .float ∧ ∃ z, w = .float z) ∨ (i = .areturn ∧ t.isReference = true ∧ w.isRef = true))
    (hd : decode c.code pc = .ok (i, 1)) (hc : cells ≤ kc) (hs : slots ≤ ks) (hQ : Q (some w) T.heap locs) : own_GW p e below s Q kc ks T (mkF m pc Ls (w :: rest)) := by
  obtain ⟨fs, hr, hrun, hended, hW, h3, h4, h5⟩ := X.leaveW hS hn (v := some w) (fun h => by rw [hret] at h; cases h) hlk
  exact ⟨_, _, retOut X hx hret hnw hi hd hr, hrun, hended, _, _, rfl, hQ, hW, h3, h4, h5.mono hc hs⟩
theorem own_retZW {vm1 : Vm} (X : Stand p l e R (s.setVm vm1) m args below meth c T locs cells slots) (hx : p.tables.exec = Jvm.exec) (hlk : meth.locks = false) {n : Nat} (hS : s.Since vm1 n) (hn : n ≤ T.heap.size) {pc : Nat} {Ls : Array Slot} {z : Int32} {rest : List Value} (hret : meth.sig.returnType = some .boolean)
    (hd : decode c.code pc = .ok (.ireturn, 1)) (hnw : narrow .boolean (.int z) = .int z) (hc : cells ≤ kc) (hs : slots ≤ ks) (hQ : Q (some (.int z)) T.heap locs) : own_GW p e below s Q kc ks T (mkF m pc Ls (.int z :: rest)) :=
  own_retW X hx hlk hS hn hret hnw (Or.inl ⟨rfl, Or.inr (Or.inl rfl), z, rfl⟩) hd hc hs hQ
/-- own_GW, and what is said of the end's tables -/
def own_GH (p : Program) (e : Env) (below : List Frame) (s : State) (Q : Option Value → Heap → List Loc → Prop) (C : State → Prop) (kc ks : Nat) (T : State) (g : JFrame) : Prop :=
  ∃ s₂ o, Steps p.tables e below (T.setTop g) s₂ ∧ s₂.status = .running ∧ Ended s₂ below o ∧ ∃ v L, o = .returned v ∧ Q v s₂.heap L ∧ C s₂ ∧ ReturnedEndW s o s₂ L kc ks
theorem own_enterH {C : State → Prop} (q : g = g') (k : own_GH p e below s Q C kc ks T g') : own_GH p e below s Q C kc ks T g := q ▸ k
theorem own_stH {C : State → Prop} (st : ∀ t, Steps p.tables e below (T'.setTop g') t → Steps p.tables e below (T.setTop g) t) (k : own_GH p e below s Q C kc ks T' g') : own_GH p e below s Q C kc ks T g := by
  obtain ⟨s₂, o, h1, h2⟩ := k
  exact ⟨s₂, o, st _ h1, h2⟩
theorem own_trH {C : State → Prop} (st : Steps p.tables e below (T.setTop g) (T'.setTop g')) (k : own_GH p e below s Q C kc ks T' g') : own_GH p e below s Q C kc ks T g := own_stH (fun _ h => st.trans h) k
theorem own_retAH {Z : State} {EL : List (String × Nat)} {vm1 : Vm} (X : Stand p l e R (s.setVm vm1) m args below meth c T locs cells slots) (hx : p.tables.exec = Jvm.exec) (hlk : meth.locks = false) {n : Nat} (hS : s.Since vm1 n) (hn : n ≤ T.heap.size) (hC : CHr Z EL s.vm s.heap T.vm T.heap) {pc : Nat} {Ls : Array Slot} {a : Addr} {t : FieldType} {rest : List Value} (hret : meth.sig.returnType = some t) (ht : t.isReference = true) (hnw : narrow t (.ref a) = .ref a)
    (hd : decode c.code pc = .ok (.areturn, 1)) (hc : cells ≤ kc) (hs : slots ≤ ks) (hQ : Q (some (.ref a)) T.heap locs) : own_GH p e below s Q (fun U' => CHr Z EL s.vm s.heap U'.vm U'.heap) kc ks T (mkF m pc Ls (.ref a :: rest)) := by
  obtain ⟨fs, hr, hrun, hended, hW, h3, h4, h5⟩ := X.leaveW hS hn (v := some (.ref a)) (fun h => by rw [hret] at h; cases h) hlk
  exact ⟨_, _, retOut X hx hret hnw (Or.inr (Or.inr (Or.inr (Or.inr ⟨rfl, ht, rfl⟩)))) hd hr, hrun, hended, _, _, rfl, hQ, hC, hW, h3, h4, h5.mono hc hs⟩
theorem own_retB (X : Stand p l e R s m args below meth c T locs cells slots) (hx : p.tables.exec = Jvm.exec) (hlk : meth.locks = false) {pc : Nat} {Ls : Array Slot} {z : Int32} {rest : List Value} (hret : meth.sig.returnType = some .byte)
    (hd : decode c.code pc = .ok (.ireturn, 1)) (hn : narrow .byte (.int z) = .int z) (hc : cells ≤ kc) (hs : slots ≤ ks) (hQ : Q (some (.int z)) T.heap locs) : own_G p e below s Q kc ks T (mkF m pc Ls (.int z :: rest)) :=
  own_ret X hx hlk hret hn (Or.inl ⟨rfl, Or.inr (Or.inr (Or.inl rfl)), z, rfl⟩) hd hc hs hQ
theorem own_retC (X : Stand p l e R s m args below meth c T locs cells slots) (hx : p.tables.exec = Jvm.exec) (hlk : meth.locks = false) {pc : Nat} {Ls : Array Slot} {z : Int32} {rest : List Value} (hret : meth.sig.returnType = some .char)
    (hd : decode c.code pc = .ok (.ireturn, 1)) (hn : narrow .char (.int z) = .int z) (hc : cells ≤ kc) (hs : slots ≤ ks) (hQ : Q (some (.int z)) T.heap locs) : own_G p e below s Q kc ks T (mkF m pc Ls (.int z :: rest)) :=
  own_ret X hx hlk hret hn (Or.inl ⟨rfl, Or.inr (Or.inr (Or.inr (Or.inl rfl))), z, rfl⟩) hd hc hs hQ
theorem own_nc (x : Int32) : narrow .char (.int ((x &&& (255 : Int32)).toUInt32.toUInt16.toUInt32.toInt32)) = .int ((x &&& (255 : Int32)).toUInt32.toUInt16.toUInt32.toInt32) := by
  show Value.int _ = Value.int _
  rw [i2c_mask, i2c_mask]
end OwnWide
section OwnFloat
/-! ## Doubles as fractions: x is n / 2^k, exactly -/
def own_Dy (x : UInt64) (n : Int) (k : Nat) : Prop :=
  (∃ s c q, FP.Core.val64 x = .fin s c q) ∧ k ≤ 1074 ∧ FP.Core.zval FP.Core.b64 (FP.Core.val64 x) = n * ((2 ^ (1074 - k) : Nat) : Int)
theorem own_qmax : FP.Core.b64.qmax = 971 := by decide
theorem own_p : FP.Core.b64.p = 53 := by decide
theorem own_signed_abs (n : Int) : FP.Core.signed (decide (n < 0)) n.natAbs = n := by
  unfold FP.Core.signed; by_cases h : n < 0 <;> simp [h] <;> omega
/-- every n / 2^k with |n| < 2^53 is a double's value -/
theorem own_fitV {n : Int} {k : Nat} (hk : k ≤ 1074) (hn : n.natAbs < 9007199254740992) :
    ∃ V, FP.Core.fits FP.Core.b64 V ∧ (∃ s c q, V = .fin s c q) ∧ FP.Core.zval FP.Core.b64 V = n * ((2 ^ (1074 - k) : Nat) : Int) := by
  obtain ⟨c', q', h1, h2⟩ := FP.Core.round_exact FP.Core.good_b64 (decide (n < 0)) (c := n.natAbs) (q := -(k : Int)) (by rw [own_p]; exact hn) (by rw [FP.Core.qmin_b64]; omega) (by rw [own_qmax]; omega)
  refine ⟨_, FP.Core.round_fits FP.Core.good_b64 (.fin (decide (n < 0)) n.natAbs (-(k : Int))), ⟨_, _, _, h1⟩, ?_⟩
  rw [h1]
  show FP.Core.signed (decide (n < 0)) (FP.Core.inUnits c' q' FP.Core.b64.qmin) = _
  rw [h2]
  unfold FP.Core.inUnits
  rw [FP.Core.qmin_b64, show (-(k : Int) - -1074).toNat = 1074 - k by omega, FP.Core.signed_mul, own_signed_abs]
/-- what is worth n / 2^k rounds to that -/
theorem own_round {s : Bool} {c : Nat} {q e0 n : Int} {k : Nat} (hk : k ≤ 1074) (hn : n.natAbs < 9007199254740992) (h0 : e0 ≤ -1074) (h1 : e0 ≤ q)
    (h : FP.Core.signed s (FP.Core.inUnits c q e0) = n * ((2 ^ (1074 - k) : Nat) : Int) * ((2 ^ (-1074 - e0).toNat : Nat) : Int)) :
    (∃ s' c' q', FP.Core.round FP.Core.b64 (.fin s c q) = .fin s' c' q') ∧ FP.Core.zval FP.Core.b64 (FP.Core.round FP.Core.b64 (.fin s c q)) = n * ((2 ^ (1074 - k) : Nat) : Int) := by
  obtain ⟨V, v1, ⟨vs, vc, vq, v2⟩, v3⟩ := own_fitV hk hn
  have hne : V ≠ .nan := by rw [v2]; exact FP.Core.Datum.noConfusion
  have hq := FP.Core.qmin_b64
  have le := FP.Core.zval_round_le FP.Core.good_b64 (s := s) (c := c) (q := q) (e0 := e0) v1 hne (by rw [hq]; exact h0) h1 (by rw [hq, v3, h]; exact Int.le_refl _)
  have ge := FP.Core.zval_round_ge FP.Core.good_b64 (s := s) (c := c) (q := q) (e0 := e0) v1 hne (by rw [hq]; exact h0) h1 (by rw [hq, v3, h]; exact Int.le_refl _)
  have e : FP.Core.zval FP.Core.b64 (FP.Core.round FP.Core.b64 (.fin s c q)) = FP.Core.zval FP.Core.b64 V := Int.le_antisymm le ge
  refine ⟨?_, e.trans v3⟩
  rcases FP.Core.roundRatio_cases FP.Core.b64 s c 1 q with ⟨c', q', h'⟩ | h'
  · exact ⟨_, _, _, h'⟩
  · exfalso
    have e' : FP.Core.zval FP.Core.b64 (FP.Core.roundRatio FP.Core.b64 s c 1 q) = FP.Core.zval FP.Core.b64 V := e
    rw [h', v2] at e'
    rw [v2] at v1
    have hlt := FP.Core.zmag_lt_top FP.Core.good_b64 v1
    have e2 : FP.Core.signed s (FP.Core.b64.tails * 2 ^ (FP.Core.b64.exps - 2)) = FP.Core.signed vs (FP.Core.inUnits vc vq FP.Core.b64.qmin) := e'
    clear e'
    generalize FP.Core.inUnits vc vq FP.Core.b64.qmin = a at e2 hlt
    generalize FP.Core.b64.tails * 2 ^ (FP.Core.b64.exps - 2) = b at e2 hlt
    cases s <;> cases vs <;> simp only [FP.Core.signed, if_true, Bool.false_eq_true, if_false] at e2 <;> omega
theorem own_Dy.fin {x : UInt64} {n : Int} {k : Nat} (h : own_Dy x n k) : Fl.Fin64 x := by
  obtain ⟨⟨s, c, q, h1⟩, -⟩ := h
  exact Fl.fin64_core.mpr ⟨s, c, q, h1⟩
theorem own_Dy.nn {x : UInt64} {n : Int} {k : Nat} (h : own_Dy x n k) : Fl.NoNaN64 x := h.fin.noNaN
theorem own_Dy.ne {x : UInt64} {n : Int} {k : Nat} (h : own_Dy x n k) : FP.Core.val64 x ≠ .nan := by
  obtain ⟨⟨s, c, q, h1⟩, -⟩ := h; rw [h1]; exact FP.Core.Datum.noConfusion
theorem own_pow {j k : Nat} (h : j + k ≤ 1074) : ((2 ^ (1074 - j) : Nat) : Int) = ((2 ^ k : Nat) : Int) * ((2 ^ (1074 - (j + k)) : Nat) : Int) := by
  rw [← Int.natCast_mul, ← Nat.pow_add]; congr 2; omega
/-- the same number, with a greater denominator -/
theorem own_Dy.up {x : UInt64} {n : Int} {k : Nat} (h : own_Dy x n k) (j : Nat) (hj : k + j ≤ 1074) : own_Dy x (n * ((2 ^ j : Nat) : Int)) (k + j) := by
  obtain ⟨h1, -, h3⟩ := h
  refine ⟨h1, hj, ?_⟩
  rw [h3, own_pow hj, Int.mul_assoc]
theorem own_Dy.dn {x : UInt64} {n : Int} {k j : Nat} (h : own_Dy x (n * ((2 ^ j : Nat) : Int)) (k + j)) : own_Dy x n k := by
  obtain ⟨h1, h2, h3⟩ := h
  refine ⟨h1, by omega, ?_⟩
  rw [h3, own_pow h2, Int.mul_assoc]
theorem own_dy_l2d {a : Int64} (h1 : -9007199254740992 < a.toInt) (h2 : a.toInt < 9007199254740992) : own_Dy (FP.l2d a) a.toInt 0 := by
  have hr := own_round (s := decide (a.toInt < 0)) (c := a.toInt.natAbs) (q := 0) (e0 := -1074) (n := a.toInt) (k := 0) (by omega) (by omega) (by omega) (by omega) (by
    unfold FP.Core.inUnits
    rw [FP.Core.signed_mul, own_signed_abs, show (0 - -1074 : Int).toNat = 1074 from rfl, show (-1074 - -1074 : Int).toNat = 0 from rfl, Nat.pow_zero, Int.natCast_one, Int.mul_one])
  have hv : FP.Core.val64 (FP.l2d a) = FP.Core.round FP.Core.b64 (.fin (decide (a.toInt < 0)) a.toInt.natAbs 0) := FP.Core.val64_l2d a
  unfold own_Dy
  rw [hv]
  exact ⟨hr.1, by omega, hr.2⟩
theorem own_dy_i2d (a : Int32) : own_Dy (FP.i2d a) a.toInt 0 := by
  have h := Int32.toInt_lt a
  have h' := Int32.le_toInt a
  have e : a.toInt64.toInt = a.toInt := Int32.toInt_toInt64 a
  have := own_dy_l2d (a := a.toInt64) (by omega) (by omega)
  rw [e] at this
  exact (FP.Core.i2d_l2d a ▸ this : own_Dy (FP.Core.i2d a) a.toInt 0)
theorem own_Dy.add {x y : UInt64} {n m : Int} {k : Nat} (hx : own_Dy x n k) (hy : own_Dy y m k) (h : (n + m).natAbs < 9007199254740992) : own_Dy (FP.dadd x y) (n + m) k := by
  obtain ⟨⟨s, c, q, hx1⟩, hk, hx3⟩ := hx
  obtain ⟨⟨t, d, r, hy1⟩, -, hy3⟩ := hy
  obtain ⟨sg, w, e, h1, h2, h3⟩ := FP.Core.sum_units (f := FP.Core.b64) (hx1 ▸ FP.Core.val64_fits x) (hy1 ▸ FP.Core.val64_fits y)
  have hq := FP.Core.qmin_b64
  rw [← hx1, ← hy1, hx3, hy3, ← Int.add_mul] at h3
  have hr := own_round (s := sg) (c := w) (q := e) (e0 := -1074) (n := n + m) (k := k) hk h (by omega) (by rw [hq] at h2; exact h2) (by
    rw [hq] at h3; rw [h3, show (-1074 - -1074 : Int).toNat = 0 from rfl, Nat.pow_zero, Int.natCast_one, Int.mul_one])
  have hv : FP.Core.val64 (FP.dadd x y) = FP.Core.round FP.Core.b64 (.fin sg w e) := by
    have := FP.Core.val64_dadd x y
    rw [hx1, hy1, h1] at this
    exact this
  unfold own_Dy
  rw [hv]
  exact ⟨hr.1, hk, hr.2⟩
theorem own_Dy.sub {x y : UInt64} {n m : Int} {k : Nat} (hx : own_Dy x n k) (hy : own_Dy y m k) (h : (n - m).natAbs < 9007199254740992) : own_Dy (FP.dsub x y) (n - m) k := by
  obtain ⟨⟨s, c, q, hx1⟩, hk, hx3⟩ := hx
  obtain ⟨⟨t, d, r, hy1⟩, -, hy3⟩ := hy
  have hyn : FP.Core.fits FP.Core.b64 (FP.Core.negate (.fin t d r)) := FP.Core.negate_fits (hy1 ▸ FP.Core.val64_fits y)
  obtain ⟨sg, w, e, h1, h2, h3⟩ := FP.Core.sum_units (f := FP.Core.b64) (s := s) (c := c) (q := q) (t := !t) (d := d) (r := r) (hx1 ▸ FP.Core.val64_fits x) hyn
  have hq := FP.Core.qmin_b64
  have hneg : FP.Core.zval FP.Core.b64 (.fin (!t) d r) = -(m * ((2 ^ (1074 - k) : Nat) : Int)) := by
    rw [← hy3, hy1]; exact FP.Core.zval_negate FP.Core.b64 (.fin t d r)
  rw [← hx1, hx3, hneg, ← Int.sub_eq_add_neg, ← Int.sub_mul] at h3
  have hr := own_round (s := sg) (c := w) (q := e) (e0 := -1074) (n := n - m) (k := k) hk h (by omega) (by rw [hq] at h2; exact h2) (by
    rw [hq] at h3; rw [h3, show (-1074 - -1074 : Int).toNat = 0 from rfl, Nat.pow_zero, Int.natCast_one, Int.mul_one])
  have hv : FP.Core.val64 (FP.dsub x y) = FP.Core.round FP.Core.b64 (.fin sg w e) := by
    have := FP.Core.val64_dsub x y
    rw [hx1, hy1] at this
    exact this.trans (congrArg _ h1)
  unfold own_Dy
  rw [hv]
  exact ⟨hr.1, hk, hr.2⟩
theorem own_Dy.mul {x y : UInt64} {n m : Int} {k j : Nat} (hx : own_Dy x n k) (hy : own_Dy y m j) (hkj : k + j ≤ 1074) (h : (n * m).natAbs < 9007199254740992) : own_Dy (FP.dmul x y) (n * m) (k + j) := by
  obtain ⟨⟨s, c, q, hx1⟩, hk, hx3⟩ := hx
  obtain ⟨⟨t, d, r, hy1⟩, hj, hy3⟩ := hy
  obtain ⟨h1, h2, h3⟩ := FP.Core.product_units (f := FP.Core.b64) (hx1 ▸ FP.Core.val64_fits x) (hy1 ▸ FP.Core.val64_fits y)
  have hq := FP.Core.qmin_b64
  have hs : FP.Core.signed (s != t) (FP.Core.zmag FP.Core.b64 (.fin s c q) * FP.Core.zmag FP.Core.b64 (.fin t d r)) = FP.Core.zval FP.Core.b64 (.fin s c q) * FP.Core.zval FP.Core.b64 (.fin t d r) := by
    show _ = FP.Core.signed s (FP.Core.zmag FP.Core.b64 (.fin s c q)) * FP.Core.signed t (FP.Core.zmag FP.Core.b64 (.fin t d r))
    generalize FP.Core.zmag FP.Core.b64 (.fin s c q) = a
    generalize FP.Core.zmag FP.Core.b64 (.fin t d r) = b
    cases s <;> cases t <;> simp [FP.Core.signed, Int.natCast_mul, Int.neg_mul, Int.mul_neg]
  have hr := own_round (s := s != t) (c := c * d) (q := q + r) (e0 := -2148) (n := n * m) (k := k + j) hkj h (by omega) (by rw [hq] at h2; omega) (by
    rw [hq] at h3
    have h3' : FP.Core.inUnits (c * d) (q + r) (-2148) = FP.Core.zmag FP.Core.b64 (FP.Core.Datum.fin s c q) * FP.Core.zmag FP.Core.b64 (FP.Core.Datum.fin t d r) := h3
    rw [h3', hs, ← hx1, ← hy1, hx3, hy3, show (-1074 - -2148 : Int).toNat = 1074 from rfl]
    have e1 : ((2 ^ (1074 - k) : Nat) : Int) * ((2 ^ (1074 - j) : Nat) : Int) = ((2 ^ (1074 - (k + j)) : Nat) : Int) * ((2 ^ 1074 : Nat) : Int) := by
      rw [← Int.natCast_mul, ← Int.natCast_mul, ← Nat.pow_add, ← Nat.pow_add]; congr 2; omega
    generalize ((2 ^ (1074 - k) : Nat) : Int) = A at e1 ⊢
    generalize ((2 ^ (1074 - j) : Nat) : Int) = B at e1 ⊢
    generalize ((2 ^ (1074 - (k + j)) : Nat) : Int) = C at e1 ⊢
    generalize ((2 ^ 1074 : Nat) : Int) = D at e1 ⊢
    calc n * A * (m * B) = n * m * (A * B) := by ac_rfl
      _ = n * m * C * D := by rw [e1]; ac_rfl)
  have hv : FP.Core.val64 (FP.dmul x y) = FP.Core.round FP.Core.b64 (.fin (s != t) (c * d) (q + r)) := by
    have := FP.Core.val64_dmul x y
    rw [hx1, hy1] at this
    exact this.trans (congrArg _ h1)
  unfold own_Dy
  rw [hv]
  exact ⟨hr.1, hkj, hr.2⟩
theorem own_Dy.cmp {x y : UInt64} {n m : Int} {k : Nat} (hx : own_Dy x n k) (hy : own_Dy y m k) : FP.dcmp x y = some (compare n m) := by
  have h := FP.Core.dcmp_zval hx.ne hy.ne
  rw [hx.2.2, hy.2.2, FP.Core.compare_mul_pos _ _ _ (by have := Nat.two_pow_pos (1074 - k); omega)] at h
  exact h
theorem own_Dy.eq {x y : UInt64} {n m : Int} {k : Nat} (hx : own_Dy x n k) (hy : own_Dy y m k) (h : n = m) (o : CmpOp) : cmpValue (FP.dcmp x y) o = 0 := by
  rw [hx.cmp hy, (FP.Core.compare_eq_iff n m).mpr h]; rfl
theorem own_Dy.lt {x y : UInt64} {n m : Int} {k : Nat} (hx : own_Dy x n k) (hy : own_Dy y m k) (h : n < m) (o : CmpOp) : cmpValue (FP.dcmp x y) o = -1 := by
  rw [hx.cmp hy, (FP.Core.compare_lt_iff n m).mpr h]; rfl
theorem own_Dy.gt {x y : UInt64} {n m : Int} {k : Nat} (hx : own_Dy x n k) (hy : own_Dy y m k) (h : m < n) (o : CmpOp) : cmpValue (FP.dcmp x y) o = 1 := by
  rw [hx.cmp hy, (FP.Core.compare_gt_iff n m).mpr h]; rfl
end OwnFloat
section OwnInt
theorem own_ladd {a b : Int64} (h : (a.toInt + b.toInt).natAbs < 9223372036854775808) : (a + b).toInt = a.toInt + b.toInt := by
  have q := c_ladd a b; have r := rng64 (a + b); omega
theorem own_lsub {a b : Int64} (h : (a.toInt - b.toInt).natAbs < 9223372036854775808) : (a - b).toInt = a.toInt - b.toInt := by
  have q := c_lsub a b; have r := rng64 (a - b); omega
theorem own_lmul {a b : Int64} (h : (a.toInt * b.toInt).natAbs < 9223372036854775808) : (a * b).toInt = a.toInt * b.toInt := by
  have q := c_lmul a b; have r := rng64 (a * b); generalize a.toInt * b.toInt = z at *; omega
theorem own_iadd {a b : Int32} (h : (a.toInt + b.toInt).natAbs < 2147483648) : (a + b).toInt = a.toInt + b.toInt := by
  have q := c_iadd a b; have r := rng32 (a + b); omega
theorem own_isub {a b : Int32} (h : (a.toInt - b.toInt).natAbs < 2147483648) : (a - b).toInt = a.toInt - b.toInt := by
  have q := c_isub a b; have r := rng32 (a - b); omega
theorem own_imul {a b : Int32} (h : (a.toInt * b.toInt).natAbs < 2147483648) : (a * b).toInt = a.toInt * b.toInt := by
  have q := c_imul a b; have r := rng32 (a * b); generalize a.toInt * b.toInt = z at *; omega
theorem own_absmul {n m : Int} {A B : Nat} (hn : n.natAbs ≤ A) (hm : m.natAbs ≤ B) : (n * m).natAbs ≤ A * B := by
  rw [Int.natAbs_mul]; exact Nat.mul_le_mul hn hm
end OwnInt
section OwnShift
theorem own_bv {q : Int32} {n : Nat} (h : q.toInt = (n : Int)) : q.toBitVec.toNat = n := by
  have h1 : q.toBitVec.toInt = (n : Int) := h
  have h2 := BitVec.toInt_eq_toNat_cond q.toBitVec
  have h3 := q.toBitVec.isLt
  split at h2 <;> omega
theorem own_lshl {x : Int64} {q : Int32} {n : Nat} (hq : q.toInt = (n : Int)) (hn : n < 64) (hb : (x.toInt * ((2 ^ n : Nat) : Int)).natAbs < 9223372036854775808) : (x <<< (q &&& 0x3f).toInt64).toInt = x.toInt * ((2 ^ n : Nat) : Int) := by
  have h1 := c_lshl x q n (by rw [own_bv hq]; omega)
  have h2 := rng64 (x <<< (q &&& 0x3f).toInt64)
  generalize x.toInt * ((2 ^ n : Nat) : Int) = z at *
  omega
theorem own_ishl {x : Int32} {q : Int32} {n : Nat} (hq : q.toInt = (n : Int)) (hn : n < 32) (hb : (x.toInt * ((2 ^ n : Nat) : Int)).natAbs < 2147483648) : (x <<< (q &&& 31)).toInt = x.toInt * ((2 ^ n : Nat) : Int) := by
  have h1 := c_ishl x q n (by rw [own_bv hq]; omega)
  have h2 := rng32 (x <<< (q &&& 31))
  generalize x.toInt * ((2 ^ n : Nat) : Int) = z at *
  omega
theorem own_ishl1 {q : Int32} {n : Nat} (hq : q.toInt = (n : Int)) (hn : n < 31) : ((1 : Int32) <<< (q &&& 31)).toInt = ((2 ^ n : Nat) : Int) := by
  have e : (1 : Int32).toInt = 1 := by decide
  have hp : 2 ^ n ≤ 2 ^ 30 := Nat.pow_le_pow_right (by omega) (by omega)
  rw [own_ishl hq (by omega) (by rw [e, Int.one_mul, Int.natAbs_natCast]; omega), e, Int.one_mul]
theorem own_lshl1 {q : Int32} {n : Nat} (hq : q.toInt = (n : Int)) (hn : n < 63) : ((1 : Int64) <<< (q &&& 0x3f).toInt64).toInt = ((2 ^ n : Nat) : Int) := by
  have e : (1 : Int64).toInt = 1 := by decide
  have hp : 2 ^ n ≤ 2 ^ 62 := Nat.pow_le_pow_right (by omega) (by omega)
  rw [own_lshl hq (by omega) (by rw [e, Int.one_mul, Int.natAbs_natCast]; omega), e, Int.one_mul]
/-- a mask of ones: what is left is some natural below the power -/
theorem own_andN (x : Int32) (mk : Int32) (M : Nat) (hM : mk.toInt = (M : Int)) : ∃ n : Nat, (x &&& mk).toInt = (n : Int) ∧ n ≤ M := by
  have h := c_and x mk (by omega)
  exact ⟨(x &&& mk).toInt.toNat, by omega, by omega⟩
theorem own_andL (x : Int64) (mk : Int64) (k : Nat) (hk : k ≤ 63) (hm : mk.toBitVec.toNat = 2 ^ k - 1) : ∃ n : Nat, (x &&& mk).toInt = (n : Int) ∧ n < 2 ^ k := by
  have h := c_maskL x mk k hk hm
  have hp := Nat.two_pow_pos k
  have h1 := Int.emod_nonneg x.toInt (show ((2 ^ k : Nat) : Int) ≠ 0 by omega)
  have h2 := Int.emod_lt_of_pos x.toInt (show (0 : Int) < ((2 ^ k : Nat) : Int) by omega)
  exact ⟨(x &&& mk).toInt.toNat, by omega, by omega⟩
theorem own_irem {x y : Int32} (hx : 0 ≤ x.toInt) (hy : 0 < y.toInt) : (x % y).toInt = x.toInt % y.toInt := by
  rw [Int32.toInt_mod, Int.tmod_eq_emod_of_nonneg hx]
theorem own_lrem {x y : Int64} (hx : 0 ≤ x.toInt) (hy : 0 < y.toInt) : (x - x / y * y).toInt = x.toInt % y.toInt := by
  rw [lrem_mod, Int64.toInt_mod, Int.tmod_eq_emod_of_nonneg hx]
end OwnShift
section OwnPlain
def own_h0 (r : Option Ordering) : Int32 := if ifCond.holds .ge (cmpValue r .g) = true then 0 else 1
def own_h1 (r : Option Ordering) : Int32 := if ifCond.holds .gt (cmpValue r .g) = true then 0 else 1
def own_h2 (r : Option Ordering) : Int32 := if ifCond.holds .le (cmpValue r .l) = true then 0 else 1
def own_h3 (r : Option Ordering) : Int32 := if ifCond.holds .lt (cmpValue r .l) = true then 0 else 1
def own_h4 (r : Option Ordering) : Int32 := if ifCond.holds .ne (cmpValue r .l) = true then 0 else 1
def own_h5 (r : Option Ordering) : Int32 := if ifCond.holds .eq (cmpValue r .l) = true then 0 else 1
theorem own_six (p : Int32) : (p &&& (2147483647 : Int32)) % (6 : Int32) = 0 ∨ (p &&& (2147483647 : Int32)) % (6 : Int32) = 1 ∨ (p &&& (2147483647 : Int32)) % (6 : Int32) = 2 ∨ (p &&& (2147483647 : Int32)) % (6 : Int32) = 3 ∨ (p &&& (2147483647 : Int32)) % (6 : Int32) = 4 ∨ (p &&& (2147483647 : Int32)) % (6 : Int32) = 5 := by
  obtain ⟨n, h, hn⟩ := own_andN p 2147483647 2147483647 (by decide)
  have e5 : (6 : Int32).toInt = 6 := by decide
  have a : ((p &&& (2147483647 : Int32)) % (6 : Int32)).toInt = (n : Int) % 6 := by rw [own_irem (by omega) (by omega), h, e5]
  have b : (n : Int) % 6 = 0 ∨ (n : Int) % 6 = 1 ∨ (n : Int) % 6 = 2 ∨ (n : Int) % 6 = 3 ∨ (n : Int) % 6 = 4 ∨ (n : Int) % 6 = 5 := by omega
  rcases b with q | q | q | q | q | q <;> rw [q] at a
  · exact Or.inl (Int32.toInt_inj.mp a)
  · exact Or.inr (Or.inl (Int32.toInt_inj.mp a))
  · exact Or.inr (Or.inr (Or.inl (Int32.toInt_inj.mp a)))
  · exact Or.inr (Or.inr (Or.inr (Or.inl (Int32.toInt_inj.mp a))))
  · exact Or.inr (Or.inr (Or.inr (Or.inr (Or.inl (Int32.toInt_inj.mp a)))))
  · exact Or.inr (Or.inr (Or.inr (Or.inr (Or.inr (Int32.toInt_inj.mp a)))))
theorem own_tri (a b : Int32) : (a.toInt < b.toInt ∧ FP.dcmp (FP.i2d a) (FP.i2d b) = some .lt) ∨ (a.toInt = b.toInt ∧ FP.dcmp (FP.i2d a) (FP.i2d b) = some .eq) ∨ (b.toInt < a.toInt ∧ FP.dcmp (FP.i2d a) (FP.i2d b) = some .gt) := by
  have c := (own_dy_i2d a).cmp (own_dy_i2d b)
  rcases Int.lt_trichotomy a.toInt b.toInt with q | q | q
  · exact Or.inl ⟨q, by rw [c, (FP.Core.compare_lt_iff _ _).mpr q]⟩
  · exact Or.inr (Or.inl ⟨q, by rw [c, (FP.Core.compare_eq_iff _ _).mpr q]⟩)
  · exact Or.inr (Or.inr ⟨q, by rw [c, (FP.Core.compare_gt_iff _ _).mpr q]⟩)
theorem own_ie {a b : Int32} (h : a = b) : a.toInt = b.toInt := congrArg _ h
theorem own_in {a b : Int32} (h : ¬ a = b) : a.toInt ≠ b.toInt := fun q => h (Int32.toInt_inj.mp q)
theorem own_H0t {a b : Int32} (h : a < b) : own_h0 (FP.dcmp (FP.i2d a) (FP.i2d b)) = 1 := by
  rw [Int32.lt_iff_toInt_lt] at h
  rcases own_tri a b with ⟨q, r⟩ | ⟨q, r⟩ | ⟨q, r⟩ <;> first | (rw [r]; decide) | (exfalso; omega)
theorem own_H0f {a b : Int32} (h : ¬ a < b) : own_h0 (FP.dcmp (FP.i2d a) (FP.i2d b)) = 0 := by
  rw [Int32.lt_iff_toInt_lt] at h
  rcases own_tri a b with ⟨q, r⟩ | ⟨q, r⟩ | ⟨q, r⟩ <;> first | (rw [r]; decide) | (exfalso; omega)
theorem own_H1t {a b : Int32} (h : b < a) : own_h1 (FP.dcmp (FP.i2d a) (FP.i2d b)) = 0 := by
  rw [Int32.lt_iff_toInt_lt] at h
  rcases own_tri a b with ⟨q, r⟩ | ⟨q, r⟩ | ⟨q, r⟩ <;> first | (rw [r]; decide) | (exfalso; omega)
theorem own_H1f {a b : Int32} (h : ¬ b < a) : own_h1 (FP.dcmp (FP.i2d a) (FP.i2d b)) = 1 := by
  rw [Int32.lt_iff_toInt_lt] at h
  rcases own_tri a b with ⟨q, r⟩ | ⟨q, r⟩ | ⟨q, r⟩ <;> first | (rw [r]; decide) | (exfalso; omega)
theorem own_H2t {a b : Int32} (h : b < a) : own_h2 (FP.dcmp (FP.i2d a) (FP.i2d b)) = 1 := by
  rw [Int32.lt_iff_toInt_lt] at h
  rcases own_tri a b with ⟨q, r⟩ | ⟨q, r⟩ | ⟨q, r⟩ <;> first | (rw [r]; decide) | (exfalso; omega)
theorem own_H2f {a b : Int32} (h : ¬ b < a) : own_h2 (FP.dcmp (FP.i2d a) (FP.i2d b)) = 0 := by
  rw [Int32.lt_iff_toInt_lt] at h
  rcases own_tri a b with ⟨q, r⟩ | ⟨q, r⟩ | ⟨q, r⟩ <;> first | (rw [r]; decide) | (exfalso; omega)
theorem own_H3t {a b : Int32} (h : a < b) : own_h3 (FP.dcmp (FP.i2d a) (FP.i2d b)) = 0 := by
  rw [Int32.lt_iff_toInt_lt] at h
  rcases own_tri a b with ⟨q, r⟩ | ⟨q, r⟩ | ⟨q, r⟩ <;> first | (rw [r]; decide) | (exfalso; omega)
theorem own_H3f {a b : Int32} (h : ¬ a < b) : own_h3 (FP.dcmp (FP.i2d a) (FP.i2d b)) = 1 := by
  rw [Int32.lt_iff_toInt_lt] at h
  rcases own_tri a b with ⟨q, r⟩ | ⟨q, r⟩ | ⟨q, r⟩ <;> first | (rw [r]; decide) | (exfalso; omega)
theorem own_H4t {a b : Int32} (h : a = b) : own_h4 (FP.dcmp (FP.i2d a) (FP.i2d b)) = 1 := by
  have h := own_ie h
  rcases own_tri a b with ⟨q, r⟩ | ⟨q, r⟩ | ⟨q, r⟩ <;> first | (rw [r]; decide) | (exfalso; omega)
theorem own_H4f {a b : Int32} (h : ¬ a = b) : own_h4 (FP.dcmp (FP.i2d a) (FP.i2d b)) = 0 := by
  have h := own_in h
  rcases own_tri a b with ⟨q, r⟩ | ⟨q, r⟩ | ⟨q, r⟩ <;> first | (rw [r]; decide) | (exfalso; omega)
theorem own_H5t {a b : Int32} (h : a = b) : own_h5 (FP.dcmp (FP.i2d a) (FP.i2d b)) = 0 := by
  have h := own_ie h
  rcases own_tri a b with ⟨q, r⟩ | ⟨q, r⟩ | ⟨q, r⟩ <;> first | (rw [r]; decide) | (exfalso; omega)
theorem own_H5f {a b : Int32} (h : ¬ a = b) : own_h5 (FP.dcmp (FP.i2d a) (FP.i2d b)) = 1 := by
  have h := own_in h
  rcases own_tri a b with ⟨q, r⟩ | ⟨q, r⟩ | ⟨q, r⟩ <;> first | (rw [r]; decide) | (exfalso; omega)
theorem own_sa {Z : State} {ar : Array Value} (hw : ∀ d ∈ tables_1, d.before ar Z = true) : ∀ a ∈ Bundle.stringAtoms, a.before ar Z = true := fun d hd => by
  simp only [Bundle.stringAtoms, List.mem_cons, List.not_mem_nil, or_false] at hd
  rcases hd with rfl | rfl | rfl | rfl | rfl | rfl | rfl
  · exact (hw _ (List.mem_of_getElem? (i := 23) rfl))
  · exact (hw _ (List.mem_of_getElem? (i := 24) rfl))
  · exact (hw _ (List.mem_of_getElem? (i := 25) rfl))
  · exact (hw _ (List.mem_of_getElem? (i := 26) rfl))
  · exact (hw _ (List.mem_of_getElem? (i := 27) rfl))
  · exact (hw _ (List.mem_of_getElem? (i := 28) rfl))
  · exact (hw _ (List.mem_of_getElem? (i := 29) rfl))
theorem own_ew {Z : State} {ar : Array Value} (hw : ∀ d ∈ tables_1, d.before ar Z = true) : EW Z ar consts_1 := by
  unfold consts_1
  exact (EW.cons (hw _ (List.mem_of_getElem? (i := 22) rfl)) (by decide) (EW.cons (hw _ (List.mem_of_getElem? (i := 72) rfl)) (by decide) (EW.cons (hw _ (List.mem_of_getElem? (i := 75) rfl)) (by decide) (EW.cons (hw _ (List.mem_of_getElem? (i := 81) rfl)) (by decide) (EW.cons (hw _ (List.mem_of_getElem? (i := 84) rfl)) (by decide) (EW.cons (hw _ (List.mem_of_getElem? (i := 78) rfl)) (by decide) EW.nil))))))
end OwnPlain
theorem d3_0 : decode jdk_37_method_2_code 0 = .ok (.aload_n 0, 1) := by decide +kernel
theorem d3_1 : decode jdk_37_method_2_code 1 = .ok (.getfield 7, 3) := by decide +kernel
theorem d3_4 : decode jdk_37_method_2_code 4 = .ok (.ireturn, 1) := by decide +kernel
theorem pno0 : plainName "java/lang/Enum" = true := by first | (simp [plainName, overriddenIn]; done) | decide +kernel
theorem efo0 (m : MethodId) (a0 : Addr) : entryFrame m #[(.ref a0)] 1 = mkF m 0 #[.val (.ref a0)] [] := by first | (simp [entryFrame, mkF, argsToLocals, Value.category]; done) | rfl
def Qo0 (Z : State) (a0 : Addr) (h0 : Heap) (n0 : Nat) (v : Option Value) (h : Heap) (L : List Loc) : Prop := v = some (.int (0 : Int32)) ∧ Fr n0 L ∧ h = h0
set_option maxRecDepth 65536 in
set_option maxHeartbeats 40000000 in
theorem rmo0 (l : Launch) (Z : State) (ar : Array Value) (hw : ∀ d ∈ tables_1, d.before ar Z = true) (ws : List Jvm.Cond) (a0 : Addr) (h0 : Heap) (n0 : Nat) (Z0 : n0 ≤ h0.size) (F_ordinal_a0 : Fld Z h0 a0 "java/lang/Enum" "ordinal" "I" (.int (0 : Int32))) :
    MetFree l (⟨"java/lang/Enum", "ordinal", "()I"⟩ : MethodName) (head1 (Jvm.Cond.code (⟨"java/lang/Enum", "ordinal", "()I"⟩ : MethodName) jdk_37_method_2_code 1 (some .int) :: ws) ({ frames := 0, cells := 0, slots := 0, locals := 0 } : Room)) (fun a U => a = #[(.ref a0)] ∧ Z.Warmed39 U.vm ∧ U.heap = h0) (fun _ _ _ _ _ => True) (fun _ U o U' => ∃ v L, o = .returned v ∧ Qo0 Z a0 h0 n0 v U'.heap L ∧ FrameEnd U o U' L ({ frames := 0, cells := 0, slots := 0, locals := 0 } : Room).cells ({ frames := 0, cells := 0, slots := 0, locals := 0 } : Room).slots) := by
  refine MetFree.of_bodySF (plainFor_of_name pno0) hisR ?_
  intro p e s m args below meth c s₁ Bd hml0 hP hK
  obtain ⟨rfl, hZ, hh⟩ := hP
  have hx := Bd.exec
  have hby := Bd.bytes
  have hlk := Bd.notSynchronized
  have hml : c.maxLocals = 1 := hml0
  have hown : s.vm.findClass "java/lang/Enum" = some m.cls := findClass_of_methodNamed Bd.named
  have hnm := (name_of_methodNamed Bd.named Bd.method).1
  have X0 : Stand p l e ({ frames := 0, cells := 0, slots := 0, locals := 0 } : Room) s m #[(.ref a0)] below meth c s₁ [] 0 0 := Stand.of_body Bd
  have e0 : s₁.heap = h0 := by rw [← hh, Bd.state]; rfl
  have N0 := Fr.nil n0
  have K0 := Keep.refl h0 []
  refine own_enter (Q := Qo0 Z a0 h0 n0) (efo0 m a0) ?_
  refine own_st (T' := s₁) (g' := (mkF m 1 #[.val (.ref a0)] [(.ref a0)])) (fun t k => ?_) ?_
  · show Steps p.tables e below (s₁.setTop (mkF m 0 #[.val (.ref a0)] [])) t
    refine XS.aloadN X0.here hx rfl (hb hby d3_0) rfl rfl ?_
    exact k
  obtain ⟨T1, X1, e1, st1⟩ := getF X0 hx hZ hown (host := "") (Or.inl (hw _ (List.mem_of_getElem? (i := 20) rfl))) Via.refl e0 F_ordinal_a0 (g := (mkF m 1 #[.val (.ref a0)] [(.ref a0)])) rfl rfl (hb hby d3_1)
  refine own_st (T' := T1) (g' := (mkF m 4 #[.val (.ref a0)] [(.int (0 : Int32))])) st1 ?_
  refine own_retI X1 hx hlk Bd.returns (hb hby d3_4) (by decide) (by decide) ?_
  show Qo0 Z a0 h0 n0 (some (.int (0 : Int32))) T1.heap _
  rw [(e1 : T1.heap = h0)]
  exact ⟨rfl, N0, rfl⟩
theorem d11_0 : decode prog_24_method_5_code 0 = .ok (.aload_n 0, 1) := by decide +kernel
theorem d11_1 : decode prog_24_method_5_code 1 = .ok (.invokevirtual 41, 3) := by decide +kernel
theorem d11_4 : decode prog_24_method_5_code 4 = .ok (.tableswitch 40 0 5 #[50, 64, 78, 92, 106, 120], 40) := by decide +kernel
theorem d11_54 : decode prog_24_method_5_code 54 = .ok (.dload_n 1, 1) := by decide +kernel
theorem d11_55 : decode prog_24_method_5_code 55 = .ok (.dload_n 3, 1) := by decide +kernel
theorem d11_56 : decode prog_24_method_5_code 56 = .ok (.dcmp .g, 1) := by decide +kernel
theorem d11_57 : decode prog_24_method_5_code 57 = .ok (.ifCond .ge 7, 3) := by decide +kernel
theorem d11_60 : decode prog_24_method_5_code 60 = .ok (.iconst 1, 1) := by decide +kernel
theorem d11_61 : decode prog_24_method_5_code 61 = .ok (.goto 74, 3) := by decide +kernel
theorem d11_64 : decode prog_24_method_5_code 64 = .ok (.iconst 0, 1) := by decide +kernel
theorem d11_65 : decode prog_24_method_5_code 65 = .ok (.goto 70, 3) := by decide +kernel
theorem d11_135 : decode prog_24_method_5_code 135 = .ok (.ireturn, 1) := by decide +kernel
theorem pnh0 : plainName "com/example/meshwatch/meshwatch/Relation" = true := by first | (simp [plainName, overriddenIn]; done) | decide +kernel
theorem pdh0_0 : parseMethodDescriptor "()I" = some ⟨[], some .int⟩ := by decide +kernel
theorem efh0 (m : MethodId) (a0 : Addr) (d1 : UInt64) (d2 : UInt64) : entryFrame m #[(.ref a0), (.double d1), (.double d2)] 5 = mkF m 0 #[.val (.ref a0), .val (.double d1), .second, .val (.double d2), .second] [] := by first | (simp [entryFrame, mkF, argsToLocals, Value.category]; done) | rfl
def Qh0 (Z : State) (a0 : Addr) (d1 : UInt64) (d2 : UInt64) (h0 : Heap) (n0 : Nat) (v : Option Value) (h : Heap) (L : List Loc) : Prop := v = some (.int (own_h0 (FP.dcmp d1 d2))) ∧ Fr n0 L ∧ h = h0
set_option maxRecDepth 65536 in
set_option maxHeartbeats 40000000 in
theorem rmh0 (l : Launch) (Z : State) (ar : Array Value) (hw : ∀ d ∈ tables_1, d.before ar Z = true) (ws : List Jvm.Cond) (a0 : Addr) (d1 : UInt64) (d2 : UInt64) (h0 : Heap) (n0 : Nat) (Z0 : n0 ≤ h0.size) (E_a0 : Exa Z h0 a0 "com/example/meshwatch/meshwatch/Relation") (F_ordinal_a0 : Fld Z h0 a0 "java/lang/Enum" "ordinal" "I" (.int (0 : Int32))) :
    MetFree l (⟨"com/example/meshwatch/meshwatch/Relation", "holds", "(DD)Z"⟩ : MethodName) (head1 (Jvm.Cond.code (⟨"com/example/meshwatch/meshwatch/Relation", "holds", "(DD)Z"⟩ : MethodName) prog_24_method_5_code 5 (some .boolean) :: ws) ({ frames := 1, cells := 0, slots := 0, locals := 12 } : Room)) (fun a U => a = #[(.ref a0), (.double d1), (.double d2)] ∧ Z.Warmed39 U.vm ∧ U.heap = h0) (fun _ _ _ _ _ => True) (fun _ U o U' => ∃ v L, o = .returned v ∧ Qh0 Z a0 d1 d2 h0 n0 v U'.heap L ∧ FrameEnd U o U' L ({ frames := 1, cells := 0, slots := 0, locals := 12 } : Room).cells ({ frames := 1, cells := 0, slots := 0, locals := 12 } : Room).slots) := by
  refine MetFree.of_bodySF (plainFor_of_name pnh0) hisR ?_
  intro p e s m args below meth c s₁ Bd hml0 hP hK
  obtain ⟨rfl, hZ, hh⟩ := hP
  have hx := Bd.exec
  have hby := Bd.bytes
  have hlk := Bd.notSynchronized
  have hml : c.maxLocals = 5 := hml0
  have hown : s.vm.findClass "com/example/meshwatch/meshwatch/Relation" = some m.cls := findClass_of_methodNamed Bd.named
  have hnm := (name_of_methodNamed Bd.named Bd.method).1
  have X0 : Stand p l e ({ frames := 1, cells := 0, slots := 0, locals := 12 } : Room) s m #[(.ref a0), (.double d1), (.double d2)] below meth c s₁ [] 0 0 := Stand.of_body Bd
  have e0 : s₁.heap = h0 := by rw [← hh, Bd.state]; rfl
  have N0 := Fr.nil n0
  have K0 := Keep.refl h0 []
  refine own_enter (Q := Qh0 Z a0 d1 d2 h0 n0) (efh0 m a0 d1 d2) ?_
  refine own_st (T' := s₁) (g' := (mkF m 1 #[.val (.ref a0), .val (.double d1), .second, .val (.double d2), .second] [(.ref a0)])) (fun t k => ?_) ?_
  · show Steps p.tables e below (s₁.setTop (mkF m 0 #[.val (.ref a0), .val (.double d1), .second, .val (.double d2), .second] [])) t
    refine XS.aloadN X0.here hx rfl (hb hby d11_0) rfl rfl ?_
    exact k
  obtain ⟨cq1, kq1, qa1, qb1, qc1⟩ := isOf hZ e0 E_a0
  obtain ⟨_, _, ⟨T1, L1, k1, n1⟩, -, X1, ⟨Lc1, hQ1, l1, y1, z1⟩, st1⟩ := X0.virtualBackUp hx (owner := "java/lang/Enum") (x := (⟨"com/example/meshwatch/meshwatch/Relation", "ordinal", "()I"⟩ : MethodName)) (y := (⟨"java/lang/Enum", "ordinal", "()I"⟩ : MethodName)) hown (mvT hZ (hw _ (List.mem_of_getElem? (i := 13) rfl))) (mvT hZ (hw _ (List.mem_of_getElem? (i := 14) rfl))) (mvT hZ (hw _ (List.mem_of_getElem? (i := 15) rfl))) (by decide) (mvT hZ (hw _ (List.mem_of_getElem? (i := 17) rfl))) (mvT hZ (hw _ (List.mem_of_getElem? (i := 16) rfl))) (backOf (W := 0) (rmo0 l Z ar hw [] a0 h0 n0 Z0 F_ordinal_a0) hZ (hw _ (List.mem_of_getElem? (i := 19) rfl)) (hw _ (List.mem_of_getElem? (i := 18) rfl)) (by decide) (by decide)) qa1 qc1 (g := (mkF m 1 #[.val (.ref a0), .val (.double d1), .second, .val (.double d2), .second] [(.ref a0)])) rfl (by rw [hml]; rfl) (Steps.refl _) (argsL := []) (rest := []) (lenOf pdh0_0 rfl) rfl (by show 2 * 0 + _ ≤ _; exact Nat.le_of_eq rfl) (hb hby d11_1) (fun _ _ => ⟨rfl, e0, (by decide : 0 + 0 ≤ _), (by decide : 0 + 0 ≤ _)⟩)
  dsimp only [Pt.U, Pt.locs, Pt.cells, Pt.slots] at X1 l1 y1 z1 st1 hQ1
  subst l1 y1 z1
  obtain ⟨rfl, N1q, e1⟩ := hQ1
  have n2 := Fr.app N0 N1q
  refine own_tr (T' := T1) (g' := (mkF m 4 #[.val (.ref a0), .val (.double d1), .second, .val (.double d2), .second] [(.int (0 : Int32))])) st1 ?_
  refine own_st (T' := T1) (g' := (mkF m 57 #[.val (.ref a0), .val (.double d1), .second, .val (.double d2), .second] [(.int (cmpValue (FP.dcmp d1 d2) .g))])) (fun t k => ?_) ?_
  · show Steps p.tables e below (T1.setTop (mkF m 4 #[.val (.ref a0), .val (.double d1), .second, .val (.double d2), .second] [(.int (0 : Int32))])) t
    refine XS.tswIn X1.here hx rfl (pc0 := 4) (pc' := 54) rfl (hb hby d11_4) rfl (by decide) rfl (by decide) (by decide) ?_
    show Steps p.tables e below (T1.setTop (mkF m 54 #[.val (.ref a0), .val (.double d1), .second, .val (.double d2), .second] [])) t
    refine XS.dloadN X1.here hx rfl (hb hby d11_54) rfl ?_
    show Steps p.tables e below (T1.setTop (mkF m 55 #[.val (.ref a0), .val (.double d1), .second, .val (.double d2), .second] [(.double d1)])) t
    refine XS.dloadN X1.here hx rfl (hb hby d11_55) rfl ?_
    show Steps p.tables e below (T1.setTop (mkF m 56 #[.val (.ref a0), .val (.double d1), .second, .val (.double d2), .second] [(.double d2), (.double d1)])) t
    refine XS.dcmpS X1.here hx rfl (hb hby d11_56) rfl rfl ?_
    exact k
  by_cases hc57_3 : ifCond.holds .ge (cmpValue (FP.dcmp d1 d2) .g) = true
  · refine own_st (T' := T1) (g' := (mkF m 135 #[.val (.ref a0), .val (.double d1), .second, .val (.double d2), .second] [(.int (0 : Int32))])) (fun t k => ?_) ?_
    · show Steps p.tables e below (T1.setTop (mkF m 57 #[.val (.ref a0), .val (.double d1), .second, .val (.double d2), .second] [(.int (cmpValue (FP.dcmp d1 d2) .g))])) t
      refine XS.ifYes X1.here hx rfl (pc0 := 57) (pc' := 64) rfl (hb hby d11_57) rfl hc57_3 (by decide) (by decide) ?_
      show Steps p.tables e below (T1.setTop (mkF m 64 #[.val (.ref a0), .val (.double d1), .second, .val (.double d2), .second] [])) t
      refine XS.iconst X1.here hx rfl (hb hby d11_64) ?_
      show Steps p.tables e below (T1.setTop (mkF m 65 #[.val (.ref a0), .val (.double d1), .second, .val (.double d2), .second] [(.int (0 : Int32))])) t
      refine XS.goto X1.here hx rfl (pc0 := 65) (pc' := 135) rfl (hb hby d11_65) (by decide) (by decide) ?_
      exact k
    refine own_retZ X1 hx hlk Bd.returns (hb hby d11_135) rfl (by decide) (by decide) ?_
    show Qh0 Z a0 d1 d2 h0 n0 (some (.int (0 : Int32))) T1.heap _
    rw [(e1 : T1.heap = h0)]
    exact ⟨congrArg (fun z => some (Value.int z)) (if_pos hc57_3).symm, n2, rfl⟩
  · refine own_st (T' := T1) (g' := (mkF m 135 #[.val (.ref a0), .val (.double d1), .second, .val (.double d2), .second] [(.int (1 : Int32))])) (fun t k => ?_) ?_
    · show Steps p.tables e below (T1.setTop (mkF m 57 #[.val (.ref a0), .val (.double d1), .second, .val (.double d2), .second] [(.int (cmpValue (FP.dcmp d1 d2) .g))])) t
      refine XS.ifNo X1.here hx rfl (hb hby d11_57) rfl (Bool.eq_false_iff.mpr hc57_3) ?_
      show Steps p.tables e below (T1.setTop (mkF m 60 #[.val (.ref a0), .val (.double d1), .second, .val (.double d2), .second] [])) t
      refine XS.iconst X1.here hx rfl (hb hby d11_60) ?_
      show Steps p.tables e below (T1.setTop (mkF m 61 #[.val (.ref a0), .val (.double d1), .second, .val (.double d2), .second] [(.int (1 : Int32))])) t
      refine XS.goto X1.here hx rfl (pc0 := 61) (pc' := 135) rfl (hb hby d11_61) (by decide) (by decide) ?_
      exact k
    refine own_retZ X1 hx hlk Bd.returns (hb hby d11_135) rfl (by decide) (by decide) ?_
    show Qh0 Z a0 d1 d2 h0 n0 (some (.int (1 : Int32))) T1.heap _
    rw [(e1 : T1.heap = h0)]
    exact ⟨congrArg (fun z => some (Value.int z)) (if_neg hc57_3).symm, n2, rfl⟩
theorem d2_0 : decode prog_24_method_4_code 0 = .ok (.aload_n 0, 1) := by decide +kernel
theorem d2_1 : decode prog_24_method_4_code 1 = .ok (.invokevirtual 41, 3) := by decide +kernel
theorem d2_4 : decode prog_24_method_4_code 4 = .ok (.tableswitch 40 0 5 #[50, 55, 60, 65, 70, 75], 40) := by decide +kernel
theorem d2_54 : decode prog_24_method_4_code 54 = .ok (.ldc 50, 2) := by decide +kernel
theorem d2_56 : decode prog_24_method_4_code 56 = .ok (.goto 25, 3) := by decide +kernel
theorem d2_81 : decode prog_24_method_4_code 81 = .ok (.areturn, 1) := by decide +kernel
theorem pny0 : plainName "com/example/meshwatch/meshwatch/Relation" = true := by first | (simp [plainName, overriddenIn]; done) | decide +kernel
theorem pdy0_0 : parseMethodDescriptor "()I" = some ⟨[], some .int⟩ := by decide +kernel
theorem efy0 (m : MethodId) (a0 : Addr) : entryFrame m #[(.ref a0)] 1 = mkF m 0 #[.val (.ref a0)] [] := by first | (simp [entryFrame, mkF, argsToLocals, Value.category]; done) | rfl
def Qy0 (Z : State) (a0 : Addr) (h0 : Heap) (n0 : Nat) (v : Option Value) (h : Heap) (L : List Loc) : Prop := ∃ (x0 : Addr) (x1 : Addr) (kx : ClassId), v = some (.ref x0) ∧ Fr n0 L ∧ Keep h0 h [] ∧ Exa Z h x0 "java/lang/String" ∧ Fld Z h x0 "java/lang/String" "coder" "B" (.int (0 : Int32)) ∧ Fld Z h x0 "java/lang/String" "value" "[B" (.ref x1) ∧ Arv Z h x1 kx .byte (1 : Int32) [(.int (60 : Int32))] (.int (0 : Int32))
set_option maxRecDepth 65536 in
set_option maxHeartbeats 40000000 in
theorem rmy0 (l : Launch) (Z : State) (ar : Array Value) (hw : ∀ d ∈ tables_1, d.before ar Z = true) (ws : List Jvm.Cond) (a0 : Addr) (h0 : Heap) (n0 : Nat) (Z0 : n0 ≤ h0.size) (E_a0 : Exa Z h0 a0 "com/example/meshwatch/meshwatch/Relation") (F_ordinal_a0 : Fld Z h0 a0 "java/lang/Enum" "ordinal" "I" (.int (0 : Int32))) :
    MetFree l (⟨"com/example/meshwatch/meshwatch/Relation", "symbol", "()Ljava/lang/String;"⟩ : MethodName) (head1 (Jvm.Cond.code (⟨"com/example/meshwatch/meshwatch/Relation", "symbol", "()Ljava/lang/String;"⟩ : MethodName) prog_24_method_4_code 1 (some (.object "java/lang/String")) :: ws) ({ frames := 1, cells := 2, slots := 8, locals := 12 } : Room)) (fun a U => a = #[(.ref a0)] ∧ Z.Warmed39 U.vm ∧ U.heap = h0 ∧ CHv Z consts_1 U.vm h0) (fun _ _ _ _ _ => True) (fun _ U o U' => ∃ v L, o = .returned v ∧ Qy0 Z a0 h0 n0 v U'.heap L ∧ CHr Z consts_1 U.vm U.heap U'.vm U'.heap ∧ ReturnedEndW U o U' L ({ frames := 1, cells := 2, slots := 8, locals := 12 } : Room).cells ({ frames := 1, cells := 2, slots := 8, locals := 12 } : Room).slots) := by
  refine MetFree.of_bodySF (plainFor_of_name pny0) hisR ?_
  intro p e s m args below meth c s₁ Bd hml0 hP hK
  obtain ⟨rfl, hZ, hh, hI⟩ := hP
  have hx := Bd.exec
  have hby := Bd.bytes
  have hlk := Bd.notSynchronized
  have hml : c.maxLocals = 1 := hml0
  have hown : s.vm.findClass "com/example/meshwatch/meshwatch/Relation" = some m.cls := findClass_of_methodNamed Bd.named
  have hnm := (name_of_methodNamed Bd.named Bd.method).1
  have X0 : Stand p l e ({ frames := 1, cells := 2, slots := 8, locals := 12 } : Room) s m #[(.ref a0)] below meth c s₁ [] 0 0 := Stand.of_body Bd
  have e0 : s₁.heap = h0 := by rw [← hh, Bd.state]; rfl
  have N0 := Fr.nil n0
  have K0 := Keep.refl h0 []
  refine own_enterH (C := fun U' => CHr Z consts_1 s.vm s.heap U'.vm U'.heap) (Q := Qy0 Z a0 h0 n0) (efy0 m a0) ?_
  refine own_stH (T' := s₁) (g' := (mkF m 1 #[.val (.ref a0)] [(.ref a0)])) (fun t k => ?_) ?_
  · show Steps p.tables e below (s₁.setTop (mkF m 0 #[.val (.ref a0)] [])) t
    refine XS.aloadN X0.here hx rfl (hb hby d2_0) rfl rfl ?_
    exact k
  obtain ⟨cq1, kq1, qa1, qb1, qc1⟩ := isOf hZ e0 E_a0
  obtain ⟨_, _, ⟨T1, L1, k1, n1⟩, -, X1, ⟨Lc1, hQ1, l1, y1, z1⟩, st1⟩ := X0.virtualBackUp hx (owner := "java/lang/Enum") (x := (⟨"com/example/meshwatch/meshwatch/Relation", "ordinal", "()I"⟩ : MethodName)) (y := (⟨"java/lang/Enum", "ordinal", "()I"⟩ : MethodName)) hown (mvT hZ (hw _ (List.mem_of_getElem? (i := 13) rfl))) (mvT hZ (hw _ (List.mem_of_getElem? (i := 14) rfl))) (mvT hZ (hw _ (List.mem_of_getElem? (i := 15) rfl))) (by decide) (mvT hZ (hw _ (List.mem_of_getElem? (i := 17) rfl))) (mvT hZ (hw _ (List.mem_of_getElem? (i := 16) rfl))) (backOf (W := 0) (rmo0 l Z ar hw [] a0 h0 n0 Z0 F_ordinal_a0) hZ (hw _ (List.mem_of_getElem? (i := 19) rfl)) (hw _ (List.mem_of_getElem? (i := 18) rfl)) (by decide) (by decide)) qa1 qc1 (g := (mkF m 1 #[.val (.ref a0)] [(.ref a0)])) rfl (by rw [hml]; rfl) (Steps.refl _) (argsL := []) (rest := []) (lenOf pdy0_0 rfl) rfl (by show 2 * 0 + _ ≤ _; exact Nat.le_of_eq rfl) (hb hby d2_1) (fun _ _ => ⟨rfl, e0, (by decide : 0 + 0 ≤ _), (by decide : 0 + 0 ≤ _)⟩)
  dsimp only [Pt.U, Pt.locs, Pt.cells, Pt.slots] at X1 l1 y1 z1 st1 hQ1
  subst l1 y1 z1
  obtain ⟨rfl, N1q, e1⟩ := hQ1
  have n2 := Fr.app N0 N1q
  refine own_trH (T' := T1) (g' := (mkF m 4 #[.val (.ref a0)] [(.int (0 : Int32))])) st1 ?_
  refine own_stH (T' := T1) (g' := (mkF m 54 #[.val (.ref a0)] [])) (fun t k => ?_) ?_
  · show Steps p.tables e below (T1.setTop (mkF m 4 #[.val (.ref a0)] [(.int (0 : Int32))])) t
    refine XS.tswIn X1.here hx rfl (pc0 := 4) (pc' := 54) rfl (hb hby d2_4) rfl (by decide) rfl (by decide) (by decide) ?_
    exact k
  obtain ⟨x3, T3, h3, k3, y3, kk3, X3, e3, E3, hS3, hk3, -, -, B3, Fc3, Fv3, Av3, -, -, hC3, -, -, st3⟩ := ldcCH (s := s) (vm0 := s.vm) X1 hx hZ hown (hw _ (List.mem_of_getElem? (i := 22) rfl)) (own_sa hw) e1 (State.WarmedH.since (State.WarmedH.refl s) 0) (Nat.zero_le _) (own_ew hw) (by decide) hI (vs := [(.int (60 : Int32))]) (z := 1) ⟨by decide, rfl⟩ (by decide) (by decide) (g := (mkF m 54 #[.val (.ref a0)] [])) rfl (hb hby d2_54) (n := 4) (by decide) (by decide) (by decide) (by decide)
  have f4 := E_a0.ext E3
  have f5 := F_ordinal_a0.ext E3
  have z6 := Nat.le_trans Z0 E3.1
  have k7 := K0.ext E3
  refine own_stH (T' := T3) (g' := (mkF m 56 #[.val (.ref a0)] [(.ref x3)])) st3 ?_
  refine own_stH (T' := T3) (g' := (mkF m 81 #[.val (.ref a0)] [(.ref x3)])) (fun t k => ?_) ?_
  · show Steps p.tables e below (T3.setTop (mkF m 56 #[.val (.ref a0)] [(.ref x3)])) t
    refine XS.goto X3.here hx rfl (pc0 := 56) (pc' := 81) rfl (hb hby d2_56) (by decide) (by decide) ?_
    exact k
  refine own_retAH X3 hx hlk hS3 (by rw [(e3 : T3.heap = h3)]; exact hk3) (by rw [hh, (e3 : T3.heap = h3)]; exact hC3) Bd.returns rfl rfl (hb hby d2_81) (by decide) (by decide) ?_
  show Qy0 Z a0 h0 n0 (some (.ref x3)) T3.heap _
  rw [(e3 : T3.heap = h3)]
  exact ⟨x3, y3, kk3, rfl, n2, k7, B3, Fc3, Fv3, Av3⟩
theorem d1_0 : decode method_2_code 0 = .ok (.iload_n 0, 1) := by decide +kernel
theorem d1_1 : decode method_2_code 1 = .ok (.ifCond .ne 7, 3) := by decide +kernel
theorem d1_4 : decode method_2_code 4 = .ok (.getstatic 7, 3) := by decide +kernel
theorem d1_7 : decode method_2_code 7 = .ok (.areturn, 1) := by decide +kernel
theorem pnk0 : plainName "com/example/meshwatch/meshwatch/RelationSymbolPinLaw" = true := by first | (simp [plainName, overriddenIn]; done) | decide +kernel
theorem efk0 (m : MethodId)  : entryFrame m #[(.int (0 : Int32))] 1 = mkF m 0 #[.val (.int (0 : Int32))] [] := by first | (simp [entryFrame, mkF, argsToLocals, Value.category]; done) | rfl
def Qk0 (Z : State) (w_LESS : Addr) (h0 : Heap) (n0 : Nat) (v : Option Value) (h : Heap) (L : List Loc) : Prop := v = some (.ref w_LESS) ∧ Fr n0 L ∧ h = h0
set_option maxRecDepth 65536 in
set_option maxHeartbeats 40000000 in
theorem rmk0 (l : Launch) (Z : State) (ar : Array Value) (hw : ∀ d ∈ tables_1, d.before ar Z = true) (ws : List Jvm.Cond) (w_LESS : Addr) (h0 : Heap) (n0 : Nat) (Z0 : n0 ≤ h0.size) (S_LESS : Sta Z h0 "com/example/meshwatch/meshwatch/Relation" "LESS" "Lcom/example/meshwatch/meshwatch/Relation;" (.ref w_LESS)) :
    MetFree l (⟨"com/example/meshwatch/meshwatch/RelationSymbolPinLaw", "pick", "(I)Lcom/example/meshwatch/meshwatch/Relation;"⟩ : MethodName) (head1 (Jvm.Cond.code (⟨"com/example/meshwatch/meshwatch/RelationSymbolPinLaw", "pick", "(I)Lcom/example/meshwatch/meshwatch/Relation;"⟩ : MethodName) method_2_code 1 (some (.object "com/example/meshwatch/meshwatch/Relation")) :: ws) ({ frames := 0, cells := 0, slots := 0, locals := 0 } : Room)) (fun a U => a = #[(.int (0 : Int32))] ∧ Z.Warmed39 U.vm ∧ U.heap = h0) (fun _ _ _ _ _ => True) (fun _ U o U' => ∃ v L, o = .returned v ∧ Qk0 Z w_LESS h0 n0 v U'.heap L ∧ FrameEnd U o U' L ({ frames := 0, cells := 0, slots := 0, locals := 0 } : Room).cells ({ frames := 0, cells := 0, slots := 0, locals := 0 } : Room).slots) := by
  refine MetFree.of_bodySF (plainFor_of_name pnk0) hisR ?_
  intro p e s m args below meth c s₁ Bd hml0 hP hK
  obtain ⟨rfl, hZ, hh⟩ := hP
  have hx := Bd.exec
  have hby := Bd.bytes
  have hlk := Bd.notSynchronized
  have hml : c.maxLocals = 1 := hml0
  have hown : s.vm.findClass "com/example/meshwatch/meshwatch/RelationSymbolPinLaw" = some m.cls := findClass_of_methodNamed Bd.named
  have hnm := (name_of_methodNamed Bd.named Bd.method).1
  have X0 : Stand p l e ({ frames := 0, cells := 0, slots := 0, locals := 0 } : Room) s m #[(.int (0 : Int32))] below meth c s₁ [] 0 0 := Stand.of_body Bd
  have e0 : s₁.heap = h0 := by rw [← hh, Bd.state]; rfl
  have N0 := Fr.nil n0
  have K0 := Keep.refl h0 []
  refine own_enter (Q := Qk0 Z w_LESS h0 n0) (efk0 m ) ?_
  refine own_st (T' := s₁) (g' := (mkF m 4 #[.val (.int (0 : Int32))] [])) (fun t k => ?_) ?_
  · show Steps p.tables e below (s₁.setTop (mkF m 0 #[.val (.int (0 : Int32))] [])) t
    refine XS.iloadN X0.here hx rfl (hb hby d1_0) rfl ?_
    show Steps p.tables e below (s₁.setTop (mkF m 1 #[.val (.int (0 : Int32))] [(.int (0 : Int32))])) t
    refine XS.ifNo X0.here hx rfl (hb hby d1_1) rfl (by decide) ?_
    exact k
  obtain ⟨T1, X1, e1, st1⟩ := getS2 X0 hx hZ hown (host := "") (Or.inl (hw _ (List.mem_of_getElem? (i := 5) rfl))) Via.refl e0 S_LESS (g := (mkF m 4 #[.val (.int (0 : Int32))] [])) rfl (hb hby d1_4)
  refine own_st (T' := T1) (g' := (mkF m 7 #[.val (.int (0 : Int32))] [(.ref w_LESS)])) st1 ?_
  refine own_retA X1 hx hlk Bd.returns rfl rfl (hb hby d1_7) (by decide) (by decide) ?_
  show Qk0 Z w_LESS h0 n0 (some (.ref w_LESS)) T1.heap _
  rw [(e1 : T1.heap = h0)]
  exact ⟨rfl, N0, rfl⟩
theorem pno1 : plainName "java/lang/Enum" = true := by first | (simp [plainName, overriddenIn]; done) | decide +kernel
theorem efo1 (m : MethodId) (a0 : Addr) : entryFrame m #[(.ref a0)] 1 = mkF m 0 #[.val (.ref a0)] [] := by first | (simp [entryFrame, mkF, argsToLocals, Value.category]; done) | rfl
def Qo1 (Z : State) (a0 : Addr) (h0 : Heap) (n0 : Nat) (v : Option Value) (h : Heap) (L : List Loc) : Prop := v = some (.int (1 : Int32)) ∧ Fr n0 L ∧ h = h0
set_option maxRecDepth 65536 in
set_option maxHeartbeats 40000000 in
theorem rmo1 (l : Launch) (Z : State) (ar : Array Value) (hw : ∀ d ∈ tables_1, d.before ar Z = true) (ws : List Jvm.Cond) (a0 : Addr) (h0 : Heap) (n0 : Nat) (Z0 : n0 ≤ h0.size) (F_ordinal_a0 : Fld Z h0 a0 "java/lang/Enum" "ordinal" "I" (.int (1 : Int32))) :
    MetFree l (⟨"java/lang/Enum", "ordinal", "()I"⟩ : MethodName) (head1 (Jvm.Cond.code (⟨"java/lang/Enum", "ordinal", "()I"⟩ : MethodName) jdk_37_method_2_code 1 (some .int) :: ws) ({ frames := 0, cells := 0, slots := 0, locals := 0 } : Room)) (fun a U => a = #[(.ref a0)] ∧ Z.Warmed39 U.vm ∧ U.heap = h0) (fun _ _ _ _ _ => True) (fun _ U o U' => ∃ v L, o = .returned v ∧ Qo1 Z a0 h0 n0 v U'.heap L ∧ FrameEnd U o U' L ({ frames := 0, cells := 0, slots := 0, locals := 0 } : Room).cells ({ frames := 0, cells := 0, slots := 0, locals := 0 } : Room).slots) := by
  refine MetFree.of_bodySF (plainFor_of_name pno1) hisR ?_
  intro p e s m args below meth c s₁ Bd hml0 hP hK
  obtain ⟨rfl, hZ, hh⟩ := hP
  have hx := Bd.exec
  have hby := Bd.bytes
  have hlk := Bd.notSynchronized
  have hml : c.maxLocals = 1 := hml0
  have hown : s.vm.findClass "java/lang/Enum" = some m.cls := findClass_of_methodNamed Bd.named
  have hnm := (name_of_methodNamed Bd.named Bd.method).1
  have X0 : Stand p l e ({ frames := 0, cells := 0, slots := 0, locals := 0 } : Room) s m #[(.ref a0)] below meth c s₁ [] 0 0 := Stand.of_body Bd
  have e0 : s₁.heap = h0 := by rw [← hh, Bd.state]; rfl
  have N0 := Fr.nil n0
  have K0 := Keep.refl h0 []
  refine own_enter (Q := Qo1 Z a0 h0 n0) (efo1 m a0) ?_
  refine own_st (T' := s₁) (g' := (mkF m 1 #[.val (.ref a0)] [(.ref a0)])) (fun t k => ?_) ?_
  · show Steps p.tables e below (s₁.setTop (mkF m 0 #[.val (.ref a0)] [])) t
    refine XS.aloadN X0.here hx rfl (hb hby d3_0) rfl rfl ?_
    exact k
  obtain ⟨T1, X1, e1, st1⟩ := getF X0 hx hZ hown (host := "") (Or.inl (hw _ (List.mem_of_getElem? (i := 20) rfl))) Via.refl e0 F_ordinal_a0 (g := (mkF m 1 #[.val (.ref a0)] [(.ref a0)])) rfl rfl (hb hby d3_1)
  refine own_st (T' := T1) (g' := (mkF m 4 #[.val (.ref a0)] [(.int (1 : Int32))])) st1 ?_
  refine own_retI X1 hx hlk Bd.returns (hb hby d3_4) (by decide) (by decide) ?_
  show Qo1 Z a0 h0 n0 (some (.int (1 : Int32))) T1.heap _
  rw [(e1 : T1.heap = h0)]
  exact ⟨rfl, N0, rfl⟩
theorem d11_68 : decode prog_24_method_5_code 68 = .ok (.dload_n 1, 1) := by decide +kernel
theorem d11_69 : decode prog_24_method_5_code 69 = .ok (.dload_n 3, 1) := by decide +kernel
theorem d11_70 : decode prog_24_method_5_code 70 = .ok (.dcmp .g, 1) := by decide +kernel
theorem d11_71 : decode prog_24_method_5_code 71 = .ok (.ifCond .gt 7, 3) := by decide +kernel
theorem d11_74 : decode prog_24_method_5_code 74 = .ok (.iconst 1, 1) := by decide +kernel
theorem d11_75 : decode prog_24_method_5_code 75 = .ok (.goto 60, 3) := by decide +kernel
theorem d11_78 : decode prog_24_method_5_code 78 = .ok (.iconst 0, 1) := by decide +kernel
theorem d11_79 : decode prog_24_method_5_code 79 = .ok (.goto 56, 3) := by decide +kernel
theorem pnh1 : plainName "com/example/meshwatch/meshwatch/Relation" = true := by first | (simp [plainName, overriddenIn]; done) | decide +kernel
theorem pdh1_0 : parseMethodDescriptor "()I" = some ⟨[], some .int⟩ := by decide +kernel
theorem efh1 (m : MethodId) (a0 : Addr) (d1 : UInt64) (d2 : UInt64) : entryFrame m #[(.ref a0), (.double d1), (.double d2)] 5 = mkF m 0 #[.val (.ref a0), .val (.double d1), .second, .val (.double d2), .second] [] := by first | (simp [entryFrame, mkF, argsToLocals, Value.category]; done) | rfl
def Qh1 (Z : State) (a0 : Addr) (d1 : UInt64) (d2 : UInt64) (h0 : Heap) (n0 : Nat) (v : Option Value) (h : Heap) (L : List Loc) : Prop := v = some (.int (own_h1 (FP.dcmp d1 d2))) ∧ Fr n0 L ∧ h = h0
set_option maxRecDepth 65536 in
set_option maxHeartbeats 40000000 in
theorem rmh1 (l : Launch) (Z : State) (ar : Array Value) (hw : ∀ d ∈ tables_1, d.before ar Z = true) (ws : List Jvm.Cond) (a0 : Addr) (d1 : UInt64) (d2 : UInt64) (h0 : Heap) (n0 : Nat) (Z0 : n0 ≤ h0.size) (E_a0 : Exa Z h0 a0 "com/example/meshwatch/meshwatch/Relation") (F_ordinal_a0 : Fld Z h0 a0 "java/lang/Enum" "ordinal" "I" (.int (1 : Int32))) :
    MetFree l (⟨"com/example/meshwatch/meshwatch/Relation", "holds", "(DD)Z"⟩ : MethodName) (head1 (Jvm.Cond.code (⟨"com/example/meshwatch/meshwatch/Relation", "holds", "(DD)Z"⟩ : MethodName) prog_24_method_5_code 5 (some .boolean) :: ws) ({ frames := 1, cells := 0, slots := 0, locals := 12 } : Room)) (fun a U => a = #[(.ref a0), (.double d1), (.double d2)] ∧ Z.Warmed39 U.vm ∧ U.heap = h0) (fun _ _ _ _ _ => True) (fun _ U o U' => ∃ v L, o = .returned v ∧ Qh1 Z a0 d1 d2 h0 n0 v U'.heap L ∧ FrameEnd U o U' L ({ frames := 1, cells := 0, slots := 0, locals := 12 } : Room).cells ({ frames := 1, cells := 0, slots := 0, locals := 12 } : Room).slots) := by
  refine MetFree.of_bodySF (plainFor_of_name pnh1) hisR ?_
  intro p e s m args below meth c s₁ Bd hml0 hP hK
  obtain ⟨rfl, hZ, hh⟩ := hP
  have hx := Bd.exec
  have hby := Bd.bytes
  have hlk := Bd.notSynchronized
  have hml : c.maxLocals = 5 := hml0
  have hown : s.vm.findClass "com/example/meshwatch/meshwatch/Relation" = some m.cls := findClass_of_methodNamed Bd.named
  have hnm := (name_of_methodNamed Bd.named Bd.method).1
  have X0 : Stand p l e ({ frames := 1, cells := 0, slots := 0, locals := 12 } : Room) s m #[(.ref a0), (.double d1), (.double d2)] below meth c s₁ [] 0 0 := Stand.of_body Bd
  have e0 : s₁.heap = h0 := by rw [← hh, Bd.state]; rfl
  have N0 := Fr.nil n0
  have K0 := Keep.refl h0 []
  refine own_enter (Q := Qh1 Z a0 d1 d2 h0 n0) (efh1 m a0 d1 d2) ?_
  refine own_st (T' := s₁) (g' := (mkF m 1 #[.val (.ref a0), .val (.double d1), .second, .val (.double d2), .second] [(.ref a0)])) (fun t k => ?_) ?_
  · show Steps p.tables e below (s₁.setTop (mkF m 0 #[.val (.ref a0), .val (.double d1), .second, .val (.double d2), .second] [])) t
    refine XS.aloadN X0.here hx rfl (hb hby d11_0) rfl rfl ?_
    exact k
  obtain ⟨cq1, kq1, qa1, qb1, qc1⟩ := isOf hZ e0 E_a0
  obtain ⟨_, _, ⟨T1, L1, k1, n1⟩, -, X1, ⟨Lc1, hQ1, l1, y1, z1⟩, st1⟩ := X0.virtualBackUp hx (owner := "java/lang/Enum") (x := (⟨"com/example/meshwatch/meshwatch/Relation", "ordinal", "()I"⟩ : MethodName)) (y := (⟨"java/lang/Enum", "ordinal", "()I"⟩ : MethodName)) hown (mvT hZ (hw _ (List.mem_of_getElem? (i := 13) rfl))) (mvT hZ (hw _ (List.mem_of_getElem? (i := 14) rfl))) (mvT hZ (hw _ (List.mem_of_getElem? (i := 15) rfl))) (by decide) (mvT hZ (hw _ (List.mem_of_getElem? (i := 17) rfl))) (mvT hZ (hw _ (List.mem_of_getElem? (i := 16) rfl))) (backOf (W := 0) (rmo1 l Z ar hw [] a0 h0 n0 Z0 F_ordinal_a0) hZ (hw _ (List.mem_of_getElem? (i := 19) rfl)) (hw _ (List.mem_of_getElem? (i := 18) rfl)) (by decide) (by decide)) qa1 qc1 (g := (mkF m 1 #[.val (.ref a0), .val (.double d1), .second, .val (.double d2), .second] [(.ref a0)])) rfl (by rw [hml]; rfl) (Steps.refl _) (argsL := []) (rest := []) (lenOf pdh1_0 rfl) rfl (by show 2 * 0 + _ ≤ _; exact Nat.le_of_eq rfl) (hb hby d11_1) (fun _ _ => ⟨rfl, e0, (by decide : 0 + 0 ≤ _), (by decide : 0 + 0 ≤ _)⟩)
  dsimp only [Pt.U, Pt.locs, Pt.cells, Pt.slots] at X1 l1 y1 z1 st1 hQ1
  subst l1 y1 z1
  obtain ⟨rfl, N1q, e1⟩ := hQ1
  have n2 := Fr.app N0 N1q
  refine own_tr (T' := T1) (g' := (mkF m 4 #[.val (.ref a0), .val (.double d1), .second, .val (.double d2), .second] [(.int (1 : Int32))])) st1 ?_
  refine own_st (T' := T1) (g' := (mkF m 71 #[.val (.ref a0), .val (.double d1), .second, .val (.double d2), .second] [(.int (cmpValue (FP.dcmp d1 d2) .g))])) (fun t k => ?_) ?_
  · show Steps p.tables e below (T1.setTop (mkF m 4 #[.val (.ref a0), .val (.double d1), .second, .val (.double d2), .second] [(.int (1 : Int32))])) t
    refine XS.tswIn X1.here hx rfl (pc0 := 4) (pc' := 68) rfl (hb hby d11_4) rfl (by decide) rfl (by decide) (by decide) ?_
    show Steps p.tables e below (T1.setTop (mkF m 68 #[.val (.ref a0), .val (.double d1), .second, .val (.double d2), .second] [])) t
    refine XS.dloadN X1.here hx rfl (hb hby d11_68) rfl ?_
    show Steps p.tables e below (T1.setTop (mkF m 69 #[.val (.ref a0), .val (.double d1), .second, .val (.double d2), .second] [(.double d1)])) t
    refine XS.dloadN X1.here hx rfl (hb hby d11_69) rfl ?_
    show Steps p.tables e below (T1.setTop (mkF m 70 #[.val (.ref a0), .val (.double d1), .second, .val (.double d2), .second] [(.double d2), (.double d1)])) t
    refine XS.dcmpS X1.here hx rfl (hb hby d11_70) rfl rfl ?_
    exact k
  by_cases hc71_3 : ifCond.holds .gt (cmpValue (FP.dcmp d1 d2) .g) = true
  · refine own_st (T' := T1) (g' := (mkF m 135 #[.val (.ref a0), .val (.double d1), .second, .val (.double d2), .second] [(.int (0 : Int32))])) (fun t k => ?_) ?_
    · show Steps p.tables e below (T1.setTop (mkF m 71 #[.val (.ref a0), .val (.double d1), .second, .val (.double d2), .second] [(.int (cmpValue (FP.dcmp d1 d2) .g))])) t
      refine XS.ifYes X1.here hx rfl (pc0 := 71) (pc' := 78) rfl (hb hby d11_71) rfl hc71_3 (by decide) (by decide) ?_
      show Steps p.tables e below (T1.setTop (mkF m 78 #[.val (.ref a0), .val (.double d1), .second, .val (.double d2), .second] [])) t
      refine XS.iconst X1.here hx rfl (hb hby d11_78) ?_
      show Steps p.tables e below (T1.setTop (mkF m 79 #[.val (.ref a0), .val (.double d1), .second, .val (.double d2), .second] [(.int (0 : Int32))])) t
      refine XS.goto X1.here hx rfl (pc0 := 79) (pc' := 135) rfl (hb hby d11_79) (by decide) (by decide) ?_
      exact k
    refine own_retZ X1 hx hlk Bd.returns (hb hby d11_135) rfl (by decide) (by decide) ?_
    show Qh1 Z a0 d1 d2 h0 n0 (some (.int (0 : Int32))) T1.heap _
    rw [(e1 : T1.heap = h0)]
    exact ⟨congrArg (fun z => some (Value.int z)) (if_pos hc71_3).symm, n2, rfl⟩
  · refine own_st (T' := T1) (g' := (mkF m 135 #[.val (.ref a0), .val (.double d1), .second, .val (.double d2), .second] [(.int (1 : Int32))])) (fun t k => ?_) ?_
    · show Steps p.tables e below (T1.setTop (mkF m 71 #[.val (.ref a0), .val (.double d1), .second, .val (.double d2), .second] [(.int (cmpValue (FP.dcmp d1 d2) .g))])) t
      refine XS.ifNo X1.here hx rfl (hb hby d11_71) rfl (Bool.eq_false_iff.mpr hc71_3) ?_
      show Steps p.tables e below (T1.setTop (mkF m 74 #[.val (.ref a0), .val (.double d1), .second, .val (.double d2), .second] [])) t
      refine XS.iconst X1.here hx rfl (hb hby d11_74) ?_
      show Steps p.tables e below (T1.setTop (mkF m 75 #[.val (.ref a0), .val (.double d1), .second, .val (.double d2), .second] [(.int (1 : Int32))])) t
      refine XS.goto X1.here hx rfl (pc0 := 75) (pc' := 135) rfl (hb hby d11_75) (by decide) (by decide) ?_
      exact k
    refine own_retZ X1 hx hlk Bd.returns (hb hby d11_135) rfl (by decide) (by decide) ?_
    show Qh1 Z a0 d1 d2 h0 n0 (some (.int (1 : Int32))) T1.heap _
    rw [(e1 : T1.heap = h0)]
    exact ⟨congrArg (fun z => some (Value.int z)) (if_neg hc71_3).symm, n2, rfl⟩
theorem d2_59 : decode prog_24_method_4_code 59 = .ok (.ldc 52, 2) := by decide +kernel
theorem d2_61 : decode prog_24_method_4_code 61 = .ok (.goto 20, 3) := by decide +kernel
theorem pny1 : plainName "com/example/meshwatch/meshwatch/Relation" = true := by first | (simp [plainName, overriddenIn]; done) | decide +kernel
theorem pdy1_0 : parseMethodDescriptor "()I" = some ⟨[], some .int⟩ := by decide +kernel
theorem efy1 (m : MethodId) (a0 : Addr) : entryFrame m #[(.ref a0)] 1 = mkF m 0 #[.val (.ref a0)] [] := by first | (simp [entryFrame, mkF, argsToLocals, Value.category]; done) | rfl
def Qy1 (Z : State) (a0 : Addr) (h0 : Heap) (n0 : Nat) (v : Option Value) (h : Heap) (L : List Loc) : Prop := ∃ (x0 : Addr) (x1 : Addr) (kx : ClassId), v = some (.ref x0) ∧ Fr n0 L ∧ Keep h0 h [] ∧ Exa Z h x0 "java/lang/String" ∧ Fld Z h x0 "java/lang/String" "coder" "B" (.int (0 : Int32)) ∧ Fld Z h x0 "java/lang/String" "value" "[B" (.ref x1) ∧ Arv Z h x1 kx .byte (2 : Int32) [(.int (60 : Int32)), (.int (61 : Int32))] (.int (0 : Int32))
set_option maxRecDepth 65536 in
set_option maxHeartbeats 40000000 in
theorem rmy1 (l : Launch) (Z : State) (ar : Array Value) (hw : ∀ d ∈ tables_1, d.before ar Z = true) (ws : List Jvm.Cond) (a0 : Addr) (h0 : Heap) (n0 : Nat) (Z0 : n0 ≤ h0.size) (E_a0 : Exa Z h0 a0 "com/example/meshwatch/meshwatch/Relation") (F_ordinal_a0 : Fld Z h0 a0 "java/lang/Enum" "ordinal" "I" (.int (1 : Int32))) :
    MetFree l (⟨"com/example/meshwatch/meshwatch/Relation", "symbol", "()Ljava/lang/String;"⟩ : MethodName) (head1 (Jvm.Cond.code (⟨"com/example/meshwatch/meshwatch/Relation", "symbol", "()Ljava/lang/String;"⟩ : MethodName) prog_24_method_4_code 1 (some (.object "java/lang/String")) :: ws) ({ frames := 1, cells := 2, slots := 12, locals := 12 } : Room)) (fun a U => a = #[(.ref a0)] ∧ Z.Warmed39 U.vm ∧ U.heap = h0 ∧ CHv Z consts_1 U.vm h0) (fun _ _ _ _ _ => True) (fun _ U o U' => ∃ v L, o = .returned v ∧ Qy1 Z a0 h0 n0 v U'.heap L ∧ CHr Z consts_1 U.vm U.heap U'.vm U'.heap ∧ ReturnedEndW U o U' L ({ frames := 1, cells := 2, slots := 12, locals := 12 } : Room).cells ({ frames := 1, cells := 2, slots := 12, locals := 12 } : Room).slots) := by
  refine MetFree.of_bodySF (plainFor_of_name pny1) hisR ?_
  intro p e s m args below meth c s₁ Bd hml0 hP hK
  obtain ⟨rfl, hZ, hh, hI⟩ := hP
  have hx := Bd.exec
  have hby := Bd.bytes
  have hlk := Bd.notSynchronized
  have hml : c.maxLocals = 1 := hml0
  have hown : s.vm.findClass "com/example/meshwatch/meshwatch/Relation" = some m.cls := findClass_of_methodNamed Bd.named
  have hnm := (name_of_methodNamed Bd.named Bd.method).1
  have X0 : Stand p l e ({ frames := 1, cells := 2, slots := 12, locals := 12 } : Room) s m #[(.ref a0)] below meth c s₁ [] 0 0 := Stand.of_body Bd
  have e0 : s₁.heap = h0 := by rw [← hh, Bd.state]; rfl
  have N0 := Fr.nil n0
  have K0 := Keep.refl h0 []
  refine own_enterH (C := fun U' => CHr Z consts_1 s.vm s.heap U'.vm U'.heap) (Q := Qy1 Z a0 h0 n0) (efy1 m a0) ?_
  refine own_stH (T' := s₁) (g' := (mkF m 1 #[.val (.ref a0)] [(.ref a0)])) (fun t k => ?_) ?_
  · show Steps p.tables e below (s₁.setTop (mkF m 0 #[.val (.ref a0)] [])) t
    refine XS.aloadN X0.here hx rfl (hb hby d2_0) rfl rfl ?_
    exact k
  obtain ⟨cq1, kq1, qa1, qb1, qc1⟩ := isOf hZ e0 E_a0
  obtain ⟨_, _, ⟨T1, L1, k1, n1⟩, -, X1, ⟨Lc1, hQ1, l1, y1, z1⟩, st1⟩ := X0.virtualBackUp hx (owner := "java/lang/Enum") (x := (⟨"com/example/meshwatch/meshwatch/Relation", "ordinal", "()I"⟩ : MethodName)) (y := (⟨"java/lang/Enum", "ordinal", "()I"⟩ : MethodName)) hown (mvT hZ (hw _ (List.mem_of_getElem? (i := 13) rfl))) (mvT hZ (hw _ (List.mem_of_getElem? (i := 14) rfl))) (mvT hZ (hw _ (List.mem_of_getElem? (i := 15) rfl))) (by decide) (mvT hZ (hw _ (List.mem_of_getElem? (i := 17) rfl))) (mvT hZ (hw _ (List.mem_of_getElem? (i := 16) rfl))) (backOf (W := 0) (rmo1 l Z ar hw [] a0 h0 n0 Z0 F_ordinal_a0) hZ (hw _ (List.mem_of_getElem? (i := 19) rfl)) (hw _ (List.mem_of_getElem? (i := 18) rfl)) (by decide) (by decide)) qa1 qc1 (g := (mkF m 1 #[.val (.ref a0)] [(.ref a0)])) rfl (by rw [hml]; rfl) (Steps.refl _) (argsL := []) (rest := []) (lenOf pdy1_0 rfl) rfl (by show 2 * 0 + _ ≤ _; exact Nat.le_of_eq rfl) (hb hby d2_1) (fun _ _ => ⟨rfl, e0, (by decide : 0 + 0 ≤ _), (by decide : 0 + 0 ≤ _)⟩)
  dsimp only [Pt.U, Pt.locs, Pt.cells, Pt.slots] at X1 l1 y1 z1 st1 hQ1
  subst l1 y1 z1
  obtain ⟨rfl, N1q, e1⟩ := hQ1
  have n2 := Fr.app N0 N1q
  refine own_trH (T' := T1) (g' := (mkF m 4 #[.val (.ref a0)] [(.int (1 : Int32))])) st1 ?_
  refine own_stH (T' := T1) (g' := (mkF m 59 #[.val (.ref a0)] [])) (fun t k => ?_) ?_
  · show Steps p.tables e below (T1.setTop (mkF m 4 #[.val (.ref a0)] [(.int (1 : Int32))])) t
    refine XS.tswIn X1.here hx rfl (pc0 := 4) (pc' := 59) rfl (hb hby d2_4) rfl (by decide) rfl (by decide) (by decide) ?_
    exact k
  obtain ⟨x3, T3, h3, k3, y3, kk3, X3, e3, E3, hS3, hk3, -, -, B3, Fc3, Fv3, Av3, -, -, hC3, -, -, st3⟩ := ldcCH (s := s) (vm0 := s.vm) X1 hx hZ hown (hw _ (List.mem_of_getElem? (i := 72) rfl)) (own_sa hw) e1 (State.WarmedH.since (State.WarmedH.refl s) 0) (Nat.zero_le _) (own_ew hw) (by decide) hI (vs := [(.int (60 : Int32)), (.int (61 : Int32))]) (z := 2) ⟨by decide, rfl⟩ (by decide) (by decide) (g := (mkF m 59 #[.val (.ref a0)] [])) rfl (hb hby d2_59) (n := 8) (by decide) (by decide) (by decide) (by decide)
  have f4 := E_a0.ext E3
  have f5 := F_ordinal_a0.ext E3
  have z6 := Nat.le_trans Z0 E3.1
  have k7 := K0.ext E3
  refine own_stH (T' := T3) (g' := (mkF m 61 #[.val (.ref a0)] [(.ref x3)])) st3 ?_
  refine own_stH (T' := T3) (g' := (mkF m 81 #[.val (.ref a0)] [(.ref x3)])) (fun t k => ?_) ?_
  · show Steps p.tables e below (T3.setTop (mkF m 61 #[.val (.ref a0)] [(.ref x3)])) t
    refine XS.goto X3.here hx rfl (pc0 := 61) (pc' := 81) rfl (hb hby d2_61) (by decide) (by decide) ?_
    exact k
  refine own_retAH X3 hx hlk hS3 (by rw [(e3 : T3.heap = h3)]; exact hk3) (by rw [hh, (e3 : T3.heap = h3)]; exact hC3) Bd.returns rfl rfl (hb hby d2_81) (by decide) (by decide) ?_
  show Qy1 Z a0 h0 n0 (some (.ref x3)) T3.heap _
  rw [(e3 : T3.heap = h3)]
  exact ⟨x3, y3, kk3, rfl, n2, k7, B3, Fc3, Fv3, Av3⟩
theorem d1_8 : decode method_2_code 8 = .ok (.iload_n 0, 1) := by decide +kernel
theorem d1_9 : decode method_2_code 9 = .ok (.iconst 1, 1) := by decide +kernel
theorem d1_10 : decode method_2_code 10 = .ok (.if_icmp .ne 7, 3) := by decide +kernel
theorem d1_13 : decode method_2_code 13 = .ok (.getstatic 13, 3) := by decide +kernel
theorem d1_16 : decode method_2_code 16 = .ok (.areturn, 1) := by decide +kernel
theorem pnk1 : plainName "com/example/meshwatch/meshwatch/RelationSymbolPinLaw" = true := by first | (simp [plainName, overriddenIn]; done) | decide +kernel
theorem efk1 (m : MethodId)  : entryFrame m #[(.int (1 : Int32))] 1 = mkF m 0 #[.val (.int (1 : Int32))] [] := by first | (simp [entryFrame, mkF, argsToLocals, Value.category]; done) | rfl
def Qk1 (Z : State) (w_LESS_OR_EQUAL : Addr) (h0 : Heap) (n0 : Nat) (v : Option Value) (h : Heap) (L : List Loc) : Prop := v = some (.ref w_LESS_OR_EQUAL) ∧ Fr n0 L ∧ h = h0
set_option maxRecDepth 65536 in
set_option maxHeartbeats 40000000 in
theorem rmk1 (l : Launch) (Z : State) (ar : Array Value) (hw : ∀ d ∈ tables_1, d.before ar Z = true) (ws : List Jvm.Cond) (w_LESS_OR_EQUAL : Addr) (h0 : Heap) (n0 : Nat) (Z0 : n0 ≤ h0.size) (S_LESS_OR_EQUAL : Sta Z h0 "com/example/meshwatch/meshwatch/Relation" "LESS_OR_EQUAL" "Lcom/example/meshwatch/meshwatch/Relation;" (.ref w_LESS_OR_EQUAL)) :
    MetFree l (⟨"com/example/meshwatch/meshwatch/RelationSymbolPinLaw", "pick", "(I)Lcom/example/meshwatch/meshwatch/Relation;"⟩ : MethodName) (head1 (Jvm.Cond.code (⟨"com/example/meshwatch/meshwatch/RelationSymbolPinLaw", "pick", "(I)Lcom/example/meshwatch/meshwatch/Relation;"⟩ : MethodName) method_2_code 1 (some (.object "com/example/meshwatch/meshwatch/Relation")) :: ws) ({ frames := 0, cells := 0, slots := 0, locals := 0 } : Room)) (fun a U => a = #[(.int (1 : Int32))] ∧ Z.Warmed39 U.vm ∧ U.heap = h0) (fun _ _ _ _ _ => True) (fun _ U o U' => ∃ v L, o = .returned v ∧ Qk1 Z w_LESS_OR_EQUAL h0 n0 v U'.heap L ∧ FrameEnd U o U' L ({ frames := 0, cells := 0, slots := 0, locals := 0 } : Room).cells ({ frames := 0, cells := 0, slots := 0, locals := 0 } : Room).slots) := by
  refine MetFree.of_bodySF (plainFor_of_name pnk1) hisR ?_
  intro p e s m args below meth c s₁ Bd hml0 hP hK
  obtain ⟨rfl, hZ, hh⟩ := hP
  have hx := Bd.exec
  have hby := Bd.bytes
  have hlk := Bd.notSynchronized
  have hml : c.maxLocals = 1 := hml0
  have hown : s.vm.findClass "com/example/meshwatch/meshwatch/RelationSymbolPinLaw" = some m.cls := findClass_of_methodNamed Bd.named
  have hnm := (name_of_methodNamed Bd.named Bd.method).1
  have X0 : Stand p l e ({ frames := 0, cells := 0, slots := 0, locals := 0 } : Room) s m #[(.int (1 : Int32))] below meth c s₁ [] 0 0 := Stand.of_body Bd
  have e0 : s₁.heap = h0 := by rw [← hh, Bd.state]; rfl
  have N0 := Fr.nil n0
  have K0 := Keep.refl h0 []
  refine own_enter (Q := Qk1 Z w_LESS_OR_EQUAL h0 n0) (efk1 m ) ?_
  refine own_st (T' := s₁) (g' := (mkF m 13 #[.val (.int (1 : Int32))] [])) (fun t k => ?_) ?_
  · show Steps p.tables e below (s₁.setTop (mkF m 0 #[.val (.int (1 : Int32))] [])) t
    refine XS.iloadN X0.here hx rfl (hb hby d1_0) rfl ?_
    show Steps p.tables e below (s₁.setTop (mkF m 1 #[.val (.int (1 : Int32))] [(.int (1 : Int32))])) t
    refine XS.ifYes X0.here hx rfl (pc0 := 1) (pc' := 8) rfl (hb hby d1_1) rfl (by decide) (by decide) (by decide) ?_
    show Steps p.tables e below (s₁.setTop (mkF m 8 #[.val (.int (1 : Int32))] [])) t
    refine XS.iloadN X0.here hx rfl (hb hby d1_8) rfl ?_
    show Steps p.tables e below (s₁.setTop (mkF m 9 #[.val (.int (1 : Int32))] [(.int (1 : Int32))])) t
    refine XS.iconst X0.here hx rfl (hb hby d1_9) ?_
    show Steps p.tables e below (s₁.setTop (mkF m 10 #[.val (.int (1 : Int32))] [(.int (1 : Int32)), (.int (1 : Int32))])) t
    refine XS.icmpNo X0.here hx rfl (hb hby d1_10) rfl (by decide) ?_
    exact k
  obtain ⟨T1, X1, e1, st1⟩ := getS2 X0 hx hZ hown (host := "") (Or.inl (hw _ (List.mem_of_getElem? (i := 70) rfl))) Via.refl e0 S_LESS_OR_EQUAL (g := (mkF m 13 #[.val (.int (1 : Int32))] [])) rfl (hb hby d1_13)
  refine own_st (T' := T1) (g' := (mkF m 16 #[.val (.int (1 : Int32))] [(.ref w_LESS_OR_EQUAL)])) st1 ?_
  refine own_retA X1 hx hlk Bd.returns rfl rfl (hb hby d1_16) (by decide) (by decide) ?_
  show Qk1 Z w_LESS_OR_EQUAL h0 n0 (some (.ref w_LESS_OR_EQUAL)) T1.heap _
  rw [(e1 : T1.heap = h0)]
  exact ⟨rfl, N0, rfl⟩
theorem pno2 : plainName "java/lang/Enum" = true := by first | (simp [plainName, overriddenIn]; done) | decide +kernel
theorem efo2 (m : MethodId) (a0 : Addr) : entryFrame m #[(.ref a0)] 1 = mkF m 0 #[.val (.ref a0)] [] := by first | (simp [entryFrame, mkF, argsToLocals, Value.category]; done) | rfl
def Qo2 (Z : State) (a0 : Addr) (h0 : Heap) (n0 : Nat) (v : Option Value) (h : Heap) (L : List Loc) : Prop := v = some (.int (2 : Int32)) ∧ Fr n0 L ∧ h = h0
set_option maxRecDepth 65536 in
set_option maxHeartbeats 40000000 in
theorem rmo2 (l : Launch) (Z : State) (ar : Array Value) (hw : ∀ d ∈ tables_1, d.before ar Z = true) (ws : List Jvm.Cond) (a0 : Addr) (h0 : Heap) (n0 : Nat) (Z0 : n0 ≤ h0.size) (F_ordinal_a0 : Fld Z h0 a0 "java/lang/Enum" "ordinal" "I" (.int (2 : Int32))) :
    MetFree l (⟨"java/lang/Enum", "ordinal", "()I"⟩ : MethodName) (head1 (Jvm.Cond.code (⟨"java/lang/Enum", "ordinal", "()I"⟩ : MethodName) jdk_37_method_2_code 1 (some .int) :: ws) ({ frames := 0, cells := 0, slots := 0, locals := 0 } : Room)) (fun a U => a = #[(.ref a0)] ∧ Z.Warmed39 U.vm ∧ U.heap = h0) (fun _ _ _ _ _ => True) (fun _ U o U' => ∃ v L, o = .returned v ∧ Qo2 Z a0 h0 n0 v U'.heap L ∧ FrameEnd U o U' L ({ frames := 0, cells := 0, slots := 0, locals := 0 } : Room).cells ({ frames := 0, cells := 0, slots := 0, locals := 0 } : Room).slots) := by
  refine MetFree.of_bodySF (plainFor_of_name pno2) hisR ?_
  intro p e s m args below meth c s₁ Bd hml0 hP hK
  obtain ⟨rfl, hZ, hh⟩ := hP
  have hx := Bd.exec
  have hby := Bd.bytes
  have hlk := Bd.notSynchronized
  have hml : c.maxLocals = 1 := hml0
  have hown : s.vm.findClass "java/lang/Enum" = some m.cls := findClass_of_methodNamed Bd.named
  have hnm := (name_of_methodNamed Bd.named Bd.method).1
  have X0 : Stand p l e ({ frames := 0, cells := 0, slots := 0, locals := 0 } : Room) s m #[(.ref a0)] below meth c s₁ [] 0 0 := Stand.of_body Bd
  have e0 : s₁.heap = h0 := by rw [← hh, Bd.state]; rfl
  have N0 := Fr.nil n0
  have K0 := Keep.refl h0 []
  refine own_enter (Q := Qo2 Z a0 h0 n0) (efo2 m a0) ?_
  refine own_st (T' := s₁) (g' := (mkF m 1 #[.val (.ref a0)] [(.ref a0)])) (fun t k => ?_) ?_
  · show Steps p.tables e below (s₁.setTop (mkF m 0 #[.val (.ref a0)] [])) t
    refine XS.aloadN X0.here hx rfl (hb hby d3_0) rfl rfl ?_
    exact k
  obtain ⟨T1, X1, e1, st1⟩ := getF X0 hx hZ hown (host := "") (Or.inl (hw _ (List.mem_of_getElem? (i := 20) rfl))) Via.refl e0 F_ordinal_a0 (g := (mkF m 1 #[.val (.ref a0)] [(.ref a0)])) rfl rfl (hb hby d3_1)
  refine own_st (T' := T1) (g' := (mkF m 4 #[.val (.ref a0)] [(.int (2 : Int32))])) st1 ?_
  refine own_retI X1 hx hlk Bd.returns (hb hby d3_4) (by decide) (by decide) ?_
  show Qo2 Z a0 h0 n0 (some (.int (2 : Int32))) T1.heap _
  rw [(e1 : T1.heap = h0)]
  exact ⟨rfl, N0, rfl⟩
theorem d11_82 : decode prog_24_method_5_code 82 = .ok (.dload_n 1, 1) := by decide +kernel
theorem d11_83 : decode prog_24_method_5_code 83 = .ok (.dload_n 3, 1) := by decide +kernel
theorem d11_84 : decode prog_24_method_5_code 84 = .ok (.dcmp .l, 1) := by decide +kernel
theorem d11_85 : decode prog_24_method_5_code 85 = .ok (.ifCond .le 7, 3) := by decide +kernel
theorem d11_88 : decode prog_24_method_5_code 88 = .ok (.iconst 1, 1) := by decide +kernel
theorem d11_89 : decode prog_24_method_5_code 89 = .ok (.goto 46, 3) := by decide +kernel
theorem d11_92 : decode prog_24_method_5_code 92 = .ok (.iconst 0, 1) := by decide +kernel
theorem d11_93 : decode prog_24_method_5_code 93 = .ok (.goto 42, 3) := by decide +kernel
theorem pnh2 : plainName "com/example/meshwatch/meshwatch/Relation" = true := by first | (simp [plainName, overriddenIn]; done) | decide +kernel
theorem pdh2_0 : parseMethodDescriptor "()I" = some ⟨[], some .int⟩ := by decide +kernel
theorem efh2 (m : MethodId) (a0 : Addr) (d1 : UInt64) (d2 : UInt64) : entryFrame m #[(.ref a0), (.double d1), (.double d2)] 5 = mkF m 0 #[.val (.ref a0), .val (.double d1), .second, .val (.double d2), .second] [] := by first | (simp [entryFrame, mkF, argsToLocals, Value.category]; done) | rfl
def Qh2 (Z : State) (a0 : Addr) (d1 : UInt64) (d2 : UInt64) (h0 : Heap) (n0 : Nat) (v : Option Value) (h : Heap) (L : List Loc) : Prop := v = some (.int (own_h2 (FP.dcmp d1 d2))) ∧ Fr n0 L ∧ h = h0
set_option maxRecDepth 65536 in
set_option maxHeartbeats 40000000 in
theorem rmh2 (l : Launch) (Z : State) (ar : Array Value) (hw : ∀ d ∈ tables_1, d.before ar Z = true) (ws : List Jvm.Cond) (a0 : Addr) (d1 : UInt64) (d2 : UInt64) (h0 : Heap) (n0 : Nat) (Z0 : n0 ≤ h0.size) (E_a0 : Exa Z h0 a0 "com/example/meshwatch/meshwatch/Relation") (F_ordinal_a0 : Fld Z h0 a0 "java/lang/Enum" "ordinal" "I" (.int (2 : Int32))) :
    MetFree l (⟨"com/example/meshwatch/meshwatch/Relation", "holds", "(DD)Z"⟩ : MethodName) (head1 (Jvm.Cond.code (⟨"com/example/meshwatch/meshwatch/Relation", "holds", "(DD)Z"⟩ : MethodName) prog_24_method_5_code 5 (some .boolean) :: ws) ({ frames := 1, cells := 0, slots := 0, locals := 12 } : Room)) (fun a U => a = #[(.ref a0), (.double d1), (.double d2)] ∧ Z.Warmed39 U.vm ∧ U.heap = h0) (fun _ _ _ _ _ => True) (fun _ U o U' => ∃ v L, o = .returned v ∧ Qh2 Z a0 d1 d2 h0 n0 v U'.heap L ∧ FrameEnd U o U' L ({ frames := 1, cells := 0, slots := 0, locals := 12 } : Room).cells ({ frames := 1, cells := 0, slots := 0, locals := 12 } : Room).slots) := by
  refine MetFree.of_bodySF (plainFor_of_name pnh2) hisR ?_
  intro p e s m args below meth c s₁ Bd hml0 hP hK
  obtain ⟨rfl, hZ, hh⟩ := hP
  have hx := Bd.exec
  have hby := Bd.bytes
  have hlk := Bd.notSynchronized
  have hml : c.maxLocals = 5 := hml0
  have hown : s.vm.findClass "com/example/meshwatch/meshwatch/Relation" = some m.cls := findClass_of_methodNamed Bd.named
  have hnm := (name_of_methodNamed Bd.named Bd.method).1
  have X0 : Stand p l e ({ frames := 1, cells := 0, slots := 0, locals := 12 } : Room) s m #[(.ref a0), (.double d1), (.double d2)] below meth c s₁ [] 0 0 := Stand.of_body Bd
  have e0 : s₁.heap = h0 := by rw [← hh, Bd.state]; rfl
  have N0 := Fr.nil n0
  have K0 := Keep.refl h0 []
  refine own_enter (Q := Qh2 Z a0 d1 d2 h0 n0) (efh2 m a0 d1 d2) ?_
  refine own_st (T' := s₁) (g' := (mkF m 1 #[.val (.ref a0), .val (.double d1), .second, .val (.double d2), .second] [(.ref a0)])) (fun t k => ?_) ?_
  · show Steps p.tables e below (s₁.setTop (mkF m 0 #[.val (.ref a0), .val (.double d1), .second, .val (.double d2), .second] [])) t
    refine XS.aloadN X0.here hx rfl (hb hby d11_0) rfl rfl ?_
    exact k
  obtain ⟨cq1, kq1, qa1, qb1, qc1⟩ := isOf hZ e0 E_a0
  obtain ⟨_, _, ⟨T1, L1, k1, n1⟩, -, X1, ⟨Lc1, hQ1, l1, y1, z1⟩, st1⟩ := X0.virtualBackUp hx (owner := "java/lang/Enum") (x := (⟨"com/example/meshwatch/meshwatch/Relation", "ordinal", "()I"⟩ : MethodName)) (y := (⟨"java/lang/Enum", "ordinal", "()I"⟩ : MethodName)) hown (mvT hZ (hw _ (List.mem_of_getElem? (i := 13) rfl))) (mvT hZ (hw _ (List.mem_of_getElem? (i := 14) rfl))) (mvT hZ (hw _ (List.mem_of_getElem? (i := 15) rfl))) (by decide) (mvT hZ (hw _ (List.mem_of_getElem? (i := 17) rfl))) (mvT hZ (hw _ (List.mem_of_getElem? (i := 16) rfl))) (backOf (W := 0) (rmo2 l Z ar hw [] a0 h0 n0 Z0 F_ordinal_a0) hZ (hw _ (List.mem_of_getElem? (i := 19) rfl)) (hw _ (List.mem_of_getElem? (i := 18) rfl)) (by decide) (by decide)) qa1 qc1 (g := (mkF m 1 #[.val (.ref a0), .val (.double d1), .second, .val (.double d2), .second] [(.ref a0)])) rfl (by rw [hml]; rfl) (Steps.refl _) (argsL := []) (rest := []) (lenOf pdh2_0 rfl) rfl (by show 2 * 0 + _ ≤ _; exact Nat.le_of_eq rfl) (hb hby d11_1) (fun _ _ => ⟨rfl, e0, (by decide : 0 + 0 ≤ _), (by decide : 0 + 0 ≤ _)⟩)
  dsimp only [Pt.U, Pt.locs, Pt.cells, Pt.slots] at X1 l1 y1 z1 st1 hQ1
  subst l1 y1 z1
  obtain ⟨rfl, N1q, e1⟩ := hQ1
  have n2 := Fr.app N0 N1q
  refine own_tr (T' := T1) (g' := (mkF m 4 #[.val (.ref a0), .val (.double d1), .second, .val (.double d2), .second] [(.int (2 : Int32))])) st1 ?_
  refine own_st (T' := T1) (g' := (mkF m 85 #[.val (.ref a0), .val (.double d1), .second, .val (.double d2), .second] [(.int (cmpValue (FP.dcmp d1 d2) .l))])) (fun t k => ?_) ?_
  · show Steps p.tables e below (T1.setTop (mkF m 4 #[.val (.ref a0), .val (.double d1), .second, .val (.double d2), .second] [(.int (2 : Int32))])) t
    refine XS.tswIn X1.here hx rfl (pc0 := 4) (pc' := 82) rfl (hb hby d11_4) rfl (by decide) rfl (by decide) (by decide) ?_
    show Steps p.tables e below (T1.setTop (mkF m 82 #[.val (.ref a0), .val (.double d1), .second, .val (.double d2), .second] [])) t
    refine XS.dloadN X1.here hx rfl (hb hby d11_82) rfl ?_
    show Steps p.tables e below (T1.setTop (mkF m 83 #[.val (.ref a0), .val (.double d1), .second, .val (.double d2), .second] [(.double d1)])) t
    refine XS.dloadN X1.here hx rfl (hb hby d11_83) rfl ?_
    show Steps p.tables e below (T1.setTop (mkF m 84 #[.val (.ref a0), .val (.double d1), .second, .val (.double d2), .second] [(.double d2), (.double d1)])) t
    refine XS.dcmpS X1.here hx rfl (hb hby d11_84) rfl rfl ?_
    exact k
  by_cases hc85_3 : ifCond.holds .le (cmpValue (FP.dcmp d1 d2) .l) = true
  · refine own_st (T' := T1) (g' := (mkF m 135 #[.val (.ref a0), .val (.double d1), .second, .val (.double d2), .second] [(.int (0 : Int32))])) (fun t k => ?_) ?_
    · show Steps p.tables e below (T1.setTop (mkF m 85 #[.val (.ref a0), .val (.double d1), .second, .val (.double d2), .second] [(.int (cmpValue (FP.dcmp d1 d2) .l))])) t
      refine XS.ifYes X1.here hx rfl (pc0 := 85) (pc' := 92) rfl (hb hby d11_85) rfl hc85_3 (by decide) (by decide) ?_
      show Steps p.tables e below (T1.setTop (mkF m 92 #[.val (.ref a0), .val (.double d1), .second, .val (.double d2), .second] [])) t
      refine XS.iconst X1.here hx rfl (hb hby d11_92) ?_
      show Steps p.tables e below (T1.setTop (mkF m 93 #[.val (.ref a0), .val (.double d1), .second, .val (.double d2), .second] [(.int (0 : Int32))])) t
      refine XS.goto X1.here hx rfl (pc0 := 93) (pc' := 135) rfl (hb hby d11_93) (by decide) (by decide) ?_
      exact k
    refine own_retZ X1 hx hlk Bd.returns (hb hby d11_135) rfl (by decide) (by decide) ?_
    show Qh2 Z a0 d1 d2 h0 n0 (some (.int (0 : Int32))) T1.heap _
    rw [(e1 : T1.heap = h0)]
    exact ⟨congrArg (fun z => some (Value.int z)) (if_pos hc85_3).symm, n2, rfl⟩
  · refine own_st (T' := T1) (g' := (mkF m 135 #[.val (.ref a0), .val (.double d1), .second, .val (.double d2), .second] [(.int (1 : Int32))])) (fun t k => ?_) ?_
    · show Steps p.tables e below (T1.setTop (mkF m 85 #[.val (.ref a0), .val (.double d1), .second, .val (.double d2), .second] [(.int (cmpValue (FP.dcmp d1 d2) .l))])) t
      refine XS.ifNo X1.here hx rfl (hb hby d11_85) rfl (Bool.eq_false_iff.mpr hc85_3) ?_
      show Steps p.tables e below (T1.setTop (mkF m 88 #[.val (.ref a0), .val (.double d1), .second, .val (.double d2), .second] [])) t
      refine XS.iconst X1.here hx rfl (hb hby d11_88) ?_
      show Steps p.tables e below (T1.setTop (mkF m 89 #[.val (.ref a0), .val (.double d1), .second, .val (.double d2), .second] [(.int (1 : Int32))])) t
      refine XS.goto X1.here hx rfl (pc0 := 89) (pc' := 135) rfl (hb hby d11_89) (by decide) (by decide) ?_
      exact k
    refine own_retZ X1 hx hlk Bd.returns (hb hby d11_135) rfl (by decide) (by decide) ?_
    show Qh2 Z a0 d1 d2 h0 n0 (some (.int (1 : Int32))) T1.heap _
    rw [(e1 : T1.heap = h0)]
    exact ⟨congrArg (fun z => some (Value.int z)) (if_neg hc85_3).symm, n2, rfl⟩
theorem d2_64 : decode prog_24_method_4_code 64 = .ok (.ldc 54, 2) := by decide +kernel
theorem d2_66 : decode prog_24_method_4_code 66 = .ok (.goto 15, 3) := by decide +kernel
theorem pny2 : plainName "com/example/meshwatch/meshwatch/Relation" = true := by first | (simp [plainName, overriddenIn]; done) | decide +kernel
theorem pdy2_0 : parseMethodDescriptor "()I" = some ⟨[], some .int⟩ := by decide +kernel
theorem efy2 (m : MethodId) (a0 : Addr) : entryFrame m #[(.ref a0)] 1 = mkF m 0 #[.val (.ref a0)] [] := by first | (simp [entryFrame, mkF, argsToLocals, Value.category]; done) | rfl
def Qy2 (Z : State) (a0 : Addr) (h0 : Heap) (n0 : Nat) (v : Option Value) (h : Heap) (L : List Loc) : Prop := ∃ (x0 : Addr) (x1 : Addr) (kx : ClassId), v = some (.ref x0) ∧ Fr n0 L ∧ Keep h0 h [] ∧ Exa Z h x0 "java/lang/String" ∧ Fld Z h x0 "java/lang/String" "coder" "B" (.int (0 : Int32)) ∧ Fld Z h x0 "java/lang/String" "value" "[B" (.ref x1) ∧ Arv Z h x1 kx .byte (1 : Int32) [(.int (62 : Int32))] (.int (0 : Int32))
set_option maxRecDepth 65536 in
set_option maxHeartbeats 40000000 in
theorem rmy2 (l : Launch) (Z : State) (ar : Array Value) (hw : ∀ d ∈ tables_1, d.before ar Z = true) (ws : List Jvm.Cond) (a0 : Addr) (h0 : Heap) (n0 : Nat) (Z0 : n0 ≤ h0.size) (E_a0 : Exa Z h0 a0 "com/example/meshwatch/meshwatch/Relation") (F_ordinal_a0 : Fld Z h0 a0 "java/lang/Enum" "ordinal" "I" (.int (2 : Int32))) :
    MetFree l (⟨"com/example/meshwatch/meshwatch/Relation", "symbol", "()Ljava/lang/String;"⟩ : MethodName) (head1 (Jvm.Cond.code (⟨"com/example/meshwatch/meshwatch/Relation", "symbol", "()Ljava/lang/String;"⟩ : MethodName) prog_24_method_4_code 1 (some (.object "java/lang/String")) :: ws) ({ frames := 1, cells := 2, slots := 8, locals := 12 } : Room)) (fun a U => a = #[(.ref a0)] ∧ Z.Warmed39 U.vm ∧ U.heap = h0 ∧ CHv Z consts_1 U.vm h0) (fun _ _ _ _ _ => True) (fun _ U o U' => ∃ v L, o = .returned v ∧ Qy2 Z a0 h0 n0 v U'.heap L ∧ CHr Z consts_1 U.vm U.heap U'.vm U'.heap ∧ ReturnedEndW U o U' L ({ frames := 1, cells := 2, slots := 8, locals := 12 } : Room).cells ({ frames := 1, cells := 2, slots := 8, locals := 12 } : Room).slots) := by
  refine MetFree.of_bodySF (plainFor_of_name pny2) hisR ?_
  intro p e s m args below meth c s₁ Bd hml0 hP hK
  obtain ⟨rfl, hZ, hh, hI⟩ := hP
  have hx := Bd.exec
  have hby := Bd.bytes
  have hlk := Bd.notSynchronized
  have hml : c.maxLocals = 1 := hml0
  have hown : s.vm.findClass "com/example/meshwatch/meshwatch/Relation" = some m.cls := findClass_of_methodNamed Bd.named
  have hnm := (name_of_methodNamed Bd.named Bd.method).1
  have X0 : Stand p l e ({ frames := 1, cells := 2, slots := 8, locals := 12 } : Room) s m #[(.ref a0)] below meth c s₁ [] 0 0 := Stand.of_body Bd
  have e0 : s₁.heap = h0 := by rw [← hh, Bd.state]; rfl
  have N0 := Fr.nil n0
  have K0 := Keep.refl h0 []
  refine own_enterH (C := fun U' => CHr Z consts_1 s.vm s.heap U'.vm U'.heap) (Q := Qy2 Z a0 h0 n0) (efy2 m a0) ?_
  refine own_stH (T' := s₁) (g' := (mkF m 1 #[.val (.ref a0)] [(.ref a0)])) (fun t k => ?_) ?_
  · show Steps p.tables e below (s₁.setTop (mkF m 0 #[.val (.ref a0)] [])) t
    refine XS.aloadN X0.here hx rfl (hb hby d2_0) rfl rfl ?_
    exact k
  obtain ⟨cq1, kq1, qa1, qb1, qc1⟩ := isOf hZ e0 E_a0
  obtain ⟨_, _, ⟨T1, L1, k1, n1⟩, -, X1, ⟨Lc1, hQ1, l1, y1, z1⟩, st1⟩ := X0.virtualBackUp hx (owner := "java/lang/Enum") (x := (⟨"com/example/meshwatch/meshwatch/Relation", "ordinal", "()I"⟩ : MethodName)) (y := (⟨"java/lang/Enum", "ordinal", "()I"⟩ : MethodName)) hown (mvT hZ (hw _ (List.mem_of_getElem? (i := 13) rfl))) (mvT hZ (hw _ (List.mem_of_getElem? (i := 14) rfl))) (mvT hZ (hw _ (List.mem_of_getElem? (i := 15) rfl))) (by decide) (mvT hZ (hw _ (List.mem_of_getElem? (i := 17) rfl))) (mvT hZ (hw _ (List.mem_of_getElem? (i := 16) rfl))) (backOf (W := 0) (rmo2 l Z ar hw [] a0 h0 n0 Z0 F_ordinal_a0) hZ (hw _ (List.mem_of_getElem? (i := 19) rfl)) (hw _ (List.mem_of_getElem? (i := 18) rfl)) (by decide) (by decide)) qa1 qc1 (g := (mkF m 1 #[.val (.ref a0)] [(.ref a0)])) rfl (by rw [hml]; rfl) (Steps.refl _) (argsL := []) (rest := []) (lenOf pdy2_0 rfl) rfl (by show 2 * 0 + _ ≤ _; exact Nat.le_of_eq rfl) (hb hby d2_1) (fun _ _ => ⟨rfl, e0, (by decide : 0 + 0 ≤ _), (by decide : 0 + 0 ≤ _)⟩)
  dsimp only [Pt.U, Pt.locs, Pt.cells, Pt.slots] at X1 l1 y1 z1 st1 hQ1
  subst l1 y1 z1
  obtain ⟨rfl, N1q, e1⟩ := hQ1
  have n2 := Fr.app N0 N1q
  refine own_trH (T' := T1) (g' := (mkF m 4 #[.val (.ref a0)] [(.int (2 : Int32))])) st1 ?_
  refine own_stH (T' := T1) (g' := (mkF m 64 #[.val (.ref a0)] [])) (fun t k => ?_) ?_
  · show Steps p.tables e below (T1.setTop (mkF m 4 #[.val (.ref a0)] [(.int (2 : Int32))])) t
    refine XS.tswIn X1.here hx rfl (pc0 := 4) (pc' := 64) rfl (hb hby d2_4) rfl (by decide) rfl (by decide) (by decide) ?_
    exact k
  obtain ⟨x3, T3, h3, k3, y3, kk3, X3, e3, E3, hS3, hk3, -, -, B3, Fc3, Fv3, Av3, -, -, hC3, -, -, st3⟩ := ldcCH (s := s) (vm0 := s.vm) X1 hx hZ hown (hw _ (List.mem_of_getElem? (i := 75) rfl)) (own_sa hw) e1 (State.WarmedH.since (State.WarmedH.refl s) 0) (Nat.zero_le _) (own_ew hw) (by decide) hI (vs := [(.int (62 : Int32))]) (z := 1) ⟨by decide, rfl⟩ (by decide) (by decide) (g := (mkF m 64 #[.val (.ref a0)] [])) rfl (hb hby d2_64) (n := 4) (by decide) (by decide) (by decide) (by decide)
  have f4 := E_a0.ext E3
  have f5 := F_ordinal_a0.ext E3
  have z6 := Nat.le_trans Z0 E3.1
  have k7 := K0.ext E3
  refine own_stH (T' := T3) (g' := (mkF m 66 #[.val (.ref a0)] [(.ref x3)])) st3 ?_
  refine own_stH (T' := T3) (g' := (mkF m 81 #[.val (.ref a0)] [(.ref x3)])) (fun t k => ?_) ?_
  · show Steps p.tables e below (T3.setTop (mkF m 66 #[.val (.ref a0)] [(.ref x3)])) t
    refine XS.goto X3.here hx rfl (pc0 := 66) (pc' := 81) rfl (hb hby d2_66) (by decide) (by decide) ?_
    exact k
  refine own_retAH X3 hx hlk hS3 (by rw [(e3 : T3.heap = h3)]; exact hk3) (by rw [hh, (e3 : T3.heap = h3)]; exact hC3) Bd.returns rfl rfl (hb hby d2_81) (by decide) (by decide) ?_
  show Qy2 Z a0 h0 n0 (some (.ref x3)) T3.heap _
  rw [(e3 : T3.heap = h3)]
  exact ⟨x3, y3, kk3, rfl, n2, k7, B3, Fc3, Fv3, Av3⟩
theorem d1_17 : decode method_2_code 17 = .ok (.iload_n 0, 1) := by decide +kernel
theorem d1_18 : decode method_2_code 18 = .ok (.iconst 2, 1) := by decide +kernel
theorem d1_19 : decode method_2_code 19 = .ok (.if_icmp .ne 7, 3) := by decide +kernel
theorem d1_22 : decode method_2_code 22 = .ok (.getstatic 16, 3) := by decide +kernel
theorem d1_25 : decode method_2_code 25 = .ok (.areturn, 1) := by decide +kernel
theorem pnk2 : plainName "com/example/meshwatch/meshwatch/RelationSymbolPinLaw" = true := by first | (simp [plainName, overriddenIn]; done) | decide +kernel
theorem efk2 (m : MethodId)  : entryFrame m #[(.int (2 : Int32))] 1 = mkF m 0 #[.val (.int (2 : Int32))] [] := by first | (simp [entryFrame, mkF, argsToLocals, Value.category]; done) | rfl
def Qk2 (Z : State) (w_GREATER : Addr) (h0 : Heap) (n0 : Nat) (v : Option Value) (h : Heap) (L : List Loc) : Prop := v = some (.ref w_GREATER) ∧ Fr n0 L ∧ h = h0
set_option maxRecDepth 65536 in
set_option maxHeartbeats 40000000 in
theorem rmk2 (l : Launch) (Z : State) (ar : Array Value) (hw : ∀ d ∈ tables_1, d.before ar Z = true) (ws : List Jvm.Cond) (w_GREATER : Addr) (h0 : Heap) (n0 : Nat) (Z0 : n0 ≤ h0.size) (S_GREATER : Sta Z h0 "com/example/meshwatch/meshwatch/Relation" "GREATER" "Lcom/example/meshwatch/meshwatch/Relation;" (.ref w_GREATER)) :
    MetFree l (⟨"com/example/meshwatch/meshwatch/RelationSymbolPinLaw", "pick", "(I)Lcom/example/meshwatch/meshwatch/Relation;"⟩ : MethodName) (head1 (Jvm.Cond.code (⟨"com/example/meshwatch/meshwatch/RelationSymbolPinLaw", "pick", "(I)Lcom/example/meshwatch/meshwatch/Relation;"⟩ : MethodName) method_2_code 1 (some (.object "com/example/meshwatch/meshwatch/Relation")) :: ws) ({ frames := 0, cells := 0, slots := 0, locals := 0 } : Room)) (fun a U => a = #[(.int (2 : Int32))] ∧ Z.Warmed39 U.vm ∧ U.heap = h0) (fun _ _ _ _ _ => True) (fun _ U o U' => ∃ v L, o = .returned v ∧ Qk2 Z w_GREATER h0 n0 v U'.heap L ∧ FrameEnd U o U' L ({ frames := 0, cells := 0, slots := 0, locals := 0 } : Room).cells ({ frames := 0, cells := 0, slots := 0, locals := 0 } : Room).slots) := by
  refine MetFree.of_bodySF (plainFor_of_name pnk2) hisR ?_
  intro p e s m args below meth c s₁ Bd hml0 hP hK
  obtain ⟨rfl, hZ, hh⟩ := hP
  have hx := Bd.exec
  have hby := Bd.bytes
  have hlk := Bd.notSynchronized
  have hml : c.maxLocals = 1 := hml0
  have hown : s.vm.findClass "com/example/meshwatch/meshwatch/RelationSymbolPinLaw" = some m.cls := findClass_of_methodNamed Bd.named
  have hnm := (name_of_methodNamed Bd.named Bd.method).1
  have X0 : Stand p l e ({ frames := 0, cells := 0, slots := 0, locals := 0 } : Room) s m #[(.int (2 : Int32))] below meth c s₁ [] 0 0 := Stand.of_body Bd
  have e0 : s₁.heap = h0 := by rw [← hh, Bd.state]; rfl
  have N0 := Fr.nil n0
  have K0 := Keep.refl h0 []
  refine own_enter (Q := Qk2 Z w_GREATER h0 n0) (efk2 m ) ?_
  refine own_st (T' := s₁) (g' := (mkF m 22 #[.val (.int (2 : Int32))] [])) (fun t k => ?_) ?_
  · show Steps p.tables e below (s₁.setTop (mkF m 0 #[.val (.int (2 : Int32))] [])) t
    refine XS.iloadN X0.here hx rfl (hb hby d1_0) rfl ?_
    show Steps p.tables e below (s₁.setTop (mkF m 1 #[.val (.int (2 : Int32))] [(.int (2 : Int32))])) t
    refine XS.ifYes X0.here hx rfl (pc0 := 1) (pc' := 8) rfl (hb hby d1_1) rfl (by decide) (by decide) (by decide) ?_
    show Steps p.tables e below (s₁.setTop (mkF m 8 #[.val (.int (2 : Int32))] [])) t
    refine XS.iloadN X0.here hx rfl (hb hby d1_8) rfl ?_
    show Steps p.tables e below (s₁.setTop (mkF m 9 #[.val (.int (2 : Int32))] [(.int (2 : Int32))])) t
    refine XS.iconst X0.here hx rfl (hb hby d1_9) ?_
    show Steps p.tables e below (s₁.setTop (mkF m 10 #[.val (.int (2 : Int32))] [(.int (1 : Int32)), (.int (2 : Int32))])) t
    refine XS.icmpYes X0.here hx rfl (pc0 := 10) (pc' := 17) rfl (hb hby d1_10) rfl (by decide) (by decide) (by decide) ?_
    show Steps p.tables e below (s₁.setTop (mkF m 17 #[.val (.int (2 : Int32))] [])) t
    refine XS.iloadN X0.here hx rfl (hb hby d1_17) rfl ?_
    show Steps p.tables e below (s₁.setTop (mkF m 18 #[.val (.int (2 : Int32))] [(.int (2 : Int32))])) t
    refine XS.iconst X0.here hx rfl (hb hby d1_18) ?_
    show Steps p.tables e below (s₁.setTop (mkF m 19 #[.val (.int (2 : Int32))] [(.int (2 : Int32)), (.int (2 : Int32))])) t
    refine XS.icmpNo X0.here hx rfl (hb hby d1_19) rfl (by decide) ?_
    exact k
  obtain ⟨T1, X1, e1, st1⟩ := getS2 X0 hx hZ hown (host := "") (Or.inl (hw _ (List.mem_of_getElem? (i := 73) rfl))) Via.refl e0 S_GREATER (g := (mkF m 22 #[.val (.int (2 : Int32))] [])) rfl (hb hby d1_22)
  refine own_st (T' := T1) (g' := (mkF m 25 #[.val (.int (2 : Int32))] [(.ref w_GREATER)])) st1 ?_
  refine own_retA X1 hx hlk Bd.returns rfl rfl (hb hby d1_25) (by decide) (by decide) ?_
  show Qk2 Z w_GREATER h0 n0 (some (.ref w_GREATER)) T1.heap _
  rw [(e1 : T1.heap = h0)]
  exact ⟨rfl, N0, rfl⟩
theorem pno3 : plainName "java/lang/Enum" = true := by first | (simp [plainName, overriddenIn]; done) | decide +kernel
theorem efo3 (m : MethodId) (a0 : Addr) : entryFrame m #[(.ref a0)] 1 = mkF m 0 #[.val (.ref a0)] [] := by first | (simp [entryFrame, mkF, argsToLocals, Value.category]; done) | rfl
def Qo3 (Z : State) (a0 : Addr) (h0 : Heap) (n0 : Nat) (v : Option Value) (h : Heap) (L : List Loc) : Prop := v = some (.int (3 : Int32)) ∧ Fr n0 L ∧ h = h0
set_option maxRecDepth 65536 in
set_option maxHeartbeats 40000000 in
theorem rmo3 (l : Launch) (Z : State) (ar : Array Value) (hw : ∀ d ∈ tables_1, d.before ar Z = true) (ws : List Jvm.Cond) (a0 : Addr) (h0 : Heap) (n0 : Nat) (Z0 : n0 ≤ h0.size) (F_ordinal_a0 : Fld Z h0 a0 "java/lang/Enum" "ordinal" "I" (.int (3 : Int32))) :
    MetFree l (⟨"java/lang/Enum", "ordinal", "()I"⟩ : MethodName) (head1 (Jvm.Cond.code (⟨"java/lang/Enum", "ordinal", "()I"⟩ : MethodName) jdk_37_method_2_code 1 (some .int) :: ws) ({ frames := 0, cells := 0, slots := 0, locals := 0 } : Room)) (fun a U => a = #[(.ref a0)] ∧ Z.Warmed39 U.vm ∧ U.heap = h0) (fun _ _ _ _ _ => True) (fun _ U o U' => ∃ v L, o = .returned v ∧ Qo3 Z a0 h0 n0 v U'.heap L ∧ FrameEnd U o U' L ({ frames := 0, cells := 0, slots := 0, locals := 0 } : Room).cells ({ frames := 0, cells := 0, slots := 0, locals := 0 } : Room).slots) := by
  refine MetFree.of_bodySF (plainFor_of_name pno3) hisR ?_
  intro p e s m args below meth c s₁ Bd hml0 hP hK
  obtain ⟨rfl, hZ, hh⟩ := hP
  have hx := Bd.exec
  have hby := Bd.bytes
  have hlk := Bd.notSynchronized
  have hml : c.maxLocals = 1 := hml0
  have hown : s.vm.findClass "java/lang/Enum" = some m.cls := findClass_of_methodNamed Bd.named
  have hnm := (name_of_methodNamed Bd.named Bd.method).1
  have X0 : Stand p l e ({ frames := 0, cells := 0, slots := 0, locals := 0 } : Room) s m #[(.ref a0)] below meth c s₁ [] 0 0 := Stand.of_body Bd
  have e0 : s₁.heap = h0 := by rw [← hh, Bd.state]; rfl
  have N0 := Fr.nil n0
  have K0 := Keep.refl h0 []
  refine own_enter (Q := Qo3 Z a0 h0 n0) (efo3 m a0) ?_
  refine own_st (T' := s₁) (g' := (mkF m 1 #[.val (.ref a0)] [(.ref a0)])) (fun t k => ?_) ?_
  · show Steps p.tables e below (s₁.setTop (mkF m 0 #[.val (.ref a0)] [])) t
    refine XS.aloadN X0.here hx rfl (hb hby d3_0) rfl rfl ?_
    exact k
  obtain ⟨T1, X1, e1, st1⟩ := getF X0 hx hZ hown (host := "") (Or.inl (hw _ (List.mem_of_getElem? (i := 20) rfl))) Via.refl e0 F_ordinal_a0 (g := (mkF m 1 #[.val (.ref a0)] [(.ref a0)])) rfl rfl (hb hby d3_1)
  refine own_st (T' := T1) (g' := (mkF m 4 #[.val (.ref a0)] [(.int (3 : Int32))])) st1 ?_
  refine own_retI X1 hx hlk Bd.returns (hb hby d3_4) (by decide) (by decide) ?_
  show Qo3 Z a0 h0 n0 (some (.int (3 : Int32))) T1.heap _
  rw [(e1 : T1.heap = h0)]
  exact ⟨rfl, N0, rfl⟩
theorem d11_96 : decode prog_24_method_5_code 96 = .ok (.dload_n 1, 1) := by decide +kernel
theorem d11_97 : decode prog_24_method_5_code 97 = .ok (.dload_n 3, 1) := by decide +kernel
theorem d11_98 : decode prog_24_method_5_code 98 = .ok (.dcmp .l, 1) := by decide +kernel
theorem d11_99 : decode prog_24_method_5_code 99 = .ok (.ifCond .lt 7, 3) := by decide +kernel
theorem d11_102 : decode prog_24_method_5_code 102 = .ok (.iconst 1, 1) := by decide +kernel
theorem d11_103 : decode prog_24_method_5_code 103 = .ok (.goto 32, 3) := by decide +kernel
theorem d11_106 : decode prog_24_method_5_code 106 = .ok (.iconst 0, 1) := by decide +kernel
theorem d11_107 : decode prog_24_method_5_code 107 = .ok (.goto 28, 3) := by decide +kernel
theorem pnh3 : plainName "com/example/meshwatch/meshwatch/Relation" = true := by first | (simp [plainName, overriddenIn]; done) | decide +kernel
theorem pdh3_0 : parseMethodDescriptor "()I" = some ⟨[], some .int⟩ := by decide +kernel
theorem efh3 (m : MethodId) (a0 : Addr) (d1 : UInt64) (d2 : UInt64) : entryFrame m #[(.ref a0), (.double d1), (.double d2)] 5 = mkF m 0 #[.val (.ref a0), .val (.double d1), .second, .val (.double d2), .second] [] := by first | (simp [entryFrame, mkF, argsToLocals, Value.category]; done) | rfl
def Qh3 (Z : State) (a0 : Addr) (d1 : UInt64) (d2 : UInt64) (h0 : Heap) (n0 : Nat) (v : Option Value) (h : Heap) (L : List Loc) : Prop := v = some (.int (own_h3 (FP.dcmp d1 d2))) ∧ Fr n0 L ∧ h = h0
set_option maxRecDepth 65536 in
set_option maxHeartbeats 40000000 in
theorem rmh3 (l : Launch) (Z : State) (ar : Array Value) (hw : ∀ d ∈ tables_1, d.before ar Z = true) (ws : List Jvm.Cond) (a0 : Addr) (d1 : UInt64) (d2 : UInt64) (h0 : Heap) (n0 : Nat) (Z0 : n0 ≤ h0.size) (E_a0 : Exa Z h0 a0 "com/example/meshwatch/meshwatch/Relation") (F_ordinal_a0 : Fld Z h0 a0 "java/lang/Enum" "ordinal" "I" (.int (3 : Int32))) :
    MetFree l (⟨"com/example/meshwatch/meshwatch/Relation", "holds", "(DD)Z"⟩ : MethodName) (head1 (Jvm.Cond.code (⟨"com/example/meshwatch/meshwatch/Relation", "holds", "(DD)Z"⟩ : MethodName) prog_24_method_5_code 5 (some .boolean) :: ws) ({ frames := 1, cells := 0, slots := 0, locals := 12 } : Room)) (fun a U => a = #[(.ref a0), (.double d1), (.double d2)] ∧ Z.Warmed39 U.vm ∧ U.heap = h0) (fun _ _ _ _ _ => True) (fun _ U o U' => ∃ v L, o = .returned v ∧ Qh3 Z a0 d1 d2 h0 n0 v U'.heap L ∧ FrameEnd U o U' L ({ frames := 1, cells := 0, slots := 0, locals := 12 } : Room).cells ({ frames := 1, cells := 0, slots := 0, locals := 12 } : Room).slots) := by
  refine MetFree.of_bodySF (plainFor_of_name pnh3) hisR ?_
  intro p e s m args below meth c s₁ Bd hml0 hP hK
  obtain ⟨rfl, hZ, hh⟩ := hP
  have hx := Bd.exec
  have hby := Bd.bytes
  have hlk := Bd.notSynchronized
  have hml : c.maxLocals = 5 := hml0
  have hown : s.vm.findClass "com/example/meshwatch/meshwatch/Relation" = some m.cls := findClass_of_methodNamed Bd.named
  have hnm := (name_of_methodNamed Bd.named Bd.method).1
  have X0 : Stand p l e ({ frames := 1, cells := 0, slots := 0, locals := 12 } : Room) s m #[(.ref a0), (.double d1), (.double d2)] below meth c s₁ [] 0 0 := Stand.of_body Bd
  have e0 : s₁.heap = h0 := by rw [← hh, Bd.state]; rfl
  have N0 := Fr.nil n0
  have K0 := Keep.refl h0 []
  refine own_enter (Q := Qh3 Z a0 d1 d2 h0 n0) (efh3 m a0 d1 d2) ?_
  refine own_st (T' := s₁) (g' := (mkF m 1 #[.val (.ref a0), .val (.double d1), .second, .val (.double d2), .second] [(.ref a0)])) (fun t k => ?_) ?_
  · show Steps p.tables e below (s₁.setTop (mkF m 0 #[.val (.ref a0), .val (.double d1), .second, .val (.double d2), .second] [])) t
    refine XS.aloadN X0.here hx rfl (hb hby d11_0) rfl rfl ?_
    exact k
  obtain ⟨cq1, kq1, qa1, qb1, qc1⟩ := isOf hZ e0 E_a0
  obtain ⟨_, _, ⟨T1, L1, k1, n1⟩, -, X1, ⟨Lc1, hQ1, l1, y1, z1⟩, st1⟩ := X0.virtualBackUp hx (owner := "java/lang/Enum") (x := (⟨"com/example/meshwatch/meshwatch/Relation", "ordinal", "()I"⟩ : MethodName)) (y := (⟨"java/lang/Enum", "ordinal", "()I"⟩ : MethodName)) hown (mvT hZ (hw _ (List.mem_of_getElem? (i := 13) rfl))) (mvT hZ (hw _ (List.mem_of_getElem? (i := 14) rfl))) (mvT hZ (hw _ (List.mem_of_getElem? (i := 15) rfl))) (by decide) (mvT hZ (hw _ (List.mem_of_getElem? (i := 17) rfl))) (mvT hZ (hw _ (List.mem_of_getElem? (i := 16) rfl))) (backOf (W := 0) (rmo3 l Z ar hw [] a0 h0 n0 Z0 F_ordinal_a0) hZ (hw _ (List.mem_of_getElem? (i := 19) rfl)) (hw _ (List.mem_of_getElem? (i := 18) rfl)) (by decide) (by decide)) qa1 qc1 (g := (mkF m 1 #[.val (.ref a0), .val (.double d1), .second, .val (.double d2), .second] [(.ref a0)])) rfl (by rw [hml]; rfl) (Steps.refl _) (argsL := []) (rest := []) (lenOf pdh3_0 rfl) rfl (by show 2 * 0 + _ ≤ _; exact Nat.le_of_eq rfl) (hb hby d11_1) (fun _ _ => ⟨rfl, e0, (by decide : 0 + 0 ≤ _), (by decide : 0 + 0 ≤ _)⟩)
  dsimp only [Pt.U, Pt.locs, Pt.cells, Pt.slots] at X1 l1 y1 z1 st1 hQ1
  subst l1 y1 z1
  obtain ⟨rfl, N1q, e1⟩ := hQ1
  have n2 := Fr.app N0 N1q
  refine own_tr (T' := T1) (g' := (mkF m 4 #[.val (.ref a0), .val (.double d1), .second, .val (.double d2), .second] [(.int (3 : Int32))])) st1 ?_
  refine own_st (T' := T1) (g' := (mkF m 99 #[.val (.ref a0), .val (.double d1), .second, .val (.double d2), .second] [(.int (cmpValue (FP.dcmp d1 d2) .l))])) (fun t k => ?_) ?_
  · show Steps p.tables e below (T1.setTop (mkF m 4 #[.val (.ref a0), .val (.double d1), .second, .val (.double d2), .second] [(.int (3 : Int32))])) t
    refine XS.tswIn X1.here hx rfl (pc0 := 4) (pc' := 96) rfl (hb hby d11_4) rfl (by decide) rfl (by decide) (by decide) ?_
    show Steps p.tables e below (T1.setTop (mkF m 96 #[.val (.ref a0), .val (.double d1), .second, .val (.double d2), .second] [])) t
    refine XS.dloadN X1.here hx rfl (hb hby d11_96) rfl ?_
    show Steps p.tables e below (T1.setTop (mkF m 97 #[.val (.ref a0), .val (.double d1), .second, .val (.double d2), .second] [(.double d1)])) t
    refine XS.dloadN X1.here hx rfl (hb hby d11_97) rfl ?_
    show Steps p.tables e below (T1.setTop (mkF m 98 #[.val (.ref a0), .val (.double d1), .second, .val (.double d2), .second] [(.double d2), (.double d1)])) t
    refine XS.dcmpS X1.here hx rfl (hb hby d11_98) rfl rfl ?_
    exact k
  by_cases hc99_3 : ifCond.holds .lt (cmpValue (FP.dcmp d1 d2) .l) = true
  · refine own_st (T' := T1) (g' := (mkF m 135 #[.val (.ref a0), .val (.double d1), .second, .val (.double d2), .second] [(.int (0 : Int32))])) (fun t k => ?_) ?_
    · show Steps p.tables e below (T1.setTop (mkF m 99 #[.val (.ref a0), .val (.double d1), .second, .val (.double d2), .second] [(.int (cmpValue (FP.dcmp d1 d2) .l))])) t
      refine XS.ifYes X1.here hx rfl (pc0 := 99) (pc' := 106) rfl (hb hby d11_99) rfl hc99_3 (by decide) (by decide) ?_
      show Steps p.tables e below (T1.setTop (mkF m 106 #[.val (.ref a0), .val (.double d1), .second, .val (.double d2), .second] [])) t
      refine XS.iconst X1.here hx rfl (hb hby d11_106) ?_
      show Steps p.tables e below (T1.setTop (mkF m 107 #[.val (.ref a0), .val (.double d1), .second, .val (.double d2), .second] [(.int (0 : Int32))])) t
      refine XS.goto X1.here hx rfl (pc0 := 107) (pc' := 135) rfl (hb hby d11_107) (by decide) (by decide) ?_
      exact k
    refine own_retZ X1 hx hlk Bd.returns (hb hby d11_135) rfl (by decide) (by decide) ?_
    show Qh3 Z a0 d1 d2 h0 n0 (some (.int (0 : Int32))) T1.heap _
    rw [(e1 : T1.heap = h0)]
    exact ⟨congrArg (fun z => some (Value.int z)) (if_pos hc99_3).symm, n2, rfl⟩
  · refine own_st (T' := T1) (g' := (mkF m 135 #[.val (.ref a0), .val (.double d1), .second, .val (.double d2), .second] [(.int (1 : Int32))])) (fun t k => ?_) ?_
    · show Steps p.tables e below (T1.setTop (mkF m 99 #[.val (.ref a0), .val (.double d1), .second, .val (.double d2), .second] [(.int (cmpValue (FP.dcmp d1 d2) .l))])) t
      refine XS.ifNo X1.here hx rfl (hb hby d11_99) rfl (Bool.eq_false_iff.mpr hc99_3) ?_
      show Steps p.tables e below (T1.setTop (mkF m 102 #[.val (.ref a0), .val (.double d1), .second, .val (.double d2), .second] [])) t
      refine XS.iconst X1.here hx rfl (hb hby d11_102) ?_
      show Steps p.tables e below (T1.setTop (mkF m 103 #[.val (.ref a0), .val (.double d1), .second, .val (.double d2), .second] [(.int (1 : Int32))])) t
      refine XS.goto X1.here hx rfl (pc0 := 103) (pc' := 135) rfl (hb hby d11_103) (by decide) (by decide) ?_
      exact k
    refine own_retZ X1 hx hlk Bd.returns (hb hby d11_135) rfl (by decide) (by decide) ?_
    show Qh3 Z a0 d1 d2 h0 n0 (some (.int (1 : Int32))) T1.heap _
    rw [(e1 : T1.heap = h0)]
    exact ⟨congrArg (fun z => some (Value.int z)) (if_neg hc99_3).symm, n2, rfl⟩
theorem d2_69 : decode prog_24_method_4_code 69 = .ok (.ldc 56, 2) := by decide +kernel
theorem d2_71 : decode prog_24_method_4_code 71 = .ok (.goto 10, 3) := by decide +kernel
theorem pny3 : plainName "com/example/meshwatch/meshwatch/Relation" = true := by first | (simp [plainName, overriddenIn]; done) | decide +kernel
theorem pdy3_0 : parseMethodDescriptor "()I" = some ⟨[], some .int⟩ := by decide +kernel
theorem efy3 (m : MethodId) (a0 : Addr) : entryFrame m #[(.ref a0)] 1 = mkF m 0 #[.val (.ref a0)] [] := by first | (simp [entryFrame, mkF, argsToLocals, Value.category]; done) | rfl
def Qy3 (Z : State) (a0 : Addr) (h0 : Heap) (n0 : Nat) (v : Option Value) (h : Heap) (L : List Loc) : Prop := ∃ (x0 : Addr) (x1 : Addr) (kx : ClassId), v = some (.ref x0) ∧ Fr n0 L ∧ Keep h0 h [] ∧ Exa Z h x0 "java/lang/String" ∧ Fld Z h x0 "java/lang/String" "coder" "B" (.int (0 : Int32)) ∧ Fld Z h x0 "java/lang/String" "value" "[B" (.ref x1) ∧ Arv Z h x1 kx .byte (2 : Int32) [(.int (62 : Int32)), (.int (61 : Int32))] (.int (0 : Int32))
set_option maxRecDepth 65536 in
set_option maxHeartbeats 40000000 in
theorem rmy3 (l : Launch) (Z : State) (ar : Array Value) (hw : ∀ d ∈ tables_1, d.before ar Z = true) (ws : List Jvm.Cond) (a0 : Addr) (h0 : Heap) (n0 : Nat) (Z0 : n0 ≤ h0.size) (E_a0 : Exa Z h0 a0 "com/example/meshwatch/meshwatch/Relation") (F_ordinal_a0 : Fld Z h0 a0 "java/lang/Enum" "ordinal" "I" (.int (3 : Int32))) :
    MetFree l (⟨"com/example/meshwatch/meshwatch/Relation", "symbol", "()Ljava/lang/String;"⟩ : MethodName) (head1 (Jvm.Cond.code (⟨"com/example/meshwatch/meshwatch/Relation", "symbol", "()Ljava/lang/String;"⟩ : MethodName) prog_24_method_4_code 1 (some (.object "java/lang/String")) :: ws) ({ frames := 1, cells := 2, slots := 12, locals := 12 } : Room)) (fun a U => a = #[(.ref a0)] ∧ Z.Warmed39 U.vm ∧ U.heap = h0 ∧ CHv Z consts_1 U.vm h0) (fun _ _ _ _ _ => True) (fun _ U o U' => ∃ v L, o = .returned v ∧ Qy3 Z a0 h0 n0 v U'.heap L ∧ CHr Z consts_1 U.vm U.heap U'.vm U'.heap ∧ ReturnedEndW U o U' L ({ frames := 1, cells := 2, slots := 12, locals := 12 } : Room).cells ({ frames := 1, cells := 2, slots := 12, locals := 12 } : Room).slots) := by
  refine MetFree.of_bodySF (plainFor_of_name pny3) hisR ?_
  intro p e s m args below meth c s₁ Bd hml0 hP hK
  obtain ⟨rfl, hZ, hh, hI⟩ := hP
  have hx := Bd.exec
  have hby := Bd.bytes
  have hlk := Bd.notSynchronized
  have hml : c.maxLocals = 1 := hml0
  have hown : s.vm.findClass "com/example/meshwatch/meshwatch/Relation" = some m.cls := findClass_of_methodNamed Bd.named
  have hnm := (name_of_methodNamed Bd.named Bd.method).1
  have X0 : Stand p l e ({ frames := 1, cells := 2, slots := 12, locals := 12 } : Room) s m #[(.ref a0)] below meth c s₁ [] 0 0 := Stand.of_body Bd
  have e0 : s₁.heap = h0 := by rw [← hh, Bd.state]; rfl
  have N0 := Fr.nil n0
  have K0 := Keep.refl h0 []
  refine own_enterH (C := fun U' => CHr Z consts_1 s.vm s.heap U'.vm U'.heap) (Q := Qy3 Z a0 h0 n0) (efy3 m a0) ?_
  refine own_stH (T' := s₁) (g' := (mkF m 1 #[.val (.ref a0)] [(.ref a0)])) (fun t k => ?_) ?_
  · show Steps p.tables e below (s₁.setTop (mkF m 0 #[.val (.ref a0)] [])) t
    refine XS.aloadN X0.here hx rfl (hb hby d2_0) rfl rfl ?_
    exact k
  obtain ⟨cq1, kq1, qa1, qb1, qc1⟩ := isOf hZ e0 E_a0
  obtain ⟨_, _, ⟨T1, L1, k1, n1⟩, -, X1, ⟨Lc1, hQ1, l1, y1, z1⟩, st1⟩ := X0.virtualBackUp hx (owner := "java/lang/Enum") (x := (⟨"com/example/meshwatch/meshwatch/Relation", "ordinal", "()I"⟩ : MethodName)) (y := (⟨"java/lang/Enum", "ordinal", "()I"⟩ : MethodName)) hown (mvT hZ (hw _ (List.mem_of_getElem? (i := 13) rfl))) (mvT hZ (hw _ (List.mem_of_getElem? (i := 14) rfl))) (mvT hZ (hw _ (List.mem_of_getElem? (i := 15) rfl))) (by decide) (mvT hZ (hw _ (List.mem_of_getElem? (i := 17) rfl))) (mvT hZ (hw _ (List.mem_of_getElem? (i := 16) rfl))) (backOf (W := 0) (rmo3 l Z ar hw [] a0 h0 n0 Z0 F_ordinal_a0) hZ (hw _ (List.mem_of_getElem? (i := 19) rfl)) (hw _ (List.mem_of_getElem? (i := 18) rfl)) (by decide) (by decide)) qa1 qc1 (g := (mkF m 1 #[.val (.ref a0)] [(.ref a0)])) rfl (by rw [hml]; rfl) (Steps.refl _) (argsL := []) (rest := []) (lenOf pdy3_0 rfl) rfl (by show 2 * 0 + _ ≤ _; exact Nat.le_of_eq rfl) (hb hby d2_1) (fun _ _ => ⟨rfl, e0, (by decide : 0 + 0 ≤ _), (by decide : 0 + 0 ≤ _)⟩)
  dsimp only [Pt.U, Pt.locs, Pt.cells, Pt.slots] at X1 l1 y1 z1 st1 hQ1
  subst l1 y1 z1
  obtain ⟨rfl, N1q, e1⟩ := hQ1
  have n2 := Fr.app N0 N1q
  refine own_trH (T' := T1) (g' := (mkF m 4 #[.val (.ref a0)] [(.int (3 : Int32))])) st1 ?_
  refine own_stH (T' := T1) (g' := (mkF m 69 #[.val (.ref a0)] [])) (fun t k => ?_) ?_
  · show Steps p.tables e below (T1.setTop (mkF m 4 #[.val (.ref a0)] [(.int (3 : Int32))])) t
    refine XS.tswIn X1.here hx rfl (pc0 := 4) (pc' := 69) rfl (hb hby d2_4) rfl (by decide) rfl (by decide) (by decide) ?_
    exact k
  obtain ⟨x3, T3, h3, k3, y3, kk3, X3, e3, E3, hS3, hk3, -, -, B3, Fc3, Fv3, Av3, -, -, hC3, -, -, st3⟩ := ldcCH (s := s) (vm0 := s.vm) X1 hx hZ hown (hw _ (List.mem_of_getElem? (i := 81) rfl)) (own_sa hw) e1 (State.WarmedH.since (State.WarmedH.refl s) 0) (Nat.zero_le _) (own_ew hw) (by decide) hI (vs := [(.int (62 : Int32)), (.int (61 : Int32))]) (z := 2) ⟨by decide, rfl⟩ (by decide) (by decide) (g := (mkF m 69 #[.val (.ref a0)] [])) rfl (hb hby d2_69) (n := 8) (by decide) (by decide) (by decide) (by decide)
  have f4 := E_a0.ext E3
  have f5 := F_ordinal_a0.ext E3
  have z6 := Nat.le_trans Z0 E3.1
  have k7 := K0.ext E3
  refine own_stH (T' := T3) (g' := (mkF m 71 #[.val (.ref a0)] [(.ref x3)])) st3 ?_
  refine own_stH (T' := T3) (g' := (mkF m 81 #[.val (.ref a0)] [(.ref x3)])) (fun t k => ?_) ?_
  · show Steps p.tables e below (T3.setTop (mkF m 71 #[.val (.ref a0)] [(.ref x3)])) t
    refine XS.goto X3.here hx rfl (pc0 := 71) (pc' := 81) rfl (hb hby d2_71) (by decide) (by decide) ?_
    exact k
  refine own_retAH X3 hx hlk hS3 (by rw [(e3 : T3.heap = h3)]; exact hk3) (by rw [hh, (e3 : T3.heap = h3)]; exact hC3) Bd.returns rfl rfl (hb hby d2_81) (by decide) (by decide) ?_
  show Qy3 Z a0 h0 n0 (some (.ref x3)) T3.heap _
  rw [(e3 : T3.heap = h3)]
  exact ⟨x3, y3, kk3, rfl, n2, k7, B3, Fc3, Fv3, Av3⟩
theorem d1_26 : decode method_2_code 26 = .ok (.iload_n 0, 1) := by decide +kernel
theorem d1_27 : decode method_2_code 27 = .ok (.iconst 3, 1) := by decide +kernel
theorem d1_28 : decode method_2_code 28 = .ok (.if_icmp .ne 7, 3) := by decide +kernel
theorem d1_31 : decode method_2_code 31 = .ok (.getstatic 19, 3) := by decide +kernel
theorem d1_34 : decode method_2_code 34 = .ok (.areturn, 1) := by decide +kernel
theorem pnk3 : plainName "com/example/meshwatch/meshwatch/RelationSymbolPinLaw" = true := by first | (simp [plainName, overriddenIn]; done) | decide +kernel
theorem efk3 (m : MethodId)  : entryFrame m #[(.int (3 : Int32))] 1 = mkF m 0 #[.val (.int (3 : Int32))] [] := by first | (simp [entryFrame, mkF, argsToLocals, Value.category]; done) | rfl
def Qk3 (Z : State) (w_GREATER_OR_EQUAL : Addr) (h0 : Heap) (n0 : Nat) (v : Option Value) (h : Heap) (L : List Loc) : Prop := v = some (.ref w_GREATER_OR_EQUAL) ∧ Fr n0 L ∧ h = h0
set_option maxRecDepth 65536 in
set_option maxHeartbeats 40000000 in
theorem rmk3 (l : Launch) (Z : State) (ar : Array Value) (hw : ∀ d ∈ tables_1, d.before ar Z = true) (ws : List Jvm.Cond) (w_GREATER_OR_EQUAL : Addr) (h0 : Heap) (n0 : Nat) (Z0 : n0 ≤ h0.size) (S_GREATER_OR_EQUAL : Sta Z h0 "com/example/meshwatch/meshwatch/Relation" "GREATER_OR_EQUAL" "Lcom/example/meshwatch/meshwatch/Relation;" (.ref w_GREATER_OR_EQUAL)) :
    MetFree l (⟨"com/example/meshwatch/meshwatch/RelationSymbolPinLaw", "pick", "(I)Lcom/example/meshwatch/meshwatch/Relation;"⟩ : MethodName) (head1 (Jvm.Cond.code (⟨"com/example/meshwatch/meshwatch/RelationSymbolPinLaw", "pick", "(I)Lcom/example/meshwatch/meshwatch/Relation;"⟩ : MethodName) method_2_code 1 (some (.object "com/example/meshwatch/meshwatch/Relation")) :: ws) ({ frames := 0, cells := 0, slots := 0, locals := 0 } : Room)) (fun a U => a = #[(.int (3 : Int32))] ∧ Z.Warmed39 U.vm ∧ U.heap = h0) (fun _ _ _ _ _ => True) (fun _ U o U' => ∃ v L, o = .returned v ∧ Qk3 Z w_GREATER_OR_EQUAL h0 n0 v U'.heap L ∧ FrameEnd U o U' L ({ frames := 0, cells := 0, slots := 0, locals := 0 } : Room).cells ({ frames := 0, cells := 0, slots := 0, locals := 0 } : Room).slots) := by
  refine MetFree.of_bodySF (plainFor_of_name pnk3) hisR ?_
  intro p e s m args below meth c s₁ Bd hml0 hP hK
  obtain ⟨rfl, hZ, hh⟩ := hP
  have hx := Bd.exec
  have hby := Bd.bytes
  have hlk := Bd.notSynchronized
  have hml : c.maxLocals = 1 := hml0
  have hown : s.vm.findClass "com/example/meshwatch/meshwatch/RelationSymbolPinLaw" = some m.cls := findClass_of_methodNamed Bd.named
  have hnm := (name_of_methodNamed Bd.named Bd.method).1
  have X0 : Stand p l e ({ frames := 0, cells := 0, slots := 0, locals := 0 } : Room) s m #[(.int (3 : Int32))] below meth c s₁ [] 0 0 := Stand.of_body Bd
  have e0 : s₁.heap = h0 := by rw [← hh, Bd.state]; rfl
  have N0 := Fr.nil n0
  have K0 := Keep.refl h0 []
  refine own_enter (Q := Qk3 Z w_GREATER_OR_EQUAL h0 n0) (efk3 m ) ?_
  refine own_st (T' := s₁) (g' := (mkF m 31 #[.val (.int (3 : Int32))] [])) (fun t k => ?_) ?_
  · show Steps p.tables e below (s₁.setTop (mkF m 0 #[.val (.int (3 : Int32))] [])) t
    refine XS.iloadN X0.here hx rfl (hb hby d1_0) rfl ?_
    show Steps p.tables e below (s₁.setTop (mkF m 1 #[.val (.int (3 : Int32))] [(.int (3 : Int32))])) t
    refine XS.ifYes X0.here hx rfl (pc0 := 1) (pc' := 8) rfl (hb hby d1_1) rfl (by decide) (by decide) (by decide) ?_
    show Steps p.tables e below (s₁.setTop (mkF m 8 #[.val (.int (3 : Int32))] [])) t
    refine XS.iloadN X0.here hx rfl (hb hby d1_8) rfl ?_
    show Steps p.tables e below (s₁.setTop (mkF m 9 #[.val (.int (3 : Int32))] [(.int (3 : Int32))])) t
    refine XS.iconst X0.here hx rfl (hb hby d1_9) ?_
    show Steps p.tables e below (s₁.setTop (mkF m 10 #[.val (.int (3 : Int32))] [(.int (1 : Int32)), (.int (3 : Int32))])) t
    refine XS.icmpYes X0.here hx rfl (pc0 := 10) (pc' := 17) rfl (hb hby d1_10) rfl (by decide) (by decide) (by decide) ?_
    show Steps p.tables e below (s₁.setTop (mkF m 17 #[.val (.int (3 : Int32))] [])) t
    refine XS.iloadN X0.here hx rfl (hb hby d1_17) rfl ?_
    show Steps p.tables e below (s₁.setTop (mkF m 18 #[.val (.int (3 : Int32))] [(.int (3 : Int32))])) t
    refine XS.iconst X0.here hx rfl (hb hby d1_18) ?_
    show Steps p.tables e below (s₁.setTop (mkF m 19 #[.val (.int (3 : Int32))] [(.int (2 : Int32)), (.int (3 : Int32))])) t
    refine XS.icmpYes X0.here hx rfl (pc0 := 19) (pc' := 26) rfl (hb hby d1_19) rfl (by decide) (by decide) (by decide) ?_
    show Steps p.tables e below (s₁.setTop (mkF m 26 #[.val (.int (3 : Int32))] [])) t
    refine XS.iloadN X0.here hx rfl (hb hby d1_26) rfl ?_
    show Steps p.tables e below (s₁.setTop (mkF m 27 #[.val (.int (3 : Int32))] [(.int (3 : Int32))])) t
    refine XS.iconst X0.here hx rfl (hb hby d1_27) ?_
    show Steps p.tables e below (s₁.setTop (mkF m 28 #[.val (.int (3 : Int32))] [(.int (3 : Int32)), (.int (3 : Int32))])) t
    refine XS.icmpNo X0.here hx rfl (hb hby d1_28) rfl (by decide) ?_
    exact k
  obtain ⟨T1, X1, e1, st1⟩ := getS2 X0 hx hZ hown (host := "") (Or.inl (hw _ (List.mem_of_getElem? (i := 79) rfl))) Via.refl e0 S_GREATER_OR_EQUAL (g := (mkF m 31 #[.val (.int (3 : Int32))] [])) rfl (hb hby d1_31)
  refine own_st (T' := T1) (g' := (mkF m 34 #[.val (.int (3 : Int32))] [(.ref w_GREATER_OR_EQUAL)])) st1 ?_
  refine own_retA X1 hx hlk Bd.returns rfl rfl (hb hby d1_34) (by decide) (by decide) ?_
  show Qk3 Z w_GREATER_OR_EQUAL h0 n0 (some (.ref w_GREATER_OR_EQUAL)) T1.heap _
  rw [(e1 : T1.heap = h0)]
  exact ⟨rfl, N0, rfl⟩
theorem pno4 : plainName "java/lang/Enum" = true := by first | (simp [plainName, overriddenIn]; done) | decide +kernel
theorem efo4 (m : MethodId) (a0 : Addr) : entryFrame m #[(.ref a0)] 1 = mkF m 0 #[.val (.ref a0)] [] := by first | (simp [entryFrame, mkF, argsToLocals, Value.category]; done) | rfl
def Qo4 (Z : State) (a0 : Addr) (h0 : Heap) (n0 : Nat) (v : Option Value) (h : Heap) (L : List Loc) : Prop := v = some (.int (4 : Int32)) ∧ Fr n0 L ∧ h = h0
set_option maxRecDepth 65536 in
set_option maxHeartbeats 40000000 in
theorem rmo4 (l : Launch) (Z : State) (ar : Array Value) (hw : ∀ d ∈ tables_1, d.before ar Z = true) (ws : List Jvm.Cond) (a0 : Addr) (h0 : Heap) (n0 : Nat) (Z0 : n0 ≤ h0.size) (F_ordinal_a0 : Fld Z h0 a0 "java/lang/Enum" "ordinal" "I" (.int (4 : Int32))) :
    MetFree l (⟨"java/lang/Enum", "ordinal", "()I"⟩ : MethodName) (head1 (Jvm.Cond.code (⟨"java/lang/Enum", "ordinal", "()I"⟩ : MethodName) jdk_37_method_2_code 1 (some .int) :: ws) ({ frames := 0, cells := 0, slots := 0, locals := 0 } : Room)) (fun a U => a = #[(.ref a0)] ∧ Z.Warmed39 U.vm ∧ U.heap = h0) (fun _ _ _ _ _ => True) (fun _ U o U' => ∃ v L, o = .returned v ∧ Qo4 Z a0 h0 n0 v U'.heap L ∧ FrameEnd U o U' L ({ frames := 0, cells := 0, slots := 0, locals := 0 } : Room).cells ({ frames := 0, cells := 0, slots := 0, locals := 0 } : Room).slots) := by
  refine MetFree.of_bodySF (plainFor_of_name pno4) hisR ?_
  intro p e s m args below meth c s₁ Bd hml0 hP hK
  obtain ⟨rfl, hZ, hh⟩ := hP
  have hx := Bd.exec
  have hby := Bd.bytes
  have hlk := Bd.notSynchronized
  have hml : c.maxLocals = 1 := hml0
  have hown : s.vm.findClass "java/lang/Enum" = some m.cls := findClass_of_methodNamed Bd.named
  have hnm := (name_of_methodNamed Bd.named Bd.method).1
  have X0 : Stand p l e ({ frames := 0, cells := 0, slots := 0, locals := 0 } : Room) s m #[(.ref a0)] below meth c s₁ [] 0 0 := Stand.of_body Bd
  have e0 : s₁.heap = h0 := by rw [← hh, Bd.state]; rfl
  have N0 := Fr.nil n0
  have K0 := Keep.refl h0 []
  refine own_enter (Q := Qo4 Z a0 h0 n0) (efo4 m a0) ?_
  refine own_st (T' := s₁) (g' := (mkF m 1 #[.val (.ref a0)] [(.ref a0)])) (fun t k => ?_) ?_
  · show Steps p.tables e below (s₁.setTop (mkF m 0 #[.val (.ref a0)] [])) t
    refine XS.aloadN X0.here hx rfl (hb hby d3_0) rfl rfl ?_
    exact k
  obtain ⟨T1, X1, e1, st1⟩ := getF X0 hx hZ hown (host := "") (Or.inl (hw _ (List.mem_of_getElem? (i := 20) rfl))) Via.refl e0 F_ordinal_a0 (g := (mkF m 1 #[.val (.ref a0)] [(.ref a0)])) rfl rfl (hb hby d3_1)
  refine own_st (T' := T1) (g' := (mkF m 4 #[.val (.ref a0)] [(.int (4 : Int32))])) st1 ?_
  refine own_retI X1 hx hlk Bd.returns (hb hby d3_4) (by decide) (by decide) ?_
  show Qo4 Z a0 h0 n0 (some (.int (4 : Int32))) T1.heap _
  rw [(e1 : T1.heap = h0)]
  exact ⟨rfl, N0, rfl⟩
theorem d11_110 : decode prog_24_method_5_code 110 = .ok (.dload_n 1, 1) := by decide +kernel
theorem d11_111 : decode prog_24_method_5_code 111 = .ok (.dload_n 3, 1) := by decide +kernel
theorem d11_112 : decode prog_24_method_5_code 112 = .ok (.dcmp .l, 1) := by decide +kernel
theorem d11_113 : decode prog_24_method_5_code 113 = .ok (.ifCond .ne 7, 3) := by decide +kernel
theorem d11_116 : decode prog_24_method_5_code 116 = .ok (.iconst 1, 1) := by decide +kernel
theorem d11_117 : decode prog_24_method_5_code 117 = .ok (.goto 18, 3) := by decide +kernel
theorem d11_120 : decode prog_24_method_5_code 120 = .ok (.iconst 0, 1) := by decide +kernel
theorem d11_121 : decode prog_24_method_5_code 121 = .ok (.goto 14, 3) := by decide +kernel
theorem pnh4 : plainName "com/example/meshwatch/meshwatch/Relation" = true := by first | (simp [plainName, overriddenIn]; done) | decide +kernel
theorem pdh4_0 : parseMethodDescriptor "()I" = some ⟨[], some .int⟩ := by decide +kernel
theorem efh4 (m : MethodId) (a0 : Addr) (d1 : UInt64) (d2 : UInt64) : entryFrame m #[(.ref a0), (.double d1), (.double d2)] 5 = mkF m 0 #[.val (.ref a0), .val (.double d1), .second, .val (.double d2), .second] [] := by first | (simp [entryFrame, mkF, argsToLocals, Value.category]; done) | rfl
def Qh4 (Z : State) (a0 : Addr) (d1 : UInt64) (d2 : UInt64) (h0 : Heap) (n0 : Nat) (v : Option Value) (h : Heap) (L : List Loc) : Prop := v = some (.int (own_h4 (FP.dcmp d1 d2))) ∧ Fr n0 L ∧ h = h0
set_option maxRecDepth 65536 in
set_option maxHeartbeats 40000000 in
theorem rmh4 (l : Launch) (Z : State) (ar : Array Value) (hw : ∀ d ∈ tables_1, d.before ar Z = true) (ws : List Jvm.Cond) (a0 : Addr) (d1 : UInt64) (d2 : UInt64) (h0 : Heap) (n0 : Nat) (Z0 : n0 ≤ h0.size) (E_a0 : Exa Z h0 a0 "com/example/meshwatch/meshwatch/Relation") (F_ordinal_a0 : Fld Z h0 a0 "java/lang/Enum" "ordinal" "I" (.int (4 : Int32))) :
    MetFree l (⟨"com/example/meshwatch/meshwatch/Relation", "holds", "(DD)Z"⟩ : MethodName) (head1 (Jvm.Cond.code (⟨"com/example/meshwatch/meshwatch/Relation", "holds", "(DD)Z"⟩ : MethodName) prog_24_method_5_code 5 (some .boolean) :: ws) ({ frames := 1, cells := 0, slots := 0, locals := 12 } : Room)) (fun a U => a = #[(.ref a0), (.double d1), (.double d2)] ∧ Z.Warmed39 U.vm ∧ U.heap = h0) (fun _ _ _ _ _ => True) (fun _ U o U' => ∃ v L, o = .returned v ∧ Qh4 Z a0 d1 d2 h0 n0 v U'.heap L ∧ FrameEnd U o U' L ({ frames := 1, cells := 0, slots := 0, locals := 12 } : Room).cells ({ frames := 1, cells := 0, slots := 0, locals := 12 } : Room).slots) := by
  refine MetFree.of_bodySF (plainFor_of_name pnh4) hisR ?_
  intro p e s m args below meth c s₁ Bd hml0 hP hK
  obtain ⟨rfl, hZ, hh⟩ := hP
  have hx := Bd.exec
  have hby := Bd.bytes
  have hlk := Bd.notSynchronized
  have hml : c.maxLocals = 5 := hml0
  have hown : s.vm.findClass "com/example/meshwatch/meshwatch/Relation" = some m.cls := findClass_of_methodNamed Bd.named
  have hnm := (name_of_methodNamed Bd.named Bd.method).1
  have X0 : Stand p l e ({ frames := 1, cells := 0, slots := 0, locals := 12 } : Room) s m #[(.ref a0), (.double d1), (.double d2)] below meth c s₁ [] 0 0 := Stand.of_body Bd
  have e0 : s₁.heap = h0 := by rw [← hh, Bd.state]; rfl
  have N0 := Fr.nil n0
  have K0 := Keep.refl h0 []
  refine own_enter (Q := Qh4 Z a0 d1 d2 h0 n0) (efh4 m a0 d1 d2) ?_
  refine own_st (T' := s₁) (g' := (mkF m 1 #[.val (.ref a0), .val (.double d1), .second, .val (.double d2), .second] [(.ref a0)])) (fun t k => ?_) ?_
  · show Steps p.tables e below (s₁.setTop (mkF m 0 #[.val (.ref a0), .val (.double d1), .second, .val (.double d2), .second] [])) t
    refine XS.aloadN X0.here hx rfl (hb hby d11_0) rfl rfl ?_
    exact k
  obtain ⟨cq1, kq1, qa1, qb1, qc1⟩ := isOf hZ e0 E_a0
  obtain ⟨_, _, ⟨T1, L1, k1, n1⟩, -, X1, ⟨Lc1, hQ1, l1, y1, z1⟩, st1⟩ := X0.virtualBackUp hx (owner := "java/lang/Enum") (x := (⟨"com/example/meshwatch/meshwatch/Relation", "ordinal", "()I"⟩ : MethodName)) (y := (⟨"java/lang/Enum", "ordinal", "()I"⟩ : MethodName)) hown (mvT hZ (hw _ (List.mem_of_getElem? (i := 13) rfl))) (mvT hZ (hw _ (List.mem_of_getElem? (i := 14) rfl))) (mvT hZ (hw _ (List.mem_of_getElem? (i := 15) rfl))) (by decide) (mvT hZ (hw _ (List.mem_of_getElem? (i := 17) rfl))) (mvT hZ (hw _ (List.mem_of_getElem? (i := 16) rfl))) (backOf (W := 0) (rmo4 l Z ar hw [] a0 h0 n0 Z0 F_ordinal_a0) hZ (hw _ (List.mem_of_getElem? (i := 19) rfl)) (hw _ (List.mem_of_getElem? (i := 18) rfl)) (by decide) (by decide)) qa1 qc1 (g := (mkF m 1 #[.val (.ref a0), .val (.double d1), .second, .val (.double d2), .second] [(.ref a0)])) rfl (by rw [hml]; rfl) (Steps.refl _) (argsL := []) (rest := []) (lenOf pdh4_0 rfl) rfl (by show 2 * 0 + _ ≤ _; exact Nat.le_of_eq rfl) (hb hby d11_1) (fun _ _ => ⟨rfl, e0, (by decide : 0 + 0 ≤ _), (by decide : 0 + 0 ≤ _)⟩)
  dsimp only [Pt.U, Pt.locs, Pt.cells, Pt.slots] at X1 l1 y1 z1 st1 hQ1
  subst l1 y1 z1
  obtain ⟨rfl, N1q, e1⟩ := hQ1
  have n2 := Fr.app N0 N1q
  refine own_tr (T' := T1) (g' := (mkF m 4 #[.val (.ref a0), .val (.double d1), .second, .val (.double d2), .second] [(.int (4 : Int32))])) st1 ?_
  refine own_st (T' := T1) (g' := (mkF m 113 #[.val (.ref a0), .val (.double d1), .second, .val (.double d2), .second] [(.int (cmpValue (FP.dcmp d1 d2) .l))])) (fun t k => ?_) ?_
  · show Steps p.tables e below (T1.setTop (mkF m 4 #[.val (.ref a0), .val (.double d1), .second, .val (.double d2), .second] [(.int (4 : Int32))])) t
    refine XS.tswIn X1.here hx rfl (pc0 := 4) (pc' := 110) rfl (hb hby d11_4) rfl (by decide) rfl (by decide) (by decide) ?_
    show Steps p.tables e below (T1.setTop (mkF m 110 #[.val (.ref a0), .val (.double d1), .second, .val (.double d2), .second] [])) t
    refine XS.dloadN X1.here hx rfl (hb hby d11_110) rfl ?_
    show Steps p.tables e below (T1.setTop (mkF m 111 #[.val (.ref a0), .val (.double d1), .second, .val (.double d2), .second] [(.double d1)])) t
    refine XS.dloadN X1.here hx rfl (hb hby d11_111) rfl ?_
    show Steps p.tables e below (T1.setTop (mkF m 112 #[.val (.ref a0), .val (.double d1), .second, .val (.double d2), .second] [(.double d2), (.double d1)])) t
    refine XS.dcmpS X1.here hx rfl (hb hby d11_112) rfl rfl ?_
    exact k
  by_cases hc113_3 : ifCond.holds .ne (cmpValue (FP.dcmp d1 d2) .l) = true
  · refine own_st (T' := T1) (g' := (mkF m 135 #[.val (.ref a0), .val (.double d1), .second, .val (.double d2), .second] [(.int (0 : Int32))])) (fun t k => ?_) ?_
    · show Steps p.tables e below (T1.setTop (mkF m 113 #[.val (.ref a0), .val (.double d1), .second, .val (.double d2), .second] [(.int (cmpValue (FP.dcmp d1 d2) .l))])) t
      refine XS.ifYes X1.here hx rfl (pc0 := 113) (pc' := 120) rfl (hb hby d11_113) rfl hc113_3 (by decide) (by decide) ?_
      show Steps p.tables e below (T1.setTop (mkF m 120 #[.val (.ref a0), .val (.double d1), .second, .val (.double d2), .second] [])) t
      refine XS.iconst X1.here hx rfl (hb hby d11_120) ?_
      show Steps p.tables e below (T1.setTop (mkF m 121 #[.val (.ref a0), .val (.double d1), .second, .val (.double d2), .second] [(.int (0 : Int32))])) t
      refine XS.goto X1.here hx rfl (pc0 := 121) (pc' := 135) rfl (hb hby d11_121) (by decide) (by decide) ?_
      exact k
    refine own_retZ X1 hx hlk Bd.returns (hb hby d11_135) rfl (by decide) (by decide) ?_
    show Qh4 Z a0 d1 d2 h0 n0 (some (.int (0 : Int32))) T1.heap _
    rw [(e1 : T1.heap = h0)]
    exact ⟨congrArg (fun z => some (Value.int z)) (if_pos hc113_3).symm, n2, rfl⟩
  · refine own_st (T' := T1) (g' := (mkF m 135 #[.val (.ref a0), .val (.double d1), .second, .val (.double d2), .second] [(.int (1 : Int32))])) (fun t k => ?_) ?_
    · show Steps p.tables e below (T1.setTop (mkF m 113 #[.val (.ref a0), .val (.double d1), .second, .val (.double d2), .second] [(.int (cmpValue (FP.dcmp d1 d2) .l))])) t
      refine XS.ifNo X1.here hx rfl (hb hby d11_113) rfl (Bool.eq_false_iff.mpr hc113_3) ?_
      show Steps p.tables e below (T1.setTop (mkF m 116 #[.val (.ref a0), .val (.double d1), .second, .val (.double d2), .second] [])) t
      refine XS.iconst X1.here hx rfl (hb hby d11_116) ?_
      show Steps p.tables e below (T1.setTop (mkF m 117 #[.val (.ref a0), .val (.double d1), .second, .val (.double d2), .second] [(.int (1 : Int32))])) t
      refine XS.goto X1.here hx rfl (pc0 := 117) (pc' := 135) rfl (hb hby d11_117) (by decide) (by decide) ?_
      exact k
    refine own_retZ X1 hx hlk Bd.returns (hb hby d11_135) rfl (by decide) (by decide) ?_
    show Qh4 Z a0 d1 d2 h0 n0 (some (.int (1 : Int32))) T1.heap _
    rw [(e1 : T1.heap = h0)]
    exact ⟨congrArg (fun z => some (Value.int z)) (if_neg hc113_3).symm, n2, rfl⟩
theorem d2_74 : decode prog_24_method_4_code 74 = .ok (.ldc 58, 2) := by decide +kernel
theorem d2_76 : decode prog_24_method_4_code 76 = .ok (.goto 5, 3) := by decide +kernel
theorem pny4 : plainName "com/example/meshwatch/meshwatch/Relation" = true := by first | (simp [plainName, overriddenIn]; done) | decide +kernel
theorem pdy4_0 : parseMethodDescriptor "()I" = some ⟨[], some .int⟩ := by decide +kernel
theorem efy4 (m : MethodId) (a0 : Addr) : entryFrame m #[(.ref a0)] 1 = mkF m 0 #[.val (.ref a0)] [] := by first | (simp [entryFrame, mkF, argsToLocals, Value.category]; done) | rfl
def Qy4 (Z : State) (a0 : Addr) (h0 : Heap) (n0 : Nat) (v : Option Value) (h : Heap) (L : List Loc) : Prop := ∃ (x0 : Addr) (x1 : Addr) (kx : ClassId), v = some (.ref x0) ∧ Fr n0 L ∧ Keep h0 h [] ∧ Exa Z h x0 "java/lang/String" ∧ Fld Z h x0 "java/lang/String" "coder" "B" (.int (0 : Int32)) ∧ Fld Z h x0 "java/lang/String" "value" "[B" (.ref x1) ∧ Arv Z h x1 kx .byte (2 : Int32) [(.int (61 : Int32)), (.int (61 : Int32))] (.int (0 : Int32))
set_option maxRecDepth 65536 in
set_option maxHeartbeats 40000000 in
theorem rmy4 (l : Launch) (Z : State) (ar : Array Value) (hw : ∀ d ∈ tables_1, d.before ar Z = true) (ws : List Jvm.Cond) (a0 : Addr) (h0 : Heap) (n0 : Nat) (Z0 : n0 ≤ h0.size) (E_a0 : Exa Z h0 a0 "com/example/meshwatch/meshwatch/Relation") (F_ordinal_a0 : Fld Z h0 a0 "java/lang/Enum" "ordinal" "I" (.int (4 : Int32))) :
    MetFree l (⟨"com/example/meshwatch/meshwatch/Relation", "symbol", "()Ljava/lang/String;"⟩ : MethodName) (head1 (Jvm.Cond.code (⟨"com/example/meshwatch/meshwatch/Relation", "symbol", "()Ljava/lang/String;"⟩ : MethodName) prog_24_method_4_code 1 (some (.object "java/lang/String")) :: ws) ({ frames := 1, cells := 2, slots := 12, locals := 12 } : Room)) (fun a U => a = #[(.ref a0)] ∧ Z.Warmed39 U.vm ∧ U.heap = h0 ∧ CHv Z consts_1 U.vm h0) (fun _ _ _ _ _ => True) (fun _ U o U' => ∃ v L, o = .returned v ∧ Qy4 Z a0 h0 n0 v U'.heap L ∧ CHr Z consts_1 U.vm U.heap U'.vm U'.heap ∧ ReturnedEndW U o U' L ({ frames := 1, cells := 2, slots := 12, locals := 12 } : Room).cells ({ frames := 1, cells := 2, slots := 12, locals := 12 } : Room).slots) := by
  refine MetFree.of_bodySF (plainFor_of_name pny4) hisR ?_
  intro p e s m args below meth c s₁ Bd hml0 hP hK
  obtain ⟨rfl, hZ, hh, hI⟩ := hP
  have hx := Bd.exec
  have hby := Bd.bytes
  have hlk := Bd.notSynchronized
  have hml : c.maxLocals = 1 := hml0
  have hown : s.vm.findClass "com/example/meshwatch/meshwatch/Relation" = some m.cls := findClass_of_methodNamed Bd.named
  have hnm := (name_of_methodNamed Bd.named Bd.method).1
  have X0 : Stand p l e ({ frames := 1, cells := 2, slots := 12, locals := 12 } : Room) s m #[(.ref a0)] below meth c s₁ [] 0 0 := Stand.of_body Bd
  have e0 : s₁.heap = h0 := by rw [← hh, Bd.state]; rfl
  have N0 := Fr.nil n0
  have K0 := Keep.refl h0 []
  refine own_enterH (C := fun U' => CHr Z consts_1 s.vm s.heap U'.vm U'.heap) (Q := Qy4 Z a0 h0 n0) (efy4 m a0) ?_
  refine own_stH (T' := s₁) (g' := (mkF m 1 #[.val (.ref a0)] [(.ref a0)])) (fun t k => ?_) ?_
  · show Steps p.tables e below (s₁.setTop (mkF m 0 #[.val (.ref a0)] [])) t
    refine XS.aloadN X0.here hx rfl (hb hby d2_0) rfl rfl ?_
    exact k
  obtain ⟨cq1, kq1, qa1, qb1, qc1⟩ := isOf hZ e0 E_a0
  obtain ⟨_, _, ⟨T1, L1, k1, n1⟩, -, X1, ⟨Lc1, hQ1, l1, y1, z1⟩, st1⟩ := X0.virtualBackUp hx (owner := "java/lang/Enum") (x := (⟨"com/example/meshwatch/meshwatch/Relation", "ordinal", "()I"⟩ : MethodName)) (y := (⟨"java/lang/Enum", "ordinal", "()I"⟩ : MethodName)) hown (mvT hZ (hw _ (List.mem_of_getElem? (i := 13) rfl))) (mvT hZ (hw _ (List.mem_of_getElem? (i := 14) rfl))) (mvT hZ (hw _ (List.mem_of_getElem? (i := 15) rfl))) (by decide) (mvT hZ (hw _ (List.mem_of_getElem? (i := 17) rfl))) (mvT hZ (hw _ (List.mem_of_getElem? (i := 16) rfl))) (backOf (W := 0) (rmo4 l Z ar hw [] a0 h0 n0 Z0 F_ordinal_a0) hZ (hw _ (List.mem_of_getElem? (i := 19) rfl)) (hw _ (List.mem_of_getElem? (i := 18) rfl)) (by decide) (by decide)) qa1 qc1 (g := (mkF m 1 #[.val (.ref a0)] [(.ref a0)])) rfl (by rw [hml]; rfl) (Steps.refl _) (argsL := []) (rest := []) (lenOf pdy4_0 rfl) rfl (by show 2 * 0 + _ ≤ _; exact Nat.le_of_eq rfl) (hb hby d2_1) (fun _ _ => ⟨rfl, e0, (by decide : 0 + 0 ≤ _), (by decide : 0 + 0 ≤ _)⟩)
  dsimp only [Pt.U, Pt.locs, Pt.cells, Pt.slots] at X1 l1 y1 z1 st1 hQ1
  subst l1 y1 z1
  obtain ⟨rfl, N1q, e1⟩ := hQ1
  have n2 := Fr.app N0 N1q
  refine own_trH (T' := T1) (g' := (mkF m 4 #[.val (.ref a0)] [(.int (4 : Int32))])) st1 ?_
  refine own_stH (T' := T1) (g' := (mkF m 74 #[.val (.ref a0)] [])) (fun t k => ?_) ?_
  · show Steps p.tables e below (T1.setTop (mkF m 4 #[.val (.ref a0)] [(.int (4 : Int32))])) t
    refine XS.tswIn X1.here hx rfl (pc0 := 4) (pc' := 74) rfl (hb hby d2_4) rfl (by decide) rfl (by decide) (by decide) ?_
    exact k
  obtain ⟨x3, T3, h3, k3, y3, kk3, X3, e3, E3, hS3, hk3, -, -, B3, Fc3, Fv3, Av3, -, -, hC3, -, -, st3⟩ := ldcCH (s := s) (vm0 := s.vm) X1 hx hZ hown (hw _ (List.mem_of_getElem? (i := 84) rfl)) (own_sa hw) e1 (State.WarmedH.since (State.WarmedH.refl s) 0) (Nat.zero_le _) (own_ew hw) (by decide) hI (vs := [(.int (61 : Int32)), (.int (61 : Int32))]) (z := 2) ⟨by decide, rfl⟩ (by decide) (by decide) (g := (mkF m 74 #[.val (.ref a0)] [])) rfl (hb hby d2_74) (n := 8) (by decide) (by decide) (by decide) (by decide)
  have f4 := E_a0.ext E3
  have f5 := F_ordinal_a0.ext E3
  have z6 := Nat.le_trans Z0 E3.1
  have k7 := K0.ext E3
  refine own_stH (T' := T3) (g' := (mkF m 76 #[.val (.ref a0)] [(.ref x3)])) st3 ?_
  refine own_stH (T' := T3) (g' := (mkF m 81 #[.val (.ref a0)] [(.ref x3)])) (fun t k => ?_) ?_
  · show Steps p.tables e below (T3.setTop (mkF m 76 #[.val (.ref a0)] [(.ref x3)])) t
    refine XS.goto X3.here hx rfl (pc0 := 76) (pc' := 81) rfl (hb hby d2_76) (by decide) (by decide) ?_
    exact k
  refine own_retAH X3 hx hlk hS3 (by rw [(e3 : T3.heap = h3)]; exact hk3) (by rw [hh, (e3 : T3.heap = h3)]; exact hC3) Bd.returns rfl rfl (hb hby d2_81) (by decide) (by decide) ?_
  show Qy4 Z a0 h0 n0 (some (.ref x3)) T3.heap _
  rw [(e3 : T3.heap = h3)]
  exact ⟨x3, y3, kk3, rfl, n2, k7, B3, Fc3, Fv3, Av3⟩
theorem d1_35 : decode method_2_code 35 = .ok (.iload_n 0, 1) := by decide +kernel
theorem d1_36 : decode method_2_code 36 = .ok (.iconst 4, 1) := by decide +kernel
theorem d1_37 : decode method_2_code 37 = .ok (.if_icmp .ne 7, 3) := by decide +kernel
theorem d1_40 : decode method_2_code 40 = .ok (.getstatic 22, 3) := by decide +kernel
theorem d1_43 : decode method_2_code 43 = .ok (.areturn, 1) := by decide +kernel
theorem pnk4 : plainName "com/example/meshwatch/meshwatch/RelationSymbolPinLaw" = true := by first | (simp [plainName, overriddenIn]; done) | decide +kernel
theorem efk4 (m : MethodId)  : entryFrame m #[(.int (4 : Int32))] 1 = mkF m 0 #[.val (.int (4 : Int32))] [] := by first | (simp [entryFrame, mkF, argsToLocals, Value.category]; done) | rfl
def Qk4 (Z : State) (w_EQUAL : Addr) (h0 : Heap) (n0 : Nat) (v : Option Value) (h : Heap) (L : List Loc) : Prop := v = some (.ref w_EQUAL) ∧ Fr n0 L ∧ h = h0
set_option maxRecDepth 65536 in
set_option maxHeartbeats 40000000 in
theorem rmk4 (l : Launch) (Z : State) (ar : Array Value) (hw : ∀ d ∈ tables_1, d.before ar Z = true) (ws : List Jvm.Cond) (w_EQUAL : Addr) (h0 : Heap) (n0 : Nat) (Z0 : n0 ≤ h0.size) (S_EQUAL : Sta Z h0 "com/example/meshwatch/meshwatch/Relation" "EQUAL" "Lcom/example/meshwatch/meshwatch/Relation;" (.ref w_EQUAL)) :
    MetFree l (⟨"com/example/meshwatch/meshwatch/RelationSymbolPinLaw", "pick", "(I)Lcom/example/meshwatch/meshwatch/Relation;"⟩ : MethodName) (head1 (Jvm.Cond.code (⟨"com/example/meshwatch/meshwatch/RelationSymbolPinLaw", "pick", "(I)Lcom/example/meshwatch/meshwatch/Relation;"⟩ : MethodName) method_2_code 1 (some (.object "com/example/meshwatch/meshwatch/Relation")) :: ws) ({ frames := 0, cells := 0, slots := 0, locals := 0 } : Room)) (fun a U => a = #[(.int (4 : Int32))] ∧ Z.Warmed39 U.vm ∧ U.heap = h0) (fun _ _ _ _ _ => True) (fun _ U o U' => ∃ v L, o = .returned v ∧ Qk4 Z w_EQUAL h0 n0 v U'.heap L ∧ FrameEnd U o U' L ({ frames := 0, cells := 0, slots := 0, locals := 0 } : Room).cells ({ frames := 0, cells := 0, slots := 0, locals := 0 } : Room).slots) := by
  refine MetFree.of_bodySF (plainFor_of_name pnk4) hisR ?_
  intro p e s m args below meth c s₁ Bd hml0 hP hK
  obtain ⟨rfl, hZ, hh⟩ := hP
  have hx := Bd.exec
  have hby := Bd.bytes
  have hlk := Bd.notSynchronized
  have hml : c.maxLocals = 1 := hml0
  have hown : s.vm.findClass "com/example/meshwatch/meshwatch/RelationSymbolPinLaw" = some m.cls := findClass_of_methodNamed Bd.named
  have hnm := (name_of_methodNamed Bd.named Bd.method).1
  have X0 : Stand p l e ({ frames := 0, cells := 0, slots := 0, locals := 0 } : Room) s m #[(.int (4 : Int32))] below meth c s₁ [] 0 0 := Stand.of_body Bd
  have e0 : s₁.heap = h0 := by rw [← hh, Bd.state]; rfl
  have N0 := Fr.nil n0
  have K0 := Keep.refl h0 []
  refine own_enter (Q := Qk4 Z w_EQUAL h0 n0) (efk4 m ) ?_
  refine own_st (T' := s₁) (g' := (mkF m 40 #[.val (.int (4 : Int32))] [])) (fun t k => ?_) ?_
  · show Steps p.tables e below (s₁.setTop (mkF m 0 #[.val (.int (4 : Int32))] [])) t
    refine XS.iloadN X0.here hx rfl (hb hby d1_0) rfl ?_
    show Steps p.tables e below (s₁.setTop (mkF m 1 #[.val (.int (4 : Int32))] [(.int (4 : Int32))])) t
    refine XS.ifYes X0.here hx rfl (pc0 := 1) (pc' := 8) rfl (hb hby d1_1) rfl (by decide) (by decide) (by decide) ?_
    show Steps p.tables e below (s₁.setTop (mkF m 8 #[.val (.int (4 : Int32))] [])) t
    refine XS.iloadN X0.here hx rfl (hb hby d1_8) rfl ?_
    show Steps p.tables e below (s₁.setTop (mkF m 9 #[.val (.int (4 : Int32))] [(.int (4 : Int32))])) t
    refine XS.iconst X0.here hx rfl (hb hby d1_9) ?_
    show Steps p.tables e below (s₁.setTop (mkF m 10 #[.val (.int (4 : Int32))] [(.int (1 : Int32)), (.int (4 : Int32))])) t
    refine XS.icmpYes X0.here hx rfl (pc0 := 10) (pc' := 17) rfl (hb hby d1_10) rfl (by decide) (by decide) (by decide) ?_
    show Steps p.tables e below (s₁.setTop (mkF m 17 #[.val (.int (4 : Int32))] [])) t
    refine XS.iloadN X0.here hx rfl (hb hby d1_17) rfl ?_
    show Steps p.tables e below (s₁.setTop (mkF m 18 #[.val (.int (4 : Int32))] [(.int (4 : Int32))])) t
    refine XS.iconst X0.here hx rfl (hb hby d1_18) ?_
    show Steps p.tables e below (s₁.setTop (mkF m 19 #[.val (.int (4 : Int32))] [(.int (2 : Int32)), (.int (4 : Int32))])) t
    refine XS.icmpYes X0.here hx rfl (pc0 := 19) (pc' := 26) rfl (hb hby d1_19) rfl (by decide) (by decide) (by decide) ?_
    show Steps p.tables e below (s₁.setTop (mkF m 26 #[.val (.int (4 : Int32))] [])) t
    refine XS.iloadN X0.here hx rfl (hb hby d1_26) rfl ?_
    show Steps p.tables e below (s₁.setTop (mkF m 27 #[.val (.int (4 : Int32))] [(.int (4 : Int32))])) t
    refine XS.iconst X0.here hx rfl (hb hby d1_27) ?_
    show Steps p.tables e below (s₁.setTop (mkF m 28 #[.val (.int (4 : Int32))] [(.int (3 : Int32)), (.int (4 : Int32))])) t
    refine XS.icmpYes X0.here hx rfl (pc0 := 28) (pc' := 35) rfl (hb hby d1_28) rfl (by decide) (by decide) (by decide) ?_
    show Steps p.tables e below (s₁.setTop (mkF m 35 #[.val (.int (4 : Int32))] [])) t
    refine XS.iloadN X0.here hx rfl (hb hby d1_35) rfl ?_
    show Steps p.tables e below (s₁.setTop (mkF m 36 #[.val (.int (4 : Int32))] [(.int (4 : Int32))])) t
    refine XS.iconst X0.here hx rfl (hb hby d1_36) ?_
    show Steps p.tables e below (s₁.setTop (mkF m 37 #[.val (.int (4 : Int32))] [(.int (4 : Int32)), (.int (4 : Int32))])) t
    refine XS.icmpNo X0.here hx rfl (hb hby d1_37) rfl (by decide) ?_
    exact k
  obtain ⟨T1, X1, e1, st1⟩ := getS2 X0 hx hZ hown (host := "") (Or.inl (hw _ (List.mem_of_getElem? (i := 82) rfl))) Via.refl e0 S_EQUAL (g := (mkF m 40 #[.val (.int (4 : Int32))] [])) rfl (hb hby d1_40)
  refine own_st (T' := T1) (g' := (mkF m 43 #[.val (.int (4 : Int32))] [(.ref w_EQUAL)])) st1 ?_
  refine own_retA X1 hx hlk Bd.returns rfl rfl (hb hby d1_43) (by decide) (by decide) ?_
  show Qk4 Z w_EQUAL h0 n0 (some (.ref w_EQUAL)) T1.heap _
  rw [(e1 : T1.heap = h0)]
  exact ⟨rfl, N0, rfl⟩
theorem pno5 : plainName "java/lang/Enum" = true := by first | (simp [plainName, overriddenIn]; done) | decide +kernel
theorem efo5 (m : MethodId) (a0 : Addr) : entryFrame m #[(.ref a0)] 1 = mkF m 0 #[.val (.ref a0)] [] := by first | (simp [entryFrame, mkF, argsToLocals, Value.category]; done) | rfl
def Qo5 (Z : State) (a0 : Addr) (h0 : Heap) (n0 : Nat) (v : Option Value) (h : Heap) (L : List Loc) : Prop := v = some (.int (5 : Int32)) ∧ Fr n0 L ∧ h = h0
set_option maxRecDepth 65536 in
set_option maxHeartbeats 40000000 in
theorem rmo5 (l : Launch) (Z : State) (ar : Array Value) (hw : ∀ d ∈ tables_1, d.before ar Z = true) (ws : List Jvm.Cond) (a0 : Addr) (h0 : Heap) (n0 : Nat) (Z0 : n0 ≤ h0.size) (F_ordinal_a0 : Fld Z h0 a0 "java/lang/Enum" "ordinal" "I" (.int (5 : Int32))) :
    MetFree l (⟨"java/lang/Enum", "ordinal", "()I"⟩ : MethodName) (head1 (Jvm.Cond.code (⟨"java/lang/Enum", "ordinal", "()I"⟩ : MethodName) jdk_37_method_2_code 1 (some .int) :: ws) ({ frames := 0, cells := 0, slots := 0, locals := 0 } : Room)) (fun a U => a = #[(.ref a0)] ∧ Z.Warmed39 U.vm ∧ U.heap = h0) (fun _ _ _ _ _ => True) (fun _ U o U' => ∃ v L, o = .returned v ∧ Qo5 Z a0 h0 n0 v U'.heap L ∧ FrameEnd U o U' L ({ frames := 0, cells := 0, slots := 0, locals := 0 } : Room).cells ({ frames := 0, cells := 0, slots := 0, locals := 0 } : Room).slots) := by
  refine MetFree.of_bodySF (plainFor_of_name pno5) hisR ?_
  intro p e s m args below meth c s₁ Bd hml0 hP hK
  obtain ⟨rfl, hZ, hh⟩ := hP
  have hx := Bd.exec
  have hby := Bd.bytes
  have hlk := Bd.notSynchronized
  have hml : c.maxLocals = 1 := hml0
  have hown : s.vm.findClass "java/lang/Enum" = some m.cls := findClass_of_methodNamed Bd.named
  have hnm := (name_of_methodNamed Bd.named Bd.method).1
  have X0 : Stand p l e ({ frames := 0, cells := 0, slots := 0, locals := 0 } : Room) s m #[(.ref a0)] below meth c s₁ [] 0 0 := Stand.of_body Bd
  have e0 : s₁.heap = h0 := by rw [← hh, Bd.state]; rfl
  have N0 := Fr.nil n0
  have K0 := Keep.refl h0 []
  refine own_enter (Q := Qo5 Z a0 h0 n0) (efo5 m a0) ?_
  refine own_st (T' := s₁) (g' := (mkF m 1 #[.val (.ref a0)] [(.ref a0)])) (fun t k => ?_) ?_
  · show Steps p.tables e below (s₁.setTop (mkF m 0 #[.val (.ref a0)] [])) t
    refine XS.aloadN X0.here hx rfl (hb hby d3_0) rfl rfl ?_
    exact k
  obtain ⟨T1, X1, e1, st1⟩ := getF X0 hx hZ hown (host := "") (Or.inl (hw _ (List.mem_of_getElem? (i := 20) rfl))) Via.refl e0 F_ordinal_a0 (g := (mkF m 1 #[.val (.ref a0)] [(.ref a0)])) rfl rfl (hb hby d3_1)
  refine own_st (T' := T1) (g' := (mkF m 4 #[.val (.ref a0)] [(.int (5 : Int32))])) st1 ?_
  refine own_retI X1 hx hlk Bd.returns (hb hby d3_4) (by decide) (by decide) ?_
  show Qo5 Z a0 h0 n0 (some (.int (5 : Int32))) T1.heap _
  rw [(e1 : T1.heap = h0)]
  exact ⟨rfl, N0, rfl⟩
theorem d11_124 : decode prog_24_method_5_code 124 = .ok (.dload_n 1, 1) := by decide +kernel
theorem d11_125 : decode prog_24_method_5_code 125 = .ok (.dload_n 3, 1) := by decide +kernel
theorem d11_126 : decode prog_24_method_5_code 126 = .ok (.dcmp .l, 1) := by decide +kernel
theorem d11_127 : decode prog_24_method_5_code 127 = .ok (.ifCond .eq 7, 3) := by decide +kernel
theorem d11_130 : decode prog_24_method_5_code 130 = .ok (.iconst 1, 1) := by decide +kernel
theorem d11_131 : decode prog_24_method_5_code 131 = .ok (.goto 4, 3) := by decide +kernel
theorem d11_134 : decode prog_24_method_5_code 134 = .ok (.iconst 0, 1) := by decide +kernel
theorem pnh5 : plainName "com/example/meshwatch/meshwatch/Relation" = true := by first | (simp [plainName, overriddenIn]; done) | decide +kernel
theorem pdh5_0 : parseMethodDescriptor "()I" = some ⟨[], some .int⟩ := by decide +kernel
theorem efh5 (m : MethodId) (a0 : Addr) (d1 : UInt64) (d2 : UInt64) : entryFrame m #[(.ref a0), (.double d1), (.double d2)] 5 = mkF m 0 #[.val (.ref a0), .val (.double d1), .second, .val (.double d2), .second] [] := by first | (simp [entryFrame, mkF, argsToLocals, Value.category]; done) | rfl
def Qh5 (Z : State) (a0 : Addr) (d1 : UInt64) (d2 : UInt64) (h0 : Heap) (n0 : Nat) (v : Option Value) (h : Heap) (L : List Loc) : Prop := v = some (.int (own_h5 (FP.dcmp d1 d2))) ∧ Fr n0 L ∧ h = h0
set_option maxRecDepth 65536 in
set_option maxHeartbeats 40000000 in
theorem rmh5 (l : Launch) (Z : State) (ar : Array Value) (hw : ∀ d ∈ tables_1, d.before ar Z = true) (ws : List Jvm.Cond) (a0 : Addr) (d1 : UInt64) (d2 : UInt64) (h0 : Heap) (n0 : Nat) (Z0 : n0 ≤ h0.size) (E_a0 : Exa Z h0 a0 "com/example/meshwatch/meshwatch/Relation") (F_ordinal_a0 : Fld Z h0 a0 "java/lang/Enum" "ordinal" "I" (.int (5 : Int32))) :
    MetFree l (⟨"com/example/meshwatch/meshwatch/Relation", "holds", "(DD)Z"⟩ : MethodName) (head1 (Jvm.Cond.code (⟨"com/example/meshwatch/meshwatch/Relation", "holds", "(DD)Z"⟩ : MethodName) prog_24_method_5_code 5 (some .boolean) :: ws) ({ frames := 1, cells := 0, slots := 0, locals := 12 } : Room)) (fun a U => a = #[(.ref a0), (.double d1), (.double d2)] ∧ Z.Warmed39 U.vm ∧ U.heap = h0) (fun _ _ _ _ _ => True) (fun _ U o U' => ∃ v L, o = .returned v ∧ Qh5 Z a0 d1 d2 h0 n0 v U'.heap L ∧ FrameEnd U o U' L ({ frames := 1, cells := 0, slots := 0, locals := 12 } : Room).cells ({ frames := 1, cells := 0, slots := 0, locals := 12 } : Room).slots) := by
  refine MetFree.of_bodySF (plainFor_of_name pnh5) hisR ?_
  intro p e s m args below meth c s₁ Bd hml0 hP hK
  obtain ⟨rfl, hZ, hh⟩ := hP
  have hx := Bd.exec
  have hby := Bd.bytes
  have hlk := Bd.notSynchronized
  have hml : c.maxLocals = 5 := hml0
  have hown : s.vm.findClass "com/example/meshwatch/meshwatch/Relation" = some m.cls := findClass_of_methodNamed Bd.named
  have hnm := (name_of_methodNamed Bd.named Bd.method).1
  have X0 : Stand p l e ({ frames := 1, cells := 0, slots := 0, locals := 12 } : Room) s m #[(.ref a0), (.double d1), (.double d2)] below meth c s₁ [] 0 0 := Stand.of_body Bd
  have e0 : s₁.heap = h0 := by rw [← hh, Bd.state]; rfl
  have N0 := Fr.nil n0
  have K0 := Keep.refl h0 []
  refine own_enter (Q := Qh5 Z a0 d1 d2 h0 n0) (efh5 m a0 d1 d2) ?_
  refine own_st (T' := s₁) (g' := (mkF m 1 #[.val (.ref a0), .val (.double d1), .second, .val (.double d2), .second] [(.ref a0)])) (fun t k => ?_) ?_
  · show Steps p.tables e below (s₁.setTop (mkF m 0 #[.val (.ref a0), .val (.double d1), .second, .val (.double d2), .second] [])) t
    refine XS.aloadN X0.here hx rfl (hb hby d11_0) rfl rfl ?_
    exact k
  obtain ⟨cq1, kq1, qa1, qb1, qc1⟩ := isOf hZ e0 E_a0
  obtain ⟨_, _, ⟨T1, L1, k1, n1⟩, -, X1, ⟨Lc1, hQ1, l1, y1, z1⟩, st1⟩ := X0.virtualBackUp hx (owner := "java/lang/Enum") (x := (⟨"com/example/meshwatch/meshwatch/Relation", "ordinal", "()I"⟩ : MethodName)) (y := (⟨"java/lang/Enum", "ordinal", "()I"⟩ : MethodName)) hown (mvT hZ (hw _ (List.mem_of_getElem? (i := 13) rfl))) (mvT hZ (hw _ (List.mem_of_getElem? (i := 14) rfl))) (mvT hZ (hw _ (List.mem_of_getElem? (i := 15) rfl))) (by decide) (mvT hZ (hw _ (List.mem_of_getElem? (i := 17) rfl))) (mvT hZ (hw _ (List.mem_of_getElem? (i := 16) rfl))) (backOf (W := 0) (rmo5 l Z ar hw [] a0 h0 n0 Z0 F_ordinal_a0) hZ (hw _ (List.mem_of_getElem? (i := 19) rfl)) (hw _ (List.mem_of_getElem? (i := 18) rfl)) (by decide) (by decide)) qa1 qc1 (g := (mkF m 1 #[.val (.ref a0), .val (.double d1), .second, .val (.double d2), .second] [(.ref a0)])) rfl (by rw [hml]; rfl) (Steps.refl _) (argsL := []) (rest := []) (lenOf pdh5_0 rfl) rfl (by show 2 * 0 + _ ≤ _; exact Nat.le_of_eq rfl) (hb hby d11_1) (fun _ _ => ⟨rfl, e0, (by decide : 0 + 0 ≤ _), (by decide : 0 + 0 ≤ _)⟩)
  dsimp only [Pt.U, Pt.locs, Pt.cells, Pt.slots] at X1 l1 y1 z1 st1 hQ1
  subst l1 y1 z1
  obtain ⟨rfl, N1q, e1⟩ := hQ1
  have n2 := Fr.app N0 N1q
  refine own_tr (T' := T1) (g' := (mkF m 4 #[.val (.ref a0), .val (.double d1), .second, .val (.double d2), .second] [(.int (5 : Int32))])) st1 ?_
  refine own_st (T' := T1) (g' := (mkF m 127 #[.val (.ref a0), .val (.double d1), .second, .val (.double d2), .second] [(.int (cmpValue (FP.dcmp d1 d2) .l))])) (fun t k => ?_) ?_
  · show Steps p.tables e below (T1.setTop (mkF m 4 #[.val (.ref a0), .val (.double d1), .second, .val (.double d2), .second] [(.int (5 : Int32))])) t
    refine XS.tswIn X1.here hx rfl (pc0 := 4) (pc' := 124) rfl (hb hby d11_4) rfl (by decide) rfl (by decide) (by decide) ?_
    show Steps p.tables e below (T1.setTop (mkF m 124 #[.val (.ref a0), .val (.double d1), .second, .val (.double d2), .second] [])) t
    refine XS.dloadN X1.here hx rfl (hb hby d11_124) rfl ?_
    show Steps p.tables e below (T1.setTop (mkF m 125 #[.val (.ref a0), .val (.double d1), .second, .val (.double d2), .second] [(.double d1)])) t
    refine XS.dloadN X1.here hx rfl (hb hby d11_125) rfl ?_
    show Steps p.tables e below (T1.setTop (mkF m 126 #[.val (.ref a0), .val (.double d1), .second, .val (.double d2), .second] [(.double d2), (.double d1)])) t
    refine XS.dcmpS X1.here hx rfl (hb hby d11_126) rfl rfl ?_
    exact k
  by_cases hc127_3 : ifCond.holds .eq (cmpValue (FP.dcmp d1 d2) .l) = true
  · refine own_st (T' := T1) (g' := (mkF m 135 #[.val (.ref a0), .val (.double d1), .second, .val (.double d2), .second] [(.int (0 : Int32))])) (fun t k => ?_) ?_
    · show Steps p.tables e below (T1.setTop (mkF m 127 #[.val (.ref a0), .val (.double d1), .second, .val (.double d2), .second] [(.int (cmpValue (FP.dcmp d1 d2) .l))])) t
      refine XS.ifYes X1.here hx rfl (pc0 := 127) (pc' := 134) rfl (hb hby d11_127) rfl hc127_3 (by decide) (by decide) ?_
      show Steps p.tables e below (T1.setTop (mkF m 134 #[.val (.ref a0), .val (.double d1), .second, .val (.double d2), .second] [])) t
      refine XS.iconst X1.here hx rfl (hb hby d11_134) ?_
      exact k
    refine own_retZ X1 hx hlk Bd.returns (hb hby d11_135) rfl (by decide) (by decide) ?_
    show Qh5 Z a0 d1 d2 h0 n0 (some (.int (0 : Int32))) T1.heap _
    rw [(e1 : T1.heap = h0)]
    exact ⟨congrArg (fun z => some (Value.int z)) (if_pos hc127_3).symm, n2, rfl⟩
  · refine own_st (T' := T1) (g' := (mkF m 135 #[.val (.ref a0), .val (.double d1), .second, .val (.double d2), .second] [(.int (1 : Int32))])) (fun t k => ?_) ?_
    · show Steps p.tables e below (T1.setTop (mkF m 127 #[.val (.ref a0), .val (.double d1), .second, .val (.double d2), .second] [(.int (cmpValue (FP.dcmp d1 d2) .l))])) t
      refine XS.ifNo X1.here hx rfl (hb hby d11_127) rfl (Bool.eq_false_iff.mpr hc127_3) ?_
      show Steps p.tables e below (T1.setTop (mkF m 130 #[.val (.ref a0), .val (.double d1), .second, .val (.double d2), .second] [])) t
      refine XS.iconst X1.here hx rfl (hb hby d11_130) ?_
      show Steps p.tables e below (T1.setTop (mkF m 131 #[.val (.ref a0), .val (.double d1), .second, .val (.double d2), .second] [(.int (1 : Int32))])) t
      refine XS.goto X1.here hx rfl (pc0 := 131) (pc' := 135) rfl (hb hby d11_131) (by decide) (by decide) ?_
      exact k
    refine own_retZ X1 hx hlk Bd.returns (hb hby d11_135) rfl (by decide) (by decide) ?_
    show Qh5 Z a0 d1 d2 h0 n0 (some (.int (1 : Int32))) T1.heap _
    rw [(e1 : T1.heap = h0)]
    exact ⟨congrArg (fun z => some (Value.int z)) (if_neg hc127_3).symm, n2, rfl⟩
theorem d2_79 : decode prog_24_method_4_code 79 = .ok (.ldc 60, 2) := by decide +kernel
theorem pny5 : plainName "com/example/meshwatch/meshwatch/Relation" = true := by first | (simp [plainName, overriddenIn]; done) | decide +kernel
theorem pdy5_0 : parseMethodDescriptor "()I" = some ⟨[], some .int⟩ := by decide +kernel
theorem efy5 (m : MethodId) (a0 : Addr) : entryFrame m #[(.ref a0)] 1 = mkF m 0 #[.val (.ref a0)] [] := by first | (simp [entryFrame, mkF, argsToLocals, Value.category]; done) | rfl
def Qy5 (Z : State) (a0 : Addr) (h0 : Heap) (n0 : Nat) (v : Option Value) (h : Heap) (L : List Loc) : Prop := ∃ (x0 : Addr) (x1 : Addr) (kx : ClassId), v = some (.ref x0) ∧ Fr n0 L ∧ Keep h0 h [] ∧ Exa Z h x0 "java/lang/String" ∧ Fld Z h x0 "java/lang/String" "coder" "B" (.int (0 : Int32)) ∧ Fld Z h x0 "java/lang/String" "value" "[B" (.ref x1) ∧ Arv Z h x1 kx .byte (2 : Int32) [(.int (33 : Int32)), (.int (61 : Int32))] (.int (0 : Int32))
set_option maxRecDepth 65536 in
set_option maxHeartbeats 40000000 in
theorem rmy5 (l : Launch) (Z : State) (ar : Array Value) (hw : ∀ d ∈ tables_1, d.before ar Z = true) (ws : List Jvm.Cond) (a0 : Addr) (h0 : Heap) (n0 : Nat) (Z0 : n0 ≤ h0.size) (E_a0 : Exa Z h0 a0 "com/example/meshwatch/meshwatch/Relation") (F_ordinal_a0 : Fld Z h0 a0 "java/lang/Enum" "ordinal" "I" (.int (5 : Int32))) :
    MetFree l (⟨"com/example/meshwatch/meshwatch/Relation", "symbol", "()Ljava/lang/String;"⟩ : MethodName) (head1 (Jvm.Cond.code (⟨"com/example/meshwatch/meshwatch/Relation", "symbol", "()Ljava/lang/String;"⟩ : MethodName) prog_24_method_4_code 1 (some (.object "java/lang/String")) :: ws) ({ frames := 1, cells := 2, slots := 12, locals := 12 } : Room)) (fun a U => a = #[(.ref a0)] ∧ Z.Warmed39 U.vm ∧ U.heap = h0 ∧ CHv Z consts_1 U.vm h0) (fun _ _ _ _ _ => True) (fun _ U o U' => ∃ v L, o = .returned v ∧ Qy5 Z a0 h0 n0 v U'.heap L ∧ CHr Z consts_1 U.vm U.heap U'.vm U'.heap ∧ ReturnedEndW U o U' L ({ frames := 1, cells := 2, slots := 12, locals := 12 } : Room).cells ({ frames := 1, cells := 2, slots := 12, locals := 12 } : Room).slots) := by
  refine MetFree.of_bodySF (plainFor_of_name pny5) hisR ?_
  intro p e s m args below meth c s₁ Bd hml0 hP hK
  obtain ⟨rfl, hZ, hh, hI⟩ := hP
  have hx := Bd.exec
  have hby := Bd.bytes
  have hlk := Bd.notSynchronized
  have hml : c.maxLocals = 1 := hml0
  have hown : s.vm.findClass "com/example/meshwatch/meshwatch/Relation" = some m.cls := findClass_of_methodNamed Bd.named
  have hnm := (name_of_methodNamed Bd.named Bd.method).1
  have X0 : Stand p l e ({ frames := 1, cells := 2, slots := 12, locals := 12 } : Room) s m #[(.ref a0)] below meth c s₁ [] 0 0 := Stand.of_body Bd
  have e0 : s₁.heap = h0 := by rw [← hh, Bd.state]; rfl
  have N0 := Fr.nil n0
  have K0 := Keep.refl h0 []
  refine own_enterH (C := fun U' => CHr Z consts_1 s.vm s.heap U'.vm U'.heap) (Q := Qy5 Z a0 h0 n0) (efy5 m a0) ?_
  refine own_stH (T' := s₁) (g' := (mkF m 1 #[.val (.ref a0)] [(.ref a0)])) (fun t k => ?_) ?_
  · show Steps p.tables e below (s₁.setTop (mkF m 0 #[.val (.ref a0)] [])) t
    refine XS.aloadN X0.here hx rfl (hb hby d2_0) rfl rfl ?_
    exact k
  obtain ⟨cq1, kq1, qa1, qb1, qc1⟩ := isOf hZ e0 E_a0
  obtain ⟨_, _, ⟨T1, L1, k1, n1⟩, -, X1, ⟨Lc1, hQ1, l1, y1, z1⟩, st1⟩ := X0.virtualBackUp hx (owner := "java/lang/Enum") (x := (⟨"com/example/meshwatch/meshwatch/Relation", "ordinal", "()I"⟩ : MethodName)) (y := (⟨"java/lang/Enum", "ordinal", "()I"⟩ : MethodName)) hown (mvT hZ (hw _ (List.mem_of_getElem? (i := 13) rfl))) (mvT hZ (hw _ (List.mem_of_getElem? (i := 14) rfl))) (mvT hZ (hw _ (List.mem_of_getElem? (i := 15) rfl))) (by decide) (mvT hZ (hw _ (List.mem_of_getElem? (i := 17) rfl))) (mvT hZ (hw _ (List.mem_of_getElem? (i := 16) rfl))) (backOf (W := 0) (rmo5 l Z ar hw [] a0 h0 n0 Z0 F_ordinal_a0) hZ (hw _ (List.mem_of_getElem? (i := 19) rfl)) (hw _ (List.mem_of_getElem? (i := 18) rfl)) (by decide) (by decide)) qa1 qc1 (g := (mkF m 1 #[.val (.ref a0)] [(.ref a0)])) rfl (by rw [hml]; rfl) (Steps.refl _) (argsL := []) (rest := []) (lenOf pdy5_0 rfl) rfl (by show 2 * 0 + _ ≤ _; exact Nat.le_of_eq rfl) (hb hby d2_1) (fun _ _ => ⟨rfl, e0, (by decide : 0 + 0 ≤ _), (by decide : 0 + 0 ≤ _)⟩)
  dsimp only [Pt.U, Pt.locs, Pt.cells, Pt.slots] at X1 l1 y1 z1 st1 hQ1
  subst l1 y1 z1
  obtain ⟨rfl, N1q, e1⟩ := hQ1
  have n2 := Fr.app N0 N1q
  refine own_trH (T' := T1) (g' := (mkF m 4 #[.val (.ref a0)] [(.int (5 : Int32))])) st1 ?_
  refine own_stH (T' := T1) (g' := (mkF m 79 #[.val (.ref a0)] [])) (fun t k => ?_) ?_
  · show Steps p.tables e below (T1.setTop (mkF m 4 #[.val (.ref a0)] [(.int (5 : Int32))])) t
    refine XS.tswIn X1.here hx rfl (pc0 := 4) (pc' := 79) rfl (hb hby d2_4) rfl (by decide) rfl (by decide) (by decide) ?_
    exact k
  obtain ⟨x3, T3, h3, k3, y3, kk3, X3, e3, E3, hS3, hk3, -, -, B3, Fc3, Fv3, Av3, -, -, hC3, -, -, st3⟩ := ldcCH (s := s) (vm0 := s.vm) X1 hx hZ hown (hw _ (List.mem_of_getElem? (i := 78) rfl)) (own_sa hw) e1 (State.WarmedH.since (State.WarmedH.refl s) 0) (Nat.zero_le _) (own_ew hw) (by decide) hI (vs := [(.int (33 : Int32)), (.int (61 : Int32))]) (z := 2) ⟨by decide, rfl⟩ (by decide) (by decide) (g := (mkF m 79 #[.val (.ref a0)] [])) rfl (hb hby d2_79) (n := 8) (by decide) (by decide) (by decide) (by decide)
  have f4 := E_a0.ext E3
  have f5 := F_ordinal_a0.ext E3
  have z6 := Nat.le_trans Z0 E3.1
  have k7 := K0.ext E3
  refine own_stH (T' := T3) (g' := (mkF m 81 #[.val (.ref a0)] [(.ref x3)])) st3 ?_
  refine own_retAH X3 hx hlk hS3 (by rw [(e3 : T3.heap = h3)]; exact hk3) (by rw [hh, (e3 : T3.heap = h3)]; exact hC3) Bd.returns rfl rfl (hb hby d2_81) (by decide) (by decide) ?_
  show Qy5 Z a0 h0 n0 (some (.ref x3)) T3.heap _
  rw [(e3 : T3.heap = h3)]
  exact ⟨x3, y3, kk3, rfl, n2, k7, B3, Fc3, Fv3, Av3⟩
theorem d1_44 : decode method_2_code 44 = .ok (.getstatic 25, 3) := by decide +kernel
theorem d1_47 : decode method_2_code 47 = .ok (.areturn, 1) := by decide +kernel
theorem pnk5 : plainName "com/example/meshwatch/meshwatch/RelationSymbolPinLaw" = true := by first | (simp [plainName, overriddenIn]; done) | decide +kernel
theorem efk5 (m : MethodId)  : entryFrame m #[(.int (5 : Int32))] 1 = mkF m 0 #[.val (.int (5 : Int32))] [] := by first | (simp [entryFrame, mkF, argsToLocals, Value.category]; done) | rfl
def Qk5 (Z : State) (w_NOT_EQUAL : Addr) (h0 : Heap) (n0 : Nat) (v : Option Value) (h : Heap) (L : List Loc) : Prop := v = some (.ref w_NOT_EQUAL) ∧ Fr n0 L ∧ h = h0
set_option maxRecDepth 65536 in
set_option maxHeartbeats 40000000 in
theorem rmk5 (l : Launch) (Z : State) (ar : Array Value) (hw : ∀ d ∈ tables_1, d.before ar Z = true) (ws : List Jvm.Cond) (w_NOT_EQUAL : Addr) (h0 : Heap) (n0 : Nat) (Z0 : n0 ≤ h0.size) (S_NOT_EQUAL : Sta Z h0 "com/example/meshwatch/meshwatch/Relation" "NOT_EQUAL" "Lcom/example/meshwatch/meshwatch/Relation;" (.ref w_NOT_EQUAL)) :
    MetFree l (⟨"com/example/meshwatch/meshwatch/RelationSymbolPinLaw", "pick", "(I)Lcom/example/meshwatch/meshwatch/Relation;"⟩ : MethodName) (head1 (Jvm.Cond.code (⟨"com/example/meshwatch/meshwatch/RelationSymbolPinLaw", "pick", "(I)Lcom/example/meshwatch/meshwatch/Relation;"⟩ : MethodName) method_2_code 1 (some (.object "com/example/meshwatch/meshwatch/Relation")) :: ws) ({ frames := 0, cells := 0, slots := 0, locals := 0 } : Room)) (fun a U => a = #[(.int (5 : Int32))] ∧ Z.Warmed39 U.vm ∧ U.heap = h0) (fun _ _ _ _ _ => True) (fun _ U o U' => ∃ v L, o = .returned v ∧ Qk5 Z w_NOT_EQUAL h0 n0 v U'.heap L ∧ FrameEnd U o U' L ({ frames := 0, cells := 0, slots := 0, locals := 0 } : Room).cells ({ frames := 0, cells := 0, slots := 0, locals := 0 } : Room).slots) := by
  refine MetFree.of_bodySF (plainFor_of_name pnk5) hisR ?_
  intro p e s m args below meth c s₁ Bd hml0 hP hK
  obtain ⟨rfl, hZ, hh⟩ := hP
  have hx := Bd.exec
  have hby := Bd.bytes
  have hlk := Bd.notSynchronized
  have hml : c.maxLocals = 1 := hml0
  have hown : s.vm.findClass "com/example/meshwatch/meshwatch/RelationSymbolPinLaw" = some m.cls := findClass_of_methodNamed Bd.named
  have hnm := (name_of_methodNamed Bd.named Bd.method).1
  have X0 : Stand p l e ({ frames := 0, cells := 0, slots := 0, locals := 0 } : Room) s m #[(.int (5 : Int32))] below meth c s₁ [] 0 0 := Stand.of_body Bd
  have e0 : s₁.heap = h0 := by rw [← hh, Bd.state]; rfl
  have N0 := Fr.nil n0
  have K0 := Keep.refl h0 []
  refine own_enter (Q := Qk5 Z w_NOT_EQUAL h0 n0) (efk5 m ) ?_
  refine own_st (T' := s₁) (g' := (mkF m 44 #[.val (.int (5 : Int32))] [])) (fun t k => ?_) ?_
  · show Steps p.tables e below (s₁.setTop (mkF m 0 #[.val (.int (5 : Int32))] [])) t
    refine XS.iloadN X0.here hx rfl (hb hby d1_0) rfl ?_
    show Steps p.tables e below (s₁.setTop (mkF m 1 #[.val (.int (5 : Int32))] [(.int (5 : Int32))])) t
    refine XS.ifYes X0.here hx rfl (pc0 := 1) (pc' := 8) rfl (hb hby d1_1) rfl (by decide) (by decide) (by decide) ?_
    show Steps p.tables e below (s₁.setTop (mkF m 8 #[.val (.int (5 : Int32))] [])) t
    refine XS.iloadN X0.here hx rfl (hb hby d1_8) rfl ?_
    show Steps p.tables e below (s₁.setTop (mkF m 9 #[.val (.int (5 : Int32))] [(.int (5 : Int32))])) t
    refine XS.iconst X0.here hx rfl (hb hby d1_9) ?_
    show Steps p.tables e below (s₁.setTop (mkF m 10 #[.val (.int (5 : Int32))] [(.int (1 : Int32)), (.int (5 : Int32))])) t
    refine XS.icmpYes X0.here hx rfl (pc0 := 10) (pc' := 17) rfl (hb hby d1_10) rfl (by decide) (by decide) (by decide) ?_
    show Steps p.tables e below (s₁.setTop (mkF m 17 #[.val (.int (5 : Int32))] [])) t
    refine XS.iloadN X0.here hx rfl (hb hby d1_17) rfl ?_
    show Steps p.tables e below (s₁.setTop (mkF m 18 #[.val (.int (5 : Int32))] [(.int (5 : Int32))])) t
    refine XS.iconst X0.here hx rfl (hb hby d1_18) ?_
    show Steps p.tables e below (s₁.setTop (mkF m 19 #[.val (.int (5 : Int32))] [(.int (2 : Int32)), (.int (5 : Int32))])) t
    refine XS.icmpYes X0.here hx rfl (pc0 := 19) (pc' := 26) rfl (hb hby d1_19) rfl (by decide) (by decide) (by decide) ?_
    show Steps p.tables e below (s₁.setTop (mkF m 26 #[.val (.int (5 : Int32))] [])) t
    refine XS.iloadN X0.here hx rfl (hb hby d1_26) rfl ?_
    show Steps p.tables e below (s₁.setTop (mkF m 27 #[.val (.int (5 : Int32))] [(.int (5 : Int32))])) t
    refine XS.iconst X0.here hx rfl (hb hby d1_27) ?_
    show Steps p.tables e below (s₁.setTop (mkF m 28 #[.val (.int (5 : Int32))] [(.int (3 : Int32)), (.int (5 : Int32))])) t
    refine XS.icmpYes X0.here hx rfl (pc0 := 28) (pc' := 35) rfl (hb hby d1_28) rfl (by decide) (by decide) (by decide) ?_
    show Steps p.tables e below (s₁.setTop (mkF m 35 #[.val (.int (5 : Int32))] [])) t
    refine XS.iloadN X0.here hx rfl (hb hby d1_35) rfl ?_
    show Steps p.tables e below (s₁.setTop (mkF m 36 #[.val (.int (5 : Int32))] [(.int (5 : Int32))])) t
    refine XS.iconst X0.here hx rfl (hb hby d1_36) ?_
    show Steps p.tables e below (s₁.setTop (mkF m 37 #[.val (.int (5 : Int32))] [(.int (4 : Int32)), (.int (5 : Int32))])) t
    refine XS.icmpYes X0.here hx rfl (pc0 := 37) (pc' := 44) rfl (hb hby d1_37) rfl (by decide) (by decide) (by decide) ?_
    exact k
  obtain ⟨T1, X1, e1, st1⟩ := getS2 X0 hx hZ hown (host := "") (Or.inl (hw _ (List.mem_of_getElem? (i := 76) rfl))) Via.refl e0 S_NOT_EQUAL (g := (mkF m 44 #[.val (.int (5 : Int32))] [])) rfl (hb hby d1_44)
  refine own_st (T' := T1) (g' := (mkF m 47 #[.val (.int (5 : Int32))] [(.ref w_NOT_EQUAL)])) st1 ?_
  refine own_retA X1 hx hlk Bd.returns rfl rfl (hb hby d1_47) (by decide) (by decide) ?_
  show Qk5 Z w_NOT_EQUAL h0 n0 (some (.ref w_NOT_EQUAL)) T1.heap _
  rw [(e1 : T1.heap = h0)]
  exact ⟨rfl, N0, rfl⟩
theorem d5_0 : decode jdk_42_method_152_code 0 = .ok (.getstatic 38, 3) := by decide +kernel
theorem d5_3 : decode jdk_42_method_152_code 3 = .ok (.ifCond .eq 10, 3) := by decide +kernel
theorem d5_6 : decode jdk_42_method_152_code 6 = .ok (.aload_n 0, 1) := by decide +kernel
theorem d5_7 : decode jdk_42_method_152_code 7 = .ok (.getfield 15, 3) := by decide +kernel
theorem d5_10 : decode jdk_42_method_152_code 10 = .ok (.goto 4, 3) := by decide +kernel
theorem d5_14 : decode jdk_42_method_152_code 14 = .ok (.ireturn, 1) := by decide +kernel
theorem pn5 : plainName "java/lang/String" = true := by first | (simp [plainName, overriddenIn]; done) | decide +kernel
theorem ef5 (m : MethodId) (a0 : Addr) : entryFrame m #[(.ref a0)] 1 = mkF m 0 #[.val (.ref a0)] [] := by first | (simp [entryFrame, mkF, argsToLocals, Value.category]; done) | rfl
def Q5 (Z : State) (a0 : Addr) (w_CS : Int32) (h0 : Heap) (n0 : Nat) (v : Option Value) (h : Heap) (L : List Loc) : Prop := v = some (.int (0 : Int32)) ∧ Fr n0 L ∧ h = h0
set_option maxRecDepth 65536 in
set_option maxHeartbeats 40000000 in
theorem rm5 (l : Launch) (Z : State) (ar : Array Value) (hw : ∀ d ∈ tables_1, d.before ar Z = true) (ws : List Jvm.Cond) (a0 : Addr) (w_CS : Int32) (h0 : Heap) (n0 : Nat) (Z0 : n0 ≤ h0.size) (E_a0 : Exa Z h0 a0 "java/lang/String") (F_coder_a0 : Fld Z h0 a0 "java/lang/String" "coder" "B" (.int (0 : Int32))) (S_COMPACT_STRINGS : Sta Z h0 "java/lang/String" "COMPACT_STRINGS" "Z" (.int w_CS)) (hb3 : ¬ (w_CS = (0 : Int32))) :
    MetFree l (⟨"java/lang/String", "coder", "()B"⟩ : MethodName) (head1 (Jvm.Cond.code (⟨"java/lang/String", "coder", "()B"⟩ : MethodName) jdk_42_method_152_code 1 (some .byte) :: ws) ({ frames := 0, cells := 0, slots := 0, locals := 0 } : Room)) (fun a U => a = #[(.ref a0)] ∧ Z.Warmed39 U.vm ∧ U.heap = h0) (fun _ _ _ _ _ => True) (fun _ U o U' => ∃ v L, o = .returned v ∧ Q5 Z a0 w_CS h0 n0 v U'.heap L ∧ FrameEnd U o U' L ({ frames := 0, cells := 0, slots := 0, locals := 0 } : Room).cells ({ frames := 0, cells := 0, slots := 0, locals := 0 } : Room).slots) := by
  refine MetFree.of_bodySF (plainFor_of_name pn5) hisR ?_
  intro p e s m args below meth c s₁ Bd hml0 hP hK
  obtain ⟨rfl, hZ, hh⟩ := hP
  have hx := Bd.exec
  have hby := Bd.bytes
  have hlk := Bd.notSynchronized
  have hml : c.maxLocals = 1 := hml0
  have hown : s.vm.findClass "java/lang/String" = some m.cls := findClass_of_methodNamed Bd.named
  have hnm := (name_of_methodNamed Bd.named Bd.method).1
  have X0 : Stand p l e ({ frames := 0, cells := 0, slots := 0, locals := 0 } : Room) s m #[(.ref a0)] below meth c s₁ [] 0 0 := Stand.of_body Bd
  have e0 : s₁.heap = h0 := by rw [← hh, Bd.state]; rfl
  have N0 := Fr.nil n0
  have K0 := Keep.refl h0 []
  refine own_enter (Q := Q5 Z a0 w_CS h0 n0) (ef5 m a0) ?_
  obtain ⟨T1, X1, e1, st1⟩ := getS2 X0 hx hZ hown (host := "") (Or.inl (hw _ (List.mem_of_getElem? (i := 41) rfl))) Via.refl e0 S_COMPACT_STRINGS (g := (mkF m 0 #[.val (.ref a0)] [])) rfl (hb hby d5_0)
  refine own_st (T' := T1) (g' := (mkF m 3 #[.val (.ref a0)] [(.int w_CS)])) st1 ?_
  refine own_st (T' := T1) (g' := (mkF m 7 #[.val (.ref a0)] [(.ref a0)])) (fun t k => ?_) ?_
  · show Steps p.tables e below (T1.setTop (mkF m 3 #[.val (.ref a0)] [(.int w_CS)])) t
    refine XS.ifNo X1.here hx rfl (hb hby d5_3) rfl ((if0 _ _).trans (feq (hb3 : ¬ (w_CS = (0 : Int32)))).1) ?_
    show Steps p.tables e below (T1.setTop (mkF m 6 #[.val (.ref a0)] [])) t
    refine XS.aloadN X1.here hx rfl (hb hby d5_6) rfl rfl ?_
    exact k
  obtain ⟨T2, X2, e2, st2⟩ := getF X1 hx hZ hown (host := "") (Or.inl (hw _ (List.mem_of_getElem? (i := 42) rfl))) Via.refl e1 F_coder_a0 (g := (mkF m 7 #[.val (.ref a0)] [(.ref a0)])) rfl rfl (hb hby d5_7)
  refine own_st (T' := T2) (g' := (mkF m 10 #[.val (.ref a0)] [(.int (0 : Int32))])) st2 ?_
  refine own_st (T' := T2) (g' := (mkF m 14 #[.val (.ref a0)] [(.int (0 : Int32))])) (fun t k => ?_) ?_
  · show Steps p.tables e below (T2.setTop (mkF m 10 #[.val (.ref a0)] [(.int (0 : Int32))])) t
    refine XS.goto X2.here hx rfl (pc0 := 10) (pc' := 14) rfl (hb hby d5_10) (by decide) (by decide) ?_
    exact k
  refine own_retB X2 hx hlk Bd.returns (hb hby d5_14) (by decide) (by decide) (by decide) ?_
  show Q5 Z a0 w_CS h0 n0 (some (.int (0 : Int32))) T2.heap _
  rw [(e2 : T2.heap = h0)]
  exact ⟨rfl, N0, rfl⟩
theorem d7_0 : decode jdk_42_method_154_code 0 = .ok (.getstatic 38, 3) := by decide +kernel
theorem d7_3 : decode jdk_42_method_154_code 3 = .ok (.ifCond .eq 14, 3) := by decide +kernel
theorem d7_6 : decode jdk_42_method_154_code 6 = .ok (.aload_n 0, 1) := by decide +kernel
theorem d7_7 : decode jdk_42_method_154_code 7 = .ok (.getfield 15, 3) := by decide +kernel
theorem d7_10 : decode jdk_42_method_154_code 10 = .ok (.ifCond .ne 7, 3) := by decide +kernel
theorem d7_13 : decode jdk_42_method_154_code 13 = .ok (.iconst 1, 1) := by decide +kernel
theorem d7_14 : decode jdk_42_method_154_code 14 = .ok (.goto 4, 3) := by decide +kernel
theorem d7_18 : decode jdk_42_method_154_code 18 = .ok (.ireturn, 1) := by decide +kernel
theorem pn7 : plainName "java/lang/String" = true := by first | (simp [plainName, overriddenIn]; done) | decide +kernel
theorem ef7 (m : MethodId) (a0 : Addr) : entryFrame m #[(.ref a0)] 1 = mkF m 0 #[.val (.ref a0)] [] := by first | (simp [entryFrame, mkF, argsToLocals, Value.category]; done) | rfl
def Q7 (Z : State) (a0 : Addr) (w_CS : Int32) (h0 : Heap) (n0 : Nat) (v : Option Value) (h : Heap) (L : List Loc) : Prop := v = some (.int (1 : Int32)) ∧ Fr n0 L ∧ h = h0
set_option maxRecDepth 65536 in
set_option maxHeartbeats 40000000 in
theorem rm7 (l : Launch) (Z : State) (ar : Array Value) (hw : ∀ d ∈ tables_1, d.before ar Z = true) (ws : List Jvm.Cond) (a0 : Addr) (w_CS : Int32) (h0 : Heap) (n0 : Nat) (Z0 : n0 ≤ h0.size) (E_a0 : Exa Z h0 a0 "java/lang/String") (F_coder_a0 : Fld Z h0 a0 "java/lang/String" "coder" "B" (.int (0 : Int32))) (S_COMPACT_STRINGS : Sta Z h0 "java/lang/String" "COMPACT_STRINGS" "Z" (.int w_CS)) (hb3 : ¬ (w_CS = (0 : Int32))) :
    MetFree l (⟨"java/lang/String", "isLatin1", "()Z"⟩ : MethodName) (head1 (Jvm.Cond.code (⟨"java/lang/String", "isLatin1", "()Z"⟩ : MethodName) jdk_42_method_154_code 1 (some .boolean) :: ws) ({ frames := 0, cells := 0, slots := 0, locals := 0 } : Room)) (fun a U => a = #[(.ref a0)] ∧ Z.Warmed39 U.vm ∧ U.heap = h0) (fun _ _ _ _ _ => True) (fun _ U o U' => ∃ v L, o = .returned v ∧ Q7 Z a0 w_CS h0 n0 v U'.heap L ∧ FrameEnd U o U' L ({ frames := 0, cells := 0, slots := 0, locals := 0 } : Room).cells ({ frames := 0, cells := 0, slots := 0, locals := 0 } : Room).slots) := by
  refine MetFree.of_bodySF (plainFor_of_name pn7) hisR ?_
  intro p e s m args below meth c s₁ Bd hml0 hP hK
  obtain ⟨rfl, hZ, hh⟩ := hP
  have hx := Bd.exec
  have hby := Bd.bytes
  have hlk := Bd.notSynchronized
  have hml : c.maxLocals = 1 := hml0
  have hown : s.vm.findClass "java/lang/String" = some m.cls := findClass_of_methodNamed Bd.named
  have hnm := (name_of_methodNamed Bd.named Bd.method).1
  have X0 : Stand p l e ({ frames := 0, cells := 0, slots := 0, locals := 0 } : Room) s m #[(.ref a0)] below meth c s₁ [] 0 0 := Stand.of_body Bd
  have e0 : s₁.heap = h0 := by rw [← hh, Bd.state]; rfl
  have N0 := Fr.nil n0
  have K0 := Keep.refl h0 []
  refine own_enter (Q := Q7 Z a0 w_CS h0 n0) (ef7 m a0) ?_
  obtain ⟨T1, X1, e1, st1⟩ := getS2 X0 hx hZ hown (host := "") (Or.inl (hw _ (List.mem_of_getElem? (i := 41) rfl))) Via.refl e0 S_COMPACT_STRINGS (g := (mkF m 0 #[.val (.ref a0)] [])) rfl (hb hby d7_0)
  refine own_st (T' := T1) (g' := (mkF m 3 #[.val (.ref a0)] [(.int w_CS)])) st1 ?_
  refine own_st (T' := T1) (g' := (mkF m 7 #[.val (.ref a0)] [(.ref a0)])) (fun t k => ?_) ?_
  · show Steps p.tables e below (T1.setTop (mkF m 3 #[.val (.ref a0)] [(.int w_CS)])) t
    refine XS.ifNo X1.here hx rfl (hb hby d7_3) rfl ((if0 _ _).trans (feq (hb3 : ¬ (w_CS = (0 : Int32)))).1) ?_
    show Steps p.tables e below (T1.setTop (mkF m 6 #[.val (.ref a0)] [])) t
    refine XS.aloadN X1.here hx rfl (hb hby d7_6) rfl rfl ?_
    exact k
  obtain ⟨T2, X2, e2, st2⟩ := getF X1 hx hZ hown (host := "") (Or.inl (hw _ (List.mem_of_getElem? (i := 42) rfl))) Via.refl e1 F_coder_a0 (g := (mkF m 7 #[.val (.ref a0)] [(.ref a0)])) rfl rfl (hb hby d7_7)
  refine own_st (T' := T2) (g' := (mkF m 10 #[.val (.ref a0)] [(.int (0 : Int32))])) st2 ?_
  refine own_st (T' := T2) (g' := (mkF m 18 #[.val (.ref a0)] [(.int (1 : Int32))])) (fun t k => ?_) ?_
  · show Steps p.tables e below (T2.setTop (mkF m 10 #[.val (.ref a0)] [(.int (0 : Int32))])) t
    refine XS.ifNo X2.here hx rfl (hb hby d7_10) rfl (by decide) ?_
    show Steps p.tables e below (T2.setTop (mkF m 13 #[.val (.ref a0)] [])) t
    refine XS.iconst X2.here hx rfl (hb hby d7_13) ?_
    show Steps p.tables e below (T2.setTop (mkF m 14 #[.val (.ref a0)] [(.int (1 : Int32))])) t
    refine XS.goto X2.here hx rfl (pc0 := 14) (pc' := 18) rfl (hb hby d7_14) (by decide) (by decide) ?_
    exact k
  refine own_retZ X2 hx hlk Bd.returns (hb hby d7_18) rfl (by decide) (by decide) ?_
  show Q7 Z a0 w_CS h0 n0 (some (.int (1 : Int32))) T2.heap _
  rw [(e2 : T2.heap = h0)]
  exact ⟨rfl, N0, rfl⟩
theorem d4_0 : decode jdk_42_method_54_code 0 = .ok (.aload_n 0, 1) := by decide +kernel
theorem d4_1 : decode jdk_42_method_54_code 1 = .ok (.getfield 9, 3) := by decide +kernel
theorem d4_4 : decode jdk_42_method_54_code 4 = .ok (.arraylength, 1) := by decide +kernel
theorem d4_5 : decode jdk_42_method_54_code 5 = .ok (.aload_n 0, 1) := by decide +kernel
theorem d4_6 : decode jdk_42_method_54_code 6 = .ok (.invokevirtual 335, 3) := by decide +kernel
theorem d4_9 : decode jdk_42_method_54_code 9 = .ok (.ishr, 1) := by decide +kernel
theorem d4_10 : decode jdk_42_method_54_code 10 = .ok (.ireturn, 1) := by decide +kernel
theorem pnlen1 : plainName "java/lang/String" = true := by first | (simp [plainName, overriddenIn]; done) | decide +kernel
theorem pdlen1_0 : parseMethodDescriptor "()B" = some ⟨[], some .byte⟩ := by decide +kernel
theorem eflen1 (m : MethodId) (a0 : Addr) : entryFrame m #[(.ref a0)] 1 = mkF m 0 #[.val (.ref a0)] [] := by first | (simp [entryFrame, mkF, argsToLocals, Value.category]; done) | rfl
def Qlen1 (Z : State) (a0 : Addr) (w_value_a0 : Addr) (kk_w_value_a0 : ClassId) (el0 : Int32) (w_CS : Int32) (h0 : Heap) (n0 : Nat) (v : Option Value) (h : Heap) (L : List Loc) : Prop := v = some (.int (1 : Int32)) ∧ Fr n0 L ∧ h = h0
set_option maxRecDepth 65536 in
set_option maxHeartbeats 40000000 in
theorem rmlen1 (l : Launch) (Z : State) (ar : Array Value) (hw : ∀ d ∈ tables_1, d.before ar Z = true) (ws : List Jvm.Cond) (a0 : Addr) (w_value_a0 : Addr) (kk_w_value_a0 : ClassId) (el0 : Int32) (w_CS : Int32) (h0 : Heap) (n0 : Nat) (Z0 : n0 ≤ h0.size) (E_a0 : Exa Z h0 a0 "java/lang/String") (F_coder_a0 : Fld Z h0 a0 "java/lang/String" "coder" "B" (.int (0 : Int32))) (F_value_a0 : Fld Z h0 a0 "java/lang/String" "value" "[B" (.ref w_value_a0)) (V_w_value_a0 : Arv Z h0 w_value_a0 kk_w_value_a0 .byte (1 : Int32) [(.int el0)] (.int (0 : Int32))) (S_COMPACT_STRINGS : Sta Z h0 "java/lang/String" "COMPACT_STRINGS" "Z" (.int w_CS)) (h6_hb3 : ¬ (w_CS = (0 : Int32))) :
    MetFree l (⟨"java/lang/String", "length", "()I"⟩ : MethodName) (head1 (Jvm.Cond.code (⟨"java/lang/String", "length", "()I"⟩ : MethodName) jdk_42_method_54_code 1 (some .int) :: ws) ({ frames := 1, cells := 0, slots := 0, locals := 13 } : Room)) (fun a U => a = #[(.ref a0)] ∧ Z.Warmed39 U.vm ∧ U.heap = h0) (fun _ _ _ _ _ => True) (fun _ U o U' => ∃ v L, o = .returned v ∧ Qlen1 Z a0 w_value_a0 kk_w_value_a0 el0 w_CS h0 n0 v U'.heap L ∧ FrameEnd U o U' L ({ frames := 1, cells := 0, slots := 0, locals := 13 } : Room).cells ({ frames := 1, cells := 0, slots := 0, locals := 13 } : Room).slots) := by
  refine MetFree.of_bodySF (plainFor_of_name pnlen1) hisR ?_
  intro p e s m args below meth c s₁ Bd hml0 hP hK
  obtain ⟨rfl, hZ, hh⟩ := hP
  have hx := Bd.exec
  have hby := Bd.bytes
  have hlk := Bd.notSynchronized
  have hml : c.maxLocals = 1 := hml0
  have hown : s.vm.findClass "java/lang/String" = some m.cls := findClass_of_methodNamed Bd.named
  have hnm := (name_of_methodNamed Bd.named Bd.method).1
  have X0 : Stand p l e ({ frames := 1, cells := 0, slots := 0, locals := 13 } : Room) s m #[(.ref a0)] below meth c s₁ [] 0 0 := Stand.of_body Bd
  have e0 : s₁.heap = h0 := by rw [← hh, Bd.state]; rfl
  have N0 := Fr.nil n0
  have K0 := Keep.refl h0 []
  refine own_enter (Q := Qlen1 Z a0 w_value_a0 kk_w_value_a0 el0 w_CS h0 n0) (eflen1 m a0) ?_
  refine own_st (T' := s₁) (g' := (mkF m 1 #[.val (.ref a0)] [(.ref a0)])) (fun t k => ?_) ?_
  · show Steps p.tables e below (s₁.setTop (mkF m 0 #[.val (.ref a0)] [])) t
    refine XS.aloadN X0.here hx rfl (hb hby d4_0) rfl rfl ?_
    exact k
  obtain ⟨T1, X1, e1, st1⟩ := getF X0 hx hZ hown (host := "") (Or.inl (hw _ (List.mem_of_getElem? (i := 35) rfl))) Via.refl e0 F_value_a0 (g := (mkF m 1 #[.val (.ref a0)] [(.ref a0)])) rfl rfl (hb hby d4_1)
  refine own_st (T' := T1) (g' := (mkF m 4 #[.val (.ref a0)] [(.ref w_value_a0)])) st1 ?_
  obtain ⟨c2, r2a, -, r2c, r2d, -, -⟩ := id V_w_value_a0
  refine own_st (T' := T1) (g' := (mkF m 6 #[.val (.ref a0)] [(.ref a0), (.int (1 : Int32))])) (fun t k => ?_) ?_
  · show Steps p.tables e below (T1.setTop (mkF m 4 #[.val (.ref a0)] [(.ref w_value_a0)])) t
    refine X1.arraylength hx (by rw [e1]; exact r2a.1) (State.isArrayOf_alike hZ.alike r2a.2.1) (g := (mkF m 4 #[.val (.ref a0)] [(.ref w_value_a0)])) rfl rfl (hb hby d4_4) _ ?_
    rw [len_of r2c r2d]
    show Steps p.tables e below (T1.setTop (mkF m 5 #[.val (.ref a0)] [(.int (1 : Int32))])) t
    refine XS.aloadN X1.here hx rfl (hb hby d4_5) rfl rfl ?_
    exact k
  obtain ⟨cq3, kq3, qa3, qb3, qc3⟩ := isOf hZ e1 E_a0
  obtain ⟨_, _, ⟨T3, L3, k3, n3⟩, -, X3, ⟨Lc3, hQ3, l3, y3, z3⟩, st3⟩ := X1.virtualBack hx (y := (⟨"java/lang/String", "coder", "()B"⟩ : MethodName)) (z := (⟨"java/lang/String", "coder", "()B"⟩ : MethodName)) hown (mvT hZ (hw _ (List.mem_of_getElem? (i := 36) rfl))) (mvT hZ (hw _ (List.mem_of_getElem? (i := 37) rfl))) (notFace_of_selects (args := #[]) (mvT hZ (hw _ (List.mem_of_getElem? (i := 39) rfl)))) (mvT hZ (hw _ (List.mem_of_getElem? (i := 39) rfl))) (mvT hZ (hw _ (List.mem_of_getElem? (i := 38) rfl))) (by decide) (backOf (W := 1) (rm5 l Z ar hw [] a0 w_CS h0 n0 Z0 E_a0 F_coder_a0 S_COMPACT_STRINGS h6_hb3) hZ (hw _ (List.mem_of_getElem? (i := 40) rfl)) (hw _ (List.mem_of_getElem? (i := 23) rfl)) (by decide) (by decide)) qa3 qc3 (g := (mkF m 6 #[.val (.ref a0)] [(.ref a0), (.int (1 : Int32))])) rfl (by rw [hml]; rfl) (Steps.refl _) (argsL := []) (rest := [(.int (1 : Int32))]) (lenOf pdlen1_0 rfl) rfl (by show 2 * 0 + _ ≤ _; exact Nat.le_of_eq rfl) (hb hby d4_6) (fun _ _ => ⟨rfl, e1, (by decide : 0 + 0 ≤ _), (by decide : 0 + 0 ≤ _)⟩)
  dsimp only [Pt.U, Pt.locs, Pt.cells, Pt.slots] at X3 l3 y3 z3 st3 hQ3
  subst l3 y3 z3
  obtain ⟨rfl, N3q, e3⟩ := hQ3
  have n4 := Fr.app N0 N3q
  refine own_tr (T' := T3) (g' := (mkF m 9 #[.val (.ref a0)] [(.int (0 : Int32)), (.int (1 : Int32))])) st3 ?_
  refine own_st (T' := T3) (g' := (mkF m 10 #[.val (.ref a0)] [(.int (1 : Int32))])) (fun t k => ?_) ?_
  · show Steps p.tables e below (T3.setTop (mkF m 9 #[.val (.ref a0)] [(.int (0 : Int32)), (.int (1 : Int32))])) t
    refine XS.ishr X3.here hx rfl (hb hby d4_9) rfl ?_
    exact k
  refine own_retI X3 hx hlk Bd.returns (hb hby d4_10) (by decide) (by decide) ?_
  show Qlen1 Z a0 w_value_a0 kk_w_value_a0 el0 w_CS h0 n0 (some (.int (1 : Int32))) T3.heap _
  rw [(e3 : T3.heap = h0)]
  exact ⟨rfl, n4, rfl⟩
theorem pnlen2 : plainName "java/lang/String" = true := by first | (simp [plainName, overriddenIn]; done) | decide +kernel
theorem pdlen2_0 : parseMethodDescriptor "()B" = some ⟨[], some .byte⟩ := by decide +kernel
theorem eflen2 (m : MethodId) (a0 : Addr) : entryFrame m #[(.ref a0)] 1 = mkF m 0 #[.val (.ref a0)] [] := by first | (simp [entryFrame, mkF, argsToLocals, Value.category]; done) | rfl
def Qlen2 (Z : State) (a0 : Addr) (w_value_a0 : Addr) (kk_w_value_a0 : ClassId) (el0 : Int32) (el1 : Int32) (w_CS : Int32) (h0 : Heap) (n0 : Nat) (v : Option Value) (h : Heap) (L : List Loc) : Prop := v = some (.int (2 : Int32)) ∧ Fr n0 L ∧ h = h0
set_option maxRecDepth 65536 in
set_option maxHeartbeats 40000000 in
theorem rmlen2 (l : Launch) (Z : State) (ar : Array Value) (hw : ∀ d ∈ tables_1, d.before ar Z = true) (ws : List Jvm.Cond) (a0 : Addr) (w_value_a0 : Addr) (kk_w_value_a0 : ClassId) (el0 : Int32) (el1 : Int32) (w_CS : Int32) (h0 : Heap) (n0 : Nat) (Z0 : n0 ≤ h0.size) (E_a0 : Exa Z h0 a0 "java/lang/String") (F_coder_a0 : Fld Z h0 a0 "java/lang/String" "coder" "B" (.int (0 : Int32))) (F_value_a0 : Fld Z h0 a0 "java/lang/String" "value" "[B" (.ref w_value_a0)) (V_w_value_a0 : Arv Z h0 w_value_a0 kk_w_value_a0 .byte (2 : Int32) [(.int el0), (.int el1)] (.int (0 : Int32))) (S_COMPACT_STRINGS : Sta Z h0 "java/lang/String" "COMPACT_STRINGS" "Z" (.int w_CS)) (h6_hb3 : ¬ (w_CS = (0 : Int32))) :
    MetFree l (⟨"java/lang/String", "length", "()I"⟩ : MethodName) (head1 (Jvm.Cond.code (⟨"java/lang/String", "length", "()I"⟩ : MethodName) jdk_42_method_54_code 1 (some .int) :: ws) ({ frames := 1, cells := 0, slots := 0, locals := 13 } : Room)) (fun a U => a = #[(.ref a0)] ∧ Z.Warmed39 U.vm ∧ U.heap = h0) (fun _ _ _ _ _ => True) (fun _ U o U' => ∃ v L, o = .returned v ∧ Qlen2 Z a0 w_value_a0 kk_w_value_a0 el0 el1 w_CS h0 n0 v U'.heap L ∧ FrameEnd U o U' L ({ frames := 1, cells := 0, slots := 0, locals := 13 } : Room).cells ({ frames := 1, cells := 0, slots := 0, locals := 13 } : Room).slots) := by
  refine MetFree.of_bodySF (plainFor_of_name pnlen2) hisR ?_
  intro p e s m args below meth c s₁ Bd hml0 hP hK
  obtain ⟨rfl, hZ, hh⟩ := hP
  have hx := Bd.exec
  have hby := Bd.bytes
  have hlk := Bd.notSynchronized
  have hml : c.maxLocals = 1 := hml0
  have hown : s.vm.findClass "java/lang/String" = some m.cls := findClass_of_methodNamed Bd.named
  have hnm := (name_of_methodNamed Bd.named Bd.method).1
  have X0 : Stand p l e ({ frames := 1, cells := 0, slots := 0, locals := 13 } : Room) s m #[(.ref a0)] below meth c s₁ [] 0 0 := Stand.of_body Bd
  have e0 : s₁.heap = h0 := by rw [← hh, Bd.state]; rfl
  have N0 := Fr.nil n0
  have K0 := Keep.refl h0 []
  refine own_enter (Q := Qlen2 Z a0 w_value_a0 kk_w_value_a0 el0 el1 w_CS h0 n0) (eflen2 m a0) ?_
  refine own_st (T' := s₁) (g' := (mkF m 1 #[.val (.ref a0)] [(.ref a0)])) (fun t k => ?_) ?_
  · show Steps p.tables e below (s₁.setTop (mkF m 0 #[.val (.ref a0)] [])) t
    refine XS.aloadN X0.here hx rfl (hb hby d4_0) rfl rfl ?_
    exact k
  obtain ⟨T1, X1, e1, st1⟩ := getF X0 hx hZ hown (host := "") (Or.inl (hw _ (List.mem_of_getElem? (i := 35) rfl))) Via.refl e0 F_value_a0 (g := (mkF m 1 #[.val (.ref a0)] [(.ref a0)])) rfl rfl (hb hby d4_1)
  refine own_st (T' := T1) (g' := (mkF m 4 #[.val (.ref a0)] [(.ref w_value_a0)])) st1 ?_
  obtain ⟨c2, r2a, -, r2c, r2d, -, -⟩ := id V_w_value_a0
  refine own_st (T' := T1) (g' := (mkF m 6 #[.val (.ref a0)] [(.ref a0), (.int (2 : Int32))])) (fun t k => ?_) ?_
  · show Steps p.tables e below (T1.setTop (mkF m 4 #[.val (.ref a0)] [(.ref w_value_a0)])) t
    refine X1.arraylength hx (by rw [e1]; exact r2a.1) (State.isArrayOf_alike hZ.alike r2a.2.1) (g := (mkF m 4 #[.val (.ref a0)] [(.ref w_value_a0)])) rfl rfl (hb hby d4_4) _ ?_
    rw [len_of r2c r2d]
    show Steps p.tables e below (T1.setTop (mkF m 5 #[.val (.ref a0)] [(.int (2 : Int32))])) t
    refine XS.aloadN X1.here hx rfl (hb hby d4_5) rfl rfl ?_
    exact k
  obtain ⟨cq3, kq3, qa3, qb3, qc3⟩ := isOf hZ e1 E_a0
  obtain ⟨_, _, ⟨T3, L3, k3, n3⟩, -, X3, ⟨Lc3, hQ3, l3, y3, z3⟩, st3⟩ := X1.virtualBack hx (y := (⟨"java/lang/String", "coder", "()B"⟩ : MethodName)) (z := (⟨"java/lang/String", "coder", "()B"⟩ : MethodName)) hown (mvT hZ (hw _ (List.mem_of_getElem? (i := 36) rfl))) (mvT hZ (hw _ (List.mem_of_getElem? (i := 37) rfl))) (notFace_of_selects (args := #[]) (mvT hZ (hw _ (List.mem_of_getElem? (i := 39) rfl)))) (mvT hZ (hw _ (List.mem_of_getElem? (i := 39) rfl))) (mvT hZ (hw _ (List.mem_of_getElem? (i := 38) rfl))) (by decide) (backOf (W := 1) (rm5 l Z ar hw [] a0 w_CS h0 n0 Z0 E_a0 F_coder_a0 S_COMPACT_STRINGS h6_hb3) hZ (hw _ (List.mem_of_getElem? (i := 40) rfl)) (hw _ (List.mem_of_getElem? (i := 23) rfl)) (by decide) (by decide)) qa3 qc3 (g := (mkF m 6 #[.val (.ref a0)] [(.ref a0), (.int (2 : Int32))])) rfl (by rw [hml]; rfl) (Steps.refl _) (argsL := []) (rest := [(.int (2 : Int32))]) (lenOf pdlen2_0 rfl) rfl (by show 2 * 0 + _ ≤ _; exact Nat.le_of_eq rfl) (hb hby d4_6) (fun _ _ => ⟨rfl, e1, (by decide : 0 + 0 ≤ _), (by decide : 0 + 0 ≤ _)⟩)
  dsimp only [Pt.U, Pt.locs, Pt.cells, Pt.slots] at X3 l3 y3 z3 st3 hQ3
  subst l3 y3 z3
  obtain ⟨rfl, N3q, e3⟩ := hQ3
  have n4 := Fr.app N0 N3q
  refine own_tr (T' := T3) (g' := (mkF m 9 #[.val (.ref a0)] [(.int (0 : Int32)), (.int (2 : Int32))])) st3 ?_
  refine own_st (T' := T3) (g' := (mkF m 10 #[.val (.ref a0)] [(.int (2 : Int32))])) (fun t k => ?_) ?_
  · show Steps p.tables e below (T3.setTop (mkF m 9 #[.val (.ref a0)] [(.int (0 : Int32)), (.int (2 : Int32))])) t
    refine XS.ishr X3.here hx rfl (hb hby d4_9) rfl ?_
    exact k
  refine own_retI X3 hx hlk Bd.returns (hb hby d4_10) (by decide) (by decide) ?_
  show Qlen2 Z a0 w_value_a0 kk_w_value_a0 el0 el1 w_CS h0 n0 (some (.int (2 : Int32))) T3.heap _
  rw [(e3 : T3.heap = h0)]
  exact ⟨rfl, n4, rfl⟩
theorem d10_0 : decode jdk_41_method_11_code 0 = .ok (.iload_n 0, 1) := by decide +kernel
theorem d10_1 : decode jdk_41_method_11_code 1 = .ok (.ifCond .lt 8, 3) := by decide +kernel
theorem d10_4 : decode jdk_41_method_11_code 4 = .ok (.iload_n 0, 1) := by decide +kernel
theorem d10_5 : decode jdk_41_method_11_code 5 = .ok (.iload_n 1, 1) := by decide +kernel
theorem d10_6 : decode jdk_41_method_11_code 6 = .ok (.if_icmp .lt 10, 3) := by decide +kernel
theorem d10_16 : decode jdk_41_method_11_code 16 = .ok (.iload_n 0, 1) := by decide +kernel
theorem d10_17 : decode jdk_41_method_11_code 17 = .ok (.ireturn, 1) := by decide +kernel
theorem pnpr : plainName "jdk/internal/util/Preconditions" = true := by first | (simp [plainName, overriddenIn]; done) | decide +kernel
theorem efpr (m : MethodId) (p0 : Int32) (p1 : Int32) (a2 : Addr) : entryFrame m #[(.int p0), (.int p1), (.ref a2)] 3 = mkF m 0 #[.val (.int p0), .val (.int p1), .val (.ref a2)] [] := by first | (simp [entryFrame, mkF, argsToLocals, Value.category]; done) | rfl
def Qpr (Z : State) (p0 : Int32) (p1 : Int32) (a2 : Addr) (h0 : Heap) (n0 : Nat) (v : Option Value) (h : Heap) (L : List Loc) : Prop := v = some (.int p0) ∧ Fr n0 L ∧ h = h0
set_option maxRecDepth 65536 in
set_option maxHeartbeats 40000000 in
theorem rmpr (l : Launch) (Z : State) (ar : Array Value) (hw : ∀ d ∈ tables_1, d.before ar Z = true) (ws : List Jvm.Cond) (p0 : Int32) (p1 : Int32) (a2 : Addr) (h0 : Heap) (n0 : Nat) (Z0 : n0 ≤ h0.size) (hb1 : ¬ (p0 < (0 : Int32))) (hb6 : p0 < p1) :
    MetFree l (⟨"jdk/internal/util/Preconditions", "checkIndex", "(IILjava/util/function/BiFunction;)I"⟩ : MethodName) (head1 (Jvm.Cond.code (⟨"jdk/internal/util/Preconditions", "checkIndex", "(IILjava/util/function/BiFunction;)I"⟩ : MethodName) jdk_41_method_11_code 3 (some .int) :: ws) ({ frames := 0, cells := 0, slots := 0, locals := 0 } : Room)) (fun a U => a = #[(.int p0), (.int p1), (.ref a2)] ∧ Z.Warmed39 U.vm ∧ U.heap = h0) (fun _ _ _ _ _ => True) (fun _ U o U' => ∃ v L, o = .returned v ∧ Qpr Z p0 p1 a2 h0 n0 v U'.heap L ∧ FrameEnd U o U' L ({ frames := 0, cells := 0, slots := 0, locals := 0 } : Room).cells ({ frames := 0, cells := 0, slots := 0, locals := 0 } : Room).slots) := by
  refine MetFree.of_bodySF (plainFor_of_name pnpr) hisR ?_
  intro p e s m args below meth c s₁ Bd hml0 hP hK
  obtain ⟨rfl, hZ, hh⟩ := hP
  have hx := Bd.exec
  have hby := Bd.bytes
  have hlk := Bd.notSynchronized
  have hml : c.maxLocals = 3 := hml0
  have hown : s.vm.findClass "jdk/internal/util/Preconditions" = some m.cls := findClass_of_methodNamed Bd.named
  have hnm := (name_of_methodNamed Bd.named Bd.method).1
  have X0 : Stand p l e ({ frames := 0, cells := 0, slots := 0, locals := 0 } : Room) s m #[(.int p0), (.int p1), (.ref a2)] below meth c s₁ [] 0 0 := Stand.of_body Bd
  have e0 : s₁.heap = h0 := by rw [← hh, Bd.state]; rfl
  have N0 := Fr.nil n0
  have K0 := Keep.refl h0 []
  refine own_enter (Q := Qpr Z p0 p1 a2 h0 n0) (efpr m p0 p1 a2) ?_
  refine own_st (T' := s₁) (g' := (mkF m 17 #[.val (.int p0), .val (.int p1), .val (.ref a2)] [(.int p0)])) (fun t k => ?_) ?_
  · show Steps p.tables e below (s₁.setTop (mkF m 0 #[.val (.int p0), .val (.int p1), .val (.ref a2)] [])) t
    refine XS.iloadN X0.here hx rfl (hb hby d10_0) rfl ?_
    show Steps p.tables e below (s₁.setTop (mkF m 1 #[.val (.int p0), .val (.int p1), .val (.ref a2)] [(.int p0)])) t
    refine XS.ifNo X0.here hx rfl (hb hby d10_1) rfl ((if0 _ _).trans (flt (hb1 : ¬ (p0 < (0 : Int32)))).1) ?_
    show Steps p.tables e below (s₁.setTop (mkF m 4 #[.val (.int p0), .val (.int p1), .val (.ref a2)] [])) t
    refine XS.iloadN X0.here hx rfl (hb hby d10_4) rfl ?_
    show Steps p.tables e below (s₁.setTop (mkF m 5 #[.val (.int p0), .val (.int p1), .val (.ref a2)] [(.int p0)])) t
    refine XS.iloadN X0.here hx rfl (hb hby d10_5) rfl ?_
    show Steps p.tables e below (s₁.setTop (mkF m 6 #[.val (.int p0), .val (.int p1), .val (.ref a2)] [(.int p1), (.int p0)])) t
    refine XS.icmpYes X0.here hx rfl (pc0 := 6) (pc' := 16) rfl (hb hby d10_6) rfl (tlt (hb6 : p0 < p1)).1 (by decide) (by decide) ?_
    show Steps p.tables e below (s₁.setTop (mkF m 16 #[.val (.int p0), .val (.int p1), .val (.ref a2)] [])) t
    refine XS.iloadN X0.here hx rfl (hb hby d10_16) rfl ?_
    exact k
  refine own_retI X0 hx hlk Bd.returns (hb hby d10_17) (by decide) (by decide) ?_
  show Qpr Z p0 p1 a2 h0 n0 (some (.int p0)) s₁.heap _
  rw [(e0 : s₁.heap = h0)]
  exact ⟨rfl, N0, rfl⟩
theorem pnpn : plainName "jdk/internal/util/Preconditions" = true := by first | (simp [plainName, overriddenIn]; done) | decide +kernel
theorem efpn (m : MethodId) (p0 : Int32) (p1 : Int32) : entryFrame m #[(.int p0), (.int p1), .null] 3 = mkF m 0 #[.val (.int p0), .val (.int p1), .val .null] [] := by first | (simp [entryFrame, mkF, argsToLocals, Value.category]; done) | rfl
def Qpn (Z : State) (p0 : Int32) (p1 : Int32) (h0 : Heap) (n0 : Nat) (v : Option Value) (h : Heap) (L : List Loc) : Prop := v = some (.int p0) ∧ Fr n0 L ∧ h = h0
set_option maxRecDepth 65536 in
set_option maxHeartbeats 40000000 in
theorem rmpn (l : Launch) (Z : State) (ar : Array Value) (hw : ∀ d ∈ tables_1, d.before ar Z = true) (ws : List Jvm.Cond) (p0 : Int32) (p1 : Int32) (h0 : Heap) (n0 : Nat) (Z0 : n0 ≤ h0.size) (hb1 : ¬ (p0 < (0 : Int32))) (hb6 : p0 < p1) :
    MetFree l (⟨"jdk/internal/util/Preconditions", "checkIndex", "(IILjava/util/function/BiFunction;)I"⟩ : MethodName) (head1 (Jvm.Cond.code (⟨"jdk/internal/util/Preconditions", "checkIndex", "(IILjava/util/function/BiFunction;)I"⟩ : MethodName) jdk_41_method_11_code 3 (some .int) :: ws) ({ frames := 0, cells := 0, slots := 0, locals := 0 } : Room)) (fun a U => a = #[(.int p0), (.int p1), .null] ∧ Z.Warmed39 U.vm ∧ U.heap = h0) (fun _ _ _ _ _ => True) (fun _ U o U' => ∃ v L, o = .returned v ∧ Qpn Z p0 p1 h0 n0 v U'.heap L ∧ FrameEnd U o U' L ({ frames := 0, cells := 0, slots := 0, locals := 0 } : Room).cells ({ frames := 0, cells := 0, slots := 0, locals := 0 } : Room).slots) := by
  refine MetFree.of_bodySF (plainFor_of_name pnpn) hisR ?_
  intro p e s m args below meth c s₁ Bd hml0 hP hK
  obtain ⟨rfl, hZ, hh⟩ := hP
  have hx := Bd.exec
  have hby := Bd.bytes
  have hlk := Bd.notSynchronized
  have hml : c.maxLocals = 3 := hml0
  have hown : s.vm.findClass "jdk/internal/util/Preconditions" = some m.cls := findClass_of_methodNamed Bd.named
  have hnm := (name_of_methodNamed Bd.named Bd.method).1
  have X0 : Stand p l e ({ frames := 0, cells := 0, slots := 0, locals := 0 } : Room) s m #[(.int p0), (.int p1), .null] below meth c s₁ [] 0 0 := Stand.of_body Bd
  have e0 : s₁.heap = h0 := by rw [← hh, Bd.state]; rfl
  have N0 := Fr.nil n0
  have K0 := Keep.refl h0 []
  refine own_enter (Q := Qpn Z p0 p1 h0 n0) (efpn m p0 p1) ?_
  refine own_st (T' := s₁) (g' := (mkF m 17 #[.val (.int p0), .val (.int p1), .val .null] [(.int p0)])) (fun t k => ?_) ?_
  · show Steps p.tables e below (s₁.setTop (mkF m 0 #[.val (.int p0), .val (.int p1), .val .null] [])) t
    refine XS.iloadN X0.here hx rfl (hb hby d10_0) rfl ?_
    show Steps p.tables e below (s₁.setTop (mkF m 1 #[.val (.int p0), .val (.int p1), .val .null] [(.int p0)])) t
    refine XS.ifNo X0.here hx rfl (hb hby d10_1) rfl ((if0 _ _).trans (flt (hb1 : ¬ (p0 < (0 : Int32)))).1) ?_
    show Steps p.tables e below (s₁.setTop (mkF m 4 #[.val (.int p0), .val (.int p1), .val .null] [])) t
    refine XS.iloadN X0.here hx rfl (hb hby d10_4) rfl ?_
    show Steps p.tables e below (s₁.setTop (mkF m 5 #[.val (.int p0), .val (.int p1), .val .null] [(.int p0)])) t
    refine XS.iloadN X0.here hx rfl (hb hby d10_5) rfl ?_
    show Steps p.tables e below (s₁.setTop (mkF m 6 #[.val (.int p0), .val (.int p1), .val .null] [(.int p1), (.int p0)])) t
    refine XS.icmpYes X0.here hx rfl (pc0 := 6) (pc' := 16) rfl (hb hby d10_6) rfl (tlt (hb6 : p0 < p1)).1 (by decide) (by decide) ?_
    show Steps p.tables e below (s₁.setTop (mkF m 16 #[.val (.int p0), .val (.int p1), .val .null] [])) t
    refine XS.iloadN X0.here hx rfl (hb hby d10_16) rfl ?_
    exact k
  refine own_retI X0 hx hlk Bd.returns (hb hby d10_17) (by decide) (by decide) ?_
  show Qpn Z p0 p1 h0 n0 (some (.int p0)) s₁.heap _
  rw [(e0 : s₁.heap = h0)]
  exact ⟨rfl, N0, rfl⟩
theorem d9_0 : decode jdk_42_method_155_code 0 = .ok (.iload_n 0, 1) := by decide +kernel
theorem d9_1 : decode jdk_42_method_155_code 1 = .ok (.iload_n 1, 1) := by decide +kernel
theorem d9_2 : decode jdk_42_method_155_code 2 = .ok (.getstatic 1053, 3) := by decide +kernel
theorem d9_5 : decode jdk_42_method_155_code 5 = .ok (.invokestatic 1059, 3) := by decide +kernel
theorem d9_8 : decode jdk_42_method_155_code 8 = .ok (.pop, 1) := by decide +kernel
theorem d9_9 : decode jdk_42_method_155_code 9 = .ok (.return_, 1) := by decide +kernel
theorem pn9 : plainName "java/lang/String" = true := by first | (simp [plainName, overriddenIn]; done) | decide +kernel
theorem pd9_0 : parseMethodDescriptor "(IILjava/util/function/BiFunction;)I" = some ⟨[.int, .int, (.object "java/util/function/BiFunction")], some .int⟩ := by decide +kernel
theorem ef9 (m : MethodId) (p0 : Int32) (p1 : Int32) : entryFrame m #[(.int p0), (.int p1)] 2 = mkF m 0 #[.val (.int p0), .val (.int p1)] [] := by first | (simp [entryFrame, mkF, argsToLocals, Value.category]; done) | rfl
def Q9 (Z : State) (p0 : Int32) (p1 : Int32) (u_SIO : Value) (h0 : Heap) (n0 : Nat) (v : Option Value) (h : Heap) (L : List Loc) : Prop := v = none ∧ Fr n0 L ∧ h = h0
set_option maxRecDepth 65536 in
set_option maxHeartbeats 40000000 in
theorem rm9 (l : Launch) (Z : State) (ar : Array Value) (hw : ∀ d ∈ tables_1, d.before ar Z = true) (ws : List Jvm.Cond) (p0 : Int32) (p1 : Int32) (u_SIO : Value) (h0 : Heap) (n0 : Nat) (Z0 : n0 ≤ h0.size) (S_SIOOBE_FORMATTER : Sta Z h0 "jdk/internal/util/Preconditions" "SIOOBE_FORMATTER" "Ljava/util/function/BiFunction;" u_SIO) (hu : u_SIO.isRef = true) (h5_hb1 : ¬ (p0 < (0 : Int32))) (h5_hb6 : p0 < p1) :
    MetFree l (⟨"java/lang/String", "checkIndex", "(II)V"⟩ : MethodName) (head1 (Jvm.Cond.code (⟨"java/lang/String", "checkIndex", "(II)V"⟩ : MethodName) jdk_42_method_155_code 2 none :: ws) ({ frames := 1, cells := 0, slots := 0, locals := 14 } : Room)) (fun a U => a = #[(.int p0), (.int p1)] ∧ Z.Warmed39 U.vm ∧ U.heap = h0) (fun _ _ _ _ _ => True) (fun _ U o U' => ∃ v L, o = .returned v ∧ Q9 Z p0 p1 u_SIO h0 n0 v U'.heap L ∧ FrameEnd U o U' L ({ frames := 1, cells := 0, slots := 0, locals := 14 } : Room).cells ({ frames := 1, cells := 0, slots := 0, locals := 14 } : Room).slots) := by
  refine MetFree.of_bodySF (plainFor_of_name pn9) hisR ?_
  intro p e s m args below meth c s₁ Bd hml0 hP hK
  obtain ⟨rfl, hZ, hh⟩ := hP
  have hx := Bd.exec
  have hby := Bd.bytes
  have hlk := Bd.notSynchronized
  have hml : c.maxLocals = 2 := hml0
  have hown : s.vm.findClass "java/lang/String" = some m.cls := findClass_of_methodNamed Bd.named
  have hnm := (name_of_methodNamed Bd.named Bd.method).1
  have X0 : Stand p l e ({ frames := 1, cells := 0, slots := 0, locals := 14 } : Room) s m #[(.int p0), (.int p1)] below meth c s₁ [] 0 0 := Stand.of_body Bd
  have e0 : s₁.heap = h0 := by rw [← hh, Bd.state]; rfl
  have N0 := Fr.nil n0
  have K0 := Keep.refl h0 []
  refine own_enter (Q := Q9 Z p0 p1 u_SIO h0 n0) (ef9 m p0 p1) ?_
  refine own_st (T' := s₁) (g' := (mkF m 2 #[.val (.int p0), .val (.int p1)] [(.int p1), (.int p0)])) (fun t k => ?_) ?_
  · show Steps p.tables e below (s₁.setTop (mkF m 0 #[.val (.int p0), .val (.int p1)] [])) t
    refine XS.iloadN X0.here hx rfl (hb hby d9_0) rfl ?_
    show Steps p.tables e below (s₁.setTop (mkF m 1 #[.val (.int p0), .val (.int p1)] [(.int p0)])) t
    refine XS.iloadN X0.here hx rfl (hb hby d9_1) rfl ?_
    exact k
  rcases ref_cases hu with hq2 | ⟨ua, hq2⟩
  · have fS1 : Sta Z h0 "jdk/internal/util/Preconditions" "SIOOBE_FORMATTER" "Ljava/util/function/BiFunction;" .null := by have q := S_SIOOBE_FORMATTER; rw [hq2] at q; exact q
    obtain ⟨T2, X2, e2, st2⟩ := getS2 X0 hx hZ hown (host := "") (Or.inl (hw _ (List.mem_of_getElem? (i := 60) rfl))) Via.refl e0 fS1 (g := (mkF m 2 #[.val (.int p0), .val (.int p1)] [(.int p1), (.int p0)])) rfl (hb hby d9_2)
    refine own_st (T' := T2) (g' := (mkF m 5 #[.val (.int p0), .val (.int p1)] [.null, (.int p1), (.int p0)])) st2 ?_
    obtain ⟨_, _, ⟨T3, L3, k3, n3⟩, -, X3, ⟨Lc3, hQ3, l3, y3, z3⟩, st3⟩ := Jvm.LawKit.callS X2 hx (y := (⟨"jdk/internal/util/Preconditions", "checkIndex", "(IILjava/util/function/BiFunction;)I"⟩ : MethodName)) hown (mvT hZ (hw _ (List.mem_of_getElem? (i := 62) rfl))) (mvT hZ (hw _ (List.mem_of_getElem? (i := 63) rfl))) (mvT hZ (hw _ (List.mem_of_getElem? (i := 61) rfl))) (mvT hZ (hw _ (List.mem_of_getElem? (i := 64) rfl))) (by decide) (backOf (W := 0) (rmpn l Z ar hw [] p0 p1 h0 n0 Z0 h5_hb1 h5_hb6) hZ (hw _ (List.mem_of_getElem? (i := 64) rfl)) (hw _ (List.mem_of_getElem? (i := 61) rfl)) (by decide) (by decide)) (g := (mkF m 5 #[.val (.int p0), .val (.int p1)] [.null, (.int p1), (.int p0)])) rfl (by rw [hml]; rfl) (argsL := [(.int p0), (.int p1), .null]) (rest := []) (lenOf pd9_0 rfl) rfl (by show 2 * 0 + _ ≤ _; exact Nat.le_of_eq rfl) (hb hby d9_5) (fun _ _ => ⟨rfl, e2, (by decide : 0 + 0 ≤ _), (by decide : 0 + 0 ≤ _)⟩)
    dsimp only [Pt.U, Pt.locs, Pt.cells, Pt.slots] at X3 l3 y3 z3 st3 hQ3
    subst l3 y3 z3
    obtain ⟨rfl, N3q, e3⟩ := hQ3
    have n4 := Fr.app N0 N3q
    refine own_st (T' := T3) (g' := (mkF m 8 #[.val (.int p0), .val (.int p1)] [(.int p0)])) st3 ?_
    refine own_st (T' := T3) (g' := (mkF m 9 #[.val (.int p0), .val (.int p1)] [])) (fun t k => ?_) ?_
    · show Steps p.tables e below (T3.setTop (mkF m 8 #[.val (.int p0), .val (.int p1)] [(.int p0)])) t
      refine XS.pop X3.here hx rfl (hb hby d9_8) rfl rfl ?_
      exact k
    refine own_retV X3 hx hlk Bd.returns (hb hby d9_9) (by decide) (by decide) ?_
    show Q9 Z p0 p1 u_SIO h0 n0 none T3.heap _
    rw [(e3 : T3.heap = h0)]
    exact ⟨rfl, n4, rfl⟩
  · have fS5 : Sta Z h0 "jdk/internal/util/Preconditions" "SIOOBE_FORMATTER" "Ljava/util/function/BiFunction;" (.ref ua) := by have q := S_SIOOBE_FORMATTER; rw [hq2] at q; exact q
    obtain ⟨T6, X6, e6, st6⟩ := getS2 X0 hx hZ hown (host := "") (Or.inl (hw _ (List.mem_of_getElem? (i := 60) rfl))) Via.refl e0 fS5 (g := (mkF m 2 #[.val (.int p0), .val (.int p1)] [(.int p1), (.int p0)])) rfl (hb hby d9_2)
    refine own_st (T' := T6) (g' := (mkF m 5 #[.val (.int p0), .val (.int p1)] [(.ref ua), (.int p1), (.int p0)])) st6 ?_
    obtain ⟨_, _, ⟨T7, L7, k7, n7⟩, -, X7, ⟨Lc7, hQ7, l7, y7, z7⟩, st7⟩ := Jvm.LawKit.callS X6 hx (y := (⟨"jdk/internal/util/Preconditions", "checkIndex", "(IILjava/util/function/BiFunction;)I"⟩ : MethodName)) hown (mvT hZ (hw _ (List.mem_of_getElem? (i := 62) rfl))) (mvT hZ (hw _ (List.mem_of_getElem? (i := 63) rfl))) (mvT hZ (hw _ (List.mem_of_getElem? (i := 61) rfl))) (mvT hZ (hw _ (List.mem_of_getElem? (i := 64) rfl))) (by decide) (backOf (W := 0) (rmpr l Z ar hw [] p0 p1 ua h0 n0 Z0 h5_hb1 h5_hb6) hZ (hw _ (List.mem_of_getElem? (i := 64) rfl)) (hw _ (List.mem_of_getElem? (i := 61) rfl)) (by decide) (by decide)) (g := (mkF m 5 #[.val (.int p0), .val (.int p1)] [(.ref ua), (.int p1), (.int p0)])) rfl (by rw [hml]; rfl) (argsL := [(.int p0), (.int p1), (.ref ua)]) (rest := []) (lenOf pd9_0 rfl) rfl (by show 2 * 0 + _ ≤ _; exact Nat.le_of_eq rfl) (hb hby d9_5) (fun _ _ => ⟨rfl, e6, (by decide : 0 + 0 ≤ _), (by decide : 0 + 0 ≤ _)⟩)
    dsimp only [Pt.U, Pt.locs, Pt.cells, Pt.slots] at X7 l7 y7 z7 st7 hQ7
    subst l7 y7 z7
    obtain ⟨rfl, N7q, e7⟩ := hQ7
    have n8 := Fr.app N0 N7q
    refine own_st (T' := T7) (g' := (mkF m 8 #[.val (.int p0), .val (.int p1)] [(.int p0)])) st7 ?_
    refine own_st (T' := T7) (g' := (mkF m 9 #[.val (.int p0), .val (.int p1)] [])) (fun t k => ?_) ?_
    · show Steps p.tables e below (T7.setTop (mkF m 8 #[.val (.int p0), .val (.int p1)] [(.int p0)])) t
      refine XS.pop X7.here hx rfl (hb hby d9_8) rfl rfl ?_
      exact k
    refine own_retV X7 hx hlk Bd.returns (hb hby d9_9) (by decide) (by decide) ?_
    show Q9 Z p0 p1 u_SIO h0 n0 none T7.heap _
    rw [(e7 : T7.heap = h0)]
    exact ⟨rfl, n8, rfl⟩
theorem d8_0 : decode jdk_43_method_2_code 0 = .ok (.iload_n 1, 1) := by decide +kernel
theorem d8_1 : decode jdk_43_method_2_code 1 = .ok (.aload_n 0, 1) := by decide +kernel
theorem d8_2 : decode jdk_43_method_2_code 2 = .ok (.arraylength, 1) := by decide +kernel
theorem d8_3 : decode jdk_43_method_2_code 3 = .ok (.invokestatic 9, 3) := by decide +kernel
theorem d8_6 : decode jdk_43_method_2_code 6 = .ok (.aload_n 0, 1) := by decide +kernel
theorem d8_7 : decode jdk_43_method_2_code 7 = .ok (.iload_n 1, 1) := by decide +kernel
theorem d8_8 : decode jdk_43_method_2_code 8 = .ok (.baload, 1) := by decide +kernel
theorem d8_9 : decode jdk_43_method_2_code 9 = .ok (.sipush 255, 3) := by decide +kernel
theorem d8_12 : decode jdk_43_method_2_code 12 = .ok (.iand, 1) := by decide +kernel
theorem d8_13 : decode jdk_43_method_2_code 13 = .ok (.i2c, 1) := by decide +kernel
theorem d8_14 : decode jdk_43_method_2_code 14 = .ok (.ireturn, 1) := by decide +kernel
theorem pnl10 : plainName "java/lang/StringLatin1" = true := by first | (simp [plainName, overriddenIn]; done) | decide +kernel
theorem pdl10_0 : parseMethodDescriptor "(II)V" = some ⟨[.int, .int], none⟩ := by decide +kernel
theorem efl10 (m : MethodId) (a0 : Addr) : entryFrame m #[(.ref a0), (.int (0 : Int32))] 2 = mkF m 0 #[.val (.ref a0), .val (.int (0 : Int32))] [] := by first | (simp [entryFrame, mkF, argsToLocals, Value.category]; done) | rfl
def Ql10 (Z : State) (a0 : Addr) (kk_a0 : ClassId) (el0 : Int32) (u_SIO : Value) (h0 : Heap) (n0 : Nat) (v : Option Value) (h : Heap) (L : List Loc) : Prop := v = some (.int ((el0 &&& (255 : Int32)).toUInt32.toUInt16.toUInt32.toInt32)) ∧ Fr n0 L ∧ h = h0
set_option maxRecDepth 65536 in
set_option maxHeartbeats 40000000 in
theorem rml10 (l : Launch) (Z : State) (ar : Array Value) (hw : ∀ d ∈ tables_1, d.before ar Z = true) (ws : List Jvm.Cond) (a0 : Addr) (kk_a0 : ClassId) (el0 : Int32) (u_SIO : Value) (h0 : Heap) (n0 : Nat) (Z0 : n0 ≤ h0.size) (V_a0 : Arv Z h0 a0 kk_a0 .byte (1 : Int32) [(.int el0)] (.int (0 : Int32))) (S_SIOOBE_FORMATTER : Sta Z h0 "jdk/internal/util/Preconditions" "SIOOBE_FORMATTER" "Ljava/util/function/BiFunction;" u_SIO) (h3_hu : u_SIO.isRef = true) :
    MetFree l (⟨"java/lang/StringLatin1", "charAt", "([BI)C"⟩ : MethodName) (head1 (Jvm.Cond.code (⟨"java/lang/StringLatin1", "charAt", "([BI)C"⟩ : MethodName) jdk_43_method_2_code 2 (some .char) :: ws) ({ frames := 2, cells := 0, slots := 0, locals := 27 } : Room)) (fun a U => a = #[(.ref a0), (.int (0 : Int32))] ∧ Z.Warmed39 U.vm ∧ U.heap = h0) (fun _ _ _ _ _ => True) (fun _ U o U' => ∃ v L, o = .returned v ∧ Ql10 Z a0 kk_a0 el0 u_SIO h0 n0 v U'.heap L ∧ FrameEnd U o U' L ({ frames := 2, cells := 0, slots := 0, locals := 27 } : Room).cells ({ frames := 2, cells := 0, slots := 0, locals := 27 } : Room).slots) := by
  refine MetFree.of_bodySF (plainFor_of_name pnl10) hisR ?_
  intro p e s m args below meth c s₁ Bd hml0 hP hK
  obtain ⟨rfl, hZ, hh⟩ := hP
  have hx := Bd.exec
  have hby := Bd.bytes
  have hlk := Bd.notSynchronized
  have hml : c.maxLocals = 2 := hml0
  have hown : s.vm.findClass "java/lang/StringLatin1" = some m.cls := findClass_of_methodNamed Bd.named
  have hnm := (name_of_methodNamed Bd.named Bd.method).1
  have X0 : Stand p l e ({ frames := 2, cells := 0, slots := 0, locals := 27 } : Room) s m #[(.ref a0), (.int (0 : Int32))] below meth c s₁ [] 0 0 := Stand.of_body Bd
  have e0 : s₁.heap = h0 := by rw [← hh, Bd.state]; rfl
  have N0 := Fr.nil n0
  have K0 := Keep.refl h0 []
  refine own_enter (Q := Ql10 Z a0 kk_a0 el0 u_SIO h0 n0) (efl10 m a0) ?_
  refine own_st (T' := s₁) (g' := (mkF m 2 #[.val (.ref a0), .val (.int (0 : Int32))] [(.ref a0), (.int (0 : Int32))])) (fun t k => ?_) ?_
  · show Steps p.tables e below (s₁.setTop (mkF m 0 #[.val (.ref a0), .val (.int (0 : Int32))] [])) t
    refine XS.iloadN X0.here hx rfl (hb hby d8_0) rfl ?_
    show Steps p.tables e below (s₁.setTop (mkF m 1 #[.val (.ref a0), .val (.int (0 : Int32))] [(.int (0 : Int32))])) t
    refine XS.aloadN X0.here hx rfl (hb hby d8_1) rfl rfl ?_
    exact k
  obtain ⟨c1, r1a, -, r1c, r1d, -, -⟩ := id V_a0
  refine own_st (T' := s₁) (g' := (mkF m 3 #[.val (.ref a0), .val (.int (0 : Int32))] [(.int (1 : Int32)), (.int (0 : Int32))])) (fun t k => ?_) ?_
  · show Steps p.tables e below (s₁.setTop (mkF m 2 #[.val (.ref a0), .val (.int (0 : Int32))] [(.ref a0), (.int (0 : Int32))])) t
    refine X0.arraylength hx (by rw [e0]; exact r1a.1) (State.isArrayOf_alike hZ.alike r1a.2.1) (g := (mkF m 2 #[.val (.ref a0), .val (.int (0 : Int32))] [(.ref a0), (.int (0 : Int32))])) rfl rfl (hb hby d8_2) _ ?_
    rw [len_of r1c r1d]
    exact k
  obtain ⟨_, _, ⟨T2, L2, k2, n2⟩, -, X2, ⟨Lc2, hQ2, l2, y2, z2⟩, st2⟩ := Jvm.LawKit.callS X0 hx (y := (⟨"java/lang/String", "checkIndex", "(II)V"⟩ : MethodName)) hown (mvT hZ (hw _ (List.mem_of_getElem? (i := 57) rfl))) (mvT hZ (hw _ (List.mem_of_getElem? (i := 58) rfl))) (mvT hZ (hw _ (List.mem_of_getElem? (i := 23) rfl))) (mvT hZ (hw _ (List.mem_of_getElem? (i := 59) rfl))) (by decide) (backOf (W := 0) (rm9 l Z ar hw [] ((0 : Int32)) ((1 : Int32)) (u_SIO) h0 n0 Z0 S_SIOOBE_FORMATTER h3_hu (by decide) (by decide)) hZ (hw _ (List.mem_of_getElem? (i := 59) rfl)) (hw _ (List.mem_of_getElem? (i := 23) rfl)) (by decide) (by decide)) (g := (mkF m 3 #[.val (.ref a0), .val (.int (0 : Int32))] [(.int (1 : Int32)), (.int (0 : Int32))])) rfl (by rw [hml]; rfl) (argsL := [(.int (0 : Int32)), (.int (1 : Int32))]) (rest := []) (lenOf pdl10_0 rfl) rfl (by show 2 * 0 + _ ≤ _; exact Nat.le_of_eq rfl) (hb hby d8_3) (fun _ _ => ⟨rfl, e0, (by decide : 0 + 0 ≤ _), (by decide : 0 + 0 ≤ _)⟩)
  dsimp only [Pt.U, Pt.locs, Pt.cells, Pt.slots] at X2 l2 y2 z2 st2 hQ2
  subst l2 y2 z2
  obtain ⟨rfl, N2q, e2⟩ := hQ2
  have n3 := Fr.app N0 N2q
  refine own_st (T' := T2) (g' := (mkF m 6 #[.val (.ref a0), .val (.int (0 : Int32))] [])) st2 ?_
  refine own_st (T' := T2) (g' := (mkF m 8 #[.val (.ref a0), .val (.int (0 : Int32))] [(.int (0 : Int32)), (.ref a0)])) (fun t k => ?_) ?_
  · show Steps p.tables e below (T2.setTop (mkF m 6 #[.val (.ref a0), .val (.int (0 : Int32))] [])) t
    refine XS.aloadN X2.here hx rfl (hb hby d8_6) rfl rfl ?_
    show Steps p.tables e below (T2.setTop (mkF m 7 #[.val (.ref a0), .val (.int (0 : Int32))] [(.ref a0)])) t
    refine XS.iloadN X2.here hx rfl (hb hby d8_7) rfl ?_
    exact k
  obtain ⟨c4, r4a, r4b, r4c, r4d, r4e, r4f⟩ := id V_a0
  have i4 : ¬ ((0 : Int32) < 0 ∨ c4.slots.size ≤ ((0 : Int32)).toNatClampNeg) := inb_of r4c ⟨by decide, by decide⟩
  have y4 : c4.slots[((0 : Int32)).toNatClampNeg]? = some (.int el0) := r4e.at i4 rfl
  refine own_st (T' := T2) (g' := (mkF m 14 #[.val (.ref a0), .val (.int (0 : Int32))] [(.int ((el0 &&& (255 : Int32)).toUInt32.toUInt16.toUInt32.toInt32))])) (fun t k => ?_) ?_
  · show Steps p.tables e below (T2.setTop (mkF m 8 #[.val (.ref a0), .val (.int (0 : Int32))] [(.int (0 : Int32)), (.ref a0)])) t
    refine X2.baloadBytes hx (j := (0 : Int32)) (v := (.int el0)) (by rw [e2]; exact r4a.1) (State.isArrayOf_alike hZ.alike r4a.2.1) r4a.2.2 i4 y4 (g := (mkF m 8 #[.val (.ref a0), .val (.int (0 : Int32))] [(.int (0 : Int32)), (.ref a0)])) rfl rfl (hb hby d8_8) _ ?_
    show Steps p.tables e below (T2.setTop (mkF m 9 #[.val (.ref a0), .val (.int (0 : Int32))] [(.int el0)])) t
    refine XS.sipush X2.here hx rfl (hb hby d8_9) ?_
    show Steps p.tables e below (T2.setTop (mkF m 12 #[.val (.ref a0), .val (.int (0 : Int32))] [(.int (255 : Int32)), (.int el0)])) t
    refine XS.iand X2.here hx rfl (hb hby d8_12) rfl ?_
    show Steps p.tables e below (T2.setTop (mkF m 13 #[.val (.ref a0), .val (.int (0 : Int32))] [(.int (el0 &&& (255 : Int32)))])) t
    refine XS.i2c X2.here hx rfl (hb hby d8_13) rfl ?_
    exact k
  refine own_retC X2 hx hlk Bd.returns (hb hby d8_14) (own_nc _) (by decide) (by decide) ?_
  show Ql10 Z a0 kk_a0 el0 u_SIO h0 n0 (some (.int ((el0 &&& (255 : Int32)).toUInt32.toUInt16.toUInt32.toInt32))) T2.heap _
  rw [(e2 : T2.heap = h0)]
  exact ⟨rfl, n3, rfl⟩
theorem d6_0 : decode jdk_42_method_56_code 0 = .ok (.aload_n 0, 1) := by decide +kernel
theorem d6_1 : decode jdk_42_method_56_code 1 = .ok (.invokevirtual 492, 3) := by decide +kernel
theorem d6_4 : decode jdk_42_method_56_code 4 = .ok (.ifCond .eq 12, 3) := by decide +kernel
theorem d6_7 : decode jdk_42_method_56_code 7 = .ok (.aload_n 0, 1) := by decide +kernel
theorem d6_8 : decode jdk_42_method_56_code 8 = .ok (.getfield 9, 3) := by decide +kernel
theorem d6_11 : decode jdk_42_method_56_code 11 = .ok (.iload_n 1, 1) := by decide +kernel
theorem d6_12 : decode jdk_42_method_56_code 12 = .ok (.invokestatic 495, 3) := by decide +kernel
theorem d6_15 : decode jdk_42_method_56_code 15 = .ok (.ireturn, 1) := by decide +kernel
theorem pnc10 : plainName "java/lang/String" = true := by first | (simp [plainName, overriddenIn]; done) | decide +kernel
theorem pdc10_0 : parseMethodDescriptor "()Z" = some ⟨[], some .boolean⟩ := by decide +kernel
theorem pdc10_1 : parseMethodDescriptor "([BI)C" = some ⟨[(.array .byte), .int], some .char⟩ := by decide +kernel
theorem efc10 (m : MethodId) (a0 : Addr) : entryFrame m #[(.ref a0), (.int (0 : Int32))] 2 = mkF m 0 #[.val (.ref a0), .val (.int (0 : Int32))] [] := by first | (simp [entryFrame, mkF, argsToLocals, Value.category]; done) | rfl
def Qc10 (Z : State) (a0 : Addr) (w_value_a0 : Addr) (kk_w_value_a0 : ClassId) (el0 : Int32) (w_CS : Int32) (u_SIO : Value) (h0 : Heap) (n0 : Nat) (v : Option Value) (h : Heap) (L : List Loc) : Prop := v = some (.int ((el0 &&& (255 : Int32)).toUInt32.toUInt16.toUInt32.toInt32)) ∧ Fr n0 L ∧ h = h0
set_option maxRecDepth 65536 in
set_option maxHeartbeats 40000000 in
theorem rmc10 (l : Launch) (Z : State) (ar : Array Value) (hw : ∀ d ∈ tables_1, d.before ar Z = true) (ws : List Jvm.Cond) (a0 : Addr) (w_value_a0 : Addr) (kk_w_value_a0 : ClassId) (el0 : Int32) (w_CS : Int32) (u_SIO : Value) (h0 : Heap) (n0 : Nat) (Z0 : n0 ≤ h0.size) (E_a0 : Exa Z h0 a0 "java/lang/String") (F_coder_a0 : Fld Z h0 a0 "java/lang/String" "coder" "B" (.int (0 : Int32))) (F_value_a0 : Fld Z h0 a0 "java/lang/String" "value" "[B" (.ref w_value_a0)) (V_w_value_a0 : Arv Z h0 w_value_a0 kk_w_value_a0 .byte (1 : Int32) [(.int el0)] (.int (0 : Int32))) (S_COMPACT_STRINGS : Sta Z h0 "java/lang/String" "COMPACT_STRINGS" "Z" (.int w_CS)) (S_SIOOBE_FORMATTER : Sta Z h0 "jdk/internal/util/Preconditions" "SIOOBE_FORMATTER" "Ljava/util/function/BiFunction;" u_SIO) (h1_hb3 : ¬ (w_CS = (0 : Int32))) (h12_h3_hu : u_SIO.isRef = true) :
    MetFree l (⟨"java/lang/String", "charAt", "(I)C"⟩ : MethodName) (head1 (Jvm.Cond.code (⟨"java/lang/String", "charAt", "(I)C"⟩ : MethodName) jdk_42_method_56_code 2 (some .char) :: ws) ({ frames := 3, cells := 0, slots := 0, locals := 40 } : Room)) (fun a U => a = #[(.ref a0), (.int (0 : Int32))] ∧ Z.Warmed39 U.vm ∧ U.heap = h0) (fun _ _ _ _ _ => True) (fun _ U o U' => ∃ v L, o = .returned v ∧ Qc10 Z a0 w_value_a0 kk_w_value_a0 el0 w_CS u_SIO h0 n0 v U'.heap L ∧ FrameEnd U o U' L ({ frames := 3, cells := 0, slots := 0, locals := 40 } : Room).cells ({ frames := 3, cells := 0, slots := 0, locals := 40 } : Room).slots) := by
  refine MetFree.of_bodySF (plainFor_of_name pnc10) hisR ?_
  intro p e s m args below meth c s₁ Bd hml0 hP hK
  obtain ⟨rfl, hZ, hh⟩ := hP
  have hx := Bd.exec
  have hby := Bd.bytes
  have hlk := Bd.notSynchronized
  have hml : c.maxLocals = 2 := hml0
  have hown : s.vm.findClass "java/lang/String" = some m.cls := findClass_of_methodNamed Bd.named
  have hnm := (name_of_methodNamed Bd.named Bd.method).1
  have X0 : Stand p l e ({ frames := 3, cells := 0, slots := 0, locals := 40 } : Room) s m #[(.ref a0), (.int (0 : Int32))] below meth c s₁ [] 0 0 := Stand.of_body Bd
  have e0 : s₁.heap = h0 := by rw [← hh, Bd.state]; rfl
  have N0 := Fr.nil n0
  have K0 := Keep.refl h0 []
  refine own_enter (Q := Qc10 Z a0 w_value_a0 kk_w_value_a0 el0 w_CS u_SIO h0 n0) (efc10 m a0) ?_
  refine own_st (T' := s₁) (g' := (mkF m 1 #[.val (.ref a0), .val (.int (0 : Int32))] [(.ref a0)])) (fun t k => ?_) ?_
  · show Steps p.tables e below (s₁.setTop (mkF m 0 #[.val (.ref a0), .val (.int (0 : Int32))] [])) t
    refine XS.aloadN X0.here hx rfl (hb hby d6_0) rfl rfl ?_
    exact k
  obtain ⟨cq1, kq1, qa1, qb1, qc1⟩ := isOf hZ e0 E_a0
  obtain ⟨_, _, ⟨T1, L1, k1, n1⟩, -, X1, ⟨Lc1, hQ1, l1, y1, z1⟩, st1⟩ := X0.virtualBack hx (y := (⟨"java/lang/String", "isLatin1", "()Z"⟩ : MethodName)) (z := (⟨"java/lang/String", "isLatin1", "()Z"⟩ : MethodName)) hown (mvT hZ (hw _ (List.mem_of_getElem? (i := 48) rfl))) (mvT hZ (hw _ (List.mem_of_getElem? (i := 49) rfl))) (notFace_of_selects (args := #[]) (mvT hZ (hw _ (List.mem_of_getElem? (i := 51) rfl)))) (mvT hZ (hw _ (List.mem_of_getElem? (i := 51) rfl))) (mvT hZ (hw _ (List.mem_of_getElem? (i := 50) rfl))) (by decide) (backOf (W := 0) (rm7 l Z ar hw [] a0 w_CS h0 n0 Z0 E_a0 F_coder_a0 S_COMPACT_STRINGS h1_hb3) hZ (hw _ (List.mem_of_getElem? (i := 52) rfl)) (hw _ (List.mem_of_getElem? (i := 23) rfl)) (by decide) (by decide)) qa1 qc1 (g := (mkF m 1 #[.val (.ref a0), .val (.int (0 : Int32))] [(.ref a0)])) rfl (by rw [hml]; rfl) (Steps.refl _) (argsL := []) (rest := []) (lenOf pdc10_0 rfl) rfl (by show 2 * 0 + _ ≤ _; exact Nat.le_of_eq rfl) (hb hby d6_1) (fun _ _ => ⟨rfl, e0, (by decide : 0 + 0 ≤ _), (by decide : 0 + 0 ≤ _)⟩)
  dsimp only [Pt.U, Pt.locs, Pt.cells, Pt.slots] at X1 l1 y1 z1 st1 hQ1
  subst l1 y1 z1
  obtain ⟨rfl, N1q, e1⟩ := hQ1
  have n2 := Fr.app N0 N1q
  refine own_tr (T' := T1) (g' := (mkF m 4 #[.val (.ref a0), .val (.int (0 : Int32))] [(.int (1 : Int32))])) st1 ?_
  refine own_st (T' := T1) (g' := (mkF m 8 #[.val (.ref a0), .val (.int (0 : Int32))] [(.ref a0)])) (fun t k => ?_) ?_
  · show Steps p.tables e below (T1.setTop (mkF m 4 #[.val (.ref a0), .val (.int (0 : Int32))] [(.int (1 : Int32))])) t
    refine XS.ifNo X1.here hx rfl (hb hby d6_4) rfl (by decide) ?_
    show Steps p.tables e below (T1.setTop (mkF m 7 #[.val (.ref a0), .val (.int (0 : Int32))] [])) t
    refine XS.aloadN X1.here hx rfl (hb hby d6_7) rfl rfl ?_
    exact k
  obtain ⟨T3, X3, e3, st3⟩ := getF X1 hx hZ hown (host := "") (Or.inl (hw _ (List.mem_of_getElem? (i := 35) rfl))) Via.refl e1 F_value_a0 (g := (mkF m 8 #[.val (.ref a0), .val (.int (0 : Int32))] [(.ref a0)])) rfl rfl (hb hby d6_8)
  refine own_st (T' := T3) (g' := (mkF m 11 #[.val (.ref a0), .val (.int (0 : Int32))] [(.ref w_value_a0)])) st3 ?_
  refine own_st (T' := T3) (g' := (mkF m 12 #[.val (.ref a0), .val (.int (0 : Int32))] [(.int (0 : Int32)), (.ref w_value_a0)])) (fun t k => ?_) ?_
  · show Steps p.tables e below (T3.setTop (mkF m 11 #[.val (.ref a0), .val (.int (0 : Int32))] [(.ref w_value_a0)])) t
    refine XS.iloadN X3.here hx rfl (hb hby d6_11) rfl ?_
    exact k
  obtain ⟨_, _, ⟨T4, L4, k4, n4⟩, -, X4, ⟨Lc4, hQ4, l4, y4, z4⟩, st4⟩ := Jvm.LawKit.callS X3 hx (y := (⟨"java/lang/StringLatin1", "charAt", "([BI)C"⟩ : MethodName)) hown (mvT hZ (hw _ (List.mem_of_getElem? (i := 53) rfl))) (mvT hZ (hw _ (List.mem_of_getElem? (i := 54) rfl))) (mvT hZ (hw _ (List.mem_of_getElem? (i := 55) rfl))) (mvT hZ (hw _ (List.mem_of_getElem? (i := 56) rfl))) (by decide) (backOf (W := 0) (rml10 l Z ar hw [] w_value_a0 kk_w_value_a0 el0 (u_SIO) h0 n0 Z0 V_w_value_a0 S_SIOOBE_FORMATTER h12_h3_hu) hZ (hw _ (List.mem_of_getElem? (i := 56) rfl)) (hw _ (List.mem_of_getElem? (i := 55) rfl)) (by decide) (by decide)) (g := (mkF m 12 #[.val (.ref a0), .val (.int (0 : Int32))] [(.int (0 : Int32)), (.ref w_value_a0)])) rfl (by rw [hml]; rfl) (argsL := [(.ref w_value_a0), (.int (0 : Int32))]) (rest := []) (lenOf pdc10_1 rfl) rfl (by show 2 * 0 + _ ≤ _; exact Nat.le_of_eq rfl) (hb hby d6_12) (fun _ _ => ⟨rfl, e3, (by decide : 0 + 0 ≤ _), (by decide : 0 + 0 ≤ _)⟩)
  dsimp only [Pt.U, Pt.locs, Pt.cells, Pt.slots] at X4 l4 y4 z4 st4 hQ4
  subst l4 y4 z4
  obtain ⟨rfl, N4q, e4⟩ := hQ4
  have n5 := Fr.app n2 N4q
  refine own_st (T' := T4) (g' := (mkF m 15 #[.val (.ref a0), .val (.int (0 : Int32))] [(.int ((el0 &&& (255 : Int32)).toUInt32.toUInt16.toUInt32.toInt32))])) st4 ?_
  refine own_retC X4 hx hlk Bd.returns (hb hby d6_15) (own_nc _) (by decide) (by decide) ?_
  show Qc10 Z a0 w_value_a0 kk_w_value_a0 el0 w_CS u_SIO h0 n0 (some (.int ((el0 &&& (255 : Int32)).toUInt32.toUInt16.toUInt32.toInt32))) T4.heap _
  rw [(e4 : T4.heap = h0)]
  exact ⟨rfl, n5, rfl⟩
theorem pnl20 : plainName "java/lang/StringLatin1" = true := by first | (simp [plainName, overriddenIn]; done) | decide +kernel
theorem pdl20_0 : parseMethodDescriptor "(II)V" = some ⟨[.int, .int], none⟩ := by decide +kernel
theorem efl20 (m : MethodId) (a0 : Addr) : entryFrame m #[(.ref a0), (.int (0 : Int32))] 2 = mkF m 0 #[.val (.ref a0), .val (.int (0 : Int32))] [] := by first | (simp [entryFrame, mkF, argsToLocals, Value.category]; done) | rfl
def Ql20 (Z : State) (a0 : Addr) (kk_a0 : ClassId) (el0 : Int32) (el1 : Int32) (u_SIO : Value) (h0 : Heap) (n0 : Nat) (v : Option Value) (h : Heap) (L : List Loc) : Prop := v = some (.int ((el0 &&& (255 : Int32)).toUInt32.toUInt16.toUInt32.toInt32)) ∧ Fr n0 L ∧ h = h0
set_option maxRecDepth 65536 in
set_option maxHeartbeats 40000000 in
theorem rml20 (l : Launch) (Z : State) (ar : Array Value) (hw : ∀ d ∈ tables_1, d.before ar Z = true) (ws : List Jvm.Cond) (a0 : Addr) (kk_a0 : ClassId) (el0 : Int32) (el1 : Int32) (u_SIO : Value) (h0 : Heap) (n0 : Nat) (Z0 : n0 ≤ h0.size) (V_a0 : Arv Z h0 a0 kk_a0 .byte (2 : Int32) [(.int el0), (.int el1)] (.int (0 : Int32))) (S_SIOOBE_FORMATTER : Sta Z h0 "jdk/internal/util/Preconditions" "SIOOBE_FORMATTER" "Ljava/util/function/BiFunction;" u_SIO) (h3_hu : u_SIO.isRef = true) :
    MetFree l (⟨"java/lang/StringLatin1", "charAt", "([BI)C"⟩ : MethodName) (head1 (Jvm.Cond.code (⟨"java/lang/StringLatin1", "charAt", "([BI)C"⟩ : MethodName) jdk_43_method_2_code 2 (some .char) :: ws) ({ frames := 2, cells := 0, slots := 0, locals := 27 } : Room)) (fun a U => a = #[(.ref a0), (.int (0 : Int32))] ∧ Z.Warmed39 U.vm ∧ U.heap = h0) (fun _ _ _ _ _ => True) (fun _ U o U' => ∃ v L, o = .returned v ∧ Ql20 Z a0 kk_a0 el0 el1 u_SIO h0 n0 v U'.heap L ∧ FrameEnd U o U' L ({ frames := 2, cells := 0, slots := 0, locals := 27 } : Room).cells ({ frames := 2, cells := 0, slots := 0, locals := 27 } : Room).slots) := by
  refine MetFree.of_bodySF (plainFor_of_name pnl20) hisR ?_
  intro p e s m args below meth c s₁ Bd hml0 hP hK
  obtain ⟨rfl, hZ, hh⟩ := hP
  have hx := Bd.exec
  have hby := Bd.bytes
  have hlk := Bd.notSynchronized
  have hml : c.maxLocals = 2 := hml0
  have hown : s.vm.findClass "java/lang/StringLatin1" = some m.cls := findClass_of_methodNamed Bd.named
  have hnm := (name_of_methodNamed Bd.named Bd.method).1
  have X0 : Stand p l e ({ frames := 2, cells := 0, slots := 0, locals := 27 } : Room) s m #[(.ref a0), (.int (0 : Int32))] below meth c s₁ [] 0 0 := Stand.of_body Bd
  have e0 : s₁.heap = h0 := by rw [← hh, Bd.state]; rfl
  have N0 := Fr.nil n0
  have K0 := Keep.refl h0 []
  refine own_enter (Q := Ql20 Z a0 kk_a0 el0 el1 u_SIO h0 n0) (efl20 m a0) ?_
  refine own_st (T' := s₁) (g' := (mkF m 2 #[.val (.ref a0), .val (.int (0 : Int32))] [(.ref a0), (.int (0 : Int32))])) (fun t k => ?_) ?_
  · show Steps p.tables e below (s₁.setTop (mkF m 0 #[.val (.ref a0), .val (.int (0 : Int32))] [])) t
    refine XS.iloadN X0.here hx rfl (hb hby d8_0) rfl ?_
    show Steps p.tables e below (s₁.setTop (mkF m 1 #[.val (.ref a0), .val (.int (0 : Int32))] [(.int (0 : Int32))])) t
    refine XS.aloadN X0.here hx rfl (hb hby d8_1) rfl rfl ?_
    exact k
  obtain ⟨c1, r1a, -, r1c, r1d, -, -⟩ := id V_a0
  refine own_st (T' := s₁) (g' := (mkF m 3 #[.val (.ref a0), .val (.int (0 : Int32))] [(.int (2 : Int32)), (.int (0 : Int32))])) (fun t k => ?_) ?_
  · show Steps p.tables e below (s₁.setTop (mkF m 2 #[.val (.ref a0), .val (.int (0 : Int32))] [(.ref a0), (.int (0 : Int32))])) t
    refine X0.arraylength hx (by rw [e0]; exact r1a.1) (State.isArrayOf_alike hZ.alike r1a.2.1) (g := (mkF m 2 #[.val (.ref a0), .val (.int (0 : Int32))] [(.ref a0), (.int (0 : Int32))])) rfl rfl (hb hby d8_2) _ ?_
    rw [len_of r1c r1d]
    exact k
  obtain ⟨_, _, ⟨T2, L2, k2, n2⟩, -, X2, ⟨Lc2, hQ2, l2, y2, z2⟩, st2⟩ := Jvm.LawKit.callS X0 hx (y := (⟨"java/lang/String", "checkIndex", "(II)V"⟩ : MethodName)) hown (mvT hZ (hw _ (List.mem_of_getElem? (i := 57) rfl))) (mvT hZ (hw _ (List.mem_of_getElem? (i := 58) rfl))) (mvT hZ (hw _ (List.mem_of_getElem? (i := 23) rfl))) (mvT hZ (hw _ (List.mem_of_getElem? (i := 59) rfl))) (by decide) (backOf (W := 0) (rm9 l Z ar hw [] ((0 : Int32)) ((2 : Int32)) (u_SIO) h0 n0 Z0 S_SIOOBE_FORMATTER h3_hu (by decide) (by decide)) hZ (hw _ (List.mem_of_getElem? (i := 59) rfl)) (hw _ (List.mem_of_getElem? (i := 23) rfl)) (by decide) (by decide)) (g := (mkF m 3 #[.val (.ref a0), .val (.int (0 : Int32))] [(.int (2 : Int32)), (.int (0 : Int32))])) rfl (by rw [hml]; rfl) (argsL := [(.int (0 : Int32)), (.int (2 : Int32))]) (rest := []) (lenOf pdl20_0 rfl) rfl (by show 2 * 0 + _ ≤ _; exact Nat.le_of_eq rfl) (hb hby d8_3) (fun _ _ => ⟨rfl, e0, (by decide : 0 + 0 ≤ _), (by decide : 0 + 0 ≤ _)⟩)
  dsimp only [Pt.U, Pt.locs, Pt.cells, Pt.slots] at X2 l2 y2 z2 st2 hQ2
  subst l2 y2 z2
  obtain ⟨rfl, N2q, e2⟩ := hQ2
  have n3 := Fr.app N0 N2q
  refine own_st (T' := T2) (g' := (mkF m 6 #[.val (.ref a0), .val (.int (0 : Int32))] [])) st2 ?_
  refine own_st (T' := T2) (g' := (mkF m 8 #[.val (.ref a0), .val (.int (0 : Int32))] [(.int (0 : Int32)), (.ref a0)])) (fun t k => ?_) ?_
  · show Steps p.tables e below (T2.setTop (mkF m 6 #[.val (.ref a0), .val (.int (0 : Int32))] [])) t
    refine XS.aloadN X2.here hx rfl (hb hby d8_6) rfl rfl ?_
    show Steps p.tables e below (T2.setTop (mkF m 7 #[.val (.ref a0), .val (.int (0 : Int32))] [(.ref a0)])) t
    refine XS.iloadN X2.here hx rfl (hb hby d8_7) rfl ?_
    exact k
  obtain ⟨c4, r4a, r4b, r4c, r4d, r4e, r4f⟩ := id V_a0
  have i4 : ¬ ((0 : Int32) < 0 ∨ c4.slots.size ≤ ((0 : Int32)).toNatClampNeg) := inb_of r4c ⟨by decide, by decide⟩
  have y4 : c4.slots[((0 : Int32)).toNatClampNeg]? = some (.int el0) := r4e.at i4 rfl
  refine own_st (T' := T2) (g' := (mkF m 14 #[.val (.ref a0), .val (.int (0 : Int32))] [(.int ((el0 &&& (255 : Int32)).toUInt32.toUInt16.toUInt32.toInt32))])) (fun t k => ?_) ?_
  · show Steps p.tables e below (T2.setTop (mkF m 8 #[.val (.ref a0), .val (.int (0 : Int32))] [(.int (0 : Int32)), (.ref a0)])) t
    refine X2.baloadBytes hx (j := (0 : Int32)) (v := (.int el0)) (by rw [e2]; exact r4a.1) (State.isArrayOf_alike hZ.alike r4a.2.1) r4a.2.2 i4 y4 (g := (mkF m 8 #[.val (.ref a0), .val (.int (0 : Int32))] [(.int (0 : Int32)), (.ref a0)])) rfl rfl (hb hby d8_8) _ ?_
    show Steps p.tables e below (T2.setTop (mkF m 9 #[.val (.ref a0), .val (.int (0 : Int32))] [(.int el0)])) t
    refine XS.sipush X2.here hx rfl (hb hby d8_9) ?_
    show Steps p.tables e below (T2.setTop (mkF m 12 #[.val (.ref a0), .val (.int (0 : Int32))] [(.int (255 : Int32)), (.int el0)])) t
    refine XS.iand X2.here hx rfl (hb hby d8_12) rfl ?_
    show Steps p.tables e below (T2.setTop (mkF m 13 #[.val (.ref a0), .val (.int (0 : Int32))] [(.int (el0 &&& (255 : Int32)))])) t
    refine XS.i2c X2.here hx rfl (hb hby d8_13) rfl ?_
    exact k
  refine own_retC X2 hx hlk Bd.returns (hb hby d8_14) (own_nc _) (by decide) (by decide) ?_
  show Ql20 Z a0 kk_a0 el0 el1 u_SIO h0 n0 (some (.int ((el0 &&& (255 : Int32)).toUInt32.toUInt16.toUInt32.toInt32))) T2.heap _
  rw [(e2 : T2.heap = h0)]
  exact ⟨rfl, n3, rfl⟩
theorem pnc20 : plainName "java/lang/String" = true := by first | (simp [plainName, overriddenIn]; done) | decide +kernel
theorem pdc20_0 : parseMethodDescriptor "()Z" = some ⟨[], some .boolean⟩ := by decide +kernel
theorem pdc20_1 : parseMethodDescriptor "([BI)C" = some ⟨[(.array .byte), .int], some .char⟩ := by decide +kernel
theorem efc20 (m : MethodId) (a0 : Addr) : entryFrame m #[(.ref a0), (.int (0 : Int32))] 2 = mkF m 0 #[.val (.ref a0), .val (.int (0 : Int32))] [] := by first | (simp [entryFrame, mkF, argsToLocals, Value.category]; done) | rfl
def Qc20 (Z : State) (a0 : Addr) (w_value_a0 : Addr) (kk_w_value_a0 : ClassId) (el0 : Int32) (el1 : Int32) (w_CS : Int32) (u_SIO : Value) (h0 : Heap) (n0 : Nat) (v : Option Value) (h : Heap) (L : List Loc) : Prop := v = some (.int ((el0 &&& (255 : Int32)).toUInt32.toUInt16.toUInt32.toInt32)) ∧ Fr n0 L ∧ h = h0
set_option maxRecDepth 65536 in
set_option maxHeartbeats 40000000 in
theorem rmc20 (l : Launch) (Z : State) (ar : Array Value) (hw : ∀ d ∈ tables_1, d.before ar Z = true) (ws : List Jvm.Cond) (a0 : Addr) (w_value_a0 : Addr) (kk_w_value_a0 : ClassId) (el0 : Int32) (el1 : Int32) (w_CS : Int32) (u_SIO : Value) (h0 : Heap) (n0 : Nat) (Z0 : n0 ≤ h0.size) (E_a0 : Exa Z h0 a0 "java/lang/String") (F_coder_a0 : Fld Z h0 a0 "java/lang/String" "coder" "B" (.int (0 : Int32))) (F_value_a0 : Fld Z h0 a0 "java/lang/String" "value" "[B" (.ref w_value_a0)) (V_w_value_a0 : Arv Z h0 w_value_a0 kk_w_value_a0 .byte (2 : Int32) [(.int el0), (.int el1)] (.int (0 : Int32))) (S_COMPACT_STRINGS : Sta Z h0 "java/lang/String" "COMPACT_STRINGS" "Z" (.int w_CS)) (S_SIOOBE_FORMATTER : Sta Z h0 "jdk/internal/util/Preconditions" "SIOOBE_FORMATTER" "Ljava/util/function/BiFunction;" u_SIO) (h1_hb3 : ¬ (w_CS = (0 : Int32))) (h12_h3_hu : u_SIO.isRef = true) :
    MetFree l (⟨"java/lang/String", "charAt", "(I)C"⟩ : MethodName) (head1 (Jvm.Cond.code (⟨"java/lang/String", "charAt", "(I)C"⟩ : MethodName) jdk_42_method_56_code 2 (some .char) :: ws) ({ frames := 3, cells := 0, slots := 0, locals := 40 } : Room)) (fun a U => a = #[(.ref a0), (.int (0 : Int32))] ∧ Z.Warmed39 U.vm ∧ U.heap = h0) (fun _ _ _ _ _ => True) (fun _ U o U' => ∃ v L, o = .returned v ∧ Qc20 Z a0 w_value_a0 kk_w_value_a0 el0 el1 w_CS u_SIO h0 n0 v U'.heap L ∧ FrameEnd U o U' L ({ frames := 3, cells := 0, slots := 0, locals := 40 } : Room).cells ({ frames := 3, cells := 0, slots := 0, locals := 40 } : Room).slots) := by
  refine MetFree.of_bodySF (plainFor_of_name pnc20) hisR ?_
  intro p e s m args below meth c s₁ Bd hml0 hP hK
  obtain ⟨rfl, hZ, hh⟩ := hP
  have hx := Bd.exec
  have hby := Bd.bytes
  have hlk := Bd.notSynchronized
  have hml : c.maxLocals = 2 := hml0
  have hown : s.vm.findClass "java/lang/String" = some m.cls := findClass_of_methodNamed Bd.named
  have hnm := (name_of_methodNamed Bd.named Bd.method).1
  have X0 : Stand p l e ({ frames := 3, cells := 0, slots := 0, locals := 40 } : Room) s m #[(.ref a0), (.int (0 : Int32))] below meth c s₁ [] 0 0 := Stand.of_body Bd
  have e0 : s₁.heap = h0 := by rw [← hh, Bd.state]; rfl
  have N0 := Fr.nil n0
  have K0 := Keep.refl h0 []
  refine own_enter (Q := Qc20 Z a0 w_value_a0 kk_w_value_a0 el0 el1 w_CS u_SIO h0 n0) (efc20 m a0) ?_
  refine own_st (T' := s₁) (g' := (mkF m 1 #[.val (.ref a0), .val (.int (0 : Int32))] [(.ref a0)])) (fun t k => ?_) ?_
  · show Steps p.tables e below (s₁.setTop (mkF m 0 #[.val (.ref a0), .val (.int (0 : Int32))] [])) t
    refine XS.aloadN X0.here hx rfl (hb hby d6_0) rfl rfl ?_
    exact k
  obtain ⟨cq1, kq1, qa1, qb1, qc1⟩ := isOf hZ e0 E_a0
  obtain ⟨_, _, ⟨T1, L1, k1, n1⟩, -, X1, ⟨Lc1, hQ1, l1, y1, z1⟩, st1⟩ := X0.virtualBack hx (y := (⟨"java/lang/String", "isLatin1", "()Z"⟩ : MethodName)) (z := (⟨"java/lang/String", "isLatin1", "()Z"⟩ : MethodName)) hown (mvT hZ (hw _ (List.mem_of_getElem? (i := 48) rfl))) (mvT hZ (hw _ (List.mem_of_getElem? (i := 49) rfl))) (notFace_of_selects (args := #[]) (mvT hZ (hw _ (List.mem_of_getElem? (i := 51) rfl)))) (mvT hZ (hw _ (List.mem_of_getElem? (i := 51) rfl))) (mvT hZ (hw _ (List.mem_of_getElem? (i := 50) rfl))) (by decide) (backOf (W := 0) (rm7 l Z ar hw [] a0 w_CS h0 n0 Z0 E_a0 F_coder_a0 S_COMPACT_STRINGS h1_hb3) hZ (hw _ (List.mem_of_getElem? (i := 52) rfl)) (hw _ (List.mem_of_getElem? (i := 23) rfl)) (by decide) (by decide)) qa1 qc1 (g := (mkF m 1 #[.val (.ref a0), .val (.int (0 : Int32))] [(.ref a0)])) rfl (by rw [hml]; rfl) (Steps.refl _) (argsL := []) (rest := []) (lenOf pdc20_0 rfl) rfl (by show 2 * 0 + _ ≤ _; exact Nat.le_of_eq rfl) (hb hby d6_1) (fun _ _ => ⟨rfl, e0, (by decide : 0 + 0 ≤ _), (by decide : 0 + 0 ≤ _)⟩)
  dsimp only [Pt.U, Pt.locs, Pt.cells, Pt.slots] at X1 l1 y1 z1 st1 hQ1
  subst l1 y1 z1
  obtain ⟨rfl, N1q, e1⟩ := hQ1
  have n2 := Fr.app N0 N1q
  refine own_tr (T' := T1) (g' := (mkF m 4 #[.val (.ref a0), .val (.int (0 : Int32))] [(.int (1 : Int32))])) st1 ?_
  refine own_st (T' := T1) (g' := (mkF m 8 #[.val (.ref a0), .val (.int (0 : Int32))] [(.ref a0)])) (fun t k => ?_) ?_
  · show Steps p.tables e below (T1.setTop (mkF m 4 #[.val (.ref a0), .val (.int (0 : Int32))] [(.int (1 : Int32))])) t
    refine XS.ifNo X1.here hx rfl (hb hby d6_4) rfl (by decide) ?_
    show Steps p.tables e below (T1.setTop (mkF m 7 #[.val (.ref a0), .val (.int (0 : Int32))] [])) t
    refine XS.aloadN X1.here hx rfl (hb hby d6_7) rfl rfl ?_
    exact k
  obtain ⟨T3, X3, e3, st3⟩ := getF X1 hx hZ hown (host := "") (Or.inl (hw _ (List.mem_of_getElem? (i := 35) rfl))) Via.refl e1 F_value_a0 (g := (mkF m 8 #[.val (.ref a0), .val (.int (0 : Int32))] [(.ref a0)])) rfl rfl (hb hby d6_8)
  refine own_st (T' := T3) (g' := (mkF m 11 #[.val (.ref a0), .val (.int (0 : Int32))] [(.ref w_value_a0)])) st3 ?_
  refine own_st (T' := T3) (g' := (mkF m 12 #[.val (.ref a0), .val (.int (0 : Int32))] [(.int (0 : Int32)), (.ref w_value_a0)])) (fun t k => ?_) ?_
  · show Steps p.tables e below (T3.setTop (mkF m 11 #[.val (.ref a0), .val (.int (0 : Int32))] [(.ref w_value_a0)])) t
    refine XS.iloadN X3.here hx rfl (hb hby d6_11) rfl ?_
    exact k
  obtain ⟨_, _, ⟨T4, L4, k4, n4⟩, -, X4, ⟨Lc4, hQ4, l4, y4, z4⟩, st4⟩ := Jvm.LawKit.callS X3 hx (y := (⟨"java/lang/StringLatin1", "charAt", "([BI)C"⟩ : MethodName)) hown (mvT hZ (hw _ (List.mem_of_getElem? (i := 53) rfl))) (mvT hZ (hw _ (List.mem_of_getElem? (i := 54) rfl))) (mvT hZ (hw _ (List.mem_of_getElem? (i := 55) rfl))) (mvT hZ (hw _ (List.mem_of_getElem? (i := 56) rfl))) (by decide) (backOf (W := 0) (rml20 l Z ar hw [] w_value_a0 kk_w_value_a0 el0 el1 (u_SIO) h0 n0 Z0 V_w_value_a0 S_SIOOBE_FORMATTER h12_h3_hu) hZ (hw _ (List.mem_of_getElem? (i := 56) rfl)) (hw _ (List.mem_of_getElem? (i := 55) rfl)) (by decide) (by decide)) (g := (mkF m 12 #[.val (.ref a0), .val (.int (0 : Int32))] [(.int (0 : Int32)), (.ref w_value_a0)])) rfl (by rw [hml]; rfl) (argsL := [(.ref w_value_a0), (.int (0 : Int32))]) (rest := []) (lenOf pdc20_1 rfl) rfl (by show 2 * 0 + _ ≤ _; exact Nat.le_of_eq rfl) (hb hby d6_12) (fun _ _ => ⟨rfl, e3, (by decide : 0 + 0 ≤ _), (by decide : 0 + 0 ≤ _)⟩)
  dsimp only [Pt.U, Pt.locs, Pt.cells, Pt.slots] at X4 l4 y4 z4 st4 hQ4
  subst l4 y4 z4
  obtain ⟨rfl, N4q, e4⟩ := hQ4
  have n5 := Fr.app n2 N4q
  refine own_st (T' := T4) (g' := (mkF m 15 #[.val (.ref a0), .val (.int (0 : Int32))] [(.int ((el0 &&& (255 : Int32)).toUInt32.toUInt16.toUInt32.toInt32))])) st4 ?_
  refine own_retC X4 hx hlk Bd.returns (hb hby d6_15) (own_nc _) (by decide) (by decide) ?_
  show Qc20 Z a0 w_value_a0 kk_w_value_a0 el0 el1 w_CS u_SIO h0 n0 (some (.int ((el0 &&& (255 : Int32)).toUInt32.toUInt16.toUInt32.toInt32))) T4.heap _
  rw [(e4 : T4.heap = h0)]
  exact ⟨rfl, n5, rfl⟩
theorem pnl21 : plainName "java/lang/StringLatin1" = true := by first | (simp [plainName, overriddenIn]; done) | decide +kernel
theorem pdl21_0 : parseMethodDescriptor "(II)V" = some ⟨[.int, .int], none⟩ := by decide +kernel
theorem efl21 (m : MethodId) (a0 : Addr) : entryFrame m #[(.ref a0), (.int (1 : Int32))] 2 = mkF m 0 #[.val (.ref a0), .val (.int (1 : Int32))] [] := by first | (simp [entryFrame, mkF, argsToLocals, Value.category]; done) | rfl
def Ql21 (Z : State) (a0 : Addr) (kk_a0 : ClassId) (el0 : Int32) (el1 : Int32) (u_SIO : Value) (h0 : Heap) (n0 : Nat) (v : Option Value) (h : Heap) (L : List Loc) : Prop := v = some (.int ((el1 &&& (255 : Int32)).toUInt32.toUInt16.toUInt32.toInt32)) ∧ Fr n0 L ∧ h = h0
set_option maxRecDepth 65536 in
set_option maxHeartbeats 40000000 in
theorem rml21 (l : Launch) (Z : State) (ar : Array Value) (hw : ∀ d ∈ tables_1, d.before ar Z = true) (ws : List Jvm.Cond) (a0 : Addr) (kk_a0 : ClassId) (el0 : Int32) (el1 : Int32) (u_SIO : Value) (h0 : Heap) (n0 : Nat) (Z0 : n0 ≤ h0.size) (V_a0 : Arv Z h0 a0 kk_a0 .byte (2 : Int32) [(.int el0), (.int el1)] (.int (0 : Int32))) (S_SIOOBE_FORMATTER : Sta Z h0 "jdk/internal/util/Preconditions" "SIOOBE_FORMATTER" "Ljava/util/function/BiFunction;" u_SIO) (h3_hu : u_SIO.isRef = true) :
    MetFree l (⟨"java/lang/StringLatin1", "charAt", "([BI)C"⟩ : MethodName) (head1 (Jvm.Cond.code (⟨"java/lang/StringLatin1", "charAt", "([BI)C"⟩ : MethodName) jdk_43_method_2_code 2 (some .char) :: ws) ({ frames := 2, cells := 0, slots := 0, locals := 27 } : Room)) (fun a U => a = #[(.ref a0), (.int (1 : Int32))] ∧ Z.Warmed39 U.vm ∧ U.heap = h0) (fun _ _ _ _ _ => True) (fun _ U o U' => ∃ v L, o = .returned v ∧ Ql21 Z a0 kk_a0 el0 el1 u_SIO h0 n0 v U'.heap L ∧ FrameEnd U o U' L ({ frames := 2, cells := 0, slots := 0, locals := 27 } : Room).cells ({ frames := 2, cells := 0, slots := 0, locals := 27 } : Room).slots) := by
  refine MetFree.of_bodySF (plainFor_of_name pnl21) hisR ?_
  intro p e s m args below meth c s₁ Bd hml0 hP hK
  obtain ⟨rfl, hZ, hh⟩ := hP
  have hx := Bd.exec
  have hby := Bd.bytes
  have hlk := Bd.notSynchronized
  have hml : c.maxLocals = 2 := hml0
  have hown : s.vm.findClass "java/lang/StringLatin1" = some m.cls := findClass_of_methodNamed Bd.named
  have hnm := (name_of_methodNamed Bd.named Bd.method).1
  have X0 : Stand p l e ({ frames := 2, cells := 0, slots := 0, locals := 27 } : Room) s m #[(.ref a0), (.int (1 : Int32))] below meth c s₁ [] 0 0 := Stand.of_body Bd
  have e0 : s₁.heap = h0 := by rw [← hh, Bd.state]; rfl
  have N0 := Fr.nil n0
  have K0 := Keep.refl h0 []
  refine own_enter (Q := Ql21 Z a0 kk_a0 el0 el1 u_SIO h0 n0) (efl21 m a0) ?_
  refine own_st (T' := s₁) (g' := (mkF m 2 #[.val (.ref a0), .val (.int (1 : Int32))] [(.ref a0), (.int (1 : Int32))])) (fun t k => ?_) ?_
  · show Steps p.tables e below (s₁.setTop (mkF m 0 #[.val (.ref a0), .val (.int (1 : Int32))] [])) t
    refine XS.iloadN X0.here hx rfl (hb hby d8_0) rfl ?_
    show Steps p.tables e below (s₁.setTop (mkF m 1 #[.val (.ref a0), .val (.int (1 : Int32))] [(.int (1 : Int32))])) t
    refine XS.aloadN X0.here hx rfl (hb hby d8_1) rfl rfl ?_
    exact k
  obtain ⟨c1, r1a, -, r1c, r1d, -, -⟩ := id V_a0
  refine own_st (T' := s₁) (g' := (mkF m 3 #[.val (.ref a0), .val (.int (1 : Int32))] [(.int (2 : Int32)), (.int (1 : Int32))])) (fun t k => ?_) ?_
  · show Steps p.tables e below (s₁.setTop (mkF m 2 #[.val (.ref a0), .val (.int (1 : Int32))] [(.ref a0), (.int (1 : Int32))])) t
    refine X0.arraylength hx (by rw [e0]; exact r1a.1) (State.isArrayOf_alike hZ.alike r1a.2.1) (g := (mkF m 2 #[.val (.ref a0), .val (.int (1 : Int32))] [(.ref a0), (.int (1 : Int32))])) rfl rfl (hb hby d8_2) _ ?_
    rw [len_of r1c r1d]
    exact k
  obtain ⟨_, _, ⟨T2, L2, k2, n2⟩, -, X2, ⟨Lc2, hQ2, l2, y2, z2⟩, st2⟩ := Jvm.LawKit.callS X0 hx (y := (⟨"java/lang/String", "checkIndex", "(II)V"⟩ : MethodName)) hown (mvT hZ (hw _ (List.mem_of_getElem? (i := 57) rfl))) (mvT hZ (hw _ (List.mem_of_getElem? (i := 58) rfl))) (mvT hZ (hw _ (List.mem_of_getElem? (i := 23) rfl))) (mvT hZ (hw _ (List.mem_of_getElem? (i := 59) rfl))) (by decide) (backOf (W := 0) (rm9 l Z ar hw [] ((1 : Int32)) ((2 : Int32)) (u_SIO) h0 n0 Z0 S_SIOOBE_FORMATTER h3_hu (by decide) (by decide)) hZ (hw _ (List.mem_of_getElem? (i := 59) rfl)) (hw _ (List.mem_of_getElem? (i := 23) rfl)) (by decide) (by decide)) (g := (mkF m 3 #[.val (.ref a0), .val (.int (1 : Int32))] [(.int (2 : Int32)), (.int (1 : Int32))])) rfl (by rw [hml]; rfl) (argsL := [(.int (1 : Int32)), (.int (2 : Int32))]) (rest := []) (lenOf pdl21_0 rfl) rfl (by show 2 * 0 + _ ≤ _; exact Nat.le_of_eq rfl) (hb hby d8_3) (fun _ _ => ⟨rfl, e0, (by decide : 0 + 0 ≤ _), (by decide : 0 + 0 ≤ _)⟩)
  dsimp only [Pt.U, Pt.locs, Pt.cells, Pt.slots] at X2 l2 y2 z2 st2 hQ2
  subst l2 y2 z2
  obtain ⟨rfl, N2q, e2⟩ := hQ2
  have n3 := Fr.app N0 N2q
  refine own_st (T' := T2) (g' := (mkF m 6 #[.val (.ref a0), .val (.int (1 : Int32))] [])) st2 ?_
  refine own_st (T' := T2) (g' := (mkF m 8 #[.val (.ref a0), .val (.int (1 : Int32))] [(.int (1 : Int32)), (.ref a0)])) (fun t k => ?_) ?_
  · show Steps p.tables e below (T2.setTop (mkF m 6 #[.val (.ref a0), .val (.int (1 : Int32))] [])) t
    refine XS.aloadN X2.here hx rfl (hb hby d8_6) rfl rfl ?_
    show Steps p.tables e below (T2.setTop (mkF m 7 #[.val (.ref a0), .val (.int (1 : Int32))] [(.ref a0)])) t
    refine XS.iloadN X2.here hx rfl (hb hby d8_7) rfl ?_
    exact k
  obtain ⟨c4, r4a, r4b, r4c, r4d, r4e, r4f⟩ := id V_a0
  have i4 : ¬ ((1 : Int32) < 0 ∨ c4.slots.size ≤ ((1 : Int32)).toNatClampNeg) := inb_of r4c ⟨by decide, by decide⟩
  have y4 : c4.slots[((1 : Int32)).toNatClampNeg]? = some (.int el1) := r4e.at i4 rfl
  refine own_st (T' := T2) (g' := (mkF m 14 #[.val (.ref a0), .val (.int (1 : Int32))] [(.int ((el1 &&& (255 : Int32)).toUInt32.toUInt16.toUInt32.toInt32))])) (fun t k => ?_) ?_
  · show Steps p.tables e below (T2.setTop (mkF m 8 #[.val (.ref a0), .val (.int (1 : Int32))] [(.int (1 : Int32)), (.ref a0)])) t
    refine X2.baloadBytes hx (j := (1 : Int32)) (v := (.int el1)) (by rw [e2]; exact r4a.1) (State.isArrayOf_alike hZ.alike r4a.2.1) r4a.2.2 i4 y4 (g := (mkF m 8 #[.val (.ref a0), .val (.int (1 : Int32))] [(.int (1 : Int32)), (.ref a0)])) rfl rfl (hb hby d8_8) _ ?_
    show Steps p.tables e below (T2.setTop (mkF m 9 #[.val (.ref a0), .val (.int (1 : Int32))] [(.int el1)])) t
    refine XS.sipush X2.here hx rfl (hb hby d8_9) ?_
    show Steps p.tables e below (T2.setTop (mkF m 12 #[.val (.ref a0), .val (.int (1 : Int32))] [(.int (255 : Int32)), (.int el1)])) t
    refine XS.iand X2.here hx rfl (hb hby d8_12) rfl ?_
    show Steps p.tables e below (T2.setTop (mkF m 13 #[.val (.ref a0), .val (.int (1 : Int32))] [(.int (el1 &&& (255 : Int32)))])) t
    refine XS.i2c X2.here hx rfl (hb hby d8_13) rfl ?_
    exact k
  refine own_retC X2 hx hlk Bd.returns (hb hby d8_14) (own_nc _) (by decide) (by decide) ?_
  show Ql21 Z a0 kk_a0 el0 el1 u_SIO h0 n0 (some (.int ((el1 &&& (255 : Int32)).toUInt32.toUInt16.toUInt32.toInt32))) T2.heap _
  rw [(e2 : T2.heap = h0)]
  exact ⟨rfl, n3, rfl⟩
theorem pnc21 : plainName "java/lang/String" = true := by first | (simp [plainName, overriddenIn]; done) | decide +kernel
theorem pdc21_0 : parseMethodDescriptor "()Z" = some ⟨[], some .boolean⟩ := by decide +kernel
theorem pdc21_1 : parseMethodDescriptor "([BI)C" = some ⟨[(.array .byte), .int], some .char⟩ := by decide +kernel
theorem efc21 (m : MethodId) (a0 : Addr) : entryFrame m #[(.ref a0), (.int (1 : Int32))] 2 = mkF m 0 #[.val (.ref a0), .val (.int (1 : Int32))] [] := by first | (simp [entryFrame, mkF, argsToLocals, Value.category]; done) | rfl
def Qc21 (Z : State) (a0 : Addr) (w_value_a0 : Addr) (kk_w_value_a0 : ClassId) (el0 : Int32) (el1 : Int32) (w_CS : Int32) (u_SIO : Value) (h0 : Heap) (n0 : Nat) (v : Option Value) (h : Heap) (L : List Loc) : Prop := v = some (.int ((el1 &&& (255 : Int32)).toUInt32.toUInt16.toUInt32.toInt32)) ∧ Fr n0 L ∧ h = h0
set_option maxRecDepth 65536 in
set_option maxHeartbeats 40000000 in
theorem rmc21 (l : Launch) (Z : State) (ar : Array Value) (hw : ∀ d ∈ tables_1, d.before ar Z = true) (ws : List Jvm.Cond) (a0 : Addr) (w_value_a0 : Addr) (kk_w_value_a0 : ClassId) (el0 : Int32) (el1 : Int32) (w_CS : Int32) (u_SIO : Value) (h0 : Heap) (n0 : Nat) (Z0 : n0 ≤ h0.size) (E_a0 : Exa Z h0 a0 "java/lang/String") (F_coder_a0 : Fld Z h0 a0 "java/lang/String" "coder" "B" (.int (0 : Int32))) (F_value_a0 : Fld Z h0 a0 "java/lang/String" "value" "[B" (.ref w_value_a0)) (V_w_value_a0 : Arv Z h0 w_value_a0 kk_w_value_a0 .byte (2 : Int32) [(.int el0), (.int el1)] (.int (0 : Int32))) (S_COMPACT_STRINGS : Sta Z h0 "java/lang/String" "COMPACT_STRINGS" "Z" (.int w_CS)) (S_SIOOBE_FORMATTER : Sta Z h0 "jdk/internal/util/Preconditions" "SIOOBE_FORMATTER" "Ljava/util/function/BiFunction;" u_SIO) (h1_hb3 : ¬ (w_CS = (0 : Int32))) (h12_h3_hu : u_SIO.isRef = true) :
    MetFree l (⟨"java/lang/String", "charAt", "(I)C"⟩ : MethodName) (head1 (Jvm.Cond.code (⟨"java/lang/String", "charAt", "(I)C"⟩ : MethodName) jdk_42_method_56_code 2 (some .char) :: ws) ({ frames := 3, cells := 0, slots := 0, locals := 40 } : Room)) (fun a U => a = #[(.ref a0), (.int (1 : Int32))] ∧ Z.Warmed39 U.vm ∧ U.heap = h0) (fun _ _ _ _ _ => True) (fun _ U o U' => ∃ v L, o = .returned v ∧ Qc21 Z a0 w_value_a0 kk_w_value_a0 el0 el1 w_CS u_SIO h0 n0 v U'.heap L ∧ FrameEnd U o U' L ({ frames := 3, cells := 0, slots := 0, locals := 40 } : Room).cells ({ frames := 3, cells := 0, slots := 0, locals := 40 } : Room).slots) := by
  refine MetFree.of_bodySF (plainFor_of_name pnc21) hisR ?_
  intro p e s m args below meth c s₁ Bd hml0 hP hK
  obtain ⟨rfl, hZ, hh⟩ := hP
  have hx := Bd.exec
  have hby := Bd.bytes
  have hlk := Bd.notSynchronized
  have hml : c.maxLocals = 2 := hml0
  have hown : s.vm.findClass "java/lang/String" = some m.cls := findClass_of_methodNamed Bd.named
  have hnm := (name_of_methodNamed Bd.named Bd.method).1
  have X0 : Stand p l e ({ frames := 3, cells := 0, slots := 0, locals := 40 } : Room) s m #[(.ref a0), (.int (1 : Int32))] below meth c s₁ [] 0 0 := Stand.of_body Bd
  have e0 : s₁.heap = h0 := by rw [← hh, Bd.state]; rfl
  have N0 := Fr.nil n0
  have K0 := Keep.refl h0 []
  refine own_enter (Q := Qc21 Z a0 w_value_a0 kk_w_value_a0 el0 el1 w_CS u_SIO h0 n0) (efc21 m a0) ?_
  refine own_st (T' := s₁) (g' := (mkF m 1 #[.val (.ref a0), .val (.int (1 : Int32))] [(.ref a0)])) (fun t k => ?_) ?_
  · show Steps p.tables e below (s₁.setTop (mkF m 0 #[.val (.ref a0), .val (.int (1 : Int32))] [])) t
    refine XS.aloadN X0.here hx rfl (hb hby d6_0) rfl rfl ?_
    exact k
  obtain ⟨cq1, kq1, qa1, qb1, qc1⟩ := isOf hZ e0 E_a0
  obtain ⟨_, _, ⟨T1, L1, k1, n1⟩, -, X1, ⟨Lc1, hQ1, l1, y1, z1⟩, st1⟩ := X0.virtualBack hx (y := (⟨"java/lang/String", "isLatin1", "()Z"⟩ : MethodName)) (z := (⟨"java/lang/String", "isLatin1", "()Z"⟩ : MethodName)) hown (mvT hZ (hw _ (List.mem_of_getElem? (i := 48) rfl))) (mvT hZ (hw _ (List.mem_of_getElem? (i := 49) rfl))) (notFace_of_selects (args := #[]) (mvT hZ (hw _ (List.mem_of_getElem? (i := 51) rfl)))) (mvT hZ (hw _ (List.mem_of_getElem? (i := 51) rfl))) (mvT hZ (hw _ (List.mem_of_getElem? (i := 50) rfl))) (by decide) (backOf (W := 0) (rm7 l Z ar hw [] a0 w_CS h0 n0 Z0 E_a0 F_coder_a0 S_COMPACT_STRINGS h1_hb3) hZ (hw _ (List.mem_of_getElem? (i := 52) rfl)) (hw _ (List.mem_of_getElem? (i := 23) rfl)) (by decide) (by decide)) qa1 qc1 (g := (mkF m 1 #[.val (.ref a0), .val (.int (1 : Int32))] [(.ref a0)])) rfl (by rw [hml]; rfl) (Steps.refl _) (argsL := []) (rest := []) (lenOf pdc21_0 rfl) rfl (by show 2 * 0 + _ ≤ _; exact Nat.le_of_eq rfl) (hb hby d6_1) (fun _ _ => ⟨rfl, e0, (by decide : 0 + 0 ≤ _), (by decide : 0 + 0 ≤ _)⟩)
  dsimp only [Pt.U, Pt.locs, Pt.cells, Pt.slots] at X1 l1 y1 z1 st1 hQ1
  subst l1 y1 z1
  obtain ⟨rfl, N1q, e1⟩ := hQ1
  have n2 := Fr.app N0 N1q
  refine own_tr (T' := T1) (g' := (mkF m 4 #[.val (.ref a0), .val (.int (1 : Int32))] [(.int (1 : Int32))])) st1 ?_
  refine own_st (T' := T1) (g' := (mkF m 8 #[.val (.ref a0), .val (.int (1 : Int32))] [(.ref a0)])) (fun t k => ?_) ?_
  · show Steps p.tables e below (T1.setTop (mkF m 4 #[.val (.ref a0), .val (.int (1 : Int32))] [(.int (1 : Int32))])) t
    refine XS.ifNo X1.here hx rfl (hb hby d6_4) rfl (by decide) ?_
    show Steps p.tables e below (T1.setTop (mkF m 7 #[.val (.ref a0), .val (.int (1 : Int32))] [])) t
    refine XS.aloadN X1.here hx rfl (hb hby d6_7) rfl rfl ?_
    exact k
  obtain ⟨T3, X3, e3, st3⟩ := getF X1 hx hZ hown (host := "") (Or.inl (hw _ (List.mem_of_getElem? (i := 35) rfl))) Via.refl e1 F_value_a0 (g := (mkF m 8 #[.val (.ref a0), .val (.int (1 : Int32))] [(.ref a0)])) rfl rfl (hb hby d6_8)
  refine own_st (T' := T3) (g' := (mkF m 11 #[.val (.ref a0), .val (.int (1 : Int32))] [(.ref w_value_a0)])) st3 ?_
  refine own_st (T' := T3) (g' := (mkF m 12 #[.val (.ref a0), .val (.int (1 : Int32))] [(.int (1 : Int32)), (.ref w_value_a0)])) (fun t k => ?_) ?_
  · show Steps p.tables e below (T3.setTop (mkF m 11 #[.val (.ref a0), .val (.int (1 : Int32))] [(.ref w_value_a0)])) t
    refine XS.iloadN X3.here hx rfl (hb hby d6_11) rfl ?_
    exact k
  obtain ⟨_, _, ⟨T4, L4, k4, n4⟩, -, X4, ⟨Lc4, hQ4, l4, y4, z4⟩, st4⟩ := Jvm.LawKit.callS X3 hx (y := (⟨"java/lang/StringLatin1", "charAt", "([BI)C"⟩ : MethodName)) hown (mvT hZ (hw _ (List.mem_of_getElem? (i := 53) rfl))) (mvT hZ (hw _ (List.mem_of_getElem? (i := 54) rfl))) (mvT hZ (hw _ (List.mem_of_getElem? (i := 55) rfl))) (mvT hZ (hw _ (List.mem_of_getElem? (i := 56) rfl))) (by decide) (backOf (W := 0) (rml21 l Z ar hw [] w_value_a0 kk_w_value_a0 el0 el1 (u_SIO) h0 n0 Z0 V_w_value_a0 S_SIOOBE_FORMATTER h12_h3_hu) hZ (hw _ (List.mem_of_getElem? (i := 56) rfl)) (hw _ (List.mem_of_getElem? (i := 55) rfl)) (by decide) (by decide)) (g := (mkF m 12 #[.val (.ref a0), .val (.int (1 : Int32))] [(.int (1 : Int32)), (.ref w_value_a0)])) rfl (by rw [hml]; rfl) (argsL := [(.ref w_value_a0), (.int (1 : Int32))]) (rest := []) (lenOf pdc21_1 rfl) rfl (by show 2 * 0 + _ ≤ _; exact Nat.le_of_eq rfl) (hb hby d6_12) (fun _ _ => ⟨rfl, e3, (by decide : 0 + 0 ≤ _), (by decide : 0 + 0 ≤ _)⟩)
  dsimp only [Pt.U, Pt.locs, Pt.cells, Pt.slots] at X4 l4 y4 z4 st4 hQ4
  subst l4 y4 z4
  obtain ⟨rfl, N4q, e4⟩ := hQ4
  have n5 := Fr.app n2 N4q
  refine own_st (T' := T4) (g' := (mkF m 15 #[.val (.ref a0), .val (.int (1 : Int32))] [(.int ((el1 &&& (255 : Int32)).toUInt32.toUInt16.toUInt32.toInt32))])) st4 ?_
  refine own_retC X4 hx hlk Bd.returns (hb hby d6_15) (own_nc _) (by decide) (by decide) ?_
  show Qc21 Z a0 w_value_a0 kk_w_value_a0 el0 el1 w_CS u_SIO h0 n0 (some (.int ((el1 &&& (255 : Int32)).toUInt32.toUInt16.toUInt32.toInt32))) T4.heap _
  rw [(e4 : T4.heap = h0)]
  exact ⟨rfl, n5, rfl⟩
theorem pn0 : plainName "com/example/meshwatch/meshwatch/RelationSymbolPinLaw" = true := by first | (simp [plainName, overriddenIn]; done) | decide +kernel
theorem pd0_0 : parseMethodDescriptor "(I)Lcom/example/meshwatch/meshwatch/Relation;" = some ⟨[.int], some (.object "com/example/meshwatch/meshwatch/Relation")⟩ := by decide +kernel
theorem pd0_1 : parseMethodDescriptor "()Ljava/lang/String;" = some ⟨[], some (.object "java/lang/String")⟩ := by decide +kernel
theorem pd0_2 : parseMethodDescriptor "()I" = some ⟨[], some .int⟩ := by decide +kernel
theorem pd0_3 : parseMethodDescriptor "(I)C" = some ⟨[.int], some .char⟩ := by decide +kernel
theorem pd0_4 : parseMethodDescriptor "(DD)Z" = some ⟨[.double, .double], some .boolean⟩ := by decide +kernel
theorem ef0 (m : MethodId) (p0 : Int32) (p1 : Int32) (p2 : Int32) : entryFrame m #[(.int p0), (.int p1), (.int p2)] maxLocals = mkF m 0 #[.val (.int p0), .val (.int p1), .val (.int p2), .unset, .unset, .unset, .unset, .unset] [] := by first | (simp [entryFrame, mkF, argsToLocals, Value.category, maxLocals]; done) | rfl
def Q0 (Z : State) (p0 : Int32) (p1 : Int32) (p2 : Int32) (w_LESS : Addr) (w_LESS_OR_EQUAL : Addr) (w_GREATER : Addr) (w_GREATER_OR_EQUAL : Addr) (w_EQUAL : Addr) (w_NOT_EQUAL : Addr) (w_CS : Int32) (u_SIO : Value) (h0 : Heap) (n0 : Nat) (v : Option Value) (h : Heap) (L : List Loc) : Prop := v = some (.int (1 : Int32)) ∧ Fr n0 L
set_option maxRecDepth 65536 in
set_option maxHeartbeats 40000000 in
theorem rm0 (l : Launch) (Z : State) (ar : Array Value) (hw : ∀ d ∈ tables_1, d.before ar Z = true) (ws : List Jvm.Cond) (p0 : Int32) (p1 : Int32) (p2 : Int32) (w_LESS : Addr) (w_LESS_OR_EQUAL : Addr) (w_GREATER : Addr) (w_GREATER_OR_EQUAL : Addr) (w_EQUAL : Addr) (w_NOT_EQUAL : Addr) (w_CS : Int32) (u_SIO : Value) (h0 : Heap) (n0 : Nat) (Z0 : n0 ≤ h0.size) (S_LESS : Sta Z h0 "com/example/meshwatch/meshwatch/Relation" "LESS" "Lcom/example/meshwatch/meshwatch/Relation;" (.ref w_LESS)) (E_w_LESS : Exa Z h0 w_LESS "com/example/meshwatch/meshwatch/Relation") (F_ordinal_w_LESS : Fld Z h0 w_LESS "java/lang/Enum" "ordinal" "I" (.int (0 : Int32))) (S_LESS_OR_EQUAL : Sta Z h0 "com/example/meshwatch/meshwatch/Relation" "LESS_OR_EQUAL" "Lcom/example/meshwatch/meshwatch/Relation;" (.ref w_LESS_OR_EQUAL)) (E_w_LESS_OR_EQUAL : Exa Z h0 w_LESS_OR_EQUAL "com/example/meshwatch/meshwatch/Relation") (F_ordinal_w_LESS_OR_EQUAL : Fld Z h0 w_LESS_OR_EQUAL "java/lang/Enum" "ordinal" "I" (.int (1 : Int32))) (S_GREATER : Sta Z h0 "com/example/meshwatch/meshwatch/Relation" "GREATER" "Lcom/example/meshwatch/meshwatch/Relation;" (.ref w_GREATER)) (E_w_GREATER : Exa Z h0 w_GREATER "com/example/meshwatch/meshwatch/Relation") (F_ordinal_w_GREATER : Fld Z h0 w_GREATER "java/lang/Enum" "ordinal" "I" (.int (2 : Int32))) (S_GREATER_OR_EQUAL : Sta Z h0 "com/example/meshwatch/meshwatch/Relation" "GREATER_OR_EQUAL" "Lcom/example/meshwatch/meshwatch/Relation;" (.ref w_GREATER_OR_EQUAL)) (E_w_GREATER_OR_EQUAL : Exa Z h0 w_GREATER_OR_EQUAL "com/example/meshwatch/meshwatch/Relation") (F_ordinal_w_GREATER_OR_EQUAL : Fld Z h0 w_GREATER_OR_EQUAL "java/lang/Enum" "ordinal" "I" (.int (3 : Int32))) (S_EQUAL : Sta Z h0 "com/example/meshwatch/meshwatch/Relation" "EQUAL" "Lcom/example/meshwatch/meshwatch/Relation;" (.ref w_EQUAL)) (E_w_EQUAL : Exa Z h0 w_EQUAL "com/example/meshwatch/meshwatch/Relation") (F_ordinal_w_EQUAL : Fld Z h0 w_EQUAL "java/lang/Enum" "ordinal" "I" (.int (4 : Int32))) (S_NOT_EQUAL : Sta Z h0 "com/example/meshwatch/meshwatch/Relation" "NOT_EQUAL" "Lcom/example/meshwatch/meshwatch/Relation;" (.ref w_NOT_EQUAL)) (E_w_NOT_EQUAL : Exa Z h0 w_NOT_EQUAL "com/example/meshwatch/meshwatch/Relation") (F_ordinal_w_NOT_EQUAL : Fld Z h0 w_NOT_EQUAL "java/lang/Enum" "ordinal" "I" (.int (5 : Int32))) (S_COMPACT_STRINGS : Sta Z h0 "java/lang/String" "COMPACT_STRINGS" "Z" (.int w_CS)) (S_SIOOBE_FORMATTER : Sta Z h0 "jdk/internal/util/Preconditions" "SIOOBE_FORMATTER" "Ljava/util/function/BiFunction;" u_SIO) (h26_h6_hb3 : ¬ (w_CS = (0 : Int32))) (h40_h12_h3_hu : u_SIO.isRef = true) :
    MetFree l x (head1 (Jvm.Cond.code x code maxLocals ret :: ws) room_1) (fun a U => a = #[(.int p0), (.int p1), (.int p2)] ∧ Z.Warmed39 U.vm ∧ U.heap = h0 ∧ CHv Z consts_1 U.vm h0) (fun _ _ _ _ _ => True) (fun _ U o U' => ∃ v L, o = .returned v ∧ Q0 Z p0 p1 p2 w_LESS w_LESS_OR_EQUAL w_GREATER w_GREATER_OR_EQUAL w_EQUAL w_NOT_EQUAL w_CS u_SIO h0 n0 v U'.heap L ∧ ReturnedEndW U o U' L room_1.cells room_1.slots) := by
  refine MetFree.of_bodySF (plainFor_of_name pn0) hisR ?_
  intro p e s m args below meth c s₁ Bd hml0 hP hK
  obtain ⟨rfl, hZ, hh, hI⟩ := hP
  have hx := Bd.exec
  have hby := Bd.bytes
  have hlk := Bd.notSynchronized
  have hml : c.maxLocals = 8 := hml0
  have hown : s.vm.findClass "com/example/meshwatch/meshwatch/RelationSymbolPinLaw" = some m.cls := findClass_of_methodNamed Bd.named
  have hnm := (name_of_methodNamed Bd.named Bd.method).1
  have X0 : Stand p l e room_1 s m #[(.int p0), (.int p1), (.int p2)] below meth c s₁ [] 0 0 := Stand.of_body Bd
  have e0 : s₁.heap = h0 := by rw [← hh, Bd.state]; rfl
  have N0 := Fr.nil n0
  have K0 := Keep.refl h0 []
  refine own_enterW (Q := Q0 Z p0 p1 p2 w_LESS w_LESS_OR_EQUAL w_GREATER w_GREATER_OR_EQUAL w_EQUAL w_NOT_EQUAL w_CS u_SIO h0 n0) (ef0 m p0 p1 p2) ?_
  refine own_stW (T' := s₁) (g' := (mkF m 7 #[.val (.int p0), .val (.int p1), .val (.int p2), .unset, .unset, .unset, .unset, .unset] [(.int ((p0 &&& (2147483647 : Int32)) % (6 : Int32)))])) (fun t k => ?_) ?_
  · show Steps p.tables e below (s₁.setTop (mkF m 0 #[.val (.int p0), .val (.int p1), .val (.int p2), .unset, .unset, .unset, .unset, .unset] [])) t
    refine XS.iloadN X0.here hx rfl (hb hby at_0) rfl ?_
    show Steps p.tables e below (s₁.setTop (mkF m 1 #[.val (.int p0), .val (.int p1), .val (.int p2), .unset, .unset, .unset, .unset, .unset] [(.int p0)])) t
    refine X0.ldcInt hx hown (mvT hZ (hw _ (List.mem_of_getElem? (i := 0) rfl))) (g := (mkF m 1 #[.val (.int p0), .val (.int p1), .val (.int p2), .unset, .unset, .unset, .unset, .unset] [(.int p0)])) rfl (hb hby at_1) _ ?_
    show Steps p.tables e below (s₁.setTop (mkF m 3 #[.val (.int p0), .val (.int p1), .val (.int p2), .unset, .unset, .unset, .unset, .unset] [(.int (2147483647 : Int32)), (.int p0)])) t
    refine XS.iand X0.here hx rfl (hb hby at_3) rfl ?_
    show Steps p.tables e below (s₁.setTop (mkF m 4 #[.val (.int p0), .val (.int p1), .val (.int p2), .unset, .unset, .unset, .unset, .unset] [(.int (p0 &&& (2147483647 : Int32)))])) t
    refine XS.bipush X0.here hx rfl (hb hby at_4) ?_
    show Steps p.tables e below (s₁.setTop (mkF m 6 #[.val (.int p0), .val (.int p1), .val (.int p2), .unset, .unset, .unset, .unset, .unset] [(.int (6 : Int32)), (.int (p0 &&& (2147483647 : Int32)))])) t
    refine iremM X0 hx rfl (hb hby at_6) rfl (by decide) ?_
    exact k
  rcases own_six p0 with hk7_1 | hk7_2 | hk7_3 | hk7_4 | hk7_5 | hk7_6
  · rw [hk7_1]
    obtain ⟨_, _, ⟨T7, L7, k7, n7⟩, -, X7, ⟨Lc7, hQ7, l7, y7, z7⟩, st7⟩ := Jvm.LawKit.callS X0 hx (y := (⟨"com/example/meshwatch/meshwatch/RelationSymbolPinLaw", "pick", "(I)Lcom/example/meshwatch/meshwatch/Relation;"⟩ : MethodName)) hown (mvT hZ (hw _ (List.mem_of_getElem? (i := 1) rfl))) (mvT hZ (hw _ (List.mem_of_getElem? (i := 2) rfl))) (mvT hZ (hw _ (List.mem_of_getElem? (i := 3) rfl))) (mvT hZ (hw _ (List.mem_of_getElem? (i := 4) rfl))) (by decide) (backOf (W := 0) (rmk0 l Z ar hw [] w_LESS h0 n0 Z0 S_LESS) hZ (hw _ (List.mem_of_getElem? (i := 4) rfl)) (hw _ (List.mem_of_getElem? (i := 3) rfl)) (by decide) (by decide)) (g := (mkF m 7 #[.val (.int p0), .val (.int p1), .val (.int p2), .unset, .unset, .unset, .unset, .unset] [(.int (0 : Int32))])) rfl (by rw [hml]; rfl) (argsL := [(.int (0 : Int32))]) (rest := []) (lenOf pd0_0 rfl) rfl (by show 2 * 0 + _ ≤ _; exact Nat.le_of_eq rfl) (hb hby at_7) (fun _ _ => ⟨rfl, e0, (by decide : 0 + 0 ≤ _), (by decide : 0 + 0 ≤ _)⟩)
    dsimp only [Pt.U, Pt.locs, Pt.cells, Pt.slots] at X7 l7 y7 z7 st7 hQ7
    subst l7 y7 z7
    obtain ⟨rfl, N7q, e7⟩ := hQ7
    have n8 := Fr.app N0 N7q
    refine own_stW (T' := T7) (g' := (mkF m 10 #[.val (.int p0), .val (.int p1), .val (.int p2), .unset, .unset, .unset, .unset, .unset] [(.ref w_LESS)])) st7 ?_
    refine own_stW (T' := T7) (g' := (mkF m 12 #[.val (.int p0), .val (.int p1), .val (.int p2), .val (.ref w_LESS), .unset, .unset, .unset, .unset] [(.ref w_LESS)])) (fun t k => ?_) ?_
    · show Steps p.tables e below (T7.setTop (mkF m 10 #[.val (.int p0), .val (.int p1), .val (.int p2), .unset, .unset, .unset, .unset, .unset] [(.ref w_LESS)])) t
      refine XS.astoreN X7.here hx rfl (hb hby at_10) rfl rfl (l' := #[.val (.int p0), .val (.int p1), .val (.int p2), .val (.ref w_LESS), .unset, .unset, .unset, .unset]) rfl ?_
      show Steps p.tables e below (T7.setTop (mkF m 11 #[.val (.int p0), .val (.int p1), .val (.int p2), .val (.ref w_LESS), .unset, .unset, .unset, .unset] [])) t
      refine XS.aloadN X7.here hx rfl (hb hby at_11) rfl rfl ?_
      exact k
    obtain ⟨cq9, kq9, qa9, qb9, qc9⟩ := isOf hZ e7 E_w_LESS
    obtain ⟨_, _, ⟨T9, L9, k9, n9⟩, -, X9, hS9, -, ⟨Lc9, hQ9, l9, y9, z9, -⟩, st9⟩ := X7.virtualBackS hx (y := (⟨"com/example/meshwatch/meshwatch/Relation", "symbol", "()Ljava/lang/String;"⟩ : MethodName)) (z := (⟨"com/example/meshwatch/meshwatch/Relation", "symbol", "()Ljava/lang/String;"⟩ : MethodName)) hown (mvT hZ (hw _ (List.mem_of_getElem? (i := 8) rfl))) (mvT hZ (hw _ (List.mem_of_getElem? (i := 9) rfl))) (notFace_of_selects (args := #[]) (mvT hZ (hw _ (List.mem_of_getElem? (i := 11) rfl)))) (mvT hZ (hw _ (List.mem_of_getElem? (i := 11) rfl))) (mvT hZ (hw _ (List.mem_of_getElem? (i := 10) rfl))) (by decide) (backOfSH (s := s) (vm0 := s.vm) (W := 0) (rmy0 l Z ar hw [] w_LESS h0 n0 Z0 E_w_LESS F_ordinal_w_LESS) hZ (hw _ (List.mem_of_getElem? (i := 12) rfl)) (hw _ (List.mem_of_getElem? (i := 6) rfl)) (by decide) (by decide) (own_ew hw) hI) qa9 qc9 (g := (mkF m 12 #[.val (.int p0), .val (.int p1), .val (.int p2), .val (.ref w_LESS), .unset, .unset, .unset, .unset] [(.ref w_LESS)])) rfl (by rw [hml]; rfl) (Steps.refl _) (argsL := []) (rest := []) (lenOf pd0_1 rfl) rfl (by show 2 * 0 + _ ≤ _; exact Nat.le_of_eq rfl) (hb hby at_12) (fun _ _ => ⟨rfl, e7, (by decide : 0 + 2 ≤ _), (by decide : 0 + 8 ≤ _)⟩)
    dsimp only [Pt.U, Pt.locs, Pt.cells, Pt.slots] at X9 l9 y9 z9 st9 hQ9
    subst l9 y9 z9
    have hZ : Z.Warmed39 (s.setVm T9.vm).vm := State.Warmed39.trans (t := s) hZ hS9.1
    have hown : (s.setVm T9.vm).vm.findClass "com/example/meshwatch/meshwatch/RelationSymbolPinLaw" = some m.cls := by rw [show (s.setVm T9.vm).vm = T9.vm from rfl, hS9.1.alike.findClass]; exact hown
    obtain ⟨x0_9, x1_9, kx_9, rfl, N9q, K9, f10, f11, f12, f13⟩ := hQ9
    have n14 := Fr.app n8 N9q
    have f15 := own_sta S_LESS K9
    have f16 := E_w_LESS.keep K9
    have f17 := F_ordinal_w_LESS.keep K9 nin0
    have f18 := own_sta S_LESS_OR_EQUAL K9
    have f19 := E_w_LESS_OR_EQUAL.keep K9
    have f20 := F_ordinal_w_LESS_OR_EQUAL.keep K9 nin0
    have f21 := own_sta S_GREATER K9
    have f22 := E_w_GREATER.keep K9
    have f23 := F_ordinal_w_GREATER.keep K9 nin0
    have f24 := own_sta S_GREATER_OR_EQUAL K9
    have f25 := E_w_GREATER_OR_EQUAL.keep K9
    have f26 := F_ordinal_w_GREATER_OR_EQUAL.keep K9 nin0
    have f27 := own_sta S_EQUAL K9
    have f28 := E_w_EQUAL.keep K9
    have f29 := F_ordinal_w_EQUAL.keep K9 nin0
    have f30 := own_sta S_NOT_EQUAL K9
    have f31 := E_w_NOT_EQUAL.keep K9
    have f32 := F_ordinal_w_NOT_EQUAL.keep K9 nin0
    have f33 := own_sta S_COMPACT_STRINGS K9
    have f34 := own_sta S_SIOOBE_FORMATTER K9
    have z35 := Nat.le_trans Z0 K9.1
    have k36 := K0.trans K9 all0
    refine own_trW (T' := T9) (g' := (mkF m 15 #[.val (.int p0), .val (.int p1), .val (.int p2), .val (.ref w_LESS), .unset, .unset, .unset, .unset] [(.ref x0_9)])) st9 ?_
    refine own_stW (T' := T9) (g' := (mkF m 26 #[.val (.int p0), .val (.int p1), .val (.int p2), .val (.ref w_LESS), .val (.ref x0_9), .unset, .unset, .unset] [(.ref x0_9)])) (fun t k => ?_) ?_
    · show Steps p.tables e below (T9.setTop (mkF m 15 #[.val (.int p0), .val (.int p1), .val (.int p2), .val (.ref w_LESS), .unset, .unset, .unset, .unset] [(.ref x0_9)])) t
      refine XS.astore X9.here hx rfl (hb hby at_15) rfl rfl (l' := #[.val (.int p0), .val (.int p1), .val (.int p2), .val (.ref w_LESS), .val (.ref x0_9), .unset, .unset, .unset]) rfl ?_
      show Steps p.tables e below (T9.setTop (mkF m 17 #[.val (.int p0), .val (.int p1), .val (.int p2), .val (.ref w_LESS), .val (.ref x0_9), .unset, .unset, .unset] [])) t
      refine XS.aload X9.here hx rfl (hb hby at_17) rfl rfl ?_
      show Steps p.tables e below (T9.setTop (mkF m 19 #[.val (.int p0), .val (.int p1), .val (.int p2), .val (.ref w_LESS), .val (.ref x0_9), .unset, .unset, .unset] [(.ref x0_9)])) t
      refine XS.ifnonnullYes X9.here hx rfl (pc0 := 19) (pc' := 24) rfl (hb hby at_19) rfl (by decide) (by decide) ?_
      show Steps p.tables e below (T9.setTop (mkF m 24 #[.val (.int p0), .val (.int p1), .val (.int p2), .val (.ref w_LESS), .val (.ref x0_9), .unset, .unset, .unset] [])) t
      refine XS.aload X9.here hx rfl (hb hby at_24) rfl rfl ?_
      exact k
    obtain ⟨cq37, kq37, qa37, qb37, qc37⟩ := isOf hZ (rfl : T9.heap = T9.heap) f10
    obtain ⟨_, _, ⟨T37, L37, k37, n37⟩, -, X37, ⟨Lc37, hQ37, l37, y37, z37⟩, st37⟩ := X9.virtualBack hx (y := (⟨"java/lang/String", "length", "()I"⟩ : MethodName)) (z := (⟨"java/lang/String", "length", "()I"⟩ : MethodName)) hown (mvT hZ (hw _ (List.mem_of_getElem? (i := 30) rfl))) (mvT hZ (hw _ (List.mem_of_getElem? (i := 31) rfl))) (notFace_of_selects (args := #[]) (mvT hZ (hw _ (List.mem_of_getElem? (i := 33) rfl)))) (mvT hZ (hw _ (List.mem_of_getElem? (i := 33) rfl))) (mvT hZ (hw _ (List.mem_of_getElem? (i := 32) rfl))) (by decide) (backOf (W := 0) (rmlen1 l Z ar hw [] x0_9 x1_9 kx_9 ((60 : Int32)) w_CS T9.heap n0 z35 f10 f11 f12 f13 f33 h26_h6_hb3) hZ (hw _ (List.mem_of_getElem? (i := 34) rfl)) (hw _ (List.mem_of_getElem? (i := 23) rfl)) (by decide) (by decide)) qa37 qc37 (g := (mkF m 26 #[.val (.int p0), .val (.int p1), .val (.int p2), .val (.ref w_LESS), .val (.ref x0_9), .unset, .unset, .unset] [(.ref x0_9)])) rfl (by rw [hml]; rfl) (Steps.refl _) (argsL := []) (rest := []) (lenOf pd0_2 rfl) rfl (by show 2 * 0 + _ ≤ _; exact Nat.le_of_eq rfl) (hb hby at_26) (fun _ _ => ⟨rfl, (rfl : T9.heap = T9.heap), (by decide : 2 + 0 ≤ _), (by decide : 8 + 0 ≤ _)⟩)
    dsimp only [Pt.U, Pt.locs, Pt.cells, Pt.slots] at X37 l37 y37 z37 st37 hQ37
    subst l37 y37 z37
    obtain ⟨rfl, N37q, e37⟩ := hQ37
    have n38 := Fr.app n14 N37q
    refine own_trW (T' := T37) (g' := (mkF m 29 #[.val (.int p0), .val (.int p1), .val (.int p2), .val (.ref w_LESS), .val (.ref x0_9), .unset, .unset, .unset] [(.int (1 : Int32))])) st37 ?_
    refine own_stW (T' := T37) (g' := (mkF m 40 #[.val (.int p0), .val (.int p1), .val (.int p2), .val (.ref w_LESS), .val (.ref x0_9), .val (.int (1 : Int32)), .unset, .unset] [(.int (0 : Int32)), (.ref x0_9)])) (fun t k => ?_) ?_
    · show Steps p.tables e below (T37.setTop (mkF m 29 #[.val (.int p0), .val (.int p1), .val (.int p2), .val (.ref w_LESS), .val (.ref x0_9), .unset, .unset, .unset] [(.int (1 : Int32))])) t
      refine XS.istore X37.here hx rfl (hb hby at_29) rfl (l' := #[.val (.int p0), .val (.int p1), .val (.int p2), .val (.ref w_LESS), .val (.ref x0_9), .val (.int (1 : Int32)), .unset, .unset]) rfl ?_
      show Steps p.tables e below (T37.setTop (mkF m 31 #[.val (.int p0), .val (.int p1), .val (.int p2), .val (.ref w_LESS), .val (.ref x0_9), .val (.int (1 : Int32)), .unset, .unset] [])) t
      refine XS.iload X37.here hx rfl (hb hby at_31) rfl ?_
      show Steps p.tables e below (T37.setTop (mkF m 33 #[.val (.int p0), .val (.int p1), .val (.int p2), .val (.ref w_LESS), .val (.ref x0_9), .val (.int (1 : Int32)), .unset, .unset] [(.int (1 : Int32))])) t
      refine XS.iconst X37.here hx rfl (hb hby at_33) ?_
      show Steps p.tables e below (T37.setTop (mkF m 34 #[.val (.int p0), .val (.int p1), .val (.int p2), .val (.ref w_LESS), .val (.ref x0_9), .val (.int (1 : Int32)), .unset, .unset] [(.int (1 : Int32)), (.int (1 : Int32))])) t
      refine XS.icmpNo X37.here hx rfl (hb hby at_34) rfl (by decide) ?_
      show Steps p.tables e below (T37.setTop (mkF m 37 #[.val (.int p0), .val (.int p1), .val (.int p2), .val (.ref w_LESS), .val (.ref x0_9), .val (.int (1 : Int32)), .unset, .unset] [])) t
      refine XS.aload X37.here hx rfl (hb hby at_37) rfl rfl ?_
      show Steps p.tables e below (T37.setTop (mkF m 39 #[.val (.int p0), .val (.int p1), .val (.int p2), .val (.ref w_LESS), .val (.ref x0_9), .val (.int (1 : Int32)), .unset, .unset] [(.ref x0_9)])) t
      refine XS.iconst X37.here hx rfl (hb hby at_39) ?_
      exact k
    obtain ⟨cq39, kq39, qa39, qb39, qc39⟩ := isOf hZ e37 f10
    obtain ⟨_, _, ⟨T39, L39, k39, n39⟩, -, X39, ⟨Lc39, hQ39, l39, y39, z39⟩, st39⟩ := X37.virtualBack hx (y := (⟨"java/lang/String", "charAt", "(I)C"⟩ : MethodName)) (z := (⟨"java/lang/String", "charAt", "(I)C"⟩ : MethodName)) hown (mvT hZ (hw _ (List.mem_of_getElem? (i := 43) rfl))) (mvT hZ (hw _ (List.mem_of_getElem? (i := 44) rfl))) (notFace_of_selects (args := #[]) (mvT hZ (hw _ (List.mem_of_getElem? (i := 46) rfl)))) (mvT hZ (hw _ (List.mem_of_getElem? (i := 46) rfl))) (mvT hZ (hw _ (List.mem_of_getElem? (i := 45) rfl))) (by decide) (backOf (W := 0) (rmc10 l Z ar hw [] x0_9 x1_9 kx_9 ((60 : Int32)) w_CS (u_SIO) T9.heap n0 z35 f10 f11 f12 f13 f33 f34 h26_h6_hb3 h40_h12_h3_hu) hZ (hw _ (List.mem_of_getElem? (i := 47) rfl)) (hw _ (List.mem_of_getElem? (i := 23) rfl)) (by decide) (by decide)) qa39 qc39 (g := (mkF m 40 #[.val (.int p0), .val (.int p1), .val (.int p2), .val (.ref w_LESS), .val (.ref x0_9), .val (.int (1 : Int32)), .unset, .unset] [(.int (0 : Int32)), (.ref x0_9)])) rfl (by rw [hml]; rfl) (Steps.refl _) (argsL := [(.int (0 : Int32))]) (rest := []) (lenOf pd0_3 rfl) rfl (by show 2 * 0 + _ ≤ _; exact Nat.le_of_eq rfl) (hb hby at_40) (fun _ _ => ⟨rfl, e37, (by decide : 2 + 0 ≤ _), (by decide : 8 + 0 ≤ _)⟩)
    dsimp only [Pt.U, Pt.locs, Pt.cells, Pt.slots] at X39 l39 y39 z39 st39 hQ39
    subst l39 y39 z39
    obtain ⟨rfl, N39q, e39⟩ := hQ39
    have n40 := Fr.app n38 N39q
    refine own_trW (T' := T39) (g' := (mkF m 43 #[.val (.int p0), .val (.int p1), .val (.int p2), .val (.ref w_LESS), .val (.ref x0_9), .val (.int (1 : Int32)), .unset, .unset] [(.int (((60 : Int32) &&& (255 : Int32)).toUInt32.toUInt16.toUInt32.toInt32))])) st39 ?_
    refine own_stW (T' := T39) (g' := (mkF m 54 #[.val (.int p0), .val (.int p1), .val (.int p2), .val (.ref w_LESS), .val (.ref x0_9), .val (.int (1 : Int32)), .unset, .val (.int (((60 : Int32) &&& (255 : Int32)).toUInt32.toUInt16.toUInt32.toInt32))] [(.int p2), (.int p1)])) (fun t k => ?_) ?_
    · show Steps p.tables e below (T39.setTop (mkF m 43 #[.val (.int p0), .val (.int p1), .val (.int p2), .val (.ref w_LESS), .val (.ref x0_9), .val (.int (1 : Int32)), .unset, .unset] [(.int (((60 : Int32) &&& (255 : Int32)).toUInt32.toUInt16.toUInt32.toInt32))])) t
      refine XS.istore X39.here hx rfl (hb hby at_43) rfl (l' := #[.val (.int p0), .val (.int p1), .val (.int p2), .val (.ref w_LESS), .val (.ref x0_9), .val (.int (1 : Int32)), .unset, .val (.int (((60 : Int32) &&& (255 : Int32)).toUInt32.toUInt16.toUInt32.toInt32))]) rfl ?_
      show Steps p.tables e below (T39.setTop (mkF m 45 #[.val (.int p0), .val (.int p1), .val (.int p2), .val (.ref w_LESS), .val (.ref x0_9), .val (.int (1 : Int32)), .unset, .val (.int (((60 : Int32) &&& (255 : Int32)).toUInt32.toUInt16.toUInt32.toInt32))] [])) t
      refine XS.iload X39.here hx rfl (hb hby at_45) rfl ?_
      show Steps p.tables e below (T39.setTop (mkF m 47 #[.val (.int p0), .val (.int p1), .val (.int p2), .val (.ref w_LESS), .val (.ref x0_9), .val (.int (1 : Int32)), .unset, .val (.int (((60 : Int32) &&& (255 : Int32)).toUInt32.toUInt16.toUInt32.toInt32))] [(.int (((60 : Int32) &&& (255 : Int32)).toUInt32.toUInt16.toUInt32.toInt32))])) t
      refine XS.bipush X39.here hx rfl (hb hby at_47) ?_
      show Steps p.tables e below (T39.setTop (mkF m 49 #[.val (.int p0), .val (.int p1), .val (.int p2), .val (.ref w_LESS), .val (.ref x0_9), .val (.int (1 : Int32)), .unset, .val (.int (((60 : Int32) &&& (255 : Int32)).toUInt32.toUInt16.toUInt32.toInt32))] [(.int (60 : Int32)), (.int (((60 : Int32) &&& (255 : Int32)).toUInt32.toUInt16.toUInt32.toInt32))])) t
      refine XS.icmpNo X39.here hx rfl (hb hby at_49) rfl (teq ((by decide) : (((60 : Int32) &&& (255 : Int32)).toUInt32.toUInt16.toUInt32.toInt32) = (60 : Int32))).2 ?_
      show Steps p.tables e below (T39.setTop (mkF m 52 #[.val (.int p0), .val (.int p1), .val (.int p2), .val (.ref w_LESS), .val (.ref x0_9), .val (.int (1 : Int32)), .unset, .val (.int (((60 : Int32) &&& (255 : Int32)).toUInt32.toUInt16.toUInt32.toInt32))] [])) t
      refine XS.iloadN X39.here hx rfl (hb hby at_52) rfl ?_
      show Steps p.tables e below (T39.setTop (mkF m 53 #[.val (.int p0), .val (.int p1), .val (.int p2), .val (.ref w_LESS), .val (.ref x0_9), .val (.int (1 : Int32)), .unset, .val (.int (((60 : Int32) &&& (255 : Int32)).toUInt32.toUInt16.toUInt32.toInt32))] [(.int p1)])) t
      refine XS.iloadN X39.here hx rfl (hb hby at_53) rfl ?_
      exact k
    by_cases hc54_41 : p1 < p2
    · refine own_stW (T' := T39) (g' := (mkF m 221 #[.val (.int p0), .val (.int p1), .val (.int p2), .val (.ref w_LESS), .val (.ref x0_9), .val (.int (1 : Int32)), .val (.int (1 : Int32)), .val (.int (((60 : Int32) &&& (255 : Int32)).toUInt32.toUInt16.toUInt32.toInt32))] [(.double (FP.i2d p2)), (.double (FP.i2d p1)), (.ref w_LESS)])) (fun t k => ?_) ?_
      · show Steps p.tables e below (T39.setTop (mkF m 54 #[.val (.int p0), .val (.int p1), .val (.int p2), .val (.ref w_LESS), .val (.ref x0_9), .val (.int (1 : Int32)), .unset, .val (.int (((60 : Int32) &&& (255 : Int32)).toUInt32.toUInt16.toUInt32.toInt32))] [(.int p2), (.int p1)])) t
        refine XS.icmpNo X39.here hx rfl (hb hby at_54) rfl (tlt hc54_41).2.1 ?_
        show Steps p.tables e below (T39.setTop (mkF m 57 #[.val (.int p0), .val (.int p1), .val (.int p2), .val (.ref w_LESS), .val (.ref x0_9), .val (.int (1 : Int32)), .unset, .val (.int (((60 : Int32) &&& (255 : Int32)).toUInt32.toUInt16.toUInt32.toInt32))] [])) t
        refine XS.iconst X39.here hx rfl (hb hby at_57) ?_
        show Steps p.tables e below (T39.setTop (mkF m 58 #[.val (.int p0), .val (.int p1), .val (.int p2), .val (.ref w_LESS), .val (.ref x0_9), .val (.int (1 : Int32)), .unset, .val (.int (((60 : Int32) &&& (255 : Int32)).toUInt32.toUInt16.toUInt32.toInt32))] [(.int (1 : Int32))])) t
        refine XS.goto X39.here hx rfl (pc0 := 58) (pc' := 62) rfl (hb hby at_58) (by decide) (by decide) ?_
        show Steps p.tables e below (T39.setTop (mkF m 62 #[.val (.int p0), .val (.int p1), .val (.int p2), .val (.ref w_LESS), .val (.ref x0_9), .val (.int (1 : Int32)), .unset, .val (.int (((60 : Int32) &&& (255 : Int32)).toUInt32.toUInt16.toUInt32.toInt32))] [(.int (1 : Int32))])) t
        refine XS.istore X39.here hx rfl (hb hby at_62) rfl (l' := #[.val (.int p0), .val (.int p1), .val (.int p2), .val (.ref w_LESS), .val (.ref x0_9), .val (.int (1 : Int32)), .val (.int (1 : Int32)), .val (.int (((60 : Int32) &&& (255 : Int32)).toUInt32.toUInt16.toUInt32.toInt32))]) rfl ?_
        show Steps p.tables e below (T39.setTop (mkF m 64 #[.val (.int p0), .val (.int p1), .val (.int p2), .val (.ref w_LESS), .val (.ref x0_9), .val (.int (1 : Int32)), .val (.int (1 : Int32)), .val (.int (((60 : Int32) &&& (255 : Int32)).toUInt32.toUInt16.toUInt32.toInt32))] [])) t
        refine XS.goto X39.here hx rfl (pc0 := 64) (pc' := 91) rfl (hb hby at_64) (by decide) (by decide) ?_
        show Steps p.tables e below (T39.setTop (mkF m 91 #[.val (.int p0), .val (.int p1), .val (.int p2), .val (.ref w_LESS), .val (.ref x0_9), .val (.int (1 : Int32)), .val (.int (1 : Int32)), .val (.int (((60 : Int32) &&& (255 : Int32)).toUInt32.toUInt16.toUInt32.toInt32))] [])) t
        refine XS.goto X39.here hx rfl (pc0 := 91) (pc' := 216) rfl (hb hby at_91) (by decide) (by decide) ?_
        show Steps p.tables e below (T39.setTop (mkF m 216 #[.val (.int p0), .val (.int p1), .val (.int p2), .val (.ref w_LESS), .val (.ref x0_9), .val (.int (1 : Int32)), .val (.int (1 : Int32)), .val (.int (((60 : Int32) &&& (255 : Int32)).toUInt32.toUInt16.toUInt32.toInt32))] [])) t
        refine XS.aloadN X39.here hx rfl (hb hby at_216) rfl rfl ?_
        show Steps p.tables e below (T39.setTop (mkF m 217 #[.val (.int p0), .val (.int p1), .val (.int p2), .val (.ref w_LESS), .val (.ref x0_9), .val (.int (1 : Int32)), .val (.int (1 : Int32)), .val (.int (((60 : Int32) &&& (255 : Int32)).toUInt32.toUInt16.toUInt32.toInt32))] [(.ref w_LESS)])) t
        refine XS.iloadN X39.here hx rfl (hb hby at_217) rfl ?_
        show Steps p.tables e below (T39.setTop (mkF m 218 #[.val (.int p0), .val (.int p1), .val (.int p2), .val (.ref w_LESS), .val (.ref x0_9), .val (.int (1 : Int32)), .val (.int (1 : Int32)), .val (.int (((60 : Int32) &&& (255 : Int32)).toUInt32.toUInt16.toUInt32.toInt32))] [(.int p1), (.ref w_LESS)])) t
        refine XS.i2dS X39.here hx rfl (hb hby at_218) rfl rfl ?_
        show Steps p.tables e below (T39.setTop (mkF m 219 #[.val (.int p0), .val (.int p1), .val (.int p2), .val (.ref w_LESS), .val (.ref x0_9), .val (.int (1 : Int32)), .val (.int (1 : Int32)), .val (.int (((60 : Int32) &&& (255 : Int32)).toUInt32.toUInt16.toUInt32.toInt32))] [(.double (FP.i2d p1)), (.ref w_LESS)])) t
        refine XS.iloadN X39.here hx rfl (hb hby at_219) rfl ?_
        show Steps p.tables e below (T39.setTop (mkF m 220 #[.val (.int p0), .val (.int p1), .val (.int p2), .val (.ref w_LESS), .val (.ref x0_9), .val (.int (1 : Int32)), .val (.int (1 : Int32)), .val (.int (((60 : Int32) &&& (255 : Int32)).toUInt32.toUInt16.toUInt32.toInt32))] [(.int p2), (.double (FP.i2d p1)), (.ref w_LESS)])) t
        refine XS.i2dS X39.here hx rfl (hb hby at_220) rfl rfl ?_
        exact k
      obtain ⟨cq42, kq42, qa42, qb42, qc42⟩ := isOf hZ e39 f16
      obtain ⟨_, _, ⟨T42, L42, k42, n42⟩, -, X42, ⟨Lc42, hQ42, l42, y42, z42⟩, st42⟩ := X39.virtualBack hx (y := (⟨"com/example/meshwatch/meshwatch/Relation", "holds", "(DD)Z"⟩ : MethodName)) (z := (⟨"com/example/meshwatch/meshwatch/Relation", "holds", "(DD)Z"⟩ : MethodName)) hown (mvT hZ (hw _ (List.mem_of_getElem? (i := 65) rfl))) (mvT hZ (hw _ (List.mem_of_getElem? (i := 66) rfl))) (notFace_of_selects (args := #[]) (mvT hZ (hw _ (List.mem_of_getElem? (i := 68) rfl)))) (mvT hZ (hw _ (List.mem_of_getElem? (i := 68) rfl))) (mvT hZ (hw _ (List.mem_of_getElem? (i := 67) rfl))) (by decide) (backOf (W := 0) (rmh0 l Z ar hw [] w_LESS ((FP.i2d p1)) ((FP.i2d p2)) T9.heap n0 z35 f16 f17) hZ (hw _ (List.mem_of_getElem? (i := 69) rfl)) (hw _ (List.mem_of_getElem? (i := 6) rfl)) (by decide) (by decide)) qa42 qc42 (g := (mkF m 221 #[.val (.int p0), .val (.int p1), .val (.int p2), .val (.ref w_LESS), .val (.ref x0_9), .val (.int (1 : Int32)), .val (.int (1 : Int32)), .val (.int (((60 : Int32) &&& (255 : Int32)).toUInt32.toUInt16.toUInt32.toInt32))] [(.double (FP.i2d p2)), (.double (FP.i2d p1)), (.ref w_LESS)])) rfl (by rw [hml]; rfl) (Steps.refl _) (argsL := [(.double (FP.i2d p1)), (.double (FP.i2d p2))]) (rest := []) (lenOf pd0_4 rfl) rfl (by show 2 * 0 + _ ≤ _; exact Nat.le_of_eq rfl) (hb hby at_221) (fun _ _ => ⟨rfl, e39, (by decide : 2 + 0 ≤ _), (by decide : 8 + 0 ≤ _)⟩)
      dsimp only [Pt.U, Pt.locs, Pt.cells, Pt.slots] at X42 l42 y42 z42 st42 hQ42
      subst l42 y42 z42
      obtain ⟨rfl, N42q, e42⟩ := hQ42
      have n43 := Fr.app n40 N42q
      refine own_trW (T' := T42) (g' := (mkF m 224 #[.val (.int p0), .val (.int p1), .val (.int p2), .val (.ref w_LESS), .val (.ref x0_9), .val (.int (1 : Int32)), .val (.int (1 : Int32)), .val (.int (((60 : Int32) &&& (255 : Int32)).toUInt32.toUInt16.toUInt32.toInt32))] [(.int (own_h0 (FP.dcmp (FP.i2d p1) (FP.i2d p2))))])) st42 ?_
      refine own_stW (T' := T42) (g' := (mkF m 234 #[.val (.int p0), .val (.int p1), .val (.int p2), .val (.ref w_LESS), .val (.ref x0_9), .val (.int (1 : Int32)), .val (.int (1 : Int32)), .val (.int (((60 : Int32) &&& (255 : Int32)).toUInt32.toUInt16.toUInt32.toInt32))] [(.int (1 : Int32))])) (fun t k => ?_) ?_
      · show Steps p.tables e below (T42.setTop (mkF m 224 #[.val (.int p0), .val (.int p1), .val (.int p2), .val (.ref w_LESS), .val (.ref x0_9), .val (.int (1 : Int32)), .val (.int (1 : Int32)), .val (.int (((60 : Int32) &&& (255 : Int32)).toUInt32.toUInt16.toUInt32.toInt32))] [(.int (own_h0 (FP.dcmp (FP.i2d p1) (FP.i2d p2))))])) t
        refine XS.iload X42.here hx rfl (hb hby at_224) rfl ?_
        show Steps p.tables e below (T42.setTop (mkF m 226 #[.val (.int p0), .val (.int p1), .val (.int p2), .val (.ref w_LESS), .val (.ref x0_9), .val (.int (1 : Int32)), .val (.int (1 : Int32)), .val (.int (((60 : Int32) &&& (255 : Int32)).toUInt32.toUInt16.toUInt32.toInt32))] [(.int (1 : Int32)), (.int (own_h0 (FP.dcmp (FP.i2d p1) (FP.i2d p2))))])) t
        refine XS.icmpNo X42.here hx rfl (hb hby at_226) rfl (teq (own_H0t hc54_41 : (own_h0 (FP.dcmp (FP.i2d p1) (FP.i2d p2))) = (1 : Int32))).2 ?_
        show Steps p.tables e below (T42.setTop (mkF m 229 #[.val (.int p0), .val (.int p1), .val (.int p2), .val (.ref w_LESS), .val (.ref x0_9), .val (.int (1 : Int32)), .val (.int (1 : Int32)), .val (.int (((60 : Int32) &&& (255 : Int32)).toUInt32.toUInt16.toUInt32.toInt32))] [])) t
        refine XS.iconst X42.here hx rfl (hb hby at_229) ?_
        show Steps p.tables e below (T42.setTop (mkF m 230 #[.val (.int p0), .val (.int p1), .val (.int p2), .val (.ref w_LESS), .val (.ref x0_9), .val (.int (1 : Int32)), .val (.int (1 : Int32)), .val (.int (((60 : Int32) &&& (255 : Int32)).toUInt32.toUInt16.toUInt32.toInt32))] [(.int (1 : Int32))])) t
        refine XS.goto X42.here hx rfl (pc0 := 230) (pc' := 234) rfl (hb hby at_230) (by decide) (by decide) ?_
        exact k
      refine own_retZW X42 hx hlk hS9 (Nat.le_of_eq (congrArg Array.size (Eq.symm e42))) Bd.returns (hb hby at_234) rfl (by decide) (by decide) ?_
      show Q0 Z p0 p1 p2 w_LESS w_LESS_OR_EQUAL w_GREATER w_GREATER_OR_EQUAL w_EQUAL w_NOT_EQUAL w_CS u_SIO h0 n0 (some (.int (1 : Int32))) T42.heap _
      exact ⟨rfl, n43⟩
    · refine own_stW (T' := T39) (g' := (mkF m 221 #[.val (.int p0), .val (.int p1), .val (.int p2), .val (.ref w_LESS), .val (.ref x0_9), .val (.int (1 : Int32)), .val (.int (0 : Int32)), .val (.int (((60 : Int32) &&& (255 : Int32)).toUInt32.toUInt16.toUInt32.toInt32))] [(.double (FP.i2d p2)), (.double (FP.i2d p1)), (.ref w_LESS)])) (fun t k => ?_) ?_
      · show Steps p.tables e below (T39.setTop (mkF m 54 #[.val (.int p0), .val (.int p1), .val (.int p2), .val (.ref w_LESS), .val (.ref x0_9), .val (.int (1 : Int32)), .unset, .val (.int (((60 : Int32) &&& (255 : Int32)).toUInt32.toUInt16.toUInt32.toInt32))] [(.int p2), (.int p1)])) t
        refine XS.icmpYes X39.here hx rfl (pc0 := 54) (pc' := 61) rfl (hb hby at_54) rfl (flt hc54_41).2.1 (by decide) (by decide) ?_
        show Steps p.tables e below (T39.setTop (mkF m 61 #[.val (.int p0), .val (.int p1), .val (.int p2), .val (.ref w_LESS), .val (.ref x0_9), .val (.int (1 : Int32)), .unset, .val (.int (((60 : Int32) &&& (255 : Int32)).toUInt32.toUInt16.toUInt32.toInt32))] [])) t
        refine XS.iconst X39.here hx rfl (hb hby at_61) ?_
        show Steps p.tables e below (T39.setTop (mkF m 62 #[.val (.int p0), .val (.int p1), .val (.int p2), .val (.ref w_LESS), .val (.ref x0_9), .val (.int (1 : Int32)), .unset, .val (.int (((60 : Int32) &&& (255 : Int32)).toUInt32.toUInt16.toUInt32.toInt32))] [(.int (0 : Int32))])) t
        refine XS.istore X39.here hx rfl (hb hby at_62) rfl (l' := #[.val (.int p0), .val (.int p1), .val (.int p2), .val (.ref w_LESS), .val (.ref x0_9), .val (.int (1 : Int32)), .val (.int (0 : Int32)), .val (.int (((60 : Int32) &&& (255 : Int32)).toUInt32.toUInt16.toUInt32.toInt32))]) rfl ?_
        show Steps p.tables e below (T39.setTop (mkF m 64 #[.val (.int p0), .val (.int p1), .val (.int p2), .val (.ref w_LESS), .val (.ref x0_9), .val (.int (1 : Int32)), .val (.int (0 : Int32)), .val (.int (((60 : Int32) &&& (255 : Int32)).toUInt32.toUInt16.toUInt32.toInt32))] [])) t
        refine XS.goto X39.here hx rfl (pc0 := 64) (pc' := 91) rfl (hb hby at_64) (by decide) (by decide) ?_
        show Steps p.tables e below (T39.setTop (mkF m 91 #[.val (.int p0), .val (.int p1), .val (.int p2), .val (.ref w_LESS), .val (.ref x0_9), .val (.int (1 : Int32)), .val (.int (0 : Int32)), .val (.int (((60 : Int32) &&& (255 : Int32)).toUInt32.toUInt16.toUInt32.toInt32))] [])) t
        refine XS.goto X39.here hx rfl (pc0 := 91) (pc' := 216) rfl (hb hby at_91) (by decide) (by decide) ?_
        show Steps p.tables e below (T39.setTop (mkF m 216 #[.val (.int p0), .val (.int p1), .val (.int p2), .val (.ref w_LESS), .val (.ref x0_9), .val (.int (1 : Int32)), .val (.int (0 : Int32)), .val (.int (((60 : Int32) &&& (255 : Int32)).toUInt32.toUInt16.toUInt32.toInt32))] [])) t
        refine XS.aloadN X39.here hx rfl (hb hby at_216) rfl rfl ?_
        show Steps p.tables e below (T39.setTop (mkF m 217 #[.val (.int p0), .val (.int p1), .val (.int p2), .val (.ref w_LESS), .val (.ref x0_9), .val (.int (1 : Int32)), .val (.int (0 : Int32)), .val (.int (((60 : Int32) &&& (255 : Int32)).toUInt32.toUInt16.toUInt32.toInt32))] [(.ref w_LESS)])) t
        refine XS.iloadN X39.here hx rfl (hb hby at_217) rfl ?_
        show Steps p.tables e below (T39.setTop (mkF m 218 #[.val (.int p0), .val (.int p1), .val (.int p2), .val (.ref w_LESS), .val (.ref x0_9), .val (.int (1 : Int32)), .val (.int (0 : Int32)), .val (.int (((60 : Int32) &&& (255 : Int32)).toUInt32.toUInt16.toUInt32.toInt32))] [(.int p1), (.ref w_LESS)])) t
        refine XS.i2dS X39.here hx rfl (hb hby at_218) rfl rfl ?_
        show Steps p.tables e below (T39.setTop (mkF m 219 #[.val (.int p0), .val (.int p1), .val (.int p2), .val (.ref w_LESS), .val (.ref x0_9), .val (.int (1 : Int32)), .val (.int (0 : Int32)), .val (.int (((60 : Int32) &&& (255 : Int32)).toUInt32.toUInt16.toUInt32.toInt32))] [(.double (FP.i2d p1)), (.ref w_LESS)])) t
        refine XS.iloadN X39.here hx rfl (hb hby at_219) rfl ?_
        show Steps p.tables e below (T39.setTop (mkF m 220 #[.val (.int p0), .val (.int p1), .val (.int p2), .val (.ref w_LESS), .val (.ref x0_9), .val (.int (1 : Int32)), .val (.int (0 : Int32)), .val (.int (((60 : Int32) &&& (255 : Int32)).toUInt32.toUInt16.toUInt32.toInt32))] [(.int p2), (.double (FP.i2d p1)), (.ref w_LESS)])) t
        refine XS.i2dS X39.here hx rfl (hb hby at_220) rfl rfl ?_
        exact k
      obtain ⟨cq44, kq44, qa44, qb44, qc44⟩ := isOf hZ e39 f16
      obtain ⟨_, _, ⟨T44, L44, k44, n44⟩, -, X44, ⟨Lc44, hQ44, l44, y44, z44⟩, st44⟩ := X39.virtualBack hx (y := (⟨"com/example/meshwatch/meshwatch/Relation", "holds", "(DD)Z"⟩ : MethodName)) (z := (⟨"com/example/meshwatch/meshwatch/Relation", "holds", "(DD)Z"⟩ : MethodName)) hown (mvT hZ (hw _ (List.mem_of_getElem? (i := 65) rfl))) (mvT hZ (hw _ (List.mem_of_getElem? (i := 66) rfl))) (notFace_of_selects (args := #[]) (mvT hZ (hw _ (List.mem_of_getElem? (i := 68) rfl)))) (mvT hZ (hw _ (List.mem_of_getElem? (i := 68) rfl))) (mvT hZ (hw _ (List.mem_of_getElem? (i := 67) rfl))) (by decide) (backOf (W := 0) (rmh0 l Z ar hw [] w_LESS ((FP.i2d p1)) ((FP.i2d p2)) T9.heap n0 z35 f16 f17) hZ (hw _ (List.mem_of_getElem? (i := 69) rfl)) (hw _ (List.mem_of_getElem? (i := 6) rfl)) (by decide) (by decide)) qa44 qc44 (g := (mkF m 221 #[.val (.int p0), .val (.int p1), .val (.int p2), .val (.ref w_LESS), .val (.ref x0_9), .val (.int (1 : Int32)), .val (.int (0 : Int32)), .val (.int (((60 : Int32) &&& (255 : Int32)).toUInt32.toUInt16.toUInt32.toInt32))] [(.double (FP.i2d p2)), (.double (FP.i2d p1)), (.ref w_LESS)])) rfl (by rw [hml]; rfl) (Steps.refl _) (argsL := [(.double (FP.i2d p1)), (.double (FP.i2d p2))]) (rest := []) (lenOf pd0_4 rfl) rfl (by show 2 * 0 + _ ≤ _; exact Nat.le_of_eq rfl) (hb hby at_221) (fun _ _ => ⟨rfl, e39, (by decide : 2 + 0 ≤ _), (by decide : 8 + 0 ≤ _)⟩)
      dsimp only [Pt.U, Pt.locs, Pt.cells, Pt.slots] at X44 l44 y44 z44 st44 hQ44
      subst l44 y44 z44
      obtain ⟨rfl, N44q, e44⟩ := hQ44
      have n45 := Fr.app n40 N44q
      refine own_trW (T' := T44) (g' := (mkF m 224 #[.val (.int p0), .val (.int p1), .val (.int p2), .val (.ref w_LESS), .val (.ref x0_9), .val (.int (1 : Int32)), .val (.int (0 : Int32)), .val (.int (((60 : Int32) &&& (255 : Int32)).toUInt32.toUInt16.toUInt32.toInt32))] [(.int (own_h0 (FP.dcmp (FP.i2d p1) (FP.i2d p2))))])) st44 ?_
      refine own_stW (T' := T44) (g' := (mkF m 234 #[.val (.int p0), .val (.int p1), .val (.int p2), .val (.ref w_LESS), .val (.ref x0_9), .val (.int (1 : Int32)), .val (.int (0 : Int32)), .val (.int (((60 : Int32) &&& (255 : Int32)).toUInt32.toUInt16.toUInt32.toInt32))] [(.int (1 : Int32))])) (fun t k => ?_) ?_
      · show Steps p.tables e below (T44.setTop (mkF m 224 #[.val (.int p0), .val (.int p1), .val (.int p2), .val (.ref w_LESS), .val (.ref x0_9), .val (.int (1 : Int32)), .val (.int (0 : Int32)), .val (.int (((60 : Int32) &&& (255 : Int32)).toUInt32.toUInt16.toUInt32.toInt32))] [(.int (own_h0 (FP.dcmp (FP.i2d p1) (FP.i2d p2))))])) t
        refine XS.iload X44.here hx rfl (hb hby at_224) rfl ?_
        show Steps p.tables e below (T44.setTop (mkF m 226 #[.val (.int p0), .val (.int p1), .val (.int p2), .val (.ref w_LESS), .val (.ref x0_9), .val (.int (1 : Int32)), .val (.int (0 : Int32)), .val (.int (((60 : Int32) &&& (255 : Int32)).toUInt32.toUInt16.toUInt32.toInt32))] [(.int (0 : Int32)), (.int (own_h0 (FP.dcmp (FP.i2d p1) (FP.i2d p2))))])) t
        refine XS.icmpNo X44.here hx rfl (hb hby at_226) rfl (teq (own_H0f hc54_41 : (own_h0 (FP.dcmp (FP.i2d p1) (FP.i2d p2))) = (0 : Int32))).2 ?_
        show Steps p.tables e below (T44.setTop (mkF m 229 #[.val (.int p0), .val (.int p1), .val (.int p2), .val (.ref w_LESS), .val (.ref x0_9), .val (.int (1 : Int32)), .val (.int (0 : Int32)), .val (.int (((60 : Int32) &&& (255 : Int32)).toUInt32.toUInt16.toUInt32.toInt32))] [])) t
        refine XS.iconst X44.here hx rfl (hb hby at_229) ?_
        show Steps p.tables e below (T44.setTop (mkF m 230 #[.val (.int p0), .val (.int p1), .val (.int p2), .val (.ref w_LESS), .val (.ref x0_9), .val (.int (1 : Int32)), .val (.int (0 : Int32)), .val (.int (((60 : Int32) &&& (255 : Int32)).toUInt32.toUInt16.toUInt32.toInt32))] [(.int (1 : Int32))])) t
        refine XS.goto X44.here hx rfl (pc0 := 230) (pc' := 234) rfl (hb hby at_230) (by decide) (by decide) ?_
        exact k
      refine own_retZW X44 hx hlk hS9 (Nat.le_of_eq (congrArg Array.size (Eq.symm e44))) Bd.returns (hb hby at_234) rfl (by decide) (by decide) ?_
      show Q0 Z p0 p1 p2 w_LESS w_LESS_OR_EQUAL w_GREATER w_GREATER_OR_EQUAL w_EQUAL w_NOT_EQUAL w_CS u_SIO h0 n0 (some (.int (1 : Int32))) T44.heap _
      exact ⟨rfl, n45⟩
  · rw [hk7_2]
    obtain ⟨_, _, ⟨T46, L46, k46, n46⟩, -, X46, ⟨Lc46, hQ46, l46, y46, z46⟩, st46⟩ := Jvm.LawKit.callS X0 hx (y := (⟨"com/example/meshwatch/meshwatch/RelationSymbolPinLaw", "pick", "(I)Lcom/example/meshwatch/meshwatch/Relation;"⟩ : MethodName)) hown (mvT hZ (hw _ (List.mem_of_getElem? (i := 1) rfl))) (mvT hZ (hw _ (List.mem_of_getElem? (i := 2) rfl))) (mvT hZ (hw _ (List.mem_of_getElem? (i := 3) rfl))) (mvT hZ (hw _ (List.mem_of_getElem? (i := 4) rfl))) (by decide) (backOf (W := 0) (rmk1 l Z ar hw [] w_LESS_OR_EQUAL h0 n0 Z0 S_LESS_OR_EQUAL) hZ (hw _ (List.mem_of_getElem? (i := 4) rfl)) (hw _ (List.mem_of_getElem? (i := 3) rfl)) (by decide) (by decide)) (g := (mkF m 7 #[.val (.int p0), .val (.int p1), .val (.int p2), .unset, .unset, .unset, .unset, .unset] [(.int (1 : Int32))])) rfl (by rw [hml]; rfl) (argsL := [(.int (1 : Int32))]) (rest := []) (lenOf pd0_0 rfl) rfl (by show 2 * 0 + _ ≤ _; exact Nat.le_of_eq rfl) (hb hby at_7) (fun _ _ => ⟨rfl, e0, (by decide : 0 + 0 ≤ _), (by decide : 0 + 0 ≤ _)⟩)
    dsimp only [Pt.U, Pt.locs, Pt.cells, Pt.slots] at X46 l46 y46 z46 st46 hQ46
    subst l46 y46 z46
    obtain ⟨rfl, N46q, e46⟩ := hQ46
    have n47 := Fr.app N0 N46q
    refine own_stW (T' := T46) (g' := (mkF m 10 #[.val (.int p0), .val (.int p1), .val (.int p2), .unset, .unset, .unset, .unset, .unset] [(.ref w_LESS_OR_EQUAL)])) st46 ?_
    refine own_stW (T' := T46) (g' := (mkF m 12 #[.val (.int p0), .val (.int p1), .val (.int p2), .val (.ref w_LESS_OR_EQUAL), .unset, .unset, .unset, .unset] [(.ref w_LESS_OR_EQUAL)])) (fun t k => ?_) ?_
    · show Steps p.tables e below (T46.setTop (mkF m 10 #[.val (.int p0), .val (.int p1), .val (.int p2), .unset, .unset, .unset, .unset, .unset] [(.ref w_LESS_OR_EQUAL)])) t
      refine XS.astoreN X46.here hx rfl (hb hby at_10) rfl rfl (l' := #[.val (.int p0), .val (.int p1), .val (.int p2), .val (.ref w_LESS_OR_EQUAL), .unset, .unset, .unset, .unset]) rfl ?_
      show Steps p.tables e below (T46.setTop (mkF m 11 #[.val (.int p0), .val (.int p1), .val (.int p2), .val (.ref w_LESS_OR_EQUAL), .unset, .unset, .unset, .unset] [])) t
      refine XS.aloadN X46.here hx rfl (hb hby at_11) rfl rfl ?_
      exact k
    obtain ⟨cq48, kq48, qa48, qb48, qc48⟩ := isOf hZ e46 E_w_LESS_OR_EQUAL
    obtain ⟨_, _, ⟨T48, L48, k48, n48⟩, -, X48, hS48, -, ⟨Lc48, hQ48, l48, y48, z48, -⟩, st48⟩ := X46.virtualBackS hx (y := (⟨"com/example/meshwatch/meshwatch/Relation", "symbol", "()Ljava/lang/String;"⟩ : MethodName)) (z := (⟨"com/example/meshwatch/meshwatch/Relation", "symbol", "()Ljava/lang/String;"⟩ : MethodName)) hown (mvT hZ (hw _ (List.mem_of_getElem? (i := 8) rfl))) (mvT hZ (hw _ (List.mem_of_getElem? (i := 9) rfl))) (notFace_of_selects (args := #[]) (mvT hZ (hw _ (List.mem_of_getElem? (i := 11) rfl)))) (mvT hZ (hw _ (List.mem_of_getElem? (i := 11) rfl))) (mvT hZ (hw _ (List.mem_of_getElem? (i := 10) rfl))) (by decide) (backOfSH (s := s) (vm0 := s.vm) (W := 0) (rmy1 l Z ar hw [] w_LESS_OR_EQUAL h0 n0 Z0 E_w_LESS_OR_EQUAL F_ordinal_w_LESS_OR_EQUAL) hZ (hw _ (List.mem_of_getElem? (i := 12) rfl)) (hw _ (List.mem_of_getElem? (i := 6) rfl)) (by decide) (by decide) (own_ew hw) hI) qa48 qc48 (g := (mkF m 12 #[.val (.int p0), .val (.int p1), .val (.int p2), .val (.ref w_LESS_OR_EQUAL), .unset, .unset, .unset, .unset] [(.ref w_LESS_OR_EQUAL)])) rfl (by rw [hml]; rfl) (Steps.refl _) (argsL := []) (rest := []) (lenOf pd0_1 rfl) rfl (by show 2 * 0 + _ ≤ _; exact Nat.le_of_eq rfl) (hb hby at_12) (fun _ _ => ⟨rfl, e46, (by decide : 0 + 2 ≤ _), (by decide : 0 + 12 ≤ _)⟩)
    dsimp only [Pt.U, Pt.locs, Pt.cells, Pt.slots] at X48 l48 y48 z48 st48 hQ48
    subst l48 y48 z48
    have hZ : Z.Warmed39 (s.setVm T48.vm).vm := State.Warmed39.trans (t := s) hZ hS48.1
    have hown : (s.setVm T48.vm).vm.findClass "com/example/meshwatch/meshwatch/RelationSymbolPinLaw" = some m.cls := by rw [show (s.setVm T48.vm).vm = T48.vm from rfl, hS48.1.alike.findClass]; exact hown
    obtain ⟨x0_48, x1_48, kx_48, rfl, N48q, K48, f49, f50, f51, f52⟩ := hQ48
    have n53 := Fr.app n47 N48q
    have f54 := own_sta S_LESS K48
    have f55 := E_w_LESS.keep K48
    have f56 := F_ordinal_w_LESS.keep K48 nin0
    have f57 := own_sta S_LESS_OR_EQUAL K48
    have f58 := E_w_LESS_OR_EQUAL.keep K48
    have f59 := F_ordinal_w_LESS_OR_EQUAL.keep K48 nin0
    have f60 := own_sta S_GREATER K48
    have f61 := E_w_GREATER.keep K48
    have f62 := F_ordinal_w_GREATER.keep K48 nin0
    have f63 := own_sta S_GREATER_OR_EQUAL K48
    have f64 := E_w_GREATER_OR_EQUAL.keep K48
    have f65 := F_ordinal_w_GREATER_OR_EQUAL.keep K48 nin0
    have f66 := own_sta S_EQUAL K48
    have f67 := E_w_EQUAL.keep K48
    have f68 := F_ordinal_w_EQUAL.keep K48 nin0
    have f69 := own_sta S_NOT_EQUAL K48
    have f70 := E_w_NOT_EQUAL.keep K48
    have f71 := F_ordinal_w_NOT_EQUAL.keep K48 nin0
    have f72 := own_sta S_COMPACT_STRINGS K48
    have f73 := own_sta S_SIOOBE_FORMATTER K48
    have z74 := Nat.le_trans Z0 K48.1
    have k75 := K0.trans K48 all0
    refine own_trW (T' := T48) (g' := (mkF m 15 #[.val (.int p0), .val (.int p1), .val (.int p2), .val (.ref w_LESS_OR_EQUAL), .unset, .unset, .unset, .unset] [(.ref x0_48)])) st48 ?_
    refine own_stW (T' := T48) (g' := (mkF m 26 #[.val (.int p0), .val (.int p1), .val (.int p2), .val (.ref w_LESS_OR_EQUAL), .val (.ref x0_48), .unset, .unset, .unset] [(.ref x0_48)])) (fun t k => ?_) ?_
    · show Steps p.tables e below (T48.setTop (mkF m 15 #[.val (.int p0), .val (.int p1), .val (.int p2), .val (.ref w_LESS_OR_EQUAL), .unset, .unset, .unset, .unset] [(.ref x0_48)])) t
      refine XS.astore X48.here hx rfl (hb hby at_15) rfl rfl (l' := #[.val (.int p0), .val (.int p1), .val (.int p2), .val (.ref w_LESS_OR_EQUAL), .val (.ref x0_48), .unset, .unset, .unset]) rfl ?_
      show Steps p.tables e below (T48.setTop (mkF m 17 #[.val (.int p0), .val (.int p1), .val (.int p2), .val (.ref w_LESS_OR_EQUAL), .val (.ref x0_48), .unset, .unset, .unset] [])) t
      refine XS.aload X48.here hx rfl (hb hby at_17) rfl rfl ?_
      show Steps p.tables e below (T48.setTop (mkF m 19 #[.val (.int p0), .val (.int p1), .val (.int p2), .val (.ref w_LESS_OR_EQUAL), .val (.ref x0_48), .unset, .unset, .unset] [(.ref x0_48)])) t
      refine XS.ifnonnullYes X48.here hx rfl (pc0 := 19) (pc' := 24) rfl (hb hby at_19) rfl (by decide) (by decide) ?_
      show Steps p.tables e below (T48.setTop (mkF m 24 #[.val (.int p0), .val (.int p1), .val (.int p2), .val (.ref w_LESS_OR_EQUAL), .val (.ref x0_48), .unset, .unset, .unset] [])) t
      refine XS.aload X48.here hx rfl (hb hby at_24) rfl rfl ?_
      exact k
    obtain ⟨cq76, kq76, qa76, qb76, qc76⟩ := isOf hZ (rfl : T48.heap = T48.heap) f49
    obtain ⟨_, _, ⟨T76, L76, k76, n76⟩, -, X76, ⟨Lc76, hQ76, l76, y76, z76⟩, st76⟩ := X48.virtualBack hx (y := (⟨"java/lang/String", "length", "()I"⟩ : MethodName)) (z := (⟨"java/lang/String", "length", "()I"⟩ : MethodName)) hown (mvT hZ (hw _ (List.mem_of_getElem? (i := 30) rfl))) (mvT hZ (hw _ (List.mem_of_getElem? (i := 31) rfl))) (notFace_of_selects (args := #[]) (mvT hZ (hw _ (List.mem_of_getElem? (i := 33) rfl)))) (mvT hZ (hw _ (List.mem_of_getElem? (i := 33) rfl))) (mvT hZ (hw _ (List.mem_of_getElem? (i := 32) rfl))) (by decide) (backOf (W := 0) (rmlen2 l Z ar hw [] x0_48 x1_48 kx_48 ((60 : Int32)) ((61 : Int32)) w_CS T48.heap n0 z74 f49 f50 f51 f52 f72 h26_h6_hb3) hZ (hw _ (List.mem_of_getElem? (i := 34) rfl)) (hw _ (List.mem_of_getElem? (i := 23) rfl)) (by decide) (by decide)) qa76 qc76 (g := (mkF m 26 #[.val (.int p0), .val (.int p1), .val (.int p2), .val (.ref w_LESS_OR_EQUAL), .val (.ref x0_48), .unset, .unset, .unset] [(.ref x0_48)])) rfl (by rw [hml]; rfl) (Steps.refl _) (argsL := []) (rest := []) (lenOf pd0_2 rfl) rfl (by show 2 * 0 + _ ≤ _; exact Nat.le_of_eq rfl) (hb hby at_26) (fun _ _ => ⟨rfl, (rfl : T48.heap = T48.heap), (by decide : 2 + 0 ≤ _), (by decide : 12 + 0 ≤ _)⟩)
    dsimp only [Pt.U, Pt.locs, Pt.cells, Pt.slots] at X76 l76 y76 z76 st76 hQ76
    subst l76 y76 z76
    obtain ⟨rfl, N76q, e76⟩ := hQ76
    have n77 := Fr.app n53 N76q
    refine own_trW (T' := T76) (g' := (mkF m 29 #[.val (.int p0), .val (.int p1), .val (.int p2), .val (.ref w_LESS_OR_EQUAL), .val (.ref x0_48), .unset, .unset, .unset] [(.int (2 : Int32))])) st76 ?_
    refine own_stW (T' := T76) (g' := (mkF m 103 #[.val (.int p0), .val (.int p1), .val (.int p2), .val (.ref w_LESS_OR_EQUAL), .val (.ref x0_48), .val (.int (2 : Int32)), .unset, .unset] [(.int (1 : Int32)), (.ref x0_48)])) (fun t k => ?_) ?_
    · show Steps p.tables e below (T76.setTop (mkF m 29 #[.val (.int p0), .val (.int p1), .val (.int p2), .val (.ref w_LESS_OR_EQUAL), .val (.ref x0_48), .unset, .unset, .unset] [(.int (2 : Int32))])) t
      refine XS.istore X76.here hx rfl (hb hby at_29) rfl (l' := #[.val (.int p0), .val (.int p1), .val (.int p2), .val (.ref w_LESS_OR_EQUAL), .val (.ref x0_48), .val (.int (2 : Int32)), .unset, .unset]) rfl ?_
      show Steps p.tables e below (T76.setTop (mkF m 31 #[.val (.int p0), .val (.int p1), .val (.int p2), .val (.ref w_LESS_OR_EQUAL), .val (.ref x0_48), .val (.int (2 : Int32)), .unset, .unset] [])) t
      refine XS.iload X76.here hx rfl (hb hby at_31) rfl ?_
      show Steps p.tables e below (T76.setTop (mkF m 33 #[.val (.int p0), .val (.int p1), .val (.int p2), .val (.ref w_LESS_OR_EQUAL), .val (.ref x0_48), .val (.int (2 : Int32)), .unset, .unset] [(.int (2 : Int32))])) t
      refine XS.iconst X76.here hx rfl (hb hby at_33) ?_
      show Steps p.tables e below (T76.setTop (mkF m 34 #[.val (.int p0), .val (.int p1), .val (.int p2), .val (.ref w_LESS_OR_EQUAL), .val (.ref x0_48), .val (.int (2 : Int32)), .unset, .unset] [(.int (1 : Int32)), (.int (2 : Int32))])) t
      refine XS.icmpYes X76.here hx rfl (pc0 := 34) (pc' := 94) rfl (hb hby at_34) rfl (by decide) (by decide) (by decide) ?_
      show Steps p.tables e below (T76.setTop (mkF m 94 #[.val (.int p0), .val (.int p1), .val (.int p2), .val (.ref w_LESS_OR_EQUAL), .val (.ref x0_48), .val (.int (2 : Int32)), .unset, .unset] [])) t
      refine XS.iload X76.here hx rfl (hb hby at_94) rfl ?_
      show Steps p.tables e below (T76.setTop (mkF m 96 #[.val (.int p0), .val (.int p1), .val (.int p2), .val (.ref w_LESS_OR_EQUAL), .val (.ref x0_48), .val (.int (2 : Int32)), .unset, .unset] [(.int (2 : Int32))])) t
      refine XS.iconst X76.here hx rfl (hb hby at_96) ?_
      show Steps p.tables e below (T76.setTop (mkF m 97 #[.val (.int p0), .val (.int p1), .val (.int p2), .val (.ref w_LESS_OR_EQUAL), .val (.ref x0_48), .val (.int (2 : Int32)), .unset, .unset] [(.int (2 : Int32)), (.int (2 : Int32))])) t
      refine XS.icmpNo X76.here hx rfl (hb hby at_97) rfl (by decide) ?_
      show Steps p.tables e below (T76.setTop (mkF m 100 #[.val (.int p0), .val (.int p1), .val (.int p2), .val (.ref w_LESS_OR_EQUAL), .val (.ref x0_48), .val (.int (2 : Int32)), .unset, .unset] [])) t
      refine XS.aload X76.here hx rfl (hb hby at_100) rfl rfl ?_
      show Steps p.tables e below (T76.setTop (mkF m 102 #[.val (.int p0), .val (.int p1), .val (.int p2), .val (.ref w_LESS_OR_EQUAL), .val (.ref x0_48), .val (.int (2 : Int32)), .unset, .unset] [(.ref x0_48)])) t
      refine XS.iconst X76.here hx rfl (hb hby at_102) ?_
      exact k
    obtain ⟨cq78, kq78, qa78, qb78, qc78⟩ := isOf hZ e76 f49
    obtain ⟨_, _, ⟨T78, L78, k78, n78⟩, -, X78, ⟨Lc78, hQ78, l78, y78, z78⟩, st78⟩ := X76.virtualBack hx (y := (⟨"java/lang/String", "charAt", "(I)C"⟩ : MethodName)) (z := (⟨"java/lang/String", "charAt", "(I)C"⟩ : MethodName)) hown (mvT hZ (hw _ (List.mem_of_getElem? (i := 43) rfl))) (mvT hZ (hw _ (List.mem_of_getElem? (i := 44) rfl))) (notFace_of_selects (args := #[]) (mvT hZ (hw _ (List.mem_of_getElem? (i := 46) rfl)))) (mvT hZ (hw _ (List.mem_of_getElem? (i := 46) rfl))) (mvT hZ (hw _ (List.mem_of_getElem? (i := 45) rfl))) (by decide) (backOf (W := 0) (rmc21 l Z ar hw [] x0_48 x1_48 kx_48 ((60 : Int32)) ((61 : Int32)) w_CS (u_SIO) T48.heap n0 z74 f49 f50 f51 f52 f72 f73 h26_h6_hb3 h40_h12_h3_hu) hZ (hw _ (List.mem_of_getElem? (i := 47) rfl)) (hw _ (List.mem_of_getElem? (i := 23) rfl)) (by decide) (by decide)) qa78 qc78 (g := (mkF m 103 #[.val (.int p0), .val (.int p1), .val (.int p2), .val (.ref w_LESS_OR_EQUAL), .val (.ref x0_48), .val (.int (2 : Int32)), .unset, .unset] [(.int (1 : Int32)), (.ref x0_48)])) rfl (by rw [hml]; rfl) (Steps.refl _) (argsL := [(.int (1 : Int32))]) (rest := []) (lenOf pd0_3 rfl) rfl (by show 2 * 0 + _ ≤ _; exact Nat.le_of_eq rfl) (hb hby at_103) (fun _ _ => ⟨rfl, e76, (by decide : 2 + 0 ≤ _), (by decide : 12 + 0 ≤ _)⟩)
    dsimp only [Pt.U, Pt.locs, Pt.cells, Pt.slots] at X78 l78 y78 z78 st78 hQ78
    subst l78 y78 z78
    obtain ⟨rfl, N78q, e78⟩ := hQ78
    have n79 := Fr.app n77 N78q
    refine own_trW (T' := T78) (g' := (mkF m 106 #[.val (.int p0), .val (.int p1), .val (.int p2), .val (.ref w_LESS_OR_EQUAL), .val (.ref x0_48), .val (.int (2 : Int32)), .unset, .unset] [(.int (((61 : Int32) &&& (255 : Int32)).toUInt32.toUInt16.toUInt32.toInt32))])) st78 ?_
    refine own_stW (T' := T78) (g' := (mkF m 116 #[.val (.int p0), .val (.int p1), .val (.int p2), .val (.ref w_LESS_OR_EQUAL), .val (.ref x0_48), .val (.int (2 : Int32)), .unset, .unset] [(.int (0 : Int32)), (.ref x0_48)])) (fun t k => ?_) ?_
    · show Steps p.tables e below (T78.setTop (mkF m 106 #[.val (.int p0), .val (.int p1), .val (.int p2), .val (.ref w_LESS_OR_EQUAL), .val (.ref x0_48), .val (.int (2 : Int32)), .unset, .unset] [(.int (((61 : Int32) &&& (255 : Int32)).toUInt32.toUInt16.toUInt32.toInt32))])) t
      refine XS.bipush X78.here hx rfl (hb hby at_106) ?_
      show Steps p.tables e below (T78.setTop (mkF m 108 #[.val (.int p0), .val (.int p1), .val (.int p2), .val (.ref w_LESS_OR_EQUAL), .val (.ref x0_48), .val (.int (2 : Int32)), .unset, .unset] [(.int (61 : Int32)), (.int (((61 : Int32) &&& (255 : Int32)).toUInt32.toUInt16.toUInt32.toInt32))])) t
      refine XS.icmpYes X78.here hx rfl (pc0 := 108) (pc' := 113) rfl (hb hby at_108) rfl (teq ((by decide) : (((61 : Int32) &&& (255 : Int32)).toUInt32.toUInt16.toUInt32.toInt32) = (61 : Int32))).1 (by decide) (by decide) ?_
      show Steps p.tables e below (T78.setTop (mkF m 113 #[.val (.int p0), .val (.int p1), .val (.int p2), .val (.ref w_LESS_OR_EQUAL), .val (.ref x0_48), .val (.int (2 : Int32)), .unset, .unset] [])) t
      refine XS.aload X78.here hx rfl (hb hby at_113) rfl rfl ?_
      show Steps p.tables e below (T78.setTop (mkF m 115 #[.val (.int p0), .val (.int p1), .val (.int p2), .val (.ref w_LESS_OR_EQUAL), .val (.ref x0_48), .val (.int (2 : Int32)), .unset, .unset] [(.ref x0_48)])) t
      refine XS.iconst X78.here hx rfl (hb hby at_115) ?_
      exact k
    obtain ⟨cq80, kq80, qa80, qb80, qc80⟩ := isOf hZ e78 f49
    obtain ⟨_, _, ⟨T80, L80, k80, n80⟩, -, X80, ⟨Lc80, hQ80, l80, y80, z80⟩, st80⟩ := X78.virtualBack hx (y := (⟨"java/lang/String", "charAt", "(I)C"⟩ : MethodName)) (z := (⟨"java/lang/String", "charAt", "(I)C"⟩ : MethodName)) hown (mvT hZ (hw _ (List.mem_of_getElem? (i := 43) rfl))) (mvT hZ (hw _ (List.mem_of_getElem? (i := 44) rfl))) (notFace_of_selects (args := #[]) (mvT hZ (hw _ (List.mem_of_getElem? (i := 46) rfl)))) (mvT hZ (hw _ (List.mem_of_getElem? (i := 46) rfl))) (mvT hZ (hw _ (List.mem_of_getElem? (i := 45) rfl))) (by decide) (backOf (W := 0) (rmc20 l Z ar hw [] x0_48 x1_48 kx_48 ((60 : Int32)) ((61 : Int32)) w_CS (u_SIO) T48.heap n0 z74 f49 f50 f51 f52 f72 f73 h26_h6_hb3 h40_h12_h3_hu) hZ (hw _ (List.mem_of_getElem? (i := 47) rfl)) (hw _ (List.mem_of_getElem? (i := 23) rfl)) (by decide) (by decide)) qa80 qc80 (g := (mkF m 116 #[.val (.int p0), .val (.int p1), .val (.int p2), .val (.ref w_LESS_OR_EQUAL), .val (.ref x0_48), .val (.int (2 : Int32)), .unset, .unset] [(.int (0 : Int32)), (.ref x0_48)])) rfl (by rw [hml]; rfl) (Steps.refl _) (argsL := [(.int (0 : Int32))]) (rest := []) (lenOf pd0_3 rfl) rfl (by show 2 * 0 + _ ≤ _; exact Nat.le_of_eq rfl) (hb hby at_116) (fun _ _ => ⟨rfl, e78, (by decide : 2 + 0 ≤ _), (by decide : 12 + 0 ≤ _)⟩)
    dsimp only [Pt.U, Pt.locs, Pt.cells, Pt.slots] at X80 l80 y80 z80 st80 hQ80
    subst l80 y80 z80
    obtain ⟨rfl, N80q, e80⟩ := hQ80
    have n81 := Fr.app n79 N80q
    refine own_trW (T' := T80) (g' := (mkF m 119 #[.val (.int p0), .val (.int p1), .val (.int p2), .val (.ref w_LESS_OR_EQUAL), .val (.ref x0_48), .val (.int (2 : Int32)), .unset, .unset] [(.int (((60 : Int32) &&& (255 : Int32)).toUInt32.toUInt16.toUInt32.toInt32))])) st80 ?_
    refine own_stW (T' := T80) (g' := (mkF m 130 #[.val (.int p0), .val (.int p1), .val (.int p2), .val (.ref w_LESS_OR_EQUAL), .val (.ref x0_48), .val (.int (2 : Int32)), .unset, .val (.int (((60 : Int32) &&& (255 : Int32)).toUInt32.toUInt16.toUInt32.toInt32))] [(.int p2), (.int p1)])) (fun t k => ?_) ?_
    · show Steps p.tables e below (T80.setTop (mkF m 119 #[.val (.int p0), .val (.int p1), .val (.int p2), .val (.ref w_LESS_OR_EQUAL), .val (.ref x0_48), .val (.int (2 : Int32)), .unset, .unset] [(.int (((60 : Int32) &&& (255 : Int32)).toUInt32.toUInt16.toUInt32.toInt32))])) t
      refine XS.istore X80.here hx rfl (hb hby at_119) rfl (l' := #[.val (.int p0), .val (.int p1), .val (.int p2), .val (.ref w_LESS_OR_EQUAL), .val (.ref x0_48), .val (.int (2 : Int32)), .unset, .val (.int (((60 : Int32) &&& (255 : Int32)).toUInt32.toUInt16.toUInt32.toInt32))]) rfl ?_
      show Steps p.tables e below (T80.setTop (mkF m 121 #[.val (.int p0), .val (.int p1), .val (.int p2), .val (.ref w_LESS_OR_EQUAL), .val (.ref x0_48), .val (.int (2 : Int32)), .unset, .val (.int (((60 : Int32) &&& (255 : Int32)).toUInt32.toUInt16.toUInt32.toInt32))] [])) t
      refine XS.iload X80.here hx rfl (hb hby at_121) rfl ?_
      show Steps p.tables e below (T80.setTop (mkF m 123 #[.val (.int p0), .val (.int p1), .val (.int p2), .val (.ref w_LESS_OR_EQUAL), .val (.ref x0_48), .val (.int (2 : Int32)), .unset, .val (.int (((60 : Int32) &&& (255 : Int32)).toUInt32.toUInt16.toUInt32.toInt32))] [(.int (((60 : Int32) &&& (255 : Int32)).toUInt32.toUInt16.toUInt32.toInt32))])) t
      refine XS.bipush X80.here hx rfl (hb hby at_123) ?_
      show Steps p.tables e below (T80.setTop (mkF m 125 #[.val (.int p0), .val (.int p1), .val (.int p2), .val (.ref w_LESS_OR_EQUAL), .val (.ref x0_48), .val (.int (2 : Int32)), .unset, .val (.int (((60 : Int32) &&& (255 : Int32)).toUInt32.toUInt16.toUInt32.toInt32))] [(.int (60 : Int32)), (.int (((60 : Int32) &&& (255 : Int32)).toUInt32.toUInt16.toUInt32.toInt32))])) t
      refine XS.icmpNo X80.here hx rfl (hb hby at_125) rfl (teq ((by decide) : (((60 : Int32) &&& (255 : Int32)).toUInt32.toUInt16.toUInt32.toInt32) = (60 : Int32))).2 ?_
      show Steps p.tables e below (T80.setTop (mkF m 128 #[.val (.int p0), .val (.int p1), .val (.int p2), .val (.ref w_LESS_OR_EQUAL), .val (.ref x0_48), .val (.int (2 : Int32)), .unset, .val (.int (((60 : Int32) &&& (255 : Int32)).toUInt32.toUInt16.toUInt32.toInt32))] [])) t
      refine XS.iloadN X80.here hx rfl (hb hby at_128) rfl ?_
      show Steps p.tables e below (T80.setTop (mkF m 129 #[.val (.int p0), .val (.int p1), .val (.int p2), .val (.ref w_LESS_OR_EQUAL), .val (.ref x0_48), .val (.int (2 : Int32)), .unset, .val (.int (((60 : Int32) &&& (255 : Int32)).toUInt32.toUInt16.toUInt32.toInt32))] [(.int p1)])) t
      refine XS.iloadN X80.here hx rfl (hb hby at_129) rfl ?_
      exact k
    by_cases hc130_82 : p2 < p1
    · refine own_stW (T' := T80) (g' := (mkF m 221 #[.val (.int p0), .val (.int p1), .val (.int p2), .val (.ref w_LESS_OR_EQUAL), .val (.ref x0_48), .val (.int (2 : Int32)), .val (.int (0 : Int32)), .val (.int (((60 : Int32) &&& (255 : Int32)).toUInt32.toUInt16.toUInt32.toInt32))] [(.double (FP.i2d p2)), (.double (FP.i2d p1)), (.ref w_LESS_OR_EQUAL)])) (fun t k => ?_) ?_
      · show Steps p.tables e below (T80.setTop (mkF m 130 #[.val (.int p0), .val (.int p1), .val (.int p2), .val (.ref w_LESS_OR_EQUAL), .val (.ref x0_48), .val (.int (2 : Int32)), .unset, .val (.int (((60 : Int32) &&& (255 : Int32)).toUInt32.toUInt16.toUInt32.toInt32))] [(.int p2), (.int p1)])) t
        refine XS.icmpYes X80.here hx rfl (pc0 := 130) (pc' := 137) rfl (hb hby at_130) rfl (tlt hc130_82).2.2.1 (by decide) (by decide) ?_
        show Steps p.tables e below (T80.setTop (mkF m 137 #[.val (.int p0), .val (.int p1), .val (.int p2), .val (.ref w_LESS_OR_EQUAL), .val (.ref x0_48), .val (.int (2 : Int32)), .unset, .val (.int (((60 : Int32) &&& (255 : Int32)).toUInt32.toUInt16.toUInt32.toInt32))] [])) t
        refine XS.iconst X80.here hx rfl (hb hby at_137) ?_
        show Steps p.tables e below (T80.setTop (mkF m 138 #[.val (.int p0), .val (.int p1), .val (.int p2), .val (.ref w_LESS_OR_EQUAL), .val (.ref x0_48), .val (.int (2 : Int32)), .unset, .val (.int (((60 : Int32) &&& (255 : Int32)).toUInt32.toUInt16.toUInt32.toInt32))] [(.int (0 : Int32))])) t
        refine XS.istore X80.here hx rfl (hb hby at_138) rfl (l' := #[.val (.int p0), .val (.int p1), .val (.int p2), .val (.ref w_LESS_OR_EQUAL), .val (.ref x0_48), .val (.int (2 : Int32)), .val (.int (0 : Int32)), .val (.int (((60 : Int32) &&& (255 : Int32)).toUInt32.toUInt16.toUInt32.toInt32))]) rfl ?_
        show Steps p.tables e below (T80.setTop (mkF m 140 #[.val (.int p0), .val (.int p1), .val (.int p2), .val (.ref w_LESS_OR_EQUAL), .val (.ref x0_48), .val (.int (2 : Int32)), .val (.int (0 : Int32)), .val (.int (((60 : Int32) &&& (255 : Int32)).toUInt32.toUInt16.toUInt32.toInt32))] [])) t
        refine XS.goto X80.here hx rfl (pc0 := 140) (pc' := 211) rfl (hb hby at_140) (by decide) (by decide) ?_
        show Steps p.tables e below (T80.setTop (mkF m 211 #[.val (.int p0), .val (.int p1), .val (.int p2), .val (.ref w_LESS_OR_EQUAL), .val (.ref x0_48), .val (.int (2 : Int32)), .val (.int (0 : Int32)), .val (.int (((60 : Int32) &&& (255 : Int32)).toUInt32.toUInt16.toUInt32.toInt32))] [])) t
        refine XS.goto X80.here hx rfl (pc0 := 211) (pc' := 216) rfl (hb hby at_211) (by decide) (by decide) ?_
        show Steps p.tables e below (T80.setTop (mkF m 216 #[.val (.int p0), .val (.int p1), .val (.int p2), .val (.ref w_LESS_OR_EQUAL), .val (.ref x0_48), .val (.int (2 : Int32)), .val (.int (0 : Int32)), .val (.int (((60 : Int32) &&& (255 : Int32)).toUInt32.toUInt16.toUInt32.toInt32))] [])) t
        refine XS.aloadN X80.here hx rfl (hb hby at_216) rfl rfl ?_
        show Steps p.tables e below (T80.setTop (mkF m 217 #[.val (.int p0), .val (.int p1), .val (.int p2), .val (.ref w_LESS_OR_EQUAL), .val (.ref x0_48), .val (.int (2 : Int32)), .val (.int (0 : Int32)), .val (.int (((60 : Int32) &&& (255 : Int32)).toUInt32.toUInt16.toUInt32.toInt32))] [(.ref w_LESS_OR_EQUAL)])) t
        refine XS.iloadN X80.here hx rfl (hb hby at_217) rfl ?_
        show Steps p.tables e below (T80.setTop (mkF m 218 #[.val (.int p0), .val (.int p1), .val (.int p2), .val (.ref w_LESS_OR_EQUAL), .val (.ref x0_48), .val (.int (2 : Int32)), .val (.int (0 : Int32)), .val (.int (((60 : Int32) &&& (255 : Int32)).toUInt32.toUInt16.toUInt32.toInt32))] [(.int p1), (.ref w_LESS_OR_EQUAL)])) t
        refine XS.i2dS X80.here hx rfl (hb hby at_218) rfl rfl ?_
        show Steps p.tables e below (T80.setTop (mkF m 219 #[.val (.int p0), .val (.int p1), .val (.int p2), .val (.ref w_LESS_OR_EQUAL), .val (.ref x0_48), .val (.int (2 : Int32)), .val (.int (0 : Int32)), .val (.int (((60 : Int32) &&& (255 : Int32)).toUInt32.toUInt16.toUInt32.toInt32))] [(.double (FP.i2d p1)), (.ref w_LESS_OR_EQUAL)])) t
        refine XS.iloadN X80.here hx rfl (hb hby at_219) rfl ?_
        show Steps p.tables e below (T80.setTop (mkF m 220 #[.val (.int p0), .val (.int p1), .val (.int p2), .val (.ref w_LESS_OR_EQUAL), .val (.ref x0_48), .val (.int (2 : Int32)), .val (.int (0 : Int32)), .val (.int (((60 : Int32) &&& (255 : Int32)).toUInt32.toUInt16.toUInt32.toInt32))] [(.int p2), (.double (FP.i2d p1)), (.ref w_LESS_OR_EQUAL)])) t
        refine XS.i2dS X80.here hx rfl (hb hby at_220) rfl rfl ?_
        exact k
      obtain ⟨cq83, kq83, qa83, qb83, qc83⟩ := isOf hZ e80 f58
      obtain ⟨_, _, ⟨T83, L83, k83, n83⟩, -, X83, ⟨Lc83, hQ83, l83, y83, z83⟩, st83⟩ := X80.virtualBack hx (y := (⟨"com/example/meshwatch/meshwatch/Relation", "holds", "(DD)Z"⟩ : MethodName)) (z := (⟨"com/example/meshwatch/meshwatch/Relation", "holds", "(DD)Z"⟩ : MethodName)) hown (mvT hZ (hw _ (List.mem_of_getElem? (i := 65) rfl))) (mvT hZ (hw _ (List.mem_of_getElem? (i := 66) rfl))) (notFace_of_selects (args := #[]) (mvT hZ (hw _ (List.mem_of_getElem? (i := 68) rfl)))) (mvT hZ (hw _ (List.mem_of_getElem? (i := 68) rfl))) (mvT hZ (hw _ (List.mem_of_getElem? (i := 67) rfl))) (by decide) (backOf (W := 0) (rmh1 l Z ar hw [] w_LESS_OR_EQUAL ((FP.i2d p1)) ((FP.i2d p2)) T48.heap n0 z74 f58 f59) hZ (hw _ (List.mem_of_getElem? (i := 69) rfl)) (hw _ (List.mem_of_getElem? (i := 6) rfl)) (by decide) (by decide)) qa83 qc83 (g := (mkF m 221 #[.val (.int p0), .val (.int p1), .val (.int p2), .val (.ref w_LESS_OR_EQUAL), .val (.ref x0_48), .val (.int (2 : Int32)), .val (.int (0 : Int32)), .val (.int (((60 : Int32) &&& (255 : Int32)).toUInt32.toUInt16.toUInt32.toInt32))] [(.double (FP.i2d p2)), (.double (FP.i2d p1)), (.ref w_LESS_OR_EQUAL)])) rfl (by rw [hml]; rfl) (Steps.refl _) (argsL := [(.double (FP.i2d p1)), (.double (FP.i2d p2))]) (rest := []) (lenOf pd0_4 rfl) rfl (by show 2 * 0 + _ ≤ _; exact Nat.le_of_eq rfl) (hb hby at_221) (fun _ _ => ⟨rfl, e80, (by decide : 2 + 0 ≤ _), (by decide : 12 + 0 ≤ _)⟩)
      dsimp only [Pt.U, Pt.locs, Pt.cells, Pt.slots] at X83 l83 y83 z83 st83 hQ83
      subst l83 y83 z83
      obtain ⟨rfl, N83q, e83⟩ := hQ83
      have n84 := Fr.app n81 N83q
      refine own_trW (T' := T83) (g' := (mkF m 224 #[.val (.int p0), .val (.int p1), .val (.int p2), .val (.ref w_LESS_OR_EQUAL), .val (.ref x0_48), .val (.int (2 : Int32)), .val (.int (0 : Int32)), .val (.int (((60 : Int32) &&& (255 : Int32)).toUInt32.toUInt16.toUInt32.toInt32))] [(.int (own_h1 (FP.dcmp (FP.i2d p1) (FP.i2d p2))))])) st83 ?_
      refine own_stW (T' := T83) (g' := (mkF m 234 #[.val (.int p0), .val (.int p1), .val (.int p2), .val (.ref w_LESS_OR_EQUAL), .val (.ref x0_48), .val (.int (2 : Int32)), .val (.int (0 : Int32)), .val (.int (((60 : Int32) &&& (255 : Int32)).toUInt32.toUInt16.toUInt32.toInt32))] [(.int (1 : Int32))])) (fun t k => ?_) ?_
      · show Steps p.tables e below (T83.setTop (mkF m 224 #[.val (.int p0), .val (.int p1), .val (.int p2), .val (.ref w_LESS_OR_EQUAL), .val (.ref x0_48), .val (.int (2 : Int32)), .val (.int (0 : Int32)), .val (.int (((60 : Int32) &&& (255 : Int32)).toUInt32.toUInt16.toUInt32.toInt32))] [(.int (own_h1 (FP.dcmp (FP.i2d p1) (FP.i2d p2))))])) t
        refine XS.iload X83.here hx rfl (hb hby at_224) rfl ?_
        show Steps p.tables e below (T83.setTop (mkF m 226 #[.val (.int p0), .val (.int p1), .val (.int p2), .val (.ref w_LESS_OR_EQUAL), .val (.ref x0_48), .val (.int (2 : Int32)), .val (.int (0 : Int32)), .val (.int (((60 : Int32) &&& (255 : Int32)).toUInt32.toUInt16.toUInt32.toInt32))] [(.int (0 : Int32)), (.int (own_h1 (FP.dcmp (FP.i2d p1) (FP.i2d p2))))])) t
        refine XS.icmpNo X83.here hx rfl (hb hby at_226) rfl (teq (own_H1t hc130_82 : (own_h1 (FP.dcmp (FP.i2d p1) (FP.i2d p2))) = (0 : Int32))).2 ?_
        show Steps p.tables e below (T83.setTop (mkF m 229 #[.val (.int p0), .val (.int p1), .val (.int p2), .val (.ref w_LESS_OR_EQUAL), .val (.ref x0_48), .val (.int (2 : Int32)), .val (.int (0 : Int32)), .val (.int (((60 : Int32) &&& (255 : Int32)).toUInt32.toUInt16.toUInt32.toInt32))] [])) t
        refine XS.iconst X83.here hx rfl (hb hby at_229) ?_
        show Steps p.tables e below (T83.setTop (mkF m 230 #[.val (.int p0), .val (.int p1), .val (.int p2), .val (.ref w_LESS_OR_EQUAL), .val (.ref x0_48), .val (.int (2 : Int32)), .val (.int (0 : Int32)), .val (.int (((60 : Int32) &&& (255 : Int32)).toUInt32.toUInt16.toUInt32.toInt32))] [(.int (1 : Int32))])) t
        refine XS.goto X83.here hx rfl (pc0 := 230) (pc' := 234) rfl (hb hby at_230) (by decide) (by decide) ?_
        exact k
      refine own_retZW X83 hx hlk hS48 (Nat.le_of_eq (congrArg Array.size (Eq.symm e83))) Bd.returns (hb hby at_234) rfl (by decide) (by decide) ?_
      show Q0 Z p0 p1 p2 w_LESS w_LESS_OR_EQUAL w_GREATER w_GREATER_OR_EQUAL w_EQUAL w_NOT_EQUAL w_CS u_SIO h0 n0 (some (.int (1 : Int32))) T83.heap _
      exact ⟨rfl, n84⟩
    · refine own_stW (T' := T80) (g' := (mkF m 221 #[.val (.int p0), .val (.int p1), .val (.int p2), .val (.ref w_LESS_OR_EQUAL), .val (.ref x0_48), .val (.int (2 : Int32)), .val (.int (1 : Int32)), .val (.int (((60 : Int32) &&& (255 : Int32)).toUInt32.toUInt16.toUInt32.toInt32))] [(.double (FP.i2d p2)), (.double (FP.i2d p1)), (.ref w_LESS_OR_EQUAL)])) (fun t k => ?_) ?_
      · show Steps p.tables e below (T80.setTop (mkF m 130 #[.val (.int p0), .val (.int p1), .val (.int p2), .val (.ref w_LESS_OR_EQUAL), .val (.ref x0_48), .val (.int (2 : Int32)), .unset, .val (.int (((60 : Int32) &&& (255 : Int32)).toUInt32.toUInt16.toUInt32.toInt32))] [(.int p2), (.int p1)])) t
        refine XS.icmpNo X80.here hx rfl (hb hby at_130) rfl (flt hc130_82).2.2.1 ?_
        show Steps p.tables e below (T80.setTop (mkF m 133 #[.val (.int p0), .val (.int p1), .val (.int p2), .val (.ref w_LESS_OR_EQUAL), .val (.ref x0_48), .val (.int (2 : Int32)), .unset, .val (.int (((60 : Int32) &&& (255 : Int32)).toUInt32.toUInt16.toUInt32.toInt32))] [])) t
        refine XS.iconst X80.here hx rfl (hb hby at_133) ?_
        show Steps p.tables e below (T80.setTop (mkF m 134 #[.val (.int p0), .val (.int p1), .val (.int p2), .val (.ref w_LESS_OR_EQUAL), .val (.ref x0_48), .val (.int (2 : Int32)), .unset, .val (.int (((60 : Int32) &&& (255 : Int32)).toUInt32.toUInt16.toUInt32.toInt32))] [(.int (1 : Int32))])) t
        refine XS.goto X80.here hx rfl (pc0 := 134) (pc' := 138) rfl (hb hby at_134) (by decide) (by decide) ?_
        show Steps p.tables e below (T80.setTop (mkF m 138 #[.val (.int p0), .val (.int p1), .val (.int p2), .val (.ref w_LESS_OR_EQUAL), .val (.ref x0_48), .val (.int (2 : Int32)), .unset, .val (.int (((60 : Int32) &&& (255 : Int32)).toUInt32.toUInt16.toUInt32.toInt32))] [(.int (1 : Int32))])) t
        refine XS.istore X80.here hx rfl (hb hby at_138) rfl (l' := #[.val (.int p0), .val (.int p1), .val (.int p2), .val (.ref w_LESS_OR_EQUAL), .val (.ref x0_48), .val (.int (2 : Int32)), .val (.int (1 : Int32)), .val (.int (((60 : Int32) &&& (255 : Int32)).toUInt32.toUInt16.toUInt32.toInt32))]) rfl ?_
        show Steps p.tables e below (T80.setTop (mkF m 140 #[.val (.int p0), .val (.int p1), .val (.int p2), .val (.ref w_LESS_OR_EQUAL), .val (.ref x0_48), .val (.int (2 : Int32)), .val (.int (1 : Int32)), .val (.int (((60 : Int32) &&& (255 : Int32)).toUInt32.toUInt16.toUInt32.toInt32))] [])) t
        refine XS.goto X80.here hx rfl (pc0 := 140) (pc' := 211) rfl (hb hby at_140) (by decide) (by decide) ?_
        show Steps p.tables e below (T80.setTop (mkF m 211 #[.val (.int p0), .val (.int p1), .val (.int p2), .val (.ref w_LESS_OR_EQUAL), .val (.ref x0_48), .val (.int (2 : Int32)), .val (.int (1 : Int32)), .val (.int (((60 : Int32) &&& (255 : Int32)).toUInt32.toUInt16.toUInt32.toInt32))] [])) t
        refine XS.goto X80.here hx rfl (pc0 := 211) (pc' := 216) rfl (hb hby at_211) (by decide) (by decide) ?_
        show Steps p.tables e below (T80.setTop (mkF m 216 #[.val (.int p0), .val (.int p1), .val (.int p2), .val (.ref w_LESS_OR_EQUAL), .val (.ref x0_48), .val (.int (2 : Int32)), .val (.int (1 : Int32)), .val (.int (((60 : Int32) &&& (255 : Int32)).toUInt32.toUInt16.toUInt32.toInt32))] [])) t
        refine XS.aloadN X80.here hx rfl (hb hby at_216) rfl rfl ?_
        show Steps p.tables e below (T80.setTop (mkF m 217 #[.val (.int p0), .val (.int p1), .val (.int p2), .val (.ref w_LESS_OR_EQUAL), .val (.ref x0_48), .val (.int (2 : Int32)), .val (.int (1 : Int32)), .val (.int (((60 : Int32) &&& (255 : Int32)).toUInt32.toUInt16.toUInt32.toInt32))] [(.ref w_LESS_OR_EQUAL)])) t
        refine XS.iloadN X80.here hx rfl (hb hby at_217) rfl ?_
        show Steps p.tables e below (T80.setTop (mkF m 218 #[.val (.int p0), .val (.int p1), .val (.int p2), .val (.ref w_LESS_OR_EQUAL), .val (.ref x0_48), .val (.int (2 : Int32)), .val (.int (1 : Int32)), .val (.int (((60 : Int32) &&& (255 : Int32)).toUInt32.toUInt16.toUInt32.toInt32))] [(.int p1), (.ref w_LESS_OR_EQUAL)])) t
        refine XS.i2dS X80.here hx rfl (hb hby at_218) rfl rfl ?_
        show Steps p.tables e below (T80.setTop (mkF m 219 #[.val (.int p0), .val (.int p1), .val (.int p2), .val (.ref w_LESS_OR_EQUAL), .val (.ref x0_48), .val (.int (2 : Int32)), .val (.int (1 : Int32)), .val (.int (((60 : Int32) &&& (255 : Int32)).toUInt32.toUInt16.toUInt32.toInt32))] [(.double (FP.i2d p1)), (.ref w_LESS_OR_EQUAL)])) t
        refine XS.iloadN X80.here hx rfl (hb hby at_219) rfl ?_
        show Steps p.tables e below (T80.setTop (mkF m 220 #[.val (.int p0), .val (.int p1), .val (.int p2), .val (.ref w_LESS_OR_EQUAL), .val (.ref x0_48), .val (.int (2 : Int32)), .val (.int (1 : Int32)), .val (.int (((60 : Int32) &&& (255 : Int32)).toUInt32.toUInt16.toUInt32.toInt32))] [(.int p2), (.double (FP.i2d p1)), (.ref w_LESS_OR_EQUAL)])) t
        refine XS.i2dS X80.here hx rfl (hb hby at_220) rfl rfl ?_
        exact k
      obtain ⟨cq85, kq85, qa85, qb85, qc85⟩ := isOf hZ e80 f58
      obtain ⟨_, _, ⟨T85, L85, k85, n85⟩, -, X85, ⟨Lc85, hQ85, l85, y85, z85⟩, st85⟩ := X80.virtualBack hx (y := (⟨"com/example/meshwatch/meshwatch/Relation", "holds", "(DD)Z"⟩ : MethodName)) (z := (⟨"com/example/meshwatch/meshwatch/Relation", "holds", "(DD)Z"⟩ : MethodName)) hown (mvT hZ (hw _ (List.mem_of_getElem? (i := 65) rfl))) (mvT hZ (hw _ (List.mem_of_getElem? (i := 66) rfl))) (notFace_of_selects (args := #[]) (mvT hZ (hw _ (List.mem_of_getElem? (i := 68) rfl)))) (mvT hZ (hw _ (List.mem_of_getElem? (i := 68) rfl))) (mvT hZ (hw _ (List.mem_of_getElem? (i := 67) rfl))) (by decide) (backOf (W := 0) (rmh1 l Z ar hw [] w_LESS_OR_EQUAL ((FP.i2d p1)) ((FP.i2d p2)) T48.heap n0 z74 f58 f59) hZ (hw _ (List.mem_of_getElem? (i := 69) rfl)) (hw _ (List.mem_of_getElem? (i := 6) rfl)) (by decide) (by decide)) qa85 qc85 (g := (mkF m 221 #[.val (.int p0), .val (.int p1), .val (.int p2), .val (.ref w_LESS_OR_EQUAL), .val (.ref x0_48), .val (.int (2 : Int32)), .val (.int (1 : Int32)), .val (.int (((60 : Int32) &&& (255 : Int32)).toUInt32.toUInt16.toUInt32.toInt32))] [(.double (FP.i2d p2)), (.double (FP.i2d p1)), (.ref w_LESS_OR_EQUAL)])) rfl (by rw [hml]; rfl) (Steps.refl _) (argsL := [(.double (FP.i2d p1)), (.double (FP.i2d p2))]) (rest := []) (lenOf pd0_4 rfl) rfl (by show 2 * 0 + _ ≤ _; exact Nat.le_of_eq rfl) (hb hby at_221) (fun _ _ => ⟨rfl, e80, (by decide : 2 + 0 ≤ _), (by decide : 12 + 0 ≤ _)⟩)
      dsimp only [Pt.U, Pt.locs, Pt.cells, Pt.slots] at X85 l85 y85 z85 st85 hQ85
      subst l85 y85 z85
      obtain ⟨rfl, N85q, e85⟩ := hQ85
      have n86 := Fr.app n81 N85q
      refine own_trW (T' := T85) (g' := (mkF m 224 #[.val (.int p0), .val (.int p1), .val (.int p2), .val (.ref w_LESS_OR_EQUAL), .val (.ref x0_48), .val (.int (2 : Int32)), .val (.int (1 : Int32)), .val (.int (((60 : Int32) &&& (255 : Int32)).toUInt32.toUInt16.toUInt32.toInt32))] [(.int (own_h1 (FP.dcmp (FP.i2d p1) (FP.i2d p2))))])) st85 ?_
      refine own_stW (T' := T85) (g' := (mkF m 234 #[.val (.int p0), .val (.int p1), .val (.int p2), .val (.ref w_LESS_OR_EQUAL), .val (.ref x0_48), .val (.int (2 : Int32)), .val (.int (1 : Int32)), .val (.int (((60 : Int32) &&& (255 : Int32)).toUInt32.toUInt16.toUInt32.toInt32))] [(.int (1 : Int32))])) (fun t k => ?_) ?_
      · show Steps p.tables e below (T85.setTop (mkF m 224 #[.val (.int p0), .val (.int p1), .val (.int p2), .val (.ref w_LESS_OR_EQUAL), .val (.ref x0_48), .val (.int (2 : Int32)), .val (.int (1 : Int32)), .val (.int (((60 : Int32) &&& (255 : Int32)).toUInt32.toUInt16.toUInt32.toInt32))] [(.int (own_h1 (FP.dcmp (FP.i2d p1) (FP.i2d p2))))])) t
        refine XS.iload X85.here hx rfl (hb hby at_224) rfl ?_
        show Steps p.tables e below (T85.setTop (mkF m 226 #[.val (.int p0), .val (.int p1), .val (.int p2), .val (.ref w_LESS_OR_EQUAL), .val (.ref x0_48), .val (.int (2 : Int32)), .val (.int (1 : Int32)), .val (.int (((60 : Int32) &&& (255 : Int32)).toUInt32.toUInt16.toUInt32.toInt32))] [(.int (1 : Int32)), (.int (own_h1 (FP.dcmp (FP.i2d p1) (FP.i2d p2))))])) t
        refine XS.icmpNo X85.here hx rfl (hb hby at_226) rfl (teq (own_H1f hc130_82 : (own_h1 (FP.dcmp (FP.i2d p1) (FP.i2d p2))) = (1 : Int32))).2 ?_
        show Steps p.tables e below (T85.setTop (mkF m 229 #[.val (.int p0), .val (.int p1), .val (.int p2), .val (.ref w_LESS_OR_EQUAL), .val (.ref x0_48), .val (.int (2 : Int32)), .val (.int (1 : Int32)), .val (.int (((60 : Int32) &&& (255 : Int32)).toUInt32.toUInt16.toUInt32.toInt32))] [])) t
        refine XS.iconst X85.here hx rfl (hb hby at_229) ?_
        show Steps p.tables e below (T85.setTop (mkF m 230 #[.val (.int p0), .val (.int p1), .val (.int p2), .val (.ref w_LESS_OR_EQUAL), .val (.ref x0_48), .val (.int (2 : Int32)), .val (.int (1 : Int32)), .val (.int (((60 : Int32) &&& (255 : Int32)).toUInt32.toUInt16.toUInt32.toInt32))] [(.int (1 : Int32))])) t
        refine XS.goto X85.here hx rfl (pc0 := 230) (pc' := 234) rfl (hb hby at_230) (by decide) (by decide) ?_
        exact k
      refine own_retZW X85 hx hlk hS48 (Nat.le_of_eq (congrArg Array.size (Eq.symm e85))) Bd.returns (hb hby at_234) rfl (by decide) (by decide) ?_
      show Q0 Z p0 p1 p2 w_LESS w_LESS_OR_EQUAL w_GREATER w_GREATER_OR_EQUAL w_EQUAL w_NOT_EQUAL w_CS u_SIO h0 n0 (some (.int (1 : Int32))) T85.heap _
      exact ⟨rfl, n86⟩
  · rw [hk7_3]
    obtain ⟨_, _, ⟨T87, L87, k87, n87⟩, -, X87, ⟨Lc87, hQ87, l87, y87, z87⟩, st87⟩ := Jvm.LawKit.callS X0 hx (y := (⟨"com/example/meshwatch/meshwatch/RelationSymbolPinLaw", "pick", "(I)Lcom/example/meshwatch/meshwatch/Relation;"⟩ : MethodName)) hown (mvT hZ (hw _ (List.mem_of_getElem? (i := 1) rfl))) (mvT hZ (hw _ (List.mem_of_getElem? (i := 2) rfl))) (mvT hZ (hw _ (List.mem_of_getElem? (i := 3) rfl))) (mvT hZ (hw _ (List.mem_of_getElem? (i := 4) rfl))) (by decide) (backOf (W := 0) (rmk2 l Z ar hw [] w_GREATER h0 n0 Z0 S_GREATER) hZ (hw _ (List.mem_of_getElem? (i := 4) rfl)) (hw _ (List.mem_of_getElem? (i := 3) rfl)) (by decide) (by decide)) (g := (mkF m 7 #[.val (.int p0), .val (.int p1), .val (.int p2), .unset, .unset, .unset, .unset, .unset] [(.int (2 : Int32))])) rfl (by rw [hml]; rfl) (argsL := [(.int (2 : Int32))]) (rest := []) (lenOf pd0_0 rfl) rfl (by show 2 * 0 + _ ≤ _; exact Nat.le_of_eq rfl) (hb hby at_7) (fun _ _ => ⟨rfl, e0, (by decide : 0 + 0 ≤ _), (by decide : 0 + 0 ≤ _)⟩)
    dsimp only [Pt.U, Pt.locs, Pt.cells, Pt.slots] at X87 l87 y87 z87 st87 hQ87
    subst l87 y87 z87
    obtain ⟨rfl, N87q, e87⟩ := hQ87
    have n88 := Fr.app N0 N87q
    refine own_stW (T' := T87) (g' := (mkF m 10 #[.val (.int p0), .val (.int p1), .val (.int p2), .unset, .unset, .unset, .unset, .unset] [(.ref w_GREATER)])) st87 ?_
    refine own_stW (T' := T87) (g' := (mkF m 12 #[.val (.int p0), .val (.int p1), .val (.int p2), .val (.ref w_GREATER), .unset, .unset, .unset, .unset] [(.ref w_GREATER)])) (fun t k => ?_) ?_
    · show Steps p.tables e below (T87.setTop (mkF m 10 #[.val (.int p0), .val (.int p1), .val (.int p2), .unset, .unset, .unset, .unset, .unset] [(.ref w_GREATER)])) t
      refine XS.astoreN X87.here hx rfl (hb hby at_10) rfl rfl (l' := #[.val (.int p0), .val (.int p1), .val (.int p2), .val (.ref w_GREATER), .unset, .unset, .unset, .unset]) rfl ?_
      show Steps p.tables e below (T87.setTop (mkF m 11 #[.val (.int p0), .val (.int p1), .val (.int p2), .val (.ref w_GREATER), .unset, .unset, .unset, .unset] [])) t
      refine XS.aloadN X87.here hx rfl (hb hby at_11) rfl rfl ?_
      exact k
    obtain ⟨cq89, kq89, qa89, qb89, qc89⟩ := isOf hZ e87 E_w_GREATER
    obtain ⟨_, _, ⟨T89, L89, k89, n89⟩, -, X89, hS89, -, ⟨Lc89, hQ89, l89, y89, z89, -⟩, st89⟩ := X87.virtualBackS hx (y := (⟨"com/example/meshwatch/meshwatch/Relation", "symbol", "()Ljava/lang/String;"⟩ : MethodName)) (z := (⟨"com/example/meshwatch/meshwatch/Relation", "symbol", "()Ljava/lang/String;"⟩ : MethodName)) hown (mvT hZ (hw _ (List.mem_of_getElem? (i := 8) rfl))) (mvT hZ (hw _ (List.mem_of_getElem? (i := 9) rfl))) (notFace_of_selects (args := #[]) (mvT hZ (hw _ (List.mem_of_getElem? (i := 11) rfl)))) (mvT hZ (hw _ (List.mem_of_getElem? (i := 11) rfl))) (mvT hZ (hw _ (List.mem_of_getElem? (i := 10) rfl))) (by decide) (backOfSH (s := s) (vm0 := s.vm) (W := 0) (rmy2 l Z ar hw [] w_GREATER h0 n0 Z0 E_w_GREATER F_ordinal_w_GREATER) hZ (hw _ (List.mem_of_getElem? (i := 12) rfl)) (hw _ (List.mem_of_getElem? (i := 6) rfl)) (by decide) (by decide) (own_ew hw) hI) qa89 qc89 (g := (mkF m 12 #[.val (.int p0), .val (.int p1), .val (.int p2), .val (.ref w_GREATER), .unset, .unset, .unset, .unset] [(.ref w_GREATER)])) rfl (by rw [hml]; rfl) (Steps.refl _) (argsL := []) (rest := []) (lenOf pd0_1 rfl) rfl (by show 2 * 0 + _ ≤ _; exact Nat.le_of_eq rfl) (hb hby at_12) (fun _ _ => ⟨rfl, e87, (by decide : 0 + 2 ≤ _), (by decide : 0 + 8 ≤ _)⟩)
    dsimp only [Pt.U, Pt.locs, Pt.cells, Pt.slots] at X89 l89 y89 z89 st89 hQ89
    subst l89 y89 z89
    have hZ : Z.Warmed39 (s.setVm T89.vm).vm := State.Warmed39.trans (t := s) hZ hS89.1
    have hown : (s.setVm T89.vm).vm.findClass "com/example/meshwatch/meshwatch/RelationSymbolPinLaw" = some m.cls := by rw [show (s.setVm T89.vm).vm = T89.vm from rfl, hS89.1.alike.findClass]; exact hown
    obtain ⟨x0_89, x1_89, kx_89, rfl, N89q, K89, f90, f91, f92, f93⟩ := hQ89
    have n94 := Fr.app n88 N89q
    have f95 := own_sta S_LESS K89
    have f96 := E_w_LESS.keep K89
    have f97 := F_ordinal_w_LESS.keep K89 nin0
    have f98 := own_sta S_LESS_OR_EQUAL K89
    have f99 := E_w_LESS_OR_EQUAL.keep K89
    have f100 := F_ordinal_w_LESS_OR_EQUAL.keep K89 nin0
    have f101 := own_sta S_GREATER K89
    have f102 := E_w_GREATER.keep K89
    have f103 := F_ordinal_w_GREATER.keep K89 nin0
    have f104 := own_sta S_GREATER_OR_EQUAL K89
    have f105 := E_w_GREATER_OR_EQUAL.keep K89
    have f106 := F_ordinal_w_GREATER_OR_EQUAL.keep K89 nin0
    have f107 := own_sta S_EQUAL K89
    have f108 := E_w_EQUAL.keep K89
    have f109 := F_ordinal_w_EQUAL.keep K89 nin0
    have f110 := own_sta S_NOT_EQUAL K89
    have f111 := E_w_NOT_EQUAL.keep K89
    have f112 := F_ordinal_w_NOT_EQUAL.keep K89 nin0
    have f113 := own_sta S_COMPACT_STRINGS K89
    have f114 := own_sta S_SIOOBE_FORMATTER K89
    have z115 := Nat.le_trans Z0 K89.1
    have k116 := K0.trans K89 all0
    refine own_trW (T' := T89) (g' := (mkF m 15 #[.val (.int p0), .val (.int p1), .val (.int p2), .val (.ref w_GREATER), .unset, .unset, .unset, .unset] [(.ref x0_89)])) st89 ?_
    refine own_stW (T' := T89) (g' := (mkF m 26 #[.val (.int p0), .val (.int p1), .val (.int p2), .val (.ref w_GREATER), .val (.ref x0_89), .unset, .unset, .unset] [(.ref x0_89)])) (fun t k => ?_) ?_
    · show Steps p.tables e below (T89.setTop (mkF m 15 #[.val (.int p0), .val (.int p1), .val (.int p2), .val (.ref w_GREATER), .unset, .unset, .unset, .unset] [(.ref x0_89)])) t
      refine XS.astore X89.here hx rfl (hb hby at_15) rfl rfl (l' := #[.val (.int p0), .val (.int p1), .val (.int p2), .val (.ref w_GREATER), .val (.ref x0_89), .unset, .unset, .unset]) rfl ?_
      show Steps p.tables e below (T89.setTop (mkF m 17 #[.val (.int p0), .val (.int p1), .val (.int p2), .val (.ref w_GREATER), .val (.ref x0_89), .unset, .unset, .unset] [])) t
      refine XS.aload X89.here hx rfl (hb hby at_17) rfl rfl ?_
      show Steps p.tables e below (T89.setTop (mkF m 19 #[.val (.int p0), .val (.int p1), .val (.int p2), .val (.ref w_GREATER), .val (.ref x0_89), .unset, .unset, .unset] [(.ref x0_89)])) t
      refine XS.ifnonnullYes X89.here hx rfl (pc0 := 19) (pc' := 24) rfl (hb hby at_19) rfl (by decide) (by decide) ?_
      show Steps p.tables e below (T89.setTop (mkF m 24 #[.val (.int p0), .val (.int p1), .val (.int p2), .val (.ref w_GREATER), .val (.ref x0_89), .unset, .unset, .unset] [])) t
      refine XS.aload X89.here hx rfl (hb hby at_24) rfl rfl ?_
      exact k
    obtain ⟨cq117, kq117, qa117, qb117, qc117⟩ := isOf hZ (rfl : T89.heap = T89.heap) f90
    obtain ⟨_, _, ⟨T117, L117, k117, n117⟩, -, X117, ⟨Lc117, hQ117, l117, y117, z117⟩, st117⟩ := X89.virtualBack hx (y := (⟨"java/lang/String", "length", "()I"⟩ : MethodName)) (z := (⟨"java/lang/String", "length", "()I"⟩ : MethodName)) hown (mvT hZ (hw _ (List.mem_of_getElem? (i := 30) rfl))) (mvT hZ (hw _ (List.mem_of_getElem? (i := 31) rfl))) (notFace_of_selects (args := #[]) (mvT hZ (hw _ (List.mem_of_getElem? (i := 33) rfl)))) (mvT hZ (hw _ (List.mem_of_getElem? (i := 33) rfl))) (mvT hZ (hw _ (List.mem_of_getElem? (i := 32) rfl))) (by decide) (backOf (W := 0) (rmlen1 l Z ar hw [] x0_89 x1_89 kx_89 ((62 : Int32)) w_CS T89.heap n0 z115 f90 f91 f92 f93 f113 h26_h6_hb3) hZ (hw _ (List.mem_of_getElem? (i := 34) rfl)) (hw _ (List.mem_of_getElem? (i := 23) rfl)) (by decide) (by decide)) qa117 qc117 (g := (mkF m 26 #[.val (.int p0), .val (.int p1), .val (.int p2), .val (.ref w_GREATER), .val (.ref x0_89), .unset, .unset, .unset] [(.ref x0_89)])) rfl (by rw [hml]; rfl) (Steps.refl _) (argsL := []) (rest := []) (lenOf pd0_2 rfl) rfl (by show 2 * 0 + _ ≤ _; exact Nat.le_of_eq rfl) (hb hby at_26) (fun _ _ => ⟨rfl, (rfl : T89.heap = T89.heap), (by decide : 2 + 0 ≤ _), (by decide : 8 + 0 ≤ _)⟩)
    dsimp only [Pt.U, Pt.locs, Pt.cells, Pt.slots] at X117 l117 y117 z117 st117 hQ117
    subst l117 y117 z117
    obtain ⟨rfl, N117q, e117⟩ := hQ117
    have n118 := Fr.app n94 N117q
    refine own_trW (T' := T117) (g' := (mkF m 29 #[.val (.int p0), .val (.int p1), .val (.int p2), .val (.ref w_GREATER), .val (.ref x0_89), .unset, .unset, .unset] [(.int (1 : Int32))])) st117 ?_
    refine own_stW (T' := T117) (g' := (mkF m 40 #[.val (.int p0), .val (.int p1), .val (.int p2), .val (.ref w_GREATER), .val (.ref x0_89), .val (.int (1 : Int32)), .unset, .unset] [(.int (0 : Int32)), (.ref x0_89)])) (fun t k => ?_) ?_
    · show Steps p.tables e below (T117.setTop (mkF m 29 #[.val (.int p0), .val (.int p1), .val (.int p2), .val (.ref w_GREATER), .val (.ref x0_89), .unset, .unset, .unset] [(.int (1 : Int32))])) t
      refine XS.istore X117.here hx rfl (hb hby at_29) rfl (l' := #[.val (.int p0), .val (.int p1), .val (.int p2), .val (.ref w_GREATER), .val (.ref x0_89), .val (.int (1 : Int32)), .unset, .unset]) rfl ?_
      show Steps p.tables e below (T117.setTop (mkF m 31 #[.val (.int p0), .val (.int p1), .val (.int p2), .val (.ref w_GREATER), .val (.ref x0_89), .val (.int (1 : Int32)), .unset, .unset] [])) t
      refine XS.iload X117.here hx rfl (hb hby at_31) rfl ?_
      show Steps p.tables e below (T117.setTop (mkF m 33 #[.val (.int p0), .val (.int p1), .val (.int p2), .val (.ref w_GREATER), .val (.ref x0_89), .val (.int (1 : Int32)), .unset, .unset] [(.int (1 : Int32))])) t
      refine XS.iconst X117.here hx rfl (hb hby at_33) ?_
      show Steps p.tables e below (T117.setTop (mkF m 34 #[.val (.int p0), .val (.int p1), .val (.int p2), .val (.ref w_GREATER), .val (.ref x0_89), .val (.int (1 : Int32)), .unset, .unset] [(.int (1 : Int32)), (.int (1 : Int32))])) t
      refine XS.icmpNo X117.here hx rfl (hb hby at_34) rfl (by decide) ?_
      show Steps p.tables e below (T117.setTop (mkF m 37 #[.val (.int p0), .val (.int p1), .val (.int p2), .val (.ref w_GREATER), .val (.ref x0_89), .val (.int (1 : Int32)), .unset, .unset] [])) t
      refine XS.aload X117.here hx rfl (hb hby at_37) rfl rfl ?_
      show Steps p.tables e below (T117.setTop (mkF m 39 #[.val (.int p0), .val (.int p1), .val (.int p2), .val (.ref w_GREATER), .val (.ref x0_89), .val (.int (1 : Int32)), .unset, .unset] [(.ref x0_89)])) t
      refine XS.iconst X117.here hx rfl (hb hby at_39) ?_
      exact k
    obtain ⟨cq119, kq119, qa119, qb119, qc119⟩ := isOf hZ e117 f90
    obtain ⟨_, _, ⟨T119, L119, k119, n119⟩, -, X119, ⟨Lc119, hQ119, l119, y119, z119⟩, st119⟩ := X117.virtualBack hx (y := (⟨"java/lang/String", "charAt", "(I)C"⟩ : MethodName)) (z := (⟨"java/lang/String", "charAt", "(I)C"⟩ : MethodName)) hown (mvT hZ (hw _ (List.mem_of_getElem? (i := 43) rfl))) (mvT hZ (hw _ (List.mem_of_getElem? (i := 44) rfl))) (notFace_of_selects (args := #[]) (mvT hZ (hw _ (List.mem_of_getElem? (i := 46) rfl)))) (mvT hZ (hw _ (List.mem_of_getElem? (i := 46) rfl))) (mvT hZ (hw _ (List.mem_of_getElem? (i := 45) rfl))) (by decide) (backOf (W := 0) (rmc10 l Z ar hw [] x0_89 x1_89 kx_89 ((62 : Int32)) w_CS (u_SIO) T89.heap n0 z115 f90 f91 f92 f93 f113 f114 h26_h6_hb3 h40_h12_h3_hu) hZ (hw _ (List.mem_of_getElem? (i := 47) rfl)) (hw _ (List.mem_of_getElem? (i := 23) rfl)) (by decide) (by decide)) qa119 qc119 (g := (mkF m 40 #[.val (.int p0), .val (.int p1), .val (.int p2), .val (.ref w_GREATER), .val (.ref x0_89), .val (.int (1 : Int32)), .unset, .unset] [(.int (0 : Int32)), (.ref x0_89)])) rfl (by rw [hml]; rfl) (Steps.refl _) (argsL := [(.int (0 : Int32))]) (rest := []) (lenOf pd0_3 rfl) rfl (by show 2 * 0 + _ ≤ _; exact Nat.le_of_eq rfl) (hb hby at_40) (fun _ _ => ⟨rfl, e117, (by decide : 2 + 0 ≤ _), (by decide : 8 + 0 ≤ _)⟩)
    dsimp only [Pt.U, Pt.locs, Pt.cells, Pt.slots] at X119 l119 y119 z119 st119 hQ119
    subst l119 y119 z119
    obtain ⟨rfl, N119q, e119⟩ := hQ119
    have n120 := Fr.app n118 N119q
    refine own_trW (T' := T119) (g' := (mkF m 43 #[.val (.int p0), .val (.int p1), .val (.int p2), .val (.ref w_GREATER), .val (.ref x0_89), .val (.int (1 : Int32)), .unset, .unset] [(.int (((62 : Int32) &&& (255 : Int32)).toUInt32.toUInt16.toUInt32.toInt32))])) st119 ?_
    refine own_stW (T' := T119) (g' := (mkF m 76 #[.val (.int p0), .val (.int p1), .val (.int p2), .val (.ref w_GREATER), .val (.ref x0_89), .val (.int (1 : Int32)), .unset, .val (.int (((62 : Int32) &&& (255 : Int32)).toUInt32.toUInt16.toUInt32.toInt32))] [(.int p2), (.int p1)])) (fun t k => ?_) ?_
    · show Steps p.tables e below (T119.setTop (mkF m 43 #[.val (.int p0), .val (.int p1), .val (.int p2), .val (.ref w_GREATER), .val (.ref x0_89), .val (.int (1 : Int32)), .unset, .unset] [(.int (((62 : Int32) &&& (255 : Int32)).toUInt32.toUInt16.toUInt32.toInt32))])) t
      refine XS.istore X119.here hx rfl (hb hby at_43) rfl (l' := #[.val (.int p0), .val (.int p1), .val (.int p2), .val (.ref w_GREATER), .val (.ref x0_89), .val (.int (1 : Int32)), .unset, .val (.int (((62 : Int32) &&& (255 : Int32)).toUInt32.toUInt16.toUInt32.toInt32))]) rfl ?_
      show Steps p.tables e below (T119.setTop (mkF m 45 #[.val (.int p0), .val (.int p1), .val (.int p2), .val (.ref w_GREATER), .val (.ref x0_89), .val (.int (1 : Int32)), .unset, .val (.int (((62 : Int32) &&& (255 : Int32)).toUInt32.toUInt16.toUInt32.toInt32))] [])) t
      refine XS.iload X119.here hx rfl (hb hby at_45) rfl ?_
      show Steps p.tables e below (T119.setTop (mkF m 47 #[.val (.int p0), .val (.int p1), .val (.int p2), .val (.ref w_GREATER), .val (.ref x0_89), .val (.int (1 : Int32)), .unset, .val (.int (((62 : Int32) &&& (255 : Int32)).toUInt32.toUInt16.toUInt32.toInt32))] [(.int (((62 : Int32) &&& (255 : Int32)).toUInt32.toUInt16.toUInt32.toInt32))])) t
      refine XS.bipush X119.here hx rfl (hb hby at_47) ?_
      show Steps p.tables e below (T119.setTop (mkF m 49 #[.val (.int p0), .val (.int p1), .val (.int p2), .val (.ref w_GREATER), .val (.ref x0_89), .val (.int (1 : Int32)), .unset, .val (.int (((62 : Int32) &&& (255 : Int32)).toUInt32.toUInt16.toUInt32.toInt32))] [(.int (60 : Int32)), (.int (((62 : Int32) &&& (255 : Int32)).toUInt32.toUInt16.toUInt32.toInt32))])) t
      refine XS.icmpYes X119.here hx rfl (pc0 := 49) (pc' := 67) rfl (hb hby at_49) rfl (feq ((by decide) : ¬ ((((62 : Int32) &&& (255 : Int32)).toUInt32.toUInt16.toUInt32.toInt32) = (60 : Int32)))).2 (by decide) (by decide) ?_
      show Steps p.tables e below (T119.setTop (mkF m 67 #[.val (.int p0), .val (.int p1), .val (.int p2), .val (.ref w_GREATER), .val (.ref x0_89), .val (.int (1 : Int32)), .unset, .val (.int (((62 : Int32) &&& (255 : Int32)).toUInt32.toUInt16.toUInt32.toInt32))] [])) t
      refine XS.iload X119.here hx rfl (hb hby at_67) rfl ?_
      show Steps p.tables e below (T119.setTop (mkF m 69 #[.val (.int p0), .val (.int p1), .val (.int p2), .val (.ref w_GREATER), .val (.ref x0_89), .val (.int (1 : Int32)), .unset, .val (.int (((62 : Int32) &&& (255 : Int32)).toUInt32.toUInt16.toUInt32.toInt32))] [(.int (((62 : Int32) &&& (255 : Int32)).toUInt32.toUInt16.toUInt32.toInt32))])) t
      refine XS.bipush X119.here hx rfl (hb hby at_69) ?_
      show Steps p.tables e below (T119.setTop (mkF m 71 #[.val (.int p0), .val (.int p1), .val (.int p2), .val (.ref w_GREATER), .val (.ref x0_89), .val (.int (1 : Int32)), .unset, .val (.int (((62 : Int32) &&& (255 : Int32)).toUInt32.toUInt16.toUInt32.toInt32))] [(.int (62 : Int32)), (.int (((62 : Int32) &&& (255 : Int32)).toUInt32.toUInt16.toUInt32.toInt32))])) t
      refine XS.icmpNo X119.here hx rfl (hb hby at_71) rfl (teq ((by decide) : (((62 : Int32) &&& (255 : Int32)).toUInt32.toUInt16.toUInt32.toInt32) = (62 : Int32))).2 ?_
      show Steps p.tables e below (T119.setTop (mkF m 74 #[.val (.int p0), .val (.int p1), .val (.int p2), .val (.ref w_GREATER), .val (.ref x0_89), .val (.int (1 : Int32)), .unset, .val (.int (((62 : Int32) &&& (255 : Int32)).toUInt32.toUInt16.toUInt32.toInt32))] [])) t
      refine XS.iloadN X119.here hx rfl (hb hby at_74) rfl ?_
      show Steps p.tables e below (T119.setTop (mkF m 75 #[.val (.int p0), .val (.int p1), .val (.int p2), .val (.ref w_GREATER), .val (.ref x0_89), .val (.int (1 : Int32)), .unset, .val (.int (((62 : Int32) &&& (255 : Int32)).toUInt32.toUInt16.toUInt32.toInt32))] [(.int p1)])) t
      refine XS.iloadN X119.here hx rfl (hb hby at_75) rfl ?_
      exact k
    by_cases hc76_121 : p2 < p1
    · refine own_stW (T' := T119) (g' := (mkF m 221 #[.val (.int p0), .val (.int p1), .val (.int p2), .val (.ref w_GREATER), .val (.ref x0_89), .val (.int (1 : Int32)), .val (.int (1 : Int32)), .val (.int (((62 : Int32) &&& (255 : Int32)).toUInt32.toUInt16.toUInt32.toInt32))] [(.double (FP.i2d p2)), (.double (FP.i2d p1)), (.ref w_GREATER)])) (fun t k => ?_) ?_
      · show Steps p.tables e below (T119.setTop (mkF m 76 #[.val (.int p0), .val (.int p1), .val (.int p2), .val (.ref w_GREATER), .val (.ref x0_89), .val (.int (1 : Int32)), .unset, .val (.int (((62 : Int32) &&& (255 : Int32)).toUInt32.toUInt16.toUInt32.toInt32))] [(.int p2), (.int p1)])) t
        refine XS.icmpNo X119.here hx rfl (hb hby at_76) rfl (tlt hc76_121).2.2.2 ?_
        show Steps p.tables e below (T119.setTop (mkF m 79 #[.val (.int p0), .val (.int p1), .val (.int p2), .val (.ref w_GREATER), .val (.ref x0_89), .val (.int (1 : Int32)), .unset, .val (.int (((62 : Int32) &&& (255 : Int32)).toUInt32.toUInt16.toUInt32.toInt32))] [])) t
        refine XS.iconst X119.here hx rfl (hb hby at_79) ?_
        show Steps p.tables e below (T119.setTop (mkF m 80 #[.val (.int p0), .val (.int p1), .val (.int p2), .val (.ref w_GREATER), .val (.ref x0_89), .val (.int (1 : Int32)), .unset, .val (.int (((62 : Int32) &&& (255 : Int32)).toUInt32.toUInt16.toUInt32.toInt32))] [(.int (1 : Int32))])) t
        refine XS.goto X119.here hx rfl (pc0 := 80) (pc' := 84) rfl (hb hby at_80) (by decide) (by decide) ?_
        show Steps p.tables e below (T119.setTop (mkF m 84 #[.val (.int p0), .val (.int p1), .val (.int p2), .val (.ref w_GREATER), .val (.ref x0_89), .val (.int (1 : Int32)), .unset, .val (.int (((62 : Int32) &&& (255 : Int32)).toUInt32.toUInt16.toUInt32.toInt32))] [(.int (1 : Int32))])) t
        refine XS.istore X119.here hx rfl (hb hby at_84) rfl (l' := #[.val (.int p0), .val (.int p1), .val (.int p2), .val (.ref w_GREATER), .val (.ref x0_89), .val (.int (1 : Int32)), .val (.int (1 : Int32)), .val (.int (((62 : Int32) &&& (255 : Int32)).toUInt32.toUInt16.toUInt32.toInt32))]) rfl ?_
        show Steps p.tables e below (T119.setTop (mkF m 86 #[.val (.int p0), .val (.int p1), .val (.int p2), .val (.ref w_GREATER), .val (.ref x0_89), .val (.int (1 : Int32)), .val (.int (1 : Int32)), .val (.int (((62 : Int32) &&& (255 : Int32)).toUInt32.toUInt16.toUInt32.toInt32))] [])) t
        refine XS.goto X119.here hx rfl (pc0 := 86) (pc' := 91) rfl (hb hby at_86) (by decide) (by decide) ?_
        show Steps p.tables e below (T119.setTop (mkF m 91 #[.val (.int p0), .val (.int p1), .val (.int p2), .val (.ref w_GREATER), .val (.ref x0_89), .val (.int (1 : Int32)), .val (.int (1 : Int32)), .val (.int (((62 : Int32) &&& (255 : Int32)).toUInt32.toUInt16.toUInt32.toInt32))] [])) t
        refine XS.goto X119.here hx rfl (pc0 := 91) (pc' := 216) rfl (hb hby at_91) (by decide) (by decide) ?_
        show Steps p.tables e below (T119.setTop (mkF m 216 #[.val (.int p0), .val (.int p1), .val (.int p2), .val (.ref w_GREATER), .val (.ref x0_89), .val (.int (1 : Int32)), .val (.int (1 : Int32)), .val (.int (((62 : Int32) &&& (255 : Int32)).toUInt32.toUInt16.toUInt32.toInt32))] [])) t
        refine XS.aloadN X119.here hx rfl (hb hby at_216) rfl rfl ?_
        show Steps p.tables e below (T119.setTop (mkF m 217 #[.val (.int p0), .val (.int p1), .val (.int p2), .val (.ref w_GREATER), .val (.ref x0_89), .val (.int (1 : Int32)), .val (.int (1 : Int32)), .val (.int (((62 : Int32) &&& (255 : Int32)).toUInt32.toUInt16.toUInt32.toInt32))] [(.ref w_GREATER)])) t
        refine XS.iloadN X119.here hx rfl (hb hby at_217) rfl ?_
        show Steps p.tables e below (T119.setTop (mkF m 218 #[.val (.int p0), .val (.int p1), .val (.int p2), .val (.ref w_GREATER), .val (.ref x0_89), .val (.int (1 : Int32)), .val (.int (1 : Int32)), .val (.int (((62 : Int32) &&& (255 : Int32)).toUInt32.toUInt16.toUInt32.toInt32))] [(.int p1), (.ref w_GREATER)])) t
        refine XS.i2dS X119.here hx rfl (hb hby at_218) rfl rfl ?_
        show Steps p.tables e below (T119.setTop (mkF m 219 #[.val (.int p0), .val (.int p1), .val (.int p2), .val (.ref w_GREATER), .val (.ref x0_89), .val (.int (1 : Int32)), .val (.int (1 : Int32)), .val (.int (((62 : Int32) &&& (255 : Int32)).toUInt32.toUInt16.toUInt32.toInt32))] [(.double (FP.i2d p1)), (.ref w_GREATER)])) t
        refine XS.iloadN X119.here hx rfl (hb hby at_219) rfl ?_
        show Steps p.tables e below (T119.setTop (mkF m 220 #[.val (.int p0), .val (.int p1), .val (.int p2), .val (.ref w_GREATER), .val (.ref x0_89), .val (.int (1 : Int32)), .val (.int (1 : Int32)), .val (.int (((62 : Int32) &&& (255 : Int32)).toUInt32.toUInt16.toUInt32.toInt32))] [(.int p2), (.double (FP.i2d p1)), (.ref w_GREATER)])) t
        refine XS.i2dS X119.here hx rfl (hb hby at_220) rfl rfl ?_
        exact k
      obtain ⟨cq122, kq122, qa122, qb122, qc122⟩ := isOf hZ e119 f102
      obtain ⟨_, _, ⟨T122, L122, k122, n122⟩, -, X122, ⟨Lc122, hQ122, l122, y122, z122⟩, st122⟩ := X119.virtualBack hx (y := (⟨"com/example/meshwatch/meshwatch/Relation", "holds", "(DD)Z"⟩ : MethodName)) (z := (⟨"com/example/meshwatch/meshwatch/Relation", "holds", "(DD)Z"⟩ : MethodName)) hown (mvT hZ (hw _ (List.mem_of_getElem? (i := 65) rfl))) (mvT hZ (hw _ (List.mem_of_getElem? (i := 66) rfl))) (notFace_of_selects (args := #[]) (mvT hZ (hw _ (List.mem_of_getElem? (i := 68) rfl)))) (mvT hZ (hw _ (List.mem_of_getElem? (i := 68) rfl))) (mvT hZ (hw _ (List.mem_of_getElem? (i := 67) rfl))) (by decide) (backOf (W := 0) (rmh2 l Z ar hw [] w_GREATER ((FP.i2d p1)) ((FP.i2d p2)) T89.heap n0 z115 f102 f103) hZ (hw _ (List.mem_of_getElem? (i := 69) rfl)) (hw _ (List.mem_of_getElem? (i := 6) rfl)) (by decide) (by decide)) qa122 qc122 (g := (mkF m 221 #[.val (.int p0), .val (.int p1), .val (.int p2), .val (.ref w_GREATER), .val (.ref x0_89), .val (.int (1 : Int32)), .val (.int (1 : Int32)), .val (.int (((62 : Int32) &&& (255 : Int32)).toUInt32.toUInt16.toUInt32.toInt32))] [(.double (FP.i2d p2)), (.double (FP.i2d p1)), (.ref w_GREATER)])) rfl (by rw [hml]; rfl) (Steps.refl _) (argsL := [(.double (FP.i2d p1)), (.double (FP.i2d p2))]) (rest := []) (lenOf pd0_4 rfl) rfl (by show 2 * 0 + _ ≤ _; exact Nat.le_of_eq rfl) (hb hby at_221) (fun _ _ => ⟨rfl, e119, (by decide : 2 + 0 ≤ _), (by decide : 8 + 0 ≤ _)⟩)
      dsimp only [Pt.U, Pt.locs, Pt.cells, Pt.slots] at X122 l122 y122 z122 st122 hQ122
      subst l122 y122 z122
      obtain ⟨rfl, N122q, e122⟩ := hQ122
      have n123 := Fr.app n120 N122q
      refine own_trW (T' := T122) (g' := (mkF m 224 #[.val (.int p0), .val (.int p1), .val (.int p2), .val (.ref w_GREATER), .val (.ref x0_89), .val (.int (1 : Int32)), .val (.int (1 : Int32)), .val (.int (((62 : Int32) &&& (255 : Int32)).toUInt32.toUInt16.toUInt32.toInt32))] [(.int (own_h2 (FP.dcmp (FP.i2d p1) (FP.i2d p2))))])) st122 ?_
      refine own_stW (T' := T122) (g' := (mkF m 234 #[.val (.int p0), .val (.int p1), .val (.int p2), .val (.ref w_GREATER), .val (.ref x0_89), .val (.int (1 : Int32)), .val (.int (1 : Int32)), .val (.int (((62 : Int32) &&& (255 : Int32)).toUInt32.toUInt16.toUInt32.toInt32))] [(.int (1 : Int32))])) (fun t k => ?_) ?_
      · show Steps p.tables e below (T122.setTop (mkF m 224 #[.val (.int p0), .val (.int p1), .val (.int p2), .val (.ref w_GREATER), .val (.ref x0_89), .val (.int (1 : Int32)), .val (.int (1 : Int32)), .val (.int (((62 : Int32) &&& (255 : Int32)).toUInt32.toUInt16.toUInt32.toInt32))] [(.int (own_h2 (FP.dcmp (FP.i2d p1) (FP.i2d p2))))])) t
        refine XS.iload X122.here hx rfl (hb hby at_224) rfl ?_
        show Steps p.tables e below (T122.setTop (mkF m 226 #[.val (.int p0), .val (.int p1), .val (.int p2), .val (.ref w_GREATER), .val (.ref x0_89), .val (.int (1 : Int32)), .val (.int (1 : Int32)), .val (.int (((62 : Int32) &&& (255 : Int32)).toUInt32.toUInt16.toUInt32.toInt32))] [(.int (1 : Int32)), (.int (own_h2 (FP.dcmp (FP.i2d p1) (FP.i2d p2))))])) t
        refine XS.icmpNo X122.here hx rfl (hb hby at_226) rfl (teq (own_H2t hc76_121 : (own_h2 (FP.dcmp (FP.i2d p1) (FP.i2d p2))) = (1 : Int32))).2 ?_
        show Steps p.tables e below (T122.setTop (mkF m 229 #[.val (.int p0), .val (.int p1), .val (.int p2), .val (.ref w_GREATER), .val (.ref x0_89), .val (.int (1 : Int32)), .val (.int (1 : Int32)), .val (.int (((62 : Int32) &&& (255 : Int32)).toUInt32.toUInt16.toUInt32.toInt32))] [])) t
        refine XS.iconst X122.here hx rfl (hb hby at_229) ?_
        show Steps p.tables e below (T122.setTop (mkF m 230 #[.val (.int p0), .val (.int p1), .val (.int p2), .val (.ref w_GREATER), .val (.ref x0_89), .val (.int (1 : Int32)), .val (.int (1 : Int32)), .val (.int (((62 : Int32) &&& (255 : Int32)).toUInt32.toUInt16.toUInt32.toInt32))] [(.int (1 : Int32))])) t
        refine XS.goto X122.here hx rfl (pc0 := 230) (pc' := 234) rfl (hb hby at_230) (by decide) (by decide) ?_
        exact k
      refine own_retZW X122 hx hlk hS89 (Nat.le_of_eq (congrArg Array.size (Eq.symm e122))) Bd.returns (hb hby at_234) rfl (by decide) (by decide) ?_
      show Q0 Z p0 p1 p2 w_LESS w_LESS_OR_EQUAL w_GREATER w_GREATER_OR_EQUAL w_EQUAL w_NOT_EQUAL w_CS u_SIO h0 n0 (some (.int (1 : Int32))) T122.heap _
      exact ⟨rfl, n123⟩
    · refine own_stW (T' := T119) (g' := (mkF m 221 #[.val (.int p0), .val (.int p1), .val (.int p2), .val (.ref w_GREATER), .val (.ref x0_89), .val (.int (1 : Int32)), .val (.int (0 : Int32)), .val (.int (((62 : Int32) &&& (255 : Int32)).toUInt32.toUInt16.toUInt32.toInt32))] [(.double (FP.i2d p2)), (.double (FP.i2d p1)), (.ref w_GREATER)])) (fun t k => ?_) ?_
      · show Steps p.tables e below (T119.setTop (mkF m 76 #[.val (.int p0), .val (.int p1), .val (.int p2), .val (.ref w_GREATER), .val (.ref x0_89), .val (.int (1 : Int32)), .unset, .val (.int (((62 : Int32) &&& (255 : Int32)).toUInt32.toUInt16.toUInt32.toInt32))] [(.int p2), (.int p1)])) t
        refine XS.icmpYes X119.here hx rfl (pc0 := 76) (pc' := 83) rfl (hb hby at_76) rfl (flt hc76_121).2.2.2 (by decide) (by decide) ?_
        show Steps p.tables e below (T119.setTop (mkF m 83 #[.val (.int p0), .val (.int p1), .val (.int p2), .val (.ref w_GREATER), .val (.ref x0_89), .val (.int (1 : Int32)), .unset, .val (.int (((62 : Int32) &&& (255 : Int32)).toUInt32.toUInt16.toUInt32.toInt32))] [])) t
        refine XS.iconst X119.here hx rfl (hb hby at_83) ?_
        show Steps p.tables e below (T119.setTop (mkF m 84 #[.val (.int p0), .val (.int p1), .val (.int p2), .val (.ref w_GREATER), .val (.ref x0_89), .val (.int (1 : Int32)), .unset, .val (.int (((62 : Int32) &&& (255 : Int32)).toUInt32.toUInt16.toUInt32.toInt32))] [(.int (0 : Int32))])) t
        refine XS.istore X119.here hx rfl (hb hby at_84) rfl (l' := #[.val (.int p0), .val (.int p1), .val (.int p2), .val (.ref w_GREATER), .val (.ref x0_89), .val (.int (1 : Int32)), .val (.int (0 : Int32)), .val (.int (((62 : Int32) &&& (255 : Int32)).toUInt32.toUInt16.toUInt32.toInt32))]) rfl ?_
        show Steps p.tables e below (T119.setTop (mkF m 86 #[.val (.int p0), .val (.int p1), .val (.int p2), .val (.ref w_GREATER), .val (.ref x0_89), .val (.int (1 : Int32)), .val (.int (0 : Int32)), .val (.int (((62 : Int32) &&& (255 : Int32)).toUInt32.toUInt16.toUInt32.toInt32))] [])) t
        refine XS.goto X119.here hx rfl (pc0 := 86) (pc' := 91) rfl (hb hby at_86) (by decide) (by decide) ?_
        show Steps p.tables e below (T119.setTop (mkF m 91 #[.val (.int p0), .val (.int p1), .val (.int p2), .val (.ref w_GREATER), .val (.ref x0_89), .val (.int (1 : Int32)), .val (.int (0 : Int32)), .val (.int (((62 : Int32) &&& (255 : Int32)).toUInt32.toUInt16.toUInt32.toInt32))] [])) t
        refine XS.goto X119.here hx rfl (pc0 := 91) (pc' := 216) rfl (hb hby at_91) (by decide) (by decide) ?_
        show Steps p.tables e below (T119.setTop (mkF m 216 #[.val (.int p0), .val (.int p1), .val (.int p2), .val (.ref w_GREATER), .val (.ref x0_89), .val (.int (1 : Int32)), .val (.int (0 : Int32)), .val (.int (((62 : Int32) &&& (255 : Int32)).toUInt32.toUInt16.toUInt32.toInt32))] [])) t
        refine XS.aloadN X119.here hx rfl (hb hby at_216) rfl rfl ?_
        show Steps p.tables e below (T119.setTop (mkF m 217 #[.val (.int p0), .val (.int p1), .val (.int p2), .val (.ref w_GREATER), .val (.ref x0_89), .val (.int (1 : Int32)), .val (.int (0 : Int32)), .val (.int (((62 : Int32) &&& (255 : Int32)).toUInt32.toUInt16.toUInt32.toInt32))] [(.ref w_GREATER)])) t
        refine XS.iloadN X119.here hx rfl (hb hby at_217) rfl ?_
        show Steps p.tables e below (T119.setTop (mkF m 218 #[.val (.int p0), .val (.int p1), .val (.int p2), .val (.ref w_GREATER), .val (.ref x0_89), .val (.int (1 : Int32)), .val (.int (0 : Int32)), .val (.int (((62 : Int32) &&& (255 : Int32)).toUInt32.toUInt16.toUInt32.toInt32))] [(.int p1), (.ref w_GREATER)])) t
        refine XS.i2dS X119.here hx rfl (hb hby at_218) rfl rfl ?_
        show Steps p.tables e below (T119.setTop (mkF m 219 #[.val (.int p0), .val (.int p1), .val (.int p2), .val (.ref w_GREATER), .val (.ref x0_89), .val (.int (1 : Int32)), .val (.int (0 : Int32)), .val (.int (((62 : Int32) &&& (255 : Int32)).toUInt32.toUInt16.toUInt32.toInt32))] [(.double (FP.i2d p1)), (.ref w_GREATER)])) t
        refine XS.iloadN X119.here hx rfl (hb hby at_219) rfl ?_
        show Steps p.tables e below (T119.setTop (mkF m 220 #[.val (.int p0), .val (.int p1), .val (.int p2), .val (.ref w_GREATER), .val (.ref x0_89), .val (.int (1 : Int32)), .val (.int (0 : Int32)), .val (.int (((62 : Int32) &&& (255 : Int32)).toUInt32.toUInt16.toUInt32.toInt32))] [(.int p2), (.double (FP.i2d p1)), (.ref w_GREATER)])) t
        refine XS.i2dS X119.here hx rfl (hb hby at_220) rfl rfl ?_
        exact k
      obtain ⟨cq124, kq124, qa124, qb124, qc124⟩ := isOf hZ e119 f102
      obtain ⟨_, _, ⟨T124, L124, k124, n124⟩, -, X124, ⟨Lc124, hQ124, l124, y124, z124⟩, st124⟩ := X119.virtualBack hx (y := (⟨"com/example/meshwatch/meshwatch/Relation", "holds", "(DD)Z"⟩ : MethodName)) (z := (⟨"com/example/meshwatch/meshwatch/Relation", "holds", "(DD)Z"⟩ : MethodName)) hown (mvT hZ (hw _ (List.mem_of_getElem? (i := 65) rfl))) (mvT hZ (hw _ (List.mem_of_getElem? (i := 66) rfl))) (notFace_of_selects (args := #[]) (mvT hZ (hw _ (List.mem_of_getElem? (i := 68) rfl)))) (mvT hZ (hw _ (List.mem_of_getElem? (i := 68) rfl))) (mvT hZ (hw _ (List.mem_of_getElem? (i := 67) rfl))) (by decide) (backOf (W := 0) (rmh2 l Z ar hw [] w_GREATER ((FP.i2d p1)) ((FP.i2d p2)) T89.heap n0 z115 f102 f103) hZ (hw _ (List.mem_of_getElem? (i := 69) rfl)) (hw _ (List.mem_of_getElem? (i := 6) rfl)) (by decide) (by decide)) qa124 qc124 (g := (mkF m 221 #[.val (.int p0), .val (.int p1), .val (.int p2), .val (.ref w_GREATER), .val (.ref x0_89), .val (.int (1 : Int32)), .val (.int (0 : Int32)), .val (.int (((62 : Int32) &&& (255 : Int32)).toUInt32.toUInt16.toUInt32.toInt32))] [(.double (FP.i2d p2)), (.double (FP.i2d p1)), (.ref w_GREATER)])) rfl (by rw [hml]; rfl) (Steps.refl _) (argsL := [(.double (FP.i2d p1)), (.double (FP.i2d p2))]) (rest := []) (lenOf pd0_4 rfl) rfl (by show 2 * 0 + _ ≤ _; exact Nat.le_of_eq rfl) (hb hby at_221) (fun _ _ => ⟨rfl, e119, (by decide : 2 + 0 ≤ _), (by decide : 8 + 0 ≤ _)⟩)
      dsimp only [Pt.U, Pt.locs, Pt.cells, Pt.slots] at X124 l124 y124 z124 st124 hQ124
      subst l124 y124 z124
      obtain ⟨rfl, N124q, e124⟩ := hQ124
      have n125 := Fr.app n120 N124q
      refine own_trW (T' := T124) (g' := (mkF m 224 #[.val (.int p0), .val (.int p1), .val (.int p2), .val (.ref w_GREATER), .val (.ref x0_89), .val (.int (1 : Int32)), .val (.int (0 : Int32)), .val (.int (((62 : Int32) &&& (255 : Int32)).toUInt32.toUInt16.toUInt32.toInt32))] [(.int (own_h2 (FP.dcmp (FP.i2d p1) (FP.i2d p2))))])) st124 ?_
      refine own_stW (T' := T124) (g' := (mkF m 234 #[.val (.int p0), .val (.int p1), .val (.int p2), .val (.ref w_GREATER), .val (.ref x0_89), .val (.int (1 : Int32)), .val (.int (0 : Int32)), .val (.int (((62 : Int32) &&& (255 : Int32)).toUInt32.toUInt16.toUInt32.toInt32))] [(.int (1 : Int32))])) (fun t k => ?_) ?_
      · show Steps p.tables e below (T124.setTop (mkF m 224 #[.val (.int p0), .val (.int p1), .val (.int p2), .val (.ref w_GREATER), .val (.ref x0_89), .val (.int (1 : Int32)), .val (.int (0 : Int32)), .val (.int (((62 : Int32) &&& (255 : Int32)).toUInt32.toUInt16.toUInt32.toInt32))] [(.int (own_h2 (FP.dcmp (FP.i2d p1) (FP.i2d p2))))])) t
        refine XS.iload X124.here hx rfl (hb hby at_224) rfl ?_
        show Steps p.tables e below (T124.setTop (mkF m 226 #[.val (.int p0), .val (.int p1), .val (.int p2), .val (.ref w_GREATER), .val (.ref x0_89), .val (.int (1 : Int32)), .val (.int (0 : Int32)), .val (.int (((62 : Int32) &&& (255 : Int32)).toUInt32.toUInt16.toUInt32.toInt32))] [(.int (0 : Int32)), (.int (own_h2 (FP.dcmp (FP.i2d p1) (FP.i2d p2))))])) t
        refine XS.icmpNo X124.here hx rfl (hb hby at_226) rfl (teq (own_H2f hc76_121 : (own_h2 (FP.dcmp (FP.i2d p1) (FP.i2d p2))) = (0 : Int32))).2 ?_
        show Steps p.tables e below (T124.setTop (mkF m 229 #[.val (.int p0), .val (.int p1), .val (.int p2), .val (.ref w_GREATER), .val (.ref x0_89), .val (.int (1 : Int32)), .val (.int (0 : Int32)), .val (.int (((62 : Int32) &&& (255 : Int32)).toUInt32.toUInt16.toUInt32.toInt32))] [])) t
        refine XS.iconst X124.here hx rfl (hb hby at_229) ?_
        show Steps p.tables e below (T124.setTop (mkF m 230 #[.val (.int p0), .val (.int p1), .val (.int p2), .val (.ref w_GREATER), .val (.ref x0_89), .val (.int (1 : Int32)), .val (.int (0 : Int32)), .val (.int (((62 : Int32) &&& (255 : Int32)).toUInt32.toUInt16.toUInt32.toInt32))] [(.int (1 : Int32))])) t
        refine XS.goto X124.here hx rfl (pc0 := 230) (pc' := 234) rfl (hb hby at_230) (by decide) (by decide) ?_
        exact k
      refine own_retZW X124 hx hlk hS89 (Nat.le_of_eq (congrArg Array.size (Eq.symm e124))) Bd.returns (hb hby at_234) rfl (by decide) (by decide) ?_
      show Q0 Z p0 p1 p2 w_LESS w_LESS_OR_EQUAL w_GREATER w_GREATER_OR_EQUAL w_EQUAL w_NOT_EQUAL w_CS u_SIO h0 n0 (some (.int (1 : Int32))) T124.heap _
      exact ⟨rfl, n125⟩
  · rw [hk7_4]
    obtain ⟨_, _, ⟨T126, L126, k126, n126⟩, -, X126, ⟨Lc126, hQ126, l126, y126, z126⟩, st126⟩ := Jvm.LawKit.callS X0 hx (y := (⟨"com/example/meshwatch/meshwatch/RelationSymbolPinLaw", "pick", "(I)Lcom/example/meshwatch/meshwatch/Relation;"⟩ : MethodName)) hown (mvT hZ (hw _ (List.mem_of_getElem? (i := 1) rfl))) (mvT hZ (hw _ (List.mem_of_getElem? (i := 2) rfl))) (mvT hZ (hw _ (List.mem_of_getElem? (i := 3) rfl))) (mvT hZ (hw _ (List.mem_of_getElem? (i := 4) rfl))) (by decide) (backOf (W := 0) (rmk3 l Z ar hw [] w_GREATER_OR_EQUAL h0 n0 Z0 S_GREATER_OR_EQUAL) hZ (hw _ (List.mem_of_getElem? (i := 4) rfl)) (hw _ (List.mem_of_getElem? (i := 3) rfl)) (by decide) (by decide)) (g := (mkF m 7 #[.val (.int p0), .val (.int p1), .val (.int p2), .unset, .unset, .unset, .unset, .unset] [(.int (3 : Int32))])) rfl (by rw [hml]; rfl) (argsL := [(.int (3 : Int32))]) (rest := []) (lenOf pd0_0 rfl) rfl (by show 2 * 0 + _ ≤ _; exact Nat.le_of_eq rfl) (hb hby at_7) (fun _ _ => ⟨rfl, e0, (by decide : 0 + 0 ≤ _), (by decide : 0 + 0 ≤ _)⟩)
    dsimp only [Pt.U, Pt.locs, Pt.cells, Pt.slots] at X126 l126 y126 z126 st126 hQ126
    subst l126 y126 z126
    obtain ⟨rfl, N126q, e126⟩ := hQ126
    have n127 := Fr.app N0 N126q
    refine own_stW (T' := T126) (g' := (mkF m 10 #[.val (.int p0), .val (.int p1), .val (.int p2), .unset, .unset, .unset, .unset, .unset] [(.ref w_GREATER_OR_EQUAL)])) st126 ?_
    refine own_stW (T' := T126) (g' := (mkF m 12 #[.val (.int p0), .val (.int p1), .val (.int p2), .val (.ref w_GREATER_OR_EQUAL), .unset, .unset, .unset, .unset] [(.ref w_GREATER_OR_EQUAL)])) (fun t k => ?_) ?_
    · show Steps p.tables e below (T126.setTop (mkF m 10 #[.val (.int p0), .val (.int p1), .val (.int p2), .unset, .unset, .unset, .unset, .unset] [(.ref w_GREATER_OR_EQUAL)])) t
      refine XS.astoreN X126.here hx rfl (hb hby at_10) rfl rfl (l' := #[.val (.int p0), .val (.int p1), .val (.int p2), .val (.ref w_GREATER_OR_EQUAL), .unset, .unset, .unset, .unset]) rfl ?_
      show Steps p.tables e below (T126.setTop (mkF m 11 #[.val (.int p0), .val (.int p1), .val (.int p2), .val (.ref w_GREATER_OR_EQUAL), .unset, .unset, .unset, .unset] [])) t
      refine XS.aloadN X126.here hx rfl (hb hby at_11) rfl rfl ?_
      exact k
    obtain ⟨cq128, kq128, qa128, qb128, qc128⟩ := isOf hZ e126 E_w_GREATER_OR_EQUAL
    obtain ⟨_, _, ⟨T128, L128, k128, n128⟩, -, X128, hS128, -, ⟨Lc128, hQ128, l128, y128, z128, -⟩, st128⟩ := X126.virtualBackS hx (y := (⟨"com/example/meshwatch/meshwatch/Relation", "symbol", "()Ljava/lang/String;"⟩ : MethodName)) (z := (⟨"com/example/meshwatch/meshwatch/Relation", "symbol", "()Ljava/lang/String;"⟩ : MethodName)) hown (mvT hZ (hw _ (List.mem_of_getElem? (i := 8) rfl))) (mvT hZ (hw _ (List.mem_of_getElem? (i := 9) rfl))) (notFace_of_selects (args := #[]) (mvT hZ (hw _ (List.mem_of_getElem? (i := 11) rfl)))) (mvT hZ (hw _ (List.mem_of_getElem? (i := 11) rfl))) (mvT hZ (hw _ (List.mem_of_getElem? (i := 10) rfl))) (by decide) (backOfSH (s := s) (vm0 := s.vm) (W := 0) (rmy3 l Z ar hw [] w_GREATER_OR_EQUAL h0 n0 Z0 E_w_GREATER_OR_EQUAL F_ordinal_w_GREATER_OR_EQUAL) hZ (hw _ (List.mem_of_getElem? (i := 12) rfl)) (hw _ (List.mem_of_getElem? (i := 6) rfl)) (by decide) (by decide) (own_ew hw) hI) qa128 qc128 (g := (mkF m 12 #[.val (.int p0), .val (.int p1), .val (.int p2), .val (.ref w_GREATER_OR_EQUAL), .unset, .unset, .unset, .unset] [(.ref w_GREATER_OR_EQUAL)])) rfl (by rw [hml]; rfl) (Steps.refl _) (argsL := []) (rest := []) (lenOf pd0_1 rfl) rfl (by show 2 * 0 + _ ≤ _; exact Nat.le_of_eq rfl) (hb hby at_12) (fun _ _ => ⟨rfl, e126, (by decide : 0 + 2 ≤ _), (by decide : 0 + 12 ≤ _)⟩)
    dsimp only [Pt.U, Pt.locs, Pt.cells, Pt.slots] at X128 l128 y128 z128 st128 hQ128
    subst l128 y128 z128
    have hZ : Z.Warmed39 (s.setVm T128.vm).vm := State.Warmed39.trans (t := s) hZ hS128.1
    have hown : (s.setVm T128.vm).vm.findClass "com/example/meshwatch/meshwatch/RelationSymbolPinLaw" = some m.cls := by rw [show (s.setVm T128.vm).vm = T128.vm from rfl, hS128.1.alike.findClass]; exact hown
    obtain ⟨x0_128, x1_128, kx_128, rfl, N128q, K128, f129, f130, f131, f132⟩ := hQ128
    have n133 := Fr.app n127 N128q
    have f134 := own_sta S_LESS K128
    have f135 := E_w_LESS.keep K128
    have f136 := F_ordinal_w_LESS.keep K128 nin0
    have f137 := own_sta S_LESS_OR_EQUAL K128
    have f138 := E_w_LESS_OR_EQUAL.keep K128
    have f139 := F_ordinal_w_LESS_OR_EQUAL.keep K128 nin0
    have f140 := own_sta S_GREATER K128
    have f141 := E_w_GREATER.keep K128
    have f142 := F_ordinal_w_GREATER.keep K128 nin0
    have f143 := own_sta S_GREATER_OR_EQUAL K128
    have f144 := E_w_GREATER_OR_EQUAL.keep K128
    have f145 := F_ordinal_w_GREATER_OR_EQUAL.keep K128 nin0
    have f146 := own_sta S_EQUAL K128
    have f147 := E_w_EQUAL.keep K128
    have f148 := F_ordinal_w_EQUAL.keep K128 nin0
    have f149 := own_sta S_NOT_EQUAL K128
    have f150 := E_w_NOT_EQUAL.keep K128
    have f151 := F_ordinal_w_NOT_EQUAL.keep K128 nin0
    have f152 := own_sta S_COMPACT_STRINGS K128
    have f153 := own_sta S_SIOOBE_FORMATTER K128
    have z154 := Nat.le_trans Z0 K128.1
    have k155 := K0.trans K128 all0
    refine own_trW (T' := T128) (g' := (mkF m 15 #[.val (.int p0), .val (.int p1), .val (.int p2), .val (.ref w_GREATER_OR_EQUAL), .unset, .unset, .unset, .unset] [(.ref x0_128)])) st128 ?_
    refine own_stW (T' := T128) (g' := (mkF m 26 #[.val (.int p0), .val (.int p1), .val (.int p2), .val (.ref w_GREATER_OR_EQUAL), .val (.ref x0_128), .unset, .unset, .unset] [(.ref x0_128)])) (fun t k => ?_) ?_
    · show Steps p.tables e below (T128.setTop (mkF m 15 #[.val (.int p0), .val (.int p1), .val (.int p2), .val (.ref w_GREATER_OR_EQUAL), .unset, .unset, .unset, .unset] [(.ref x0_128)])) t
      refine XS.astore X128.here hx rfl (hb hby at_15) rfl rfl (l' := #[.val (.int p0), .val (.int p1), .val (.int p2), .val (.ref w_GREATER_OR_EQUAL), .val (.ref x0_128), .unset, .unset, .unset]) rfl ?_
      show Steps p.tables e below (T128.setTop (mkF m 17 #[.val (.int p0), .val (.int p1), .val (.int p2), .val (.ref w_GREATER_OR_EQUAL), .val (.ref x0_128), .unset, .unset, .unset] [])) t
      refine XS.aload X128.here hx rfl (hb hby at_17) rfl rfl ?_
      show Steps p.tables e below (T128.setTop (mkF m 19 #[.val (.int p0), .val (.int p1), .val (.int p2), .val (.ref w_GREATER_OR_EQUAL), .val (.ref x0_128), .unset, .unset, .unset] [(.ref x0_128)])) t
      refine XS.ifnonnullYes X128.here hx rfl (pc0 := 19) (pc' := 24) rfl (hb hby at_19) rfl (by decide) (by decide) ?_
      show Steps p.tables e below (T128.setTop (mkF m 24 #[.val (.int p0), .val (.int p1), .val (.int p2), .val (.ref w_GREATER_OR_EQUAL), .val (.ref x0_128), .unset, .unset, .unset] [])) t
      refine XS.aload X128.here hx rfl (hb hby at_24) rfl rfl ?_
      exact k
    obtain ⟨cq156, kq156, qa156, qb156, qc156⟩ := isOf hZ (rfl : T128.heap = T128.heap) f129
    obtain ⟨_, _, ⟨T156, L156, k156, n156⟩, -, X156, ⟨Lc156, hQ156, l156, y156, z156⟩, st156⟩ := X128.virtualBack hx (y := (⟨"java/lang/String", "length", "()I"⟩ : MethodName)) (z := (⟨"java/lang/String", "length", "()I"⟩ : MethodName)) hown (mvT hZ (hw _ (List.mem_of_getElem? (i := 30) rfl))) (mvT hZ (hw _ (List.mem_of_getElem? (i := 31) rfl))) (notFace_of_selects (args := #[]) (mvT hZ (hw _ (List.mem_of_getElem? (i := 33) rfl)))) (mvT hZ (hw _ (List.mem_of_getElem? (i := 33) rfl))) (mvT hZ (hw _ (List.mem_of_getElem? (i := 32) rfl))) (by decide) (backOf (W := 0) (rmlen2 l Z ar hw [] x0_128 x1_128 kx_128 ((62 : Int32)) ((61 : Int32)) w_CS T128.heap n0 z154 f129 f130 f131 f132 f152 h26_h6_hb3) hZ (hw _ (List.mem_of_getElem? (i := 34) rfl)) (hw _ (List.mem_of_getElem? (i := 23) rfl)) (by decide) (by decide)) qa156 qc156 (g := (mkF m 26 #[.val (.int p0), .val (.int p1), .val (.int p2), .val (.ref w_GREATER_OR_EQUAL), .val (.ref x0_128), .unset, .unset, .unset] [(.ref x0_128)])) rfl (by rw [hml]; rfl) (Steps.refl _) (argsL := []) (rest := []) (lenOf pd0_2 rfl) rfl (by show 2 * 0 + _ ≤ _; exact Nat.le_of_eq rfl) (hb hby at_26) (fun _ _ => ⟨rfl, (rfl : T128.heap = T128.heap), (by decide : 2 + 0 ≤ _), (by decide : 12 + 0 ≤ _)⟩)
    dsimp only [Pt.U, Pt.locs, Pt.cells, Pt.slots] at X156 l156 y156 z156 st156 hQ156
    subst l156 y156 z156
    obtain ⟨rfl, N156q, e156⟩ := hQ156
    have n157 := Fr.app n133 N156q
    refine own_trW (T' := T156) (g' := (mkF m 29 #[.val (.int p0), .val (.int p1), .val (.int p2), .val (.ref w_GREATER_OR_EQUAL), .val (.ref x0_128), .unset, .unset, .unset] [(.int (2 : Int32))])) st156 ?_
    refine own_stW (T' := T156) (g' := (mkF m 103 #[.val (.int p0), .val (.int p1), .val (.int p2), .val (.ref w_GREATER_OR_EQUAL), .val (.ref x0_128), .val (.int (2 : Int32)), .unset, .unset] [(.int (1 : Int32)), (.ref x0_128)])) (fun t k => ?_) ?_
    · show Steps p.tables e below (T156.setTop (mkF m 29 #[.val (.int p0), .val (.int p1), .val (.int p2), .val (.ref w_GREATER_OR_EQUAL), .val (.ref x0_128), .unset, .unset, .unset] [(.int (2 : Int32))])) t
      refine XS.istore X156.here hx rfl (hb hby at_29) rfl (l' := #[.val (.int p0), .val (.int p1), .val (.int p2), .val (.ref w_GREATER_OR_EQUAL), .val (.ref x0_128), .val (.int (2 : Int32)), .unset, .unset]) rfl ?_
      show Steps p.tables e below (T156.setTop (mkF m 31 #[.val (.int p0), .val (.int p1), .val (.int p2), .val (.ref w_GREATER_OR_EQUAL), .val (.ref x0_128), .val (.int (2 : Int32)), .unset, .unset] [])) t
      refine XS.iload X156.here hx rfl (hb hby at_31) rfl ?_
      show Steps p.tables e below (T156.setTop (mkF m 33 #[.val (.int p0), .val (.int p1), .val (.int p2), .val (.ref w_GREATER_OR_EQUAL), .val (.ref x0_128), .val (.int (2 : Int32)), .unset, .unset] [(.int (2 : Int32))])) t
      refine XS.iconst X156.here hx rfl (hb hby at_33) ?_
      show Steps p.tables e below (T156.setTop (mkF m 34 #[.val (.int p0), .val (.int p1), .val (.int p2), .val (.ref w_GREATER_OR_EQUAL), .val (.ref x0_128), .val (.int (2 : Int32)), .unset, .unset] [(.int (1 : Int32)), (.int (2 : Int32))])) t
      refine XS.icmpYes X156.here hx rfl (pc0 := 34) (pc' := 94) rfl (hb hby at_34) rfl (by decide) (by decide) (by decide) ?_
      show Steps p.tables e below (T156.setTop (mkF m 94 #[.val (.int p0), .val (.int p1), .val (.int p2), .val (.ref w_GREATER_OR_EQUAL), .val (.ref x0_128), .val (.int (2 : Int32)), .unset, .unset] [])) t
      refine XS.iload X156.here hx rfl (hb hby at_94) rfl ?_
      show Steps p.tables e below (T156.setTop (mkF m 96 #[.val (.int p0), .val (.int p1), .val (.int p2), .val (.ref w_GREATER_OR_EQUAL), .val (.ref x0_128), .val (.int (2 : Int32)), .unset, .unset] [(.int (2 : Int32))])) t
      refine XS.iconst X156.here hx rfl (hb hby at_96) ?_
      show Steps p.tables e below (T156.setTop (mkF m 97 #[.val (.int p0), .val (.int p1), .val (.int p2), .val (.ref w_GREATER_OR_EQUAL), .val (.ref x0_128), .val (.int (2 : Int32)), .unset, .unset] [(.int (2 : Int32)), (.int (2 : Int32))])) t
      refine XS.icmpNo X156.here hx rfl (hb hby at_97) rfl (by decide) ?_
      show Steps p.tables e below (T156.setTop (mkF m 100 #[.val (.int p0), .val (.int p1), .val (.int p2), .val (.ref w_GREATER_OR_EQUAL), .val (.ref x0_128), .val (.int (2 : Int32)), .unset, .unset] [])) t
      refine XS.aload X156.here hx rfl (hb hby at_100) rfl rfl ?_
      show Steps p.tables e below (T156.setTop (mkF m 102 #[.val (.int p0), .val (.int p1), .val (.int p2), .val (.ref w_GREATER_OR_EQUAL), .val (.ref x0_128), .val (.int (2 : Int32)), .unset, .unset] [(.ref x0_128)])) t
      refine XS.iconst X156.here hx rfl (hb hby at_102) ?_
      exact k
    obtain ⟨cq158, kq158, qa158, qb158, qc158⟩ := isOf hZ e156 f129
    obtain ⟨_, _, ⟨T158, L158, k158, n158⟩, -, X158, ⟨Lc158, hQ158, l158, y158, z158⟩, st158⟩ := X156.virtualBack hx (y := (⟨"java/lang/String", "charAt", "(I)C"⟩ : MethodName)) (z := (⟨"java/lang/String", "charAt", "(I)C"⟩ : MethodName)) hown (mvT hZ (hw _ (List.mem_of_getElem? (i := 43) rfl))) (mvT hZ (hw _ (List.mem_of_getElem? (i := 44) rfl))) (notFace_of_selects (args := #[]) (mvT hZ (hw _ (List.mem_of_getElem? (i := 46) rfl)))) (mvT hZ (hw _ (List.mem_of_getElem? (i := 46) rfl))) (mvT hZ (hw _ (List.mem_of_getElem? (i := 45) rfl))) (by decide) (backOf (W := 0) (rmc21 l Z ar hw [] x0_128 x1_128 kx_128 ((62 : Int32)) ((61 : Int32)) w_CS (u_SIO) T128.heap n0 z154 f129 f130 f131 f132 f152 f153 h26_h6_hb3 h40_h12_h3_hu) hZ (hw _ (List.mem_of_getElem? (i := 47) rfl)) (hw _ (List.mem_of_getElem? (i := 23) rfl)) (by decide) (by decide)) qa158 qc158 (g := (mkF m 103 #[.val (.int p0), .val (.int p1), .val (.int p2), .val (.ref w_GREATER_OR_EQUAL), .val (.ref x0_128), .val (.int (2 : Int32)), .unset, .unset] [(.int (1 : Int32)), (.ref x0_128)])) rfl (by rw [hml]; rfl) (Steps.refl _) (argsL := [(.int (1 : Int32))]) (rest := []) (lenOf pd0_3 rfl) rfl (by show 2 * 0 + _ ≤ _; exact Nat.le_of_eq rfl) (hb hby at_103) (fun _ _ => ⟨rfl, e156, (by decide : 2 + 0 ≤ _), (by decide : 12 + 0 ≤ _)⟩)
    dsimp only [Pt.U, Pt.locs, Pt.cells, Pt.slots] at X158 l158 y158 z158 st158 hQ158
    subst l158 y158 z158
    obtain ⟨rfl, N158q, e158⟩ := hQ158
    have n159 := Fr.app n157 N158q
    refine own_trW (T' := T158) (g' := (mkF m 106 #[.val (.int p0), .val (.int p1), .val (.int p2), .val (.ref w_GREATER_OR_EQUAL), .val (.ref x0_128), .val (.int (2 : Int32)), .unset, .unset] [(.int (((61 : Int32) &&& (255 : Int32)).toUInt32.toUInt16.toUInt32.toInt32))])) st158 ?_
    refine own_stW (T' := T158) (g' := (mkF m 116 #[.val (.int p0), .val (.int p1), .val (.int p2), .val (.ref w_GREATER_OR_EQUAL), .val (.ref x0_128), .val (.int (2 : Int32)), .unset, .unset] [(.int (0 : Int32)), (.ref x0_128)])) (fun t k => ?_) ?_
    · show Steps p.tables e below (T158.setTop (mkF m 106 #[.val (.int p0), .val (.int p1), .val (.int p2), .val (.ref w_GREATER_OR_EQUAL), .val (.ref x0_128), .val (.int (2 : Int32)), .unset, .unset] [(.int (((61 : Int32) &&& (255 : Int32)).toUInt32.toUInt16.toUInt32.toInt32))])) t
      refine XS.bipush X158.here hx rfl (hb hby at_106) ?_
      show Steps p.tables e below (T158.setTop (mkF m 108 #[.val (.int p0), .val (.int p1), .val (.int p2), .val (.ref w_GREATER_OR_EQUAL), .val (.ref x0_128), .val (.int (2 : Int32)), .unset, .unset] [(.int (61 : Int32)), (.int (((61 : Int32) &&& (255 : Int32)).toUInt32.toUInt16.toUInt32.toInt32))])) t
      refine XS.icmpYes X158.here hx rfl (pc0 := 108) (pc' := 113) rfl (hb hby at_108) rfl (teq ((by decide) : (((61 : Int32) &&& (255 : Int32)).toUInt32.toUInt16.toUInt32.toInt32) = (61 : Int32))).1 (by decide) (by decide) ?_
      show Steps p.tables e below (T158.setTop (mkF m 113 #[.val (.int p0), .val (.int p1), .val (.int p2), .val (.ref w_GREATER_OR_EQUAL), .val (.ref x0_128), .val (.int (2 : Int32)), .unset, .unset] [])) t
      refine XS.aload X158.here hx rfl (hb hby at_113) rfl rfl ?_
      show Steps p.tables e below (T158.setTop (mkF m 115 #[.val (.int p0), .val (.int p1), .val (.int p2), .val (.ref w_GREATER_OR_EQUAL), .val (.ref x0_128), .val (.int (2 : Int32)), .unset, .unset] [(.ref x0_128)])) t
      refine XS.iconst X158.here hx rfl (hb hby at_115) ?_
      exact k
    obtain ⟨cq160, kq160, qa160, qb160, qc160⟩ := isOf hZ e158 f129
    obtain ⟨_, _, ⟨T160, L160, k160, n160⟩, -, X160, ⟨Lc160, hQ160, l160, y160, z160⟩, st160⟩ := X158.virtualBack hx (y := (⟨"java/lang/String", "charAt", "(I)C"⟩ : MethodName)) (z := (⟨"java/lang/String", "charAt", "(I)C"⟩ : MethodName)) hown (mvT hZ (hw _ (List.mem_of_getElem? (i := 43) rfl))) (mvT hZ (hw _ (List.mem_of_getElem? (i := 44) rfl))) (notFace_of_selects (args := #[]) (mvT hZ (hw _ (List.mem_of_getElem? (i := 46) rfl)))) (mvT hZ (hw _ (List.mem_of_getElem? (i := 46) rfl))) (mvT hZ (hw _ (List.mem_of_getElem? (i := 45) rfl))) (by decide) (backOf (W := 0) (rmc20 l Z ar hw [] x0_128 x1_128 kx_128 ((62 : Int32)) ((61 : Int32)) w_CS (u_SIO) T128.heap n0 z154 f129 f130 f131 f132 f152 f153 h26_h6_hb3 h40_h12_h3_hu) hZ (hw _ (List.mem_of_getElem? (i := 47) rfl)) (hw _ (List.mem_of_getElem? (i := 23) rfl)) (by decide) (by decide)) qa160 qc160 (g := (mkF m 116 #[.val (.int p0), .val (.int p1), .val (.int p2), .val (.ref w_GREATER_OR_EQUAL), .val (.ref x0_128), .val (.int (2 : Int32)), .unset, .unset] [(.int (0 : Int32)), (.ref x0_128)])) rfl (by rw [hml]; rfl) (Steps.refl _) (argsL := [(.int (0 : Int32))]) (rest := []) (lenOf pd0_3 rfl) rfl (by show 2 * 0 + _ ≤ _; exact Nat.le_of_eq rfl) (hb hby at_116) (fun _ _ => ⟨rfl, e158, (by decide : 2 + 0 ≤ _), (by decide : 12 + 0 ≤ _)⟩)
    dsimp only [Pt.U, Pt.locs, Pt.cells, Pt.slots] at X160 l160 y160 z160 st160 hQ160
    subst l160 y160 z160
    obtain ⟨rfl, N160q, e160⟩ := hQ160
    have n161 := Fr.app n159 N160q
    refine own_trW (T' := T160) (g' := (mkF m 119 #[.val (.int p0), .val (.int p1), .val (.int p2), .val (.ref w_GREATER_OR_EQUAL), .val (.ref x0_128), .val (.int (2 : Int32)), .unset, .unset] [(.int (((62 : Int32) &&& (255 : Int32)).toUInt32.toUInt16.toUInt32.toInt32))])) st160 ?_
    refine own_stW (T' := T160) (g' := (mkF m 152 #[.val (.int p0), .val (.int p1), .val (.int p2), .val (.ref w_GREATER_OR_EQUAL), .val (.ref x0_128), .val (.int (2 : Int32)), .unset, .val (.int (((62 : Int32) &&& (255 : Int32)).toUInt32.toUInt16.toUInt32.toInt32))] [(.int p2), (.int p1)])) (fun t k => ?_) ?_
    · show Steps p.tables e below (T160.setTop (mkF m 119 #[.val (.int p0), .val (.int p1), .val (.int p2), .val (.ref w_GREATER_OR_EQUAL), .val (.ref x0_128), .val (.int (2 : Int32)), .unset, .unset] [(.int (((62 : Int32) &&& (255 : Int32)).toUInt32.toUInt16.toUInt32.toInt32))])) t
      refine XS.istore X160.here hx rfl (hb hby at_119) rfl (l' := #[.val (.int p0), .val (.int p1), .val (.int p2), .val (.ref w_GREATER_OR_EQUAL), .val (.ref x0_128), .val (.int (2 : Int32)), .unset, .val (.int (((62 : Int32) &&& (255 : Int32)).toUInt32.toUInt16.toUInt32.toInt32))]) rfl ?_
      show Steps p.tables e below (T160.setTop (mkF m 121 #[.val (.int p0), .val (.int p1), .val (.int p2), .val (.ref w_GREATER_OR_EQUAL), .val (.ref x0_128), .val (.int (2 : Int32)), .unset, .val (.int (((62 : Int32) &&& (255 : Int32)).toUInt32.toUInt16.toUInt32.toInt32))] [])) t
      refine XS.iload X160.here hx rfl (hb hby at_121) rfl ?_
      show Steps p.tables e below (T160.setTop (mkF m 123 #[.val (.int p0), .val (.int p1), .val (.int p2), .val (.ref w_GREATER_OR_EQUAL), .val (.ref x0_128), .val (.int (2 : Int32)), .unset, .val (.int (((62 : Int32) &&& (255 : Int32)).toUInt32.toUInt16.toUInt32.toInt32))] [(.int (((62 : Int32) &&& (255 : Int32)).toUInt32.toUInt16.toUInt32.toInt32))])) t
      refine XS.bipush X160.here hx rfl (hb hby at_123) ?_
      show Steps p.tables e below (T160.setTop (mkF m 125 #[.val (.int p0), .val (.int p1), .val (.int p2), .val (.ref w_GREATER_OR_EQUAL), .val (.ref x0_128), .val (.int (2 : Int32)), .unset, .val (.int (((62 : Int32) &&& (255 : Int32)).toUInt32.toUInt16.toUInt32.toInt32))] [(.int (60 : Int32)), (.int (((62 : Int32) &&& (255 : Int32)).toUInt32.toUInt16.toUInt32.toInt32))])) t
      refine XS.icmpYes X160.here hx rfl (pc0 := 125) (pc' := 143) rfl (hb hby at_125) rfl (feq ((by decide) : ¬ ((((62 : Int32) &&& (255 : Int32)).toUInt32.toUInt16.toUInt32.toInt32) = (60 : Int32)))).2 (by decide) (by decide) ?_
      show Steps p.tables e below (T160.setTop (mkF m 143 #[.val (.int p0), .val (.int p1), .val (.int p2), .val (.ref w_GREATER_OR_EQUAL), .val (.ref x0_128), .val (.int (2 : Int32)), .unset, .val (.int (((62 : Int32) &&& (255 : Int32)).toUInt32.toUInt16.toUInt32.toInt32))] [])) t
      refine XS.iload X160.here hx rfl (hb hby at_143) rfl ?_
      show Steps p.tables e below (T160.setTop (mkF m 145 #[.val (.int p0), .val (.int p1), .val (.int p2), .val (.ref w_GREATER_OR_EQUAL), .val (.ref x0_128), .val (.int (2 : Int32)), .unset, .val (.int (((62 : Int32) &&& (255 : Int32)).toUInt32.toUInt16.toUInt32.toInt32))] [(.int (((62 : Int32) &&& (255 : Int32)).toUInt32.toUInt16.toUInt32.toInt32))])) t
      refine XS.bipush X160.here hx rfl (hb hby at_145) ?_
      show Steps p.tables e below (T160.setTop (mkF m 147 #[.val (.int p0), .val (.int p1), .val (.int p2), .val (.ref w_GREATER_OR_EQUAL), .val (.ref x0_128), .val (.int (2 : Int32)), .unset, .val (.int (((62 : Int32) &&& (255 : Int32)).toUInt32.toUInt16.toUInt32.toInt32))] [(.int (62 : Int32)), (.int (((62 : Int32) &&& (255 : Int32)).toUInt32.toUInt16.toUInt32.toInt32))])) t
      refine XS.icmpNo X160.here hx rfl (hb hby at_147) rfl (teq ((by decide) : (((62 : Int32) &&& (255 : Int32)).toUInt32.toUInt16.toUInt32.toInt32) = (62 : Int32))).2 ?_
      show Steps p.tables e below (T160.setTop (mkF m 150 #[.val (.int p0), .val (.int p1), .val (.int p2), .val (.ref w_GREATER_OR_EQUAL), .val (.ref x0_128), .val (.int (2 : Int32)), .unset, .val (.int (((62 : Int32) &&& (255 : Int32)).toUInt32.toUInt16.toUInt32.toInt32))] [])) t
      refine XS.iloadN X160.here hx rfl (hb hby at_150) rfl ?_
      show Steps p.tables e below (T160.setTop (mkF m 151 #[.val (.int p0), .val (.int p1), .val (.int p2), .val (.ref w_GREATER_OR_EQUAL), .val (.ref x0_128), .val (.int (2 : Int32)), .unset, .val (.int (((62 : Int32) &&& (255 : Int32)).toUInt32.toUInt16.toUInt32.toInt32))] [(.int p1)])) t
      refine XS.iloadN X160.here hx rfl (hb hby at_151) rfl ?_
      exact k
    by_cases hc152_162 : p1 < p2
    · refine own_stW (T' := T160) (g' := (mkF m 221 #[.val (.int p0), .val (.int p1), .val (.int p2), .val (.ref w_GREATER_OR_EQUAL), .val (.ref x0_128), .val (.int (2 : Int32)), .val (.int (0 : Int32)), .val (.int (((62 : Int32) &&& (255 : Int32)).toUInt32.toUInt16.toUInt32.toInt32))] [(.double (FP.i2d p2)), (.double (FP.i2d p1)), (.ref w_GREATER_OR_EQUAL)])) (fun t k => ?_) ?_
      · show Steps p.tables e below (T160.setTop (mkF m 152 #[.val (.int p0), .val (.int p1), .val (.int p2), .val (.ref w_GREATER_OR_EQUAL), .val (.ref x0_128), .val (.int (2 : Int32)), .unset, .val (.int (((62 : Int32) &&& (255 : Int32)).toUInt32.toUInt16.toUInt32.toInt32))] [(.int p2), (.int p1)])) t
        refine XS.icmpYes X160.here hx rfl (pc0 := 152) (pc' := 159) rfl (hb hby at_152) rfl (tlt hc152_162).1 (by decide) (by decide) ?_
        show Steps p.tables e below (T160.setTop (mkF m 159 #[.val (.int p0), .val (.int p1), .val (.int p2), .val (.ref w_GREATER_OR_EQUAL), .val (.ref x0_128), .val (.int (2 : Int32)), .unset, .val (.int (((62 : Int32) &&& (255 : Int32)).toUInt32.toUInt16.toUInt32.toInt32))] [])) t
        refine XS.iconst X160.here hx rfl (hb hby at_159) ?_
        show Steps p.tables e below (T160.setTop (mkF m 160 #[.val (.int p0), .val (.int p1), .val (.int p2), .val (.ref w_GREATER_OR_EQUAL), .val (.ref x0_128), .val (.int (2 : Int32)), .unset, .val (.int (((62 : Int32) &&& (255 : Int32)).toUInt32.toUInt16.toUInt32.toInt32))] [(.int (0 : Int32))])) t
        refine XS.istore X160.here hx rfl (hb hby at_160) rfl (l' := #[.val (.int p0), .val (.int p1), .val (.int p2), .val (.ref w_GREATER_OR_EQUAL), .val (.ref x0_128), .val (.int (2 : Int32)), .val (.int (0 : Int32)), .val (.int (((62 : Int32) &&& (255 : Int32)).toUInt32.toUInt16.toUInt32.toInt32))]) rfl ?_
        show Steps p.tables e below (T160.setTop (mkF m 162 #[.val (.int p0), .val (.int p1), .val (.int p2), .val (.ref w_GREATER_OR_EQUAL), .val (.ref x0_128), .val (.int (2 : Int32)), .val (.int (0 : Int32)), .val (.int (((62 : Int32) &&& (255 : Int32)).toUInt32.toUInt16.toUInt32.toInt32))] [])) t
        refine XS.goto X160.here hx rfl (pc0 := 162) (pc' := 211) rfl (hb hby at_162) (by decide) (by decide) ?_
        show Steps p.tables e below (T160.setTop (mkF m 211 #[.val (.int p0), .val (.int p1), .val (.int p2), .val (.ref w_GREATER_OR_EQUAL), .val (.ref x0_128), .val (.int (2 : Int32)), .val (.int (0 : Int32)), .val (.int (((62 : Int32) &&& (255 : Int32)).toUInt32.toUInt16.toUInt32.toInt32))] [])) t
        refine XS.goto X160.here hx rfl (pc0 := 211) (pc' := 216) rfl (hb hby at_211) (by decide) (by decide) ?_
        show Steps p.tables e below (T160.setTop (mkF m 216 #[.val (.int p0), .val (.int p1), .val (.int p2), .val (.ref w_GREATER_OR_EQUAL), .val (.ref x0_128), .val (.int (2 : Int32)), .val (.int (0 : Int32)), .val (.int (((62 : Int32) &&& (255 : Int32)).toUInt32.toUInt16.toUInt32.toInt32))] [])) t
        refine XS.aloadN X160.here hx rfl (hb hby at_216) rfl rfl ?_
        show Steps p.tables e below (T160.setTop (mkF m 217 #[.val (.int p0), .val (.int p1), .val (.int p2), .val (.ref w_GREATER_OR_EQUAL), .val (.ref x0_128), .val (.int (2 : Int32)), .val (.int (0 : Int32)), .val (.int (((62 : Int32) &&& (255 : Int32)).toUInt32.toUInt16.toUInt32.toInt32))] [(.ref w_GREATER_OR_EQUAL)])) t
        refine XS.iloadN X160.here hx rfl (hb hby at_217) rfl ?_
        show Steps p.tables e below (T160.setTop (mkF m 218 #[.val (.int p0), .val (.int p1), .val (.int p2), .val (.ref w_GREATER_OR_EQUAL), .val (.ref x0_128), .val (.int (2 : Int32)), .val (.int (0 : Int32)), .val (.int (((62 : Int32) &&& (255 : Int32)).toUInt32.toUInt16.toUInt32.toInt32))] [(.int p1), (.ref w_GREATER_OR_EQUAL)])) t
        refine XS.i2dS X160.here hx rfl (hb hby at_218) rfl rfl ?_
        show Steps p.tables e below (T160.setTop (mkF m 219 #[.val (.int p0), .val (.int p1), .val (.int p2), .val (.ref w_GREATER_OR_EQUAL), .val (.ref x0_128), .val (.int (2 : Int32)), .val (.int (0 : Int32)), .val (.int (((62 : Int32) &&& (255 : Int32)).toUInt32.toUInt16.toUInt32.toInt32))] [(.double (FP.i2d p1)), (.ref w_GREATER_OR_EQUAL)])) t
        refine XS.iloadN X160.here hx rfl (hb hby at_219) rfl ?_
        show Steps p.tables e below (T160.setTop (mkF m 220 #[.val (.int p0), .val (.int p1), .val (.int p2), .val (.ref w_GREATER_OR_EQUAL), .val (.ref x0_128), .val (.int (2 : Int32)), .val (.int (0 : Int32)), .val (.int (((62 : Int32) &&& (255 : Int32)).toUInt32.toUInt16.toUInt32.toInt32))] [(.int p2), (.double (FP.i2d p1)), (.ref w_GREATER_OR_EQUAL)])) t
        refine XS.i2dS X160.here hx rfl (hb hby at_220) rfl rfl ?_
        exact k
      obtain ⟨cq163, kq163, qa163, qb163, qc163⟩ := isOf hZ e160 f144
      obtain ⟨_, _, ⟨T163, L163, k163, n163⟩, -, X163, ⟨Lc163, hQ163, l163, y163, z163⟩, st163⟩ := X160.virtualBack hx (y := (⟨"com/example/meshwatch/meshwatch/Relation", "holds", "(DD)Z"⟩ : MethodName)) (z := (⟨"com/example/meshwatch/meshwatch/Relation", "holds", "(DD)Z"⟩ : MethodName)) hown (mvT hZ (hw _ (List.mem_of_getElem? (i := 65) rfl))) (mvT hZ (hw _ (List.mem_of_getElem? (i := 66) rfl))) (notFace_of_selects (args := #[]) (mvT hZ (hw _ (List.mem_of_getElem? (i := 68) rfl)))) (mvT hZ (hw _ (List.mem_of_getElem? (i := 68) rfl))) (mvT hZ (hw _ (List.mem_of_getElem? (i := 67) rfl))) (by decide) (backOf (W := 0) (rmh3 l Z ar hw [] w_GREATER_OR_EQUAL ((FP.i2d p1)) ((FP.i2d p2)) T128.heap n0 z154 f144 f145) hZ (hw _ (List.mem_of_getElem? (i := 69) rfl)) (hw _ (List.mem_of_getElem? (i := 6) rfl)) (by decide) (by decide)) qa163 qc163 (g := (mkF m 221 #[.val (.int p0), .val (.int p1), .val (.int p2), .val (.ref w_GREATER_OR_EQUAL), .val (.ref x0_128), .val (.int (2 : Int32)), .val (.int (0 : Int32)), .val (.int (((62 : Int32) &&& (255 : Int32)).toUInt32.toUInt16.toUInt32.toInt32))] [(.double (FP.i2d p2)), (.double (FP.i2d p1)), (.ref w_GREATER_OR_EQUAL)])) rfl (by rw [hml]; rfl) (Steps.refl _) (argsL := [(.double (FP.i2d p1)), (.double (FP.i2d p2))]) (rest := []) (lenOf pd0_4 rfl) rfl (by show 2 * 0 + _ ≤ _; exact Nat.le_of_eq rfl) (hb hby at_221) (fun _ _ => ⟨rfl, e160, (by decide : 2 + 0 ≤ _), (by decide : 12 + 0 ≤ _)⟩)
      dsimp only [Pt.U, Pt.locs, Pt.cells, Pt.slots] at X163 l163 y163 z163 st163 hQ163
      subst l163 y163 z163
      obtain ⟨rfl, N163q, e163⟩ := hQ163
      have n164 := Fr.app n161 N163q
      refine own_trW (T' := T163) (g' := (mkF m 224 #[.val (.int p0), .val (.int p1), .val (.int p2), .val (.ref w_GREATER_OR_EQUAL), .val (.ref x0_128), .val (.int (2 : Int32)), .val (.int (0 : Int32)), .val (.int (((62 : Int32) &&& (255 : Int32)).toUInt32.toUInt16.toUInt32.toInt32))] [(.int (own_h3 (FP.dcmp (FP.i2d p1) (FP.i2d p2))))])) st163 ?_
      refine own_stW (T' := T163) (g' := (mkF m 234 #[.val (.int p0), .val (.int p1), .val (.int p2), .val (.ref w_GREATER_OR_EQUAL), .val (.ref x0_128), .val (.int (2 : Int32)), .val (.int (0 : Int32)), .val (.int (((62 : Int32) &&& (255 : Int32)).toUInt32.toUInt16.toUInt32.toInt32))] [(.int (1 : Int32))])) (fun t k => ?_) ?_
      · show Steps p.tables e below (T163.setTop (mkF m 224 #[.val (.int p0), .val (.int p1), .val (.int p2), .val (.ref w_GREATER_OR_EQUAL), .val (.ref x0_128), .val (.int (2 : Int32)), .val (.int (0 : Int32)), .val (.int (((62 : Int32) &&& (255 : Int32)).toUInt32.toUInt16.toUInt32.toInt32))] [(.int (own_h3 (FP.dcmp (FP.i2d p1) (FP.i2d p2))))])) t
        refine XS.iload X163.here hx rfl (hb hby at_224) rfl ?_
        show Steps p.tables e below (T163.setTop (mkF m 226 #[.val (.int p0), .val (.int p1), .val (.int p2), .val (.ref w_GREATER_OR_EQUAL), .val (.ref x0_128), .val (.int (2 : Int32)), .val (.int (0 : Int32)), .val (.int (((62 : Int32) &&& (255 : Int32)).toUInt32.toUInt16.toUInt32.toInt32))] [(.int (0 : Int32)), (.int (own_h3 (FP.dcmp (FP.i2d p1) (FP.i2d p2))))])) t
        refine XS.icmpNo X163.here hx rfl (hb hby at_226) rfl (teq (own_H3t hc152_162 : (own_h3 (FP.dcmp (FP.i2d p1) (FP.i2d p2))) = (0 : Int32))).2 ?_
        show Steps p.tables e below (T163.setTop (mkF m 229 #[.val (.int p0), .val (.int p1), .val (.int p2), .val (.ref w_GREATER_OR_EQUAL), .val (.ref x0_128), .val (.int (2 : Int32)), .val (.int (0 : Int32)), .val (.int (((62 : Int32) &&& (255 : Int32)).toUInt32.toUInt16.toUInt32.toInt32))] [])) t
        refine XS.iconst X163.here hx rfl (hb hby at_229) ?_
        show Steps p.tables e below (T163.setTop (mkF m 230 #[.val (.int p0), .val (.int p1), .val (.int p2), .val (.ref w_GREATER_OR_EQUAL), .val (.ref x0_128), .val (.int (2 : Int32)), .val (.int (0 : Int32)), .val (.int (((62 : Int32) &&& (255 : Int32)).toUInt32.toUInt16.toUInt32.toInt32))] [(.int (1 : Int32))])) t
        refine XS.goto X163.here hx rfl (pc0 := 230) (pc' := 234) rfl (hb hby at_230) (by decide) (by decide) ?_
        exact k
      refine own_retZW X163 hx hlk hS128 (Nat.le_of_eq (congrArg Array.size (Eq.symm e163))) Bd.returns (hb hby at_234) rfl (by decide) (by decide) ?_
      show Q0 Z p0 p1 p2 w_LESS w_LESS_OR_EQUAL w_GREATER w_GREATER_OR_EQUAL w_EQUAL w_NOT_EQUAL w_CS u_SIO h0 n0 (some (.int (1 : Int32))) T163.heap _
      exact ⟨rfl, n164⟩
    · refine own_stW (T' := T160) (g' := (mkF m 221 #[.val (.int p0), .val (.int p1), .val (.int p2), .val (.ref w_GREATER_OR_EQUAL), .val (.ref x0_128), .val (.int (2 : Int32)), .val (.int (1 : Int32)), .val (.int (((62 : Int32) &&& (255 : Int32)).toUInt32.toUInt16.toUInt32.toInt32))] [(.double (FP.i2d p2)), (.double (FP.i2d p1)), (.ref w_GREATER_OR_EQUAL)])) (fun t k => ?_) ?_
      · show Steps p.tables e below (T160.setTop (mkF m 152 #[.val (.int p0), .val (.int p1), .val (.int p2), .val (.ref w_GREATER_OR_EQUAL), .val (.ref x0_128), .val (.int (2 : Int32)), .unset, .val (.int (((62 : Int32) &&& (255 : Int32)).toUInt32.toUInt16.toUInt32.toInt32))] [(.int p2), (.int p1)])) t
        refine XS.icmpNo X160.here hx rfl (hb hby at_152) rfl (flt hc152_162).1 ?_
        show Steps p.tables e below (T160.setTop (mkF m 155 #[.val (.int p0), .val (.int p1), .val (.int p2), .val (.ref w_GREATER_OR_EQUAL), .val (.ref x0_128), .val (.int (2 : Int32)), .unset, .val (.int (((62 : Int32) &&& (255 : Int32)).toUInt32.toUInt16.toUInt32.toInt32))] [])) t
        refine XS.iconst X160.here hx rfl (hb hby at_155) ?_
        show Steps p.tables e below (T160.setTop (mkF m 156 #[.val (.int p0), .val (.int p1), .val (.int p2), .val (.ref w_GREATER_OR_EQUAL), .val (.ref x0_128), .val (.int (2 : Int32)), .unset, .val (.int (((62 : Int32) &&& (255 : Int32)).toUInt32.toUInt16.toUInt32.toInt32))] [(.int (1 : Int32))])) t
        refine XS.goto X160.here hx rfl (pc0 := 156) (pc' := 160) rfl (hb hby at_156) (by decide) (by decide) ?_
        show Steps p.tables e below (T160.setTop (mkF m 160 #[.val (.int p0), .val (.int p1), .val (.int p2), .val (.ref w_GREATER_OR_EQUAL), .val (.ref x0_128), .val (.int (2 : Int32)), .unset, .val (.int (((62 : Int32) &&& (255 : Int32)).toUInt32.toUInt16.toUInt32.toInt32))] [(.int (1 : Int32))])) t
        refine XS.istore X160.here hx rfl (hb hby at_160) rfl (l' := #[.val (.int p0), .val (.int p1), .val (.int p2), .val (.ref w_GREATER_OR_EQUAL), .val (.ref x0_128), .val (.int (2 : Int32)), .val (.int (1 : Int32)), .val (.int (((62 : Int32) &&& (255 : Int32)).toUInt32.toUInt16.toUInt32.toInt32))]) rfl ?_
        show Steps p.tables e below (T160.setTop (mkF m 162 #[.val (.int p0), .val (.int p1), .val (.int p2), .val (.ref w_GREATER_OR_EQUAL), .val (.ref x0_128), .val (.int (2 : Int32)), .val (.int (1 : Int32)), .val (.int (((62 : Int32) &&& (255 : Int32)).toUInt32.toUInt16.toUInt32.toInt32))] [])) t
        refine XS.goto X160.here hx rfl (pc0 := 162) (pc' := 211) rfl (hb hby at_162) (by decide) (by decide) ?_
        show Steps p.tables e below (T160.setTop (mkF m 211 #[.val (.int p0), .val (.int p1), .val (.int p2), .val (.ref w_GREATER_OR_EQUAL), .val (.ref x0_128), .val (.int (2 : Int32)), .val (.int (1 : Int32)), .val (.int (((62 : Int32) &&& (255 : Int32)).toUInt32.toUInt16.toUInt32.toInt32))] [])) t
        refine XS.goto X160.here hx rfl (pc0 := 211) (pc' := 216) rfl (hb hby at_211) (by decide) (by decide) ?_
        show Steps p.tables e below (T160.setTop (mkF m 216 #[.val (.int p0), .val (.int p1), .val (.int p2), .val (.ref w_GREATER_OR_EQUAL), .val (.ref x0_128), .val (.int (2 : Int32)), .val (.int (1 : Int32)), .val (.int (((62 : Int32) &&& (255 : Int32)).toUInt32.toUInt16.toUInt32.toInt32))] [])) t
        refine XS.aloadN X160.here hx rfl (hb hby at_216) rfl rfl ?_
        show Steps p.tables e below (T160.setTop (mkF m 217 #[.val (.int p0), .val (.int p1), .val (.int p2), .val (.ref w_GREATER_OR_EQUAL), .val (.ref x0_128), .val (.int (2 : Int32)), .val (.int (1 : Int32)), .val (.int (((62 : Int32) &&& (255 : Int32)).toUInt32.toUInt16.toUInt32.toInt32))] [(.ref w_GREATER_OR_EQUAL)])) t
        refine XS.iloadN X160.here hx rfl (hb hby at_217) rfl ?_
        show Steps p.tables e below (T160.setTop (mkF m 218 #[.val (.int p0), .val (.int p1), .val (.int p2), .val (.ref w_GREATER_OR_EQUAL), .val (.ref x0_128), .val (.int (2 : Int32)), .val (.int (1 : Int32)), .val (.int (((62 : Int32) &&& (255 : Int32)).toUInt32.toUInt16.toUInt32.toInt32))] [(.int p1), (.ref w_GREATER_OR_EQUAL)])) t
        refine XS.i2dS X160.here hx rfl (hb hby at_218) rfl rfl ?_
        show Steps p.tables e below (T160.setTop (mkF m 219 #[.val (.int p0), .val (.int p1), .val (.int p2), .val (.ref w_GREATER_OR_EQUAL), .val (.ref x0_128), .val (.int (2 : Int32)), .val (.int (1 : Int32)), .val (.int (((62 : Int32) &&& (255 : Int32)).toUInt32.toUInt16.toUInt32.toInt32))] [(.double (FP.i2d p1)), (.ref w_GREATER_OR_EQUAL)])) t
        refine XS.iloadN X160.here hx rfl (hb hby at_219) rfl ?_
        show Steps p.tables e below (T160.setTop (mkF m 220 #[.val (.int p0), .val (.int p1), .val (.int p2), .val (.ref w_GREATER_OR_EQUAL), .val (.ref x0_128), .val (.int (2 : Int32)), .val (.int (1 : Int32)), .val (.int (((62 : Int32) &&& (255 : Int32)).toUInt32.toUInt16.toUInt32.toInt32))] [(.int p2), (.double (FP.i2d p1)), (.ref w_GREATER_OR_EQUAL)])) t
        refine XS.i2dS X160.here hx rfl (hb hby at_220) rfl rfl ?_
        exact k
      obtain ⟨cq165, kq165, qa165, qb165, qc165⟩ := isOf hZ e160 f144
      obtain ⟨_, _, ⟨T165, L165, k165, n165⟩, -, X165, ⟨Lc165, hQ165, l165, y165, z165⟩, st165⟩ := X160.virtualBack hx (y := (⟨"com/example/meshwatch/meshwatch/Relation", "holds", "(DD)Z"⟩ : MethodName)) (z := (⟨"com/example/meshwatch/meshwatch/Relation", "holds", "(DD)Z"⟩ : MethodName)) hown (mvT hZ (hw _ (List.mem_of_getElem? (i := 65) rfl))) (mvT hZ (hw _ (List.mem_of_getElem? (i := 66) rfl))) (notFace_of_selects (args := #[]) (mvT hZ (hw _ (List.mem_of_getElem? (i := 68) rfl)))) (mvT hZ (hw _ (List.mem_of_getElem? (i := 68) rfl))) (mvT hZ (hw _ (List.mem_of_getElem? (i := 67) rfl))) (by decide) (backOf (W := 0) (rmh3 l Z ar hw [] w_GREATER_OR_EQUAL ((FP.i2d p1)) ((FP.i2d p2)) T128.heap n0 z154 f144 f145) hZ (hw _ (List.mem_of_getElem? (i := 69) rfl)) (hw _ (List.mem_of_getElem? (i := 6) rfl)) (by decide) (by decide)) qa165 qc165 (g := (mkF m 221 #[.val (.int p0), .val (.int p1), .val (.int p2), .val (.ref w_GREATER_OR_EQUAL), .val (.ref x0_128), .val (.int (2 : Int32)), .val (.int (1 : Int32)), .val (.int (((62 : Int32) &&& (255 : Int32)).toUInt32.toUInt16.toUInt32.toInt32))] [(.double (FP.i2d p2)), (.double (FP.i2d p1)), (.ref w_GREATER_OR_EQUAL)])) rfl (by rw [hml]; rfl) (Steps.refl _) (argsL := [(.double (FP.i2d p1)), (.double (FP.i2d p2))]) (rest := []) (lenOf pd0_4 rfl) rfl (by show 2 * 0 + _ ≤ _; exact Nat.le_of_eq rfl) (hb hby at_221) (fun _ _ => ⟨rfl, e160, (by decide : 2 + 0 ≤ _), (by decide : 12 + 0 ≤ _)⟩)
      dsimp only [Pt.U, Pt.locs, Pt.cells, Pt.slots] at X165 l165 y165 z165 st165 hQ165
      subst l165 y165 z165
      obtain ⟨rfl, N165q, e165⟩ := hQ165
      have n166 := Fr.app n161 N165q
      refine own_trW (T' := T165) (g' := (mkF m 224 #[.val (.int p0), .val (.int p1), .val (.int p2), .val (.ref w_GREATER_OR_EQUAL), .val (.ref x0_128), .val (.int (2 : Int32)), .val (.int (1 : Int32)), .val (.int (((62 : Int32) &&& (255 : Int32)).toUInt32.toUInt16.toUInt32.toInt32))] [(.int (own_h3 (FP.dcmp (FP.i2d p1) (FP.i2d p2))))])) st165 ?_
      refine own_stW (T' := T165) (g' := (mkF m 234 #[.val (.int p0), .val (.int p1), .val (.int p2), .val (.ref w_GREATER_OR_EQUAL), .val (.ref x0_128), .val (.int (2 : Int32)), .val (.int (1 : Int32)), .val (.int (((62 : Int32) &&& (255 : Int32)).toUInt32.toUInt16.toUInt32.toInt32))] [(.int (1 : Int32))])) (fun t k => ?_) ?_
      · show Steps p.tables e below (T165.setTop (mkF m 224 #[.val (.int p0), .val (.int p1), .val (.int p2), .val (.ref w_GREATER_OR_EQUAL), .val (.ref x0_128), .val (.int (2 : Int32)), .val (.int (1 : Int32)), .val (.int (((62 : Int32) &&& (255 : Int32)).toUInt32.toUInt16.toUInt32.toInt32))] [(.int (own_h3 (FP.dcmp (FP.i2d p1) (FP.i2d p2))))])) t
        refine XS.iload X165.here hx rfl (hb hby at_224) rfl ?_
        show Steps p.tables e below (T165.setTop (mkF m 226 #[.val (.int p0), .val (.int p1), .val (.int p2), .val (.ref w_GREATER_OR_EQUAL), .val (.ref x0_128), .val (.int (2 : Int32)), .val (.int (1 : Int32)), .val (.int (((62 : Int32) &&& (255 : Int32)).toUInt32.toUInt16.toUInt32.toInt32))] [(.int (1 : Int32)), (.int (own_h3 (FP.dcmp (FP.i2d p1) (FP.i2d p2))))])) t
        refine XS.icmpNo X165.here hx rfl (hb hby at_226) rfl (teq (own_H3f hc152_162 : (own_h3 (FP.dcmp (FP.i2d p1) (FP.i2d p2))) = (1 : Int32))).2 ?_
        show Steps p.tables e below (T165.setTop (mkF m 229 #[.val (.int p0), .val (.int p1), .val (.int p2), .val (.ref w_GREATER_OR_EQUAL), .val (.ref x0_128), .val (.int (2 : Int32)), .val (.int (1 : Int32)), .val (.int (((62 : Int32) &&& (255 : Int32)).toUInt32.toUInt16.toUInt32.toInt32))] [])) t
        refine XS.iconst X165.here hx rfl (hb hby at_229) ?_
        show Steps p.tables e below (T165.setTop (mkF m 230 #[.val (.int p0), .val (.int p1), .val (.int p2), .val (.ref w_GREATER_OR_EQUAL), .val (.ref x0_128), .val (.int (2 : Int32)), .val (.int (1 : Int32)), .val (.int (((62 : Int32) &&& (255 : Int32)).toUInt32.toUInt16.toUInt32.toInt32))] [(.int (1 : Int32))])) t
        refine XS.goto X165.here hx rfl (pc0 := 230) (pc' := 234) rfl (hb hby at_230) (by decide) (by decide) ?_
        exact k
      refine own_retZW X165 hx hlk hS128 (Nat.le_of_eq (congrArg Array.size (Eq.symm e165))) Bd.returns (hb hby at_234) rfl (by decide) (by decide) ?_
      show Q0 Z p0 p1 p2 w_LESS w_LESS_OR_EQUAL w_GREATER w_GREATER_OR_EQUAL w_EQUAL w_NOT_EQUAL w_CS u_SIO h0 n0 (some (.int (1 : Int32))) T165.heap _
      exact ⟨rfl, n166⟩
  · rw [hk7_5]
    obtain ⟨_, _, ⟨T167, L167, k167, n167⟩, -, X167, ⟨Lc167, hQ167, l167, y167, z167⟩, st167⟩ := Jvm.LawKit.callS X0 hx (y := (⟨"com/example/meshwatch/meshwatch/RelationSymbolPinLaw", "pick", "(I)Lcom/example/meshwatch/meshwatch/Relation;"⟩ : MethodName)) hown (mvT hZ (hw _ (List.mem_of_getElem? (i := 1) rfl))) (mvT hZ (hw _ (List.mem_of_getElem? (i := 2) rfl))) (mvT hZ (hw _ (List.mem_of_getElem? (i := 3) rfl))) (mvT hZ (hw _ (List.mem_of_getElem? (i := 4) rfl))) (by decide) (backOf (W := 0) (rmk4 l Z ar hw [] w_EQUAL h0 n0 Z0 S_EQUAL) hZ (hw _ (List.mem_of_getElem? (i := 4) rfl)) (hw _ (List.mem_of_getElem? (i := 3) rfl)) (by decide) (by decide)) (g := (mkF m 7 #[.val (.int p0), .val (.int p1), .val (.int p2), .unset, .unset, .unset, .unset, .unset] [(.int (4 : Int32))])) rfl (by rw [hml]; rfl) (argsL := [(.int (4 : Int32))]) (rest := []) (lenOf pd0_0 rfl) rfl (by show 2 * 0 + _ ≤ _; exact Nat.le_of_eq rfl) (hb hby at_7) (fun _ _ => ⟨rfl, e0, (by decide : 0 + 0 ≤ _), (by decide : 0 + 0 ≤ _)⟩)
    dsimp only [Pt.U, Pt.locs, Pt.cells, Pt.slots] at X167 l167 y167 z167 st167 hQ167
    subst l167 y167 z167
    obtain ⟨rfl, N167q, e167⟩ := hQ167
    have n168 := Fr.app N0 N167q
    refine own_stW (T' := T167) (g' := (mkF m 10 #[.val (.int p0), .val (.int p1), .val (.int p2), .unset, .unset, .unset, .unset, .unset] [(.ref w_EQUAL)])) st167 ?_
    refine own_stW (T' := T167) (g' := (mkF m 12 #[.val (.int p0), .val (.int p1), .val (.int p2), .val (.ref w_EQUAL), .unset, .unset, .unset, .unset] [(.ref w_EQUAL)])) (fun t k => ?_) ?_
    · show Steps p.tables e below (T167.setTop (mkF m 10 #[.val (.int p0), .val (.int p1), .val (.int p2), .unset, .unset, .unset, .unset, .unset] [(.ref w_EQUAL)])) t
      refine XS.astoreN X167.here hx rfl (hb hby at_10) rfl rfl (l' := #[.val (.int p0), .val (.int p1), .val (.int p2), .val (.ref w_EQUAL), .unset, .unset, .unset, .unset]) rfl ?_
      show Steps p.tables e below (T167.setTop (mkF m 11 #[.val (.int p0), .val (.int p1), .val (.int p2), .val (.ref w_EQUAL), .unset, .unset, .unset, .unset] [])) t
      refine XS.aloadN X167.here hx rfl (hb hby at_11) rfl rfl ?_
      exact k
    obtain ⟨cq169, kq169, qa169, qb169, qc169⟩ := isOf hZ e167 E_w_EQUAL
    obtain ⟨_, _, ⟨T169, L169, k169, n169⟩, -, X169, hS169, -, ⟨Lc169, hQ169, l169, y169, z169, -⟩, st169⟩ := X167.virtualBackS hx (y := (⟨"com/example/meshwatch/meshwatch/Relation", "symbol", "()Ljava/lang/String;"⟩ : MethodName)) (z := (⟨"com/example/meshwatch/meshwatch/Relation", "symbol", "()Ljava/lang/String;"⟩ : MethodName)) hown (mvT hZ (hw _ (List.mem_of_getElem? (i := 8) rfl))) (mvT hZ (hw _ (List.mem_of_getElem? (i := 9) rfl))) (notFace_of_selects (args := #[]) (mvT hZ (hw _ (List.mem_of_getElem? (i := 11) rfl)))) (mvT hZ (hw _ (List.mem_of_getElem? (i := 11) rfl))) (mvT hZ (hw _ (List.mem_of_getElem? (i := 10) rfl))) (by decide) (backOfSH (s := s) (vm0 := s.vm) (W := 0) (rmy4 l Z ar hw [] w_EQUAL h0 n0 Z0 E_w_EQUAL F_ordinal_w_EQUAL) hZ (hw _ (List.mem_of_getElem? (i := 12) rfl)) (hw _ (List.mem_of_getElem? (i := 6) rfl)) (by decide) (by decide) (own_ew hw) hI) qa169 qc169 (g := (mkF m 12 #[.val (.int p0), .val (.int p1), .val (.int p2), .val (.ref w_EQUAL), .unset, .unset, .unset, .unset] [(.ref w_EQUAL)])) rfl (by rw [hml]; rfl) (Steps.refl _) (argsL := []) (rest := []) (lenOf pd0_1 rfl) rfl (by show 2 * 0 + _ ≤ _; exact Nat.le_of_eq rfl) (hb hby at_12) (fun _ _ => ⟨rfl, e167, (by decide : 0 + 2 ≤ _), (by decide : 0 + 12 ≤ _)⟩)
    dsimp only [Pt.U, Pt.locs, Pt.cells, Pt.slots] at X169 l169 y169 z169 st169 hQ169
    subst l169 y169 z169
    have hZ : Z.Warmed39 (s.setVm T169.vm).vm := State.Warmed39.trans (t := s) hZ hS169.1
    have hown : (s.setVm T169.vm).vm.findClass "com/example/meshwatch/meshwatch/RelationSymbolPinLaw" = some m.cls := by rw [show (s.setVm T169.vm).vm = T169.vm from rfl, hS169.1.alike.findClass]; exact hown
    obtain ⟨x0_169, x1_169, kx_169, rfl, N169q, K169, f170, f171, f172, f173⟩ := hQ169
    have n174 := Fr.app n168 N169q
    have f175 := own_sta S_LESS K169
    have f176 := E_w_LESS.keep K169
    have f177 := F_ordinal_w_LESS.keep K169 nin0
    have f178 := own_sta S_LESS_OR_EQUAL K169
    have f179 := E_w_LESS_OR_EQUAL.keep K169
    have f180 := F_ordinal_w_LESS_OR_EQUAL.keep K169 nin0
    have f181 := own_sta S_GREATER K169
    have f182 := E_w_GREATER.keep K169
    have f183 := F_ordinal_w_GREATER.keep K169 nin0
    have f184 := own_sta S_GREATER_OR_EQUAL K169
    have f185 := E_w_GREATER_OR_EQUAL.keep K169
    have f186 := F_ordinal_w_GREATER_OR_EQUAL.keep K169 nin0
    have f187 := own_sta S_EQUAL K169
    have f188 := E_w_EQUAL.keep K169
    have f189 := F_ordinal_w_EQUAL.keep K169 nin0
    have f190 := own_sta S_NOT_EQUAL K169
    have f191 := E_w_NOT_EQUAL.keep K169
    have f192 := F_ordinal_w_NOT_EQUAL.keep K169 nin0
    have f193 := own_sta S_COMPACT_STRINGS K169
    have f194 := own_sta S_SIOOBE_FORMATTER K169
    have z195 := Nat.le_trans Z0 K169.1
    have k196 := K0.trans K169 all0
    refine own_trW (T' := T169) (g' := (mkF m 15 #[.val (.int p0), .val (.int p1), .val (.int p2), .val (.ref w_EQUAL), .unset, .unset, .unset, .unset] [(.ref x0_169)])) st169 ?_
    refine own_stW (T' := T169) (g' := (mkF m 26 #[.val (.int p0), .val (.int p1), .val (.int p2), .val (.ref w_EQUAL), .val (.ref x0_169), .unset, .unset, .unset] [(.ref x0_169)])) (fun t k => ?_) ?_
    · show Steps p.tables e below (T169.setTop (mkF m 15 #[.val (.int p0), .val (.int p1), .val (.int p2), .val (.ref w_EQUAL), .unset, .unset, .unset, .unset] [(.ref x0_169)])) t
      refine XS.astore X169.here hx rfl (hb hby at_15) rfl rfl (l' := #[.val (.int p0), .val (.int p1), .val (.int p2), .val (.ref w_EQUAL), .val (.ref x0_169), .unset, .unset, .unset]) rfl ?_
      show Steps p.tables e below (T169.setTop (mkF m 17 #[.val (.int p0), .val (.int p1), .val (.int p2), .val (.ref w_EQUAL), .val (.ref x0_169), .unset, .unset, .unset] [])) t
      refine XS.aload X169.here hx rfl (hb hby at_17) rfl rfl ?_
      show Steps p.tables e below (T169.setTop (mkF m 19 #[.val (.int p0), .val (.int p1), .val (.int p2), .val (.ref w_EQUAL), .val (.ref x0_169), .unset, .unset, .unset] [(.ref x0_169)])) t
      refine XS.ifnonnullYes X169.here hx rfl (pc0 := 19) (pc' := 24) rfl (hb hby at_19) rfl (by decide) (by decide) ?_
      show Steps p.tables e below (T169.setTop (mkF m 24 #[.val (.int p0), .val (.int p1), .val (.int p2), .val (.ref w_EQUAL), .val (.ref x0_169), .unset, .unset, .unset] [])) t
      refine XS.aload X169.here hx rfl (hb hby at_24) rfl rfl ?_
      exact k
    obtain ⟨cq197, kq197, qa197, qb197, qc197⟩ := isOf hZ (rfl : T169.heap = T169.heap) f170
    obtain ⟨_, _, ⟨T197, L197, k197, n197⟩, -, X197, ⟨Lc197, hQ197, l197, y197, z197⟩, st197⟩ := X169.virtualBack hx (y := (⟨"java/lang/String", "length", "()I"⟩ : MethodName)) (z := (⟨"java/lang/String", "length", "()I"⟩ : MethodName)) hown (mvT hZ (hw _ (List.mem_of_getElem? (i := 30) rfl))) (mvT hZ (hw _ (List.mem_of_getElem? (i := 31) rfl))) (notFace_of_selects (args := #[]) (mvT hZ (hw _ (List.mem_of_getElem? (i := 33) rfl)))) (mvT hZ (hw _ (List.mem_of_getElem? (i := 33) rfl))) (mvT hZ (hw _ (List.mem_of_getElem? (i := 32) rfl))) (by decide) (backOf (W := 0) (rmlen2 l Z ar hw [] x0_169 x1_169 kx_169 ((61 : Int32)) ((61 : Int32)) w_CS T169.heap n0 z195 f170 f171 f172 f173 f193 h26_h6_hb3) hZ (hw _ (List.mem_of_getElem? (i := 34) rfl)) (hw _ (List.mem_of_getElem? (i := 23) rfl)) (by decide) (by decide)) qa197 qc197 (g := (mkF m 26 #[.val (.int p0), .val (.int p1), .val (.int p2), .val (.ref w_EQUAL), .val (.ref x0_169), .unset, .unset, .unset] [(.ref x0_169)])) rfl (by rw [hml]; rfl) (Steps.refl _) (argsL := []) (rest := []) (lenOf pd0_2 rfl) rfl (by show 2 * 0 + _ ≤ _; exact Nat.le_of_eq rfl) (hb hby at_26) (fun _ _ => ⟨rfl, (rfl : T169.heap = T169.heap), (by decide : 2 + 0 ≤ _), (by decide : 12 + 0 ≤ _)⟩)
    dsimp only [Pt.U, Pt.locs, Pt.cells, Pt.slots] at X197 l197 y197 z197 st197 hQ197
    subst l197 y197 z197
    obtain ⟨rfl, N197q, e197⟩ := hQ197
    have n198 := Fr.app n174 N197q
    refine own_trW (T' := T197) (g' := (mkF m 29 #[.val (.int p0), .val (.int p1), .val (.int p2), .val (.ref w_EQUAL), .val (.ref x0_169), .unset, .unset, .unset] [(.int (2 : Int32))])) st197 ?_
    refine own_stW (T' := T197) (g' := (mkF m 103 #[.val (.int p0), .val (.int p1), .val (.int p2), .val (.ref w_EQUAL), .val (.ref x0_169), .val (.int (2 : Int32)), .unset, .unset] [(.int (1 : Int32)), (.ref x0_169)])) (fun t k => ?_) ?_
    · show Steps p.tables e below (T197.setTop (mkF m 29 #[.val (.int p0), .val (.int p1), .val (.int p2), .val (.ref w_EQUAL), .val (.ref x0_169), .unset, .unset, .unset] [(.int (2 : Int32))])) t
      refine XS.istore X197.here hx rfl (hb hby at_29) rfl (l' := #[.val (.int p0), .val (.int p1), .val (.int p2), .val (.ref w_EQUAL), .val (.ref x0_169), .val (.int (2 : Int32)), .unset, .unset]) rfl ?_
      show Steps p.tables e below (T197.setTop (mkF m 31 #[.val (.int p0), .val (.int p1), .val (.int p2), .val (.ref w_EQUAL), .val (.ref x0_169), .val (.int (2 : Int32)), .unset, .unset] [])) t
      refine XS.iload X197.here hx rfl (hb hby at_31) rfl ?_
      show Steps p.tables e below (T197.setTop (mkF m 33 #[.val (.int p0), .val (.int p1), .val (.int p2), .val (.ref w_EQUAL), .val (.ref x0_169), .val (.int (2 : Int32)), .unset, .unset] [(.int (2 : Int32))])) t
      refine XS.iconst X197.here hx rfl (hb hby at_33) ?_
      show Steps p.tables e below (T197.setTop (mkF m 34 #[.val (.int p0), .val (.int p1), .val (.int p2), .val (.ref w_EQUAL), .val (.ref x0_169), .val (.int (2 : Int32)), .unset, .unset] [(.int (1 : Int32)), (.int (2 : Int32))])) t
      refine XS.icmpYes X197.here hx rfl (pc0 := 34) (pc' := 94) rfl (hb hby at_34) rfl (by decide) (by decide) (by decide) ?_
      show Steps p.tables e below (T197.setTop (mkF m 94 #[.val (.int p0), .val (.int p1), .val (.int p2), .val (.ref w_EQUAL), .val (.ref x0_169), .val (.int (2 : Int32)), .unset, .unset] [])) t
      refine XS.iload X197.here hx rfl (hb hby at_94) rfl ?_
      show Steps p.tables e below (T197.setTop (mkF m 96 #[.val (.int p0), .val (.int p1), .val (.int p2), .val (.ref w_EQUAL), .val (.ref x0_169), .val (.int (2 : Int32)), .unset, .unset] [(.int (2 : Int32))])) t
      refine XS.iconst X197.here hx rfl (hb hby at_96) ?_
      show Steps p.tables e below (T197.setTop (mkF m 97 #[.val (.int p0), .val (.int p1), .val (.int p2), .val (.ref w_EQUAL), .val (.ref x0_169), .val (.int (2 : Int32)), .unset, .unset] [(.int (2 : Int32)), (.int (2 : Int32))])) t
      refine XS.icmpNo X197.here hx rfl (hb hby at_97) rfl (by decide) ?_
      show Steps p.tables e below (T197.setTop (mkF m 100 #[.val (.int p0), .val (.int p1), .val (.int p2), .val (.ref w_EQUAL), .val (.ref x0_169), .val (.int (2 : Int32)), .unset, .unset] [])) t
      refine XS.aload X197.here hx rfl (hb hby at_100) rfl rfl ?_
      show Steps p.tables e below (T197.setTop (mkF m 102 #[.val (.int p0), .val (.int p1), .val (.int p2), .val (.ref w_EQUAL), .val (.ref x0_169), .val (.int (2 : Int32)), .unset, .unset] [(.ref x0_169)])) t
      refine XS.iconst X197.here hx rfl (hb hby at_102) ?_
      exact k
    obtain ⟨cq199, kq199, qa199, qb199, qc199⟩ := isOf hZ e197 f170
    obtain ⟨_, _, ⟨T199, L199, k199, n199⟩, -, X199, ⟨Lc199, hQ199, l199, y199, z199⟩, st199⟩ := X197.virtualBack hx (y := (⟨"java/lang/String", "charAt", "(I)C"⟩ : MethodName)) (z := (⟨"java/lang/String", "charAt", "(I)C"⟩ : MethodName)) hown (mvT hZ (hw _ (List.mem_of_getElem? (i := 43) rfl))) (mvT hZ (hw _ (List.mem_of_getElem? (i := 44) rfl))) (notFace_of_selects (args := #[]) (mvT hZ (hw _ (List.mem_of_getElem? (i := 46) rfl)))) (mvT hZ (hw _ (List.mem_of_getElem? (i := 46) rfl))) (mvT hZ (hw _ (List.mem_of_getElem? (i := 45) rfl))) (by decide) (backOf (W := 0) (rmc21 l Z ar hw [] x0_169 x1_169 kx_169 ((61 : Int32)) ((61 : Int32)) w_CS (u_SIO) T169.heap n0 z195 f170 f171 f172 f173 f193 f194 h26_h6_hb3 h40_h12_h3_hu) hZ (hw _ (List.mem_of_getElem? (i := 47) rfl)) (hw _ (List.mem_of_getElem? (i := 23) rfl)) (by decide) (by decide)) qa199 qc199 (g := (mkF m 103 #[.val (.int p0), .val (.int p1), .val (.int p2), .val (.ref w_EQUAL), .val (.ref x0_169), .val (.int (2 : Int32)), .unset, .unset] [(.int (1 : Int32)), (.ref x0_169)])) rfl (by rw [hml]; rfl) (Steps.refl _) (argsL := [(.int (1 : Int32))]) (rest := []) (lenOf pd0_3 rfl) rfl (by show 2 * 0 + _ ≤ _; exact Nat.le_of_eq rfl) (hb hby at_103) (fun _ _ => ⟨rfl, e197, (by decide : 2 + 0 ≤ _), (by decide : 12 + 0 ≤ _)⟩)
    dsimp only [Pt.U, Pt.locs, Pt.cells, Pt.slots] at X199 l199 y199 z199 st199 hQ199
    subst l199 y199 z199
    obtain ⟨rfl, N199q, e199⟩ := hQ199
    have n200 := Fr.app n198 N199q
    refine own_trW (T' := T199) (g' := (mkF m 106 #[.val (.int p0), .val (.int p1), .val (.int p2), .val (.ref w_EQUAL), .val (.ref x0_169), .val (.int (2 : Int32)), .unset, .unset] [(.int (((61 : Int32) &&& (255 : Int32)).toUInt32.toUInt16.toUInt32.toInt32))])) st199 ?_
    refine own_stW (T' := T199) (g' := (mkF m 116 #[.val (.int p0), .val (.int p1), .val (.int p2), .val (.ref w_EQUAL), .val (.ref x0_169), .val (.int (2 : Int32)), .unset, .unset] [(.int (0 : Int32)), (.ref x0_169)])) (fun t k => ?_) ?_
    · show Steps p.tables e below (T199.setTop (mkF m 106 #[.val (.int p0), .val (.int p1), .val (.int p2), .val (.ref w_EQUAL), .val (.ref x0_169), .val (.int (2 : Int32)), .unset, .unset] [(.int (((61 : Int32) &&& (255 : Int32)).toUInt32.toUInt16.toUInt32.toInt32))])) t
      refine XS.bipush X199.here hx rfl (hb hby at_106) ?_
      show Steps p.tables e below (T199.setTop (mkF m 108 #[.val (.int p0), .val (.int p1), .val (.int p2), .val (.ref w_EQUAL), .val (.ref x0_169), .val (.int (2 : Int32)), .unset, .unset] [(.int (61 : Int32)), (.int (((61 : Int32) &&& (255 : Int32)).toUInt32.toUInt16.toUInt32.toInt32))])) t
      refine XS.icmpYes X199.here hx rfl (pc0 := 108) (pc' := 113) rfl (hb hby at_108) rfl (teq ((by decide) : (((61 : Int32) &&& (255 : Int32)).toUInt32.toUInt16.toUInt32.toInt32) = (61 : Int32))).1 (by decide) (by decide) ?_
      show Steps p.tables e below (T199.setTop (mkF m 113 #[.val (.int p0), .val (.int p1), .val (.int p2), .val (.ref w_EQUAL), .val (.ref x0_169), .val (.int (2 : Int32)), .unset, .unset] [])) t
      refine XS.aload X199.here hx rfl (hb hby at_113) rfl rfl ?_
      show Steps p.tables e below (T199.setTop (mkF m 115 #[.val (.int p0), .val (.int p1), .val (.int p2), .val (.ref w_EQUAL), .val (.ref x0_169), .val (.int (2 : Int32)), .unset, .unset] [(.ref x0_169)])) t
      refine XS.iconst X199.here hx rfl (hb hby at_115) ?_
      exact k
    obtain ⟨cq201, kq201, qa201, qb201, qc201⟩ := isOf hZ e199 f170
    obtain ⟨_, _, ⟨T201, L201, k201, n201⟩, -, X201, ⟨Lc201, hQ201, l201, y201, z201⟩, st201⟩ := X199.virtualBack hx (y := (⟨"java/lang/String", "charAt", "(I)C"⟩ : MethodName)) (z := (⟨"java/lang/String", "charAt", "(I)C"⟩ : MethodName)) hown (mvT hZ (hw _ (List.mem_of_getElem? (i := 43) rfl))) (mvT hZ (hw _ (List.mem_of_getElem? (i := 44) rfl))) (notFace_of_selects (args := #[]) (mvT hZ (hw _ (List.mem_of_getElem? (i := 46) rfl)))) (mvT hZ (hw _ (List.mem_of_getElem? (i := 46) rfl))) (mvT hZ (hw _ (List.mem_of_getElem? (i := 45) rfl))) (by decide) (backOf (W := 0) (rmc20 l Z ar hw [] x0_169 x1_169 kx_169 ((61 : Int32)) ((61 : Int32)) w_CS (u_SIO) T169.heap n0 z195 f170 f171 f172 f173 f193 f194 h26_h6_hb3 h40_h12_h3_hu) hZ (hw _ (List.mem_of_getElem? (i := 47) rfl)) (hw _ (List.mem_of_getElem? (i := 23) rfl)) (by decide) (by decide)) qa201 qc201 (g := (mkF m 116 #[.val (.int p0), .val (.int p1), .val (.int p2), .val (.ref w_EQUAL), .val (.ref x0_169), .val (.int (2 : Int32)), .unset, .unset] [(.int (0 : Int32)), (.ref x0_169)])) rfl (by rw [hml]; rfl) (Steps.refl _) (argsL := [(.int (0 : Int32))]) (rest := []) (lenOf pd0_3 rfl) rfl (by show 2 * 0 + _ ≤ _; exact Nat.le_of_eq rfl) (hb hby at_116) (fun _ _ => ⟨rfl, e199, (by decide : 2 + 0 ≤ _), (by decide : 12 + 0 ≤ _)⟩)
    dsimp only [Pt.U, Pt.locs, Pt.cells, Pt.slots] at X201 l201 y201 z201 st201 hQ201
    subst l201 y201 z201
    obtain ⟨rfl, N201q, e201⟩ := hQ201
    have n202 := Fr.app n200 N201q
    refine own_trW (T' := T201) (g' := (mkF m 119 #[.val (.int p0), .val (.int p1), .val (.int p2), .val (.ref w_EQUAL), .val (.ref x0_169), .val (.int (2 : Int32)), .unset, .unset] [(.int (((61 : Int32) &&& (255 : Int32)).toUInt32.toUInt16.toUInt32.toInt32))])) st201 ?_
    refine own_stW (T' := T201) (g' := (mkF m 174 #[.val (.int p0), .val (.int p1), .val (.int p2), .val (.ref w_EQUAL), .val (.ref x0_169), .val (.int (2 : Int32)), .unset, .val (.int (((61 : Int32) &&& (255 : Int32)).toUInt32.toUInt16.toUInt32.toInt32))] [(.int p2), (.int p1)])) (fun t k => ?_) ?_
    · show Steps p.tables e below (T201.setTop (mkF m 119 #[.val (.int p0), .val (.int p1), .val (.int p2), .val (.ref w_EQUAL), .val (.ref x0_169), .val (.int (2 : Int32)), .unset, .unset] [(.int (((61 : Int32) &&& (255 : Int32)).toUInt32.toUInt16.toUInt32.toInt32))])) t
      refine XS.istore X201.here hx rfl (hb hby at_119) rfl (l' := #[.val (.int p0), .val (.int p1), .val (.int p2), .val (.ref w_EQUAL), .val (.ref x0_169), .val (.int (2 : Int32)), .unset, .val (.int (((61 : Int32) &&& (255 : Int32)).toUInt32.toUInt16.toUInt32.toInt32))]) rfl ?_
      show Steps p.tables e below (T201.setTop (mkF m 121 #[.val (.int p0), .val (.int p1), .val (.int p2), .val (.ref w_EQUAL), .val (.ref x0_169), .val (.int (2 : Int32)), .unset, .val (.int (((61 : Int32) &&& (255 : Int32)).toUInt32.toUInt16.toUInt32.toInt32))] [])) t
      refine XS.iload X201.here hx rfl (hb hby at_121) rfl ?_
      show Steps p.tables e below (T201.setTop (mkF m 123 #[.val (.int p0), .val (.int p1), .val (.int p2), .val (.ref w_EQUAL), .val (.ref x0_169), .val (.int (2 : Int32)), .unset, .val (.int (((61 : Int32) &&& (255 : Int32)).toUInt32.toUInt16.toUInt32.toInt32))] [(.int (((61 : Int32) &&& (255 : Int32)).toUInt32.toUInt16.toUInt32.toInt32))])) t
      refine XS.bipush X201.here hx rfl (hb hby at_123) ?_
      show Steps p.tables e below (T201.setTop (mkF m 125 #[.val (.int p0), .val (.int p1), .val (.int p2), .val (.ref w_EQUAL), .val (.ref x0_169), .val (.int (2 : Int32)), .unset, .val (.int (((61 : Int32) &&& (255 : Int32)).toUInt32.toUInt16.toUInt32.toInt32))] [(.int (60 : Int32)), (.int (((61 : Int32) &&& (255 : Int32)).toUInt32.toUInt16.toUInt32.toInt32))])) t
      refine XS.icmpYes X201.here hx rfl (pc0 := 125) (pc' := 143) rfl (hb hby at_125) rfl (feq ((by decide) : ¬ ((((61 : Int32) &&& (255 : Int32)).toUInt32.toUInt16.toUInt32.toInt32) = (60 : Int32)))).2 (by decide) (by decide) ?_
      show Steps p.tables e below (T201.setTop (mkF m 143 #[.val (.int p0), .val (.int p1), .val (.int p2), .val (.ref w_EQUAL), .val (.ref x0_169), .val (.int (2 : Int32)), .unset, .val (.int (((61 : Int32) &&& (255 : Int32)).toUInt32.toUInt16.toUInt32.toInt32))] [])) t
      refine XS.iload X201.here hx rfl (hb hby at_143) rfl ?_
      show Steps p.tables e below (T201.setTop (mkF m 145 #[.val (.int p0), .val (.int p1), .val (.int p2), .val (.ref w_EQUAL), .val (.ref x0_169), .val (.int (2 : Int32)), .unset, .val (.int (((61 : Int32) &&& (255 : Int32)).toUInt32.toUInt16.toUInt32.toInt32))] [(.int (((61 : Int32) &&& (255 : Int32)).toUInt32.toUInt16.toUInt32.toInt32))])) t
      refine XS.bipush X201.here hx rfl (hb hby at_145) ?_
      show Steps p.tables e below (T201.setTop (mkF m 147 #[.val (.int p0), .val (.int p1), .val (.int p2), .val (.ref w_EQUAL), .val (.ref x0_169), .val (.int (2 : Int32)), .unset, .val (.int (((61 : Int32) &&& (255 : Int32)).toUInt32.toUInt16.toUInt32.toInt32))] [(.int (62 : Int32)), (.int (((61 : Int32) &&& (255 : Int32)).toUInt32.toUInt16.toUInt32.toInt32))])) t
      refine XS.icmpYes X201.here hx rfl (pc0 := 147) (pc' := 165) rfl (hb hby at_147) rfl (feq ((by decide) : ¬ ((((61 : Int32) &&& (255 : Int32)).toUInt32.toUInt16.toUInt32.toInt32) = (62 : Int32)))).2 (by decide) (by decide) ?_
      show Steps p.tables e below (T201.setTop (mkF m 165 #[.val (.int p0), .val (.int p1), .val (.int p2), .val (.ref w_EQUAL), .val (.ref x0_169), .val (.int (2 : Int32)), .unset, .val (.int (((61 : Int32) &&& (255 : Int32)).toUInt32.toUInt16.toUInt32.toInt32))] [])) t
      refine XS.iload X201.here hx rfl (hb hby at_165) rfl ?_
      show Steps p.tables e below (T201.setTop (mkF m 167 #[.val (.int p0), .val (.int p1), .val (.int p2), .val (.ref w_EQUAL), .val (.ref x0_169), .val (.int (2 : Int32)), .unset, .val (.int (((61 : Int32) &&& (255 : Int32)).toUInt32.toUInt16.toUInt32.toInt32))] [(.int (((61 : Int32) &&& (255 : Int32)).toUInt32.toUInt16.toUInt32.toInt32))])) t
      refine XS.bipush X201.here hx rfl (hb hby at_167) ?_
      show Steps p.tables e below (T201.setTop (mkF m 169 #[.val (.int p0), .val (.int p1), .val (.int p2), .val (.ref w_EQUAL), .val (.ref x0_169), .val (.int (2 : Int32)), .unset, .val (.int (((61 : Int32) &&& (255 : Int32)).toUInt32.toUInt16.toUInt32.toInt32))] [(.int (61 : Int32)), (.int (((61 : Int32) &&& (255 : Int32)).toUInt32.toUInt16.toUInt32.toInt32))])) t
      refine XS.icmpNo X201.here hx rfl (hb hby at_169) rfl (teq ((by decide) : (((61 : Int32) &&& (255 : Int32)).toUInt32.toUInt16.toUInt32.toInt32) = (61 : Int32))).2 ?_
      show Steps p.tables e below (T201.setTop (mkF m 172 #[.val (.int p0), .val (.int p1), .val (.int p2), .val (.ref w_EQUAL), .val (.ref x0_169), .val (.int (2 : Int32)), .unset, .val (.int (((61 : Int32) &&& (255 : Int32)).toUInt32.toUInt16.toUInt32.toInt32))] [])) t
      refine XS.iloadN X201.here hx rfl (hb hby at_172) rfl ?_
      show Steps p.tables e below (T201.setTop (mkF m 173 #[.val (.int p0), .val (.int p1), .val (.int p2), .val (.ref w_EQUAL), .val (.ref x0_169), .val (.int (2 : Int32)), .unset, .val (.int (((61 : Int32) &&& (255 : Int32)).toUInt32.toUInt16.toUInt32.toInt32))] [(.int p1)])) t
      refine XS.iloadN X201.here hx rfl (hb hby at_173) rfl ?_
      exact k
    by_cases hc174_203 : p1 = p2
    · refine own_stW (T' := T201) (g' := (mkF m 221 #[.val (.int p0), .val (.int p1), .val (.int p2), .val (.ref w_EQUAL), .val (.ref x0_169), .val (.int (2 : Int32)), .val (.int (1 : Int32)), .val (.int (((61 : Int32) &&& (255 : Int32)).toUInt32.toUInt16.toUInt32.toInt32))] [(.double (FP.i2d p2)), (.double (FP.i2d p1)), (.ref w_EQUAL)])) (fun t k => ?_) ?_
      · show Steps p.tables e below (T201.setTop (mkF m 174 #[.val (.int p0), .val (.int p1), .val (.int p2), .val (.ref w_EQUAL), .val (.ref x0_169), .val (.int (2 : Int32)), .unset, .val (.int (((61 : Int32) &&& (255 : Int32)).toUInt32.toUInt16.toUInt32.toInt32))] [(.int p2), (.int p1)])) t
        refine XS.icmpNo X201.here hx rfl (hb hby at_174) rfl (teq hc174_203).2 ?_
        show Steps p.tables e below (T201.setTop (mkF m 177 #[.val (.int p0), .val (.int p1), .val (.int p2), .val (.ref w_EQUAL), .val (.ref x0_169), .val (.int (2 : Int32)), .unset, .val (.int (((61 : Int32) &&& (255 : Int32)).toUInt32.toUInt16.toUInt32.toInt32))] [])) t
        refine XS.iconst X201.here hx rfl (hb hby at_177) ?_
        show Steps p.tables e below (T201.setTop (mkF m 178 #[.val (.int p0), .val (.int p1), .val (.int p2), .val (.ref w_EQUAL), .val (.ref x0_169), .val (.int (2 : Int32)), .unset, .val (.int (((61 : Int32) &&& (255 : Int32)).toUInt32.toUInt16.toUInt32.toInt32))] [(.int (1 : Int32))])) t
        refine XS.goto X201.here hx rfl (pc0 := 178) (pc' := 182) rfl (hb hby at_178) (by decide) (by decide) ?_
        show Steps p.tables e below (T201.setTop (mkF m 182 #[.val (.int p0), .val (.int p1), .val (.int p2), .val (.ref w_EQUAL), .val (.ref x0_169), .val (.int (2 : Int32)), .unset, .val (.int (((61 : Int32) &&& (255 : Int32)).toUInt32.toUInt16.toUInt32.toInt32))] [(.int (1 : Int32))])) t
        refine XS.istore X201.here hx rfl (hb hby at_182) rfl (l' := #[.val (.int p0), .val (.int p1), .val (.int p2), .val (.ref w_EQUAL), .val (.ref x0_169), .val (.int (2 : Int32)), .val (.int (1 : Int32)), .val (.int (((61 : Int32) &&& (255 : Int32)).toUInt32.toUInt16.toUInt32.toInt32))]) rfl ?_
        show Steps p.tables e below (T201.setTop (mkF m 184 #[.val (.int p0), .val (.int p1), .val (.int p2), .val (.ref w_EQUAL), .val (.ref x0_169), .val (.int (2 : Int32)), .val (.int (1 : Int32)), .val (.int (((61 : Int32) &&& (255 : Int32)).toUInt32.toUInt16.toUInt32.toInt32))] [])) t
        refine XS.goto X201.here hx rfl (pc0 := 184) (pc' := 211) rfl (hb hby at_184) (by decide) (by decide) ?_
        show Steps p.tables e below (T201.setTop (mkF m 211 #[.val (.int p0), .val (.int p1), .val (.int p2), .val (.ref w_EQUAL), .val (.ref x0_169), .val (.int (2 : Int32)), .val (.int (1 : Int32)), .val (.int (((61 : Int32) &&& (255 : Int32)).toUInt32.toUInt16.toUInt32.toInt32))] [])) t
        refine XS.goto X201.here hx rfl (pc0 := 211) (pc' := 216) rfl (hb hby at_211) (by decide) (by decide) ?_
        show Steps p.tables e below (T201.setTop (mkF m 216 #[.val (.int p0), .val (.int p1), .val (.int p2), .val (.ref w_EQUAL), .val (.ref x0_169), .val (.int (2 : Int32)), .val (.int (1 : Int32)), .val (.int (((61 : Int32) &&& (255 : Int32)).toUInt32.toUInt16.toUInt32.toInt32))] [])) t
        refine XS.aloadN X201.here hx rfl (hb hby at_216) rfl rfl ?_
        show Steps p.tables e below (T201.setTop (mkF m 217 #[.val (.int p0), .val (.int p1), .val (.int p2), .val (.ref w_EQUAL), .val (.ref x0_169), .val (.int (2 : Int32)), .val (.int (1 : Int32)), .val (.int (((61 : Int32) &&& (255 : Int32)).toUInt32.toUInt16.toUInt32.toInt32))] [(.ref w_EQUAL)])) t
        refine XS.iloadN X201.here hx rfl (hb hby at_217) rfl ?_
        show Steps p.tables e below (T201.setTop (mkF m 218 #[.val (.int p0), .val (.int p1), .val (.int p2), .val (.ref w_EQUAL), .val (.ref x0_169), .val (.int (2 : Int32)), .val (.int (1 : Int32)), .val (.int (((61 : Int32) &&& (255 : Int32)).toUInt32.toUInt16.toUInt32.toInt32))] [(.int p1), (.ref w_EQUAL)])) t
        refine XS.i2dS X201.here hx rfl (hb hby at_218) rfl rfl ?_
        show Steps p.tables e below (T201.setTop (mkF m 219 #[.val (.int p0), .val (.int p1), .val (.int p2), .val (.ref w_EQUAL), .val (.ref x0_169), .val (.int (2 : Int32)), .val (.int (1 : Int32)), .val (.int (((61 : Int32) &&& (255 : Int32)).toUInt32.toUInt16.toUInt32.toInt32))] [(.double (FP.i2d p1)), (.ref w_EQUAL)])) t
        refine XS.iloadN X201.here hx rfl (hb hby at_219) rfl ?_
        show Steps p.tables e below (T201.setTop (mkF m 220 #[.val (.int p0), .val (.int p1), .val (.int p2), .val (.ref w_EQUAL), .val (.ref x0_169), .val (.int (2 : Int32)), .val (.int (1 : Int32)), .val (.int (((61 : Int32) &&& (255 : Int32)).toUInt32.toUInt16.toUInt32.toInt32))] [(.int p2), (.double (FP.i2d p1)), (.ref w_EQUAL)])) t
        refine XS.i2dS X201.here hx rfl (hb hby at_220) rfl rfl ?_
        exact k
      obtain ⟨cq204, kq204, qa204, qb204, qc204⟩ := isOf hZ e201 f188
      obtain ⟨_, _, ⟨T204, L204, k204, n204⟩, -, X204, ⟨Lc204, hQ204, l204, y204, z204⟩, st204⟩ := X201.virtualBack hx (y := (⟨"com/example/meshwatch/meshwatch/Relation", "holds", "(DD)Z"⟩ : MethodName)) (z := (⟨"com/example/meshwatch/meshwatch/Relation", "holds", "(DD)Z"⟩ : MethodName)) hown (mvT hZ (hw _ (List.mem_of_getElem? (i := 65) rfl))) (mvT hZ (hw _ (List.mem_of_getElem? (i := 66) rfl))) (notFace_of_selects (args := #[]) (mvT hZ (hw _ (List.mem_of_getElem? (i := 68) rfl)))) (mvT hZ (hw _ (List.mem_of_getElem? (i := 68) rfl))) (mvT hZ (hw _ (List.mem_of_getElem? (i := 67) rfl))) (by decide) (backOf (W := 0) (rmh4 l Z ar hw [] w_EQUAL ((FP.i2d p1)) ((FP.i2d p2)) T169.heap n0 z195 f188 f189) hZ (hw _ (List.mem_of_getElem? (i := 69) rfl)) (hw _ (List.mem_of_getElem? (i := 6) rfl)) (by decide) (by decide)) qa204 qc204 (g := (mkF m 221 #[.val (.int p0), .val (.int p1), .val (.int p2), .val (.ref w_EQUAL), .val (.ref x0_169), .val (.int (2 : Int32)), .val (.int (1 : Int32)), .val (.int (((61 : Int32) &&& (255 : Int32)).toUInt32.toUInt16.toUInt32.toInt32))] [(.double (FP.i2d p2)), (.double (FP.i2d p1)), (.ref w_EQUAL)])) rfl (by rw [hml]; rfl) (Steps.refl _) (argsL := [(.double (FP.i2d p1)), (.double (FP.i2d p2))]) (rest := []) (lenOf pd0_4 rfl) rfl (by show 2 * 0 + _ ≤ _; exact Nat.le_of_eq rfl) (hb hby at_221) (fun _ _ => ⟨rfl, e201, (by decide : 2 + 0 ≤ _), (by decide : 12 + 0 ≤ _)⟩)
      dsimp only [Pt.U, Pt.locs, Pt.cells, Pt.slots] at X204 l204 y204 z204 st204 hQ204
      subst l204 y204 z204
      obtain ⟨rfl, N204q, e204⟩ := hQ204
      have n205 := Fr.app n202 N204q
      refine own_trW (T' := T204) (g' := (mkF m 224 #[.val (.int p0), .val (.int p1), .val (.int p2), .val (.ref w_EQUAL), .val (.ref x0_169), .val (.int (2 : Int32)), .val (.int (1 : Int32)), .val (.int (((61 : Int32) &&& (255 : Int32)).toUInt32.toUInt16.toUInt32.toInt32))] [(.int (own_h4 (FP.dcmp (FP.i2d p1) (FP.i2d p2))))])) st204 ?_
      refine own_stW (T' := T204) (g' := (mkF m 234 #[.val (.int p0), .val (.int p1), .val (.int p2), .val (.ref w_EQUAL), .val (.ref x0_169), .val (.int (2 : Int32)), .val (.int (1 : Int32)), .val (.int (((61 : Int32) &&& (255 : Int32)).toUInt32.toUInt16.toUInt32.toInt32))] [(.int (1 : Int32))])) (fun t k => ?_) ?_
      · show Steps p.tables e below (T204.setTop (mkF m 224 #[.val (.int p0), .val (.int p1), .val (.int p2), .val (.ref w_EQUAL), .val (.ref x0_169), .val (.int (2 : Int32)), .val (.int (1 : Int32)), .val (.int (((61 : Int32) &&& (255 : Int32)).toUInt32.toUInt16.toUInt32.toInt32))] [(.int (own_h4 (FP.dcmp (FP.i2d p1) (FP.i2d p2))))])) t
        refine XS.iload X204.here hx rfl (hb hby at_224) rfl ?_
        show Steps p.tables e below (T204.setTop (mkF m 226 #[.val (.int p0), .val (.int p1), .val (.int p2), .val (.ref w_EQUAL), .val (.ref x0_169), .val (.int (2 : Int32)), .val (.int (1 : Int32)), .val (.int (((61 : Int32) &&& (255 : Int32)).toUInt32.toUInt16.toUInt32.toInt32))] [(.int (1 : Int32)), (.int (own_h4 (FP.dcmp (FP.i2d p1) (FP.i2d p2))))])) t
        refine XS.icmpNo X204.here hx rfl (hb hby at_226) rfl (teq (own_H4t hc174_203 : (own_h4 (FP.dcmp (FP.i2d p1) (FP.i2d p2))) = (1 : Int32))).2 ?_
        show Steps p.tables e below (T204.setTop (mkF m 229 #[.val (.int p0), .val (.int p1), .val (.int p2), .val (.ref w_EQUAL), .val (.ref x0_169), .val (.int (2 : Int32)), .val (.int (1 : Int32)), .val (.int (((61 : Int32) &&& (255 : Int32)).toUInt32.toUInt16.toUInt32.toInt32))] [])) t
        refine XS.iconst X204.here hx rfl (hb hby at_229) ?_
        show Steps p.tables e below (T204.setTop (mkF m 230 #[.val (.int p0), .val (.int p1), .val (.int p2), .val (.ref w_EQUAL), .val (.ref x0_169), .val (.int (2 : Int32)), .val (.int (1 : Int32)), .val (.int (((61 : Int32) &&& (255 : Int32)).toUInt32.toUInt16.toUInt32.toInt32))] [(.int (1 : Int32))])) t
        refine XS.goto X204.here hx rfl (pc0 := 230) (pc' := 234) rfl (hb hby at_230) (by decide) (by decide) ?_
        exact k
      refine own_retZW X204 hx hlk hS169 (Nat.le_of_eq (congrArg Array.size (Eq.symm e204))) Bd.returns (hb hby at_234) rfl (by decide) (by decide) ?_
      show Q0 Z p0 p1 p2 w_LESS w_LESS_OR_EQUAL w_GREATER w_GREATER_OR_EQUAL w_EQUAL w_NOT_EQUAL w_CS u_SIO h0 n0 (some (.int (1 : Int32))) T204.heap _
      exact ⟨rfl, n205⟩
    · refine own_stW (T' := T201) (g' := (mkF m 221 #[.val (.int p0), .val (.int p1), .val (.int p2), .val (.ref w_EQUAL), .val (.ref x0_169), .val (.int (2 : Int32)), .val (.int (0 : Int32)), .val (.int (((61 : Int32) &&& (255 : Int32)).toUInt32.toUInt16.toUInt32.toInt32))] [(.double (FP.i2d p2)), (.double (FP.i2d p1)), (.ref w_EQUAL)])) (fun t k => ?_) ?_
      · show Steps p.tables e below (T201.setTop (mkF m 174 #[.val (.int p0), .val (.int p1), .val (.int p2), .val (.ref w_EQUAL), .val (.ref x0_169), .val (.int (2 : Int32)), .unset, .val (.int (((61 : Int32) &&& (255 : Int32)).toUInt32.toUInt16.toUInt32.toInt32))] [(.int p2), (.int p1)])) t
        refine XS.icmpYes X201.here hx rfl (pc0 := 174) (pc' := 181) rfl (hb hby at_174) rfl (feq hc174_203).2 (by decide) (by decide) ?_
        show Steps p.tables e below (T201.setTop (mkF m 181 #[.val (.int p0), .val (.int p1), .val (.int p2), .val (.ref w_EQUAL), .val (.ref x0_169), .val (.int (2 : Int32)), .unset, .val (.int (((61 : Int32) &&& (255 : Int32)).toUInt32.toUInt16.toUInt32.toInt32))] [])) t
        refine XS.iconst X201.here hx rfl (hb hby at_181) ?_
        show Steps p.tables e below (T201.setTop (mkF m 182 #[.val (.int p0), .val (.int p1), .val (.int p2), .val (.ref w_EQUAL), .val (.ref x0_169), .val (.int (2 : Int32)), .unset, .val (.int (((61 : Int32) &&& (255 : Int32)).toUInt32.toUInt16.toUInt32.toInt32))] [(.int (0 : Int32))])) t
        refine XS.istore X201.here hx rfl (hb hby at_182) rfl (l' := #[.val (.int p0), .val (.int p1), .val (.int p2), .val (.ref w_EQUAL), .val (.ref x0_169), .val (.int (2 : Int32)), .val (.int (0 : Int32)), .val (.int (((61 : Int32) &&& (255 : Int32)).toUInt32.toUInt16.toUInt32.toInt32))]) rfl ?_
        show Steps p.tables e below (T201.setTop (mkF m 184 #[.val (.int p0), .val (.int p1), .val (.int p2), .val (.ref w_EQUAL), .val (.ref x0_169), .val (.int (2 : Int32)), .val (.int (0 : Int32)), .val (.int (((61 : Int32) &&& (255 : Int32)).toUInt32.toUInt16.toUInt32.toInt32))] [])) t
        refine XS.goto X201.here hx rfl (pc0 := 184) (pc' := 211) rfl (hb hby at_184) (by decide) (by decide) ?_
        show Steps p.tables e below (T201.setTop (mkF m 211 #[.val (.int p0), .val (.int p1), .val (.int p2), .val (.ref w_EQUAL), .val (.ref x0_169), .val (.int (2 : Int32)), .val (.int (0 : Int32)), .val (.int (((61 : Int32) &&& (255 : Int32)).toUInt32.toUInt16.toUInt32.toInt32))] [])) t
        refine XS.goto X201.here hx rfl (pc0 := 211) (pc' := 216) rfl (hb hby at_211) (by decide) (by decide) ?_
        show Steps p.tables e below (T201.setTop (mkF m 216 #[.val (.int p0), .val (.int p1), .val (.int p2), .val (.ref w_EQUAL), .val (.ref x0_169), .val (.int (2 : Int32)), .val (.int (0 : Int32)), .val (.int (((61 : Int32) &&& (255 : Int32)).toUInt32.toUInt16.toUInt32.toInt32))] [])) t
        refine XS.aloadN X201.here hx rfl (hb hby at_216) rfl rfl ?_
        show Steps p.tables e below (T201.setTop (mkF m 217 #[.val (.int p0), .val (.int p1), .val (.int p2), .val (.ref w_EQUAL), .val (.ref x0_169), .val (.int (2 : Int32)), .val (.int (0 : Int32)), .val (.int (((61 : Int32) &&& (255 : Int32)).toUInt32.toUInt16.toUInt32.toInt32))] [(.ref w_EQUAL)])) t
        refine XS.iloadN X201.here hx rfl (hb hby at_217) rfl ?_
        show Steps p.tables e below (T201.setTop (mkF m 218 #[.val (.int p0), .val (.int p1), .val (.int p2), .val (.ref w_EQUAL), .val (.ref x0_169), .val (.int (2 : Int32)), .val (.int (0 : Int32)), .val (.int (((61 : Int32) &&& (255 : Int32)).toUInt32.toUInt16.toUInt32.toInt32))] [(.int p1), (.ref w_EQUAL)])) t
        refine XS.i2dS X201.here hx rfl (hb hby at_218) rfl rfl ?_
        show Steps p.tables e below (T201.setTop (mkF m 219 #[.val (.int p0), .val (.int p1), .val (.int p2), .val (.ref w_EQUAL), .val (.ref x0_169), .val (.int (2 : Int32)), .val (.int (0 : Int32)), .val (.int (((61 : Int32) &&& (255 : Int32)).toUInt32.toUInt16.toUInt32.toInt32))] [(.double (FP.i2d p1)), (.ref w_EQUAL)])) t
        refine XS.iloadN X201.here hx rfl (hb hby at_219) rfl ?_
        show Steps p.tables e below (T201.setTop (mkF m 220 #[.val (.int p0), .val (.int p1), .val (.int p2), .val (.ref w_EQUAL), .val (.ref x0_169), .val (.int (2 : Int32)), .val (.int (0 : Int32)), .val (.int (((61 : Int32) &&& (255 : Int32)).toUInt32.toUInt16.toUInt32.toInt32))] [(.int p2), (.double (FP.i2d p1)), (.ref w_EQUAL)])) t
        refine XS.i2dS X201.here hx rfl (hb hby at_220) rfl rfl ?_
        exact k
      obtain ⟨cq206, kq206, qa206, qb206, qc206⟩ := isOf hZ e201 f188
      obtain ⟨_, _, ⟨T206, L206, k206, n206⟩, -, X206, ⟨Lc206, hQ206, l206, y206, z206⟩, st206⟩ := X201.virtualBack hx (y := (⟨"com/example/meshwatch/meshwatch/Relation", "holds", "(DD)Z"⟩ : MethodName)) (z := (⟨"com/example/meshwatch/meshwatch/Relation", "holds", "(DD)Z"⟩ : MethodName)) hown (mvT hZ (hw _ (List.mem_of_getElem? (i := 65) rfl))) (mvT hZ (hw _ (List.mem_of_getElem? (i := 66) rfl))) (notFace_of_selects (args := #[]) (mvT hZ (hw _ (List.mem_of_getElem? (i := 68) rfl)))) (mvT hZ (hw _ (List.mem_of_getElem? (i := 68) rfl))) (mvT hZ (hw _ (List.mem_of_getElem? (i := 67) rfl))) (by decide) (backOf (W := 0) (rmh4 l Z ar hw [] w_EQUAL ((FP.i2d p1)) ((FP.i2d p2)) T169.heap n0 z195 f188 f189) hZ (hw _ (List.mem_of_getElem? (i := 69) rfl)) (hw _ (List.mem_of_getElem? (i := 6) rfl)) (by decide) (by decide)) qa206 qc206 (g := (mkF m 221 #[.val (.int p0), .val (.int p1), .val (.int p2), .val (.ref w_EQUAL), .val (.ref x0_169), .val (.int (2 : Int32)), .val (.int (0 : Int32)), .val (.int (((61 : Int32) &&& (255 : Int32)).toUInt32.toUInt16.toUInt32.toInt32))] [(.double (FP.i2d p2)), (.double (FP.i2d p1)), (.ref w_EQUAL)])) rfl (by rw [hml]; rfl) (Steps.refl _) (argsL := [(.double (FP.i2d p1)), (.double (FP.i2d p2))]) (rest := []) (lenOf pd0_4 rfl) rfl (by show 2 * 0 + _ ≤ _; exact Nat.le_of_eq rfl) (hb hby at_221) (fun _ _ => ⟨rfl, e201, (by decide : 2 + 0 ≤ _), (by decide : 12 + 0 ≤ _)⟩)
      dsimp only [Pt.U, Pt.locs, Pt.cells, Pt.slots] at X206 l206 y206 z206 st206 hQ206
      subst l206 y206 z206
      obtain ⟨rfl, N206q, e206⟩ := hQ206
      have n207 := Fr.app n202 N206q
      refine own_trW (T' := T206) (g' := (mkF m 224 #[.val (.int p0), .val (.int p1), .val (.int p2), .val (.ref w_EQUAL), .val (.ref x0_169), .val (.int (2 : Int32)), .val (.int (0 : Int32)), .val (.int (((61 : Int32) &&& (255 : Int32)).toUInt32.toUInt16.toUInt32.toInt32))] [(.int (own_h4 (FP.dcmp (FP.i2d p1) (FP.i2d p2))))])) st206 ?_
      refine own_stW (T' := T206) (g' := (mkF m 234 #[.val (.int p0), .val (.int p1), .val (.int p2), .val (.ref w_EQUAL), .val (.ref x0_169), .val (.int (2 : Int32)), .val (.int (0 : Int32)), .val (.int (((61 : Int32) &&& (255 : Int32)).toUInt32.toUInt16.toUInt32.toInt32))] [(.int (1 : Int32))])) (fun t k => ?_) ?_
      · show Steps p.tables e below (T206.setTop (mkF m 224 #[.val (.int p0), .val (.int p1), .val (.int p2), .val (.ref w_EQUAL), .val (.ref x0_169), .val (.int (2 : Int32)), .val (.int (0 : Int32)), .val (.int (((61 : Int32) &&& (255 : Int32)).toUInt32.toUInt16.toUInt32.toInt32))] [(.int (own_h4 (FP.dcmp (FP.i2d p1) (FP.i2d p2))))])) t
        refine XS.iload X206.here hx rfl (hb hby at_224) rfl ?_
        show Steps p.tables e below (T206.setTop (mkF m 226 #[.val (.int p0), .val (.int p1), .val (.int p2), .val (.ref w_EQUAL), .val (.ref x0_169), .val (.int (2 : Int32)), .val (.int (0 : Int32)), .val (.int (((61 : Int32) &&& (255 : Int32)).toUInt32.toUInt16.toUInt32.toInt32))] [(.int (0 : Int32)), (.int (own_h4 (FP.dcmp (FP.i2d p1) (FP.i2d p2))))])) t
        refine XS.icmpNo X206.here hx rfl (hb hby at_226) rfl (teq (own_H4f hc174_203 : (own_h4 (FP.dcmp (FP.i2d p1) (FP.i2d p2))) = (0 : Int32))).2 ?_
        show Steps p.tables e below (T206.setTop (mkF m 229 #[.val (.int p0), .val (.int p1), .val (.int p2), .val (.ref w_EQUAL), .val (.ref x0_169), .val (.int (2 : Int32)), .val (.int (0 : Int32)), .val (.int (((61 : Int32) &&& (255 : Int32)).toUInt32.toUInt16.toUInt32.toInt32))] [])) t
        refine XS.iconst X206.here hx rfl (hb hby at_229) ?_
        show Steps p.tables e below (T206.setTop (mkF m 230 #[.val (.int p0), .val (.int p1), .val (.int p2), .val (.ref w_EQUAL), .val (.ref x0_169), .val (.int (2 : Int32)), .val (.int (0 : Int32)), .val (.int (((61 : Int32) &&& (255 : Int32)).toUInt32.toUInt16.toUInt32.toInt32))] [(.int (1 : Int32))])) t
        refine XS.goto X206.here hx rfl (pc0 := 230) (pc' := 234) rfl (hb hby at_230) (by decide) (by decide) ?_
        exact k
      refine own_retZW X206 hx hlk hS169 (Nat.le_of_eq (congrArg Array.size (Eq.symm e206))) Bd.returns (hb hby at_234) rfl (by decide) (by decide) ?_
      show Q0 Z p0 p1 p2 w_LESS w_LESS_OR_EQUAL w_GREATER w_GREATER_OR_EQUAL w_EQUAL w_NOT_EQUAL w_CS u_SIO h0 n0 (some (.int (1 : Int32))) T206.heap _
      exact ⟨rfl, n207⟩
  · rw [hk7_6]
    obtain ⟨_, _, ⟨T208, L208, k208, n208⟩, -, X208, ⟨Lc208, hQ208, l208, y208, z208⟩, st208⟩ := Jvm.LawKit.callS X0 hx (y := (⟨"com/example/meshwatch/meshwatch/RelationSymbolPinLaw", "pick", "(I)Lcom/example/meshwatch/meshwatch/Relation;"⟩ : MethodName)) hown (mvT hZ (hw _ (List.mem_of_getElem? (i := 1) rfl))) (mvT hZ (hw _ (List.mem_of_getElem? (i := 2) rfl))) (mvT hZ (hw _ (List.mem_of_getElem? (i := 3) rfl))) (mvT hZ (hw _ (List.mem_of_getElem? (i := 4) rfl))) (by decide) (backOf (W := 0) (rmk5 l Z ar hw [] w_NOT_EQUAL h0 n0 Z0 S_NOT_EQUAL) hZ (hw _ (List.mem_of_getElem? (i := 4) rfl)) (hw _ (List.mem_of_getElem? (i := 3) rfl)) (by decide) (by decide)) (g := (mkF m 7 #[.val (.int p0), .val (.int p1), .val (.int p2), .unset, .unset, .unset, .unset, .unset] [(.int (5 : Int32))])) rfl (by rw [hml]; rfl) (argsL := [(.int (5 : Int32))]) (rest := []) (lenOf pd0_0 rfl) rfl (by show 2 * 0 + _ ≤ _; exact Nat.le_of_eq rfl) (hb hby at_7) (fun _ _ => ⟨rfl, e0, (by decide : 0 + 0 ≤ _), (by decide : 0 + 0 ≤ _)⟩)
    dsimp only [Pt.U, Pt.locs, Pt.cells, Pt.slots] at X208 l208 y208 z208 st208 hQ208
    subst l208 y208 z208
    obtain ⟨rfl, N208q, e208⟩ := hQ208
    have n209 := Fr.app N0 N208q
    refine own_stW (T' := T208) (g' := (mkF m 10 #[.val (.int p0), .val (.int p1), .val (.int p2), .unset, .unset, .unset, .unset, .unset] [(.ref w_NOT_EQUAL)])) st208 ?_
    refine own_stW (T' := T208) (g' := (mkF m 12 #[.val (.int p0), .val (.int p1), .val (.int p2), .val (.ref w_NOT_EQUAL), .unset, .unset, .unset, .unset] [(.ref w_NOT_EQUAL)])) (fun t k => ?_) ?_
    · show Steps p.tables e below (T208.setTop (mkF m 10 #[.val (.int p0), .val (.int p1), .val (.int p2), .unset, .unset, .unset, .unset, .unset] [(.ref w_NOT_EQUAL)])) t
      refine XS.astoreN X208.here hx rfl (hb hby at_10) rfl rfl (l' := #[.val (.int p0), .val (.int p1), .val (.int p2), .val (.ref w_NOT_EQUAL), .unset, .unset, .unset, .unset]) rfl ?_
      show Steps p.tables e below (T208.setTop (mkF m 11 #[.val (.int p0), .val (.int p1), .val (.int p2), .val (.ref w_NOT_EQUAL), .unset, .unset, .unset, .unset] [])) t
      refine XS.aloadN X208.here hx rfl (hb hby at_11) rfl rfl ?_
      exact k
    obtain ⟨cq210, kq210, qa210, qb210, qc210⟩ := isOf hZ e208 E_w_NOT_EQUAL
    obtain ⟨_, _, ⟨T210, L210, k210, n210⟩, -, X210, hS210, -, ⟨Lc210, hQ210, l210, y210, z210, -⟩, st210⟩ := X208.virtualBackS hx (y := (⟨"com/example/meshwatch/meshwatch/Relation", "symbol", "()Ljava/lang/String;"⟩ : MethodName)) (z := (⟨"com/example/meshwatch/meshwatch/Relation", "symbol", "()Ljava/lang/String;"⟩ : MethodName)) hown (mvT hZ (hw _ (List.mem_of_getElem? (i := 8) rfl))) (mvT hZ (hw _ (List.mem_of_getElem? (i := 9) rfl))) (notFace_of_selects (args := #[]) (mvT hZ (hw _ (List.mem_of_getElem? (i := 11) rfl)))) (mvT hZ (hw _ (List.mem_of_getElem? (i := 11) rfl))) (mvT hZ (hw _ (List.mem_of_getElem? (i := 10) rfl))) (by decide) (backOfSH (s := s) (vm0 := s.vm) (W := 0) (rmy5 l Z ar hw [] w_NOT_EQUAL h0 n0 Z0 E_w_NOT_EQUAL F_ordinal_w_NOT_EQUAL) hZ (hw _ (List.mem_of_getElem? (i := 12) rfl)) (hw _ (List.mem_of_getElem? (i := 6) rfl)) (by decide) (by decide) (own_ew hw) hI) qa210 qc210 (g := (mkF m 12 #[.val (.int p0), .val (.int p1), .val (.int p2), .val (.ref w_NOT_EQUAL), .unset, .unset, .unset, .unset] [(.ref w_NOT_EQUAL)])) rfl (by rw [hml]; rfl) (Steps.refl _) (argsL := []) (rest := []) (lenOf pd0_1 rfl) rfl (by show 2 * 0 + _ ≤ _; exact Nat.le_of_eq rfl) (hb hby at_12) (fun _ _ => ⟨rfl, e208, (by decide : 0 + 2 ≤ _), (by decide : 0 + 12 ≤ _)⟩)
    dsimp only [Pt.U, Pt.locs, Pt.cells, Pt.slots] at X210 l210 y210 z210 st210 hQ210
    subst l210 y210 z210
    have hZ : Z.Warmed39 (s.setVm T210.vm).vm := State.Warmed39.trans (t := s) hZ hS210.1
    have hown : (s.setVm T210.vm).vm.findClass "com/example/meshwatch/meshwatch/RelationSymbolPinLaw" = some m.cls := by rw [show (s.setVm T210.vm).vm = T210.vm from rfl, hS210.1.alike.findClass]; exact hown
    obtain ⟨x0_210, x1_210, kx_210, rfl, N210q, K210, f211, f212, f213, f214⟩ := hQ210
    have n215 := Fr.app n209 N210q
    have f216 := own_sta S_LESS K210
    have f217 := E_w_LESS.keep K210
    have f218 := F_ordinal_w_LESS.keep K210 nin0
    have f219 := own_sta S_LESS_OR_EQUAL K210
    have f220 := E_w_LESS_OR_EQUAL.keep K210
    have f221 := F_ordinal_w_LESS_OR_EQUAL.keep K210 nin0
    have f222 := own_sta S_GREATER K210
    have f223 := E_w_GREATER.keep K210
    have f224 := F_ordinal_w_GREATER.keep K210 nin0
    have f225 := own_sta S_GREATER_OR_EQUAL K210
    have f226 := E_w_GREATER_OR_EQUAL.keep K210
    have f227 := F_ordinal_w_GREATER_OR_EQUAL.keep K210 nin0
    have f228 := own_sta S_EQUAL K210
    have f229 := E_w_EQUAL.keep K210
    have f230 := F_ordinal_w_EQUAL.keep K210 nin0
    have f231 := own_sta S_NOT_EQUAL K210
    have f232 := E_w_NOT_EQUAL.keep K210
    have f233 := F_ordinal_w_NOT_EQUAL.keep K210 nin0
    have f234 := own_sta S_COMPACT_STRINGS K210
    have f235 := own_sta S_SIOOBE_FORMATTER K210
    have z236 := Nat.le_trans Z0 K210.1
    have k237 := K0.trans K210 all0
    refine own_trW (T' := T210) (g' := (mkF m 15 #[.val (.int p0), .val (.int p1), .val (.int p2), .val (.ref w_NOT_EQUAL), .unset, .unset, .unset, .unset] [(.ref x0_210)])) st210 ?_
    refine own_stW (T' := T210) (g' := (mkF m 26 #[.val (.int p0), .val (.int p1), .val (.int p2), .val (.ref w_NOT_EQUAL), .val (.ref x0_210), .unset, .unset, .unset] [(.ref x0_210)])) (fun t k => ?_) ?_
    · show Steps p.tables e below (T210.setTop (mkF m 15 #[.val (.int p0), .val (.int p1), .val (.int p2), .val (.ref w_NOT_EQUAL), .unset, .unset, .unset, .unset] [(.ref x0_210)])) t
      refine XS.astore X210.here hx rfl (hb hby at_15) rfl rfl (l' := #[.val (.int p0), .val (.int p1), .val (.int p2), .val (.ref w_NOT_EQUAL), .val (.ref x0_210), .unset, .unset, .unset]) rfl ?_
      show Steps p.tables e below (T210.setTop (mkF m 17 #[.val (.int p0), .val (.int p1), .val (.int p2), .val (.ref w_NOT_EQUAL), .val (.ref x0_210), .unset, .unset, .unset] [])) t
      refine XS.aload X210.here hx rfl (hb hby at_17) rfl rfl ?_
      show Steps p.tables e below (T210.setTop (mkF m 19 #[.val (.int p0), .val (.int p1), .val (.int p2), .val (.ref w_NOT_EQUAL), .val (.ref x0_210), .unset, .unset, .unset] [(.ref x0_210)])) t
      refine XS.ifnonnullYes X210.here hx rfl (pc0 := 19) (pc' := 24) rfl (hb hby at_19) rfl (by decide) (by decide) ?_
      show Steps p.tables e below (T210.setTop (mkF m 24 #[.val (.int p0), .val (.int p1), .val (.int p2), .val (.ref w_NOT_EQUAL), .val (.ref x0_210), .unset, .unset, .unset] [])) t
      refine XS.aload X210.here hx rfl (hb hby at_24) rfl rfl ?_
      exact k
    obtain ⟨cq238, kq238, qa238, qb238, qc238⟩ := isOf hZ (rfl : T210.heap = T210.heap) f211
    obtain ⟨_, _, ⟨T238, L238, k238, n238⟩, -, X238, ⟨Lc238, hQ238, l238, y238, z238⟩, st238⟩ := X210.virtualBack hx (y := (⟨"java/lang/String", "length", "()I"⟩ : MethodName)) (z := (⟨"java/lang/String", "length", "()I"⟩ : MethodName)) hown (mvT hZ (hw _ (List.mem_of_getElem? (i := 30) rfl))) (mvT hZ (hw _ (List.mem_of_getElem? (i := 31) rfl))) (notFace_of_selects (args := #[]) (mvT hZ (hw _ (List.mem_of_getElem? (i := 33) rfl)))) (mvT hZ (hw _ (List.mem_of_getElem? (i := 33) rfl))) (mvT hZ (hw _ (List.mem_of_getElem? (i := 32) rfl))) (by decide) (backOf (W := 0) (rmlen2 l Z ar hw [] x0_210 x1_210 kx_210 ((33 : Int32)) ((61 : Int32)) w_CS T210.heap n0 z236 f211 f212 f213 f214 f234 h26_h6_hb3) hZ (hw _ (List.mem_of_getElem? (i := 34) rfl)) (hw _ (List.mem_of_getElem? (i := 23) rfl)) (by decide) (by decide)) qa238 qc238 (g := (mkF m 26 #[.val (.int p0), .val (.int p1), .val (.int p2), .val (.ref w_NOT_EQUAL), .val (.ref x0_210), .unset, .unset, .unset] [(.ref x0_210)])) rfl (by rw [hml]; rfl) (Steps.refl _) (argsL := []) (rest := []) (lenOf pd0_2 rfl) rfl (by show 2 * 0 + _ ≤ _; exact Nat.le_of_eq rfl) (hb hby at_26) (fun _ _ => ⟨rfl, (rfl : T210.heap = T210.heap), (by decide : 2 + 0 ≤ _), (by decide : 12 + 0 ≤ _)⟩)
    dsimp only [Pt.U, Pt.locs, Pt.cells, Pt.slots] at X238 l238 y238 z238 st238 hQ238
    subst l238 y238 z238
    obtain ⟨rfl, N238q, e238⟩ := hQ238
    have n239 := Fr.app n215 N238q
    refine own_trW (T' := T238) (g' := (mkF m 29 #[.val (.int p0), .val (.int p1), .val (.int p2), .val (.ref w_NOT_EQUAL), .val (.ref x0_210), .unset, .unset, .unset] [(.int (2 : Int32))])) st238 ?_
    refine own_stW (T' := T238) (g' := (mkF m 103 #[.val (.int p0), .val (.int p1), .val (.int p2), .val (.ref w_NOT_EQUAL), .val (.ref x0_210), .val (.int (2 : Int32)), .unset, .unset] [(.int (1 : Int32)), (.ref x0_210)])) (fun t k => ?_) ?_
    · show Steps p.tables e below (T238.setTop (mkF m 29 #[.val (.int p0), .val (.int p1), .val (.int p2), .val (.ref w_NOT_EQUAL), .val (.ref x0_210), .unset, .unset, .unset] [(.int (2 : Int32))])) t
      refine XS.istore X238.here hx rfl (hb hby at_29) rfl (l' := #[.val (.int p0), .val (.int p1), .val (.int p2), .val (.ref w_NOT_EQUAL), .val (.ref x0_210), .val (.int (2 : Int32)), .unset, .unset]) rfl ?_
      show Steps p.tables e below (T238.setTop (mkF m 31 #[.val (.int p0), .val (.int p1), .val (.int p2), .val (.ref w_NOT_EQUAL), .val (.ref x0_210), .val (.int (2 : Int32)), .unset, .unset] [])) t
      refine XS.iload X238.here hx rfl (hb hby at_31) rfl ?_
      show Steps p.tables e below (T238.setTop (mkF m 33 #[.val (.int p0), .val (.int p1), .val (.int p2), .val (.ref w_NOT_EQUAL), .val (.ref x0_210), .val (.int (2 : Int32)), .unset, .unset] [(.int (2 : Int32))])) t
      refine XS.iconst X238.here hx rfl (hb hby at_33) ?_
      show Steps p.tables e below (T238.setTop (mkF m 34 #[.val (.int p0), .val (.int p1), .val (.int p2), .val (.ref w_NOT_EQUAL), .val (.ref x0_210), .val (.int (2 : Int32)), .unset, .unset] [(.int (1 : Int32)), (.int (2 : Int32))])) t
      refine XS.icmpYes X238.here hx rfl (pc0 := 34) (pc' := 94) rfl (hb hby at_34) rfl (by decide) (by decide) (by decide) ?_
      show Steps p.tables e below (T238.setTop (mkF m 94 #[.val (.int p0), .val (.int p1), .val (.int p2), .val (.ref w_NOT_EQUAL), .val (.ref x0_210), .val (.int (2 : Int32)), .unset, .unset] [])) t
      refine XS.iload X238.here hx rfl (hb hby at_94) rfl ?_
      show Steps p.tables e below (T238.setTop (mkF m 96 #[.val (.int p0), .val (.int p1), .val (.int p2), .val (.ref w_NOT_EQUAL), .val (.ref x0_210), .val (.int (2 : Int32)), .unset, .unset] [(.int (2 : Int32))])) t
      refine XS.iconst X238.here hx rfl (hb hby at_96) ?_
      show Steps p.tables e below (T238.setTop (mkF m 97 #[.val (.int p0), .val (.int p1), .val (.int p2), .val (.ref w_NOT_EQUAL), .val (.ref x0_210), .val (.int (2 : Int32)), .unset, .unset] [(.int (2 : Int32)), (.int (2 : Int32))])) t
      refine XS.icmpNo X238.here hx rfl (hb hby at_97) rfl (by decide) ?_
      show Steps p.tables e below (T238.setTop (mkF m 100 #[.val (.int p0), .val (.int p1), .val (.int p2), .val (.ref w_NOT_EQUAL), .val (.ref x0_210), .val (.int (2 : Int32)), .unset, .unset] [])) t
      refine XS.aload X238.here hx rfl (hb hby at_100) rfl rfl ?_
      show Steps p.tables e below (T238.setTop (mkF m 102 #[.val (.int p0), .val (.int p1), .val (.int p2), .val (.ref w_NOT_EQUAL), .val (.ref x0_210), .val (.int (2 : Int32)), .unset, .unset] [(.ref x0_210)])) t
      refine XS.iconst X238.here hx rfl (hb hby at_102) ?_
      exact k
    obtain ⟨cq240, kq240, qa240, qb240, qc240⟩ := isOf hZ e238 f211
    obtain ⟨_, _, ⟨T240, L240, k240, n240⟩, -, X240, ⟨Lc240, hQ240, l240, y240, z240⟩, st240⟩ := X238.virtualBack hx (y := (⟨"java/lang/String", "charAt", "(I)C"⟩ : MethodName)) (z := (⟨"java/lang/String", "charAt", "(I)C"⟩ : MethodName)) hown (mvT hZ (hw _ (List.mem_of_getElem? (i := 43) rfl))) (mvT hZ (hw _ (List.mem_of_getElem? (i := 44) rfl))) (notFace_of_selects (args := #[]) (mvT hZ (hw _ (List.mem_of_getElem? (i := 46) rfl)))) (mvT hZ (hw _ (List.mem_of_getElem? (i := 46) rfl))) (mvT hZ (hw _ (List.mem_of_getElem? (i := 45) rfl))) (by decide) (backOf (W := 0) (rmc21 l Z ar hw [] x0_210 x1_210 kx_210 ((33 : Int32)) ((61 : Int32)) w_CS (u_SIO) T210.heap n0 z236 f211 f212 f213 f214 f234 f235 h26_h6_hb3 h40_h12_h3_hu) hZ (hw _ (List.mem_of_getElem? (i := 47) rfl)) (hw _ (List.mem_of_getElem? (i := 23) rfl)) (by decide) (by decide)) qa240 qc240 (g := (mkF m 103 #[.val (.int p0), .val (.int p1), .val (.int p2), .val (.ref w_NOT_EQUAL), .val (.ref x0_210), .val (.int (2 : Int32)), .unset, .unset] [(.int (1 : Int32)), (.ref x0_210)])) rfl (by rw [hml]; rfl) (Steps.refl _) (argsL := [(.int (1 : Int32))]) (rest := []) (lenOf pd0_3 rfl) rfl (by show 2 * 0 + _ ≤ _; exact Nat.le_of_eq rfl) (hb hby at_103) (fun _ _ => ⟨rfl, e238, (by decide : 2 + 0 ≤ _), (by decide : 12 + 0 ≤ _)⟩)
    dsimp only [Pt.U, Pt.locs, Pt.cells, Pt.slots] at X240 l240 y240 z240 st240 hQ240
    subst l240 y240 z240
    obtain ⟨rfl, N240q, e240⟩ := hQ240
    have n241 := Fr.app n239 N240q
    refine own_trW (T' := T240) (g' := (mkF m 106 #[.val (.int p0), .val (.int p1), .val (.int p2), .val (.ref w_NOT_EQUAL), .val (.ref x0_210), .val (.int (2 : Int32)), .unset, .unset] [(.int (((61 : Int32) &&& (255 : Int32)).toUInt32.toUInt16.toUInt32.toInt32))])) st240 ?_
    refine own_stW (T' := T240) (g' := (mkF m 116 #[.val (.int p0), .val (.int p1), .val (.int p2), .val (.ref w_NOT_EQUAL), .val (.ref x0_210), .val (.int (2 : Int32)), .unset, .unset] [(.int (0 : Int32)), (.ref x0_210)])) (fun t k => ?_) ?_
    · show Steps p.tables e below (T240.setTop (mkF m 106 #[.val (.int p0), .val (.int p1), .val (.int p2), .val (.ref w_NOT_EQUAL), .val (.ref x0_210), .val (.int (2 : Int32)), .unset, .unset] [(.int (((61 : Int32) &&& (255 : Int32)).toUInt32.toUInt16.toUInt32.toInt32))])) t
      refine XS.bipush X240.here hx rfl (hb hby at_106) ?_
      show Steps p.tables e below (T240.setTop (mkF m 108 #[.val (.int p0), .val (.int p1), .val (.int p2), .val (.ref w_NOT_EQUAL), .val (.ref x0_210), .val (.int (2 : Int32)), .unset, .unset] [(.int (61 : Int32)), (.int (((61 : Int32) &&& (255 : Int32)).toUInt32.toUInt16.toUInt32.toInt32))])) t
      refine XS.icmpYes X240.here hx rfl (pc0 := 108) (pc' := 113) rfl (hb hby at_108) rfl (teq ((by decide) : (((61 : Int32) &&& (255 : Int32)).toUInt32.toUInt16.toUInt32.toInt32) = (61 : Int32))).1 (by decide) (by decide) ?_
      show Steps p.tables e below (T240.setTop (mkF m 113 #[.val (.int p0), .val (.int p1), .val (.int p2), .val (.ref w_NOT_EQUAL), .val (.ref x0_210), .val (.int (2 : Int32)), .unset, .unset] [])) t
      refine XS.aload X240.here hx rfl (hb hby at_113) rfl rfl ?_
      show Steps p.tables e below (T240.setTop (mkF m 115 #[.val (.int p0), .val (.int p1), .val (.int p2), .val (.ref w_NOT_EQUAL), .val (.ref x0_210), .val (.int (2 : Int32)), .unset, .unset] [(.ref x0_210)])) t
      refine XS.iconst X240.here hx rfl (hb hby at_115) ?_
      exact k
    obtain ⟨cq242, kq242, qa242, qb242, qc242⟩ := isOf hZ e240 f211
    obtain ⟨_, _, ⟨T242, L242, k242, n242⟩, -, X242, ⟨Lc242, hQ242, l242, y242, z242⟩, st242⟩ := X240.virtualBack hx (y := (⟨"java/lang/String", "charAt", "(I)C"⟩ : MethodName)) (z := (⟨"java/lang/String", "charAt", "(I)C"⟩ : MethodName)) hown (mvT hZ (hw _ (List.mem_of_getElem? (i := 43) rfl))) (mvT hZ (hw _ (List.mem_of_getElem? (i := 44) rfl))) (notFace_of_selects (args := #[]) (mvT hZ (hw _ (List.mem_of_getElem? (i := 46) rfl)))) (mvT hZ (hw _ (List.mem_of_getElem? (i := 46) rfl))) (mvT hZ (hw _ (List.mem_of_getElem? (i := 45) rfl))) (by decide) (backOf (W := 0) (rmc20 l Z ar hw [] x0_210 x1_210 kx_210 ((33 : Int32)) ((61 : Int32)) w_CS (u_SIO) T210.heap n0 z236 f211 f212 f213 f214 f234 f235 h26_h6_hb3 h40_h12_h3_hu) hZ (hw _ (List.mem_of_getElem? (i := 47) rfl)) (hw _ (List.mem_of_getElem? (i := 23) rfl)) (by decide) (by decide)) qa242 qc242 (g := (mkF m 116 #[.val (.int p0), .val (.int p1), .val (.int p2), .val (.ref w_NOT_EQUAL), .val (.ref x0_210), .val (.int (2 : Int32)), .unset, .unset] [(.int (0 : Int32)), (.ref x0_210)])) rfl (by rw [hml]; rfl) (Steps.refl _) (argsL := [(.int (0 : Int32))]) (rest := []) (lenOf pd0_3 rfl) rfl (by show 2 * 0 + _ ≤ _; exact Nat.le_of_eq rfl) (hb hby at_116) (fun _ _ => ⟨rfl, e240, (by decide : 2 + 0 ≤ _), (by decide : 12 + 0 ≤ _)⟩)
    dsimp only [Pt.U, Pt.locs, Pt.cells, Pt.slots] at X242 l242 y242 z242 st242 hQ242
    subst l242 y242 z242
    obtain ⟨rfl, N242q, e242⟩ := hQ242
    have n243 := Fr.app n241 N242q
    refine own_trW (T' := T242) (g' := (mkF m 119 #[.val (.int p0), .val (.int p1), .val (.int p2), .val (.ref w_NOT_EQUAL), .val (.ref x0_210), .val (.int (2 : Int32)), .unset, .unset] [(.int (((33 : Int32) &&& (255 : Int32)).toUInt32.toUInt16.toUInt32.toInt32))])) st242 ?_
    refine own_stW (T' := T242) (g' := (mkF m 196 #[.val (.int p0), .val (.int p1), .val (.int p2), .val (.ref w_NOT_EQUAL), .val (.ref x0_210), .val (.int (2 : Int32)), .unset, .val (.int (((33 : Int32) &&& (255 : Int32)).toUInt32.toUInt16.toUInt32.toInt32))] [(.int p2), (.int p1)])) (fun t k => ?_) ?_
    · show Steps p.tables e below (T242.setTop (mkF m 119 #[.val (.int p0), .val (.int p1), .val (.int p2), .val (.ref w_NOT_EQUAL), .val (.ref x0_210), .val (.int (2 : Int32)), .unset, .unset] [(.int (((33 : Int32) &&& (255 : Int32)).toUInt32.toUInt16.toUInt32.toInt32))])) t
      refine XS.istore X242.here hx rfl (hb hby at_119) rfl (l' := #[.val (.int p0), .val (.int p1), .val (.int p2), .val (.ref w_NOT_EQUAL), .val (.ref x0_210), .val (.int (2 : Int32)), .unset, .val (.int (((33 : Int32) &&& (255 : Int32)).toUInt32.toUInt16.toUInt32.toInt32))]) rfl ?_
      show Steps p.tables e below (T242.setTop (mkF m 121 #[.val (.int p0), .val (.int p1), .val (.int p2), .val (.ref w_NOT_EQUAL), .val (.ref x0_210), .val (.int (2 : Int32)), .unset, .val (.int (((33 : Int32) &&& (255 : Int32)).toUInt32.toUInt16.toUInt32.toInt32))] [])) t
      refine XS.iload X242.here hx rfl (hb hby at_121) rfl ?_
      show Steps p.tables e below (T242.setTop (mkF m 123 #[.val (.int p0), .val (.int p1), .val (.int p2), .val (.ref w_NOT_EQUAL), .val (.ref x0_210), .val (.int (2 : Int32)), .unset, .val (.int (((33 : Int32) &&& (255 : Int32)).toUInt32.toUInt16.toUInt32.toInt32))] [(.int (((33 : Int32) &&& (255 : Int32)).toUInt32.toUInt16.toUInt32.toInt32))])) t
      refine XS.bipush X242.here hx rfl (hb hby at_123) ?_
      show Steps p.tables e below (T242.setTop (mkF m 125 #[.val (.int p0), .val (.int p1), .val (.int p2), .val (.ref w_NOT_EQUAL), .val (.ref x0_210), .val (.int (2 : Int32)), .unset, .val (.int (((33 : Int32) &&& (255 : Int32)).toUInt32.toUInt16.toUInt32.toInt32))] [(.int (60 : Int32)), (.int (((33 : Int32) &&& (255 : Int32)).toUInt32.toUInt16.toUInt32.toInt32))])) t
      refine XS.icmpYes X242.here hx rfl (pc0 := 125) (pc' := 143) rfl (hb hby at_125) rfl (feq ((by decide) : ¬ ((((33 : Int32) &&& (255 : Int32)).toUInt32.toUInt16.toUInt32.toInt32) = (60 : Int32)))).2 (by decide) (by decide) ?_
      show Steps p.tables e below (T242.setTop (mkF m 143 #[.val (.int p0), .val (.int p1), .val (.int p2), .val (.ref w_NOT_EQUAL), .val (.ref x0_210), .val (.int (2 : Int32)), .unset, .val (.int (((33 : Int32) &&& (255 : Int32)).toUInt32.toUInt16.toUInt32.toInt32))] [])) t
      refine XS.iload X242.here hx rfl (hb hby at_143) rfl ?_
      show Steps p.tables e below (T242.setTop (mkF m 145 #[.val (.int p0), .val (.int p1), .val (.int p2), .val (.ref w_NOT_EQUAL), .val (.ref x0_210), .val (.int (2 : Int32)), .unset, .val (.int (((33 : Int32) &&& (255 : Int32)).toUInt32.toUInt16.toUInt32.toInt32))] [(.int (((33 : Int32) &&& (255 : Int32)).toUInt32.toUInt16.toUInt32.toInt32))])) t
      refine XS.bipush X242.here hx rfl (hb hby at_145) ?_
      show Steps p.tables e below (T242.setTop (mkF m 147 #[.val (.int p0), .val (.int p1), .val (.int p2), .val (.ref w_NOT_EQUAL), .val (.ref x0_210), .val (.int (2 : Int32)), .unset, .val (.int (((33 : Int32) &&& (255 : Int32)).toUInt32.toUInt16.toUInt32.toInt32))] [(.int (62 : Int32)), (.int (((33 : Int32) &&& (255 : Int32)).toUInt32.toUInt16.toUInt32.toInt32))])) t
      refine XS.icmpYes X242.here hx rfl (pc0 := 147) (pc' := 165) rfl (hb hby at_147) rfl (feq ((by decide) : ¬ ((((33 : Int32) &&& (255 : Int32)).toUInt32.toUInt16.toUInt32.toInt32) = (62 : Int32)))).2 (by decide) (by decide) ?_
      show Steps p.tables e below (T242.setTop (mkF m 165 #[.val (.int p0), .val (.int p1), .val (.int p2), .val (.ref w_NOT_EQUAL), .val (.ref x0_210), .val (.int (2 : Int32)), .unset, .val (.int (((33 : Int32) &&& (255 : Int32)).toUInt32.toUInt16.toUInt32.toInt32))] [])) t
      refine XS.iload X242.here hx rfl (hb hby at_165) rfl ?_
      show Steps p.tables e below (T242.setTop (mkF m 167 #[.val (.int p0), .val (.int p1), .val (.int p2), .val (.ref w_NOT_EQUAL), .val (.ref x0_210), .val (.int (2 : Int32)), .unset, .val (.int (((33 : Int32) &&& (255 : Int32)).toUInt32.toUInt16.toUInt32.toInt32))] [(.int (((33 : Int32) &&& (255 : Int32)).toUInt32.toUInt16.toUInt32.toInt32))])) t
      refine XS.bipush X242.here hx rfl (hb hby at_167) ?_
      show Steps p.tables e below (T242.setTop (mkF m 169 #[.val (.int p0), .val (.int p1), .val (.int p2), .val (.ref w_NOT_EQUAL), .val (.ref x0_210), .val (.int (2 : Int32)), .unset, .val (.int (((33 : Int32) &&& (255 : Int32)).toUInt32.toUInt16.toUInt32.toInt32))] [(.int (61 : Int32)), (.int (((33 : Int32) &&& (255 : Int32)).toUInt32.toUInt16.toUInt32.toInt32))])) t
      refine XS.icmpYes X242.here hx rfl (pc0 := 169) (pc' := 187) rfl (hb hby at_169) rfl (feq ((by decide) : ¬ ((((33 : Int32) &&& (255 : Int32)).toUInt32.toUInt16.toUInt32.toInt32) = (61 : Int32)))).2 (by decide) (by decide) ?_
      show Steps p.tables e below (T242.setTop (mkF m 187 #[.val (.int p0), .val (.int p1), .val (.int p2), .val (.ref w_NOT_EQUAL), .val (.ref x0_210), .val (.int (2 : Int32)), .unset, .val (.int (((33 : Int32) &&& (255 : Int32)).toUInt32.toUInt16.toUInt32.toInt32))] [])) t
      refine XS.iload X242.here hx rfl (hb hby at_187) rfl ?_
      show Steps p.tables e below (T242.setTop (mkF m 189 #[.val (.int p0), .val (.int p1), .val (.int p2), .val (.ref w_NOT_EQUAL), .val (.ref x0_210), .val (.int (2 : Int32)), .unset, .val (.int (((33 : Int32) &&& (255 : Int32)).toUInt32.toUInt16.toUInt32.toInt32))] [(.int (((33 : Int32) &&& (255 : Int32)).toUInt32.toUInt16.toUInt32.toInt32))])) t
      refine XS.bipush X242.here hx rfl (hb hby at_189) ?_
      show Steps p.tables e below (T242.setTop (mkF m 191 #[.val (.int p0), .val (.int p1), .val (.int p2), .val (.ref w_NOT_EQUAL), .val (.ref x0_210), .val (.int (2 : Int32)), .unset, .val (.int (((33 : Int32) &&& (255 : Int32)).toUInt32.toUInt16.toUInt32.toInt32))] [(.int (33 : Int32)), (.int (((33 : Int32) &&& (255 : Int32)).toUInt32.toUInt16.toUInt32.toInt32))])) t
      refine XS.icmpNo X242.here hx rfl (hb hby at_191) rfl (teq ((by decide) : (((33 : Int32) &&& (255 : Int32)).toUInt32.toUInt16.toUInt32.toInt32) = (33 : Int32))).2 ?_
      show Steps p.tables e below (T242.setTop (mkF m 194 #[.val (.int p0), .val (.int p1), .val (.int p2), .val (.ref w_NOT_EQUAL), .val (.ref x0_210), .val (.int (2 : Int32)), .unset, .val (.int (((33 : Int32) &&& (255 : Int32)).toUInt32.toUInt16.toUInt32.toInt32))] [])) t
      refine XS.iloadN X242.here hx rfl (hb hby at_194) rfl ?_
      show Steps p.tables e below (T242.setTop (mkF m 195 #[.val (.int p0), .val (.int p1), .val (.int p2), .val (.ref w_NOT_EQUAL), .val (.ref x0_210), .val (.int (2 : Int32)), .unset, .val (.int (((33 : Int32) &&& (255 : Int32)).toUInt32.toUInt16.toUInt32.toInt32))] [(.int p1)])) t
      refine XS.iloadN X242.here hx rfl (hb hby at_195) rfl ?_
      exact k
    by_cases hc196_244 : p1 = p2
    · refine own_stW (T' := T242) (g' := (mkF m 221 #[.val (.int p0), .val (.int p1), .val (.int p2), .val (.ref w_NOT_EQUAL), .val (.ref x0_210), .val (.int (2 : Int32)), .val (.int (0 : Int32)), .val (.int (((33 : Int32) &&& (255 : Int32)).toUInt32.toUInt16.toUInt32.toInt32))] [(.double (FP.i2d p2)), (.double (FP.i2d p1)), (.ref w_NOT_EQUAL)])) (fun t k => ?_) ?_
      · show Steps p.tables e below (T242.setTop (mkF m 196 #[.val (.int p0), .val (.int p1), .val (.int p2), .val (.ref w_NOT_EQUAL), .val (.ref x0_210), .val (.int (2 : Int32)), .unset, .val (.int (((33 : Int32) &&& (255 : Int32)).toUInt32.toUInt16.toUInt32.toInt32))] [(.int p2), (.int p1)])) t
        refine XS.icmpYes X242.here hx rfl (pc0 := 196) (pc' := 203) rfl (hb hby at_196) rfl (teq hc196_244).1 (by decide) (by decide) ?_
        show Steps p.tables e below (T242.setTop (mkF m 203 #[.val (.int p0), .val (.int p1), .val (.int p2), .val (.ref w_NOT_EQUAL), .val (.ref x0_210), .val (.int (2 : Int32)), .unset, .val (.int (((33 : Int32) &&& (255 : Int32)).toUInt32.toUInt16.toUInt32.toInt32))] [])) t
        refine XS.iconst X242.here hx rfl (hb hby at_203) ?_
        show Steps p.tables e below (T242.setTop (mkF m 204 #[.val (.int p0), .val (.int p1), .val (.int p2), .val (.ref w_NOT_EQUAL), .val (.ref x0_210), .val (.int (2 : Int32)), .unset, .val (.int (((33 : Int32) &&& (255 : Int32)).toUInt32.toUInt16.toUInt32.toInt32))] [(.int (0 : Int32))])) t
        refine XS.istore X242.here hx rfl (hb hby at_204) rfl (l' := #[.val (.int p0), .val (.int p1), .val (.int p2), .val (.ref w_NOT_EQUAL), .val (.ref x0_210), .val (.int (2 : Int32)), .val (.int (0 : Int32)), .val (.int (((33 : Int32) &&& (255 : Int32)).toUInt32.toUInt16.toUInt32.toInt32))]) rfl ?_
        show Steps p.tables e below (T242.setTop (mkF m 206 #[.val (.int p0), .val (.int p1), .val (.int p2), .val (.ref w_NOT_EQUAL), .val (.ref x0_210), .val (.int (2 : Int32)), .val (.int (0 : Int32)), .val (.int (((33 : Int32) &&& (255 : Int32)).toUInt32.toUInt16.toUInt32.toInt32))] [])) t
        refine XS.goto X242.here hx rfl (pc0 := 206) (pc' := 211) rfl (hb hby at_206) (by decide) (by decide) ?_
        show Steps p.tables e below (T242.setTop (mkF m 211 #[.val (.int p0), .val (.int p1), .val (.int p2), .val (.ref w_NOT_EQUAL), .val (.ref x0_210), .val (.int (2 : Int32)), .val (.int (0 : Int32)), .val (.int (((33 : Int32) &&& (255 : Int32)).toUInt32.toUInt16.toUInt32.toInt32))] [])) t
        refine XS.goto X242.here hx rfl (pc0 := 211) (pc' := 216) rfl (hb hby at_211) (by decide) (by decide) ?_
        show Steps p.tables e below (T242.setTop (mkF m 216 #[.val (.int p0), .val (.int p1), .val (.int p2), .val (.ref w_NOT_EQUAL), .val (.ref x0_210), .val (.int (2 : Int32)), .val (.int (0 : Int32)), .val (.int (((33 : Int32) &&& (255 : Int32)).toUInt32.toUInt16.toUInt32.toInt32))] [])) t
        refine XS.aloadN X242.here hx rfl (hb hby at_216) rfl rfl ?_
        show Steps p.tables e below (T242.setTop (mkF m 217 #[.val (.int p0), .val (.int p1), .val (.int p2), .val (.ref w_NOT_EQUAL), .val (.ref x0_210), .val (.int (2 : Int32)), .val (.int (0 : Int32)), .val (.int (((33 : Int32) &&& (255 : Int32)).toUInt32.toUInt16.toUInt32.toInt32))] [(.ref w_NOT_EQUAL)])) t
        refine XS.iloadN X242.here hx rfl (hb hby at_217) rfl ?_
        show Steps p.tables e below (T242.setTop (mkF m 218 #[.val (.int p0), .val (.int p1), .val (.int p2), .val (.ref w_NOT_EQUAL), .val (.ref x0_210), .val (.int (2 : Int32)), .val (.int (0 : Int32)), .val (.int (((33 : Int32) &&& (255 : Int32)).toUInt32.toUInt16.toUInt32.toInt32))] [(.int p1), (.ref w_NOT_EQUAL)])) t
        refine XS.i2dS X242.here hx rfl (hb hby at_218) rfl rfl ?_
        show Steps p.tables e below (T242.setTop (mkF m 219 #[.val (.int p0), .val (.int p1), .val (.int p2), .val (.ref w_NOT_EQUAL), .val (.ref x0_210), .val (.int (2 : Int32)), .val (.int (0 : Int32)), .val (.int (((33 : Int32) &&& (255 : Int32)).toUInt32.toUInt16.toUInt32.toInt32))] [(.double (FP.i2d p1)), (.ref w_NOT_EQUAL)])) t
        refine XS.iloadN X242.here hx rfl (hb hby at_219) rfl ?_
        show Steps p.tables e below (T242.setTop (mkF m 220 #[.val (.int p0), .val (.int p1), .val (.int p2), .val (.ref w_NOT_EQUAL), .val (.ref x0_210), .val (.int (2 : Int32)), .val (.int (0 : Int32)), .val (.int (((33 : Int32) &&& (255 : Int32)).toUInt32.toUInt16.toUInt32.toInt32))] [(.int p2), (.double (FP.i2d p1)), (.ref w_NOT_EQUAL)])) t
        refine XS.i2dS X242.here hx rfl (hb hby at_220) rfl rfl ?_
        exact k
      obtain ⟨cq245, kq245, qa245, qb245, qc245⟩ := isOf hZ e242 f232
      obtain ⟨_, _, ⟨T245, L245, k245, n245⟩, -, X245, ⟨Lc245, hQ245, l245, y245, z245⟩, st245⟩ := X242.virtualBack hx (y := (⟨"com/example/meshwatch/meshwatch/Relation", "holds", "(DD)Z"⟩ : MethodName)) (z := (⟨"com/example/meshwatch/meshwatch/Relation", "holds", "(DD)Z"⟩ : MethodName)) hown (mvT hZ (hw _ (List.mem_of_getElem? (i := 65) rfl))) (mvT hZ (hw _ (List.mem_of_getElem? (i := 66) rfl))) (notFace_of_selects (args := #[]) (mvT hZ (hw _ (List.mem_of_getElem? (i := 68) rfl)))) (mvT hZ (hw _ (List.mem_of_getElem? (i := 68) rfl))) (mvT hZ (hw _ (List.mem_of_getElem? (i := 67) rfl))) (by decide) (backOf (W := 0) (rmh5 l Z ar hw [] w_NOT_EQUAL ((FP.i2d p1)) ((FP.i2d p2)) T210.heap n0 z236 f232 f233) hZ (hw _ (List.mem_of_getElem? (i := 69) rfl)) (hw _ (List.mem_of_getElem? (i := 6) rfl)) (by decide) (by decide)) qa245 qc245 (g := (mkF m 221 #[.val (.int p0), .val (.int p1), .val (.int p2), .val (.ref w_NOT_EQUAL), .val (.ref x0_210), .val (.int (2 : Int32)), .val (.int (0 : Int32)), .val (.int (((33 : Int32) &&& (255 : Int32)).toUInt32.toUInt16.toUInt32.toInt32))] [(.double (FP.i2d p2)), (.double (FP.i2d p1)), (.ref w_NOT_EQUAL)])) rfl (by rw [hml]; rfl) (Steps.refl _) (argsL := [(.double (FP.i2d p1)), (.double (FP.i2d p2))]) (rest := []) (lenOf pd0_4 rfl) rfl (by show 2 * 0 + _ ≤ _; exact Nat.le_of_eq rfl) (hb hby at_221) (fun _ _ => ⟨rfl, e242, (by decide : 2 + 0 ≤ _), (by decide : 12 + 0 ≤ _)⟩)
      dsimp only [Pt.U, Pt.locs, Pt.cells, Pt.slots] at X245 l245 y245 z245 st245 hQ245
      subst l245 y245 z245
      obtain ⟨rfl, N245q, e245⟩ := hQ245
      have n246 := Fr.app n243 N245q
      refine own_trW (T' := T245) (g' := (mkF m 224 #[.val (.int p0), .val (.int p1), .val (.int p2), .val (.ref w_NOT_EQUAL), .val (.ref x0_210), .val (.int (2 : Int32)), .val (.int (0 : Int32)), .val (.int (((33 : Int32) &&& (255 : Int32)).toUInt32.toUInt16.toUInt32.toInt32))] [(.int (own_h5 (FP.dcmp (FP.i2d p1) (FP.i2d p2))))])) st245 ?_
      refine own_stW (T' := T245) (g' := (mkF m 234 #[.val (.int p0), .val (.int p1), .val (.int p2), .val (.ref w_NOT_EQUAL), .val (.ref x0_210), .val (.int (2 : Int32)), .val (.int (0 : Int32)), .val (.int (((33 : Int32) &&& (255 : Int32)).toUInt32.toUInt16.toUInt32.toInt32))] [(.int (1 : Int32))])) (fun t k => ?_) ?_
      · show Steps p.tables e below (T245.setTop (mkF m 224 #[.val (.int p0), .val (.int p1), .val (.int p2), .val (.ref w_NOT_EQUAL), .val (.ref x0_210), .val (.int (2 : Int32)), .val (.int (0 : Int32)), .val (.int (((33 : Int32) &&& (255 : Int32)).toUInt32.toUInt16.toUInt32.toInt32))] [(.int (own_h5 (FP.dcmp (FP.i2d p1) (FP.i2d p2))))])) t
        refine XS.iload X245.here hx rfl (hb hby at_224) rfl ?_
        show Steps p.tables e below (T245.setTop (mkF m 226 #[.val (.int p0), .val (.int p1), .val (.int p2), .val (.ref w_NOT_EQUAL), .val (.ref x0_210), .val (.int (2 : Int32)), .val (.int (0 : Int32)), .val (.int (((33 : Int32) &&& (255 : Int32)).toUInt32.toUInt16.toUInt32.toInt32))] [(.int (0 : Int32)), (.int (own_h5 (FP.dcmp (FP.i2d p1) (FP.i2d p2))))])) t
        refine XS.icmpNo X245.here hx rfl (hb hby at_226) rfl (teq (own_H5t hc196_244 : (own_h5 (FP.dcmp (FP.i2d p1) (FP.i2d p2))) = (0 : Int32))).2 ?_
        show Steps p.tables e below (T245.setTop (mkF m 229 #[.val (.int p0), .val (.int p1), .val (.int p2), .val (.ref w_NOT_EQUAL), .val (.ref x0_210), .val (.int (2 : Int32)), .val (.int (0 : Int32)), .val (.int (((33 : Int32) &&& (255 : Int32)).toUInt32.toUInt16.toUInt32.toInt32))] [])) t
        refine XS.iconst X245.here hx rfl (hb hby at_229) ?_
        show Steps p.tables e below (T245.setTop (mkF m 230 #[.val (.int p0), .val (.int p1), .val (.int p2), .val (.ref w_NOT_EQUAL), .val (.ref x0_210), .val (.int (2 : Int32)), .val (.int (0 : Int32)), .val (.int (((33 : Int32) &&& (255 : Int32)).toUInt32.toUInt16.toUInt32.toInt32))] [(.int (1 : Int32))])) t
        refine XS.goto X245.here hx rfl (pc0 := 230) (pc' := 234) rfl (hb hby at_230) (by decide) (by decide) ?_
        exact k
      refine own_retZW X245 hx hlk hS210 (Nat.le_of_eq (congrArg Array.size (Eq.symm e245))) Bd.returns (hb hby at_234) rfl (by decide) (by decide) ?_
      show Q0 Z p0 p1 p2 w_LESS w_LESS_OR_EQUAL w_GREATER w_GREATER_OR_EQUAL w_EQUAL w_NOT_EQUAL w_CS u_SIO h0 n0 (some (.int (1 : Int32))) T245.heap _
      exact ⟨rfl, n246⟩
    · refine own_stW (T' := T242) (g' := (mkF m 221 #[.val (.int p0), .val (.int p1), .val (.int p2), .val (.ref w_NOT_EQUAL), .val (.ref x0_210), .val (.int (2 : Int32)), .val (.int (1 : Int32)), .val (.int (((33 : Int32) &&& (255 : Int32)).toUInt32.toUInt16.toUInt32.toInt32))] [(.double (FP.i2d p2)), (.double (FP.i2d p1)), (.ref w_NOT_EQUAL)])) (fun t k => ?_) ?_
      · show Steps p.tables e below (T242.setTop (mkF m 196 #[.val (.int p0), .val (.int p1), .val (.int p2), .val (.ref w_NOT_EQUAL), .val (.ref x0_210), .val (.int (2 : Int32)), .unset, .val (.int (((33 : Int32) &&& (255 : Int32)).toUInt32.toUInt16.toUInt32.toInt32))] [(.int p2), (.int p1)])) t
        refine XS.icmpNo X242.here hx rfl (hb hby at_196) rfl (feq hc196_244).1 ?_
        show Steps p.tables e below (T242.setTop (mkF m 199 #[.val (.int p0), .val (.int p1), .val (.int p2), .val (.ref w_NOT_EQUAL), .val (.ref x0_210), .val (.int (2 : Int32)), .unset, .val (.int (((33 : Int32) &&& (255 : Int32)).toUInt32.toUInt16.toUInt32.toInt32))] [])) t
        refine XS.iconst X242.here hx rfl (hb hby at_199) ?_
        show Steps p.tables e below (T242.setTop (mkF m 200 #[.val (.int p0), .val (.int p1), .val (.int p2), .val (.ref w_NOT_EQUAL), .val (.ref x0_210), .val (.int (2 : Int32)), .unset, .val (.int (((33 : Int32) &&& (255 : Int32)).toUInt32.toUInt16.toUInt32.toInt32))] [(.int (1 : Int32))])) t
        refine XS.goto X242.here hx rfl (pc0 := 200) (pc' := 204) rfl (hb hby at_200) (by decide) (by decide) ?_
        show Steps p.tables e below (T242.setTop (mkF m 204 #[.val (.int p0), .val (.int p1), .val (.int p2), .val (.ref w_NOT_EQUAL), .val (.ref x0_210), .val (.int (2 : Int32)), .unset, .val (.int (((33 : Int32) &&& (255 : Int32)).toUInt32.toUInt16.toUInt32.toInt32))] [(.int (1 : Int32))])) t
        refine XS.istore X242.here hx rfl (hb hby at_204) rfl (l' := #[.val (.int p0), .val (.int p1), .val (.int p2), .val (.ref w_NOT_EQUAL), .val (.ref x0_210), .val (.int (2 : Int32)), .val (.int (1 : Int32)), .val (.int (((33 : Int32) &&& (255 : Int32)).toUInt32.toUInt16.toUInt32.toInt32))]) rfl ?_
        show Steps p.tables e below (T242.setTop (mkF m 206 #[.val (.int p0), .val (.int p1), .val (.int p2), .val (.ref w_NOT_EQUAL), .val (.ref x0_210), .val (.int (2 : Int32)), .val (.int (1 : Int32)), .val (.int (((33 : Int32) &&& (255 : Int32)).toUInt32.toUInt16.toUInt32.toInt32))] [])) t
        refine XS.goto X242.here hx rfl (pc0 := 206) (pc' := 211) rfl (hb hby at_206) (by decide) (by decide) ?_
        show Steps p.tables e below (T242.setTop (mkF m 211 #[.val (.int p0), .val (.int p1), .val (.int p2), .val (.ref w_NOT_EQUAL), .val (.ref x0_210), .val (.int (2 : Int32)), .val (.int (1 : Int32)), .val (.int (((33 : Int32) &&& (255 : Int32)).toUInt32.toUInt16.toUInt32.toInt32))] [])) t
        refine XS.goto X242.here hx rfl (pc0 := 211) (pc' := 216) rfl (hb hby at_211) (by decide) (by decide) ?_
        show Steps p.tables e below (T242.setTop (mkF m 216 #[.val (.int p0), .val (.int p1), .val (.int p2), .val (.ref w_NOT_EQUAL), .val (.ref x0_210), .val (.int (2 : Int32)), .val (.int (1 : Int32)), .val (.int (((33 : Int32) &&& (255 : Int32)).toUInt32.toUInt16.toUInt32.toInt32))] [])) t
        refine XS.aloadN X242.here hx rfl (hb hby at_216) rfl rfl ?_
        show Steps p.tables e below (T242.setTop (mkF m 217 #[.val (.int p0), .val (.int p1), .val (.int p2), .val (.ref w_NOT_EQUAL), .val (.ref x0_210), .val (.int (2 : Int32)), .val (.int (1 : Int32)), .val (.int (((33 : Int32) &&& (255 : Int32)).toUInt32.toUInt16.toUInt32.toInt32))] [(.ref w_NOT_EQUAL)])) t
        refine XS.iloadN X242.here hx rfl (hb hby at_217) rfl ?_
        show Steps p.tables e below (T242.setTop (mkF m 218 #[.val (.int p0), .val (.int p1), .val (.int p2), .val (.ref w_NOT_EQUAL), .val (.ref x0_210), .val (.int (2 : Int32)), .val (.int (1 : Int32)), .val (.int (((33 : Int32) &&& (255 : Int32)).toUInt32.toUInt16.toUInt32.toInt32))] [(.int p1), (.ref w_NOT_EQUAL)])) t
        refine XS.i2dS X242.here hx rfl (hb hby at_218) rfl rfl ?_
        show Steps p.tables e below (T242.setTop (mkF m 219 #[.val (.int p0), .val (.int p1), .val (.int p2), .val (.ref w_NOT_EQUAL), .val (.ref x0_210), .val (.int (2 : Int32)), .val (.int (1 : Int32)), .val (.int (((33 : Int32) &&& (255 : Int32)).toUInt32.toUInt16.toUInt32.toInt32))] [(.double (FP.i2d p1)), (.ref w_NOT_EQUAL)])) t
        refine XS.iloadN X242.here hx rfl (hb hby at_219) rfl ?_
        show Steps p.tables e below (T242.setTop (mkF m 220 #[.val (.int p0), .val (.int p1), .val (.int p2), .val (.ref w_NOT_EQUAL), .val (.ref x0_210), .val (.int (2 : Int32)), .val (.int (1 : Int32)), .val (.int (((33 : Int32) &&& (255 : Int32)).toUInt32.toUInt16.toUInt32.toInt32))] [(.int p2), (.double (FP.i2d p1)), (.ref w_NOT_EQUAL)])) t
        refine XS.i2dS X242.here hx rfl (hb hby at_220) rfl rfl ?_
        exact k
      obtain ⟨cq247, kq247, qa247, qb247, qc247⟩ := isOf hZ e242 f232
      obtain ⟨_, _, ⟨T247, L247, k247, n247⟩, -, X247, ⟨Lc247, hQ247, l247, y247, z247⟩, st247⟩ := X242.virtualBack hx (y := (⟨"com/example/meshwatch/meshwatch/Relation", "holds", "(DD)Z"⟩ : MethodName)) (z := (⟨"com/example/meshwatch/meshwatch/Relation", "holds", "(DD)Z"⟩ : MethodName)) hown (mvT hZ (hw _ (List.mem_of_getElem? (i := 65) rfl))) (mvT hZ (hw _ (List.mem_of_getElem? (i := 66) rfl))) (notFace_of_selects (args := #[]) (mvT hZ (hw _ (List.mem_of_getElem? (i := 68) rfl)))) (mvT hZ (hw _ (List.mem_of_getElem? (i := 68) rfl))) (mvT hZ (hw _ (List.mem_of_getElem? (i := 67) rfl))) (by decide) (backOf (W := 0) (rmh5 l Z ar hw [] w_NOT_EQUAL ((FP.i2d p1)) ((FP.i2d p2)) T210.heap n0 z236 f232 f233) hZ (hw _ (List.mem_of_getElem? (i := 69) rfl)) (hw _ (List.mem_of_getElem? (i := 6) rfl)) (by decide) (by decide)) qa247 qc247 (g := (mkF m 221 #[.val (.int p0), .val (.int p1), .val (.int p2), .val (.ref w_NOT_EQUAL), .val (.ref x0_210), .val (.int (2 : Int32)), .val (.int (1 : Int32)), .val (.int (((33 : Int32) &&& (255 : Int32)).toUInt32.toUInt16.toUInt32.toInt32))] [(.double (FP.i2d p2)), (.double (FP.i2d p1)), (.ref w_NOT_EQUAL)])) rfl (by rw [hml]; rfl) (Steps.refl _) (argsL := [(.double (FP.i2d p1)), (.double (FP.i2d p2))]) (rest := []) (lenOf pd0_4 rfl) rfl (by show 2 * 0 + _ ≤ _; exact Nat.le_of_eq rfl) (hb hby at_221) (fun _ _ => ⟨rfl, e242, (by decide : 2 + 0 ≤ _), (by decide : 12 + 0 ≤ _)⟩)
      dsimp only [Pt.U, Pt.locs, Pt.cells, Pt.slots] at X247 l247 y247 z247 st247 hQ247
      subst l247 y247 z247
      obtain ⟨rfl, N247q, e247⟩ := hQ247
      have n248 := Fr.app n243 N247q
      refine own_trW (T' := T247) (g' := (mkF m 224 #[.val (.int p0), .val (.int p1), .val (.int p2), .val (.ref w_NOT_EQUAL), .val (.ref x0_210), .val (.int (2 : Int32)), .val (.int (1 : Int32)), .val (.int (((33 : Int32) &&& (255 : Int32)).toUInt32.toUInt16.toUInt32.toInt32))] [(.int (own_h5 (FP.dcmp (FP.i2d p1) (FP.i2d p2))))])) st247 ?_
      refine own_stW (T' := T247) (g' := (mkF m 234 #[.val (.int p0), .val (.int p1), .val (.int p2), .val (.ref w_NOT_EQUAL), .val (.ref x0_210), .val (.int (2 : Int32)), .val (.int (1 : Int32)), .val (.int (((33 : Int32) &&& (255 : Int32)).toUInt32.toUInt16.toUInt32.toInt32))] [(.int (1 : Int32))])) (fun t k => ?_) ?_
      · show Steps p.tables e below (T247.setTop (mkF m 224 #[.val (.int p0), .val (.int p1), .val (.int p2), .val (.ref w_NOT_EQUAL), .val (.ref x0_210), .val (.int (2 : Int32)), .val (.int (1 : Int32)), .val (.int (((33 : Int32) &&& (255 : Int32)).toUInt32.toUInt16.toUInt32.toInt32))] [(.int (own_h5 (FP.dcmp (FP.i2d p1) (FP.i2d p2))))])) t
        refine XS.iload X247.here hx rfl (hb hby at_224) rfl ?_
        show Steps p.tables e below (T247.setTop (mkF m 226 #[.val (.int p0), .val (.int p1), .val (.int p2), .val (.ref w_NOT_EQUAL), .val (.ref x0_210), .val (.int (2 : Int32)), .val (.int (1 : Int32)), .val (.int (((33 : Int32) &&& (255 : Int32)).toUInt32.toUInt16.toUInt32.toInt32))] [(.int (1 : Int32)), (.int (own_h5 (FP.dcmp (FP.i2d p1) (FP.i2d p2))))])) t
        refine XS.icmpNo X247.here hx rfl (hb hby at_226) rfl (teq (own_H5f hc196_244 : (own_h5 (FP.dcmp (FP.i2d p1) (FP.i2d p2))) = (1 : Int32))).2 ?_
        show Steps p.tables e below (T247.setTop (mkF m 229 #[.val (.int p0), .val (.int p1), .val (.int p2), .val (.ref w_NOT_EQUAL), .val (.ref x0_210), .val (.int (2 : Int32)), .val (.int (1 : Int32)), .val (.int (((33 : Int32) &&& (255 : Int32)).toUInt32.toUInt16.toUInt32.toInt32))] [])) t
        refine XS.iconst X247.here hx rfl (hb hby at_229) ?_
        show Steps p.tables e below (T247.setTop (mkF m 230 #[.val (.int p0), .val (.int p1), .val (.int p2), .val (.ref w_NOT_EQUAL), .val (.ref x0_210), .val (.int (2 : Int32)), .val (.int (1 : Int32)), .val (.int (((33 : Int32) &&& (255 : Int32)).toUInt32.toUInt16.toUInt32.toInt32))] [(.int (1 : Int32))])) t
        refine XS.goto X247.here hx rfl (pc0 := 230) (pc' := 234) rfl (hb hby at_230) (by decide) (by decide) ?_
        exact k
      refine own_retZW X247 hx hlk hS210 (Nat.le_of_eq (congrArg Array.size (Eq.symm e247))) Bd.returns (hb hby at_234) rfl (by decide) (by decide) ?_
      show Q0 Z p0 p1 p2 w_LESS w_LESS_OR_EQUAL w_GREATER w_GREATER_OR_EQUAL w_EQUAL w_NOT_EQUAL w_CS u_SIO h0 n0 (some (.int (1 : Int32))) T247.heap _
      exact ⟨rfl, n248⟩
set_option maxRecDepth 65536 in
set_option maxHeartbeats 40000000 in
theorem comes_1 {Post : Tables → Env → Array Value → State → Outcome → State → Prop} (hpost : ∀ tb e args s v u, (limb_1_1.after args s (.returned v) u = true ∧ limb_1_2.after args s (.returned v) u = true ∧ True) → ReturnedEndW s (.returned v) u (Jvm.fieldLocs frame_1_writes args s ++ Jvm.arrayLocs frame_1_arrays args s ++ Jvm.staticLocs frame_1_statics s) 16 6208 → Post tb e args s (.returned v) u) :
    ArmFor flags0 classFile x code maxLocals ret World_1 tables_1 room_1 Calls_1 rest_1 Pre_1 Post := by
  intro l hfl _ _ p e ha hc hk s m args below hf hA hF happ hP
  obtain ⟨hcalls, hrest, hpre⟩ := hP
  obtain ⟨-, -, -, hnamed, -, -, -, hat⟩ := (Spec.applies_iff hf).mp happ
  obtain ⟨hg, hn⟩ := and_e (Cond.before_iff.mp (show (Jvm.Cond.and given_1 narrow_1).before args s = true from hpre))
  obtain ⟨g0, gg0⟩ := and_e hg
  obtain ⟨g1, gg1⟩ := and_e gg0
  obtain ⟨g2, gg2⟩ := and_e gg1
  obtain ⟨w0, w1, w2, rfl⟩ : ∃ w0 w1 w2 : Value, args = #[w0, w1, w2] := by
    have hs : args.size = 3 := by simpa [Cond.value, given_1] using g0
    obtain ⟨L⟩ := args
    match L, hs with
    | [w0, w1, w2], _ => exact ⟨w0, w1, w2, rfl⟩
  have hw := fun d (hd : d ∈ tables_1) => atoms_spec (ws := Jvm.Cond.code x code maxLocals ret :: tables_1) hat d (List.mem_cons_of_mem _ hd)
  have hfit : Fit s := fun {y c} hc i hi => by
    obtain ⟨ha, rfl⟩ := Array.getElem?_eq_some_iff.mp hc
    have q := List.all_eq_true.mp ((Array.all_eq_true_iff_forall_mem.mp hF) _ (Array.getElem_mem ha)) i (List.mem_range.mpr hi)
    simpa [Array.getElem?_eq_getElem hi] using q
  obtain ⟨hsets, hown0⟩ := atoms_of _ (rest_1_c_eq ▸ (show rest_1_c.before _ s = true from hrest))
  have hr0 := Cond.before_iff.mp hown0
  obtain ⟨p0, ei0⟩ := is_v g1
  obtain rfl : w0 = (.int p0) := Option.some.inj ei0
  obtain ⟨p1, ei1⟩ := is_v g2
  obtain rfl : w1 = (.int p1) := Option.some.inj ei1
  obtain ⟨p2, ei2⟩ := is_v gg2
  obtain rfl : w2 = (.int p2) := Option.some.inj ei2
  obtain ⟨x_LESS, r0⟩ := and_e hn
  obtain ⟨o_LESS, r1⟩ := and_e r0
  obtain ⟨x_LESS_OR_EQUAL, r2⟩ := and_e r1
  obtain ⟨o_LESS_OR_EQUAL, r3⟩ := and_e r2
  obtain ⟨x_GREATER, r4⟩ := and_e r3
  obtain ⟨o_GREATER, r5⟩ := and_e r4
  obtain ⟨x_NOT_EQUAL, r6⟩ := and_e r5
  obtain ⟨o_NOT_EQUAL, r7⟩ := and_e r6
  obtain ⟨x_GREATER_OR_EQUAL, r8⟩ := and_e r7
  obtain ⟨o_GREATER_OR_EQUAL, r9⟩ := and_e r8
  obtain ⟨x_EQUAL, r10⟩ := and_e r9
  have o_EQUAL := r10
  obtain ⟨a_LESS, e_LESS⟩ := exa_v x_LESS
  have S_LESS := Sta.start e_LESS (Or.inr ⟨(hw _ (List.mem_of_getElem? (i := 6) rfl)), (hw _ (List.mem_of_getElem? (i := 7) rfl))⟩)
  have E_LESS := Exa.start e_LESS x_LESS
  have F_LESS : Fld s s.heap a_LESS "java/lang/Enum" "ordinal" "I" (.int (0 : Int32)) := Fld.start ((fld_at e_LESS).symm.trans (eqv_i rfl o_LESS))
  obtain ⟨a_LESS_OR_EQUAL, e_LESS_OR_EQUAL⟩ := exa_v x_LESS_OR_EQUAL
  have S_LESS_OR_EQUAL := Sta.start e_LESS_OR_EQUAL (Or.inr ⟨(hw _ (List.mem_of_getElem? (i := 6) rfl)), (hw _ (List.mem_of_getElem? (i := 71) rfl))⟩)
  have E_LESS_OR_EQUAL := Exa.start e_LESS_OR_EQUAL x_LESS_OR_EQUAL
  have F_LESS_OR_EQUAL : Fld s s.heap a_LESS_OR_EQUAL "java/lang/Enum" "ordinal" "I" (.int (1 : Int32)) := Fld.start ((fld_at e_LESS_OR_EQUAL).symm.trans (eqv_i rfl o_LESS_OR_EQUAL))
  obtain ⟨a_GREATER, e_GREATER⟩ := exa_v x_GREATER
  have S_GREATER := Sta.start e_GREATER (Or.inr ⟨(hw _ (List.mem_of_getElem? (i := 6) rfl)), (hw _ (List.mem_of_getElem? (i := 74) rfl))⟩)
  have E_GREATER := Exa.start e_GREATER x_GREATER
  have F_GREATER : Fld s s.heap a_GREATER "java/lang/Enum" "ordinal" "I" (.int (2 : Int32)) := Fld.start ((fld_at e_GREATER).symm.trans (eqv_i rfl o_GREATER))
  obtain ⟨a_GREATER_OR_EQUAL, e_GREATER_OR_EQUAL⟩ := exa_v x_GREATER_OR_EQUAL
  have S_GREATER_OR_EQUAL := Sta.start e_GREATER_OR_EQUAL (Or.inr ⟨(hw _ (List.mem_of_getElem? (i := 6) rfl)), (hw _ (List.mem_of_getElem? (i := 80) rfl))⟩)
  have E_GREATER_OR_EQUAL := Exa.start e_GREATER_OR_EQUAL x_GREATER_OR_EQUAL
  have F_GREATER_OR_EQUAL : Fld s s.heap a_GREATER_OR_EQUAL "java/lang/Enum" "ordinal" "I" (.int (3 : Int32)) := Fld.start ((fld_at e_GREATER_OR_EQUAL).symm.trans (eqv_i rfl o_GREATER_OR_EQUAL))
  obtain ⟨a_EQUAL, e_EQUAL⟩ := exa_v x_EQUAL
  have S_EQUAL := Sta.start e_EQUAL (Or.inr ⟨(hw _ (List.mem_of_getElem? (i := 6) rfl)), (hw _ (List.mem_of_getElem? (i := 83) rfl))⟩)
  have E_EQUAL := Exa.start e_EQUAL x_EQUAL
  have F_EQUAL : Fld s s.heap a_EQUAL "java/lang/Enum" "ordinal" "I" (.int (4 : Int32)) := Fld.start ((fld_at e_EQUAL).symm.trans (eqv_i rfl o_EQUAL))
  obtain ⟨a_NOT_EQUAL, e_NOT_EQUAL⟩ := exa_v x_NOT_EQUAL
  have S_NOT_EQUAL := Sta.start e_NOT_EQUAL (Or.inr ⟨(hw _ (List.mem_of_getElem? (i := 6) rfl)), (hw _ (List.mem_of_getElem? (i := 77) rfl))⟩)
  have E_NOT_EQUAL := Exa.start e_NOT_EQUAL x_NOT_EQUAL
  have F_NOT_EQUAL : Fld s s.heap a_NOT_EQUAL "java/lang/Enum" "ordinal" "I" (.int (5 : Int32)) := Fld.start ((fld_at e_NOT_EQUAL).symm.trans (eqv_i rfl o_NOT_EQUAL))
  have nCS := not_v (Cond.before_iff.mp (hsets _ (List.mem_of_getElem? (i := 2) rfl)))
  obtain ⟨w_CS, e_CS⟩ := is_v (Cond.before_iff.mp (hsets _ (List.mem_of_getElem? (i := 1) rfl)))
  have S_CS : Sta s s.heap "java/lang/String" "COMPACT_STRINGS" "Z" (.int w_CS) := Sta.start e_CS (Or.inl (hsets _ (List.mem_of_getElem? (i := 0) rfl)))
  obtain ⟨u_SIO, e_SIO, r_SIO⟩ := isR_v (Cond.before_iff.mp (hsets _ (List.mem_of_getElem? (i := 8) rfl)))
  have S_SIO : Sta s s.heap "jdk/internal/util/Preconditions" "SIOOBE_FORMATTER" "Ljava/util/function/BiFunction;" u_SIO := Sta.start e_SIO (Or.inl (hsets _ (List.mem_of_getElem? (i := 7) rfl)))
  have c_CS : ¬ (w_CS = (0 : Int32)) := gotF (Cond.eq_ints e_CS (Term.int_eval (0))) nCS
  obtain ⟨n, o, h1, h2, h3, _, L, rfl, ⟨rfl, N⟩, hq⟩ := rm0 l s _ hw tables_1 p0 p1 p2 a_LESS a_LESS_OR_EQUAL a_GREATER a_GREATER_OR_EQUAL a_EQUAL a_NOT_EQUAL w_CS u_SIO s.heap s.heap.size (Nat.le_refl _) (S_LESS) (E_LESS) (F_LESS) (S_LESS_OR_EQUAL) (E_LESS_OR_EQUAL) (F_LESS_OR_EQUAL) (S_GREATER) (E_GREATER) (F_GREATER) (S_GREATER_OR_EQUAL) (E_GREATER_OR_EQUAL) (F_GREATER_OR_EQUAL) (S_EQUAL) (E_EQUAL) (F_EQUAL) (S_NOT_EQUAL) (E_NOT_EQUAL) (F_NOT_EQUAL) (S_CS) (S_SIO) (c_CS) (r_SIO) p e ha hc hk s m _ below hf ((Spec.applies_iff_loose hf).mp happ).1 ⟨rfl, State.Warmed39.refl s, rfl, CHv.start (own_ew hw) (fun p hp => hcalls.1 p hp) (hsets _ (List.mem_of_getElem? (i := 2) rfl)) (hw _ (List.mem_of_getElem? (i := 25) rfl)) (hw _ (List.mem_of_getElem? (i := 24) rfl))⟩ trivial
  refine ⟨n, _, h1, h2, h3, hpost _ _ _ _ _ _ ⟨Cond.after_iff.mpr rfl, Cond.after_iff.mpr (eq_i res_at (Term.int_eval (1)) rfl), trivial⟩ ⟨hq.1, hq.2.1, hq.2.2.1, (hq.2.2.2.sift fun y hy => Or.inr (N y hy)).mono (by decide) (by decide)⟩⟩
theorem main_1_1 : Claimed_1_1 := comes_1 fun _ _ _ _ _ _ h hF => ⟨h.1, hF⟩
theorem main_1_2 : Claimed_1_2 := comes_1 fun _ _ _ _ _ _ h hF => ⟨h.2.1, hF⟩
end Jvm.Pilot.@@N@@
namespace Jvm.Pilot.@@N@@
open Jvm Jvm.ClassFile Sem Op Lib Jvm.Free Jvm.Stand Jvm.Pilot.@@N@@.Jvm.D
/-! MADE BY PROGRAM (witnessworld.py) out of the Statement's table words and the real class files: 18 classes; the members and pool entries that the words name. The judged class is class 1, her method 2. -/
namespace start1
open Jvm.ClassFile
def u (s : String) : CpInfo := .utf8 (stringToUtf16 s)
/-- a pool by its gaps: so many unusable entries, then the entry; so many at the end -/
def gap : Nat → List CpInfo → List CpInfo
  | 0, r => r
  | n + 1, r => .unusable :: gap n r
def poolList (es : List (Nat × CpInfo)) (last : Nat) : List CpInfo := es.foldr (fun e r => gap e.1 (e.2 :: r)) (gap last [])
def pool (es : List (Nat × CpInfo)) (last : Nat) : Array CpInfo := ⟨poolList es last⟩
def fileOf (pool : Array CpInfo) (this : Nat) (attrs : Array Attribute := #[]) (ms : Array MethodInfo := #[]) (fl : Nat := 33) (sup : Nat := 0) (ifs : Array Nat := #[]) (fds : Array FieldInfo := #[]) : ClassFile where
  minorVersion := 0
  majorVersion := 65
  constantPool := pool
  accessFlags := fl
  thisClass := this
  superClass := sup
  interfaces := ifs
  fields := fds
  methods := ms
  attributes := attrs
def plain (name : String) (sup : Option ClassId) : Class where
  name := name
  kind := .ordinary
  loader := none
  accessFlags := 33
  super := sup
  interfaces := #[]
  cf := none
  fields := #[]
  methods := #[]
  instanceTypes := #[]
  staticTypes := #[]
  resolved := #[]
  callSites := []
  init := .initialized
  statics := none
  mirror := none

def pool0 : Array CpInfo := pool [(5, u "<init>"), (0, u "()V"), (1, .class_ 10), (1, u "java/lang/Object")] 113

def k0m0 : Method := { name := "<init>", desc := "()V", sig := { parameters := [], returnType := none }, accessFlags := 1, code := none }
/-- java/lang/Object -/
def k0 : Class := { plain "java/lang/Object" none with
  accessFlags := 33
  interfaces := #[]
  cf := some (fileOf pool0 8 #[] #[{ accessFlags := 1, nameIndex := 5, descriptorIndex := 6, attributes := #[] }] 33 0 #[] #[])
  fields := #[]
  methods := #[k0m0]
  instanceTypes := #[]
  staticTypes := #[]
  resolved := Array.replicate 124 none
  statics := none }

def pool1 : Array CpInfo := pool [(2, .class_ 4), (1, u "java/lang/Object"), (0, u "<init>"), (0, u "()V"), (0, .fieldref 8 9), (0, .class_ 10), (0, .nameAndType 11 12), (0, u "com/example/meshwatch/meshwatch/Relation"), (0, u "LESS"), (0, u "Lcom/example/meshwatch/meshwatch/Relation;"), (0, .fieldref 8 14), (0, .nameAndType 15 12), (0, u "LESS_OR_EQUAL"), (0, .fieldref 8 17), (0, .nameAndType 18 12), (0, u "GREATER"), (0, .fieldref 8 20), (0, .nameAndType 21 12), (0, u "GREATER_OR_EQUAL"), (0, .fieldref 8 23), (0, .nameAndType 24 12), (0, u "EQUAL"), (0, .fieldref 8 26), (0, .nameAndType 27 12), (0, u "NOT_EQUAL"), (0, .integer 2147483647), (0, .methodref 30 31), (0, .class_ 32), (0, .nameAndType 33 34), (0, u "com/example/meshwatch/meshwatch/RelationSymbolPinLaw"), (0, u "pick"), (0, u "(I)Lcom/example/meshwatch/meshwatch/Relation;"), (0, .methodref 8 36), (0, .nameAndType 37 38), (0, u "symbol"), (0, u "()Ljava/lang/String;"), (0, .methodref 40 41), (0, .class_ 42), (0, .nameAndType 43 44), (0, u "java/lang/String"), (0, u "length"), (0, u "()I"), (0, .methodref 40 46), (0, .nameAndType 47 48), (0, u "charAt"), (0, u "(I)C"), (0, .methodref 8 50), (0, .nameAndType 51 52), (0, u "holds"), (0, u "(DD)Z"), (3, u "law"), (0, u "(III)Z")] 2

def k1m0 : Method := { name := "<init>", desc := "()V", sig := { parameters := [], returnType := none }, accessFlags := 1, code := none }
def k1c1 : Code := { maxStack := 2, maxLocals := 1, code := method_2_code, exceptionTable := #[], attributes := #[] }
def k1m1 : Method := { name := "pick", desc := "(I)Lcom/example/meshwatch/meshwatch/Relation;", sig := { parameters := [.int], returnType := some (.object "com/example/meshwatch/meshwatch/Relation") }, accessFlags := 10, code := some k1c1 }
def k1c2 : Code := { maxStack := 5, maxLocals := 8, code := code, exceptionTable := #[], attributes := #[] }
def k1m2 : Method := { name := "law", desc := "(III)Z", sig := { parameters := [.int, .int, .int], returnType := some .boolean }, accessFlags := 9, code := some k1c2 }
/-- com/example/meshwatch/meshwatch/RelationSymbolPinLaw -/
def k1 : Class := { plain "com/example/meshwatch/meshwatch/RelationSymbolPinLaw" (some 0) with
  accessFlags := 49
  interfaces := #[]
  cf := some (fileOf pool1 30 #[] #[{ accessFlags := 1, nameIndex := 5, descriptorIndex := 6, attributes := #[] }, { accessFlags := 10, nameIndex := 33, descriptorIndex := 34, attributes := #[] }, { accessFlags := 9, nameIndex := 56, descriptorIndex := 57, attributes := #[] }] 49 2 #[] #[])
  fields := #[]
  methods := #[k1m0, k1m1, k1m2]
  instanceTypes := #[]
  staticTypes := #[]
  resolved := Array.replicate 60 none
  statics := none }

def pool2 : Array CpInfo := pool [(1, .class_ 2), (0, u "java/lang/constant/Constable"), (0, .class_ 4), (0, u "java/lang/Object")] 6

/-- java/lang/constant/Constable -/
def k2 : Class := { plain "java/lang/constant/Constable" (some 0) with
  accessFlags := 1537
  interfaces := #[]
  cf := some (fileOf pool2 1 #[] #[] 1537 3 #[] #[])
  fields := #[]
  methods := #[]
  instanceTypes := #[]
  staticTypes := #[]
  resolved := Array.replicate 11 none
  statics := none }

def pool3 : Array CpInfo := pool [(1, .class_ 2), (0, u "java/lang/Comparable"), (0, .class_ 4), (0, u "java/lang/Object")] 7

/-- java/lang/Comparable -/
def k3 : Class := { plain "java/lang/Comparable" (some 0) with
  accessFlags := 1537
  interfaces := #[]
  cf := some (fileOf pool3 1 #[] #[] 1537 3 #[] #[])
  fields := #[]
  methods := #[]
  instanceTypes := #[]
  staticTypes := #[]
  resolved := Array.replicate 12 none
  statics := none }

def pool4 : Array CpInfo := pool [(1, .class_ 2), (0, u "java/io/Serializable"), (0, .class_ 4), (0, u "java/lang/Object")] 2

/-- java/io/Serializable -/
def k4 : Class := { plain "java/io/Serializable" (some 0) with
  accessFlags := 1537
  interfaces := #[]
  cf := some (fileOf pool4 1 #[] #[] 1537 3 #[] #[])
  fields := #[]
  methods := #[]
  instanceTypes := #[]
  staticTypes := #[]
  resolved := Array.replicate 7 none
  statics := none }

def pool5 : Array CpInfo := pool [(2, .class_ 4), (1, u "java/lang/Enum"), (0, u "name"), (0, u "Ljava/lang/String;"), (0, .fieldref 2 8), (0, .nameAndType 9 10), (0, u "ordinal"), (0, u "I"), (1, .class_ 14), (1, u "java/lang/Object"), (4, u "hash"), (86, .class_ 108), (1, u "java/lang/Enum$EnumDesc"), (2, .class_ 112), (0, u "java/lang/constant/Constable"), (0, .class_ 114), (0, u "java/lang/Comparable"), (0, .class_ 116), (0, u "java/io/Serializable"), (9, u "()I")] 77

def k5c0 : Code := { maxStack := 1, maxLocals := 1, code := jdk_37_method_2_code, exceptionTable := #[], attributes := #[] }
def k5m0 : Method := { name := "ordinal", desc := "()I", sig := { parameters := [], returnType := some .int }, accessFlags := 17, code := some k5c0 }
/-- java/lang/Enum -/
def k5 : Class := { plain "java/lang/Enum" (some 0) with
  accessFlags := 1057
  interfaces := #[2, 3, 4]
  cf := some (fileOf pool5 2 #[.nestMembers #[106]] #[{ accessFlags := 17, nameIndex := 9, descriptorIndex := 126, attributes := #[] }] 1057 12 #[111, 113, 115] #[{ accessFlags := 18, nameIndex := 5, descriptorIndex := 6, attributes := #[] }, { accessFlags := 18, nameIndex := 9, descriptorIndex := 10, attributes := #[] }, { accessFlags := 2, nameIndex := 19, descriptorIndex := 10, attributes := #[] }])
  fields := #[{ name := "name", type := (.object "java/lang/String"), accessFlags := 18, slot := 0, constantValue := 0 }, { name := "ordinal", type := .int, accessFlags := 18, slot := 1, constantValue := 0 }, { name := "hash", type := .int, accessFlags := 2, slot := 2, constantValue := 0 }]
  methods := #[k5m0]
  instanceTypes := #[(.object "java/lang/String"), .int, .int]
  staticTypes := #[]
  resolved := Array.replicate 204 none
  statics := none }

def pool6 : Array CpInfo := pool [(1, .class_ 2), (0, u "com/example/meshwatch/meshwatch/Relation"), (2, u "LESS"), (0, u "Lcom/example/meshwatch/meshwatch/Relation;"), (2, u "LESS_OR_EQUAL"), (2, u "GREATER"), (2, u "GREATER_OR_EQUAL"), (2, u "EQUAL"), (2, u "NOT_EQUAL"), (2, u "$VALUES"), (0, u "[Lcom/example/meshwatch/meshwatch/Relation;"), (6, .class_ 34), (1, u "java/lang/Enum"), (6, .methodref 1 42), (0, .nameAndType 43 44), (0, u "ordinal"), (0, u "()I"), (5, .string 51), (0, u "<"), (0, .string 53), (0, u "<="), (0, .string 55), (0, u ">"), (0, .string 57), (0, u ">="), (0, .string 59), (0, u "=="), (0, .string 61), (0, u "!="), (2, u "holds"), (0, u "(DD)Z"), (12, u "symbol"), (0, u "()Ljava/lang/String;")] 32

def k6c0 : Code := { maxStack := 4, maxLocals := 1, code := prog_24_method_4_code, exceptionTable := #[], attributes := #[] }
def k6m0 : Method := { name := "symbol", desc := "()Ljava/lang/String;", sig := { parameters := [], returnType := some (.object "java/lang/String") }, accessFlags := 0, code := some k6c0 }
def k6c1 : Code := { maxStack := 4, maxLocals := 5, code := prog_24_method_5_code, exceptionTable := #[], attributes := #[] }
def k6m1 : Method := { name := "holds", desc := "(DD)Z", sig := { parameters := [.double, .double], returnType := some .boolean }, accessFlags := 0, code := some k6c1 }
/-- com/example/meshwatch/meshwatch/Relation -/
def k6 : Class := { plain "com/example/meshwatch/meshwatch/Relation" (some 5) with
  accessFlags := 16432
  interfaces := #[]
  cf := some (fileOf pool6 1 #[] #[{ accessFlags := 0, nameIndex := 78, descriptorIndex := 79, attributes := #[] }, { accessFlags := 0, nameIndex := 64, descriptorIndex := 65, attributes := #[] }] 16432 32 #[] #[{ accessFlags := 16409, nameIndex := 5, descriptorIndex := 6, attributes := #[] }, { accessFlags := 16409, nameIndex := 9, descriptorIndex := 6, attributes := #[] }, { accessFlags := 16409, nameIndex := 12, descriptorIndex := 6, attributes := #[] }, { accessFlags := 16409, nameIndex := 15, descriptorIndex := 6, attributes := #[] }, { accessFlags := 16409, nameIndex := 18, descriptorIndex := 6, attributes := #[] }, { accessFlags := 16409, nameIndex := 21, descriptorIndex := 6, attributes := #[] }, { accessFlags := 4122, nameIndex := 24, descriptorIndex := 25, attributes := #[] }])
  fields := #[{ name := "LESS", type := (.object "com/example/meshwatch/meshwatch/Relation"), accessFlags := 16409, slot := 0, constantValue := 0 }, { name := "LESS_OR_EQUAL", type := (.object "com/example/meshwatch/meshwatch/Relation"), accessFlags := 16409, slot := 1, constantValue := 0 }, { name := "GREATER", type := (.object "com/example/meshwatch/meshwatch/Relation"), accessFlags := 16409, slot := 2, constantValue := 0 }, { name := "GREATER_OR_EQUAL", type := (.object "com/example/meshwatch/meshwatch/Relation"), accessFlags := 16409, slot := 3, constantValue := 0 }, { name := "EQUAL", type := (.object "com/example/meshwatch/meshwatch/Relation"), accessFlags := 16409, slot := 4, constantValue := 0 }, { name := "NOT_EQUAL", type := (.object "com/example/meshwatch/meshwatch/Relation"), accessFlags := 16409, slot := 5, constantValue := 0 }, { name := "$VALUES", type := (.array (.object "com/example/meshwatch/meshwatch/Relation")), accessFlags := 4122, slot := 6, constantValue := 0 }]
  methods := #[k6m0, k6m1]
  instanceTypes := #[(.object "java/lang/String"), .int, .int]
  staticTypes := #[(.object "com/example/meshwatch/meshwatch/Relation"), (.object "com/example/meshwatch/meshwatch/Relation"), (.object "com/example/meshwatch/meshwatch/Relation"), (.object "com/example/meshwatch/meshwatch/Relation"), (.object "com/example/meshwatch/meshwatch/Relation"), (.object "com/example/meshwatch/meshwatch/Relation"), (.array (.object "com/example/meshwatch/meshwatch/Relation"))]
  resolved := Array.replicate 112 none
  statics := some 0 }

def pool7 : Array CpInfo := pool [(2, .class_ 4), (1, u "java/lang/CharSequence"), (42, .class_ 48), (0, u "java/lang/CharSequence$1CodePointIterator"), (10, .class_ 60), (0, u "java/lang/CharSequence$1CharIterator"), (5, .class_ 67), (0, u "java/lang/Object")] 63

/-- java/lang/CharSequence -/
def k7 : Class := { plain "java/lang/CharSequence" (some 0) with
  accessFlags := 1537
  interfaces := #[]
  cf := some (fileOf pool7 2 #[.nestMembers #[47, 59]] #[] 1537 66 #[] #[])
  fields := #[]
  methods := #[]
  instanceTypes := #[]
  staticTypes := #[]
  resolved := Array.replicate 131 none
  statics := none }

def pool8 : Array CpInfo := pool [(1, .class_ 2), (0, u "java/lang/constant/ConstantDesc"), (0, .class_ 4), (0, u "java/lang/Object")] 32

/-- java/lang/constant/ConstantDesc -/
def k8 : Class := { plain "java/lang/constant/ConstantDesc" (some 0) with
  accessFlags := 1537
  interfaces := #[]
  cf := some (fileOf pool8 1 #[] #[] 1537 3 #[] #[])
  fields := #[]
  methods := #[]
  instanceTypes := #[]
  staticTypes := #[]
  resolved := Array.replicate 37 none
  statics := none }

def pool9 : Array CpInfo := pool [(2, .class_ 4), (1, u "java/lang/Object"), (0, u "<init>"), (0, u "()V"), (2, .fieldref 10 11), (0, .class_ 12), (0, .nameAndType 13 14), (0, u "java/lang/String"), (0, u "value"), (0, u "[B"), (0, .fieldref 10 16), (0, .nameAndType 17 18), (0, u "coder"), (0, u "B"), (2, u "hash"), (0, u "I"), (2, u "hashIsZero"), (0, u "Z"), (11, .fieldref 10 39), (0, .nameAndType 40 26), (0, u "COMPACT_STRINGS"), (66, .class_ 109), (1, u "java/lang/StringLatin1"), (32, u "()Z"), (191, u "()I"), (0, .methodref 10 336), (0, .nameAndType 17 337), (0, u "()B"), (25, u "([BI)C"), (27, u "(II)V"), (35, u "(I)C"), (64, .methodref 10 493), (0, .nameAndType 494 142), (0, u "isLatin1"), (0, .methodref 107 496), (0, .nameAndType 497 363), (0, u "charAt"), (3, u "checkIndex"), (5, u "length"), (67, .class_ 576), (0, u "java/lang/CharSequence"), (22, u "CASE_INSENSITIVE_ORDER"), (0, u "Ljava/util/Comparator;"), (452, .fieldref 1054 1055), (0, .class_ 1056), (0, .nameAndType 1057 1058), (0, u "jdk/internal/util/Preconditions"), (0, u "SIOOBE_FORMATTER"), (0, u "Ljava/util/function/BiFunction;"), (0, .methodref 1054 1060), (0, .nameAndType 501 1061), (0, u "(IILjava/util/function/BiFunction;)I"), (39, u "serialPersistentFields"), (0, u "[Ljava/io/ObjectStreamField;"), (0, .class_ 1104), (0, u "java/lang/String$CaseInsensitiveComparator"), (1, .class_ 1107), (0, u "java/io/Serializable"), (0, .class_ 1109), (0, u "java/lang/Comparable"), (0, .class_ 1111), (0, u "java/lang/constant/Constable"), (0, .class_ 1113), (0, u "java/lang/constant/ConstantDesc"), (2, u "serialVersionUID"), (0, u "J"), (3, u "REPL"), (0, u "C"), (2, u "LATIN1"), (1, u "UTF16")] 323

def k9m0 : Method := { name := "<init>", desc := "()V", sig := { parameters := [], returnType := none }, accessFlags := 1, code := none }
def k9c1 : Code := { maxStack := 2, maxLocals := 1, code := jdk_42_method_54_code, exceptionTable := #[], attributes := #[] }
def k9m1 : Method := { name := "length", desc := "()I", sig := { parameters := [], returnType := some .int }, accessFlags := 1, code := some k9c1 }
def k9c2 : Code := { maxStack := 2, maxLocals := 2, code := jdk_42_method_56_code, exceptionTable := #[], attributes := #[] }
def k9m2 : Method := { name := "charAt", desc := "(I)C", sig := { parameters := [.int], returnType := some .char }, accessFlags := 1, code := some k9c2 }
def k9c3 : Code := { maxStack := 1, maxLocals := 1, code := jdk_42_method_152_code, exceptionTable := #[], attributes := #[] }
def k9m3 : Method := { name := "coder", desc := "()B", sig := { parameters := [], returnType := some .byte }, accessFlags := 0, code := some k9c3 }
def k9c4 : Code := { maxStack := 1, maxLocals := 1, code := jdk_42_method_154_code, exceptionTable := #[], attributes := #[] }
def k9m4 : Method := { name := "isLatin1", desc := "()Z", sig := { parameters := [], returnType := some .boolean }, accessFlags := 0, code := some k9c4 }
def k9c5 : Code := { maxStack := 3, maxLocals := 2, code := jdk_42_method_155_code, exceptionTable := #[], attributes := #[] }
def k9m5 : Method := { name := "checkIndex", desc := "(II)V", sig := { parameters := [.int, .int], returnType := none }, accessFlags := 8, code := some k9c5 }
/-- java/lang/String -/
def k9 : Class := { plain "java/lang/String" (some 0) with
  accessFlags := 49
  interfaces := #[4, 3, 7, 2, 8]
  cf := some (fileOf pool9 10 #[.nestMembers #[1103]] #[{ accessFlags := 1, nameIndex := 5, descriptorIndex := 6, attributes := #[] }, { accessFlags := 1, nameIndex := 507, descriptorIndex := 334, attributes := #[] }, { accessFlags := 1, nameIndex := 497, descriptorIndex := 427, attributes := #[] }, { accessFlags := 0, nameIndex := 17, descriptorIndex := 337, attributes := #[] }, { accessFlags := 0, nameIndex := 494, descriptorIndex := 142, attributes := #[] }, { accessFlags := 8, nameIndex := 501, descriptorIndex := 391, attributes := #[] }] 49 2 #[1106, 1108, 575, 1110, 1112] #[{ accessFlags := 18, nameIndex := 13, descriptorIndex := 14, attributes := #[] }, { accessFlags := 18, nameIndex := 17, descriptorIndex := 18, attributes := #[] }, { accessFlags := 2, nameIndex := 21, descriptorIndex := 22, attributes := #[] }, { accessFlags := 2, nameIndex := 25, descriptorIndex := 26, attributes := #[] }, { accessFlags := 26, nameIndex := 1116, descriptorIndex := 1117, attributes := #[] }, { accessFlags := 24, nameIndex := 40, descriptorIndex := 26, attributes := #[] }, { accessFlags := 26, nameIndex := 1101, descriptorIndex := 1102, attributes := #[] }, { accessFlags := 26, nameIndex := 1121, descriptorIndex := 1122, attributes := #[] }, { accessFlags := 25, nameIndex := 599, descriptorIndex := 600, attributes := #[] }, { accessFlags := 24, nameIndex := 1125, descriptorIndex := 18, attributes := #[] }, { accessFlags := 24, nameIndex := 1127, descriptorIndex := 18, attributes := #[] }])
  fields := #[{ name := "value", type := (.array .byte), accessFlags := 18, slot := 0, constantValue := 0 }, { name := "coder", type := .byte, accessFlags := 18, slot := 1, constantValue := 0 }, { name := "hash", type := .int, accessFlags := 2, slot := 2, constantValue := 0 }, { name := "hashIsZero", type := .boolean, accessFlags := 2, slot := 3, constantValue := 0 }, { name := "serialVersionUID", type := .long, accessFlags := 26, slot := 0, constantValue := 0 }, { name := "COMPACT_STRINGS", type := .boolean, accessFlags := 24, slot := 1, constantValue := 0 }, { name := "serialPersistentFields", type := (.array (.object "java/io/ObjectStreamField")), accessFlags := 26, slot := 2, constantValue := 0 }, { name := "REPL", type := .char, accessFlags := 26, slot := 3, constantValue := 0 }, { name := "CASE_INSENSITIVE_ORDER", type := (.object "java/util/Comparator"), accessFlags := 25, slot := 4, constantValue := 0 }, { name := "LATIN1", type := .byte, accessFlags := 24, slot := 5, constantValue := 0 }, { name := "UTF16", type := .byte, accessFlags := 24, slot := 6, constantValue := 0 }]
  methods := #[k9m0, k9m1, k9m2, k9m3, k9m4, k9m5]
  instanceTypes := #[(.array .byte), .byte, .int, .boolean]
  staticTypes := #[.long, .boolean, (.array (.object "java/io/ObjectStreamField")), .char, (.object "java/util/Comparator"), .byte, .byte]
  resolved := Array.replicate 1451 none
  statics := some 1 }

def pool10 : Array CpInfo := pool [(1, .class_ 2), (0, u "java/lang/String"), (1, .class_ 6), (1, u "java/lang/Object"), (0, u "<init>"), (0, u "()V"), (0, .methodref 1 10), (0, .nameAndType 11 12), (0, u "checkIndex"), (0, u "(II)V"), (1, .class_ 16), (1, u "java/lang/StringLatin1"), (36, u "([BI)C"), (67, u "$assertionsDisabled"), (0, u "Z"), (98, .class_ 223), (1, u "java/lang/StringLatin1$LinesSpliterator"), (28, u "charAt"), (137, .class_ 391), (0, u "java/lang/StringLatin1$CharsSpliterator")] 3

def k10m0 : Method := { name := "<init>", desc := "()V", sig := { parameters := [], returnType := none }, accessFlags := 0, code := none }
def k10c1 : Code := { maxStack := 2, maxLocals := 2, code := jdk_43_method_2_code, exceptionTable := #[], attributes := #[] }
def k10m1 : Method := { name := "charAt", desc := "([BI)C", sig := { parameters := [(.array .byte), .int], returnType := some .char }, accessFlags := 9, code := some k10c1 }
/-- java/lang/StringLatin1 -/
def k10 : Class := { plain "java/lang/StringLatin1" (some 0) with
  accessFlags := 48
  interfaces := #[]
  cf := some (fileOf pool10 14 #[.nestMembers #[390, 221]] #[{ accessFlags := 0, nameIndex := 7, descriptorIndex := 8, attributes := #[] }, { accessFlags := 9, nameIndex := 252, descriptorIndex := 53, attributes := #[] }] 48 4 #[] #[{ accessFlags := 4120, nameIndex := 121, descriptorIndex := 122, attributes := #[] }])
  fields := #[{ name := "$assertionsDisabled", type := .boolean, accessFlags := 4120, slot := 0, constantValue := 0 }]
  methods := #[k10m0, k10m1]
  instanceTypes := #[]
  staticTypes := #[.boolean]
  resolved := Array.replicate 395 none
  statics := none }

def pool11 : Array CpInfo := pool [(2, .class_ 4), (1, u "java/lang/Object"), (0, u "<init>"), (0, u "()V"), (17, .class_ 26), (1, u "jdk/internal/util/Preconditions"), (6, u "checkIndex"), (21, .class_ 56), (0, u "jdk/internal/util/Preconditions$4"), (57, .class_ 115), (0, u "jdk/internal/util/Preconditions$1"), (7, u "SIOOBE_FORMATTER"), (0, u "Ljava/util/function/BiFunction;"), (0, .class_ 126), (0, u "jdk/internal/util/Preconditions$2"), (3, u "AIOOBE_FORMATTER"), (0, .class_ 132), (0, u "jdk/internal/util/Preconditions$3"), (3, u "IOOBE_FORMATTER"), (41, u "(IILjava/util/function/BiFunction;)I")] 15

def k11m0 : Method := { name := "<init>", desc := "()V", sig := { parameters := [], returnType := none }, accessFlags := 1, code := none }
def k11c1 : Code := { maxStack := 3, maxLocals := 3, code := jdk_41_method_11_code, exceptionTable := #[], attributes := #[] }
def k11m1 : Method := { name := "checkIndex", desc := "(IILjava/util/function/BiFunction;)I", sig := { parameters := [.int, .int, (.object "java/util/function/BiFunction")], returnType := some .int }, accessFlags := 9, code := some k11c1 }
/-- jdk/internal/util/Preconditions -/
def k11 : Class := { plain "jdk/internal/util/Preconditions" (some 0) with
  accessFlags := 33
  interfaces := #[]
  cf := some (fileOf pool11 24 #[.nestMembers #[55, 131, 125, 114]] #[{ accessFlags := 1, nameIndex := 5, descriptorIndex := 6, attributes := #[] }, { accessFlags := 9, nameIndex := 33, descriptorIndex := 178, attributes := #[] }] 33 2 #[] #[{ accessFlags := 25, nameIndex := 123, descriptorIndex := 124, attributes := #[] }, { accessFlags := 25, nameIndex := 130, descriptorIndex := 124, attributes := #[] }, { accessFlags := 25, nameIndex := 136, descriptorIndex := 124, attributes := #[] }])
  fields := #[{ name := "SIOOBE_FORMATTER", type := (.object "java/util/function/BiFunction"), accessFlags := 25, slot := 0, constantValue := 0 }, { name := "AIOOBE_FORMATTER", type := (.object "java/util/function/BiFunction"), accessFlags := 25, slot := 1, constantValue := 0 }, { name := "IOOBE_FORMATTER", type := (.object "java/util/function/BiFunction"), accessFlags := 25, slot := 2, constantValue := 0 }]
  methods := #[k11m0, k11m1]
  instanceTypes := #[]
  staticTypes := #[(.object "java/util/function/BiFunction"), (.object "java/util/function/BiFunction"), (.object "java/util/function/BiFunction")]
  resolved := Array.replicate 194 none
  statics := some 2 }

def pool12 : Array CpInfo := pool [(9, u "<init>"), (6, .class_ 18), (1, u "java/lang/Object"), (0, u "()V"), (1, .class_ 23), (1, u "jdk/internal/util/ArraysSupport"), (0, u "LOG2_ARRAY_LONG_INDEX_SCALE"), (0, u "I"), (2, u "U"), (0, u "Ljdk/internal/misc/Unsafe;"), (8, u "BIG_ENDIAN"), (0, u "Z"), (8, u "LOG2_BYTE_BIT_SIZE"), (4, u "LOG2_ARRAY_INT_INDEX_SCALE"), (54, u "JLA"), (0, u "Ljdk/internal/access/JavaLangAccess;"), (11, u "LOG2_ARRAY_BOOLEAN_INDEX_SCALE"), (9, u "LOG2_ARRAY_BYTE_INDEX_SCALE"), (5, u "LOG2_ARRAY_CHAR_INDEX_SCALE"), (5, u "LOG2_ARRAY_SHORT_INDEX_SCALE"), (18, u "LOG2_ARRAY_FLOAT_INDEX_SCALE"), (24, u "LOG2_ARRAY_DOUBLE_INDEX_SCALE"), (89, u "T_BOOLEAN"), (2, u "T_CHAR"), (1, u "T_FLOAT"), (1, u "T_DOUBLE"), (1, u "T_BYTE"), (1, u "T_SHORT"), (1, u "T_INT"), (1, u "T_LONG"), (1, u "SOFT_MAX_ARRAY_LENGTH")] 83

def k12m0 : Method := { name := "<init>", desc := "()V", sig := { parameters := [], returnType := none }, accessFlags := 2, code := none }
/-- jdk/internal/util/ArraysSupport -/
def k12 : Class := { plain "jdk/internal/util/ArraysSupport" (some 0) with
  accessFlags := 33
  interfaces := #[]
  cf := some (fileOf pool12 21 #[] #[{ accessFlags := 2, nameIndex := 9, descriptorIndex := 19, attributes := #[] }] 33 16 #[] #[{ accessFlags := 24, nameIndex := 28, descriptorIndex := 29, attributes := #[] }, { accessFlags := 26, nameIndex := 38, descriptorIndex := 39, attributes := #[] }, { accessFlags := 25, nameIndex := 121, descriptorIndex := 25, attributes := #[] }, { accessFlags := 25, nameIndex := 131, descriptorIndex := 25, attributes := #[] }, { accessFlags := 25, nameIndex := 137, descriptorIndex := 25, attributes := #[] }, { accessFlags := 25, nameIndex := 143, descriptorIndex := 25, attributes := #[] }, { accessFlags := 25, nameIndex := 53, descriptorIndex := 25, attributes := #[] }, { accessFlags := 25, nameIndex := 24, descriptorIndex := 25, attributes := #[] }, { accessFlags := 25, nameIndex := 162, descriptorIndex := 25, attributes := #[] }, { accessFlags := 25, nameIndex := 187, descriptorIndex := 25, attributes := #[] }, { accessFlags := 26, nameIndex := 48, descriptorIndex := 25, attributes := #[] }, { accessFlags := 25, nameIndex := 277, descriptorIndex := 25, attributes := #[] }, { accessFlags := 25, nameIndex := 280, descriptorIndex := 25, attributes := #[] }, { accessFlags := 25, nameIndex := 282, descriptorIndex := 25, attributes := #[] }, { accessFlags := 25, nameIndex := 284, descriptorIndex := 25, attributes := #[] }, { accessFlags := 25, nameIndex := 286, descriptorIndex := 25, attributes := #[] }, { accessFlags := 25, nameIndex := 288, descriptorIndex := 25, attributes := #[] }, { accessFlags := 25, nameIndex := 290, descriptorIndex := 25, attributes := #[] }, { accessFlags := 25, nameIndex := 292, descriptorIndex := 25, attributes := #[] }, { accessFlags := 26, nameIndex := 108, descriptorIndex := 109, attributes := #[] }, { accessFlags := 25, nameIndex := 294, descriptorIndex := 25, attributes := #[] }])
  fields := #[{ name := "U", type := (.object "jdk/internal/misc/Unsafe"), accessFlags := 24, slot := 0, constantValue := 0 }, { name := "BIG_ENDIAN", type := .boolean, accessFlags := 26, slot := 1, constantValue := 0 }, { name := "LOG2_ARRAY_BOOLEAN_INDEX_SCALE", type := .int, accessFlags := 25, slot := 2, constantValue := 0 }, { name := "LOG2_ARRAY_BYTE_INDEX_SCALE", type := .int, accessFlags := 25, slot := 3, constantValue := 0 }, { name := "LOG2_ARRAY_CHAR_INDEX_SCALE", type := .int, accessFlags := 25, slot := 4, constantValue := 0 }, { name := "LOG2_ARRAY_SHORT_INDEX_SCALE", type := .int, accessFlags := 25, slot := 5, constantValue := 0 }, { name := "LOG2_ARRAY_INT_INDEX_SCALE", type := .int, accessFlags := 25, slot := 6, constantValue := 0 }, { name := "LOG2_ARRAY_LONG_INDEX_SCALE", type := .int, accessFlags := 25, slot := 7, constantValue := 0 }, { name := "LOG2_ARRAY_FLOAT_INDEX_SCALE", type := .int, accessFlags := 25, slot := 8, constantValue := 0 }, { name := "LOG2_ARRAY_DOUBLE_INDEX_SCALE", type := .int, accessFlags := 25, slot := 9, constantValue := 0 }, { name := "LOG2_BYTE_BIT_SIZE", type := .int, accessFlags := 26, slot := 10, constantValue := 0 }, { name := "T_BOOLEAN", type := .int, accessFlags := 25, slot := 11, constantValue := 0 }, { name := "T_CHAR", type := .int, accessFlags := 25, slot := 12, constantValue := 0 }, { name := "T_FLOAT", type := .int, accessFlags := 25, slot := 13, constantValue := 0 }, { name := "T_DOUBLE", type := .int, accessFlags := 25, slot := 14, constantValue := 0 }, { name := "T_BYTE", type := .int, accessFlags := 25, slot := 15, constantValue := 0 }, { name := "T_SHORT", type := .int, accessFlags := 25, slot := 16, constantValue := 0 }, { name := "T_INT", type := .int, accessFlags := 25, slot := 17, constantValue := 0 }, { name := "T_LONG", type := .int, accessFlags := 25, slot := 18, constantValue := 0 }, { name := "JLA", type := (.object "jdk/internal/access/JavaLangAccess"), accessFlags := 26, slot := 19, constantValue := 0 }, { name := "SOFT_MAX_ARRAY_LENGTH", type := .int, accessFlags := 25, slot := 20, constantValue := 0 }]
  methods := #[k12m0]
  instanceTypes := #[]
  staticTypes := #[(.object "jdk/internal/misc/Unsafe"), .boolean, .int, .int, .int, .int, .int, .int, .int, .int, .int, .int, .int, .int, .int, .int, .int, .int, .int, (.object "jdk/internal/access/JavaLangAccess"), .int]
  resolved := Array.replicate 378 none
  statics := none }

def pool13 : Array CpInfo := pool [(1, u "java/lang/Cloneable"), (0, .class_ 1), (0, u "java/lang/Object"), (0, .class_ 3)] 3

/-- java/lang/Cloneable -/
def k13 : Class := { plain "java/lang/Cloneable" (some 0) with
  accessFlags := 1537
  interfaces := #[]
  cf := some (fileOf pool13 2 #[] #[] 1537 4 #[] #[])
  fields := #[]
  methods := #[]
  instanceTypes := #[]
  staticTypes := #[]
  resolved := Array.replicate 8 none
  statics := none }

/-- the primitive byte -/
def k14 : Class := { plain "byte" none with kind := .primitive 'B', accessFlags := 0x411 }
/-- [B -/
def k15 : Class := { plain "[B" (some 0) with kind := .array 14 .byte, interfaces := #[13, 4], accessFlags := 1041 }

/-- the primitive int -/
def k16 : Class := { plain "int" none with kind := .primitive 'I', accessFlags := 0x411 }
/-- [I -/
def k17 : Class := { plain "[I" (some 0) with kind := .array 16 .int, interfaces := #[13, 4], accessFlags := 1041 }

def heap : Heap := #[{ cls := 6, slots := #[.ref 3, .ref 4, .ref 5, .ref 6, .ref 7, .ref 8, .null], vm := .statics 6 },
  { cls := 9, slots := #[.long 0, .int 1, .null, .int 0, .null, .int 0, .int 0], vm := .statics 9 },
  { cls := 11, slots := #[.null, .null, .null], vm := .statics 11 },
  { cls := 6, slots := #[.null, .int 0, .int 0], vm := .none },
  { cls := 6, slots := #[.null, .int 1, .int 0], vm := .none },
  { cls := 6, slots := #[.null, .int 2, .int 0], vm := .none },
  { cls := 6, slots := #[.null, .int 3, .int 0], vm := .none },
  { cls := 6, slots := #[.null, .int 4, .int 0], vm := .none },
  { cls := 6, slots := #[.null, .int 5, .int 0], vm := .none }]
def classes : Array Class := #[k0, k1, k2, k3, k4, k5, k6, k7, k8, k9, k10, k11, k12, k13, k14, k15, k16, k17]
def interned : List (Array UInt16 × Addr) := []
def slotsUsed : Nat := 35
def theMethod : MethodId := ⟨1, 2⟩
def args0 : Array Value := #[.int 1, .int 1, .int 1]
def aboutOver (below : List Frame) : State where
  vm := { classes := classes, interned := interned.toArray }
  heap := heap
  slotsUsed := slotsUsed
  threads := #[{ frames := .invoking theMethod args0 :: below }]
def below0 : List Frame := [.native { method := ⟨0, 0⟩, args := #[] }]
def about1 : State := aboutOver below0
def p0 : Program := .bare "" "" ""
def e0 : Env := launch0.env 0 0 0
theorem w_frames : about1.frames = Frame.invoking theMethod args0 :: below0 := rfl
set_option maxRecDepth 65536 in
theorem w_args : argsFit about1.vm theMethod args0 = true := by decide +kernel
set_option maxRecDepth 65536 in
theorem w_heap : heapFits about1 = true := by decide +kernel
set_option maxRecDepth 65536 in
theorem w_runnable : about1.curStatus? = some .runnable := by decide +kernel
set_option maxRecDepth 65536 in
theorem w_alone : about1.alone = true := by decide +kernel
set_option maxRecDepth 65536 in
theorem w_named : about1.methodNamed? x = some theMethod := by decide +kernel
set_option maxRecDepth 65536 in
theorem w_hears : about1.hears theMethod below0 = true := by decide +kernel
set_option maxRecDepth 65536 in
theorem w_ripe : about1.ripe theMethod args0 below0 = true := by decide +kernel
theorem w_running : about1.status = .running := rfl
set_option maxRecDepth 65536 in
theorem w_room : about1.hasRoom e0.platform room_1 = true :=
  launch0.hasRoom_least _ room_1 (by decide +kernel) (by decide +kernel) (by decide +kernel) (by decide +kernel) (by decide +kernel) (by decide +kernel)
theorem allAtoms_all (ts : List Jvm.Cond) (a : Array Jvm.Value) (st : Jvm.State) : (allAtoms ts).before a st = ts.all (fun c => c.before a st) := by
  induction ts with
  | nil => rfl
  | cons c t ih =>
    show (Jvm.Cond.and c (allAtoms t)).before a st = _
    rw [Jvm.Cond.before_and, ih, List.all_cons]
def words1 : List Jvm.Cond := Jvm.Cond.code x code maxLocals ret :: tables_1
/-- a 'code' word, met by the world's own term for the bytes: nothing is compared byte by byte -/
theorem code_word {y : MethodName} {bytes : ByteArray} {mx : Nat} {rt : Option FieldType} {a : Array Value} {s : State} {m : MethodId} {meth : Method} {c : Code} (h1 : s.methodNamed? y = some m) (h2 : s.vm.method? m = some meth) (h3 : meth.code = some c) (h4 : c.code = bytes)
    (h5 : (c.maxLocals == mx && c.exceptionTable.isEmpty && decide (c.maxStack ≤ mostOperands) && decide (meth.sig.returnType = rt) && !meth.locks && decide (parseMethodDescriptor y.desc = some meth.sig)) = true) : (Jvm.Cond.code y bytes mx rt).before a s = true := by
  simp only [Bool.and_eq_true, beq_iff_eq, Bool.not_eq_true', decide_eq_true_eq] at h5
  obtain ⟨⟨⟨⟨⟨g1, g2⟩, g3⟩, g4⟩, g5⟩, g6⟩ := h5
  simp [Cond.before, Cond.holds, Cond.value, h1, h2, h3, h4, g1, g2, g3, g4, g5, g6]
def isCode : Jvm.Cond → Bool
  | .code _ _ _ _ => true
  | _ => false
theorem all_split {L : List Jvm.Cond} {P : Jvm.Cond → Bool} (h1 : L.all (fun c => isCode c || P c) = true) (h2 : ∀ c ∈ L.filter isCode, P c = true) : L.all P = true := by
  refine List.all_eq_true.mpr fun c hc => ?_
  have h := List.all_eq_true.mp h1 c hc
  rcases Bool.eq_false_or_eq_true (isCode c) with hi | hi
  · exact h2 c (List.mem_filter.mpr ⟨hc, hi⟩)
  · simpa [hi] using h
set_option maxRecDepth 65536 in
theorem w_c0 : (Jvm.Cond.code x code maxLocals ret).before args0 about1 = true := code_word (m := ⟨1, 2⟩) (meth := k1m2) (c := k1c2) (by decide +kernel) rfl rfl rfl (by decide +kernel)
set_option maxRecDepth 65536 in
theorem w_c1 : (Jvm.Cond.code ({ cls := "com/example/meshwatch/meshwatch/RelationSymbolPinLaw", name := "pick", desc := "(I)Lcom/example/meshwatch/meshwatch/Relation;" } : Jvm.MethodName) method_2_code (1 : Nat) (Option.some (Jvm.ClassFile.FieldType.object "com/example/meshwatch/meshwatch/Relation"))).before args0 about1 = true := code_word (m := ⟨1, 1⟩) (meth := k1m1) (c := k1c1) (by decide +kernel) rfl rfl rfl (by decide +kernel)
set_option maxRecDepth 65536 in
theorem w_c2 : (Jvm.Cond.code ({ cls := "com/example/meshwatch/meshwatch/Relation", name := "symbol", desc := "()Ljava/lang/String;" } : Jvm.MethodName) prog_24_method_4_code (1 : Nat) (Option.some (Jvm.ClassFile.FieldType.object "java/lang/String"))).before args0 about1 = true := code_word (m := ⟨6, 0⟩) (meth := k6m0) (c := k6c0) (by decide +kernel) rfl rfl rfl (by decide +kernel)
set_option maxRecDepth 65536 in
theorem w_c3 : (Jvm.Cond.code ({ cls := "java/lang/Enum", name := "ordinal", desc := "()I" } : Jvm.MethodName) jdk_37_method_2_code (1 : Nat) (Option.some Jvm.ClassFile.FieldType.int)).before args0 about1 = true := code_word (m := ⟨5, 0⟩) (meth := k5m0) (c := k5c0) (by decide +kernel) rfl rfl rfl (by decide +kernel)
set_option maxRecDepth 65536 in
theorem w_c4 : (Jvm.Cond.code ({ cls := "java/lang/String", name := "length", desc := "()I" } : Jvm.MethodName) jdk_42_method_54_code (1 : Nat) (Option.some Jvm.ClassFile.FieldType.int)).before args0 about1 = true := code_word (m := ⟨9, 1⟩) (meth := k9m1) (c := k9c1) (by decide +kernel) rfl rfl rfl (by decide +kernel)
set_option maxRecDepth 65536 in
theorem w_c5 : (Jvm.Cond.code ({ cls := "java/lang/String", name := "coder", desc := "()B" } : Jvm.MethodName) jdk_42_method_152_code (1 : Nat) (Option.some Jvm.ClassFile.FieldType.byte)).before args0 about1 = true := code_word (m := ⟨9, 3⟩) (meth := k9m3) (c := k9c3) (by decide +kernel) rfl rfl rfl (by decide +kernel)
set_option maxRecDepth 65536 in
theorem w_c6 : (Jvm.Cond.code ({ cls := "java/lang/String", name := "charAt", desc := "(I)C" } : Jvm.MethodName) jdk_42_method_56_code (2 : Nat) (Option.some Jvm.ClassFile.FieldType.char)).before args0 about1 = true := code_word (m := ⟨9, 2⟩) (meth := k9m2) (c := k9c2) (by decide +kernel) rfl rfl rfl (by decide +kernel)
set_option maxRecDepth 65536 in
theorem w_c7 : (Jvm.Cond.code ({ cls := "java/lang/String", name := "isLatin1", desc := "()Z" } : Jvm.MethodName) jdk_42_method_154_code (1 : Nat) (Option.some Jvm.ClassFile.FieldType.boolean)).before args0 about1 = true := code_word (m := ⟨9, 4⟩) (meth := k9m4) (c := k9c4) (by decide +kernel) rfl rfl rfl (by decide +kernel)
set_option maxRecDepth 65536 in
theorem w_c8 : (Jvm.Cond.code ({ cls := "java/lang/StringLatin1", name := "charAt", desc := "([BI)C" } : Jvm.MethodName) jdk_43_method_2_code (2 : Nat) (Option.some Jvm.ClassFile.FieldType.char)).before args0 about1 = true := code_word (m := ⟨10, 1⟩) (meth := k10m1) (c := k10c1) (by decide +kernel) rfl rfl rfl (by decide +kernel)
set_option maxRecDepth 65536 in
theorem w_c9 : (Jvm.Cond.code ({ cls := "java/lang/String", name := "checkIndex", desc := "(II)V" } : Jvm.MethodName) jdk_42_method_155_code (2 : Nat) (Option.none : Option Jvm.ClassFile.FieldType)).before args0 about1 = true := code_word (m := ⟨9, 5⟩) (meth := k9m5) (c := k9c5) (by decide +kernel) rfl rfl rfl (by decide +kernel)
set_option maxRecDepth 65536 in
theorem w_c10 : (Jvm.Cond.code ({ cls := "jdk/internal/util/Preconditions", name := "checkIndex", desc := "(IILjava/util/function/BiFunction;)I" } : Jvm.MethodName) jdk_41_method_11_code (3 : Nat) (Option.some Jvm.ClassFile.FieldType.int)).before args0 about1 = true := code_word (m := ⟨11, 1⟩) (meth := k11m1) (c := k11c1) (by decide +kernel) rfl rfl rfl (by decide +kernel)
set_option maxRecDepth 65536 in
theorem w_c11 : (Jvm.Cond.code ({ cls := "com/example/meshwatch/meshwatch/Relation", name := "holds", desc := "(DD)Z" } : Jvm.MethodName) prog_24_method_5_code (5 : Nat) (Option.some Jvm.ClassFile.FieldType.boolean)).before args0 about1 = true := code_word (m := ⟨6, 1⟩) (meth := k6m1) (c := k6c1) (by decide +kernel) rfl rfl rfl (by decide +kernel)
def codes1 : List Jvm.Cond := [Jvm.Cond.code x code maxLocals ret, Jvm.Cond.code ({ cls := "com/example/meshwatch/meshwatch/RelationSymbolPinLaw", name := "pick", desc := "(I)Lcom/example/meshwatch/meshwatch/Relation;" } : Jvm.MethodName) method_2_code (1 : Nat) (Option.some (Jvm.ClassFile.FieldType.object "com/example/meshwatch/meshwatch/Relation")), Jvm.Cond.code ({ cls := "com/example/meshwatch/meshwatch/Relation", name := "symbol", desc := "()Ljava/lang/String;" } : Jvm.MethodName) prog_24_method_4_code (1 : Nat) (Option.some (Jvm.ClassFile.FieldType.object "java/lang/String")), Jvm.Cond.code ({ cls := "java/lang/Enum", name := "ordinal", desc := "()I" } : Jvm.MethodName) jdk_37_method_2_code (1 : Nat) (Option.some Jvm.ClassFile.FieldType.int), Jvm.Cond.code ({ cls := "java/lang/String", name := "length", desc := "()I" } : Jvm.MethodName) jdk_42_method_54_code (1 : Nat) (Option.some Jvm.ClassFile.FieldType.int), Jvm.Cond.code ({ cls := "java/lang/String", name := "coder", desc := "()B" } : Jvm.MethodName) jdk_42_method_152_code (1 : Nat) (Option.some Jvm.ClassFile.FieldType.byte), Jvm.Cond.code ({ cls := "java/lang/String", name := "charAt", desc := "(I)C" } : Jvm.MethodName) jdk_42_method_56_code (2 : Nat) (Option.some Jvm.ClassFile.FieldType.char), Jvm.Cond.code ({ cls := "java/lang/String", name := "isLatin1", desc := "()Z" } : Jvm.MethodName) jdk_42_method_154_code (1 : Nat) (Option.some Jvm.ClassFile.FieldType.boolean), Jvm.Cond.code ({ cls := "java/lang/StringLatin1", name := "charAt", desc := "([BI)C" } : Jvm.MethodName) jdk_43_method_2_code (2 : Nat) (Option.some Jvm.ClassFile.FieldType.char), Jvm.Cond.code ({ cls := "java/lang/String", name := "checkIndex", desc := "(II)V" } : Jvm.MethodName) jdk_42_method_155_code (2 : Nat) (Option.none : Option Jvm.ClassFile.FieldType), Jvm.Cond.code ({ cls := "jdk/internal/util/Preconditions", name := "checkIndex", desc := "(IILjava/util/function/BiFunction;)I" } : Jvm.MethodName) jdk_41_method_11_code (3 : Nat) (Option.some Jvm.ClassFile.FieldType.int), Jvm.Cond.code ({ cls := "com/example/meshwatch/meshwatch/Relation", name := "holds", desc := "(DD)Z" } : Jvm.MethodName) prog_24_method_5_code (5 : Nat) (Option.some Jvm.ClassFile.FieldType.boolean)]
set_option maxRecDepth 65536 in
theorem codes_eq : words1.filter isCode = codes1 := rfl
theorem w_codes : ∀ c ∈ words1.filter isCode, c.before args0 about1 = true := by
  rw [codes_eq]
  intro c hc
  simp only [codes1, List.mem_cons, List.not_mem_nil, or_false] at hc
  rcases hc with rfl | rfl | rfl | rfl | rfl | rfl | rfl | rfl | rfl | rfl | rfl | rfl
  · exact w_c0
  · exact w_c1
  · exact w_c2
  · exact w_c3
  · exact w_c4
  · exact w_c5
  · exact w_c6
  · exact w_c7
  · exact w_c8
  · exact w_c9
  · exact w_c10
  · exact w_c11
set_option maxRecDepth 65536 in
theorem w_t1 : (words1.take 24).all (fun c => isCode c || c.before args0 about1) = true := by decide +kernel
set_option maxRecDepth 65536 in
theorem w_t2 : ((words1.drop 24).take 24).all (fun c => isCode c || c.before args0 about1) = true := by decide +kernel
set_option maxRecDepth 65536 in
theorem w_t3 : (((words1.drop 24).drop 24).take 24).all (fun c => isCode c || c.before args0 about1) = true := by decide +kernel
set_option maxRecDepth 65536 in
theorem w_t4 : (((words1.drop 24).drop 24).drop 24).all (fun c => isCode c || c.before args0 about1) = true := by decide +kernel
theorem w_tables : (allAtoms (Jvm.Cond.code x code maxLocals ret :: tables_1)).before args0 about1 = true := by
  rw [allAtoms_all]
  show words1.all (fun c => c.before args0 about1) = true
  refine all_split ?_ w_codes
  rw [← List.take_append_drop 24 words1, List.all_append, w_t1, ← List.take_append_drop 24 (words1.drop 24), List.all_append, w_t2, ← List.take_append_drop 24 ((words1.drop 24).drop 24), List.all_append, w_t3, w_t4]
  rfl
set_option maxRecDepth 65536 in
theorem w_rest : rest_1_c.before args0 about1 = true := by decide +kernel
set_option maxRecDepth 65536 in
theorem w_case : (Jvm.Cond.and given_1 narrow_1).before args0 about1 = true := by decide +kernel
set_option maxRecDepth 65536 in
theorem w_consts : constsHeld consts_1 about1 := Jvm.Lit.constsHeldB_iff.mp (by decide +kernel)
theorem w_applies : (headSpec (Jvm.Cond.code x code maxLocals ret :: tables_1) room_1).applies x e0.platform about1 = true :=
  (Spec.applies_iff w_frames).mpr ⟨w_running, w_runnable, w_alone, w_named, w_hears, w_ripe, w_room, w_tables⟩
theorem atStart : AtStart classFile x code maxLocals ret World_1 tables_1 room_1 Calls_1 rest_1 Pre_1 launch0 p0 e0 about1 theMethod args0 below0 :=
  ⟨lists_1, trivial, launch0.admits_env _ _ _, launch0.least_env, fairChoices_fair.cas, fairChoices_fair.clock, w_frames, w_args, w_heap, w_applies, ⟨w_consts, trivial⟩, w_rest, w_case⟩
end start1
theorem witness_1 : WitnessClaimed_1 := ⟨start1.p0, start1.e0, start1.about1, start1.theMethod, start1.args0, start1.below0, start1.atStart⟩
end Jvm.Pilot.@@N@@
