import JvmDerived
import JvmDerived.Pilot.@@N@@Statement
import JvmDerived.Pilot.@@N@@Code
set_option linter.unusedVariables false
set_option linter.unusedSimpArgs false
namespace Jvm.Pilot.@@N@@
open Jvm Jvm.ClassFile Sem Op Lib Jvm.Free Jvm.Stand Jvm.LawKit Jvm.RoadKit Bundle Jvm.Pilot.@@N@@.Jvm.D
section OwnRoad
variable {p : Program} {l : Launch} {e : Env} {R : Room} {s : State} {m : MethodId} {args : Array Value} {below : List Frame} {meth : Method} {c : Code} {T : State} {locs : List Loc} {cells slots : Nat}
/-- from A the run comes to an end of which G speaks -/
def OEnds (tb : Tables) (e : Env) (below : List Frame) (G : Outcome → State → Prop) (A : State) : Prop := ∃ s₂ o, Steps tb e below A s₂ ∧ s₂.status = .running ∧ Ended s₂ below o ∧ G o s₂
theorem OEnds.st {tb : Tables} {e : Env} {below : List Frame} {G : Outcome → State → Prop} {A B : State} (h : ∀ t, Steps tb e below B t → Steps tb e below A t) (k : OEnds tb e below G B) : OEnds tb e below G A := by
  obtain ⟨s, o, h1, h2⟩ := k
  exact ⟨s, o, h _ h1, h2⟩
def OGoal (Q : Option Value → Heap → List Loc → Prop) (s : State) (C S : Nat) (o : Outcome) (t : State) : Prop := ∃ v L, o = .returned v ∧ Q v t.heap L ∧ FrameEnd s o t L C S
theorem OEnds.out (X : Stand p l e R s m args below meth c T locs cells slots) (hlk : meth.locks = false) {v : Option Value} (hv : meth.sig.returnType = none → v = none) {Q : Option Value → Heap → List Loc → Prop} {C S : Nat} {A : State}
    (st : ∀ fs, (∀ (f : JFrame) (acts : List Action), f.method = m → f.locked = none → f.entered = [] → (doReturn e (T.setTop f) acts v).1 = T.setFrames fs) → Steps p.tables e below A (T.setFrames fs)) (hc : cells ≤ C) (hs : slots ≤ S) (hQ : Q v T.heap locs) : OEnds p.tables e below (OGoal Q s C S) A := by
  obtain ⟨fs, hr, hrun, hended, hW, hsame⟩ := X.leave (v := v) hv hlk
  exact ⟨_, _, st fs hr, hrun, hended, _, _, rfl, hQ, ⟨_, rfl⟩, hW, hsame.mono hc hs⟩
theorem OEnds.retI (X : Stand p l e R s m args below meth c T locs cells slots) (hx : p.tables.exec = Jvm.exec) (hlk : meth.locks = false) (hret : meth.sig.returnType = some .int) {pc : Nat} {Ls : Array Slot} {z : Int32} {rest : List Value} (hd : decode c.code pc = .ok (.ireturn, 1)) {Q : Option Value → Heap → List Loc → Prop} {C S : Nat} (hc : cells ≤ C) (hs : slots ≤ S) (hQ : Q (some (.int z)) T.heap locs) :
    OEnds p.tables e below (OGoal Q s C S) (T.setTop (mkF m pc Ls (.int z :: rest))) :=
  OEnds.out X hlk (fun h => by rw [hret] at h; cases h) (fun fs hr => retOut X hx hret rfl (Or.inl ⟨rfl, Or.inl rfl, _, rfl⟩) hd hr) hc hs hQ
theorem OEnds.retZ (X : Stand p l e R s m args below meth c T locs cells slots) (hx : p.tables.exec = Jvm.exec) (hlk : meth.locks = false) (hret : meth.sig.returnType = some .boolean) {pc : Nat} {Ls : Array Slot} {z : Int32} {rest : List Value} (hz : nar .boolean z = z) (hd : decode c.code pc = .ok (.ireturn, 1)) {Q : Option Value → Heap → List Loc → Prop} {C S : Nat} (hc : cells ≤ C) (hs : slots ≤ S) (hQ : Q (some (.int z)) T.heap locs) :
    OEnds p.tables e below (OGoal Q s C S) (T.setTop (mkF m pc Ls (.int z :: rest))) :=
  OEnds.out X hlk (fun h => by rw [hret] at h; cases h) (fun fs hr => retN X hx (t := .boolean) hret (Or.inl rfl) hd (by rw [hz]; exact hr)) hc hs hQ
theorem OEnds.retB (X : Stand p l e R s m args below meth c T locs cells slots) (hx : p.tables.exec = Jvm.exec) (hlk : meth.locks = false) (hret : meth.sig.returnType = some .byte) {pc : Nat} {Ls : Array Slot} {z : Int32} {rest : List Value} (hz : nar .byte z = z) (hd : decode c.code pc = .ok (.ireturn, 1)) {Q : Option Value → Heap → List Loc → Prop} {C S : Nat} (hc : cells ≤ C) (hs : slots ≤ S) (hQ : Q (some (.int z)) T.heap locs) :
    OEnds p.tables e below (OGoal Q s C S) (T.setTop (mkF m pc Ls (.int z :: rest))) :=
  OEnds.out X hlk (fun h => by rw [hret] at h; cases h) (fun fs hr => retN X hx (t := .byte) hret (Or.inr (Or.inl rfl)) hd (by rw [hz]; exact hr)) hc hs hQ
theorem OEnds.retJ (X : Stand p l e R s m args below meth c T locs cells slots) (hx : p.tables.exec = Jvm.exec) (hlk : meth.locks = false) (hret : meth.sig.returnType = some .long) {pc : Nat} {Ls : Array Slot} {z : Int64} {rest : List Value} (hd : decode c.code pc = .ok (.lreturn, 1)) {Q : Option Value → Heap → List Loc → Prop} {C S : Nat} (hc : cells ≤ C) (hs : slots ≤ S) (hQ : Q (some (.long z)) T.heap locs) :
    OEnds p.tables e below (OGoal Q s C S) (T.setTop (mkF m pc Ls (.long z :: rest))) :=
  OEnds.out X hlk (fun h => by rw [hret] at h; cases h) (fun fs hr => retOut X hx hret rfl (Or.inr (Or.inl ⟨rfl, rfl, _, rfl⟩)) hd hr) hc hs hQ
theorem OEnds.retD (X : Stand p l e R s m args below meth c T locs cells slots) (hx : p.tables.exec = Jvm.exec) (hlk : meth.locks = false) (hret : meth.sig.returnType = some .double) {pc : Nat} {Ls : Array Slot} {z : UInt64} {rest : List Value} (hd : decode c.code pc = .ok (.dreturn, 1)) {Q : Option Value → Heap → List Loc → Prop} {C S : Nat} (hc : cells ≤ C) (hs : slots ≤ S) (hQ : Q (some (.double z)) T.heap locs) :
    OEnds p.tables e below (OGoal Q s C S) (T.setTop (mkF m pc Ls (.double z :: rest))) :=
  OEnds.out X hlk (fun h => by rw [hret] at h; cases h) (fun fs hr => retOut X hx hret rfl (Or.inr (Or.inr (Or.inl ⟨rfl, rfl, _, rfl⟩))) hd hr) hc hs hQ
theorem OEnds.retA (X : Stand p l e R s m args below meth c T locs cells slots) (hx : p.tables.exec = Jvm.exec) (hlk : meth.locks = false) {t : FieldType} (hret : meth.sig.returnType = some t) {pc : Nat} {Ls : Array Slot} {w : Value} {rest : List Value} (hw : w.isRef = true) (ht : t.isReference = true) (hd : decode c.code pc = .ok (.areturn, 1)) {Q : Option Value → Heap → List Loc → Prop} {C S : Nat} (hc : cells ≤ C) (hs : slots ≤ S) (hQ : Q (some w) T.heap locs) :
    OEnds p.tables e below (OGoal Q s C S) (T.setTop (mkF m pc Ls (w :: rest))) :=
  OEnds.out X hlk (fun h => by rw [hret] at h; cases h) (fun fs hr => retOut X hx hret (by cases t <;> cases w <;> first | rfl | (cases ht; done) | (cases hw; done)) (Or.inr (Or.inr (Or.inr (Or.inr ⟨rfl, ht, hw⟩)))) hd hr) hc hs hQ
theorem OEnds.retV (X : Stand p l e R s m args below meth c T locs cells slots) (hx : p.tables.exec = Jvm.exec) (hlk : meth.locks = false) (hret : meth.sig.returnType = none) {pc : Nat} {Ls : Array Slot} (hd : decode c.code pc = .ok (.return_, 1)) {Q : Option Value → Heap → List Loc → Prop} {C S : Nat} (hc : cells ≤ C) (hs : slots ≤ S) (hQ : Q none T.heap locs) :
    OEnds p.tables e below (OGoal Q s C S) (T.setTop (mkF m pc Ls [])) :=
  OEnds.out X hlk (fun _ => rfl) (fun fs hr => X.returnOut hx hret hd hr) hc hs hQ
def OGoalW (Q : Option Value → Heap → List Loc → Prop) (s : State) (C S : Nat) (o : Outcome) (t : State) : Prop := ∃ v L, o = .returned v ∧ Q v t.heap L ∧ Jvm.ReturnedEndW s o t L C S
theorem own_growW {s t : State} {o : Outcome} {L : List Loc} {k n k' n' : Nat} (h : Jvm.ReturnedEndW s o t L k n) (hk : k ≤ k') (hn : n ≤ n') : Jvm.ReturnedEndW s o t L k' n' := ⟨h.1, h.2.1, h.2.2.1, h.2.2.2.mono hk hn⟩
theorem OEnds.retZW {vm0 : Vm} (X : Stand p l e R (s.setVm vm0) m args below meth c T locs cells slots) {n : Nat} (hS : s.Since vm0 n) (hn : n ≤ T.heap.size) (hx : p.tables.exec = Jvm.exec) (hlk : meth.locks = false) (hret : meth.sig.returnType = some .boolean) {pc : Nat} {Ls : Array Slot} {z : Int32} {rest : List Value} (hz : nar .boolean z = z) (hd : decode c.code pc = .ok (.ireturn, 1)) {Q : Option Value → Heap → List Loc → Prop} {C S : Nat} (hc : cells ≤ C) (hs : slots ≤ S) (hQ : Q (some (.int z)) T.heap locs) :
    OEnds p.tables e below (OGoalW Q s C S) (T.setTop (mkF m pc Ls (.int z :: rest))) := by
  obtain ⟨fs, hr, hrun, hended, hW⟩ := X.leaveW hS hn (v := some (.int z)) (fun h => by rw [hret] at h; cases h) hlk
  exact ⟨_, _, retN X hx (t := .boolean) hret (Or.inl rfl) hd (by rw [hz]; exact hr), hrun, hended, _, _, rfl, hQ, own_growW hW hc hs⟩
theorem own_b8 (x : Int32) : nar .byte (x.toInt8.toInt32) = x.toInt8.toInt32 := by
  show (x.toInt8.toInt32).toInt8.toInt32 = _
  rw [Int8.toInt8_toInt32]
theorem own_selP {s : State} {args : Array Value} {n : Nat} {y : MethodName} (hins : (Jvm.Cond.instantiable y.cls n).before args s = true) (hpriv : (Jvm.Cond.privateMethod y).before args s = true) (hinst : (Jvm.Cond.instanceMethod y).before args s = true) (hy : y.cls ≠ "java/lang/invoke/MethodHandle" ∧ y.cls ≠ "java/lang/invoke/VarHandle") :
    (Jvm.Cond.selects y.cls y y).before args s = true := by
  obtain ⟨c, k, hc, hk, -, hniab, -, -⟩ := Cond.instantiable_spec hins
  have hni : k.isInterface = false := (Bool.or_eq_false_iff.mp hniab).1
  obtain ⟨mk, methM, hnamed, hmethM, -, -⟩ := Cond.instanceMethod_spec hinst
  have hfound : s.methodFound? y.cls y.name y.desc = some mk := State.methodFound?_of_named hnamed hy
  have hcls : mk.cls = c := Option.some.inj ((findClass_of_methodNamed hnamed).symm.trans hc)
  have hsel : selectMethod {} s.vm c mk = .method mk := selectMethod_private hmethM (Cond.privateMethod_at hpriv mk methM hnamed hmethM)
  simp only [Cond.before, Cond.holds, Cond.value, hc, hfound, hnamed, hsel, hcls, hk]
  simp; exact hni
theorem own_exa_ns {Z : State} {h : Heap} {a : Addr} {C : String} (E : Exa Z h a C) : ∀ cell : Cell, h[a]? = some cell → cell.vm.isStatics = false := fun cell q => by
  obtain ⟨c, k, h1, -, -, h4, -⟩ := E
  cases h1.symm.trans q
  exact h4
theorem own_Sta_keep {Z : State} {h h' : Heap} {C n d : String} {v : Value} {ws : List Addr} (F : Sta Z h C n d v) (K : Keep h h' ws) (q : ∀ x ∈ ws, ∀ cell : Cell, h[x]? = some cell → cell.vm.isStatics = false) : Sta Z h' C n d v := by
  obtain ⟨cf, i, k, f, st, cell, h1, h2, h3, h4, h5, h6, h7⟩ := F
  refine ⟨cf, i, k, f, st, cell, h1, h2, h3, h4, K.2.1 _ _ h5 (fun hm => ?_), h6, h7⟩
  rw [q _ hm _ h5] at h6
  cases h6
theorem own_grow (X : Stand p l e R s m args below meth c T locs cells slots) {C S : Nat} (hc : cells ≤ C) (hs : slots ≤ S) : Stand p l e R s m args below meth c T locs C S :=
  ⟨X.admits, X.cas, X.clock, X.frames, X.room, X.hears, X.method, X.code, X.here, X.tail, X.warmed, X.limits, X.bytes, X.same.mono hc hs⟩
end OwnRoad
section OwnFloat
open Jvm.FP.Core
/-- a finite double of sign +, its magnitude in units of the least double -/
def Pz (a : UInt64) (M : Nat) : Prop := ∃ c q, val64 a = .fin false c q ∧ inUnits c q b64.qmin = M
theorem own_q0 : b64.qmin ≤ 0 := by rw [qmin_b64]; decide
theorem Pz.ne {a : UInt64} {M : Nat} (h : Pz a M) : val64 a ≠ .nan := by
  obtain ⟨c, q, hv, -⟩ := h
  rw [hv]; exact Datum.noConfusion
theorem Pz.nn {a : UInt64} {M : Nat} (h : Pz a M) : Fl.NoNaN64 a := Fl.val64_no.mpr h.ne
theorem Pz.fin {a : UInt64} {M : Nat} (h : Pz a M) : DFin a := by
  obtain ⟨c, q, hv, -⟩ := h
  exact ⟨false, c, q, hv⟩
theorem Pz.z {a : UInt64} {M : Nat} (h : Pz a M) : zmag b64 (val64 a) = M := by
  obtain ⟨c, q, hv, hm⟩ := h
  rw [hv]; exact hm
theorem Pz.zv {a : UInt64} {M : Nat} (h : Pz a M) : zval b64 (val64 a) = (M : Int) := by
  obtain ⟨c, q, hv, hm⟩ := h
  rw [hv, ← hm]; rfl
theorem Pz.uniq {a : UInt64} {M N : Nat} (h : Pz a M) (k : Pz a N) : M = N := by rw [← h.z, ← k.z]
theorem own_cmp {a b : UInt64} {A B : Nat} (ha : Pz a A) (hb : Pz b B) : FP.dcmp a b = some (compare (A : Int) (B : Int)) := by
  have q := dcmp_zval ha.ne hb.ne
  rw [ha.zv, hb.zv] at q
  exact q
theorem own_c3 {a b : UInt64} {A B : Nat} (ha : Pz a A) (hb : Pz b B) (o : CmpOp) : (A < B ∧ cmpValue (FP.dcmp a b) o = -1) ∨ (A = B ∧ cmpValue (FP.dcmp a b) o = 0) ∨ (B < A ∧ cmpValue (FP.dcmp a b) o = 1) := by
  rw [own_cmp ha hb]
  by_cases h1 : A < B
  · exact Or.inl ⟨h1, by rw [(compare_lt_iff (A : Int) (B : Int)).mpr (by omega)]; rfl⟩
  · by_cases h2 : A = B
    · exact Or.inr (Or.inl ⟨h2, by rw [(compare_eq_iff (A : Int) (B : Int)).mpr (by omega)]; rfl⟩)
    · exact Or.inr (Or.inr ⟨by omega, by rw [(compare_gt_iff (A : Int) (B : Int)).mpr (by omega)]; rfl⟩)
theorem own_ceq {a b : UInt64} {A B : Nat} (ha : Pz a A) (hb : Pz b B) (o : CmpOp) : cmpValue (FP.dcmp a b) o = (0 : Int32) ↔ A = B := by
  rcases own_c3 ha hb o with ⟨h, e⟩ | ⟨h, e⟩ | ⟨h, e⟩ <;> rw [e]
  · exact ⟨fun q => absurd q (by decide), fun q => by omega⟩
  · exact ⟨fun _ => h, fun _ => rfl⟩
  · exact ⟨fun q => absurd q (by decide), fun q => by omega⟩
theorem own_clt {a b : UInt64} {A B : Nat} (ha : Pz a A) (hb : Pz b B) (o : CmpOp) : cmpValue (FP.dcmp a b) o < (0 : Int32) ↔ A < B := by
  rcases own_c3 ha hb o with ⟨h, e⟩ | ⟨h, e⟩ | ⟨h, e⟩ <;> rw [e]
  · exact ⟨fun _ => h, fun _ => by decide⟩
  · exact ⟨fun q => absurd q (by decide), fun q => by omega⟩
  · exact ⟨fun q => absurd q (by decide), fun q => by omega⟩
theorem own_cgt {a b : UInt64} {A B : Nat} (ha : Pz a A) (hb : Pz b B) (o : CmpOp) : (0 : Int32) < cmpValue (FP.dcmp a b) o ↔ B < A := by
  rcases own_c3 ha hb o with ⟨h, e⟩ | ⟨h, e⟩ | ⟨h, e⟩ <;> rw [e]
  · exact ⟨fun q => absurd q (by decide), fun q => by omega⟩
  · exact ⟨fun q => absurd q (by decide), fun q => by omega⟩
  · exact ⟨fun _ => h, fun _ => by decide⟩
theorem own_Pz0 : Pz (0 : UInt64) 0 := ⟨0, b64.qmin, val64_zero, by show 0 * 2 ^ (b64.qmin - b64.qmin).toNat = 0; rw [Nat.zero_mul]⟩
theorem own_l2d {a : Int64} (h0 : 0 ≤ a.toInt) (h1 : a.toInt < 9007199254740992) : Pz (FP.l2d a) (a.toInt.toNat * one64) := by
  obtain ⟨c, q, hv⟩ := l2d_shape a
  rw [show decide (a.toInt < 0) = false from decide_eq_false (by omega)] at hv
  refine ⟨c, q, hv, ?_⟩
  have w : DInt a.toInt (FP.Core.l2d a) := l2d_whole (a := a) ⟨by omega, h1⟩
  have z := DInt_zval w
  rw [hv] at z
  have z2 : ((inUnits c q b64.qmin : Nat) : Int) = a.toInt * (one64 : Int) := z
  have e : ((a.toInt.toNat : Nat) : Int) = a.toInt := Int.toNat_of_nonneg h0
  have z3 : ((inUnits c q b64.qmin : Nat) : Int) = ((a.toInt.toNat * one64 : Nat) : Int) := by rw [Int.natCast_mul, e]; exact z2
  exact Int.ofNat_inj.mp z3
theorem own_i2d {a : Int32} (h0 : 0 ≤ a.toInt) : Pz (FP.i2d a) (a.toInt.toNat * one64) := by
  have e : FP.i2d a = FP.l2d a.toInt64 := FP.Core.i2d_l2d a
  have t : a.toInt64.toInt = a.toInt := Int32.toInt_toInt64 a
  have b := rng32 a
  rw [e, ← t]
  exact own_l2d (by omega) (by omega)
theorem own_div {a b : UInt64} {A B : Nat} (ha : Pz a A) (hb : Pz b B) (hB : 0 < B) : val64 (FP.ddiv a b) = roundRatio b64 false A B 0 := by
  obtain ⟨c, q, hv, hm⟩ := ha
  obtain ⟨d, r, hw, hn⟩ := hb
  have f1 := val64_fits a
  have f2 := val64_fits b
  rw [hv] at f1
  rw [hw] at f2
  have hq : b64.qmin ≤ q := f1.2.1
  have hr : b64.qmin ≤ r := f2.2.1
  have hd : ¬ d = 0 := by
    intro h
    subst h
    rw [← hn] at hB
    have : (0 : Nat) * 2 ^ (r - b64.qmin).toNat = 0 := Nat.zero_mul _
    exact absurd hB (by show ¬ 0 < 0 * 2 ^ (r - b64.qmin).toNat; rw [this]; exact Nat.lt_irrefl 0)
  have e0 : val64 (FP.ddiv a b) = quotient b64 (val64 a) (val64 b) := val64_ddiv a b
  rw [e0, hv, hw]
  have e1 : quotient b64 (.fin false c q) (.fin false d r) = if d = 0 then (if c = 0 then .nan else .inf (false != false)) else roundRatio b64 (false != false) c d (q - r) := rfl
  rw [e1, if_neg hd]
  have e2 : roundRatio b64 (false != false) c d (q - r) = roundRatio b64 false c d (q - r) := rfl
  rw [e2]
  refine roundRatio_congr (Nat.pos_of_ne_zero hd) hB ?_
  rw [← hm, ← hn]
  show c * (d * 2 ^ (r - b64.qmin).toNat) * 2 ^ (q - r - 0).toNat = (c * 2 ^ (q - b64.qmin).toNat) * d * 2 ^ (0 - (q - r)).toNat
  have e : (r - b64.qmin).toNat + (q - r - 0).toNat = (q - b64.qmin).toNat + (0 - (q - r)).toNat := by omega
  have e3 : c * (d * 2 ^ (r - b64.qmin).toNat) * 2 ^ (q - r - 0).toNat = c * d * 2 ^ ((r - b64.qmin).toNat + (q - r - 0).toNat) := by rw [Nat.pow_add]; ac_rfl
  rw [e3, e, Nat.pow_add]
  ac_rfl
theorem own_rep {k j : Nat} (hk : k < 9007199254740992) (hj : j ≤ 1074) : ∃ V : Datum, FP.Core.fits b64 V ∧ (∃ c q, V = .fin false c q) ∧ zmag b64 V = k * 2 ^ (1074 - j) := by
  have q1 : b64.qmin = -1074 := qmin_b64
  have q2 : b64.qmax = 971 := by decide
  obtain ⟨c', q', h1, h2⟩ := round_exact good_b64 false (c := k) (q := -(j : Int)) (Nat.lt_of_lt_of_le hk (Nat.le_of_eq (by decide +kernel))) (by omega) (by omega)
  refine ⟨FP.Core.round b64 (.fin false k (-(j : Int))), round_fits good_b64 _, ⟨c', q', h1⟩, ?_⟩
  rw [h1]
  show inUnits c' q' b64.qmin = _
  rw [h2]
  show k * 2 ^ (-(j : Int) - b64.qmin).toNat = _
  rw [show (-(j : Int) - b64.qmin).toNat = 1074 - j by omega]
theorem own_units (A j : Nat) (hj : j ≤ 1074) : inUnits A 0 b64.qmin = A * 2 ^ j * 2 ^ (1074 - j) := by
  have q1 : b64.qmin = -1074 := qmin_b64
  show A * 2 ^ (0 - b64.qmin).toNat = _
  rw [show (0 - b64.qmin).toNat = j + (1074 - j) by omega, Nat.pow_add, Nat.mul_assoc]
theorem own_le {A B k j : Nat} (hB : 0 < B) (hk : k < 9007199254740992) (hj : j ≤ 1074) (h : A * 2 ^ j ≤ k * B) : zmag b64 (roundRatio b64 false A B 0) ≤ k * 2 ^ (1074 - j) := by
  obtain ⟨V, h1, ⟨c, q, h2⟩, h4⟩ := own_rep hk hj
  have hn : V ≠ .nan := by rw [h2]; exact Datum.noConfusion
  have r := zmag_roundRatio_le good_b64 (s := false) (A := A) (e := 0) (e0 := b64.qmin) hB h1 hn (Int.le_refl _) own_q0 (by
    rw [h4, own_units A j hj, Int.sub_self, Int.toNat_zero, Nat.pow_zero, Nat.mul_one, Nat.mul_right_comm k]
    exact Nat.mul_le_mul_right _ h)
  rw [h4] at r
  exact r
theorem own_ge {A B k j : Nat} (hB : 0 < B) (hk : k < 9007199254740992) (hj : j ≤ 1074) (h : k * B ≤ A * 2 ^ j) : k * 2 ^ (1074 - j) ≤ zmag b64 (roundRatio b64 false A B 0) := by
  obtain ⟨V, h1, ⟨c, q, h2⟩, h4⟩ := own_rep hk hj
  have r := zmag_roundRatio_ge good_b64 (s := false) (A := A) (e := 0) (e0 := b64.qmin) hB h1 (Int.le_refl _) own_q0 (by
    rw [h4, own_units A j hj, Int.sub_self, Int.toNat_zero, Nat.pow_zero, Nat.mul_one, Nat.mul_right_comm k]
    exact Nat.mul_le_mul_right _ h)
  rw [h4] at r
  exact r
theorem own_topR {k j : Nat} (hk : k < 9007199254740992) (hj : j ≤ 1074) : k * 2 ^ (1074 - j) < b64.tails * 2 ^ (b64.exps - 2) := by
  obtain ⟨V, h1, ⟨c, q, h2⟩, h4⟩ := own_rep hk hj
  rw [← h4, h2]
  rw [h2] at h1
  exact zmag_lt_top good_b64 h1
/-- a quotient that isn't above k / 2^j -/
theorem own_quot {a b : UInt64} {A B k j : Nat} (ha : Pz a A) (hb : Pz b B) (hB : 0 < B) (hk : k < 9007199254740992) (hj : j ≤ 1074) (h : A * 2 ^ j ≤ k * B) : Pz (FP.ddiv a b) (zmag b64 (roundRatio b64 false A B 0)) := by
  have e := own_div ha hb hB
  have l := own_le hB hk hj h
  rcases roundRatio_cases b64 false A B 0 with ⟨c, q, r⟩ | r
  · rw [r] at e ⊢
    exact ⟨c, q, e, rfl⟩
  · rw [r] at l
    have l' : b64.tails * 2 ^ (b64.exps - 2) ≤ k * 2 ^ (1074 - j) := l
    exact absurd (own_topR hk hj) (Nat.not_lt.mpr l')
theorem own_scale {n r k j : Nat} (h : n * 2 ^ j ≤ k * r) : n * one64 * 2 ^ j ≤ k * (r * one64) := by
  rw [Nat.mul_right_comm n, ← Nat.mul_assoc k]
  exact Nat.mul_le_mul_right _ h
theorem own_scale' {n r k j : Nat} (h : k * r ≤ n * 2 ^ j) : k * (r * one64) ≤ n * one64 * 2 ^ j := by
  rw [Nat.mul_right_comm n, ← Nat.mul_assoc k]
  exact Nat.mul_le_mul_right _ h
theorem own_one (k : Nat) : k * one64 = k * 2 ^ (1074 - 0) := rfl
/-- rounding is monotone -/
theorem own_mono {A A' B : Nat} (hB : 0 < B) (hA : A ≤ A') : zmag b64 (roundRatio b64 false A B 0) ≤ zmag b64 (roundRatio b64 false A' B 0) := by
  rcases roundRatio_cases b64 false A' B 0 with ⟨c', q', r'⟩ | r'
  · rcases roundRatio_cases b64 false A B 0 with ⟨c, q, r⟩ | r
    · have f := roundRatio_fits good_b64 false A hB 0
      have f' := roundRatio_fits good_b64 false A' hB 0
      have h1 := r
      have h2 := r'
      rw [r] at f ⊢
      rw [r'] at f' ⊢
      have d1 := roundRatio_nearest good_b64 (e0 := b64.qmin) hB h1 f'.1 f'.2.1 (Int.le_refl _) own_q0
      have d2 := roundRatio_nearest good_b64 (e0 := b64.qmin) hB h2 f.1 f.2.1 (Int.le_refl _) own_q0
      show inUnits c q b64.qmin ≤ inUnits c' q' b64.qmin
      have d1' : ((inUnits A 0 b64.qmin : Int) - (inUnits c q b64.qmin : Int) * (B : Int)).natAbs ≤ ((inUnits A 0 b64.qmin : Int) - (inUnits c' q' b64.qmin : Int) * (B : Int)).natAbs := d1
      have d2' : ((inUnits A' 0 b64.qmin : Int) - (inUnits c' q' b64.qmin : Int) * (B : Int)).natAbs ≤ ((inUnits A' 0 b64.qmin : Int) - (inUnits c q b64.qmin : Int) * (B : Int)).natAbs := d2
      rw [← Int.natCast_mul, ← Int.natCast_mul] at d1' d2'
      refine Nat.le_of_not_lt fun hlt => ?_
      have k1 := Nat.mul_lt_mul_of_pos_right hlt hB
      have e1 := own_units A 0 (by decide)
      have e2 := own_units A' 0 (by decide)
      rw [Nat.pow_zero, Nat.mul_one] at e1 e2
      have k2 : inUnits A 0 b64.qmin ≤ inUnits A' 0 b64.qmin := by rw [e1, e2]; exact Nat.mul_le_mul_right _ hA
      have k3 : inUnits A 0 b64.qmin = inUnits A' 0 b64.qmin := by
        generalize inUnits A 0 b64.qmin = x at *
        generalize inUnits A' 0 b64.qmin = x' at *
        generalize inUnits c q b64.qmin * B = u at *
        generalize inUnits c' q' b64.qmin * B = v at *
        omega
      rw [e1, e2] at k3
      have k4 : A = A' := Nat.eq_of_mul_eq_mul_right (Nat.two_pow_pos _) k3
      subst k4
      rw [h1] at h2
      cases h2
      exact Nat.lt_irrefl _ hlt
    · exfalso
      have i1 := (roundRatio_inf good_b64 (e0 := b64.qmin - 1) hB (by omega) (by have := own_q0; omega)).mp r
      have i3 : inUnits A 0 (b64.qmin - 1) ≤ inUnits A' 0 (b64.qmin - 1) := Nat.mul_le_mul_right (2 ^ (0 - (b64.qmin - 1)).toNat) hA
      have i2 : roundRatio b64 false A' B 0 = .inf false := (roundRatio_inf good_b64 (e0 := b64.qmin - 1) hB (by omega) (by have := own_q0; omega)).mpr (Nat.le_trans i1 i3)
      rw [r'] at i2
      cases i2
  · rw [r']
    exact zmag_le_top good_b64 (roundRatio_fits good_b64 false A hB 0)
theorem own_sum (c d : Nat) (q r : Int) : ∃ n e, exactSum (.fin false c q) (.fin false d r) = .fin false n e := by
  have h : 0 ≤ sumUnits false c q false d r (min q r) := by
    show (0 : Int) ≤ ((inUnits c q (min q r) : Nat) : Int) + ((inUnits d r (min q r) : Nat) : Int)
    omega
  have e1 : exactSum (.fin false c q) (.fin false d r) = .fin (sumSign false false (sumUnits false c q false d r (min q r))) (sumUnits false c q false d r (min q r)).natAbs (min q r) := rfl
  have e2 : sumSign false false (sumUnits false c q false d r (min q r)) = if sumUnits false c q false d r (min q r) = 0 then (false && false) else decide (sumUnits false c q false d r (min q r) < 0) := rfl
  have e3 : sumSign false false (sumUnits false c q false d r (min q r)) = false := by
    rw [e2]
    by_cases z : sumUnits false c q false d r (min q r) = 0
    · rw [if_pos z]; rfl
    · rw [if_neg z]; exact decide_eq_false (by omega)
  rw [e3] at e1
  exact ⟨_, _, e1⟩
/-- a sum that isn't above k -/
theorem own_add {a b : UInt64} {A B k : Nat} (ha : Pz a A) (hb : Pz b B) (hk : k < 9007199254740992) (h : A + B ≤ k * one64) : ∃ M, Pz (FP.dadd a b) M ∧ M ≤ k * one64 := by
  have za := ha.zv
  have zb := hb.zv
  obtain ⟨c, q, hv, hm⟩ := ha
  obtain ⟨d, r, hw, hn⟩ := hb
  have f1 := val64_fits a
  have f2 := val64_fits b
  rw [hv] at f1 za
  rw [hw] at f2 zb
  obtain ⟨sg, n, e, h1, h2, h3⟩ := sum_units f1 f2
  obtain ⟨n', e', h4⟩ := own_sum c d q r
  rw [h1] at h4
  have hs : sg = false := by cases h4; rfl
  subst hs
  rw [za, zb] at h3
  have h5 : ((inUnits n e b64.qmin : Nat) : Int) = (A : Int) + (B : Int) := h3
  have e0 : val64 (FP.dadd a b) = FP.Core.round b64 (exactSum (val64 a) (val64 b)) := val64_dadd a b
  rw [hv, hw, h1] at e0
  have e1 : FP.Core.round b64 (.fin false n e) = roundRatio b64 false n 1 e := rfl
  rw [e1] at e0
  obtain ⟨V, v1, ⟨vc, vq, v2⟩, v4⟩ := own_rep hk (Nat.zero_le 1074)
  have hn : V ≠ .nan := by rw [v2]; exact Datum.noConfusion
  have l := zmag_roundRatio_le good_b64 (s := false) (A := n) (B := 1) (e := e) (e0 := b64.qmin) (by decide) v1 hn (Int.le_refl _) h2 (by
    rw [v4, Int.sub_self, Int.toNat_zero, Nat.pow_zero, Nat.mul_one, Nat.mul_one, ← own_one k]
    omega)
  rw [v4, ← own_one k] at l
  rcases roundRatio_cases b64 false n 1 e with ⟨c2, q2, r2⟩ | r2
  · rw [r2] at e0 l
    exact ⟨_, ⟨c2, q2, e0, rfl⟩, l⟩
  · rw [r2] at l
    have l' : b64.tails * 2 ^ (b64.exps - 2) ≤ k * 2 ^ (1074 - 0) := l
    exact absurd (own_topR hk (Nat.zero_le 1074)) (Nat.not_lt.mpr l')
end OwnFloat
def own_mn (a b : Int64) : Int64 := if b < a then b else a
def own_mxJ (a b : Int64) : Int64 := if a < b then b else a
def own_us (x k : Int32) : Int32 := ((x.toUInt32 >>> (k &&& 31).toUInt32).toInt32)
def own_n1 (x n : Int32) : Int32 := n - own_us x (1 : Int32)
def own_n2 (x n : Int32) : Int32 := if x < (4 : Int32) then own_n1 x n else own_n1 (own_us x (2 : Int32)) (n + (-2 : Int32))
def own_n4 (x n : Int32) : Int32 := if x < (16 : Int32) then own_n2 x n else own_n2 (own_us x (4 : Int32)) (n + (-4 : Int32))
def own_n8 (x n : Int32) : Int32 := if x < (256 : Int32) then own_n4 x n else own_n4 (own_us x (8 : Int32)) (n + (-8 : Int32))
def own_n16 (x n : Int32) : Int32 := if x < (65536 : Int32) then own_n8 x n else own_n8 (own_us x (16 : Int32)) (n + (-16 : Int32))
def own_nlz (p : Int32) : Int32 := if (0 : Int32) < p then own_n16 p (31 : Int32) else if p = (0 : Int32) then (32 : Int32) else (0 : Int32)
def own_bits (q : Int64) : Int32 := ((63 : Int32) - ((32 : Int32) + (own_nlz (q.toInt32))))
def own_bk (q : Int64) : Int32 := if q < (2048 : Int64) then (q.toInt32) else (((2048 : Int32) + ((own_bits q - (11 : Int32)) * (128 : Int32))) + (((q >>> ((own_bits q - (7 : Int32)) &&& 0x3f).toInt64).toInt32) - (128 : Int32)))
theorem own_mn_s (a b : Int64) : (own_mn a b).toInt ≤ a.toInt ∧ (own_mn a b).toInt ≤ b.toInt ∧ ((own_mn a b).toInt = a.toInt ∨ (own_mn a b).toInt = b.toInt) := by
  unfold own_mn
  by_cases h : b < a
  · rw [if_pos h]; rw [Int64.lt_iff_toInt_lt] at h; omega
  · rw [if_neg h]; rw [Int64.lt_iff_toInt_lt] at h; omega
theorem own_mx_s (a b : Int64) : a.toInt ≤ (own_mxJ a b).toInt ∧ b.toInt ≤ (own_mxJ a b).toInt ∧ ((own_mxJ a b).toInt = a.toInt ∨ (own_mxJ a b).toInt = b.toInt) := by
  unfold own_mxJ
  by_cases h : a < b
  · rw [if_pos h]; rw [Int64.lt_iff_toInt_lt] at h; omega
  · rw [if_neg h]; rw [Int64.lt_iff_toInt_lt] at h; omega
theorem own_us_d (x k : Int32) (n : Nat) (hk : k.toBitVec.toNat % 32 = n) (h0 : 0 < n) (hx : 0 ≤ x.toInt) : (own_us x k).toInt = x.toInt / (2 ^ n : Nat) := by
  have e := c_iushr x k n hk h0
  have b := rng32 x
  rw [Int.emod_eq_of_lt hx (by omega)] at e
  exact e
/-- what is left of the search: x is x0 without its last s digits, n + s = 31 -/
def OwnN (x r : Int32) (n : Int) : Prop := ∃ b : Nat, r.toInt = n - b ∧ (2 ^ b : Nat) ≤ x.toInt ∧ x.toInt < (2 ^ (b + 1) : Nat)
theorem own_n1_s {x n : Int32} (h1 : 0 < x.toInt) (h2 : x.toInt < 4) (hn : 1 ≤ n.toInt) : OwnN x (own_n1 x n) n.toInt := by
  have e := own_us_d x (1 : Int32) 1 (by decide) (by decide) (by omega)
  have a := c_isub n (own_us x (1 : Int32))
  have b1 := rng32 (n - own_us x (1 : Int32))
  have b2 := rng32 n
  unfold own_n1
  by_cases q : x.toInt = 1
  · exact ⟨0, by omega, by show ((1 : Nat) : Int) ≤ x.toInt; omega, by show x.toInt < ((2 : Nat) : Int); omega⟩
  · exact ⟨1, by omega, by show ((2 : Nat) : Int) ≤ x.toInt; omega, by show x.toInt < ((4 : Nat) : Int); omega⟩
theorem own_step {x y r : Int32} {n s : Nat} {m : Int} (hy : y.toInt = x.toInt / (2 ^ s : Nat)) (h : OwnN y r (m - s)) : OwnN x r m := by
  obtain ⟨b, h1, h2, h3⟩ := h
  refine ⟨b + s, by omega, ?_, ?_⟩
  · rw [hy] at h2
    have q := (Int.le_ediv_iff_mul_le (by have := Nat.two_pow_pos s; omega)).mp h2
    rw [Nat.pow_add, Int.natCast_mul]
    exact q
  · rw [hy] at h3
    have q := (Int.ediv_lt_iff_lt_mul (by have := Nat.two_pow_pos s; omega)).mp h3
    rw [show b + s + 1 = b + 1 + s by omega, Nat.pow_add, Int.natCast_mul]
    exact q
theorem own_addL {n k : Int32} {m : Int} (h : k.toInt = m) (h1 : -100 < n.toInt + m) (h2 : n.toInt + m < 100) : (n + k).toInt = n.toInt + m := by
  have a := c_iadd n k
  have b := rng32 (n + k)
  omega
theorem own_n2_s {x n : Int32} (h1 : 0 < x.toInt) (h2 : x.toInt < 16) (hn : 3 ≤ n.toInt) (hm : n.toInt ≤ 31) : OwnN x (own_n2 x n) n.toInt := by
  have e := own_us_d x (2 : Int32) 2 (by decide) (by decide) (by omega)
  have k4 : (4 : Int32).toInt = 4 := by decide
  have a := own_addL (n := n) (k := (-2 : Int32)) (m := -2) (by decide) (by omega) (by omega)
  unfold own_n2
  by_cases q : x < (4 : Int32)
  · rw [if_pos q]; rw [Int32.lt_iff_toInt_lt] at q; exact own_n1_s h1 (by omega) (by omega)
  · rw [if_neg q]; rw [Int32.lt_iff_toInt_lt] at q
    have s := own_n1_s (x := own_us x (2 : Int32)) (n := n + (-2 : Int32)) (by omega) (by omega) (by omega)
    rw [a] at s
    exact own_step (n := 0) (s := 2) e s
theorem own_n4_s {x n : Int32} (h1 : 0 < x.toInt) (h2 : x.toInt < 256) (hn : 7 ≤ n.toInt) (hm : n.toInt ≤ 31) : OwnN x (own_n4 x n) n.toInt := by
  have e := own_us_d x (4 : Int32) 4 (by decide) (by decide) (by omega)
  have k4 : (16 : Int32).toInt = 16 := by decide
  have a := own_addL (n := n) (k := (-4 : Int32)) (m := -4) (by decide) (by omega) (by omega)
  unfold own_n4
  by_cases q : x < (16 : Int32)
  · rw [if_pos q]; rw [Int32.lt_iff_toInt_lt] at q; exact own_n2_s h1 (by omega) (by omega) hm
  · rw [if_neg q]; rw [Int32.lt_iff_toInt_lt] at q
    have s := own_n2_s (x := own_us x (4 : Int32)) (n := n + (-4 : Int32)) (by omega) (by omega) (by omega) (by omega)
    rw [a] at s
    exact own_step (n := 0) (s := 4) e s
theorem own_n8_s {x n : Int32} (h1 : 0 < x.toInt) (h2 : x.toInt < 65536) (hn : 15 ≤ n.toInt) (hm : n.toInt ≤ 31) : OwnN x (own_n8 x n) n.toInt := by
  have e := own_us_d x (8 : Int32) 8 (by decide) (by decide) (by omega)
  have k4 : (256 : Int32).toInt = 256 := by decide
  have a := own_addL (n := n) (k := (-8 : Int32)) (m := -8) (by decide) (by omega) (by omega)
  unfold own_n8
  by_cases q : x < (256 : Int32)
  · rw [if_pos q]; rw [Int32.lt_iff_toInt_lt] at q; exact own_n4_s h1 (by omega) (by omega) hm
  · rw [if_neg q]; rw [Int32.lt_iff_toInt_lt] at q
    have s := own_n4_s (x := own_us x (8 : Int32)) (n := n + (-8 : Int32)) (by omega) (by omega) (by omega) (by omega)
    rw [a] at s
    exact own_step (n := 0) (s := 8) e s
theorem own_n16_s {x n : Int32} (h1 : 0 < x.toInt) (hn : n.toInt = 31) : OwnN x (own_n16 x n) n.toInt := by
  have b := rng32 x
  have e := own_us_d x (16 : Int32) 16 (by decide) (by decide) (by omega)
  have k4 : (65536 : Int32).toInt = 65536 := by decide
  have a := own_addL (n := n) (k := (-16 : Int32)) (m := -16) (by decide) (by omega) (by omega)
  unfold own_n16
  by_cases q : x < (65536 : Int32)
  · rw [if_pos q]; rw [Int32.lt_iff_toInt_lt] at q; exact own_n8_s h1 (by omega) (by omega) (by omega)
  · rw [if_neg q]; rw [Int32.lt_iff_toInt_lt] at q
    have s := own_n8_s (x := own_us x (16 : Int32)) (n := n + (-16 : Int32)) (by omega) (by omega) (by omega) (by omega)
    rw [a] at s
    exact own_step (n := 0) (s := 16) e s
/-- the bits of a time from 2048 on -/
theorem own_bits_s {q : Int64} (h1 : 0 < q.toInt) (h2 : q.toInt ≤ 4294967295) : ∃ b : Nat, (own_bits q).toInt = b ∧ b ≤ 31 ∧ (2 ^ b : Nat) ≤ q.toInt ∧ q.toInt < (2 ^ (b + 1) : Nat) := by
  have e := c_l2i q
  have b := rng32 q.toInt32
  have k0 : (0 : Int32).toInt = 0 := by decide
  have k31 : (31 : Int32).toInt = 31 := by decide
  have k32 : (32 : Int32).toInt = 32 := by decide
  have k63 : (63 : Int32).toInt = 63 := by decide
  have a1 := c_iadd (32 : Int32) (own_nlz q.toInt32)
  have a2 := c_isub (63 : Int32) ((32 : Int32) + own_nlz q.toInt32)
  have b1 := rng32 ((32 : Int32) + own_nlz q.toInt32)
  have b2 := rng32 ((63 : Int32) - ((32 : Int32) + own_nlz q.toInt32))
  have hb : own_bits q = (63 : Int32) - ((32 : Int32) + own_nlz q.toInt32) := rfl
  rw [hb]
  by_cases p : (0 : Int32) < q.toInt32
  · have s := own_n16_s (x := q.toInt32) (n := (31 : Int32)) (by rw [Int32.lt_iff_toInt_lt] at p; omega) k31
    have z : own_nlz q.toInt32 = own_n16 q.toInt32 (31 : Int32) := by rw [own_nlz, if_pos p]
    rw [Int32.lt_iff_toInt_lt] at p
    have ex : q.toInt32.toInt = q.toInt := by omega
    rw [← z, k31] at s
    obtain ⟨c, s1, s2, s3⟩ := s
    rw [ex] at s2 s3
    have p31 : (2 : Nat) ^ 31 = 2147483648 := by decide
    have c31 : c < 31 := by
      have u : (2 ^ c : Nat) < 2 ^ 31 := by
        rw [p31]
        omega
      exact (Nat.pow_lt_pow_iff_right (by decide : 1 < 2)).mp u
    exact ⟨c, by omega, by omega, s2, s3⟩
  · have p2 : ¬ q.toInt32 = (0 : Int32) := fun y => by rw [y] at e; omega
    have z : own_nlz q.toInt32 = 0 := by rw [own_nlz, if_neg p, if_neg p2]
    rw [Int32.lt_iff_toInt_lt] at p
    rw [z] at a1 a2 b1 b2 ⊢
    refine ⟨31, by omega, by decide, ?_, ?_⟩
    · have : ((2 ^ 31 : Nat) : Int) = 2147483648 := by decide
      omega
    · have : ((2 ^ (31 + 1) : Nat) : Int) = 4294967296 := by decide
      omega
theorem own_bk_lt {q : Int64} (h : 0 ≤ q.toInt ∧ q.toInt ≤ 4294967295) : ¬ (own_bk q < (0 : Int32)) ∧ own_bk q < (4736 : Int32) := by
  obtain ⟨h1, h2⟩ := h
  have k0 : (0 : Int32).toInt = 0 := by decide
  have kL : (4736 : Int32).toInt = 4736 := by decide
  have k2 : (2048 : Int64).toInt = 2048 := by decide
  simp only [Int32.lt_iff_toInt_lt, k0, kL]
  unfold own_bk
  by_cases p : q < (2048 : Int64)
  · rw [if_pos p]
    rw [Int64.lt_iff_toInt_lt] at p
    have e := c_l2i q
    have b := rng32 q.toInt32
    omega
  · rw [if_neg p]
    rw [Int64.lt_iff_toInt_lt] at p
    obtain ⟨b, hb, hb31, l1, l2⟩ := own_bits_s (q := q) (by omega) h2
    generalize own_bits q = v at *
    have k7 : (7 : Int32).toInt = 7 := by decide
    have k11 : (11 : Int32).toInt = 11 := by decide
    have k128 : (128 : Int32).toInt = 128 := by decide
    have k20 : (2048 : Int32).toInt = 2048 := by decide
    have b11 : 11 ≤ b := Nat.le_of_not_lt fun y => by
      have u : (2 ^ (b + 1) : Nat) ≤ 2 ^ 11 := Nat.pow_le_pow_right (by decide) (by omega)
      have : (2 : Nat) ^ 11 = 2048 := by decide
      omega
    have a1 := c_isub v (7 : Int32)
    have r1 := rng32 (v - (7 : Int32))
    have t1 : (v - (7 : Int32)).toInt = ((b - 7 : Nat) : Int) := by omega
    have bv : (v - (7 : Int32)).toBitVec.toNat % 64 = b - 7 := by
      generalize v - (7 : Int32) = w at *
      have y : (w.toBitVec.toNat : Int) = w.toInt := by
        have y1 : w.toInt = w.toBitVec.toInt := rfl
        rw [y1] at t1 ⊢
        rw [BitVec.toInt_eq_toNat_cond] at t1 ⊢
        split
        · rfl
        · rename_i u
          rw [if_neg u] at t1
          have := w.toBitVec.isLt
          omega
      omega
    have sh := c_lshr q (v - (7 : Int32)) (b - 7) bv
    obtain ⟨d, rfl⟩ : ∃ d, b = d + 7 := ⟨b - 7, by omega⟩
    rw [show d + 7 - 7 = d by omega] at sh
    have pd := Nat.two_pow_pos d
    have p7 : (2 : Nat) ^ 7 = 128 := by decide
    have p8 : (2 : Nat) ^ 8 = 256 := by decide
    have e7 : (2 ^ (d + 7) : Nat) = 128 * 2 ^ d := by rw [Nat.pow_add, p7, Nat.mul_comm]
    have e8 : (2 ^ (d + 7 + 1) : Nat) = 256 * 2 ^ d := by rw [show d + 7 + 1 = d + 8 by omega, Nat.pow_add, p8, Nat.mul_comm]
    rw [e7] at l1
    rw [e8] at l2
    have g1 : (128 : Int) ≤ q.toInt / (2 ^ d : Nat) := (Int.le_ediv_iff_mul_le (by omega)).mpr (by omega)
    have g2 : q.toInt / (2 ^ d : Nat) < 256 := (Int.ediv_lt_iff_lt_mul (by omega)).mpr (by omega)
    rw [← sh] at g1 g2
    generalize (q >>> ((v - (7 : Int32)) &&& 0x3f).toInt64) = w at *
    have c1 := c_l2i w
    have r2 := rng32 w.toInt32
    have s1 : w.toInt32.toInt = w.toInt := by omega
    have c2 := c_isub w.toInt32 (128 : Int32)
    have r3 := rng32 (w.toInt32 - (128 : Int32))
    have s2 : (w.toInt32 - (128 : Int32)).toInt = w.toInt - 128 := by omega
    have c3 := c_isub v (11 : Int32)
    have r4 := rng32 (v - (11 : Int32))
    have t3 : (v - (11 : Int32)).toInt = (d : Int) - 4 := by omega
    have c4 := c_imul (v - (11 : Int32)) (128 : Int32)
    have r5 := rng32 ((v - (11 : Int32)) * (128 : Int32))
    rw [t3, k128] at c4
    have s3 : ((v - (11 : Int32)) * (128 : Int32)).toInt = ((d : Int) - 4) * 128 := by omega
    have c5 := c_iadd (2048 : Int32) ((v - (11 : Int32)) * (128 : Int32))
    have r6 := rng32 ((2048 : Int32) + ((v - (11 : Int32)) * (128 : Int32)))
    have s4 : ((2048 : Int32) + ((v - (11 : Int32)) * (128 : Int32))).toInt = 2048 + ((d : Int) - 4) * 128 := by omega
    have c6 := c_iadd ((2048 : Int32) + ((v - (11 : Int32)) * (128 : Int32))) (w.toInt32 - (128 : Int32))
    have r7 := rng32 (((2048 : Int32) + ((v - (11 : Int32)) * (128 : Int32))) + (w.toInt32 - (128 : Int32)))
    have s5 : (((2048 : Int32) + ((v - (11 : Int32)) * (128 : Int32))) + (w.toInt32 - (128 : Int32))).toInt = 2048 + ((d : Int) - 4) * 128 + (w.toInt - 128) := by omega
    rw [s5]
    omega
theorem own_h32 {q : Int64} (h : 0 ≤ q.toInt ∧ q.toInt ≤ 4294967295) : (((q.toUInt64 >>> ((32 : Int32) &&& 0x3f).toInt64.toUInt64).toInt64).toInt32) = (0 : Int32) := by
  have e := c_lushr q (32 : Int32) 32 (by decide) (by decide)
  generalize ((q.toUInt64 >>> ((32 : Int32) &&& 0x3f).toInt64.toUInt64).toInt64) = w at *
  have p : ((2 ^ 32 : Nat) : Int) = 4294967296 := by decide
  rw [p, Int.emod_eq_of_lt h.1 (by omega)] at e
  have c1 := c_l2i w
  have r2 := rng32 w.toInt32
  have k0 : (0 : Int32).toInt = 0 := by decide
  exact Int32.toInt_inj.mp (by omega)
theorem own_ms {q v : Int64} (h : 0 ≤ q.toInt ∧ q.toInt < 2305843009213693952) (hv : own_mn (4294967295 : Int64) (((q + (1000000 : Int64)) - (1 : Int64)) / (1000000 : Int64)) = v) : 0 ≤ v.toInt ∧ v.toInt ≤ 4294967295 := by
  have kL : (4294967295 : Int64).toInt = 4294967295 := by decide
  have k6 : (1000000 : Int64).toInt = 1000000 := by decide
  have k1 : (1 : Int64).toInt = 1 := by decide
  have a1 := c_ladd q (1000000 : Int64)
  have r1 := rng64 (q + (1000000 : Int64))
  have a2 := c_lsub (q + (1000000 : Int64)) (1 : Int64)
  have r2 := rng64 ((q + (1000000 : Int64)) - (1 : Int64))
  have t1 : (q + (1000000 : Int64)).toInt = q.toInt + 1000000 := by omega
  have t2 : ((q + (1000000 : Int64)) - (1 : Int64)).toInt = q.toInt + 999999 := by omega
  have a3 := (c_ldiv ((q + (1000000 : Int64)) - (1 : Int64)) (1000000 : Int64) 1000000 k6 (by decide)).1 (by omega)
  rw [← hv]
  unfold own_mn
  generalize ((q + (1000000 : Int64)) - (1 : Int64)) / (1000000 : Int64) = w at *
  by_cases p : w < (4294967295 : Int64)
  · rw [if_pos p]; rw [Int64.lt_iff_toInt_lt] at p; omega
  · rw [if_neg p]; omega
theorem own_wide {a v : Int64} (h : a &&& (2305843009213693951 : Int64) = v) : 0 ≤ v.toInt ∧ v.toInt < 2305843009213693952 := by
  have e := c_maskL a (2305843009213693951 : Int64) 61 (by decide) (by decide)
  have p : ((2 ^ 61 : Nat) : Int) = 2305843009213693952 := by decide
  rw [h, p] at e
  omega
theorem own_nrw {a v : Int64} (h : a &&& (2251799813685247 : Int64) = v) : 0 ≤ v.toInt ∧ v.toInt < 2251799813685248 := by
  have e := c_maskL a (2251799813685247 : Int64) 51 (by decide) (by decide)
  have p : ((2 ^ 51 : Nat) : Int) = 2251799813685248 := by decide
  rw [h, p] at e
  omega
theorem own_z0 (x : Int64) : (0 : Int64) + x = x := by
  have a := c_ladd (0 : Int64) x
  have b := rng64 ((0 : Int64) + x)
  have c := rng64 x
  have k0 : (0 : Int64).toInt = 0 := by decide
  exact Int64.toInt_inj.mp (by omega)
theorem own_lg {v : Value} (h : fits .long v = true) : ∃ x, v = .long x := by
  cases v <;> first | exact ⟨_, rfl⟩ | exact absurd (show false = true from h) (by decide)
theorem own_setJ {Z : State} {h h' : Heap} {a : Addr} {k : ClassId} {z j : Int32} {vs : List Value} {dv : Value} {x : Int64} {c : Cell} (A : Arr Z h a c .long) (q1 : c.cls = k) (S : c.slots.size = z.toNatClampNeg) (q3 : ¬ z < 0) (H : Has c vs dv) (G : ∀ i, i < c.slots.size → fits .long (vs.getD i dv) = true) (W : Wr h h' a j.toNatClampNeg (.long x)) : ∃ vs', Arv Z h' a k .long z vs' dv := by
  have F : Arv Z h a k .long z (vs ++ List.replicate (j.toNatClampNeg + 1) dv) dv := Arv.pad ⟨c, A, q1, S, q3, H, G⟩ (pad_rep vs dv _)
  obtain ⟨c', A', r1, r2, r3, H', G'⟩ := F
  exact ⟨_, Arv.set A' r1 r2 r3 H' G' rfl W j.toNatClampNeg rfl (by rw [List.length_append, List.length_replicate]; omega)⟩
theorem own_nnL {x : UInt64} (h : x &&& 0x7fffffffffffffff ≤ 0x7ff0000000000000) : Fl.NoNaN64 x := h
theorem own_fL {x : UInt64} (h : x &&& 0x7fffffffffffffff < 0x7ff0000000000000) : Fl.Fin64 x := h
theorem own_nzL {x : UInt64} (h : x &&& 0x7fffffffffffffff ≠ 0) : Fl.Nz64 x := h
theorem own_staI {Z : State} {args : Array Value} {t : Term} {k : Int32} (h : (Jvm.Cond.eq t (.int k)).value args Z none Z [] = some true) : t.eval args Z none [] Z = some (.int k) := by
  obtain ⟨x, y, h1, h2, h3, h4⟩ := cmp_v (Or.inl h)
  cases h2
  cases x <;> simp [Kin] at h3 h4
  rename_i z
  rw [h1, gotT (Jvm.Cond.eq_ints h1 (Term.int_eval k)) h]
section OwnAvg
open Jvm.FP.Core
theorem own_l1 : FP.l2d (1 : Int64) = FP.Core.dconst1 := by decide +kernel
theorem own_PK : Pz (4696837146684686336 : UInt64) (1000000 * one64) := by
  have e : FP.l2d (1000000 : Int64) = 4696837146684686336 := by decide +kernel
  have t : (1000000 : Int64).toInt.toNat = 1000000 := by decide
  have h := own_l2d (a := (1000000 : Int64)) (by decide) (by decide)
  rw [e, t] at h
  exact h
theorem own_P3 : Pz (FP.l2d (3 : Int64)) (3 * one64) := by
  have t : (3 : Int64).toInt.toNat = 3 := by decide
  have h := own_l2d (a := (3 : Int64)) (by decide) (by decide)
  rw [t] at h
  exact h
theorem own_d1 (x : Int64) : FP.ddiv (FP.l2d x) (FP.l2d (1 : Int64)) = FP.l2d x := by
  rw [own_l1]
  exact ddiv_one (DFin.ne_nan (FP.Core.l2d_fin x))
/-- a quotient by 2 (or 4) is a product with a half (or a quarter) -/
theorem own_scaleD {a b k : UInt64} {q1 q2 : Int} (ha : DFin a) (hb : val64 b = .fin false 4503599627370496 q1) (hk : val64 k = .fin false 4503599627370496 q2) (hq : q1 + q2 = -104) : FP.ddiv a b = FP.dmul a k := by
  obtain ⟨s, c, q, hv⟩ := ha
  have e0 : val64 (FP.ddiv a b) = quotient b64 (val64 a) (val64 b) := val64_ddiv a b
  have e1 : val64 (FP.dmul a k) = FP.Core.round b64 (exactProduct (val64 a) (val64 k)) := val64_dmul a k
  rw [hv, hb] at e0
  rw [hv, hk] at e1
  have f9 : quotient b64 (.fin s c q) (.fin false 4503599627370496 q1) = if (4503599627370496 : Nat) = 0 then (if c = 0 then .nan else .inf (s != false)) else roundRatio b64 (s != false) c 4503599627370496 (q - q1) := rfl
  have f0 : quotient b64 (.fin s c q) (.fin false 4503599627370496 q1) = roundRatio b64 (s != false) c 4503599627370496 (q - q1) := by rw [f9, if_neg (by decide)]
  have f1 : FP.Core.round b64 (exactProduct (.fin s c q) (.fin false 4503599627370496 q2)) = roundRatio b64 (s != false) (c * 4503599627370496) 1 (q + q2) := rfl
  rw [f0] at e0
  rw [f1] at e1
  have g : roundRatio b64 (s != false) c 4503599627370496 (q - q1) = roundRatio b64 (s != false) (c * 4503599627370496) 1 (q + q2) := by
    refine roundRatio_congr (by decide) (by decide) ?_
    rw [show (q - q1 - (q + q2)).toNat = 104 by omega, show (q + q2 - (q - q1)).toNat = 0 by omega]
    rw [Nat.pow_zero, Nat.mul_one, Nat.mul_one, Nat.mul_assoc c, show (4503599627370496 * 4503599627370496 : Nat) = 2 ^ 104 by decide +kernel]
  rw [g, ← e1] at e0
  refine val64_inj ?_ e0
  rw [e0, e1]
  exact roundRatio_ne_nan _ _ _ _ _
theorem own_d2 (x : Int64) : FP.ddiv (FP.l2d x) (FP.l2d (2 : Int64)) = FP.dmul (FP.l2d x) (4602678819172646912 : UInt64) :=
  own_scaleD (q1 := -51) (q2 := -53) (FP.Core.l2d_fin x) (by decide +kernel) (by decide +kernel) (by decide)
theorem own_d4 (x : Int64) : FP.ddiv (FP.l2d x) (FP.l2d (4 : Int64)) = FP.dmul (FP.l2d x) (4598175219545276416 : UInt64) :=
  own_scaleD (q1 := -50) (q2 := -54) (FP.Core.l2d_fin x) (by decide +kernel) (by decide +kernel) (by decide)
theorem own_sum3 {x y z : Int64} (hx : 0 ≤ x.toInt ∧ x.toInt < 2251799813685248) (hy : 0 ≤ y.toInt ∧ y.toInt < 2251799813685248) (hz : 0 ≤ z.toInt ∧ z.toInt < 2251799813685248) : ((x + y) + z).toInt = x.toInt + y.toInt + z.toInt := by
  have a1 := c_ladd x y
  have r1 := rng64 (x + y)
  have a2 := c_ladd (x + y) z
  have r2 := rng64 ((x + y) + z)
  omega
theorem own_d3 {x : Int64} (hx : 0 ≤ x.toInt ∧ x.toInt < 2251799813685248) : FP.ddiv (FP.l2d ((x + x) + x)) (FP.l2d (3 : Int64)) = FP.l2d x := by
  have s3 := own_sum3 hx hx hx
  have P := own_l2d (a := (x + x) + x) (by omega) (by omega)
  have o1 := one64_pos
  have e := own_div P own_P3 (Nat.mul_pos (by decide) o1)
  obtain ⟨c, q, hv⟩ := l2d_shape x
  rw [show decide (x.toInt < 0) = false from decide_eq_false (by omega)] at hv
  have w : Whole x.toInt (val64 (FP.Core.l2d x)) := l2d_whole (a := x) ⟨by omega, by omega⟩
  rw [hv] at w
  have wn := whole_natAbs w
  have ft := val64_fits (FP.Core.l2d x)
  rw [hv] at ft
  have rf : roundRatio b64 false c 1 q = .fin false c q := round_of_fits good_b64 ft
  have g : roundRatio b64 false (((x + x) + x).toInt.toNat * one64) (3 * one64) 0 = roundRatio b64 false c 1 q := by
    refine roundRatio_congr (Nat.mul_pos (by decide) o1) (by decide) ?_
    have t : ((x + x) + x).toInt.toNat = 3 * x.toInt.natAbs := by omega
    rw [t, show (0 - q).toNat = (-q).toNat by omega, show (q - 0).toNat = q.toNat by omega, Nat.mul_one]
    have u : 3 * x.toInt.natAbs * one64 * 2 ^ (-q).toNat = 3 * one64 * (x.toInt.natAbs * 2 ^ (-q).toNat) := by rw [Nat.mul_right_comm 3, Nat.mul_assoc (3 * one64)]
    rw [u, ← wn, Nat.mul_left_comm, Nat.mul_assoc c]
  rw [g, rf] at e
  refine val64_inj ?_ (e.trans hv.symm)
  rw [e]
  exact Datum.noConfusion
theorem own_five {x y z lo hi : Int64} (hx : 0 ≤ x.toInt ∧ x.toInt < 2251799813685248) (hy : 0 ≤ y.toInt ∧ y.toInt < 2251799813685248) (hz : 0 ≤ z.toInt ∧ z.toInt < 2251799813685248) (hlo : own_mn x (own_mn y z) = lo) (hhi : own_mxJ x (own_mxJ y z) = hi) :
    ∃ A B C, Pz (FP.ddiv (FP.l2d lo) (4696837146684686336 : UInt64)) A ∧ Pz (FP.ddiv (FP.ddiv (FP.l2d ((x + y) + z)) (FP.l2d (3 : Int64))) (4696837146684686336 : UInt64)) B ∧ Pz (FP.ddiv (FP.l2d hi) (4696837146684686336 : UInt64)) C ∧ A ≤ B ∧ B ≤ C := by
  have s3 := own_sum3 hx hy hz
  have o1 := one64_pos
  have bl : 0 ≤ lo.toInt ∧ lo.toInt < 2251799813685248 ∧ 3 * lo.toInt ≤ x.toInt + y.toInt + z.toInt := by
    have m1 := own_mn_s x (own_mn y z)
    have m2 := own_mn_s y z
    rw [hlo] at m1
    omega
  have bh : 0 ≤ hi.toInt ∧ hi.toInt < 2251799813685248 ∧ x.toInt + y.toInt + z.toInt ≤ 3 * hi.toInt := by
    have m1 := own_mx_s x (own_mxJ y z)
    have m2 := own_mx_s y z
    rw [hhi] at m1
    omega
  have Ps := own_l2d (a := (x + y) + z) (by omega) (by omega)
  have Pl := own_l2d (a := lo) (by omega) (by omega)
  have Ph := own_l2d (a := hi) (by omega) (by omega)
  have e1 : ((x + y) + z).toInt.toNat = (x.toInt + y.toInt + z.toInt).toNat := by rw [s3]
  rw [e1] at Ps
  have u1 : 3 * lo.toInt.toNat ≤ (x.toInt + y.toInt + z.toInt).toNat := by omega
  have u2 : (x.toInt + y.toInt + z.toInt).toNat ≤ 3 * hi.toInt.toNat := by omega
  have u3 : lo.toInt.toNat < 2251799813685248 := by omega
  have u4 : hi.toInt.toNat < 2251799813685248 := by omega
  generalize (x.toInt + y.toInt + z.toInt).toNat = s at Ps u1 u2
  generalize lo.toInt.toNat = l at Pl u1 u3
  generalize hi.toInt.toNat = h at Ph u2 u4
  have B3 : 0 < 3 * one64 := Nat.mul_pos (by decide) o1
  have BK : 0 < 1000000 * one64 := Nat.mul_pos (by decide) o1
  have t1 : s * 2 ^ 0 ≤ h * 3 := by rw [Nat.pow_zero]; omega
  have t2 : l * 3 ≤ s * 2 ^ 0 := by rw [Nat.pow_zero]; omega
  have Pt := own_quot Ps own_P3 B3 (k := h) (j := 0) (by omega) (by decide) (own_scale t1)
  have Lt := own_le (A := s * one64) B3 (k := h) (j := 0) (by omega) (by decide) (own_scale t1)
  have Gt := own_ge (A := s * one64) B3 (k := l) (j := 0) (by omega) (by decide) (own_scale' t2)
  rw [← own_one] at Lt Gt
  generalize zmag b64 (roundRatio b64 false (s * one64) (3 * one64) 0) = M at Pt Lt Gt
  have w0 : ∀ k : Nat, k * one64 ≤ k * (1000000 * one64) := fun k => Nat.mul_le_mul_left k (Nat.le_mul_of_pos_left _ (by decide))
  have A1 := own_quot Pl own_PK BK (k := l) (j := 0) (by omega) (by decide) (by rw [Nat.pow_zero, Nat.mul_one]; exact w0 l)
  have B1 := own_quot Pt own_PK BK (k := h) (j := 0) (by omega) (by decide) (by rw [Nat.pow_zero, Nat.mul_one]; exact Nat.le_trans Lt (w0 h))
  have C1 := own_quot Ph own_PK BK (k := h) (j := 0) (by omega) (by decide) (by rw [Nat.pow_zero, Nat.mul_one]; exact w0 h)
  exact ⟨_, _, _, A1, B1, C1, own_mono BK Gt, own_mono BK Lt⟩
end OwnAvg
theorem own_c1 : ((0 : Int64) + (1 : Int64)) = 1 := by decide
theorem own_c2 : (((0 : Int64) + (1 : Int64)) + (1 : Int64)) = 2 := by decide
theorem own_c3' : ((((0 : Int64) + (1 : Int64)) + (1 : Int64)) + (1 : Int64)) = 3 := by decide
theorem own_c4 : (((((0 : Int64) + (1 : Int64)) + (1 : Int64)) + (1 : Int64)) + (1 : Int64)) = 4 := by decide
theorem own_nnQ {a : UInt64} (h : Fl.NoNaN64 a) : Fl.NoNaN64 (FP.ddiv a (4696837146684686336 : UInt64)) := Fl.ddiv_out h (own_fL (by decide)) (own_nzL (by decide))
theorem ef_7 (m : MethodId) (q1 : Int64) (q2 : Int64) : entryFrame m #[(.long q1), (.long q2)] 4 = mkF m 0 #[.val (.long q1), .second, .val (.long q2), .second] [] := by first | (simp [entryFrame, mkF, argsToLocals, Value.category]; done) | rfl
def Q7 (Z : State) (q1 : Int64) (q2 : Int64) (h0 : Heap) (n0 : Nat) (v : Option Value) (h : Heap) (L : List Loc) : Prop := v = some (.long (own_mn q1 q2)) ∧ Fr n0 L ∧ h = h0
theorem d7_0 : decode jdk_29_method_70_code 0 = .ok (.lload_n 0, 1) := by decide +kernel
theorem d7_1 : decode jdk_29_method_70_code 1 = .ok (.lload_n 2, 1) := by decide +kernel
theorem d7_2 : decode jdk_29_method_70_code 2 = .ok (.lcmp, 1) := by decide +kernel
theorem d7_3 : decode jdk_29_method_70_code 3 = .ok (.ifCond .gt 7, 3) := by decide +kernel
theorem d7_6 : decode jdk_29_method_70_code 6 = .ok (.lload_n 0, 1) := by decide +kernel
theorem d7_7 : decode jdk_29_method_70_code 7 = .ok (.goto 4, 3) := by decide +kernel
theorem d7_10 : decode jdk_29_method_70_code 10 = .ok (.lload_n 2, 1) := by decide +kernel
theorem d7_11 : decode jdk_29_method_70_code 11 = .ok (.lreturn, 1) := by decide +kernel
set_option maxRecDepth 65536 in
set_option maxHeartbeats 40000000 in
theorem rm7 (l : Launch) (Z : State) (a0 : Array Value) (hw : ∀ d ∈ tables_1, d.before a0 Z = true) (ws : List Jvm.Cond) (q1 : Int64) (q2 : Int64) (h0 : Heap) (n0 : Nat) (Z0 : n0 ≤ h0.size) :
    MetFree l (⟨"java/lang/Math", "min", "(JJ)J"⟩ : MethodName) (head1 (Jvm.Cond.code (⟨"java/lang/Math", "min", "(JJ)J"⟩ : MethodName) jdk_29_method_70_code 4 (some .long) :: ws) ({ frames := 0, cells := 0, slots := 0, locals := 0 } : Room)) (fun a U => a = #[(.long q1), (.long q2)] ∧ Z.Warmed39 U.vm ∧ U.heap = h0) (fun _ _ _ _ _ => True) (fun _ U o U' => ∃ v L, o = .returned v ∧ Q7 Z q1 q2 h0 n0 v U'.heap L ∧ FrameEnd U o U' L ({ frames := 0, cells := 0, slots := 0, locals := 0 } : Room).cells ({ frames := 0, cells := 0, slots := 0, locals := 0 } : Room).slots) := by
  refine MetFree.of_bodySF (Jvm.Free.JP.mathPlain rfl (by decide +kernel)) hisR ?_
  intro p e s m args below meth c s₁ Bd hml0 hP hK
  obtain ⟨rfl, hZ, hh⟩ := hP
  have hx := Bd.exec
  have hby := Bd.bytes
  have hml : c.maxLocals = 4 := hml0
  have hown : s.vm.findClass "java/lang/Math" = some m.cls := findClass_of_methodNamed Bd.named
  have hnm := (name_of_methodNamed Bd.named Bd.method).1
  have hlk : meth.locks = false := BodyLoose.notSynchronized Bd
  have X0 : Stand p l e ({ frames := 0, cells := 0, slots := 0, locals := 0 } : Room) s m #[(.long q1), (.long q2)] below meth c s₁ [] 0 0 := Stand.of_body Bd
  have e0 : s₁.heap = h0 := by rw [← hh, Bd.state]; rfl
  have N0 := Fr.nil n0
  show OEnds p.tables e below (OGoal (Q7 Z q1 q2 h0 n0) s 0 0) (s₁.setTop (entryFrame m #[(.long q1), (.long q2)] 4))
  refine OEnds.st (fun t k => castTop (ef_7 m q1 q2) k) ?_
  generalize hG : OGoal (Q7 Z q1 q2 h0 n0) s 0 0 = G
  have KK0 : Keep h0 h0 [] := Keep.refl h0 []
  show OEnds p.tables e below G (s₁.setTop (mkF m 0 #[.val (.long q1), .second, .val (.long q2), .second] []))
  refine OEnds.st (fun _ k => XS.lloadN X0.here hx rfl (hb hby d7_0) rfl k) ?_
  show OEnds p.tables e below G (s₁.setTop (mkF m 1 #[.val (.long q1), .second, .val (.long q2), .second] [(.long q1)]))
  refine OEnds.st (fun _ k => XS.lloadN X0.here hx rfl (hb hby d7_1) rfl k) ?_
  show OEnds p.tables e below G (s₁.setTop (mkF m 2 #[.val (.long q1), .second, .val (.long q2), .second] [(.long q2), (.long q1)]))
  refine OEnds.st (fun _ k => XS.lcmp X0.here hx rfl (hb hby d7_2) rfl k) ?_
  show OEnds p.tables e below G (s₁.setTop (mkF m 3 #[.val (.long q1), .second, .val (.long q2), .second] [(.int (lcmpW q1 q2))]))
  by_cases hc3_1001 : q2 < q1
  · -- pc 3: yes
    refine OEnds.st (fun _ k => XS.ifYes X0.here hx rfl (pc0 := 3) (pc' := 10) rfl (hb hby d7_3) rfl ((if0 _ _).trans (tlt ((lw_gt q1 q2).mpr hc3_1001)).2.2.1) (by decide) (by decide) k) ?_
    show OEnds p.tables e below G (s₁.setTop (mkF m 10 #[.val (.long q1), .second, .val (.long q2), .second] []))
    refine OEnds.st (fun _ k => XS.lloadN X0.here hx rfl (hb hby d7_10) rfl k) ?_
    show OEnds p.tables e below G (s₁.setTop (mkF m 11 #[.val (.long q1), .second, .val (.long q2), .second] [(.long q2)]))
    rw [← hG]
    refine OEnds.retJ X0 hx hlk Bd.returns (hb hby d7_11) (by decide) (by decide) ?_
    rw [e0]
    exact ⟨by simp only [own_mn, if_pos hc3_1001], N0, rfl⟩
  · -- pc 3: no
    refine OEnds.st (fun _ k => XS.ifNo X0.here hx rfl (hb hby d7_3) rfl ((if0 _ _).trans (flt (fun q => hc3_1001 ((lw_gt q1 q2).mp q))).2.2.1) k) ?_
    show OEnds p.tables e below G (s₁.setTop (mkF m 6 #[.val (.long q1), .second, .val (.long q2), .second] []))
    refine OEnds.st (fun _ k => XS.lloadN X0.here hx rfl (hb hby d7_6) rfl k) ?_
    show OEnds p.tables e below G (s₁.setTop (mkF m 7 #[.val (.long q1), .second, .val (.long q2), .second] [(.long q1)]))
    refine OEnds.st (fun _ k => XS.goto X0.here hx rfl (pc0 := 7) (pc' := 11) rfl (hb hby d7_7) (by decide) (by decide) k) ?_
    show OEnds p.tables e below G (s₁.setTop (mkF m 11 #[.val (.long q1), .second, .val (.long q2), .second] [(.long q1)]))
    rw [← hG]
    refine OEnds.retJ X0 hx hlk Bd.returns (hb hby d7_11) (by decide) (by decide) ?_
    rw [e0]
    exact ⟨by simp only [own_mn, if_neg hc3_1001], N0, rfl⟩
theorem ef_9 (m : MethodId) (q1 : Int64) (q2 : Int64) : entryFrame m #[(.long q1), (.long q2)] 4 = mkF m 0 #[.val (.long q1), .second, .val (.long q2), .second] [] := by first | (simp [entryFrame, mkF, argsToLocals, Value.category]; done) | rfl
def Q9 (Z : State) (q1 : Int64) (q2 : Int64) (h0 : Heap) (n0 : Nat) (v : Option Value) (h : Heap) (L : List Loc) : Prop := v = some (.long (own_mxJ q1 q2)) ∧ Fr n0 L ∧ h = h0
theorem d9_0 : decode jdk_29_method_66_code 0 = .ok (.lload_n 0, 1) := by decide +kernel
theorem d9_1 : decode jdk_29_method_66_code 1 = .ok (.lload_n 2, 1) := by decide +kernel
theorem d9_2 : decode jdk_29_method_66_code 2 = .ok (.lcmp, 1) := by decide +kernel
theorem d9_3 : decode jdk_29_method_66_code 3 = .ok (.ifCond .lt 7, 3) := by decide +kernel
theorem d9_6 : decode jdk_29_method_66_code 6 = .ok (.lload_n 0, 1) := by decide +kernel
theorem d9_7 : decode jdk_29_method_66_code 7 = .ok (.goto 4, 3) := by decide +kernel
theorem d9_10 : decode jdk_29_method_66_code 10 = .ok (.lload_n 2, 1) := by decide +kernel
theorem d9_11 : decode jdk_29_method_66_code 11 = .ok (.lreturn, 1) := by decide +kernel
set_option maxRecDepth 65536 in
set_option maxHeartbeats 40000000 in
theorem rm9 (l : Launch) (Z : State) (a0 : Array Value) (hw : ∀ d ∈ tables_1, d.before a0 Z = true) (ws : List Jvm.Cond) (q1 : Int64) (q2 : Int64) (h0 : Heap) (n0 : Nat) (Z0 : n0 ≤ h0.size) :
    MetFree l (⟨"java/lang/Math", "max", "(JJ)J"⟩ : MethodName) (head1 (Jvm.Cond.code (⟨"java/lang/Math", "max", "(JJ)J"⟩ : MethodName) jdk_29_method_66_code 4 (some .long) :: ws) ({ frames := 0, cells := 0, slots := 0, locals := 0 } : Room)) (fun a U => a = #[(.long q1), (.long q2)] ∧ Z.Warmed39 U.vm ∧ U.heap = h0) (fun _ _ _ _ _ => True) (fun _ U o U' => ∃ v L, o = .returned v ∧ Q9 Z q1 q2 h0 n0 v U'.heap L ∧ FrameEnd U o U' L ({ frames := 0, cells := 0, slots := 0, locals := 0 } : Room).cells ({ frames := 0, cells := 0, slots := 0, locals := 0 } : Room).slots) := by
  refine MetFree.of_bodySF (Jvm.Free.JP.mathPlain rfl (by decide +kernel)) hisR ?_
  intro p e s m args below meth c s₁ Bd hml0 hP hK
  obtain ⟨rfl, hZ, hh⟩ := hP
  have hx := Bd.exec
  have hby := Bd.bytes
  have hml : c.maxLocals = 4 := hml0
  have hown : s.vm.findClass "java/lang/Math" = some m.cls := findClass_of_methodNamed Bd.named
  have hnm := (name_of_methodNamed Bd.named Bd.method).1
  have hlk : meth.locks = false := BodyLoose.notSynchronized Bd
  have X0 : Stand p l e ({ frames := 0, cells := 0, slots := 0, locals := 0 } : Room) s m #[(.long q1), (.long q2)] below meth c s₁ [] 0 0 := Stand.of_body Bd
  have e0 : s₁.heap = h0 := by rw [← hh, Bd.state]; rfl
  have N0 := Fr.nil n0
  show OEnds p.tables e below (OGoal (Q9 Z q1 q2 h0 n0) s 0 0) (s₁.setTop (entryFrame m #[(.long q1), (.long q2)] 4))
  refine OEnds.st (fun t k => castTop (ef_9 m q1 q2) k) ?_
  generalize hG : OGoal (Q9 Z q1 q2 h0 n0) s 0 0 = G
  have KK0 : Keep h0 h0 [] := Keep.refl h0 []
  show OEnds p.tables e below G (s₁.setTop (mkF m 0 #[.val (.long q1), .second, .val (.long q2), .second] []))
  refine OEnds.st (fun _ k => XS.lloadN X0.here hx rfl (hb hby d9_0) rfl k) ?_
  show OEnds p.tables e below G (s₁.setTop (mkF m 1 #[.val (.long q1), .second, .val (.long q2), .second] [(.long q1)]))
  refine OEnds.st (fun _ k => XS.lloadN X0.here hx rfl (hb hby d9_1) rfl k) ?_
  show OEnds p.tables e below G (s₁.setTop (mkF m 2 #[.val (.long q1), .second, .val (.long q2), .second] [(.long q2), (.long q1)]))
  refine OEnds.st (fun _ k => XS.lcmp X0.here hx rfl (hb hby d9_2) rfl k) ?_
  show OEnds p.tables e below G (s₁.setTop (mkF m 3 #[.val (.long q1), .second, .val (.long q2), .second] [(.int (lcmpW q1 q2))]))
  by_cases hc3_1001 : q1 < q2
  · -- pc 3: yes
    refine OEnds.st (fun _ k => XS.ifYes X0.here hx rfl (pc0 := 3) (pc' := 10) rfl (hb hby d9_3) rfl ((if0 _ _).trans (tlt ((lw_lt q1 q2).mpr hc3_1001)).1) (by decide) (by decide) k) ?_
    show OEnds p.tables e below G (s₁.setTop (mkF m 10 #[.val (.long q1), .second, .val (.long q2), .second] []))
    refine OEnds.st (fun _ k => XS.lloadN X0.here hx rfl (hb hby d9_10) rfl k) ?_
    show OEnds p.tables e below G (s₁.setTop (mkF m 11 #[.val (.long q1), .second, .val (.long q2), .second] [(.long q2)]))
    rw [← hG]
    refine OEnds.retJ X0 hx hlk Bd.returns (hb hby d9_11) (by decide) (by decide) ?_
    rw [e0]
    exact ⟨by simp only [own_mxJ, if_pos hc3_1001], N0, rfl⟩
  · -- pc 3: no
    refine OEnds.st (fun _ k => XS.ifNo X0.here hx rfl (hb hby d9_3) rfl ((if0 _ _).trans (flt (fun q => hc3_1001 ((lw_lt q1 q2).mp q))).1) k) ?_
    show OEnds p.tables e below G (s₁.setTop (mkF m 6 #[.val (.long q1), .second, .val (.long q2), .second] []))
    refine OEnds.st (fun _ k => XS.lloadN X0.here hx rfl (hb hby d9_6) rfl k) ?_
    show OEnds p.tables e below G (s₁.setTop (mkF m 7 #[.val (.long q1), .second, .val (.long q2), .second] [(.long q1)]))
    refine OEnds.st (fun _ k => XS.goto X0.here hx rfl (pc0 := 7) (pc' := 11) rfl (hb hby d9_7) (by decide) (by decide) k) ?_
    show OEnds p.tables e below G (s₁.setTop (mkF m 11 #[.val (.long q1), .second, .val (.long q2), .second] [(.long q1)]))
    rw [← hG]
    refine OEnds.retJ X0 hx hlk Bd.returns (hb hby d9_11) (by decide) (by decide) ?_
    rw [e0]
    exact ⟨by simp only [own_mxJ, if_neg hc3_1001], N0, rfl⟩
theorem pn_0 : plainName "java/lang/Integer" = true := by first | (simp [plainName, overriddenIn]; done) | decide +kernel
theorem ef_nz (m : MethodId) (p1 : Int32) : entryFrame m #[(.int p1)] 2 = mkF m 0 #[.val (.int p1), .unset] [] := by first | (simp [entryFrame, mkF, argsToLocals, Value.category]; done) | rfl
def Qnz (Z : State) (p1 : Int32) (h0 : Heap) (n0 : Nat) (v : Option Value) (h : Heap) (L : List Loc) : Prop := v = some (.int (own_nlz p1)) ∧ Fr n0 L ∧ h = h0
theorem d5_0 : decode jdk_33_method_47_code 0 = .ok (.iload_n 0, 1) := by decide +kernel
theorem d5_1 : decode jdk_33_method_47_code 1 = .ok (.ifCond .gt 14, 3) := by decide +kernel
theorem d5_4 : decode jdk_33_method_47_code 4 = .ok (.iload_n 0, 1) := by decide +kernel
theorem d5_5 : decode jdk_33_method_47_code 5 = .ok (.ifCond .ne 8, 3) := by decide +kernel
theorem d5_8 : decode jdk_33_method_47_code 8 = .ok (.bipush 32, 2) := by decide +kernel
theorem d5_10 : decode jdk_33_method_47_code 10 = .ok (.goto 4, 3) := by decide +kernel
theorem d5_13 : decode jdk_33_method_47_code 13 = .ok (.iconst 0, 1) := by decide +kernel
theorem d5_14 : decode jdk_33_method_47_code 14 = .ok (.ireturn, 1) := by decide +kernel
theorem d5_15 : decode jdk_33_method_47_code 15 = .ok (.bipush 31, 2) := by decide +kernel
theorem d5_17 : decode jdk_33_method_47_code 17 = .ok (.istore_n 1, 1) := by decide +kernel
theorem d5_18 : decode jdk_33_method_47_code 18 = .ok (.iload_n 0, 1) := by decide +kernel
theorem d5_19 : decode jdk_33_method_47_code 19 = .ok (.ldc_w 264, 3) := by decide +kernel
theorem d5_22 : decode jdk_33_method_47_code 22 = .ok (.if_icmp .lt 11, 3) := by decide +kernel
theorem d5_25 : decode jdk_33_method_47_code 25 = .ok (.iinc 1 (-16), 3) := by decide +kernel
theorem d5_28 : decode jdk_33_method_47_code 28 = .ok (.iload_n 0, 1) := by decide +kernel
theorem d5_29 : decode jdk_33_method_47_code 29 = .ok (.bipush 16, 2) := by decide +kernel
theorem d5_31 : decode jdk_33_method_47_code 31 = .ok (.iushr, 1) := by decide +kernel
theorem d5_32 : decode jdk_33_method_47_code 32 = .ok (.istore_n 0, 1) := by decide +kernel
theorem d5_33 : decode jdk_33_method_47_code 33 = .ok (.iload_n 0, 1) := by decide +kernel
theorem d5_34 : decode jdk_33_method_47_code 34 = .ok (.sipush 256, 3) := by decide +kernel
theorem d5_37 : decode jdk_33_method_47_code 37 = .ok (.if_icmp .lt 11, 3) := by decide +kernel
theorem d5_40 : decode jdk_33_method_47_code 40 = .ok (.iinc 1 (-8), 3) := by decide +kernel
theorem d5_43 : decode jdk_33_method_47_code 43 = .ok (.iload_n 0, 1) := by decide +kernel
theorem d5_44 : decode jdk_33_method_47_code 44 = .ok (.bipush 8, 2) := by decide +kernel
theorem d5_46 : decode jdk_33_method_47_code 46 = .ok (.iushr, 1) := by decide +kernel
theorem d5_47 : decode jdk_33_method_47_code 47 = .ok (.istore_n 0, 1) := by decide +kernel
theorem d5_48 : decode jdk_33_method_47_code 48 = .ok (.iload_n 0, 1) := by decide +kernel
theorem d5_49 : decode jdk_33_method_47_code 49 = .ok (.bipush 16, 2) := by decide +kernel
theorem d5_51 : decode jdk_33_method_47_code 51 = .ok (.if_icmp .lt 10, 3) := by decide +kernel
theorem d5_54 : decode jdk_33_method_47_code 54 = .ok (.iinc 1 (-4), 3) := by decide +kernel
theorem d5_57 : decode jdk_33_method_47_code 57 = .ok (.iload_n 0, 1) := by decide +kernel
theorem d5_58 : decode jdk_33_method_47_code 58 = .ok (.iconst 4, 1) := by decide +kernel
theorem d5_59 : decode jdk_33_method_47_code 59 = .ok (.iushr, 1) := by decide +kernel
theorem d5_60 : decode jdk_33_method_47_code 60 = .ok (.istore_n 0, 1) := by decide +kernel
theorem d5_61 : decode jdk_33_method_47_code 61 = .ok (.iload_n 0, 1) := by decide +kernel
theorem d5_62 : decode jdk_33_method_47_code 62 = .ok (.iconst 4, 1) := by decide +kernel
theorem d5_63 : decode jdk_33_method_47_code 63 = .ok (.if_icmp .lt 10, 3) := by decide +kernel
theorem d5_66 : decode jdk_33_method_47_code 66 = .ok (.iinc 1 (-2), 3) := by decide +kernel
theorem d5_69 : decode jdk_33_method_47_code 69 = .ok (.iload_n 0, 1) := by decide +kernel
theorem d5_70 : decode jdk_33_method_47_code 70 = .ok (.iconst 2, 1) := by decide +kernel
theorem d5_71 : decode jdk_33_method_47_code 71 = .ok (.iushr, 1) := by decide +kernel
theorem d5_72 : decode jdk_33_method_47_code 72 = .ok (.istore_n 0, 1) := by decide +kernel
theorem d5_73 : decode jdk_33_method_47_code 73 = .ok (.iload_n 1, 1) := by decide +kernel
theorem d5_74 : decode jdk_33_method_47_code 74 = .ok (.iload_n 0, 1) := by decide +kernel
theorem d5_75 : decode jdk_33_method_47_code 75 = .ok (.iconst 1, 1) := by decide +kernel
theorem d5_76 : decode jdk_33_method_47_code 76 = .ok (.iushr, 1) := by decide +kernel
theorem d5_77 : decode jdk_33_method_47_code 77 = .ok (.isub, 1) := by decide +kernel
theorem d5_78 : decode jdk_33_method_47_code 78 = .ok (.ireturn, 1) := by decide +kernel
set_option maxRecDepth 65536 in
set_option maxHeartbeats 40000000 in
theorem rmnz (l : Launch) (Z : State) (a0 : Array Value) (hw : ∀ d ∈ tables_1, d.before a0 Z = true) (ws : List Jvm.Cond) (p1 : Int32) (h0 : Heap) (n0 : Nat) (Z0 : n0 ≤ h0.size) :
    MetFree l (⟨"java/lang/Integer", "numberOfLeadingZeros", "(I)I"⟩ : MethodName) (head1 (Jvm.Cond.code (⟨"java/lang/Integer", "numberOfLeadingZeros", "(I)I"⟩ : MethodName) jdk_33_method_47_code 2 (some .int) :: ws) ({ frames := 0, cells := 0, slots := 0, locals := 0 } : Room)) (fun a U => a = #[(.int p1)] ∧ Z.Warmed39 U.vm ∧ U.heap = h0) (fun _ _ _ _ _ => True) (fun _ U o U' => ∃ v L, o = .returned v ∧ Qnz Z p1 h0 n0 v U'.heap L ∧ FrameEnd U o U' L ({ frames := 0, cells := 0, slots := 0, locals := 0 } : Room).cells ({ frames := 0, cells := 0, slots := 0, locals := 0 } : Room).slots) := by
  refine MetFree.of_bodySF (plainFor_of_name pn_0) hisR ?_
  intro p e s m args below meth c s₁ Bd hml0 hP hK
  obtain ⟨rfl, hZ, hh⟩ := hP
  have hx := Bd.exec
  have hby := Bd.bytes
  have hml : c.maxLocals = 2 := hml0
  have hown : s.vm.findClass "java/lang/Integer" = some m.cls := findClass_of_methodNamed Bd.named
  have hnm := (name_of_methodNamed Bd.named Bd.method).1
  have hlk : meth.locks = false := BodyLoose.notSynchronized Bd
  have X0 : Stand p l e ({ frames := 0, cells := 0, slots := 0, locals := 0 } : Room) s m #[(.int p1)] below meth c s₁ [] 0 0 := Stand.of_body Bd
  have e0 : s₁.heap = h0 := by rw [← hh, Bd.state]; rfl
  have N0 := Fr.nil n0
  show OEnds p.tables e below (OGoal (Qnz Z p1 h0 n0) s 0 0) (s₁.setTop (entryFrame m #[(.int p1)] 2))
  refine OEnds.st (fun t k => castTop (ef_nz m p1) k) ?_
  generalize hG : OGoal (Qnz Z p1 h0 n0) s 0 0 = G
  have KK0 : Keep h0 h0 [] := Keep.refl h0 []
  show OEnds p.tables e below G (s₁.setTop (mkF m 0 #[.val (.int p1), .unset] []))
  refine OEnds.st (fun _ k => XS.iloadN X0.here hx rfl (hb hby d5_0) rfl k) ?_
  show OEnds p.tables e below G (s₁.setTop (mkF m 1 #[.val (.int p1), .unset] [(.int p1)]))
  by_cases hc1_1001 : (0 : Int32) < p1
  · -- pc 1: yes
    refine OEnds.st (fun _ k => XS.ifYes X0.here hx rfl (pc0 := 1) (pc' := 15) rfl (hb hby d5_1) rfl ((if0 _ _).trans (tlt hc1_1001).2.2.1) (by decide) (by decide) k) ?_
    show OEnds p.tables e below G (s₁.setTop (mkF m 15 #[.val (.int p1), .unset] []))
    refine OEnds.st (fun _ k => XS.bipush X0.here hx rfl (hb hby d5_15) k) ?_
    show OEnds p.tables e below G (s₁.setTop (mkF m 17 #[.val (.int p1), .unset] [(.int (31 : Int32))]))
    refine OEnds.st (fun _ k => XS.istoreN X0.here hx rfl (hb hby d5_17) rfl (l' := #[.val (.int p1), .val (.int (31 : Int32))]) rfl k) ?_
    show OEnds p.tables e below G (s₁.setTop (mkF m 18 #[.val (.int p1), .val (.int (31 : Int32))] []))
    refine OEnds.st (fun _ k => XS.iloadN X0.here hx rfl (hb hby d5_18) rfl k) ?_
    show OEnds p.tables e below G (s₁.setTop (mkF m 19 #[.val (.int p1), .val (.int (31 : Int32))] [(.int p1)]))
    refine OEnds.st (X0.ldcwInt hx hown (mvT hZ (hw _ (List.mem_of_getElem? (i := 52) rfl))) (g := (mkF m 19 #[.val (.int p1), .val (.int (31 : Int32))] [(.int p1)])) rfl (hb hby d5_19)) ?_
    show OEnds p.tables e below G (s₁.setTop (mkF m 22 #[.val (.int p1), .val (.int (31 : Int32))] [(.int (65536 : Int32)), (.int p1)]))
    by_cases hc22_1002 : p1 < (65536 : Int32)
    · -- pc 22: yes
      refine OEnds.st (fun _ k => XS.icmpYes X0.here hx rfl (pc0 := 22) (pc' := 33) rfl (hb hby d5_22) rfl (tlt hc22_1002).1 (by decide) (by decide) k) ?_
      show OEnds p.tables e below G (s₁.setTop (mkF m 33 #[.val (.int p1), .val (.int (31 : Int32))] []))
      refine OEnds.st (fun _ k => XS.iloadN X0.here hx rfl (hb hby d5_33) rfl k) ?_
      show OEnds p.tables e below G (s₁.setTop (mkF m 34 #[.val (.int p1), .val (.int (31 : Int32))] [(.int p1)]))
      refine OEnds.st (fun _ k => XS.sipush X0.here hx rfl (hb hby d5_34) k) ?_
      show OEnds p.tables e below G (s₁.setTop (mkF m 37 #[.val (.int p1), .val (.int (31 : Int32))] [(.int (256 : Int32)), (.int p1)]))
      by_cases hc37_1003 : p1 < (256 : Int32)
      · -- pc 37: yes
        refine OEnds.st (fun _ k => XS.icmpYes X0.here hx rfl (pc0 := 37) (pc' := 48) rfl (hb hby d5_37) rfl (tlt hc37_1003).1 (by decide) (by decide) k) ?_
        show OEnds p.tables e below G (s₁.setTop (mkF m 48 #[.val (.int p1), .val (.int (31 : Int32))] []))
        refine OEnds.st (fun _ k => XS.iloadN X0.here hx rfl (hb hby d5_48) rfl k) ?_
        show OEnds p.tables e below G (s₁.setTop (mkF m 49 #[.val (.int p1), .val (.int (31 : Int32))] [(.int p1)]))
        refine OEnds.st (fun _ k => XS.bipush X0.here hx rfl (hb hby d5_49) k) ?_
        show OEnds p.tables e below G (s₁.setTop (mkF m 51 #[.val (.int p1), .val (.int (31 : Int32))] [(.int (16 : Int32)), (.int p1)]))
        by_cases hc51_1004 : p1 < (16 : Int32)
        · -- pc 51: yes
          refine OEnds.st (fun _ k => XS.icmpYes X0.here hx rfl (pc0 := 51) (pc' := 61) rfl (hb hby d5_51) rfl (tlt hc51_1004).1 (by decide) (by decide) k) ?_
          show OEnds p.tables e below G (s₁.setTop (mkF m 61 #[.val (.int p1), .val (.int (31 : Int32))] []))
          refine OEnds.st (fun _ k => XS.iloadN X0.here hx rfl (hb hby d5_61) rfl k) ?_
          show OEnds p.tables e below G (s₁.setTop (mkF m 62 #[.val (.int p1), .val (.int (31 : Int32))] [(.int p1)]))
          refine OEnds.st (fun _ k => XS.iconst X0.here hx rfl (hb hby d5_62) k) ?_
          show OEnds p.tables e below G (s₁.setTop (mkF m 63 #[.val (.int p1), .val (.int (31 : Int32))] [(.int (4 : Int32)), (.int p1)]))
          by_cases hc63_1005 : p1 < (4 : Int32)
          · -- pc 63: yes
            refine OEnds.st (fun _ k => XS.icmpYes X0.here hx rfl (pc0 := 63) (pc' := 73) rfl (hb hby d5_63) rfl (tlt hc63_1005).1 (by decide) (by decide) k) ?_
            show OEnds p.tables e below G (s₁.setTop (mkF m 73 #[.val (.int p1), .val (.int (31 : Int32))] []))
            refine OEnds.st (fun _ k => XS.iloadN X0.here hx rfl (hb hby d5_73) rfl k) ?_
            show OEnds p.tables e below G (s₁.setTop (mkF m 74 #[.val (.int p1), .val (.int (31 : Int32))] [(.int (31 : Int32))]))
            refine OEnds.st (fun _ k => XS.iloadN X0.here hx rfl (hb hby d5_74) rfl k) ?_
            show OEnds p.tables e below G (s₁.setTop (mkF m 75 #[.val (.int p1), .val (.int (31 : Int32))] [(.int p1), (.int (31 : Int32))]))
            refine OEnds.st (fun _ k => XS.iconst X0.here hx rfl (hb hby d5_75) k) ?_
            show OEnds p.tables e below G (s₁.setTop (mkF m 76 #[.val (.int p1), .val (.int (31 : Int32))] [(.int (1 : Int32)), (.int p1), (.int (31 : Int32))]))
            refine OEnds.st (fun _ k => XS.iushr X0.here hx rfl (hb hby d5_76) rfl k) ?_
            show OEnds p.tables e below G (s₁.setTop (mkF m 77 #[.val (.int p1), .val (.int (31 : Int32))] [(.int ((p1.toUInt32 >>> ((1 : Int32) &&& 31).toUInt32).toInt32)), (.int (31 : Int32))]))
            refine OEnds.st (fun _ k => XS.isub X0.here hx rfl (hb hby d5_77) rfl k) ?_
            show OEnds p.tables e below G (s₁.setTop (mkF m 78 #[.val (.int p1), .val (.int (31 : Int32))] [(.int ((31 : Int32) - ((p1.toUInt32 >>> ((1 : Int32) &&& 31).toUInt32).toInt32)))]))
            rw [← hG]
            have uhc1_1001 : (0 : Int32) < p1 := hc1_1001
            have uhc22_1002 : p1 < (65536 : Int32) := hc22_1002
            have uhc37_1003 : p1 < (256 : Int32) := hc37_1003
            have uhc51_1004 : p1 < (16 : Int32) := hc51_1004
            have uhc63_1005 : p1 < (4 : Int32) := hc63_1005
            refine OEnds.retI X0 hx hlk Bd.returns (hb hby d5_78) (by decide) (by decide) ?_
            rw [e0]
            exact ⟨congrArg (fun z => some (Value.int z)) (by first | (simp only [own_nlz, own_n16, own_n8, own_n4, own_n2, own_n1, if_pos uhc1_1001, if_pos uhc22_1002, if_pos uhc37_1003, if_pos uhc51_1004, if_pos uhc63_1005]; done) | (simp only [own_nlz, own_n16, own_n8, own_n4, own_n2, own_n1, if_pos uhc1_1001, if_pos uhc22_1002, if_pos uhc37_1003, if_pos uhc51_1004, if_pos uhc63_1005]; rfl) | (simp only [own_nlz, own_n16, own_n8, own_n4, own_n2, own_n1, if_pos uhc1_1001, if_pos uhc22_1002, if_pos uhc37_1003, if_pos uhc51_1004, if_pos uhc63_1005]; exact congrArg (fun z => z - _) (by decide))), N0, rfl⟩
          · -- pc 63: no
            refine OEnds.st (fun _ k => XS.icmpNo X0.here hx rfl (hb hby d5_63) rfl (flt hc63_1005).1 k) ?_
            show OEnds p.tables e below G (s₁.setTop (mkF m 66 #[.val (.int p1), .val (.int (31 : Int32))] []))
            refine OEnds.st (fun _ k => XS.iinc X0.here hx rfl (hb hby d5_66) rfl (l' := #[.val (.int p1), .val (.int ((31 : Int32) + (-2 : Int32)))]) rfl k) ?_
            show OEnds p.tables e below G (s₁.setTop (mkF m 69 #[.val (.int p1), .val (.int ((31 : Int32) + (-2 : Int32)))] []))
            rw [show ((31 : Int32) + (-2 : Int32)) = (29 : Int32) from by decide]
            show OEnds p.tables e below G (s₁.setTop (mkF m 69 #[.val (.int p1), .val (.int (29 : Int32))] []))
            refine OEnds.st (fun _ k => XS.iloadN X0.here hx rfl (hb hby d5_69) rfl k) ?_
            show OEnds p.tables e below G (s₁.setTop (mkF m 70 #[.val (.int p1), .val (.int (29 : Int32))] [(.int p1)]))
            refine OEnds.st (fun _ k => XS.iconst X0.here hx rfl (hb hby d5_70) k) ?_
            show OEnds p.tables e below G (s₁.setTop (mkF m 71 #[.val (.int p1), .val (.int (29 : Int32))] [(.int (2 : Int32)), (.int p1)]))
            refine OEnds.st (fun _ k => XS.iushr X0.here hx rfl (hb hby d5_71) rfl k) ?_
            show OEnds p.tables e below G (s₁.setTop (mkF m 72 #[.val (.int p1), .val (.int (29 : Int32))] [(.int ((p1.toUInt32 >>> ((2 : Int32) &&& 31).toUInt32).toInt32))]))
            refine OEnds.st (fun _ k => XS.istoreN X0.here hx rfl (hb hby d5_72) rfl (l' := #[.val (.int ((p1.toUInt32 >>> ((2 : Int32) &&& 31).toUInt32).toInt32)), .val (.int (29 : Int32))]) rfl k) ?_
            show OEnds p.tables e below G (s₁.setTop (mkF m 73 #[.val (.int ((p1.toUInt32 >>> ((2 : Int32) &&& 31).toUInt32).toInt32)), .val (.int (29 : Int32))] []))
            refine OEnds.st (fun _ k => XS.iloadN X0.here hx rfl (hb hby d5_73) rfl k) ?_
            show OEnds p.tables e below G (s₁.setTop (mkF m 74 #[.val (.int ((p1.toUInt32 >>> ((2 : Int32) &&& 31).toUInt32).toInt32)), .val (.int (29 : Int32))] [(.int (29 : Int32))]))
            refine OEnds.st (fun _ k => XS.iloadN X0.here hx rfl (hb hby d5_74) rfl k) ?_
            show OEnds p.tables e below G (s₁.setTop (mkF m 75 #[.val (.int ((p1.toUInt32 >>> ((2 : Int32) &&& 31).toUInt32).toInt32)), .val (.int (29 : Int32))] [(.int ((p1.toUInt32 >>> ((2 : Int32) &&& 31).toUInt32).toInt32)), (.int (29 : Int32))]))
            refine OEnds.st (fun _ k => XS.iconst X0.here hx rfl (hb hby d5_75) k) ?_
            show OEnds p.tables e below G (s₁.setTop (mkF m 76 #[.val (.int ((p1.toUInt32 >>> ((2 : Int32) &&& 31).toUInt32).toInt32)), .val (.int (29 : Int32))] [(.int (1 : Int32)), (.int ((p1.toUInt32 >>> ((2 : Int32) &&& 31).toUInt32).toInt32)), (.int (29 : Int32))]))
            refine OEnds.st (fun _ k => XS.iushr X0.here hx rfl (hb hby d5_76) rfl k) ?_
            show OEnds p.tables e below G (s₁.setTop (mkF m 77 #[.val (.int ((p1.toUInt32 >>> ((2 : Int32) &&& 31).toUInt32).toInt32)), .val (.int (29 : Int32))] [(.int ((((p1.toUInt32 >>> ((2 : Int32) &&& 31).toUInt32).toInt32).toUInt32 >>> ((1 : Int32) &&& 31).toUInt32).toInt32)), (.int (29 : Int32))]))
            refine OEnds.st (fun _ k => XS.isub X0.here hx rfl (hb hby d5_77) rfl k) ?_
            show OEnds p.tables e below G (s₁.setTop (mkF m 78 #[.val (.int ((p1.toUInt32 >>> ((2 : Int32) &&& 31).toUInt32).toInt32)), .val (.int (29 : Int32))] [(.int ((29 : Int32) - ((((p1.toUInt32 >>> ((2 : Int32) &&& 31).toUInt32).toInt32).toUInt32 >>> ((1 : Int32) &&& 31).toUInt32).toInt32)))]))
            rw [← hG]
            have uhc1_1001 : (0 : Int32) < p1 := hc1_1001
            have uhc22_1002 : p1 < (65536 : Int32) := hc22_1002
            have uhc37_1003 : p1 < (256 : Int32) := hc37_1003
            have uhc51_1004 : p1 < (16 : Int32) := hc51_1004
            have uhc63_1005 : ¬ (p1 < (4 : Int32)) := hc63_1005
            refine OEnds.retI X0 hx hlk Bd.returns (hb hby d5_78) (by decide) (by decide) ?_
            rw [e0]
            exact ⟨congrArg (fun z => some (Value.int z)) (by first | (simp only [own_nlz, own_n16, own_n8, own_n4, own_n2, own_n1, if_pos uhc1_1001, if_pos uhc22_1002, if_pos uhc37_1003, if_pos uhc51_1004, if_neg uhc63_1005]; done) | (simp only [own_nlz, own_n16, own_n8, own_n4, own_n2, own_n1, if_pos uhc1_1001, if_pos uhc22_1002, if_pos uhc37_1003, if_pos uhc51_1004, if_neg uhc63_1005]; rfl) | (simp only [own_nlz, own_n16, own_n8, own_n4, own_n2, own_n1, if_pos uhc1_1001, if_pos uhc22_1002, if_pos uhc37_1003, if_pos uhc51_1004, if_neg uhc63_1005]; exact congrArg (fun z => z - _) (by decide))), N0, rfl⟩
        · -- pc 51: no
          refine OEnds.st (fun _ k => XS.icmpNo X0.here hx rfl (hb hby d5_51) rfl (flt hc51_1004).1 k) ?_
          show OEnds p.tables e below G (s₁.setTop (mkF m 54 #[.val (.int p1), .val (.int (31 : Int32))] []))
          refine OEnds.st (fun _ k => XS.iinc X0.here hx rfl (hb hby d5_54) rfl (l' := #[.val (.int p1), .val (.int ((31 : Int32) + (-4 : Int32)))]) rfl k) ?_
          show OEnds p.tables e below G (s₁.setTop (mkF m 57 #[.val (.int p1), .val (.int ((31 : Int32) + (-4 : Int32)))] []))
          rw [show ((31 : Int32) + (-4 : Int32)) = (27 : Int32) from by decide]
          show OEnds p.tables e below G (s₁.setTop (mkF m 57 #[.val (.int p1), .val (.int (27 : Int32))] []))
          refine OEnds.st (fun _ k => XS.iloadN X0.here hx rfl (hb hby d5_57) rfl k) ?_
          show OEnds p.tables e below G (s₁.setTop (mkF m 58 #[.val (.int p1), .val (.int (27 : Int32))] [(.int p1)]))
          refine OEnds.st (fun _ k => XS.iconst X0.here hx rfl (hb hby d5_58) k) ?_
          show OEnds p.tables e below G (s₁.setTop (mkF m 59 #[.val (.int p1), .val (.int (27 : Int32))] [(.int (4 : Int32)), (.int p1)]))
          refine OEnds.st (fun _ k => XS.iushr X0.here hx rfl (hb hby d5_59) rfl k) ?_
          show OEnds p.tables e below G (s₁.setTop (mkF m 60 #[.val (.int p1), .val (.int (27 : Int32))] [(.int ((p1.toUInt32 >>> ((4 : Int32) &&& 31).toUInt32).toInt32))]))
          refine OEnds.st (fun _ k => XS.istoreN X0.here hx rfl (hb hby d5_60) rfl (l' := #[.val (.int ((p1.toUInt32 >>> ((4 : Int32) &&& 31).toUInt32).toInt32)), .val (.int (27 : Int32))]) rfl k) ?_
          show OEnds p.tables e below G (s₁.setTop (mkF m 61 #[.val (.int ((p1.toUInt32 >>> ((4 : Int32) &&& 31).toUInt32).toInt32)), .val (.int (27 : Int32))] []))
          refine OEnds.st (fun _ k => XS.iloadN X0.here hx rfl (hb hby d5_61) rfl k) ?_
          show OEnds p.tables e below G (s₁.setTop (mkF m 62 #[.val (.int ((p1.toUInt32 >>> ((4 : Int32) &&& 31).toUInt32).toInt32)), .val (.int (27 : Int32))] [(.int ((p1.toUInt32 >>> ((4 : Int32) &&& 31).toUInt32).toInt32))]))
          refine OEnds.st (fun _ k => XS.iconst X0.here hx rfl (hb hby d5_62) k) ?_
          show OEnds p.tables e below G (s₁.setTop (mkF m 63 #[.val (.int ((p1.toUInt32 >>> ((4 : Int32) &&& 31).toUInt32).toInt32)), .val (.int (27 : Int32))] [(.int (4 : Int32)), (.int ((p1.toUInt32 >>> ((4 : Int32) &&& 31).toUInt32).toInt32))]))
          by_cases hc63_1006 : ((p1.toUInt32 >>> ((4 : Int32) &&& 31).toUInt32).toInt32) < (4 : Int32)
          · -- pc 63: yes
            refine OEnds.st (fun _ k => XS.icmpYes X0.here hx rfl (pc0 := 63) (pc' := 73) rfl (hb hby d5_63) rfl (tlt hc63_1006).1 (by decide) (by decide) k) ?_
            show OEnds p.tables e below G (s₁.setTop (mkF m 73 #[.val (.int ((p1.toUInt32 >>> ((4 : Int32) &&& 31).toUInt32).toInt32)), .val (.int (27 : Int32))] []))
            refine OEnds.st (fun _ k => XS.iloadN X0.here hx rfl (hb hby d5_73) rfl k) ?_
            show OEnds p.tables e below G (s₁.setTop (mkF m 74 #[.val (.int ((p1.toUInt32 >>> ((4 : Int32) &&& 31).toUInt32).toInt32)), .val (.int (27 : Int32))] [(.int (27 : Int32))]))
            refine OEnds.st (fun _ k => XS.iloadN X0.here hx rfl (hb hby d5_74) rfl k) ?_
            show OEnds p.tables e below G (s₁.setTop (mkF m 75 #[.val (.int ((p1.toUInt32 >>> ((4 : Int32) &&& 31).toUInt32).toInt32)), .val (.int (27 : Int32))] [(.int ((p1.toUInt32 >>> ((4 : Int32) &&& 31).toUInt32).toInt32)), (.int (27 : Int32))]))
            refine OEnds.st (fun _ k => XS.iconst X0.here hx rfl (hb hby d5_75) k) ?_
            show OEnds p.tables e below G (s₁.setTop (mkF m 76 #[.val (.int ((p1.toUInt32 >>> ((4 : Int32) &&& 31).toUInt32).toInt32)), .val (.int (27 : Int32))] [(.int (1 : Int32)), (.int ((p1.toUInt32 >>> ((4 : Int32) &&& 31).toUInt32).toInt32)), (.int (27 : Int32))]))
            refine OEnds.st (fun _ k => XS.iushr X0.here hx rfl (hb hby d5_76) rfl k) ?_
            show OEnds p.tables e below G (s₁.setTop (mkF m 77 #[.val (.int ((p1.toUInt32 >>> ((4 : Int32) &&& 31).toUInt32).toInt32)), .val (.int (27 : Int32))] [(.int ((((p1.toUInt32 >>> ((4 : Int32) &&& 31).toUInt32).toInt32).toUInt32 >>> ((1 : Int32) &&& 31).toUInt32).toInt32)), (.int (27 : Int32))]))
            refine OEnds.st (fun _ k => XS.isub X0.here hx rfl (hb hby d5_77) rfl k) ?_
            show OEnds p.tables e below G (s₁.setTop (mkF m 78 #[.val (.int ((p1.toUInt32 >>> ((4 : Int32) &&& 31).toUInt32).toInt32)), .val (.int (27 : Int32))] [(.int ((27 : Int32) - ((((p1.toUInt32 >>> ((4 : Int32) &&& 31).toUInt32).toInt32).toUInt32 >>> ((1 : Int32) &&& 31).toUInt32).toInt32)))]))
            rw [← hG]
            have uhc1_1001 : (0 : Int32) < p1 := hc1_1001
            have uhc22_1002 : p1 < (65536 : Int32) := hc22_1002
            have uhc37_1003 : p1 < (256 : Int32) := hc37_1003
            have uhc51_1004 : ¬ (p1 < (16 : Int32)) := hc51_1004
            have uhc63_1006 : (own_us p1 (4 : Int32)) < (4 : Int32) := hc63_1006
            refine OEnds.retI X0 hx hlk Bd.returns (hb hby d5_78) (by decide) (by decide) ?_
            rw [e0]
            exact ⟨congrArg (fun z => some (Value.int z)) (by first | (simp only [own_nlz, own_n16, own_n8, own_n4, own_n2, own_n1, if_pos uhc1_1001, if_pos uhc22_1002, if_pos uhc37_1003, if_neg uhc51_1004, if_pos uhc63_1006]; done) | (simp only [own_nlz, own_n16, own_n8, own_n4, own_n2, own_n1, if_pos uhc1_1001, if_pos uhc22_1002, if_pos uhc37_1003, if_neg uhc51_1004, if_pos uhc63_1006]; rfl) | (simp only [own_nlz, own_n16, own_n8, own_n4, own_n2, own_n1, if_pos uhc1_1001, if_pos uhc22_1002, if_pos uhc37_1003, if_neg uhc51_1004, if_pos uhc63_1006]; exact congrArg (fun z => z - _) (by decide))), N0, rfl⟩
          · -- pc 63: no
            refine OEnds.st (fun _ k => XS.icmpNo X0.here hx rfl (hb hby d5_63) rfl (flt hc63_1006).1 k) ?_
            show OEnds p.tables e below G (s₁.setTop (mkF m 66 #[.val (.int ((p1.toUInt32 >>> ((4 : Int32) &&& 31).toUInt32).toInt32)), .val (.int (27 : Int32))] []))
            refine OEnds.st (fun _ k => XS.iinc X0.here hx rfl (hb hby d5_66) rfl (l' := #[.val (.int ((p1.toUInt32 >>> ((4 : Int32) &&& 31).toUInt32).toInt32)), .val (.int ((27 : Int32) + (-2 : Int32)))]) rfl k) ?_
            show OEnds p.tables e below G (s₁.setTop (mkF m 69 #[.val (.int ((p1.toUInt32 >>> ((4 : Int32) &&& 31).toUInt32).toInt32)), .val (.int ((27 : Int32) + (-2 : Int32)))] []))
            rw [show ((27 : Int32) + (-2 : Int32)) = (25 : Int32) from by decide]
            show OEnds p.tables e below G (s₁.setTop (mkF m 69 #[.val (.int ((p1.toUInt32 >>> ((4 : Int32) &&& 31).toUInt32).toInt32)), .val (.int (25 : Int32))] []))
            refine OEnds.st (fun _ k => XS.iloadN X0.here hx rfl (hb hby d5_69) rfl k) ?_
            show OEnds p.tables e below G (s₁.setTop (mkF m 70 #[.val (.int ((p1.toUInt32 >>> ((4 : Int32) &&& 31).toUInt32).toInt32)), .val (.int (25 : Int32))] [(.int ((p1.toUInt32 >>> ((4 : Int32) &&& 31).toUInt32).toInt32))]))
            refine OEnds.st (fun _ k => XS.iconst X0.here hx rfl (hb hby d5_70) k) ?_
            show OEnds p.tables e below G (s₁.setTop (mkF m 71 #[.val (.int ((p1.toUInt32 >>> ((4 : Int32) &&& 31).toUInt32).toInt32)), .val (.int (25 : Int32))] [(.int (2 : Int32)), (.int ((p1.toUInt32 >>> ((4 : Int32) &&& 31).toUInt32).toInt32))]))
            refine OEnds.st (fun _ k => XS.iushr X0.here hx rfl (hb hby d5_71) rfl k) ?_
            show OEnds p.tables e below G (s₁.setTop (mkF m 72 #[.val (.int ((p1.toUInt32 >>> ((4 : Int32) &&& 31).toUInt32).toInt32)), .val (.int (25 : Int32))] [(.int ((((p1.toUInt32 >>> ((4 : Int32) &&& 31).toUInt32).toInt32).toUInt32 >>> ((2 : Int32) &&& 31).toUInt32).toInt32))]))
            refine OEnds.st (fun _ k => XS.istoreN X0.here hx rfl (hb hby d5_72) rfl (l' := #[.val (.int ((((p1.toUInt32 >>> ((4 : Int32) &&& 31).toUInt32).toInt32).toUInt32 >>> ((2 : Int32) &&& 31).toUInt32).toInt32)), .val (.int (25 : Int32))]) rfl k) ?_
            show OEnds p.tables e below G (s₁.setTop (mkF m 73 #[.val (.int ((((p1.toUInt32 >>> ((4 : Int32) &&& 31).toUInt32).toInt32).toUInt32 >>> ((2 : Int32) &&& 31).toUInt32).toInt32)), .val (.int (25 : Int32))] []))
            refine OEnds.st (fun _ k => XS.iloadN X0.here hx rfl (hb hby d5_73) rfl k) ?_
            show OEnds p.tables e below G (s₁.setTop (mkF m 74 #[.val (.int ((((p1.toUInt32 >>> ((4 : Int32) &&& 31).toUInt32).toInt32).toUInt32 >>> ((2 : Int32) &&& 31).toUInt32).toInt32)), .val (.int (25 : Int32))] [(.int (25 : Int32))]))
            refine OEnds.st (fun _ k => XS.iloadN X0.here hx rfl (hb hby d5_74) rfl k) ?_
            show OEnds p.tables e below G (s₁.setTop (mkF m 75 #[.val (.int ((((p1.toUInt32 >>> ((4 : Int32) &&& 31).toUInt32).toInt32).toUInt32 >>> ((2 : Int32) &&& 31).toUInt32).toInt32)), .val (.int (25 : Int32))] [(.int ((((p1.toUInt32 >>> ((4 : Int32) &&& 31).toUInt32).toInt32).toUInt32 >>> ((2 : Int32) &&& 31).toUInt32).toInt32)), (.int (25 : Int32))]))
            refine OEnds.st (fun _ k => XS.iconst X0.here hx rfl (hb hby d5_75) k) ?_
            show OEnds p.tables e below G (s₁.setTop (mkF m 76 #[.val (.int ((((p1.toUInt32 >>> ((4 : Int32) &&& 31).toUInt32).toInt32).toUInt32 >>> ((2 : Int32) &&& 31).toUInt32).toInt32)), .val (.int (25 : Int32))] [(.int (1 : Int32)), (.int ((((p1.toUInt32 >>> ((4 : Int32) &&& 31).toUInt32).toInt32).toUInt32 >>> ((2 : Int32) &&& 31).toUInt32).toInt32)), (.int (25 : Int32))]))
            refine OEnds.st (fun _ k => XS.iushr X0.here hx rfl (hb hby d5_76) rfl k) ?_
            show OEnds p.tables e below G (s₁.setTop (mkF m 77 #[.val (.int ((((p1.toUInt32 >>> ((4 : Int32) &&& 31).toUInt32).toInt32).toUInt32 >>> ((2 : Int32) &&& 31).toUInt32).toInt32)), .val (.int (25 : Int32))] [(.int ((((((p1.toUInt32 >>> ((4 : Int32) &&& 31).toUInt32).toInt32).toUInt32 >>> ((2 : Int32) &&& 31).toUInt32).toInt32).toUInt32 >>> ((1 : Int32) &&& 31).toUInt32).toInt32)), (.int (25 : Int32))]))
            refine OEnds.st (fun _ k => XS.isub X0.here hx rfl (hb hby d5_77) rfl k) ?_
            show OEnds p.tables e below G (s₁.setTop (mkF m 78 #[.val (.int ((((p1.toUInt32 >>> ((4 : Int32) &&& 31).toUInt32).toInt32).toUInt32 >>> ((2 : Int32) &&& 31).toUInt32).toInt32)), .val (.int (25 : Int32))] [(.int ((25 : Int32) - ((((((p1.toUInt32 >>> ((4 : Int32) &&& 31).toUInt32).toInt32).toUInt32 >>> ((2 : Int32) &&& 31).toUInt32).toInt32).toUInt32 >>> ((1 : Int32) &&& 31).toUInt32).toInt32)))]))
            rw [← hG]
            have uhc1_1001 : (0 : Int32) < p1 := hc1_1001
            have uhc22_1002 : p1 < (65536 : Int32) := hc22_1002
            have uhc37_1003 : p1 < (256 : Int32) := hc37_1003
            have uhc51_1004 : ¬ (p1 < (16 : Int32)) := hc51_1004
            have uhc63_1006 : ¬ ((own_us p1 (4 : Int32)) < (4 : Int32)) := hc63_1006
            refine OEnds.retI X0 hx hlk Bd.returns (hb hby d5_78) (by decide) (by decide) ?_
            rw [e0]
            exact ⟨congrArg (fun z => some (Value.int z)) (by first | (simp only [own_nlz, own_n16, own_n8, own_n4, own_n2, own_n1, if_pos uhc1_1001, if_pos uhc22_1002, if_pos uhc37_1003, if_neg uhc51_1004, if_neg uhc63_1006]; done) | (simp only [own_nlz, own_n16, own_n8, own_n4, own_n2, own_n1, if_pos uhc1_1001, if_pos uhc22_1002, if_pos uhc37_1003, if_neg uhc51_1004, if_neg uhc63_1006]; rfl) | (simp only [own_nlz, own_n16, own_n8, own_n4, own_n2, own_n1, if_pos uhc1_1001, if_pos uhc22_1002, if_pos uhc37_1003, if_neg uhc51_1004, if_neg uhc63_1006]; exact congrArg (fun z => z - _) (by decide))), N0, rfl⟩
      · -- pc 37: no
        refine OEnds.st (fun _ k => XS.icmpNo X0.here hx rfl (hb hby d5_37) rfl (flt hc37_1003).1 k) ?_
        show OEnds p.tables e below G (s₁.setTop (mkF m 40 #[.val (.int p1), .val (.int (31 : Int32))] []))
        refine OEnds.st (fun _ k => XS.iinc X0.here hx rfl (hb hby d5_40) rfl (l' := #[.val (.int p1), .val (.int ((31 : Int32) + (-8 : Int32)))]) rfl k) ?_
        show OEnds p.tables e below G (s₁.setTop (mkF m 43 #[.val (.int p1), .val (.int ((31 : Int32) + (-8 : Int32)))] []))
        rw [show ((31 : Int32) + (-8 : Int32)) = (23 : Int32) from by decide]
        show OEnds p.tables e below G (s₁.setTop (mkF m 43 #[.val (.int p1), .val (.int (23 : Int32))] []))
        refine OEnds.st (fun _ k => XS.iloadN X0.here hx rfl (hb hby d5_43) rfl k) ?_
        show OEnds p.tables e below G (s₁.setTop (mkF m 44 #[.val (.int p1), .val (.int (23 : Int32))] [(.int p1)]))
        refine OEnds.st (fun _ k => XS.bipush X0.here hx rfl (hb hby d5_44) k) ?_
        show OEnds p.tables e below G (s₁.setTop (mkF m 46 #[.val (.int p1), .val (.int (23 : Int32))] [(.int (8 : Int32)), (.int p1)]))
        refine OEnds.st (fun _ k => XS.iushr X0.here hx rfl (hb hby d5_46) rfl k) ?_
        show OEnds p.tables e below G (s₁.setTop (mkF m 47 #[.val (.int p1), .val (.int (23 : Int32))] [(.int ((p1.toUInt32 >>> ((8 : Int32) &&& 31).toUInt32).toInt32))]))
        refine OEnds.st (fun _ k => XS.istoreN X0.here hx rfl (hb hby d5_47) rfl (l' := #[.val (.int ((p1.toUInt32 >>> ((8 : Int32) &&& 31).toUInt32).toInt32)), .val (.int (23 : Int32))]) rfl k) ?_
        show OEnds p.tables e below G (s₁.setTop (mkF m 48 #[.val (.int ((p1.toUInt32 >>> ((8 : Int32) &&& 31).toUInt32).toInt32)), .val (.int (23 : Int32))] []))
        refine OEnds.st (fun _ k => XS.iloadN X0.here hx rfl (hb hby d5_48) rfl k) ?_
        show OEnds p.tables e below G (s₁.setTop (mkF m 49 #[.val (.int ((p1.toUInt32 >>> ((8 : Int32) &&& 31).toUInt32).toInt32)), .val (.int (23 : Int32))] [(.int ((p1.toUInt32 >>> ((8 : Int32) &&& 31).toUInt32).toInt32))]))
        refine OEnds.st (fun _ k => XS.bipush X0.here hx rfl (hb hby d5_49) k) ?_
        show OEnds p.tables e below G (s₁.setTop (mkF m 51 #[.val (.int ((p1.toUInt32 >>> ((8 : Int32) &&& 31).toUInt32).toInt32)), .val (.int (23 : Int32))] [(.int (16 : Int32)), (.int ((p1.toUInt32 >>> ((8 : Int32) &&& 31).toUInt32).toInt32))]))
        by_cases hc51_1007 : ((p1.toUInt32 >>> ((8 : Int32) &&& 31).toUInt32).toInt32) < (16 : Int32)
        · -- pc 51: yes
          refine OEnds.st (fun _ k => XS.icmpYes X0.here hx rfl (pc0 := 51) (pc' := 61) rfl (hb hby d5_51) rfl (tlt hc51_1007).1 (by decide) (by decide) k) ?_
          show OEnds p.tables e below G (s₁.setTop (mkF m 61 #[.val (.int ((p1.toUInt32 >>> ((8 : Int32) &&& 31).toUInt32).toInt32)), .val (.int (23 : Int32))] []))
          refine OEnds.st (fun _ k => XS.iloadN X0.here hx rfl (hb hby d5_61) rfl k) ?_
          show OEnds p.tables e below G (s₁.setTop (mkF m 62 #[.val (.int ((p1.toUInt32 >>> ((8 : Int32) &&& 31).toUInt32).toInt32)), .val (.int (23 : Int32))] [(.int ((p1.toUInt32 >>> ((8 : Int32) &&& 31).toUInt32).toInt32))]))
          refine OEnds.st (fun _ k => XS.iconst X0.here hx rfl (hb hby d5_62) k) ?_
          show OEnds p.tables e below G (s₁.setTop (mkF m 63 #[.val (.int ((p1.toUInt32 >>> ((8 : Int32) &&& 31).toUInt32).toInt32)), .val (.int (23 : Int32))] [(.int (4 : Int32)), (.int ((p1.toUInt32 >>> ((8 : Int32) &&& 31).toUInt32).toInt32))]))
          by_cases hc63_1008 : ((p1.toUInt32 >>> ((8 : Int32) &&& 31).toUInt32).toInt32) < (4 : Int32)
          · -- pc 63: yes
            refine OEnds.st (fun _ k => XS.icmpYes X0.here hx rfl (pc0 := 63) (pc' := 73) rfl (hb hby d5_63) rfl (tlt hc63_1008).1 (by decide) (by decide) k) ?_
            show OEnds p.tables e below G (s₁.setTop (mkF m 73 #[.val (.int ((p1.toUInt32 >>> ((8 : Int32) &&& 31).toUInt32).toInt32)), .val (.int (23 : Int32))] []))
            refine OEnds.st (fun _ k => XS.iloadN X0.here hx rfl (hb hby d5_73) rfl k) ?_
            show OEnds p.tables e below G (s₁.setTop (mkF m 74 #[.val (.int ((p1.toUInt32 >>> ((8 : Int32) &&& 31).toUInt32).toInt32)), .val (.int (23 : Int32))] [(.int (23 : Int32))]))
            refine OEnds.st (fun _ k => XS.iloadN X0.here hx rfl (hb hby d5_74) rfl k) ?_
            show OEnds p.tables e below G (s₁.setTop (mkF m 75 #[.val (.int ((p1.toUInt32 >>> ((8 : Int32) &&& 31).toUInt32).toInt32)), .val (.int (23 : Int32))] [(.int ((p1.toUInt32 >>> ((8 : Int32) &&& 31).toUInt32).toInt32)), (.int (23 : Int32))]))
            refine OEnds.st (fun _ k => XS.iconst X0.here hx rfl (hb hby d5_75) k) ?_
            show OEnds p.tables e below G (s₁.setTop (mkF m 76 #[.val (.int ((p1.toUInt32 >>> ((8 : Int32) &&& 31).toUInt32).toInt32)), .val (.int (23 : Int32))] [(.int (1 : Int32)), (.int ((p1.toUInt32 >>> ((8 : Int32) &&& 31).toUInt32).toInt32)), (.int (23 : Int32))]))
            refine OEnds.st (fun _ k => XS.iushr X0.here hx rfl (hb hby d5_76) rfl k) ?_
            show OEnds p.tables e below G (s₁.setTop (mkF m 77 #[.val (.int ((p1.toUInt32 >>> ((8 : Int32) &&& 31).toUInt32).toInt32)), .val (.int (23 : Int32))] [(.int ((((p1.toUInt32 >>> ((8 : Int32) &&& 31).toUInt32).toInt32).toUInt32 >>> ((1 : Int32) &&& 31).toUInt32).toInt32)), (.int (23 : Int32))]))
            refine OEnds.st (fun _ k => XS.isub X0.here hx rfl (hb hby d5_77) rfl k) ?_
            show OEnds p.tables e below G (s₁.setTop (mkF m 78 #[.val (.int ((p1.toUInt32 >>> ((8 : Int32) &&& 31).toUInt32).toInt32)), .val (.int (23 : Int32))] [(.int ((23 : Int32) - ((((p1.toUInt32 >>> ((8 : Int32) &&& 31).toUInt32).toInt32).toUInt32 >>> ((1 : Int32) &&& 31).toUInt32).toInt32)))]))
            rw [← hG]
            have uhc1_1001 : (0 : Int32) < p1 := hc1_1001
            have uhc22_1002 : p1 < (65536 : Int32) := hc22_1002
            have uhc37_1003 : ¬ (p1 < (256 : Int32)) := hc37_1003
            have uhc51_1007 : (own_us p1 (8 : Int32)) < (16 : Int32) := hc51_1007
            have uhc63_1008 : (own_us p1 (8 : Int32)) < (4 : Int32) := hc63_1008
            refine OEnds.retI X0 hx hlk Bd.returns (hb hby d5_78) (by decide) (by decide) ?_
            rw [e0]
            exact ⟨congrArg (fun z => some (Value.int z)) (by first | (simp only [own_nlz, own_n16, own_n8, own_n4, own_n2, own_n1, if_pos uhc1_1001, if_pos uhc22_1002, if_neg uhc37_1003, if_pos uhc51_1007, if_pos uhc63_1008]; done) | (simp only [own_nlz, own_n16, own_n8, own_n4, own_n2, own_n1, if_pos uhc1_1001, if_pos uhc22_1002, if_neg uhc37_1003, if_pos uhc51_1007, if_pos uhc63_1008]; rfl) | (simp only [own_nlz, own_n16, own_n8, own_n4, own_n2, own_n1, if_pos uhc1_1001, if_pos uhc22_1002, if_neg uhc37_1003, if_pos uhc51_1007, if_pos uhc63_1008]; exact congrArg (fun z => z - _) (by decide))), N0, rfl⟩
          · -- pc 63: no
            refine OEnds.st (fun _ k => XS.icmpNo X0.here hx rfl (hb hby d5_63) rfl (flt hc63_1008).1 k) ?_
            show OEnds p.tables e below G (s₁.setTop (mkF m 66 #[.val (.int ((p1.toUInt32 >>> ((8 : Int32) &&& 31).toUInt32).toInt32)), .val (.int (23 : Int32))] []))
            refine OEnds.st (fun _ k => XS.iinc X0.here hx rfl (hb hby d5_66) rfl (l' := #[.val (.int ((p1.toUInt32 >>> ((8 : Int32) &&& 31).toUInt32).toInt32)), .val (.int ((23 : Int32) + (-2 : Int32)))]) rfl k) ?_
            show OEnds p.tables e below G (s₁.setTop (mkF m 69 #[.val (.int ((p1.toUInt32 >>> ((8 : Int32) &&& 31).toUInt32).toInt32)), .val (.int ((23 : Int32) + (-2 : Int32)))] []))
            rw [show ((23 : Int32) + (-2 : Int32)) = (21 : Int32) from by decide]
            show OEnds p.tables e below G (s₁.setTop (mkF m 69 #[.val (.int ((p1.toUInt32 >>> ((8 : Int32) &&& 31).toUInt32).toInt32)), .val (.int (21 : Int32))] []))
            refine OEnds.st (fun _ k => XS.iloadN X0.here hx rfl (hb hby d5_69) rfl k) ?_
            show OEnds p.tables e below G (s₁.setTop (mkF m 70 #[.val (.int ((p1.toUInt32 >>> ((8 : Int32) &&& 31).toUInt32).toInt32)), .val (.int (21 : Int32))] [(.int ((p1.toUInt32 >>> ((8 : Int32) &&& 31).toUInt32).toInt32))]))
            refine OEnds.st (fun _ k => XS.iconst X0.here hx rfl (hb hby d5_70) k) ?_
            show OEnds p.tables e below G (s₁.setTop (mkF m 71 #[.val (.int ((p1.toUInt32 >>> ((8 : Int32) &&& 31).toUInt32).toInt32)), .val (.int (21 : Int32))] [(.int (2 : Int32)), (.int ((p1.toUInt32 >>> ((8 : Int32) &&& 31).toUInt32).toInt32))]))
            refine OEnds.st (fun _ k => XS.iushr X0.here hx rfl (hb hby d5_71) rfl k) ?_
            show OEnds p.tables e below G (s₁.setTop (mkF m 72 #[.val (.int ((p1.toUInt32 >>> ((8 : Int32) &&& 31).toUInt32).toInt32)), .val (.int (21 : Int32))] [(.int ((((p1.toUInt32 >>> ((8 : Int32) &&& 31).toUInt32).toInt32).toUInt32 >>> ((2 : Int32) &&& 31).toUInt32).toInt32))]))
            refine OEnds.st (fun _ k => XS.istoreN X0.here hx rfl (hb hby d5_72) rfl (l' := #[.val (.int ((((p1.toUInt32 >>> ((8 : Int32) &&& 31).toUInt32).toInt32).toUInt32 >>> ((2 : Int32) &&& 31).toUInt32).toInt32)), .val (.int (21 : Int32))]) rfl k) ?_
            show OEnds p.tables e below G (s₁.setTop (mkF m 73 #[.val (.int ((((p1.toUInt32 >>> ((8 : Int32) &&& 31).toUInt32).toInt32).toUInt32 >>> ((2 : Int32) &&& 31).toUInt32).toInt32)), .val (.int (21 : Int32))] []))
            refine OEnds.st (fun _ k => XS.iloadN X0.here hx rfl (hb hby d5_73) rfl k) ?_
            show OEnds p.tables e below G (s₁.setTop (mkF m 74 #[.val (.int ((((p1.toUInt32 >>> ((8 : Int32) &&& 31).toUInt32).toInt32).toUInt32 >>> ((2 : Int32) &&& 31).toUInt32).toInt32)), .val (.int (21 : Int32))] [(.int (21 : Int32))]))
            refine OEnds.st (fun _ k => XS.iloadN X0.here hx rfl (hb hby d5_74) rfl k) ?_
            show OEnds p.tables e below G (s₁.setTop (mkF m 75 #[.val (.int ((((p1.toUInt32 >>> ((8 : Int32) &&& 31).toUInt32).toInt32).toUInt32 >>> ((2 : Int32) &&& 31).toUInt32).toInt32)), .val (.int (21 : Int32))] [(.int ((((p1.toUInt32 >>> ((8 : Int32) &&& 31).toUInt32).toInt32).toUInt32 >>> ((2 : Int32) &&& 31).toUInt32).toInt32)), (.int (21 : Int32))]))
            refine OEnds.st (fun _ k => XS.iconst X0.here hx rfl (hb hby d5_75) k) ?_
            show OEnds p.tables e below G (s₁.setTop (mkF m 76 #[.val (.int ((((p1.toUInt32 >>> ((8 : Int32) &&& 31).toUInt32).toInt32).toUInt32 >>> ((2 : Int32) &&& 31).toUInt32).toInt32)), .val (.int (21 : Int32))] [(.int (1 : Int32)), (.int ((((p1.toUInt32 >>> ((8 : Int32) &&& 31).toUInt32).toInt32).toUInt32 >>> ((2 : Int32) &&& 31).toUInt32).toInt32)), (.int (21 : Int32))]))
            refine OEnds.st (fun _ k => XS.iushr X0.here hx rfl (hb hby d5_76) rfl k) ?_
            show OEnds p.tables e below G (s₁.setTop (mkF m 77 #[.val (.int ((((p1.toUInt32 >>> ((8 : Int32) &&& 31).toUInt32).toInt32).toUInt32 >>> ((2 : Int32) &&& 31).toUInt32).toInt32)), .val (.int (21 : Int32))] [(.int ((((((p1.toUInt32 >>> ((8 : Int32) &&& 31).toUInt32).toInt32).toUInt32 >>> ((2 : Int32) &&& 31).toUInt32).toInt32).toUInt32 >>> ((1 : Int32) &&& 31).toUInt32).toInt32)), (.int (21 : Int32))]))
            refine OEnds.st (fun _ k => XS.isub X0.here hx rfl (hb hby d5_77) rfl k) ?_
            show OEnds p.tables e below G (s₁.setTop (mkF m 78 #[.val (.int ((((p1.toUInt32 >>> ((8 : Int32) &&& 31).toUInt32).toInt32).toUInt32 >>> ((2 : Int32) &&& 31).toUInt32).toInt32)), .val (.int (21 : Int32))] [(.int ((21 : Int32) - ((((((p1.toUInt32 >>> ((8 : Int32) &&& 31).toUInt32).toInt32).toUInt32 >>> ((2 : Int32) &&& 31).toUInt32).toInt32).toUInt32 >>> ((1 : Int32) &&& 31).toUInt32).toInt32)))]))
            rw [← hG]
            have uhc1_1001 : (0 : Int32) < p1 := hc1_1001
            have uhc22_1002 : p1 < (65536 : Int32) := hc22_1002
            have uhc37_1003 : ¬ (p1 < (256 : Int32)) := hc37_1003
            have uhc51_1007 : (own_us p1 (8 : Int32)) < (16 : Int32) := hc51_1007
            have uhc63_1008 : ¬ ((own_us p1 (8 : Int32)) < (4 : Int32)) := hc63_1008
            refine OEnds.retI X0 hx hlk Bd.returns (hb hby d5_78) (by decide) (by decide) ?_
            rw [e0]
            exact ⟨congrArg (fun z => some (Value.int z)) (by first | (simp only [own_nlz, own_n16, own_n8, own_n4, own_n2, own_n1, if_pos uhc1_1001, if_pos uhc22_1002, if_neg uhc37_1003, if_pos uhc51_1007, if_neg uhc63_1008]; done) | (simp only [own_nlz, own_n16, own_n8, own_n4, own_n2, own_n1, if_pos uhc1_1001, if_pos uhc22_1002, if_neg uhc37_1003, if_pos uhc51_1007, if_neg uhc63_1008]; rfl) | (simp only [own_nlz, own_n16, own_n8, own_n4, own_n2, own_n1, if_pos uhc1_1001, if_pos uhc22_1002, if_neg uhc37_1003, if_pos uhc51_1007, if_neg uhc63_1008]; exact congrArg (fun z => z - _) (by decide))), N0, rfl⟩
        · -- pc 51: no
          refine OEnds.st (fun _ k => XS.icmpNo X0.here hx rfl (hb hby d5_51) rfl (flt hc51_1007).1 k) ?_
          show OEnds p.tables e below G (s₁.setTop (mkF m 54 #[.val (.int ((p1.toUInt32 >>> ((8 : Int32) &&& 31).toUInt32).toInt32)), .val (.int (23 : Int32))] []))
          refine OEnds.st (fun _ k => XS.iinc X0.here hx rfl (hb hby d5_54) rfl (l' := #[.val (.int ((p1.toUInt32 >>> ((8 : Int32) &&& 31).toUInt32).toInt32)), .val (.int ((23 : Int32) + (-4 : Int32)))]) rfl k) ?_
          show OEnds p.tables e below G (s₁.setTop (mkF m 57 #[.val (.int ((p1.toUInt32 >>> ((8 : Int32) &&& 31).toUInt32).toInt32)), .val (.int ((23 : Int32) + (-4 : Int32)))] []))
          rw [show ((23 : Int32) + (-4 : Int32)) = (19 : Int32) from by decide]
          show OEnds p.tables e below G (s₁.setTop (mkF m 57 #[.val (.int ((p1.toUInt32 >>> ((8 : Int32) &&& 31).toUInt32).toInt32)), .val (.int (19 : Int32))] []))
          refine OEnds.st (fun _ k => XS.iloadN X0.here hx rfl (hb hby d5_57) rfl k) ?_
          show OEnds p.tables e below G (s₁.setTop (mkF m 58 #[.val (.int ((p1.toUInt32 >>> ((8 : Int32) &&& 31).toUInt32).toInt32)), .val (.int (19 : Int32))] [(.int ((p1.toUInt32 >>> ((8 : Int32) &&& 31).toUInt32).toInt32))]))
          refine OEnds.st (fun _ k => XS.iconst X0.here hx rfl (hb hby d5_58) k) ?_
          show OEnds p.tables e below G (s₁.setTop (mkF m 59 #[.val (.int ((p1.toUInt32 >>> ((8 : Int32) &&& 31).toUInt32).toInt32)), .val (.int (19 : Int32))] [(.int (4 : Int32)), (.int ((p1.toUInt32 >>> ((8 : Int32) &&& 31).toUInt32).toInt32))]))
          refine OEnds.st (fun _ k => XS.iushr X0.here hx rfl (hb hby d5_59) rfl k) ?_
          show OEnds p.tables e below G (s₁.setTop (mkF m 60 #[.val (.int ((p1.toUInt32 >>> ((8 : Int32) &&& 31).toUInt32).toInt32)), .val (.int (19 : Int32))] [(.int ((((p1.toUInt32 >>> ((8 : Int32) &&& 31).toUInt32).toInt32).toUInt32 >>> ((4 : Int32) &&& 31).toUInt32).toInt32))]))
          refine OEnds.st (fun _ k => XS.istoreN X0.here hx rfl (hb hby d5_60) rfl (l' := #[.val (.int ((((p1.toUInt32 >>> ((8 : Int32) &&& 31).toUInt32).toInt32).toUInt32 >>> ((4 : Int32) &&& 31).toUInt32).toInt32)), .val (.int (19 : Int32))]) rfl k) ?_
          show OEnds p.tables e below G (s₁.setTop (mkF m 61 #[.val (.int ((((p1.toUInt32 >>> ((8 : Int32) &&& 31).toUInt32).toInt32).toUInt32 >>> ((4 : Int32) &&& 31).toUInt32).toInt32)), .val (.int (19 : Int32))] []))
          refine OEnds.st (fun _ k => XS.iloadN X0.here hx rfl (hb hby d5_61) rfl k) ?_
          show OEnds p.tables e below G (s₁.setTop (mkF m 62 #[.val (.int ((((p1.toUInt32 >>> ((8 : Int32) &&& 31).toUInt32).toInt32).toUInt32 >>> ((4 : Int32) &&& 31).toUInt32).toInt32)), .val (.int (19 : Int32))] [(.int ((((p1.toUInt32 >>> ((8 : Int32) &&& 31).toUInt32).toInt32).toUInt32 >>> ((4 : Int32) &&& 31).toUInt32).toInt32))]))
          refine OEnds.st (fun _ k => XS.iconst X0.here hx rfl (hb hby d5_62) k) ?_
          show OEnds p.tables e below G (s₁.setTop (mkF m 63 #[.val (.int ((((p1.toUInt32 >>> ((8 : Int32) &&& 31).toUInt32).toInt32).toUInt32 >>> ((4 : Int32) &&& 31).toUInt32).toInt32)), .val (.int (19 : Int32))] [(.int (4 : Int32)), (.int ((((p1.toUInt32 >>> ((8 : Int32) &&& 31).toUInt32).toInt32).toUInt32 >>> ((4 : Int32) &&& 31).toUInt32).toInt32))]))
          by_cases hc63_1009 : ((((p1.toUInt32 >>> ((8 : Int32) &&& 31).toUInt32).toInt32).toUInt32 >>> ((4 : Int32) &&& 31).toUInt32).toInt32) < (4 : Int32)
          · -- pc 63: yes
            refine OEnds.st (fun _ k => XS.icmpYes X0.here hx rfl (pc0 := 63) (pc' := 73) rfl (hb hby d5_63) rfl (tlt hc63_1009).1 (by decide) (by decide) k) ?_
            show OEnds p.tables e below G (s₁.setTop (mkF m 73 #[.val (.int ((((p1.toUInt32 >>> ((8 : Int32) &&& 31).toUInt32).toInt32).toUInt32 >>> ((4 : Int32) &&& 31).toUInt32).toInt32)), .val (.int (19 : Int32))] []))
            refine OEnds.st (fun _ k => XS.iloadN X0.here hx rfl (hb hby d5_73) rfl k) ?_
            show OEnds p.tables e below G (s₁.setTop (mkF m 74 #[.val (.int ((((p1.toUInt32 >>> ((8 : Int32) &&& 31).toUInt32).toInt32).toUInt32 >>> ((4 : Int32) &&& 31).toUInt32).toInt32)), .val (.int (19 : Int32))] [(.int (19 : Int32))]))
            refine OEnds.st (fun _ k => XS.iloadN X0.here hx rfl (hb hby d5_74) rfl k) ?_
            show OEnds p.tables e below G (s₁.setTop (mkF m 75 #[.val (.int ((((p1.toUInt32 >>> ((8 : Int32) &&& 31).toUInt32).toInt32).toUInt32 >>> ((4 : Int32) &&& 31).toUInt32).toInt32)), .val (.int (19 : Int32))] [(.int ((((p1.toUInt32 >>> ((8 : Int32) &&& 31).toUInt32).toInt32).toUInt32 >>> ((4 : Int32) &&& 31).toUInt32).toInt32)), (.int (19 : Int32))]))
            refine OEnds.st (fun _ k => XS.iconst X0.here hx rfl (hb hby d5_75) k) ?_
            show OEnds p.tables e below G (s₁.setTop (mkF m 76 #[.val (.int ((((p1.toUInt32 >>> ((8 : Int32) &&& 31).toUInt32).toInt32).toUInt32 >>> ((4 : Int32) &&& 31).toUInt32).toInt32)), .val (.int (19 : Int32))] [(.int (1 : Int32)), (.int ((((p1.toUInt32 >>> ((8 : Int32) &&& 31).toUInt32).toInt32).toUInt32 >>> ((4 : Int32) &&& 31).toUInt32).toInt32)), (.int (19 : Int32))]))
            refine OEnds.st (fun _ k => XS.iushr X0.here hx rfl (hb hby d5_76) rfl k) ?_
            show OEnds p.tables e below G (s₁.setTop (mkF m 77 #[.val (.int ((((p1.toUInt32 >>> ((8 : Int32) &&& 31).toUInt32).toInt32).toUInt32 >>> ((4 : Int32) &&& 31).toUInt32).toInt32)), .val (.int (19 : Int32))] [(.int ((((((p1.toUInt32 >>> ((8 : Int32) &&& 31).toUInt32).toInt32).toUInt32 >>> ((4 : Int32) &&& 31).toUInt32).toInt32).toUInt32 >>> ((1 : Int32) &&& 31).toUInt32).toInt32)), (.int (19 : Int32))]))
            refine OEnds.st (fun _ k => XS.isub X0.here hx rfl (hb hby d5_77) rfl k) ?_
            show OEnds p.tables e below G (s₁.setTop (mkF m 78 #[.val (.int ((((p1.toUInt32 >>> ((8 : Int32) &&& 31).toUInt32).toInt32).toUInt32 >>> ((4 : Int32) &&& 31).toUInt32).toInt32)), .val (.int (19 : Int32))] [(.int ((19 : Int32) - ((((((p1.toUInt32 >>> ((8 : Int32) &&& 31).toUInt32).toInt32).toUInt32 >>> ((4 : Int32) &&& 31).toUInt32).toInt32).toUInt32 >>> ((1 : Int32) &&& 31).toUInt32).toInt32)))]))
            rw [← hG]
            have uhc1_1001 : (0 : Int32) < p1 := hc1_1001
            have uhc22_1002 : p1 < (65536 : Int32) := hc22_1002
            have uhc37_1003 : ¬ (p1 < (256 : Int32)) := hc37_1003
            have uhc51_1007 : ¬ ((own_us p1 (8 : Int32)) < (16 : Int32)) := hc51_1007
            have uhc63_1009 : (own_us (own_us p1 (8 : Int32)) (4 : Int32)) < (4 : Int32) := hc63_1009
            refine OEnds.retI X0 hx hlk Bd.returns (hb hby d5_78) (by decide) (by decide) ?_
            rw [e0]
            exact ⟨congrArg (fun z => some (Value.int z)) (by first | (simp only [own_nlz, own_n16, own_n8, own_n4, own_n2, own_n1, if_pos uhc1_1001, if_pos uhc22_1002, if_neg uhc37_1003, if_neg uhc51_1007, if_pos uhc63_1009]; done) | (simp only [own_nlz, own_n16, own_n8, own_n4, own_n2, own_n1, if_pos uhc1_1001, if_pos uhc22_1002, if_neg uhc37_1003, if_neg uhc51_1007, if_pos uhc63_1009]; rfl) | (simp only [own_nlz, own_n16, own_n8, own_n4, own_n2, own_n1, if_pos uhc1_1001, if_pos uhc22_1002, if_neg uhc37_1003, if_neg uhc51_1007, if_pos uhc63_1009]; exact congrArg (fun z => z - _) (by decide))), N0, rfl⟩
          · -- pc 63: no
            refine OEnds.st (fun _ k => XS.icmpNo X0.here hx rfl (hb hby d5_63) rfl (flt hc63_1009).1 k) ?_
            show OEnds p.tables e below G (s₁.setTop (mkF m 66 #[.val (.int ((((p1.toUInt32 >>> ((8 : Int32) &&& 31).toUInt32).toInt32).toUInt32 >>> ((4 : Int32) &&& 31).toUInt32).toInt32)), .val (.int (19 : Int32))] []))
            refine OEnds.st (fun _ k => XS.iinc X0.here hx rfl (hb hby d5_66) rfl (l' := #[.val (.int ((((p1.toUInt32 >>> ((8 : Int32) &&& 31).toUInt32).toInt32).toUInt32 >>> ((4 : Int32) &&& 31).toUInt32).toInt32)), .val (.int ((19 : Int32) + (-2 : Int32)))]) rfl k) ?_
            show OEnds p.tables e below G (s₁.setTop (mkF m 69 #[.val (.int ((((p1.toUInt32 >>> ((8 : Int32) &&& 31).toUInt32).toInt32).toUInt32 >>> ((4 : Int32) &&& 31).toUInt32).toInt32)), .val (.int ((19 : Int32) + (-2 : Int32)))] []))
            rw [show ((19 : Int32) + (-2 : Int32)) = (17 : Int32) from by decide]
            show OEnds p.tables e below G (s₁.setTop (mkF m 69 #[.val (.int ((((p1.toUInt32 >>> ((8 : Int32) &&& 31).toUInt32).toInt32).toUInt32 >>> ((4 : Int32) &&& 31).toUInt32).toInt32)), .val (.int (17 : Int32))] []))
            refine OEnds.st (fun _ k => XS.iloadN X0.here hx rfl (hb hby d5_69) rfl k) ?_
            show OEnds p.tables e below G (s₁.setTop (mkF m 70 #[.val (.int ((((p1.toUInt32 >>> ((8 : Int32) &&& 31).toUInt32).toInt32).toUInt32 >>> ((4 : Int32) &&& 31).toUInt32).toInt32)), .val (.int (17 : Int32))] [(.int ((((p1.toUInt32 >>> ((8 : Int32) &&& 31).toUInt32).toInt32).toUInt32 >>> ((4 : Int32) &&& 31).toUInt32).toInt32))]))
            refine OEnds.st (fun _ k => XS.iconst X0.here hx rfl (hb hby d5_70) k) ?_
            show OEnds p.tables e below G (s₁.setTop (mkF m 71 #[.val (.int ((((p1.toUInt32 >>> ((8 : Int32) &&& 31).toUInt32).toInt32).toUInt32 >>> ((4 : Int32) &&& 31).toUInt32).toInt32)), .val (.int (17 : Int32))] [(.int (2 : Int32)), (.int ((((p1.toUInt32 >>> ((8 : Int32) &&& 31).toUInt32).toInt32).toUInt32 >>> ((4 : Int32) &&& 31).toUInt32).toInt32))]))
            refine OEnds.st (fun _ k => XS.iushr X0.here hx rfl (hb hby d5_71) rfl k) ?_
            show OEnds p.tables e below G (s₁.setTop (mkF m 72 #[.val (.int ((((p1.toUInt32 >>> ((8 : Int32) &&& 31).toUInt32).toInt32).toUInt32 >>> ((4 : Int32) &&& 31).toUInt32).toInt32)), .val (.int (17 : Int32))] [(.int ((((((p1.toUInt32 >>> ((8 : Int32) &&& 31).toUInt32).toInt32).toUInt32 >>> ((4 : Int32) &&& 31).toUInt32).toInt32).toUInt32 >>> ((2 : Int32) &&& 31).toUInt32).toInt32))]))
            refine OEnds.st (fun _ k => XS.istoreN X0.here hx rfl (hb hby d5_72) rfl (l' := #[.val (.int ((((((p1.toUInt32 >>> ((8 : Int32) &&& 31).toUInt32).toInt32).toUInt32 >>> ((4 : Int32) &&& 31).toUInt32).toInt32).toUInt32 >>> ((2 : Int32) &&& 31).toUInt32).toInt32)), .val (.int (17 : Int32))]) rfl k) ?_
            show OEnds p.tables e below G (s₁.setTop (mkF m 73 #[.val (.int ((((((p1.toUInt32 >>> ((8 : Int32) &&& 31).toUInt32).toInt32).toUInt32 >>> ((4 : Int32) &&& 31).toUInt32).toInt32).toUInt32 >>> ((2 : Int32) &&& 31).toUInt32).toInt32)), .val (.int (17 : Int32))] []))
            refine OEnds.st (fun _ k => XS.iloadN X0.here hx rfl (hb hby d5_73) rfl k) ?_
            show OEnds p.tables e below G (s₁.setTop (mkF m 74 #[.val (.int ((((((p1.toUInt32 >>> ((8 : Int32) &&& 31).toUInt32).toInt32).toUInt32 >>> ((4 : Int32) &&& 31).toUInt32).toInt32).toUInt32 >>> ((2 : Int32) &&& 31).toUInt32).toInt32)), .val (.int (17 : Int32))] [(.int (17 : Int32))]))
            refine OEnds.st (fun _ k => XS.iloadN X0.here hx rfl (hb hby d5_74) rfl k) ?_
            show OEnds p.tables e below G (s₁.setTop (mkF m 75 #[.val (.int ((((((p1.toUInt32 >>> ((8 : Int32) &&& 31).toUInt32).toInt32).toUInt32 >>> ((4 : Int32) &&& 31).toUInt32).toInt32).toUInt32 >>> ((2 : Int32) &&& 31).toUInt32).toInt32)), .val (.int (17 : Int32))] [(.int ((((((p1.toUInt32 >>> ((8 : Int32) &&& 31).toUInt32).toInt32).toUInt32 >>> ((4 : Int32) &&& 31).toUInt32).toInt32).toUInt32 >>> ((2 : Int32) &&& 31).toUInt32).toInt32)), (.int (17 : Int32))]))
            refine OEnds.st (fun _ k => XS.iconst X0.here hx rfl (hb hby d5_75) k) ?_
            show OEnds p.tables e below G (s₁.setTop (mkF m 76 #[.val (.int ((((((p1.toUInt32 >>> ((8 : Int32) &&& 31).toUInt32).toInt32).toUInt32 >>> ((4 : Int32) &&& 31).toUInt32).toInt32).toUInt32 >>> ((2 : Int32) &&& 31).toUInt32).toInt32)), .val (.int (17 : Int32))] [(.int (1 : Int32)), (.int ((((((p1.toUInt32 >>> ((8 : Int32) &&& 31).toUInt32).toInt32).toUInt32 >>> ((4 : Int32) &&& 31).toUInt32).toInt32).toUInt32 >>> ((2 : Int32) &&& 31).toUInt32).toInt32)), (.int (17 : Int32))]))
            refine OEnds.st (fun _ k => XS.iushr X0.here hx rfl (hb hby d5_76) rfl k) ?_
            show OEnds p.tables e below G (s₁.setTop (mkF m 77 #[.val (.int ((((((p1.toUInt32 >>> ((8 : Int32) &&& 31).toUInt32).toInt32).toUInt32 >>> ((4 : Int32) &&& 31).toUInt32).toInt32).toUInt32 >>> ((2 : Int32) &&& 31).toUInt32).toInt32)), .val (.int (17 : Int32))] [(.int ((((((((p1.toUInt32 >>> ((8 : Int32) &&& 31).toUInt32).toInt32).toUInt32 >>> ((4 : Int32) &&& 31).toUInt32).toInt32).toUInt32 >>> ((2 : Int32) &&& 31).toUInt32).toInt32).toUInt32 >>> ((1 : Int32) &&& 31).toUInt32).toInt32)), (.int (17 : Int32))]))
            refine OEnds.st (fun _ k => XS.isub X0.here hx rfl (hb hby d5_77) rfl k) ?_
            show OEnds p.tables e below G (s₁.setTop (mkF m 78 #[.val (.int ((((((p1.toUInt32 >>> ((8 : Int32) &&& 31).toUInt32).toInt32).toUInt32 >>> ((4 : Int32) &&& 31).toUInt32).toInt32).toUInt32 >>> ((2 : Int32) &&& 31).toUInt32).toInt32)), .val (.int (17 : Int32))] [(.int ((17 : Int32) - ((((((((p1.toUInt32 >>> ((8 : Int32) &&& 31).toUInt32).toInt32).toUInt32 >>> ((4 : Int32) &&& 31).toUInt32).toInt32).toUInt32 >>> ((2 : Int32) &&& 31).toUInt32).toInt32).toUInt32 >>> ((1 : Int32) &&& 31).toUInt32).toInt32)))]))
            rw [← hG]
            have uhc1_1001 : (0 : Int32) < p1 := hc1_1001
            have uhc22_1002 : p1 < (65536 : Int32) := hc22_1002
            have uhc37_1003 : ¬ (p1 < (256 : Int32)) := hc37_1003
            have uhc51_1007 : ¬ ((own_us p1 (8 : Int32)) < (16 : Int32)) := hc51_1007
            have uhc63_1009 : ¬ ((own_us (own_us p1 (8 : Int32)) (4 : Int32)) < (4 : Int32)) := hc63_1009
            refine OEnds.retI X0 hx hlk Bd.returns (hb hby d5_78) (by decide) (by decide) ?_
            rw [e0]
            exact ⟨congrArg (fun z => some (Value.int z)) (by first | (simp only [own_nlz, own_n16, own_n8, own_n4, own_n2, own_n1, if_pos uhc1_1001, if_pos uhc22_1002, if_neg uhc37_1003, if_neg uhc51_1007, if_neg uhc63_1009]; done) | (simp only [own_nlz, own_n16, own_n8, own_n4, own_n2, own_n1, if_pos uhc1_1001, if_pos uhc22_1002, if_neg uhc37_1003, if_neg uhc51_1007, if_neg uhc63_1009]; rfl) | (simp only [own_nlz, own_n16, own_n8, own_n4, own_n2, own_n1, if_pos uhc1_1001, if_pos uhc22_1002, if_neg uhc37_1003, if_neg uhc51_1007, if_neg uhc63_1009]; exact congrArg (fun z => z - _) (by decide))), N0, rfl⟩
    · -- pc 22: no
      refine OEnds.st (fun _ k => XS.icmpNo X0.here hx rfl (hb hby d5_22) rfl (flt hc22_1002).1 k) ?_
      show OEnds p.tables e below G (s₁.setTop (mkF m 25 #[.val (.int p1), .val (.int (31 : Int32))] []))
      refine OEnds.st (fun _ k => XS.iinc X0.here hx rfl (hb hby d5_25) rfl (l' := #[.val (.int p1), .val (.int ((31 : Int32) + (-16 : Int32)))]) rfl k) ?_
      show OEnds p.tables e below G (s₁.setTop (mkF m 28 #[.val (.int p1), .val (.int ((31 : Int32) + (-16 : Int32)))] []))
      rw [show ((31 : Int32) + (-16 : Int32)) = (15 : Int32) from by decide]
      show OEnds p.tables e below G (s₁.setTop (mkF m 28 #[.val (.int p1), .val (.int (15 : Int32))] []))
      refine OEnds.st (fun _ k => XS.iloadN X0.here hx rfl (hb hby d5_28) rfl k) ?_
      show OEnds p.tables e below G (s₁.setTop (mkF m 29 #[.val (.int p1), .val (.int (15 : Int32))] [(.int p1)]))
      refine OEnds.st (fun _ k => XS.bipush X0.here hx rfl (hb hby d5_29) k) ?_
      show OEnds p.tables e below G (s₁.setTop (mkF m 31 #[.val (.int p1), .val (.int (15 : Int32))] [(.int (16 : Int32)), (.int p1)]))
      refine OEnds.st (fun _ k => XS.iushr X0.here hx rfl (hb hby d5_31) rfl k) ?_
      show OEnds p.tables e below G (s₁.setTop (mkF m 32 #[.val (.int p1), .val (.int (15 : Int32))] [(.int ((p1.toUInt32 >>> ((16 : Int32) &&& 31).toUInt32).toInt32))]))
      refine OEnds.st (fun _ k => XS.istoreN X0.here hx rfl (hb hby d5_32) rfl (l' := #[.val (.int ((p1.toUInt32 >>> ((16 : Int32) &&& 31).toUInt32).toInt32)), .val (.int (15 : Int32))]) rfl k) ?_
      show OEnds p.tables e below G (s₁.setTop (mkF m 33 #[.val (.int ((p1.toUInt32 >>> ((16 : Int32) &&& 31).toUInt32).toInt32)), .val (.int (15 : Int32))] []))
      refine OEnds.st (fun _ k => XS.iloadN X0.here hx rfl (hb hby d5_33) rfl k) ?_
      show OEnds p.tables e below G (s₁.setTop (mkF m 34 #[.val (.int ((p1.toUInt32 >>> ((16 : Int32) &&& 31).toUInt32).toInt32)), .val (.int (15 : Int32))] [(.int ((p1.toUInt32 >>> ((16 : Int32) &&& 31).toUInt32).toInt32))]))
      refine OEnds.st (fun _ k => XS.sipush X0.here hx rfl (hb hby d5_34) k) ?_
      show OEnds p.tables e below G (s₁.setTop (mkF m 37 #[.val (.int ((p1.toUInt32 >>> ((16 : Int32) &&& 31).toUInt32).toInt32)), .val (.int (15 : Int32))] [(.int (256 : Int32)), (.int ((p1.toUInt32 >>> ((16 : Int32) &&& 31).toUInt32).toInt32))]))
      by_cases hc37_1010 : ((p1.toUInt32 >>> ((16 : Int32) &&& 31).toUInt32).toInt32) < (256 : Int32)
      · -- pc 37: yes
        refine OEnds.st (fun _ k => XS.icmpYes X0.here hx rfl (pc0 := 37) (pc' := 48) rfl (hb hby d5_37) rfl (tlt hc37_1010).1 (by decide) (by decide) k) ?_
        show OEnds p.tables e below G (s₁.setTop (mkF m 48 #[.val (.int ((p1.toUInt32 >>> ((16 : Int32) &&& 31).toUInt32).toInt32)), .val (.int (15 : Int32))] []))
        refine OEnds.st (fun _ k => XS.iloadN X0.here hx rfl (hb hby d5_48) rfl k) ?_
        show OEnds p.tables e below G (s₁.setTop (mkF m 49 #[.val (.int ((p1.toUInt32 >>> ((16 : Int32) &&& 31).toUInt32).toInt32)), .val (.int (15 : Int32))] [(.int ((p1.toUInt32 >>> ((16 : Int32) &&& 31).toUInt32).toInt32))]))
        refine OEnds.st (fun _ k => XS.bipush X0.here hx rfl (hb hby d5_49) k) ?_
        show OEnds p.tables e below G (s₁.setTop (mkF m 51 #[.val (.int ((p1.toUInt32 >>> ((16 : Int32) &&& 31).toUInt32).toInt32)), .val (.int (15 : Int32))] [(.int (16 : Int32)), (.int ((p1.toUInt32 >>> ((16 : Int32) &&& 31).toUInt32).toInt32))]))
        by_cases hc51_1011 : ((p1.toUInt32 >>> ((16 : Int32) &&& 31).toUInt32).toInt32) < (16 : Int32)
        · -- pc 51: yes
          refine OEnds.st (fun _ k => XS.icmpYes X0.here hx rfl (pc0 := 51) (pc' := 61) rfl (hb hby d5_51) rfl (tlt hc51_1011).1 (by decide) (by decide) k) ?_
          show OEnds p.tables e below G (s₁.setTop (mkF m 61 #[.val (.int ((p1.toUInt32 >>> ((16 : Int32) &&& 31).toUInt32).toInt32)), .val (.int (15 : Int32))] []))
          refine OEnds.st (fun _ k => XS.iloadN X0.here hx rfl (hb hby d5_61) rfl k) ?_
          show OEnds p.tables e below G (s₁.setTop (mkF m 62 #[.val (.int ((p1.toUInt32 >>> ((16 : Int32) &&& 31).toUInt32).toInt32)), .val (.int (15 : Int32))] [(.int ((p1.toUInt32 >>> ((16 : Int32) &&& 31).toUInt32).toInt32))]))
          refine OEnds.st (fun _ k => XS.iconst X0.here hx rfl (hb hby d5_62) k) ?_
          show OEnds p.tables e below G (s₁.setTop (mkF m 63 #[.val (.int ((p1.toUInt32 >>> ((16 : Int32) &&& 31).toUInt32).toInt32)), .val (.int (15 : Int32))] [(.int (4 : Int32)), (.int ((p1.toUInt32 >>> ((16 : Int32) &&& 31).toUInt32).toInt32))]))
          by_cases hc63_1012 : ((p1.toUInt32 >>> ((16 : Int32) &&& 31).toUInt32).toInt32) < (4 : Int32)
          · -- pc 63: yes
            refine OEnds.st (fun _ k => XS.icmpYes X0.here hx rfl (pc0 := 63) (pc' := 73) rfl (hb hby d5_63) rfl (tlt hc63_1012).1 (by decide) (by decide) k) ?_
            show OEnds p.tables e below G (s₁.setTop (mkF m 73 #[.val (.int ((p1.toUInt32 >>> ((16 : Int32) &&& 31).toUInt32).toInt32)), .val (.int (15 : Int32))] []))
            refine OEnds.st (fun _ k => XS.iloadN X0.here hx rfl (hb hby d5_73) rfl k) ?_
            show OEnds p.tables e below G (s₁.setTop (mkF m 74 #[.val (.int ((p1.toUInt32 >>> ((16 : Int32) &&& 31).toUInt32).toInt32)), .val (.int (15 : Int32))] [(.int (15 : Int32))]))
            refine OEnds.st (fun _ k => XS.iloadN X0.here hx rfl (hb hby d5_74) rfl k) ?_
            show OEnds p.tables e below G (s₁.setTop (mkF m 75 #[.val (.int ((p1.toUInt32 >>> ((16 : Int32) &&& 31).toUInt32).toInt32)), .val (.int (15 : Int32))] [(.int ((p1.toUInt32 >>> ((16 : Int32) &&& 31).toUInt32).toInt32)), (.int (15 : Int32))]))
            refine OEnds.st (fun _ k => XS.iconst X0.here hx rfl (hb hby d5_75) k) ?_
            show OEnds p.tables e below G (s₁.setTop (mkF m 76 #[.val (.int ((p1.toUInt32 >>> ((16 : Int32) &&& 31).toUInt32).toInt32)), .val (.int (15 : Int32))] [(.int (1 : Int32)), (.int ((p1.toUInt32 >>> ((16 : Int32) &&& 31).toUInt32).toInt32)), (.int (15 : Int32))]))
            refine OEnds.st (fun _ k => XS.iushr X0.here hx rfl (hb hby d5_76) rfl k) ?_
            show OEnds p.tables e below G (s₁.setTop (mkF m 77 #[.val (.int ((p1.toUInt32 >>> ((16 : Int32) &&& 31).toUInt32).toInt32)), .val (.int (15 : Int32))] [(.int ((((p1.toUInt32 >>> ((16 : Int32) &&& 31).toUInt32).toInt32).toUInt32 >>> ((1 : Int32) &&& 31).toUInt32).toInt32)), (.int (15 : Int32))]))
            refine OEnds.st (fun _ k => XS.isub X0.here hx rfl (hb hby d5_77) rfl k) ?_
            show OEnds p.tables e below G (s₁.setTop (mkF m 78 #[.val (.int ((p1.toUInt32 >>> ((16 : Int32) &&& 31).toUInt32).toInt32)), .val (.int (15 : Int32))] [(.int ((15 : Int32) - ((((p1.toUInt32 >>> ((16 : Int32) &&& 31).toUInt32).toInt32).toUInt32 >>> ((1 : Int32) &&& 31).toUInt32).toInt32)))]))
            rw [← hG]
            have uhc1_1001 : (0 : Int32) < p1 := hc1_1001
            have uhc22_1002 : ¬ (p1 < (65536 : Int32)) := hc22_1002
            have uhc37_1010 : (own_us p1 (16 : Int32)) < (256 : Int32) := hc37_1010
            have uhc51_1011 : (own_us p1 (16 : Int32)) < (16 : Int32) := hc51_1011
            have uhc63_1012 : (own_us p1 (16 : Int32)) < (4 : Int32) := hc63_1012
            refine OEnds.retI X0 hx hlk Bd.returns (hb hby d5_78) (by decide) (by decide) ?_
            rw [e0]
            exact ⟨congrArg (fun z => some (Value.int z)) (by first | (simp only [own_nlz, own_n16, own_n8, own_n4, own_n2, own_n1, if_pos uhc1_1001, if_neg uhc22_1002, if_pos uhc37_1010, if_pos uhc51_1011, if_pos uhc63_1012]; done) | (simp only [own_nlz, own_n16, own_n8, own_n4, own_n2, own_n1, if_pos uhc1_1001, if_neg uhc22_1002, if_pos uhc37_1010, if_pos uhc51_1011, if_pos uhc63_1012]; rfl) | (simp only [own_nlz, own_n16, own_n8, own_n4, own_n2, own_n1, if_pos uhc1_1001, if_neg uhc22_1002, if_pos uhc37_1010, if_pos uhc51_1011, if_pos uhc63_1012]; exact congrArg (fun z => z - _) (by decide))), N0, rfl⟩
          · -- pc 63: no
            refine OEnds.st (fun _ k => XS.icmpNo X0.here hx rfl (hb hby d5_63) rfl (flt hc63_1012).1 k) ?_
            show OEnds p.tables e below G (s₁.setTop (mkF m 66 #[.val (.int ((p1.toUInt32 >>> ((16 : Int32) &&& 31).toUInt32).toInt32)), .val (.int (15 : Int32))] []))
            refine OEnds.st (fun _ k => XS.iinc X0.here hx rfl (hb hby d5_66) rfl (l' := #[.val (.int ((p1.toUInt32 >>> ((16 : Int32) &&& 31).toUInt32).toInt32)), .val (.int ((15 : Int32) + (-2 : Int32)))]) rfl k) ?_
            show OEnds p.tables e below G (s₁.setTop (mkF m 69 #[.val (.int ((p1.toUInt32 >>> ((16 : Int32) &&& 31).toUInt32).toInt32)), .val (.int ((15 : Int32) + (-2 : Int32)))] []))
            rw [show ((15 : Int32) + (-2 : Int32)) = (13 : Int32) from by decide]
            show OEnds p.tables e below G (s₁.setTop (mkF m 69 #[.val (.int ((p1.toUInt32 >>> ((16 : Int32) &&& 31).toUInt32).toInt32)), .val (.int (13 : Int32))] []))
            refine OEnds.st (fun _ k => XS.iloadN X0.here hx rfl (hb hby d5_69) rfl k) ?_
            show OEnds p.tables e below G (s₁.setTop (mkF m 70 #[.val (.int ((p1.toUInt32 >>> ((16 : Int32) &&& 31).toUInt32).toInt32)), .val (.int (13 : Int32))] [(.int ((p1.toUInt32 >>> ((16 : Int32) &&& 31).toUInt32).toInt32))]))
            refine OEnds.st (fun _ k => XS.iconst X0.here hx rfl (hb hby d5_70) k) ?_
            show OEnds p.tables e below G (s₁.setTop (mkF m 71 #[.val (.int ((p1.toUInt32 >>> ((16 : Int32) &&& 31).toUInt32).toInt32)), .val (.int (13 : Int32))] [(.int (2 : Int32)), (.int ((p1.toUInt32 >>> ((16 : Int32) &&& 31).toUInt32).toInt32))]))
            refine OEnds.st (fun _ k => XS.iushr X0.here hx rfl (hb hby d5_71) rfl k) ?_
            show OEnds p.tables e below G (s₁.setTop (mkF m 72 #[.val (.int ((p1.toUInt32 >>> ((16 : Int32) &&& 31).toUInt32).toInt32)), .val (.int (13 : Int32))] [(.int ((((p1.toUInt32 >>> ((16 : Int32) &&& 31).toUInt32).toInt32).toUInt32 >>> ((2 : Int32) &&& 31).toUInt32).toInt32))]))
            refine OEnds.st (fun _ k => XS.istoreN X0.here hx rfl (hb hby d5_72) rfl (l' := #[.val (.int ((((p1.toUInt32 >>> ((16 : Int32) &&& 31).toUInt32).toInt32).toUInt32 >>> ((2 : Int32) &&& 31).toUInt32).toInt32)), .val (.int (13 : Int32))]) rfl k) ?_
            show OEnds p.tables e below G (s₁.setTop (mkF m 73 #[.val (.int ((((p1.toUInt32 >>> ((16 : Int32) &&& 31).toUInt32).toInt32).toUInt32 >>> ((2 : Int32) &&& 31).toUInt32).toInt32)), .val (.int (13 : Int32))] []))
            refine OEnds.st (fun _ k => XS.iloadN X0.here hx rfl (hb hby d5_73) rfl k) ?_
            show OEnds p.tables e below G (s₁.setTop (mkF m 74 #[.val (.int ((((p1.toUInt32 >>> ((16 : Int32) &&& 31).toUInt32).toInt32).toUInt32 >>> ((2 : Int32) &&& 31).toUInt32).toInt32)), .val (.int (13 : Int32))] [(.int (13 : Int32))]))
            refine OEnds.st (fun _ k => XS.iloadN X0.here hx rfl (hb hby d5_74) rfl k) ?_
            show OEnds p.tables e below G (s₁.setTop (mkF m 75 #[.val (.int ((((p1.toUInt32 >>> ((16 : Int32) &&& 31).toUInt32).toInt32).toUInt32 >>> ((2 : Int32) &&& 31).toUInt32).toInt32)), .val (.int (13 : Int32))] [(.int ((((p1.toUInt32 >>> ((16 : Int32) &&& 31).toUInt32).toInt32).toUInt32 >>> ((2 : Int32) &&& 31).toUInt32).toInt32)), (.int (13 : Int32))]))
            refine OEnds.st (fun _ k => XS.iconst X0.here hx rfl (hb hby d5_75) k) ?_
            show OEnds p.tables e below G (s₁.setTop (mkF m 76 #[.val (.int ((((p1.toUInt32 >>> ((16 : Int32) &&& 31).toUInt32).toInt32).toUInt32 >>> ((2 : Int32) &&& 31).toUInt32).toInt32)), .val (.int (13 : Int32))] [(.int (1 : Int32)), (.int ((((p1.toUInt32 >>> ((16 : Int32) &&& 31).toUInt32).toInt32).toUInt32 >>> ((2 : Int32) &&& 31).toUInt32).toInt32)), (.int (13 : Int32))]))
            refine OEnds.st (fun _ k => XS.iushr X0.here hx rfl (hb hby d5_76) rfl k) ?_
            show OEnds p.tables e below G (s₁.setTop (mkF m 77 #[.val (.int ((((p1.toUInt32 >>> ((16 : Int32) &&& 31).toUInt32).toInt32).toUInt32 >>> ((2 : Int32) &&& 31).toUInt32).toInt32)), .val (.int (13 : Int32))] [(.int ((((((p1.toUInt32 >>> ((16 : Int32) &&& 31).toUInt32).toInt32).toUInt32 >>> ((2 : Int32) &&& 31).toUInt32).toInt32).toUInt32 >>> ((1 : Int32) &&& 31).toUInt32).toInt32)), (.int (13 : Int32))]))
            refine OEnds.st (fun _ k => XS.isub X0.here hx rfl (hb hby d5_77) rfl k) ?_
            show OEnds p.tables e below G (s₁.setTop (mkF m 78 #[.val (.int ((((p1.toUInt32 >>> ((16 : Int32) &&& 31).toUInt32).toInt32).toUInt32 >>> ((2 : Int32) &&& 31).toUInt32).toInt32)), .val (.int (13 : Int32))] [(.int ((13 : Int32) - ((((((p1.toUInt32 >>> ((16 : Int32) &&& 31).toUInt32).toInt32).toUInt32 >>> ((2 : Int32) &&& 31).toUInt32).toInt32).toUInt32 >>> ((1 : Int32) &&& 31).toUInt32).toInt32)))]))
            rw [← hG]
            have uhc1_1001 : (0 : Int32) < p1 := hc1_1001
            have uhc22_1002 : ¬ (p1 < (65536 : Int32)) := hc22_1002
            have uhc37_1010 : (own_us p1 (16 : Int32)) < (256 : Int32) := hc37_1010
            have uhc51_1011 : (own_us p1 (16 : Int32)) < (16 : Int32) := hc51_1011
            have uhc63_1012 : ¬ ((own_us p1 (16 : Int32)) < (4 : Int32)) := hc63_1012
            refine OEnds.retI X0 hx hlk Bd.returns (hb hby d5_78) (by decide) (by decide) ?_
            rw [e0]
            exact ⟨congrArg (fun z => some (Value.int z)) (by first | (simp only [own_nlz, own_n16, own_n8, own_n4, own_n2, own_n1, if_pos uhc1_1001, if_neg uhc22_1002, if_pos uhc37_1010, if_pos uhc51_1011, if_neg uhc63_1012]; done) | (simp only [own_nlz, own_n16, own_n8, own_n4, own_n2, own_n1, if_pos uhc1_1001, if_neg uhc22_1002, if_pos uhc37_1010, if_pos uhc51_1011, if_neg uhc63_1012]; rfl) | (simp only [own_nlz, own_n16, own_n8, own_n4, own_n2, own_n1, if_pos uhc1_1001, if_neg uhc22_1002, if_pos uhc37_1010, if_pos uhc51_1011, if_neg uhc63_1012]; exact congrArg (fun z => z - _) (by decide))), N0, rfl⟩
        · -- pc 51: no
          refine OEnds.st (fun _ k => XS.icmpNo X0.here hx rfl (hb hby d5_51) rfl (flt hc51_1011).1 k) ?_
          show OEnds p.tables e below G (s₁.setTop (mkF m 54 #[.val (.int ((p1.toUInt32 >>> ((16 : Int32) &&& 31).toUInt32).toInt32)), .val (.int (15 : Int32))] []))
          refine OEnds.st (fun _ k => XS.iinc X0.here hx rfl (hb hby d5_54) rfl (l' := #[.val (.int ((p1.toUInt32 >>> ((16 : Int32) &&& 31).toUInt32).toInt32)), .val (.int ((15 : Int32) + (-4 : Int32)))]) rfl k) ?_
          show OEnds p.tables e below G (s₁.setTop (mkF m 57 #[.val (.int ((p1.toUInt32 >>> ((16 : Int32) &&& 31).toUInt32).toInt32)), .val (.int ((15 : Int32) + (-4 : Int32)))] []))
          rw [show ((15 : Int32) + (-4 : Int32)) = (11 : Int32) from by decide]
          show OEnds p.tables e below G (s₁.setTop (mkF m 57 #[.val (.int ((p1.toUInt32 >>> ((16 : Int32) &&& 31).toUInt32).toInt32)), .val (.int (11 : Int32))] []))
          refine OEnds.st (fun _ k => XS.iloadN X0.here hx rfl (hb hby d5_57) rfl k) ?_
          show OEnds p.tables e below G (s₁.setTop (mkF m 58 #[.val (.int ((p1.toUInt32 >>> ((16 : Int32) &&& 31).toUInt32).toInt32)), .val (.int (11 : Int32))] [(.int ((p1.toUInt32 >>> ((16 : Int32) &&& 31).toUInt32).toInt32))]))
          refine OEnds.st (fun _ k => XS.iconst X0.here hx rfl (hb hby d5_58) k) ?_
          show OEnds p.tables e below G (s₁.setTop (mkF m 59 #[.val (.int ((p1.toUInt32 >>> ((16 : Int32) &&& 31).toUInt32).toInt32)), .val (.int (11 : Int32))] [(.int (4 : Int32)), (.int ((p1.toUInt32 >>> ((16 : Int32) &&& 31).toUInt32).toInt32))]))
          refine OEnds.st (fun _ k => XS.iushr X0.here hx rfl (hb hby d5_59) rfl k) ?_
          show OEnds p.tables e below G (s₁.setTop (mkF m 60 #[.val (.int ((p1.toUInt32 >>> ((16 : Int32) &&& 31).toUInt32).toInt32)), .val (.int (11 : Int32))] [(.int ((((p1.toUInt32 >>> ((16 : Int32) &&& 31).toUInt32).toInt32).toUInt32 >>> ((4 : Int32) &&& 31).toUInt32).toInt32))]))
          refine OEnds.st (fun _ k => XS.istoreN X0.here hx rfl (hb hby d5_60) rfl (l' := #[.val (.int ((((p1.toUInt32 >>> ((16 : Int32) &&& 31).toUInt32).toInt32).toUInt32 >>> ((4 : Int32) &&& 31).toUInt32).toInt32)), .val (.int (11 : Int32))]) rfl k) ?_
          show OEnds p.tables e below G (s₁.setTop (mkF m 61 #[.val (.int ((((p1.toUInt32 >>> ((16 : Int32) &&& 31).toUInt32).toInt32).toUInt32 >>> ((4 : Int32) &&& 31).toUInt32).toInt32)), .val (.int (11 : Int32))] []))
          refine OEnds.st (fun _ k => XS.iloadN X0.here hx rfl (hb hby d5_61) rfl k) ?_
          show OEnds p.tables e below G (s₁.setTop (mkF m 62 #[.val (.int ((((p1.toUInt32 >>> ((16 : Int32) &&& 31).toUInt32).toInt32).toUInt32 >>> ((4 : Int32) &&& 31).toUInt32).toInt32)), .val (.int (11 : Int32))] [(.int ((((p1.toUInt32 >>> ((16 : Int32) &&& 31).toUInt32).toInt32).toUInt32 >>> ((4 : Int32) &&& 31).toUInt32).toInt32))]))
          refine OEnds.st (fun _ k => XS.iconst X0.here hx rfl (hb hby d5_62) k) ?_
          show OEnds p.tables e below G (s₁.setTop (mkF m 63 #[.val (.int ((((p1.toUInt32 >>> ((16 : Int32) &&& 31).toUInt32).toInt32).toUInt32 >>> ((4 : Int32) &&& 31).toUInt32).toInt32)), .val (.int (11 : Int32))] [(.int (4 : Int32)), (.int ((((p1.toUInt32 >>> ((16 : Int32) &&& 31).toUInt32).toInt32).toUInt32 >>> ((4 : Int32) &&& 31).toUInt32).toInt32))]))
          by_cases hc63_1013 : ((((p1.toUInt32 >>> ((16 : Int32) &&& 31).toUInt32).toInt32).toUInt32 >>> ((4 : Int32) &&& 31).toUInt32).toInt32) < (4 : Int32)
          · -- pc 63: yes
            refine OEnds.st (fun _ k => XS.icmpYes X0.here hx rfl (pc0 := 63) (pc' := 73) rfl (hb hby d5_63) rfl (tlt hc63_1013).1 (by decide) (by decide) k) ?_
            show OEnds p.tables e below G (s₁.setTop (mkF m 73 #[.val (.int ((((p1.toUInt32 >>> ((16 : Int32) &&& 31).toUInt32).toInt32).toUInt32 >>> ((4 : Int32) &&& 31).toUInt32).toInt32)), .val (.int (11 : Int32))] []))
            refine OEnds.st (fun _ k => XS.iloadN X0.here hx rfl (hb hby d5_73) rfl k) ?_
            show OEnds p.tables e below G (s₁.setTop (mkF m 74 #[.val (.int ((((p1.toUInt32 >>> ((16 : Int32) &&& 31).toUInt32).toInt32).toUInt32 >>> ((4 : Int32) &&& 31).toUInt32).toInt32)), .val (.int (11 : Int32))] [(.int (11 : Int32))]))
            refine OEnds.st (fun _ k => XS.iloadN X0.here hx rfl (hb hby d5_74) rfl k) ?_
            show OEnds p.tables e below G (s₁.setTop (mkF m 75 #[.val (.int ((((p1.toUInt32 >>> ((16 : Int32) &&& 31).toUInt32).toInt32).toUInt32 >>> ((4 : Int32) &&& 31).toUInt32).toInt32)), .val (.int (11 : Int32))] [(.int ((((p1.toUInt32 >>> ((16 : Int32) &&& 31).toUInt32).toInt32).toUInt32 >>> ((4 : Int32) &&& 31).toUInt32).toInt32)), (.int (11 : Int32))]))
            refine OEnds.st (fun _ k => XS.iconst X0.here hx rfl (hb hby d5_75) k) ?_
            show OEnds p.tables e below G (s₁.setTop (mkF m 76 #[.val (.int ((((p1.toUInt32 >>> ((16 : Int32) &&& 31).toUInt32).toInt32).toUInt32 >>> ((4 : Int32) &&& 31).toUInt32).toInt32)), .val (.int (11 : Int32))] [(.int (1 : Int32)), (.int ((((p1.toUInt32 >>> ((16 : Int32) &&& 31).toUInt32).toInt32).toUInt32 >>> ((4 : Int32) &&& 31).toUInt32).toInt32)), (.int (11 : Int32))]))
            refine OEnds.st (fun _ k => XS.iushr X0.here hx rfl (hb hby d5_76) rfl k) ?_
            show OEnds p.tables e below G (s₁.setTop (mkF m 77 #[.val (.int ((((p1.toUInt32 >>> ((16 : Int32) &&& 31).toUInt32).toInt32).toUInt32 >>> ((4 : Int32) &&& 31).toUInt32).toInt32)), .val (.int (11 : Int32))] [(.int ((((((p1.toUInt32 >>> ((16 : Int32) &&& 31).toUInt32).toInt32).toUInt32 >>> ((4 : Int32) &&& 31).toUInt32).toInt32).toUInt32 >>> ((1 : Int32) &&& 31).toUInt32).toInt32)), (.int (11 : Int32))]))
            refine OEnds.st (fun _ k => XS.isub X0.here hx rfl (hb hby d5_77) rfl k) ?_
            show OEnds p.tables e below G (s₁.setTop (mkF m 78 #[.val (.int ((((p1.toUInt32 >>> ((16 : Int32) &&& 31).toUInt32).toInt32).toUInt32 >>> ((4 : Int32) &&& 31).toUInt32).toInt32)), .val (.int (11 : Int32))] [(.int ((11 : Int32) - ((((((p1.toUInt32 >>> ((16 : Int32) &&& 31).toUInt32).toInt32).toUInt32 >>> ((4 : Int32) &&& 31).toUInt32).toInt32).toUInt32 >>> ((1 : Int32) &&& 31).toUInt32).toInt32)))]))
            rw [← hG]
            have uhc1_1001 : (0 : Int32) < p1 := hc1_1001
            have uhc22_1002 : ¬ (p1 < (65536 : Int32)) := hc22_1002
            have uhc37_1010 : (own_us p1 (16 : Int32)) < (256 : Int32) := hc37_1010
            have uhc51_1011 : ¬ ((own_us p1 (16 : Int32)) < (16 : Int32)) := hc51_1011
            have uhc63_1013 : (own_us (own_us p1 (16 : Int32)) (4 : Int32)) < (4 : Int32) := hc63_1013
            refine OEnds.retI X0 hx hlk Bd.returns (hb hby d5_78) (by decide) (by decide) ?_
            rw [e0]
            exact ⟨congrArg (fun z => some (Value.int z)) (by first | (simp only [own_nlz, own_n16, own_n8, own_n4, own_n2, own_n1, if_pos uhc1_1001, if_neg uhc22_1002, if_pos uhc37_1010, if_neg uhc51_1011, if_pos uhc63_1013]; done) | (simp only [own_nlz, own_n16, own_n8, own_n4, own_n2, own_n1, if_pos uhc1_1001, if_neg uhc22_1002, if_pos uhc37_1010, if_neg uhc51_1011, if_pos uhc63_1013]; rfl) | (simp only [own_nlz, own_n16, own_n8, own_n4, own_n2, own_n1, if_pos uhc1_1001, if_neg uhc22_1002, if_pos uhc37_1010, if_neg uhc51_1011, if_pos uhc63_1013]; exact congrArg (fun z => z - _) (by decide))), N0, rfl⟩
          · -- pc 63: no
            refine OEnds.st (fun _ k => XS.icmpNo X0.here hx rfl (hb hby d5_63) rfl (flt hc63_1013).1 k) ?_
            show OEnds p.tables e below G (s₁.setTop (mkF m 66 #[.val (.int ((((p1.toUInt32 >>> ((16 : Int32) &&& 31).toUInt32).toInt32).toUInt32 >>> ((4 : Int32) &&& 31).toUInt32).toInt32)), .val (.int (11 : Int32))] []))
            refine OEnds.st (fun _ k => XS.iinc X0.here hx rfl (hb hby d5_66) rfl (l' := #[.val (.int ((((p1.toUInt32 >>> ((16 : Int32) &&& 31).toUInt32).toInt32).toUInt32 >>> ((4 : Int32) &&& 31).toUInt32).toInt32)), .val (.int ((11 : Int32) + (-2 : Int32)))]) rfl k) ?_
            show OEnds p.tables e below G (s₁.setTop (mkF m 69 #[.val (.int ((((p1.toUInt32 >>> ((16 : Int32) &&& 31).toUInt32).toInt32).toUInt32 >>> ((4 : Int32) &&& 31).toUInt32).toInt32)), .val (.int ((11 : Int32) + (-2 : Int32)))] []))
            rw [show ((11 : Int32) + (-2 : Int32)) = (9 : Int32) from by decide]
            show OEnds p.tables e below G (s₁.setTop (mkF m 69 #[.val (.int ((((p1.toUInt32 >>> ((16 : Int32) &&& 31).toUInt32).toInt32).toUInt32 >>> ((4 : Int32) &&& 31).toUInt32).toInt32)), .val (.int (9 : Int32))] []))
            refine OEnds.st (fun _ k => XS.iloadN X0.here hx rfl (hb hby d5_69) rfl k) ?_
            show OEnds p.tables e below G (s₁.setTop (mkF m 70 #[.val (.int ((((p1.toUInt32 >>> ((16 : Int32) &&& 31).toUInt32).toInt32).toUInt32 >>> ((4 : Int32) &&& 31).toUInt32).toInt32)), .val (.int (9 : Int32))] [(.int ((((p1.toUInt32 >>> ((16 : Int32) &&& 31).toUInt32).toInt32).toUInt32 >>> ((4 : Int32) &&& 31).toUInt32).toInt32))]))
            refine OEnds.st (fun _ k => XS.iconst X0.here hx rfl (hb hby d5_70) k) ?_
            show OEnds p.tables e below G (s₁.setTop (mkF m 71 #[.val (.int ((((p1.toUInt32 >>> ((16 : Int32) &&& 31).toUInt32).toInt32).toUInt32 >>> ((4 : Int32) &&& 31).toUInt32).toInt32)), .val (.int (9 : Int32))] [(.int (2 : Int32)), (.int ((((p1.toUInt32 >>> ((16 : Int32) &&& 31).toUInt32).toInt32).toUInt32 >>> ((4 : Int32) &&& 31).toUInt32).toInt32))]))
            refine OEnds.st (fun _ k => XS.iushr X0.here hx rfl (hb hby d5_71) rfl k) ?_
            show OEnds p.tables e below G (s₁.setTop (mkF m 72 #[.val (.int ((((p1.toUInt32 >>> ((16 : Int32) &&& 31).toUInt32).toInt32).toUInt32 >>> ((4 : Int32) &&& 31).toUInt32).toInt32)), .val (.int (9 : Int32))] [(.int ((((((p1.toUInt32 >>> ((16 : Int32) &&& 31).toUInt32).toInt32).toUInt32 >>> ((4 : Int32) &&& 31).toUInt32).toInt32).toUInt32 >>> ((2 : Int32) &&& 31).toUInt32).toInt32))]))
            refine OEnds.st (fun _ k => XS.istoreN X0.here hx rfl (hb hby d5_72) rfl (l' := #[.val (.int ((((((p1.toUInt32 >>> ((16 : Int32) &&& 31).toUInt32).toInt32).toUInt32 >>> ((4 : Int32) &&& 31).toUInt32).toInt32).toUInt32 >>> ((2 : Int32) &&& 31).toUInt32).toInt32)), .val (.int (9 : Int32))]) rfl k) ?_
            show OEnds p.tables e below G (s₁.setTop (mkF m 73 #[.val (.int ((((((p1.toUInt32 >>> ((16 : Int32) &&& 31).toUInt32).toInt32).toUInt32 >>> ((4 : Int32) &&& 31).toUInt32).toInt32).toUInt32 >>> ((2 : Int32) &&& 31).toUInt32).toInt32)), .val (.int (9 : Int32))] []))
            refine OEnds.st (fun _ k => XS.iloadN X0.here hx rfl (hb hby d5_73) rfl k) ?_
            show OEnds p.tables e below G (s₁.setTop (mkF m 74 #[.val (.int ((((((p1.toUInt32 >>> ((16 : Int32) &&& 31).toUInt32).toInt32).toUInt32 >>> ((4 : Int32) &&& 31).toUInt32).toInt32).toUInt32 >>> ((2 : Int32) &&& 31).toUInt32).toInt32)), .val (.int (9 : Int32))] [(.int (9 : Int32))]))
            refine OEnds.st (fun _ k => XS.iloadN X0.here hx rfl (hb hby d5_74) rfl k) ?_
            show OEnds p.tables e below G (s₁.setTop (mkF m 75 #[.val (.int ((((((p1.toUInt32 >>> ((16 : Int32) &&& 31).toUInt32).toInt32).toUInt32 >>> ((4 : Int32) &&& 31).toUInt32).toInt32).toUInt32 >>> ((2 : Int32) &&& 31).toUInt32).toInt32)), .val (.int (9 : Int32))] [(.int ((((((p1.toUInt32 >>> ((16 : Int32) &&& 31).toUInt32).toInt32).toUInt32 >>> ((4 : Int32) &&& 31).toUInt32).toInt32).toUInt32 >>> ((2 : Int32) &&& 31).toUInt32).toInt32)), (.int (9 : Int32))]))
            refine OEnds.st (fun _ k => XS.iconst X0.here hx rfl (hb hby d5_75) k) ?_
            show OEnds p.tables e below G (s₁.setTop (mkF m 76 #[.val (.int ((((((p1.toUInt32 >>> ((16 : Int32) &&& 31).toUInt32).toInt32).toUInt32 >>> ((4 : Int32) &&& 31).toUInt32).toInt32).toUInt32 >>> ((2 : Int32) &&& 31).toUInt32).toInt32)), .val (.int (9 : Int32))] [(.int (1 : Int32)), (.int ((((((p1.toUInt32 >>> ((16 : Int32) &&& 31).toUInt32).toInt32).toUInt32 >>> ((4 : Int32) &&& 31).toUInt32).toInt32).toUInt32 >>> ((2 : Int32) &&& 31).toUInt32).toInt32)), (.int (9 : Int32))]))
            refine OEnds.st (fun _ k => XS.iushr X0.here hx rfl (hb hby d5_76) rfl k) ?_
            show OEnds p.tables e below G (s₁.setTop (mkF m 77 #[.val (.int ((((((p1.toUInt32 >>> ((16 : Int32) &&& 31).toUInt32).toInt32).toUInt32 >>> ((4 : Int32) &&& 31).toUInt32).toInt32).toUInt32 >>> ((2 : Int32) &&& 31).toUInt32).toInt32)), .val (.int (9 : Int32))] [(.int ((((((((p1.toUInt32 >>> ((16 : Int32) &&& 31).toUInt32).toInt32).toUInt32 >>> ((4 : Int32) &&& 31).toUInt32).toInt32).toUInt32 >>> ((2 : Int32) &&& 31).toUInt32).toInt32).toUInt32 >>> ((1 : Int32) &&& 31).toUInt32).toInt32)), (.int (9 : Int32))]))
            refine OEnds.st (fun _ k => XS.isub X0.here hx rfl (hb hby d5_77) rfl k) ?_
            show OEnds p.tables e below G (s₁.setTop (mkF m 78 #[.val (.int ((((((p1.toUInt32 >>> ((16 : Int32) &&& 31).toUInt32).toInt32).toUInt32 >>> ((4 : Int32) &&& 31).toUInt32).toInt32).toUInt32 >>> ((2 : Int32) &&& 31).toUInt32).toInt32)), .val (.int (9 : Int32))] [(.int ((9 : Int32) - ((((((((p1.toUInt32 >>> ((16 : Int32) &&& 31).toUInt32).toInt32).toUInt32 >>> ((4 : Int32) &&& 31).toUInt32).toInt32).toUInt32 >>> ((2 : Int32) &&& 31).toUInt32).toInt32).toUInt32 >>> ((1 : Int32) &&& 31).toUInt32).toInt32)))]))
            rw [← hG]
            have uhc1_1001 : (0 : Int32) < p1 := hc1_1001
            have uhc22_1002 : ¬ (p1 < (65536 : Int32)) := hc22_1002
            have uhc37_1010 : (own_us p1 (16 : Int32)) < (256 : Int32) := hc37_1010
            have uhc51_1011 : ¬ ((own_us p1 (16 : Int32)) < (16 : Int32)) := hc51_1011
            have uhc63_1013 : ¬ ((own_us (own_us p1 (16 : Int32)) (4 : Int32)) < (4 : Int32)) := hc63_1013
            refine OEnds.retI X0 hx hlk Bd.returns (hb hby d5_78) (by decide) (by decide) ?_
            rw [e0]
            exact ⟨congrArg (fun z => some (Value.int z)) (by first | (simp only [own_nlz, own_n16, own_n8, own_n4, own_n2, own_n1, if_pos uhc1_1001, if_neg uhc22_1002, if_pos uhc37_1010, if_neg uhc51_1011, if_neg uhc63_1013]; done) | (simp only [own_nlz, own_n16, own_n8, own_n4, own_n2, own_n1, if_pos uhc1_1001, if_neg uhc22_1002, if_pos uhc37_1010, if_neg uhc51_1011, if_neg uhc63_1013]; rfl) | (simp only [own_nlz, own_n16, own_n8, own_n4, own_n2, own_n1, if_pos uhc1_1001, if_neg uhc22_1002, if_pos uhc37_1010, if_neg uhc51_1011, if_neg uhc63_1013]; exact congrArg (fun z => z - _) (by decide))), N0, rfl⟩
      · -- pc 37: no
        refine OEnds.st (fun _ k => XS.icmpNo X0.here hx rfl (hb hby d5_37) rfl (flt hc37_1010).1 k) ?_
        show OEnds p.tables e below G (s₁.setTop (mkF m 40 #[.val (.int ((p1.toUInt32 >>> ((16 : Int32) &&& 31).toUInt32).toInt32)), .val (.int (15 : Int32))] []))
        refine OEnds.st (fun _ k => XS.iinc X0.here hx rfl (hb hby d5_40) rfl (l' := #[.val (.int ((p1.toUInt32 >>> ((16 : Int32) &&& 31).toUInt32).toInt32)), .val (.int ((15 : Int32) + (-8 : Int32)))]) rfl k) ?_
        show OEnds p.tables e below G (s₁.setTop (mkF m 43 #[.val (.int ((p1.toUInt32 >>> ((16 : Int32) &&& 31).toUInt32).toInt32)), .val (.int ((15 : Int32) + (-8 : Int32)))] []))
        rw [show ((15 : Int32) + (-8 : Int32)) = (7 : Int32) from by decide]
        show OEnds p.tables e below G (s₁.setTop (mkF m 43 #[.val (.int ((p1.toUInt32 >>> ((16 : Int32) &&& 31).toUInt32).toInt32)), .val (.int (7 : Int32))] []))
        refine OEnds.st (fun _ k => XS.iloadN X0.here hx rfl (hb hby d5_43) rfl k) ?_
        show OEnds p.tables e below G (s₁.setTop (mkF m 44 #[.val (.int ((p1.toUInt32 >>> ((16 : Int32) &&& 31).toUInt32).toInt32)), .val (.int (7 : Int32))] [(.int ((p1.toUInt32 >>> ((16 : Int32) &&& 31).toUInt32).toInt32))]))
        refine OEnds.st (fun _ k => XS.bipush X0.here hx rfl (hb hby d5_44) k) ?_
        show OEnds p.tables e below G (s₁.setTop (mkF m 46 #[.val (.int ((p1.toUInt32 >>> ((16 : Int32) &&& 31).toUInt32).toInt32)), .val (.int (7 : Int32))] [(.int (8 : Int32)), (.int ((p1.toUInt32 >>> ((16 : Int32) &&& 31).toUInt32).toInt32))]))
        refine OEnds.st (fun _ k => XS.iushr X0.here hx rfl (hb hby d5_46) rfl k) ?_
        show OEnds p.tables e below G (s₁.setTop (mkF m 47 #[.val (.int ((p1.toUInt32 >>> ((16 : Int32) &&& 31).toUInt32).toInt32)), .val (.int (7 : Int32))] [(.int ((((p1.toUInt32 >>> ((16 : Int32) &&& 31).toUInt32).toInt32).toUInt32 >>> ((8 : Int32) &&& 31).toUInt32).toInt32))]))
        refine OEnds.st (fun _ k => XS.istoreN X0.here hx rfl (hb hby d5_47) rfl (l' := #[.val (.int ((((p1.toUInt32 >>> ((16 : Int32) &&& 31).toUInt32).toInt32).toUInt32 >>> ((8 : Int32) &&& 31).toUInt32).toInt32)), .val (.int (7 : Int32))]) rfl k) ?_
        show OEnds p.tables e below G (s₁.setTop (mkF m 48 #[.val (.int ((((p1.toUInt32 >>> ((16 : Int32) &&& 31).toUInt32).toInt32).toUInt32 >>> ((8 : Int32) &&& 31).toUInt32).toInt32)), .val (.int (7 : Int32))] []))
        refine OEnds.st (fun _ k => XS.iloadN X0.here hx rfl (hb hby d5_48) rfl k) ?_
        show OEnds p.tables e below G (s₁.setTop (mkF m 49 #[.val (.int ((((p1.toUInt32 >>> ((16 : Int32) &&& 31).toUInt32).toInt32).toUInt32 >>> ((8 : Int32) &&& 31).toUInt32).toInt32)), .val (.int (7 : Int32))] [(.int ((((p1.toUInt32 >>> ((16 : Int32) &&& 31).toUInt32).toInt32).toUInt32 >>> ((8 : Int32) &&& 31).toUInt32).toInt32))]))
        refine OEnds.st (fun _ k => XS.bipush X0.here hx rfl (hb hby d5_49) k) ?_
        show OEnds p.tables e below G (s₁.setTop (mkF m 51 #[.val (.int ((((p1.toUInt32 >>> ((16 : Int32) &&& 31).toUInt32).toInt32).toUInt32 >>> ((8 : Int32) &&& 31).toUInt32).toInt32)), .val (.int (7 : Int32))] [(.int (16 : Int32)), (.int ((((p1.toUInt32 >>> ((16 : Int32) &&& 31).toUInt32).toInt32).toUInt32 >>> ((8 : Int32) &&& 31).toUInt32).toInt32))]))
        by_cases hc51_1014 : ((((p1.toUInt32 >>> ((16 : Int32) &&& 31).toUInt32).toInt32).toUInt32 >>> ((8 : Int32) &&& 31).toUInt32).toInt32) < (16 : Int32)
        · -- pc 51: yes
          refine OEnds.st (fun _ k => XS.icmpYes X0.here hx rfl (pc0 := 51) (pc' := 61) rfl (hb hby d5_51) rfl (tlt hc51_1014).1 (by decide) (by decide) k) ?_
          show OEnds p.tables e below G (s₁.setTop (mkF m 61 #[.val (.int ((((p1.toUInt32 >>> ((16 : Int32) &&& 31).toUInt32).toInt32).toUInt32 >>> ((8 : Int32) &&& 31).toUInt32).toInt32)), .val (.int (7 : Int32))] []))
          refine OEnds.st (fun _ k => XS.iloadN X0.here hx rfl (hb hby d5_61) rfl k) ?_
          show OEnds p.tables e below G (s₁.setTop (mkF m 62 #[.val (.int ((((p1.toUInt32 >>> ((16 : Int32) &&& 31).toUInt32).toInt32).toUInt32 >>> ((8 : Int32) &&& 31).toUInt32).toInt32)), .val (.int (7 : Int32))] [(.int ((((p1.toUInt32 >>> ((16 : Int32) &&& 31).toUInt32).toInt32).toUInt32 >>> ((8 : Int32) &&& 31).toUInt32).toInt32))]))
          refine OEnds.st (fun _ k => XS.iconst X0.here hx rfl (hb hby d5_62) k) ?_
          show OEnds p.tables e below G (s₁.setTop (mkF m 63 #[.val (.int ((((p1.toUInt32 >>> ((16 : Int32) &&& 31).toUInt32).toInt32).toUInt32 >>> ((8 : Int32) &&& 31).toUInt32).toInt32)), .val (.int (7 : Int32))] [(.int (4 : Int32)), (.int ((((p1.toUInt32 >>> ((16 : Int32) &&& 31).toUInt32).toInt32).toUInt32 >>> ((8 : Int32) &&& 31).toUInt32).toInt32))]))
          by_cases hc63_1015 : ((((p1.toUInt32 >>> ((16 : Int32) &&& 31).toUInt32).toInt32).toUInt32 >>> ((8 : Int32) &&& 31).toUInt32).toInt32) < (4 : Int32)
          · -- pc 63: yes
            refine OEnds.st (fun _ k => XS.icmpYes X0.here hx rfl (pc0 := 63) (pc' := 73) rfl (hb hby d5_63) rfl (tlt hc63_1015).1 (by decide) (by decide) k) ?_
            show OEnds p.tables e below G (s₁.setTop (mkF m 73 #[.val (.int ((((p1.toUInt32 >>> ((16 : Int32) &&& 31).toUInt32).toInt32).toUInt32 >>> ((8 : Int32) &&& 31).toUInt32).toInt32)), .val (.int (7 : Int32))] []))
            refine OEnds.st (fun _ k => XS.iloadN X0.here hx rfl (hb hby d5_73) rfl k) ?_
            show OEnds p.tables e below G (s₁.setTop (mkF m 74 #[.val (.int ((((p1.toUInt32 >>> ((16 : Int32) &&& 31).toUInt32).toInt32).toUInt32 >>> ((8 : Int32) &&& 31).toUInt32).toInt32)), .val (.int (7 : Int32))] [(.int (7 : Int32))]))
            refine OEnds.st (fun _ k => XS.iloadN X0.here hx rfl (hb hby d5_74) rfl k) ?_
            show OEnds p.tables e below G (s₁.setTop (mkF m 75 #[.val (.int ((((p1.toUInt32 >>> ((16 : Int32) &&& 31).toUInt32).toInt32).toUInt32 >>> ((8 : Int32) &&& 31).toUInt32).toInt32)), .val (.int (7 : Int32))] [(.int ((((p1.toUInt32 >>> ((16 : Int32) &&& 31).toUInt32).toInt32).toUInt32 >>> ((8 : Int32) &&& 31).toUInt32).toInt32)), (.int (7 : Int32))]))
            refine OEnds.st (fun _ k => XS.iconst X0.here hx rfl (hb hby d5_75) k) ?_
            show OEnds p.tables e below G (s₁.setTop (mkF m 76 #[.val (.int ((((p1.toUInt32 >>> ((16 : Int32) &&& 31).toUInt32).toInt32).toUInt32 >>> ((8 : Int32) &&& 31).toUInt32).toInt32)), .val (.int (7 : Int32))] [(.int (1 : Int32)), (.int ((((p1.toUInt32 >>> ((16 : Int32) &&& 31).toUInt32).toInt32).toUInt32 >>> ((8 : Int32) &&& 31).toUInt32).toInt32)), (.int (7 : Int32))]))
            refine OEnds.st (fun _ k => XS.iushr X0.here hx rfl (hb hby d5_76) rfl k) ?_
            show OEnds p.tables e below G (s₁.setTop (mkF m 77 #[.val (.int ((((p1.toUInt32 >>> ((16 : Int32) &&& 31).toUInt32).toInt32).toUInt32 >>> ((8 : Int32) &&& 31).toUInt32).toInt32)), .val (.int (7 : Int32))] [(.int ((((((p1.toUInt32 >>> ((16 : Int32) &&& 31).toUInt32).toInt32).toUInt32 >>> ((8 : Int32) &&& 31).toUInt32).toInt32).toUInt32 >>> ((1 : Int32) &&& 31).toUInt32).toInt32)), (.int (7 : Int32))]))
            refine OEnds.st (fun _ k => XS.isub X0.here hx rfl (hb hby d5_77) rfl k) ?_
            show OEnds p.tables e below G (s₁.setTop (mkF m 78 #[.val (.int ((((p1.toUInt32 >>> ((16 : Int32) &&& 31).toUInt32).toInt32).toUInt32 >>> ((8 : Int32) &&& 31).toUInt32).toInt32)), .val (.int (7 : Int32))] [(.int ((7 : Int32) - ((((((p1.toUInt32 >>> ((16 : Int32) &&& 31).toUInt32).toInt32).toUInt32 >>> ((8 : Int32) &&& 31).toUInt32).toInt32).toUInt32 >>> ((1 : Int32) &&& 31).toUInt32).toInt32)))]))
            rw [← hG]
            have uhc1_1001 : (0 : Int32) < p1 := hc1_1001
            have uhc22_1002 : ¬ (p1 < (65536 : Int32)) := hc22_1002
            have uhc37_1010 : ¬ ((own_us p1 (16 : Int32)) < (256 : Int32)) := hc37_1010
            have uhc51_1014 : (own_us (own_us p1 (16 : Int32)) (8 : Int32)) < (16 : Int32) := hc51_1014
            have uhc63_1015 : (own_us (own_us p1 (16 : Int32)) (8 : Int32)) < (4 : Int32) := hc63_1015
            refine OEnds.retI X0 hx hlk Bd.returns (hb hby d5_78) (by decide) (by decide) ?_
            rw [e0]
            exact ⟨congrArg (fun z => some (Value.int z)) (by first | (simp only [own_nlz, own_n16, own_n8, own_n4, own_n2, own_n1, if_pos uhc1_1001, if_neg uhc22_1002, if_neg uhc37_1010, if_pos uhc51_1014, if_pos uhc63_1015]; done) | (simp only [own_nlz, own_n16, own_n8, own_n4, own_n2, own_n1, if_pos uhc1_1001, if_neg uhc22_1002, if_neg uhc37_1010, if_pos uhc51_1014, if_pos uhc63_1015]; rfl) | (simp only [own_nlz, own_n16, own_n8, own_n4, own_n2, own_n1, if_pos uhc1_1001, if_neg uhc22_1002, if_neg uhc37_1010, if_pos uhc51_1014, if_pos uhc63_1015]; exact congrArg (fun z => z - _) (by decide))), N0, rfl⟩
          · -- pc 63: no
            refine OEnds.st (fun _ k => XS.icmpNo X0.here hx rfl (hb hby d5_63) rfl (flt hc63_1015).1 k) ?_
            show OEnds p.tables e below G (s₁.setTop (mkF m 66 #[.val (.int ((((p1.toUInt32 >>> ((16 : Int32) &&& 31).toUInt32).toInt32).toUInt32 >>> ((8 : Int32) &&& 31).toUInt32).toInt32)), .val (.int (7 : Int32))] []))
            refine OEnds.st (fun _ k => XS.iinc X0.here hx rfl (hb hby d5_66) rfl (l' := #[.val (.int ((((p1.toUInt32 >>> ((16 : Int32) &&& 31).toUInt32).toInt32).toUInt32 >>> ((8 : Int32) &&& 31).toUInt32).toInt32)), .val (.int ((7 : Int32) + (-2 : Int32)))]) rfl k) ?_
            show OEnds p.tables e below G (s₁.setTop (mkF m 69 #[.val (.int ((((p1.toUInt32 >>> ((16 : Int32) &&& 31).toUInt32).toInt32).toUInt32 >>> ((8 : Int32) &&& 31).toUInt32).toInt32)), .val (.int ((7 : Int32) + (-2 : Int32)))] []))
            rw [show ((7 : Int32) + (-2 : Int32)) = (5 : Int32) from by decide]
            show OEnds p.tables e below G (s₁.setTop (mkF m 69 #[.val (.int ((((p1.toUInt32 >>> ((16 : Int32) &&& 31).toUInt32).toInt32).toUInt32 >>> ((8 : Int32) &&& 31).toUInt32).toInt32)), .val (.int (5 : Int32))] []))
            refine OEnds.st (fun _ k => XS.iloadN X0.here hx rfl (hb hby d5_69) rfl k) ?_
            show OEnds p.tables e below G (s₁.setTop (mkF m 70 #[.val (.int ((((p1.toUInt32 >>> ((16 : Int32) &&& 31).toUInt32).toInt32).toUInt32 >>> ((8 : Int32) &&& 31).toUInt32).toInt32)), .val (.int (5 : Int32))] [(.int ((((p1.toUInt32 >>> ((16 : Int32) &&& 31).toUInt32).toInt32).toUInt32 >>> ((8 : Int32) &&& 31).toUInt32).toInt32))]))
            refine OEnds.st (fun _ k => XS.iconst X0.here hx rfl (hb hby d5_70) k) ?_
            show OEnds p.tables e below G (s₁.setTop (mkF m 71 #[.val (.int ((((p1.toUInt32 >>> ((16 : Int32) &&& 31).toUInt32).toInt32).toUInt32 >>> ((8 : Int32) &&& 31).toUInt32).toInt32)), .val (.int (5 : Int32))] [(.int (2 : Int32)), (.int ((((p1.toUInt32 >>> ((16 : Int32) &&& 31).toUInt32).toInt32).toUInt32 >>> ((8 : Int32) &&& 31).toUInt32).toInt32))]))
            refine OEnds.st (fun _ k => XS.iushr X0.here hx rfl (hb hby d5_71) rfl k) ?_
            show OEnds p.tables e below G (s₁.setTop (mkF m 72 #[.val (.int ((((p1.toUInt32 >>> ((16 : Int32) &&& 31).toUInt32).toInt32).toUInt32 >>> ((8 : Int32) &&& 31).toUInt32).toInt32)), .val (.int (5 : Int32))] [(.int ((((((p1.toUInt32 >>> ((16 : Int32) &&& 31).toUInt32).toInt32).toUInt32 >>> ((8 : Int32) &&& 31).toUInt32).toInt32).toUInt32 >>> ((2 : Int32) &&& 31).toUInt32).toInt32))]))
            refine OEnds.st (fun _ k => XS.istoreN X0.here hx rfl (hb hby d5_72) rfl (l' := #[.val (.int ((((((p1.toUInt32 >>> ((16 : Int32) &&& 31).toUInt32).toInt32).toUInt32 >>> ((8 : Int32) &&& 31).toUInt32).toInt32).toUInt32 >>> ((2 : Int32) &&& 31).toUInt32).toInt32)), .val (.int (5 : Int32))]) rfl k) ?_
            show OEnds p.tables e below G (s₁.setTop (mkF m 73 #[.val (.int ((((((p1.toUInt32 >>> ((16 : Int32) &&& 31).toUInt32).toInt32).toUInt32 >>> ((8 : Int32) &&& 31).toUInt32).toInt32).toUInt32 >>> ((2 : Int32) &&& 31).toUInt32).toInt32)), .val (.int (5 : Int32))] []))
            refine OEnds.st (fun _ k => XS.iloadN X0.here hx rfl (hb hby d5_73) rfl k) ?_
            show OEnds p.tables e below G (s₁.setTop (mkF m 74 #[.val (.int ((((((p1.toUInt32 >>> ((16 : Int32) &&& 31).toUInt32).toInt32).toUInt32 >>> ((8 : Int32) &&& 31).toUInt32).toInt32).toUInt32 >>> ((2 : Int32) &&& 31).toUInt32).toInt32)), .val (.int (5 : Int32))] [(.int (5 : Int32))]))
            refine OEnds.st (fun _ k => XS.iloadN X0.here hx rfl (hb hby d5_74) rfl k) ?_
            show OEnds p.tables e below G (s₁.setTop (mkF m 75 #[.val (.int ((((((p1.toUInt32 >>> ((16 : Int32) &&& 31).toUInt32).toInt32).toUInt32 >>> ((8 : Int32) &&& 31).toUInt32).toInt32).toUInt32 >>> ((2 : Int32) &&& 31).toUInt32).toInt32)), .val (.int (5 : Int32))] [(.int ((((((p1.toUInt32 >>> ((16 : Int32) &&& 31).toUInt32).toInt32).toUInt32 >>> ((8 : Int32) &&& 31).toUInt32).toInt32).toUInt32 >>> ((2 : Int32) &&& 31).toUInt32).toInt32)), (.int (5 : Int32))]))
            refine OEnds.st (fun _ k => XS.iconst X0.here hx rfl (hb hby d5_75) k) ?_
            show OEnds p.tables e below G (s₁.setTop (mkF m 76 #[.val (.int ((((((p1.toUInt32 >>> ((16 : Int32) &&& 31).toUInt32).toInt32).toUInt32 >>> ((8 : Int32) &&& 31).toUInt32).toInt32).toUInt32 >>> ((2 : Int32) &&& 31).toUInt32).toInt32)), .val (.int (5 : Int32))] [(.int (1 : Int32)), (.int ((((((p1.toUInt32 >>> ((16 : Int32) &&& 31).toUInt32).toInt32).toUInt32 >>> ((8 : Int32) &&& 31).toUInt32).toInt32).toUInt32 >>> ((2 : Int32) &&& 31).toUInt32).toInt32)), (.int (5 : Int32))]))
            refine OEnds.st (fun _ k => XS.iushr X0.here hx rfl (hb hby d5_76) rfl k) ?_
            show OEnds p.tables e below G (s₁.setTop (mkF m 77 #[.val (.int ((((((p1.toUInt32 >>> ((16 : Int32) &&& 31).toUInt32).toInt32).toUInt32 >>> ((8 : Int32) &&& 31).toUInt32).toInt32).toUInt32 >>> ((2 : Int32) &&& 31).toUInt32).toInt32)), .val (.int (5 : Int32))] [(.int ((((((((p1.toUInt32 >>> ((16 : Int32) &&& 31).toUInt32).toInt32).toUInt32 >>> ((8 : Int32) &&& 31).toUInt32).toInt32).toUInt32 >>> ((2 : Int32) &&& 31).toUInt32).toInt32).toUInt32 >>> ((1 : Int32) &&& 31).toUInt32).toInt32)), (.int (5 : Int32))]))
            refine OEnds.st (fun _ k => XS.isub X0.here hx rfl (hb hby d5_77) rfl k) ?_
            show OEnds p.tables e below G (s₁.setTop (mkF m 78 #[.val (.int ((((((p1.toUInt32 >>> ((16 : Int32) &&& 31).toUInt32).toInt32).toUInt32 >>> ((8 : Int32) &&& 31).toUInt32).toInt32).toUInt32 >>> ((2 : Int32) &&& 31).toUInt32).toInt32)), .val (.int (5 : Int32))] [(.int ((5 : Int32) - ((((((((p1.toUInt32 >>> ((16 : Int32) &&& 31).toUInt32).toInt32).toUInt32 >>> ((8 : Int32) &&& 31).toUInt32).toInt32).toUInt32 >>> ((2 : Int32) &&& 31).toUInt32).toInt32).toUInt32 >>> ((1 : Int32) &&& 31).toUInt32).toInt32)))]))
            rw [← hG]
            have uhc1_1001 : (0 : Int32) < p1 := hc1_1001
            have uhc22_1002 : ¬ (p1 < (65536 : Int32)) := hc22_1002
            have uhc37_1010 : ¬ ((own_us p1 (16 : Int32)) < (256 : Int32)) := hc37_1010
            have uhc51_1014 : (own_us (own_us p1 (16 : Int32)) (8 : Int32)) < (16 : Int32) := hc51_1014
            have uhc63_1015 : ¬ ((own_us (own_us p1 (16 : Int32)) (8 : Int32)) < (4 : Int32)) := hc63_1015
            refine OEnds.retI X0 hx hlk Bd.returns (hb hby d5_78) (by decide) (by decide) ?_
            rw [e0]
            exact ⟨congrArg (fun z => some (Value.int z)) (by first | (simp only [own_nlz, own_n16, own_n8, own_n4, own_n2, own_n1, if_pos uhc1_1001, if_neg uhc22_1002, if_neg uhc37_1010, if_pos uhc51_1014, if_neg uhc63_1015]; done) | (simp only [own_nlz, own_n16, own_n8, own_n4, own_n2, own_n1, if_pos uhc1_1001, if_neg uhc22_1002, if_neg uhc37_1010, if_pos uhc51_1014, if_neg uhc63_1015]; rfl) | (simp only [own_nlz, own_n16, own_n8, own_n4, own_n2, own_n1, if_pos uhc1_1001, if_neg uhc22_1002, if_neg uhc37_1010, if_pos uhc51_1014, if_neg uhc63_1015]; exact congrArg (fun z => z - _) (by decide))), N0, rfl⟩
        · -- pc 51: no
          refine OEnds.st (fun _ k => XS.icmpNo X0.here hx rfl (hb hby d5_51) rfl (flt hc51_1014).1 k) ?_
          show OEnds p.tables e below G (s₁.setTop (mkF m 54 #[.val (.int ((((p1.toUInt32 >>> ((16 : Int32) &&& 31).toUInt32).toInt32).toUInt32 >>> ((8 : Int32) &&& 31).toUInt32).toInt32)), .val (.int (7 : Int32))] []))
          refine OEnds.st (fun _ k => XS.iinc X0.here hx rfl (hb hby d5_54) rfl (l' := #[.val (.int ((((p1.toUInt32 >>> ((16 : Int32) &&& 31).toUInt32).toInt32).toUInt32 >>> ((8 : Int32) &&& 31).toUInt32).toInt32)), .val (.int ((7 : Int32) + (-4 : Int32)))]) rfl k) ?_
          show OEnds p.tables e below G (s₁.setTop (mkF m 57 #[.val (.int ((((p1.toUInt32 >>> ((16 : Int32) &&& 31).toUInt32).toInt32).toUInt32 >>> ((8 : Int32) &&& 31).toUInt32).toInt32)), .val (.int ((7 : Int32) + (-4 : Int32)))] []))
          rw [show ((7 : Int32) + (-4 : Int32)) = (3 : Int32) from by decide]
          show OEnds p.tables e below G (s₁.setTop (mkF m 57 #[.val (.int ((((p1.toUInt32 >>> ((16 : Int32) &&& 31).toUInt32).toInt32).toUInt32 >>> ((8 : Int32) &&& 31).toUInt32).toInt32)), .val (.int (3 : Int32))] []))
          refine OEnds.st (fun _ k => XS.iloadN X0.here hx rfl (hb hby d5_57) rfl k) ?_
          show OEnds p.tables e below G (s₁.setTop (mkF m 58 #[.val (.int ((((p1.toUInt32 >>> ((16 : Int32) &&& 31).toUInt32).toInt32).toUInt32 >>> ((8 : Int32) &&& 31).toUInt32).toInt32)), .val (.int (3 : Int32))] [(.int ((((p1.toUInt32 >>> ((16 : Int32) &&& 31).toUInt32).toInt32).toUInt32 >>> ((8 : Int32) &&& 31).toUInt32).toInt32))]))
          refine OEnds.st (fun _ k => XS.iconst X0.here hx rfl (hb hby d5_58) k) ?_
          show OEnds p.tables e below G (s₁.setTop (mkF m 59 #[.val (.int ((((p1.toUInt32 >>> ((16 : Int32) &&& 31).toUInt32).toInt32).toUInt32 >>> ((8 : Int32) &&& 31).toUInt32).toInt32)), .val (.int (3 : Int32))] [(.int (4 : Int32)), (.int ((((p1.toUInt32 >>> ((16 : Int32) &&& 31).toUInt32).toInt32).toUInt32 >>> ((8 : Int32) &&& 31).toUInt32).toInt32))]))
          refine OEnds.st (fun _ k => XS.iushr X0.here hx rfl (hb hby d5_59) rfl k) ?_
          show OEnds p.tables e below G (s₁.setTop (mkF m 60 #[.val (.int ((((p1.toUInt32 >>> ((16 : Int32) &&& 31).toUInt32).toInt32).toUInt32 >>> ((8 : Int32) &&& 31).toUInt32).toInt32)), .val (.int (3 : Int32))] [(.int ((((((p1.toUInt32 >>> ((16 : Int32) &&& 31).toUInt32).toInt32).toUInt32 >>> ((8 : Int32) &&& 31).toUInt32).toInt32).toUInt32 >>> ((4 : Int32) &&& 31).toUInt32).toInt32))]))
          refine OEnds.st (fun _ k => XS.istoreN X0.here hx rfl (hb hby d5_60) rfl (l' := #[.val (.int ((((((p1.toUInt32 >>> ((16 : Int32) &&& 31).toUInt32).toInt32).toUInt32 >>> ((8 : Int32) &&& 31).toUInt32).toInt32).toUInt32 >>> ((4 : Int32) &&& 31).toUInt32).toInt32)), .val (.int (3 : Int32))]) rfl k) ?_
          show OEnds p.tables e below G (s₁.setTop (mkF m 61 #[.val (.int ((((((p1.toUInt32 >>> ((16 : Int32) &&& 31).toUInt32).toInt32).toUInt32 >>> ((8 : Int32) &&& 31).toUInt32).toInt32).toUInt32 >>> ((4 : Int32) &&& 31).toUInt32).toInt32)), .val (.int (3 : Int32))] []))
          refine OEnds.st (fun _ k => XS.iloadN X0.here hx rfl (hb hby d5_61) rfl k) ?_
          show OEnds p.tables e below G (s₁.setTop (mkF m 62 #[.val (.int ((((((p1.toUInt32 >>> ((16 : Int32) &&& 31).toUInt32).toInt32).toUInt32 >>> ((8 : Int32) &&& 31).toUInt32).toInt32).toUInt32 >>> ((4 : Int32) &&& 31).toUInt32).toInt32)), .val (.int (3 : Int32))] [(.int ((((((p1.toUInt32 >>> ((16 : Int32) &&& 31).toUInt32).toInt32).toUInt32 >>> ((8 : Int32) &&& 31).toUInt32).toInt32).toUInt32 >>> ((4 : Int32) &&& 31).toUInt32).toInt32))]))
          refine OEnds.st (fun _ k => XS.iconst X0.here hx rfl (hb hby d5_62) k) ?_
          show OEnds p.tables e below G (s₁.setTop (mkF m 63 #[.val (.int ((((((p1.toUInt32 >>> ((16 : Int32) &&& 31).toUInt32).toInt32).toUInt32 >>> ((8 : Int32) &&& 31).toUInt32).toInt32).toUInt32 >>> ((4 : Int32) &&& 31).toUInt32).toInt32)), .val (.int (3 : Int32))] [(.int (4 : Int32)), (.int ((((((p1.toUInt32 >>> ((16 : Int32) &&& 31).toUInt32).toInt32).toUInt32 >>> ((8 : Int32) &&& 31).toUInt32).toInt32).toUInt32 >>> ((4 : Int32) &&& 31).toUInt32).toInt32))]))
          by_cases hc63_1016 : ((((((p1.toUInt32 >>> ((16 : Int32) &&& 31).toUInt32).toInt32).toUInt32 >>> ((8 : Int32) &&& 31).toUInt32).toInt32).toUInt32 >>> ((4 : Int32) &&& 31).toUInt32).toInt32) < (4 : Int32)
          · -- pc 63: yes
            refine OEnds.st (fun _ k => XS.icmpYes X0.here hx rfl (pc0 := 63) (pc' := 73) rfl (hb hby d5_63) rfl (tlt hc63_1016).1 (by decide) (by decide) k) ?_
            show OEnds p.tables e below G (s₁.setTop (mkF m 73 #[.val (.int ((((((p1.toUInt32 >>> ((16 : Int32) &&& 31).toUInt32).toInt32).toUInt32 >>> ((8 : Int32) &&& 31).toUInt32).toInt32).toUInt32 >>> ((4 : Int32) &&& 31).toUInt32).toInt32)), .val (.int (3 : Int32))] []))
            refine OEnds.st (fun _ k => XS.iloadN X0.here hx rfl (hb hby d5_73) rfl k) ?_
            show OEnds p.tables e below G (s₁.setTop (mkF m 74 #[.val (.int ((((((p1.toUInt32 >>> ((16 : Int32) &&& 31).toUInt32).toInt32).toUInt32 >>> ((8 : Int32) &&& 31).toUInt32).toInt32).toUInt32 >>> ((4 : Int32) &&& 31).toUInt32).toInt32)), .val (.int (3 : Int32))] [(.int (3 : Int32))]))
            refine OEnds.st (fun _ k => XS.iloadN X0.here hx rfl (hb hby d5_74) rfl k) ?_
            show OEnds p.tables e below G (s₁.setTop (mkF m 75 #[.val (.int ((((((p1.toUInt32 >>> ((16 : Int32) &&& 31).toUInt32).toInt32).toUInt32 >>> ((8 : Int32) &&& 31).toUInt32).toInt32).toUInt32 >>> ((4 : Int32) &&& 31).toUInt32).toInt32)), .val (.int (3 : Int32))] [(.int ((((((p1.toUInt32 >>> ((16 : Int32) &&& 31).toUInt32).toInt32).toUInt32 >>> ((8 : Int32) &&& 31).toUInt32).toInt32).toUInt32 >>> ((4 : Int32) &&& 31).toUInt32).toInt32)), (.int (3 : Int32))]))
            refine OEnds.st (fun _ k => XS.iconst X0.here hx rfl (hb hby d5_75) k) ?_
            show OEnds p.tables e below G (s₁.setTop (mkF m 76 #[.val (.int ((((((p1.toUInt32 >>> ((16 : Int32) &&& 31).toUInt32).toInt32).toUInt32 >>> ((8 : Int32) &&& 31).toUInt32).toInt32).toUInt32 >>> ((4 : Int32) &&& 31).toUInt32).toInt32)), .val (.int (3 : Int32))] [(.int (1 : Int32)), (.int ((((((p1.toUInt32 >>> ((16 : Int32) &&& 31).toUInt32).toInt32).toUInt32 >>> ((8 : Int32) &&& 31).toUInt32).toInt32).toUInt32 >>> ((4 : Int32) &&& 31).toUInt32).toInt32)), (.int (3 : Int32))]))
            refine OEnds.st (fun _ k => XS.iushr X0.here hx rfl (hb hby d5_76) rfl k) ?_
            show OEnds p.tables e below G (s₁.setTop (mkF m 77 #[.val (.int ((((((p1.toUInt32 >>> ((16 : Int32) &&& 31).toUInt32).toInt32).toUInt32 >>> ((8 : Int32) &&& 31).toUInt32).toInt32).toUInt32 >>> ((4 : Int32) &&& 31).toUInt32).toInt32)), .val (.int (3 : Int32))] [(.int ((((((((p1.toUInt32 >>> ((16 : Int32) &&& 31).toUInt32).toInt32).toUInt32 >>> ((8 : Int32) &&& 31).toUInt32).toInt32).toUInt32 >>> ((4 : Int32) &&& 31).toUInt32).toInt32).toUInt32 >>> ((1 : Int32) &&& 31).toUInt32).toInt32)), (.int (3 : Int32))]))
            refine OEnds.st (fun _ k => XS.isub X0.here hx rfl (hb hby d5_77) rfl k) ?_
            show OEnds p.tables e below G (s₁.setTop (mkF m 78 #[.val (.int ((((((p1.toUInt32 >>> ((16 : Int32) &&& 31).toUInt32).toInt32).toUInt32 >>> ((8 : Int32) &&& 31).toUInt32).toInt32).toUInt32 >>> ((4 : Int32) &&& 31).toUInt32).toInt32)), .val (.int (3 : Int32))] [(.int ((3 : Int32) - ((((((((p1.toUInt32 >>> ((16 : Int32) &&& 31).toUInt32).toInt32).toUInt32 >>> ((8 : Int32) &&& 31).toUInt32).toInt32).toUInt32 >>> ((4 : Int32) &&& 31).toUInt32).toInt32).toUInt32 >>> ((1 : Int32) &&& 31).toUInt32).toInt32)))]))
            rw [← hG]
            have uhc1_1001 : (0 : Int32) < p1 := hc1_1001
            have uhc22_1002 : ¬ (p1 < (65536 : Int32)) := hc22_1002
            have uhc37_1010 : ¬ ((own_us p1 (16 : Int32)) < (256 : Int32)) := hc37_1010
            have uhc51_1014 : ¬ ((own_us (own_us p1 (16 : Int32)) (8 : Int32)) < (16 : Int32)) := hc51_1014
            have uhc63_1016 : (own_us (own_us (own_us p1 (16 : Int32)) (8 : Int32)) (4 : Int32)) < (4 : Int32) := hc63_1016
            refine OEnds.retI X0 hx hlk Bd.returns (hb hby d5_78) (by decide) (by decide) ?_
            rw [e0]
            exact ⟨congrArg (fun z => some (Value.int z)) (by first | (simp only [own_nlz, own_n16, own_n8, own_n4, own_n2, own_n1, if_pos uhc1_1001, if_neg uhc22_1002, if_neg uhc37_1010, if_neg uhc51_1014, if_pos uhc63_1016]; done) | (simp only [own_nlz, own_n16, own_n8, own_n4, own_n2, own_n1, if_pos uhc1_1001, if_neg uhc22_1002, if_neg uhc37_1010, if_neg uhc51_1014, if_pos uhc63_1016]; rfl) | (simp only [own_nlz, own_n16, own_n8, own_n4, own_n2, own_n1, if_pos uhc1_1001, if_neg uhc22_1002, if_neg uhc37_1010, if_neg uhc51_1014, if_pos uhc63_1016]; exact congrArg (fun z => z - _) (by decide))), N0, rfl⟩
          · -- pc 63: no
            refine OEnds.st (fun _ k => XS.icmpNo X0.here hx rfl (hb hby d5_63) rfl (flt hc63_1016).1 k) ?_
            show OEnds p.tables e below G (s₁.setTop (mkF m 66 #[.val (.int ((((((p1.toUInt32 >>> ((16 : Int32) &&& 31).toUInt32).toInt32).toUInt32 >>> ((8 : Int32) &&& 31).toUInt32).toInt32).toUInt32 >>> ((4 : Int32) &&& 31).toUInt32).toInt32)), .val (.int (3 : Int32))] []))
            refine OEnds.st (fun _ k => XS.iinc X0.here hx rfl (hb hby d5_66) rfl (l' := #[.val (.int ((((((p1.toUInt32 >>> ((16 : Int32) &&& 31).toUInt32).toInt32).toUInt32 >>> ((8 : Int32) &&& 31).toUInt32).toInt32).toUInt32 >>> ((4 : Int32) &&& 31).toUInt32).toInt32)), .val (.int ((3 : Int32) + (-2 : Int32)))]) rfl k) ?_
            show OEnds p.tables e below G (s₁.setTop (mkF m 69 #[.val (.int ((((((p1.toUInt32 >>> ((16 : Int32) &&& 31).toUInt32).toInt32).toUInt32 >>> ((8 : Int32) &&& 31).toUInt32).toInt32).toUInt32 >>> ((4 : Int32) &&& 31).toUInt32).toInt32)), .val (.int ((3 : Int32) + (-2 : Int32)))] []))
            rw [show ((3 : Int32) + (-2 : Int32)) = (1 : Int32) from by decide]
            show OEnds p.tables e below G (s₁.setTop (mkF m 69 #[.val (.int ((((((p1.toUInt32 >>> ((16 : Int32) &&& 31).toUInt32).toInt32).toUInt32 >>> ((8 : Int32) &&& 31).toUInt32).toInt32).toUInt32 >>> ((4 : Int32) &&& 31).toUInt32).toInt32)), .val (.int (1 : Int32))] []))
            refine OEnds.st (fun _ k => XS.iloadN X0.here hx rfl (hb hby d5_69) rfl k) ?_
            show OEnds p.tables e below G (s₁.setTop (mkF m 70 #[.val (.int ((((((p1.toUInt32 >>> ((16 : Int32) &&& 31).toUInt32).toInt32).toUInt32 >>> ((8 : Int32) &&& 31).toUInt32).toInt32).toUInt32 >>> ((4 : Int32) &&& 31).toUInt32).toInt32)), .val (.int (1 : Int32))] [(.int ((((((p1.toUInt32 >>> ((16 : Int32) &&& 31).toUInt32).toInt32).toUInt32 >>> ((8 : Int32) &&& 31).toUInt32).toInt32).toUInt32 >>> ((4 : Int32) &&& 31).toUInt32).toInt32))]))
            refine OEnds.st (fun _ k => XS.iconst X0.here hx rfl (hb hby d5_70) k) ?_
            show OEnds p.tables e below G (s₁.setTop (mkF m 71 #[.val (.int ((((((p1.toUInt32 >>> ((16 : Int32) &&& 31).toUInt32).toInt32).toUInt32 >>> ((8 : Int32) &&& 31).toUInt32).toInt32).toUInt32 >>> ((4 : Int32) &&& 31).toUInt32).toInt32)), .val (.int (1 : Int32))] [(.int (2 : Int32)), (.int ((((((p1.toUInt32 >>> ((16 : Int32) &&& 31).toUInt32).toInt32).toUInt32 >>> ((8 : Int32) &&& 31).toUInt32).toInt32).toUInt32 >>> ((4 : Int32) &&& 31).toUInt32).toInt32))]))
            refine OEnds.st (fun _ k => XS.iushr X0.here hx rfl (hb hby d5_71) rfl k) ?_
            show OEnds p.tables e below G (s₁.setTop (mkF m 72 #[.val (.int ((((((p1.toUInt32 >>> ((16 : Int32) &&& 31).toUInt32).toInt32).toUInt32 >>> ((8 : Int32) &&& 31).toUInt32).toInt32).toUInt32 >>> ((4 : Int32) &&& 31).toUInt32).toInt32)), .val (.int (1 : Int32))] [(.int ((((((((p1.toUInt32 >>> ((16 : Int32) &&& 31).toUInt32).toInt32).toUInt32 >>> ((8 : Int32) &&& 31).toUInt32).toInt32).toUInt32 >>> ((4 : Int32) &&& 31).toUInt32).toInt32).toUInt32 >>> ((2 : Int32) &&& 31).toUInt32).toInt32))]))
            refine OEnds.st (fun _ k => XS.istoreN X0.here hx rfl (hb hby d5_72) rfl (l' := #[.val (.int ((((((((p1.toUInt32 >>> ((16 : Int32) &&& 31).toUInt32).toInt32).toUInt32 >>> ((8 : Int32) &&& 31).toUInt32).toInt32).toUInt32 >>> ((4 : Int32) &&& 31).toUInt32).toInt32).toUInt32 >>> ((2 : Int32) &&& 31).toUInt32).toInt32)), .val (.int (1 : Int32))]) rfl k) ?_
            show OEnds p.tables e below G (s₁.setTop (mkF m 73 #[.val (.int ((((((((p1.toUInt32 >>> ((16 : Int32) &&& 31).toUInt32).toInt32).toUInt32 >>> ((8 : Int32) &&& 31).toUInt32).toInt32).toUInt32 >>> ((4 : Int32) &&& 31).toUInt32).toInt32).toUInt32 >>> ((2 : Int32) &&& 31).toUInt32).toInt32)), .val (.int (1 : Int32))] []))
            refine OEnds.st (fun _ k => XS.iloadN X0.here hx rfl (hb hby d5_73) rfl k) ?_
            show OEnds p.tables e below G (s₁.setTop (mkF m 74 #[.val (.int ((((((((p1.toUInt32 >>> ((16 : Int32) &&& 31).toUInt32).toInt32).toUInt32 >>> ((8 : Int32) &&& 31).toUInt32).toInt32).toUInt32 >>> ((4 : Int32) &&& 31).toUInt32).toInt32).toUInt32 >>> ((2 : Int32) &&& 31).toUInt32).toInt32)), .val (.int (1 : Int32))] [(.int (1 : Int32))]))
            refine OEnds.st (fun _ k => XS.iloadN X0.here hx rfl (hb hby d5_74) rfl k) ?_
            show OEnds p.tables e below G (s₁.setTop (mkF m 75 #[.val (.int ((((((((p1.toUInt32 >>> ((16 : Int32) &&& 31).toUInt32).toInt32).toUInt32 >>> ((8 : Int32) &&& 31).toUInt32).toInt32).toUInt32 >>> ((4 : Int32) &&& 31).toUInt32).toInt32).toUInt32 >>> ((2 : Int32) &&& 31).toUInt32).toInt32)), .val (.int (1 : Int32))] [(.int ((((((((p1.toUInt32 >>> ((16 : Int32) &&& 31).toUInt32).toInt32).toUInt32 >>> ((8 : Int32) &&& 31).toUInt32).toInt32).toUInt32 >>> ((4 : Int32) &&& 31).toUInt32).toInt32).toUInt32 >>> ((2 : Int32) &&& 31).toUInt32).toInt32)), (.int (1 : Int32))]))
            refine OEnds.st (fun _ k => XS.iconst X0.here hx rfl (hb hby d5_75) k) ?_
            show OEnds p.tables e below G (s₁.setTop (mkF m 76 #[.val (.int ((((((((p1.toUInt32 >>> ((16 : Int32) &&& 31).toUInt32).toInt32).toUInt32 >>> ((8 : Int32) &&& 31).toUInt32).toInt32).toUInt32 >>> ((4 : Int32) &&& 31).toUInt32).toInt32).toUInt32 >>> ((2 : Int32) &&& 31).toUInt32).toInt32)), .val (.int (1 : Int32))] [(.int (1 : Int32)), (.int ((((((((p1.toUInt32 >>> ((16 : Int32) &&& 31).toUInt32).toInt32).toUInt32 >>> ((8 : Int32) &&& 31).toUInt32).toInt32).toUInt32 >>> ((4 : Int32) &&& 31).toUInt32).toInt32).toUInt32 >>> ((2 : Int32) &&& 31).toUInt32).toInt32)), (.int (1 : Int32))]))
            refine OEnds.st (fun _ k => XS.iushr X0.here hx rfl (hb hby d5_76) rfl k) ?_
            show OEnds p.tables e below G (s₁.setTop (mkF m 77 #[.val (.int ((((((((p1.toUInt32 >>> ((16 : Int32) &&& 31).toUInt32).toInt32).toUInt32 >>> ((8 : Int32) &&& 31).toUInt32).toInt32).toUInt32 >>> ((4 : Int32) &&& 31).toUInt32).toInt32).toUInt32 >>> ((2 : Int32) &&& 31).toUInt32).toInt32)), .val (.int (1 : Int32))] [(.int ((((((((((p1.toUInt32 >>> ((16 : Int32) &&& 31).toUInt32).toInt32).toUInt32 >>> ((8 : Int32) &&& 31).toUInt32).toInt32).toUInt32 >>> ((4 : Int32) &&& 31).toUInt32).toInt32).toUInt32 >>> ((2 : Int32) &&& 31).toUInt32).toInt32).toUInt32 >>> ((1 : Int32) &&& 31).toUInt32).toInt32)), (.int (1 : Int32))]))
            refine OEnds.st (fun _ k => XS.isub X0.here hx rfl (hb hby d5_77) rfl k) ?_
            show OEnds p.tables e below G (s₁.setTop (mkF m 78 #[.val (.int ((((((((p1.toUInt32 >>> ((16 : Int32) &&& 31).toUInt32).toInt32).toUInt32 >>> ((8 : Int32) &&& 31).toUInt32).toInt32).toUInt32 >>> ((4 : Int32) &&& 31).toUInt32).toInt32).toUInt32 >>> ((2 : Int32) &&& 31).toUInt32).toInt32)), .val (.int (1 : Int32))] [(.int ((1 : Int32) - ((((((((((p1.toUInt32 >>> ((16 : Int32) &&& 31).toUInt32).toInt32).toUInt32 >>> ((8 : Int32) &&& 31).toUInt32).toInt32).toUInt32 >>> ((4 : Int32) &&& 31).toUInt32).toInt32).toUInt32 >>> ((2 : Int32) &&& 31).toUInt32).toInt32).toUInt32 >>> ((1 : Int32) &&& 31).toUInt32).toInt32)))]))
            rw [← hG]
            have uhc1_1001 : (0 : Int32) < p1 := hc1_1001
            have uhc22_1002 : ¬ (p1 < (65536 : Int32)) := hc22_1002
            have uhc37_1010 : ¬ ((own_us p1 (16 : Int32)) < (256 : Int32)) := hc37_1010
            have uhc51_1014 : ¬ ((own_us (own_us p1 (16 : Int32)) (8 : Int32)) < (16 : Int32)) := hc51_1014
            have uhc63_1016 : ¬ ((own_us (own_us (own_us p1 (16 : Int32)) (8 : Int32)) (4 : Int32)) < (4 : Int32)) := hc63_1016
            refine OEnds.retI X0 hx hlk Bd.returns (hb hby d5_78) (by decide) (by decide) ?_
            rw [e0]
            exact ⟨congrArg (fun z => some (Value.int z)) (by first | (simp only [own_nlz, own_n16, own_n8, own_n4, own_n2, own_n1, if_pos uhc1_1001, if_neg uhc22_1002, if_neg uhc37_1010, if_neg uhc51_1014, if_neg uhc63_1016]; done) | (simp only [own_nlz, own_n16, own_n8, own_n4, own_n2, own_n1, if_pos uhc1_1001, if_neg uhc22_1002, if_neg uhc37_1010, if_neg uhc51_1014, if_neg uhc63_1016]; rfl) | (simp only [own_nlz, own_n16, own_n8, own_n4, own_n2, own_n1, if_pos uhc1_1001, if_neg uhc22_1002, if_neg uhc37_1010, if_neg uhc51_1014, if_neg uhc63_1016]; exact congrArg (fun z => z - _) (by decide))), N0, rfl⟩
  · -- pc 1: no
    refine OEnds.st (fun _ k => XS.ifNo X0.here hx rfl (hb hby d5_1) rfl ((if0 _ _).trans (flt hc1_1001).2.2.1) k) ?_
    show OEnds p.tables e below G (s₁.setTop (mkF m 4 #[.val (.int p1), .unset] []))
    refine OEnds.st (fun _ k => XS.iloadN X0.here hx rfl (hb hby d5_4) rfl k) ?_
    show OEnds p.tables e below G (s₁.setTop (mkF m 5 #[.val (.int p1), .unset] [(.int p1)]))
    by_cases hc5_1017 : p1 = (0 : Int32)
    · -- pc 5: yes
      refine OEnds.st (fun _ k => XS.ifNo X0.here hx rfl (hb hby d5_5) rfl ((if0 _ _).trans (teq hc5_1017).2) k) ?_
      show OEnds p.tables e below G (s₁.setTop (mkF m 8 #[.val (.int p1), .unset] []))
      refine OEnds.st (fun _ k => XS.bipush X0.here hx rfl (hb hby d5_8) k) ?_
      show OEnds p.tables e below G (s₁.setTop (mkF m 10 #[.val (.int p1), .unset] [(.int (32 : Int32))]))
      refine OEnds.st (fun _ k => XS.goto X0.here hx rfl (pc0 := 10) (pc' := 14) rfl (hb hby d5_10) (by decide) (by decide) k) ?_
      show OEnds p.tables e below G (s₁.setTop (mkF m 14 #[.val (.int p1), .unset] [(.int (32 : Int32))]))
      rw [← hG]
      have uhc1_1001 : ¬ ((0 : Int32) < p1) := hc1_1001
      have uhc5_1017 : p1 = (0 : Int32) := hc5_1017
      refine OEnds.retI X0 hx hlk Bd.returns (hb hby d5_14) (by decide) (by decide) ?_
      rw [e0]
      exact ⟨congrArg (fun z => some (Value.int z)) (by first | (simp only [own_nlz, own_n16, own_n8, own_n4, own_n2, own_n1, if_neg uhc1_1001, if_pos uhc5_1017]; done) | (simp only [own_nlz, own_n16, own_n8, own_n4, own_n2, own_n1, if_neg uhc1_1001, if_pos uhc5_1017]; rfl) | (simp only [own_nlz, own_n16, own_n8, own_n4, own_n2, own_n1, if_neg uhc1_1001, if_pos uhc5_1017]; exact congrArg (fun z => z - _) (by decide))), N0, rfl⟩
    · -- pc 5: no
      refine OEnds.st (fun _ k => XS.ifYes X0.here hx rfl (pc0 := 5) (pc' := 13) rfl (hb hby d5_5) rfl ((if0 _ _).trans (feq hc5_1017).2) (by decide) (by decide) k) ?_
      show OEnds p.tables e below G (s₁.setTop (mkF m 13 #[.val (.int p1), .unset] []))
      refine OEnds.st (fun _ k => XS.iconst X0.here hx rfl (hb hby d5_13) k) ?_
      show OEnds p.tables e below G (s₁.setTop (mkF m 14 #[.val (.int p1), .unset] [(.int (0 : Int32))]))
      rw [← hG]
      have uhc1_1001 : ¬ ((0 : Int32) < p1) := hc1_1001
      have uhc5_1017 : ¬ (p1 = (0 : Int32)) := hc5_1017
      refine OEnds.retI X0 hx hlk Bd.returns (hb hby d5_14) (by decide) (by decide) ?_
      rw [e0]
      exact ⟨congrArg (fun z => some (Value.int z)) (by first | (simp only [own_nlz, own_n16, own_n8, own_n4, own_n2, own_n1, if_neg uhc1_1001, if_neg uhc5_1017]; done) | (simp only [own_nlz, own_n16, own_n8, own_n4, own_n2, own_n1, if_neg uhc1_1001, if_neg uhc5_1017]; rfl) | (simp only [own_nlz, own_n16, own_n8, own_n4, own_n2, own_n1, if_neg uhc1_1001, if_neg uhc5_1017]; exact congrArg (fun z => z - _) (by decide))), N0, rfl⟩
theorem pn_1 : plainName "java/lang/Long" = true := by first | (simp [plainName, overriddenIn]; done) | decide +kernel
theorem ef_nl (m : MethodId) (q1 : Int64) : entryFrame m #[(.long q1)] 3 = mkF m 0 #[.val (.long q1), .second, .unset] [] := by first | (simp [entryFrame, mkF, argsToLocals, Value.category]; done) | rfl
def Qnl (Z : State) (q1 : Int64) (h0 : Heap) (n0 : Nat) (v : Option Value) (h : Heap) (L : List Loc) : Prop := v = some (.int ((32 : Int32) + (own_nlz (q1.toInt32)))) ∧ Fr n0 L ∧ h = h0
theorem pd_0 : parseMethodDescriptor "(I)I" = some ⟨[.int], some .int⟩ := by decide +kernel
theorem d4_0 : decode jdk_35_method_48_code 0 = .ok (.lload_n 0, 1) := by decide +kernel
theorem d4_1 : decode jdk_35_method_48_code 1 = .ok (.bipush 32, 2) := by decide +kernel
theorem d4_3 : decode jdk_35_method_48_code 3 = .ok (.lushr, 1) := by decide +kernel
theorem d4_4 : decode jdk_35_method_48_code 4 = .ok (.l2i, 1) := by decide +kernel
theorem d4_5 : decode jdk_35_method_48_code 5 = .ok (.istore_n 2, 1) := by decide +kernel
theorem d4_6 : decode jdk_35_method_48_code 6 = .ok (.iload_n 2, 1) := by decide +kernel
theorem d4_7 : decode jdk_35_method_48_code 7 = .ok (.ifCond .ne 14, 3) := by decide +kernel
theorem d4_10 : decode jdk_35_method_48_code 10 = .ok (.bipush 32, 2) := by decide +kernel
theorem d4_12 : decode jdk_35_method_48_code 12 = .ok (.lload_n 0, 1) := by decide +kernel
theorem d4_13 : decode jdk_35_method_48_code 13 = .ok (.l2i, 1) := by decide +kernel
theorem d4_14 : decode jdk_35_method_48_code 14 = .ok (.invokestatic 308, 3) := by decide +kernel
theorem d4_17 : decode jdk_35_method_48_code 17 = .ok (.iadd, 1) := by decide +kernel
theorem d4_18 : decode jdk_35_method_48_code 18 = .ok (.goto 7, 3) := by decide +kernel
theorem d4_25 : decode jdk_35_method_48_code 25 = .ok (.ireturn, 1) := by decide +kernel
set_option maxRecDepth 65536 in
set_option maxHeartbeats 40000000 in
theorem rmnl (l : Launch) (Z : State) (a0 : Array Value) (hw : ∀ d ∈ tables_1, d.before a0 Z = true) (ws : List Jvm.Cond) (q1 : Int64) (h0 : Heap) (n0 : Nat) (Z0 : n0 ≤ h0.size) (h32 : (((q1.toUInt64 >>> ((32 : Int32) &&& 0x3f).toInt64.toUInt64).toInt64).toInt32) = (0 : Int32)) :
    MetFree l (⟨"java/lang/Long", "numberOfLeadingZeros", "(J)I"⟩ : MethodName) (head1 (Jvm.Cond.code (⟨"java/lang/Long", "numberOfLeadingZeros", "(J)I"⟩ : MethodName) jdk_35_method_48_code 3 (some .int) :: ws) ({ frames := 1, cells := 0, slots := 0, locals := 14 } : Room)) (fun a U => a = #[(.long q1)] ∧ Z.Warmed39 U.vm ∧ U.heap = h0) (fun _ _ _ _ _ => True) (fun _ U o U' => ∃ v L, o = .returned v ∧ Qnl Z q1 h0 n0 v U'.heap L ∧ FrameEnd U o U' L ({ frames := 1, cells := 0, slots := 0, locals := 14 } : Room).cells ({ frames := 1, cells := 0, slots := 0, locals := 14 } : Room).slots) := by
  refine MetFree.of_bodySF (plainFor_of_name pn_1) hisR ?_
  intro p e s m args below meth c s₁ Bd hml0 hP hK
  obtain ⟨rfl, hZ, hh⟩ := hP
  have hx := Bd.exec
  have hby := Bd.bytes
  have hml : c.maxLocals = 3 := hml0
  have hown : s.vm.findClass "java/lang/Long" = some m.cls := findClass_of_methodNamed Bd.named
  have hnm := (name_of_methodNamed Bd.named Bd.method).1
  have hlk : meth.locks = false := BodyLoose.notSynchronized Bd
  have X0 : Stand p l e ({ frames := 1, cells := 0, slots := 0, locals := 14 } : Room) s m #[(.long q1)] below meth c s₁ [] 0 0 := Stand.of_body Bd
  have e0 : s₁.heap = h0 := by rw [← hh, Bd.state]; rfl
  have N0 := Fr.nil n0
  show OEnds p.tables e below (OGoal (Qnl Z q1 h0 n0) s 0 0) (s₁.setTop (entryFrame m #[(.long q1)] 3))
  refine OEnds.st (fun t k => castTop (ef_nl m q1) k) ?_
  generalize hG : OGoal (Qnl Z q1 h0 n0) s 0 0 = G
  have KK0 : Keep h0 h0 [] := Keep.refl h0 []
  show OEnds p.tables e below G (s₁.setTop (mkF m 0 #[.val (.long q1), .second, .unset] []))
  refine OEnds.st (fun _ k => XS.lloadN X0.here hx rfl (hb hby d4_0) rfl k) ?_
  show OEnds p.tables e below G (s₁.setTop (mkF m 1 #[.val (.long q1), .second, .unset] [(.long q1)]))
  refine OEnds.st (fun _ k => XS.bipush X0.here hx rfl (hb hby d4_1) k) ?_
  show OEnds p.tables e below G (s₁.setTop (mkF m 3 #[.val (.long q1), .second, .unset] [(.int (32 : Int32)), (.long q1)]))
  refine OEnds.st (fun _ k => XS.lushr X0.here hx rfl (hb hby d4_3) rfl k) ?_
  show OEnds p.tables e below G (s₁.setTop (mkF m 4 #[.val (.long q1), .second, .unset] [(.long ((q1.toUInt64 >>> ((32 : Int32) &&& 0x3f).toInt64.toUInt64).toInt64))]))
  refine OEnds.st (fun _ k => XS.l2i X0.here hx rfl (hb hby d4_4) rfl k) ?_
  show OEnds p.tables e below G (s₁.setTop (mkF m 5 #[.val (.long q1), .second, .unset] [(.int (((q1.toUInt64 >>> ((32 : Int32) &&& 0x3f).toInt64.toUInt64).toInt64).toInt32))]))
  refine OEnds.st (fun _ k => XS.istoreN X0.here hx rfl (hb hby d4_5) rfl (l' := #[.val (.long q1), .second, .val (.int (((q1.toUInt64 >>> ((32 : Int32) &&& 0x3f).toInt64.toUInt64).toInt64).toInt32))]) rfl k) ?_
  show OEnds p.tables e below G (s₁.setTop (mkF m 6 #[.val (.long q1), .second, .val (.int (((q1.toUInt64 >>> ((32 : Int32) &&& 0x3f).toInt64.toUInt64).toInt64).toInt32))] []))
  refine OEnds.st (fun _ k => XS.iloadN X0.here hx rfl (hb hby d4_6) rfl k) ?_
  show OEnds p.tables e below G (s₁.setTop (mkF m 7 #[.val (.long q1), .second, .val (.int (((q1.toUInt64 >>> ((32 : Int32) &&& 0x3f).toInt64.toUInt64).toInt64).toInt32))] [(.int (((q1.toUInt64 >>> ((32 : Int32) &&& 0x3f).toInt64.toUInt64).toInt64).toInt32))]))
  refine OEnds.st (fun _ k => XS.ifNo X0.here hx rfl (hb hby d4_7) rfl ((if0 _ _).trans (teq h32).2) k) ?_
  show OEnds p.tables e below G (s₁.setTop (mkF m 10 #[.val (.long q1), .second, .val (.int (((q1.toUInt64 >>> ((32 : Int32) &&& 0x3f).toInt64.toUInt64).toInt64).toInt32))] []))
  refine OEnds.st (fun _ k => XS.bipush X0.here hx rfl (hb hby d4_10) k) ?_
  show OEnds p.tables e below G (s₁.setTop (mkF m 12 #[.val (.long q1), .second, .val (.int (((q1.toUInt64 >>> ((32 : Int32) &&& 0x3f).toInt64.toUInt64).toInt64).toInt32))] [(.int (32 : Int32))]))
  refine OEnds.st (fun _ k => XS.lloadN X0.here hx rfl (hb hby d4_12) rfl k) ?_
  show OEnds p.tables e below G (s₁.setTop (mkF m 13 #[.val (.long q1), .second, .val (.int (((q1.toUInt64 >>> ((32 : Int32) &&& 0x3f).toInt64.toUInt64).toInt64).toInt32))] [(.long q1), (.int (32 : Int32))]))
  refine OEnds.st (fun _ k => XS.l2i X0.here hx rfl (hb hby d4_13) rfl k) ?_
  show OEnds p.tables e below G (s₁.setTop (mkF m 14 #[.val (.long q1), .second, .val (.int (((q1.toUInt64 >>> ((32 : Int32) &&& 0x3f).toInt64.toUInt64).toInt64).toInt32))] [(.int (q1.toInt32)), (.int (32 : Int32))]))
  obtain ⟨_, _, ⟨T1001, L1001, k1001c, n1001c⟩, -, X1001, ⟨Lc1001, hQ1001, l1001, y1001, z1001⟩, st1001⟩ := Jvm.LawKit.callS X0 hx (y := (⟨"java/lang/Integer", "numberOfLeadingZeros", "(I)I"⟩ : MethodName)) hown (mvT hZ (hw _ (List.mem_of_getElem? (i := 20) rfl))) (mvT hZ (hw _ (List.mem_of_getElem? (i := 21) rfl))) (mvT hZ (hw _ (List.mem_of_getElem? (i := 22) rfl))) (mvT hZ (hw _ (List.mem_of_getElem? (i := 23) rfl))) (by decide) (backOf (W := 1) (rmnz l Z a0 hw [] (q1.toInt32) h0 n0 Z0 ) hZ (hw _ (List.mem_of_getElem? (i := 23) rfl)) (hw _ (List.mem_of_getElem? (i := 22) rfl)) (by decide) (by decide)) (g := (mkF m 14 #[.val (.long q1), .second, .val (.int (((q1.toUInt64 >>> ((32 : Int32) &&& 0x3f).toInt64.toUInt64).toInt64).toInt32))] [(.int (q1.toInt32)), (.int (32 : Int32))])) rfl (by rw [hml]; rfl) (argsL := [(.int (q1.toInt32))]) (rest := [(.int (32 : Int32))]) (lenOf pd_0 rfl) rfl (by show 2 * 0 + _ ≤ _; exact Nat.le_of_eq rfl) (hb hby d4_14) (fun _ _ => ⟨rfl, e0, (by decide : 0 + 0 ≤ _), (by decide : 0 + 0 ≤ _)⟩)
  dsimp only [Pt.U, Pt.locs, Pt.cells, Pt.slots] at X1001 l1001 y1001 z1001 st1001 hQ1001
  subst l1001 y1001 z1001
  obtain ⟨rfl, N1001q, e1001⟩ := hQ1001
  have N1001 := Fr.app N0 N1001q
  refine OEnds.st st1001 ?_
  clear st1001
  show OEnds p.tables e below G (T1001.setTop (mkF m 17 #[.val (.long q1), .second, .val (.int (((q1.toUInt64 >>> ((32 : Int32) &&& 0x3f).toInt64.toUInt64).toInt64).toInt32))] [(.int (own_nlz (q1.toInt32))), (.int (32 : Int32))]))
  refine OEnds.st (fun _ k => XS.iadd X1001.here hx rfl (hb hby d4_17) rfl k) ?_
  show OEnds p.tables e below G (T1001.setTop (mkF m 18 #[.val (.long q1), .second, .val (.int (((q1.toUInt64 >>> ((32 : Int32) &&& 0x3f).toInt64.toUInt64).toInt64).toInt32))] [(.int ((32 : Int32) + (own_nlz (q1.toInt32))))]))
  refine OEnds.st (fun _ k => XS.goto X1001.here hx rfl (pc0 := 18) (pc' := 25) rfl (hb hby d4_18) (by decide) (by decide) k) ?_
  show OEnds p.tables e below G (T1001.setTop (mkF m 25 #[.val (.long q1), .second, .val (.int (((q1.toUInt64 >>> ((32 : Int32) &&& 0x3f).toInt64.toUInt64).toInt64).toInt32))] [(.int ((32 : Int32) + (own_nlz (q1.toInt32))))]))
  rw [← hG]
  refine OEnds.retI X1001 hx hlk Bd.returns (hb hby d4_25) (by decide) (by decide) ?_
  rw [e1001]
  exact ⟨rfl, N1001, rfl⟩
theorem pn_2 : plainName "com/example/marshalyard/marshalyard/proxy/ResponseTimes" = true := by first | (simp [plainName, overriddenIn]; done) | decide +kernel
theorem ef_bk (m : MethodId) (q1 : Int64) : entryFrame m #[(.long q1)] 5 = mkF m 0 #[.val (.long q1), .second, .unset, .unset, .unset] [] := by first | (simp [entryFrame, mkF, argsToLocals, Value.category]; done) | rfl
def Qbk (Z : State) (q1 : Int64) (h0 : Heap) (n0 : Nat) (v : Option Value) (h : Heap) (L : List Loc) : Prop := v = some (.int (own_bk q1)) ∧ Fr n0 L ∧ h = h0
theorem pd_1 : parseMethodDescriptor "(J)I" = some ⟨[.long], some .int⟩ := by decide +kernel
theorem d3_0 : decode prog_92_method_7_code 0 = .ok (.lload_n 0, 1) := by decide +kernel
theorem d3_1 : decode prog_92_method_7_code 1 = .ok (.ldc2_w 44, 3) := by decide +kernel
theorem d3_4 : decode prog_92_method_7_code 4 = .ok (.lcmp, 1) := by decide +kernel
theorem d3_5 : decode prog_92_method_7_code 5 = .ok (.ifCond .ge 6, 3) := by decide +kernel
theorem d3_8 : decode prog_92_method_7_code 8 = .ok (.lload_n 0, 1) := by decide +kernel
theorem d3_9 : decode prog_92_method_7_code 9 = .ok (.l2i, 1) := by decide +kernel
theorem d3_10 : decode prog_92_method_7_code 10 = .ok (.ireturn, 1) := by decide +kernel
theorem d3_11 : decode prog_92_method_7_code 11 = .ok (.bipush 63, 2) := by decide +kernel
theorem d3_13 : decode prog_92_method_7_code 13 = .ok (.lload_n 0, 1) := by decide +kernel
theorem d3_14 : decode prog_92_method_7_code 14 = .ok (.invokestatic 48, 3) := by decide +kernel
theorem d3_17 : decode prog_92_method_7_code 17 = .ok (.isub, 1) := by decide +kernel
theorem d3_18 : decode prog_92_method_7_code 18 = .ok (.istore_n 2, 1) := by decide +kernel
theorem d3_19 : decode prog_92_method_7_code 19 = .ok (.iload_n 2, 1) := by decide +kernel
theorem d3_20 : decode prog_92_method_7_code 20 = .ok (.getstatic 51, 3) := by decide +kernel
theorem d3_23 : decode prog_92_method_7_code 23 = .ok (.isub, 1) := by decide +kernel
theorem d3_24 : decode prog_92_method_7_code 24 = .ok (.istore_n 3, 1) := by decide +kernel
theorem d3_25 : decode prog_92_method_7_code 25 = .ok (.lload_n 0, 1) := by decide +kernel
theorem d3_26 : decode prog_92_method_7_code 26 = .ok (.iload_n 3, 1) := by decide +kernel
theorem d3_27 : decode prog_92_method_7_code 27 = .ok (.lshr, 1) := by decide +kernel
theorem d3_28 : decode prog_92_method_7_code 28 = .ok (.l2i, 1) := by decide +kernel
theorem d3_29 : decode prog_92_method_7_code 29 = .ok (.sipush 128, 3) := by decide +kernel
theorem d3_32 : decode prog_92_method_7_code 32 = .ok (.isub, 1) := by decide +kernel
theorem d3_33 : decode prog_92_method_7_code 33 = .ok (.istore 4, 2) := by decide +kernel
theorem d3_35 : decode prog_92_method_7_code 35 = .ok (.sipush 2048, 3) := by decide +kernel
theorem d3_38 : decode prog_92_method_7_code 38 = .ok (.iload_n 2, 1) := by decide +kernel
theorem d3_39 : decode prog_92_method_7_code 39 = .ok (.getstatic 55, 3) := by decide +kernel
theorem d3_42 : decode prog_92_method_7_code 42 = .ok (.isub, 1) := by decide +kernel
theorem d3_43 : decode prog_92_method_7_code 43 = .ok (.sipush 128, 3) := by decide +kernel
theorem d3_46 : decode prog_92_method_7_code 46 = .ok (.imul, 1) := by decide +kernel
theorem d3_47 : decode prog_92_method_7_code 47 = .ok (.iadd, 1) := by decide +kernel
theorem d3_48 : decode prog_92_method_7_code 48 = .ok (.iload 4, 2) := by decide +kernel
theorem d3_50 : decode prog_92_method_7_code 50 = .ok (.iadd, 1) := by decide +kernel
theorem d3_51 : decode prog_92_method_7_code 51 = .ok (.ireturn, 1) := by decide +kernel
set_option maxRecDepth 65536 in
set_option maxHeartbeats 40000000 in
theorem rmbk (l : Launch) (Z : State) (a0 : Array Value) (hw : ∀ d ∈ tables_1, d.before a0 Z = true) (ws : List Jvm.Cond) (q1 : Int64) (h0 : Heap) (n0 : Nat) (Z0 : n0 ≤ h0.size) (Sp : Sta Z h0 "com/example/marshalyard/marshalyard/proxy/ResponseTimes" "SPLIT_BITS" "I" (.int (7 : Int32))) (Se : Sta Z h0 "com/example/marshalyard/marshalyard/proxy/ResponseTimes" "EXACT_BITS" "I" (.int (11 : Int32))) (hq : 0 ≤ q1.toInt ∧ q1.toInt ≤ 4294967295) :
    MetFree l (⟨"com/example/marshalyard/marshalyard/proxy/ResponseTimes", "bucket", "(J)I"⟩ : MethodName) (head1 (Jvm.Cond.code (⟨"com/example/marshalyard/marshalyard/proxy/ResponseTimes", "bucket", "(J)I"⟩ : MethodName) prog_92_method_7_code 5 (some .int) :: ws) ({ frames := 2, cells := 0, slots := 0, locals := 29 } : Room)) (fun a U => a = #[(.long q1)] ∧ Z.Warmed39 U.vm ∧ U.heap = h0) (fun _ _ _ _ _ => True) (fun _ U o U' => ∃ v L, o = .returned v ∧ Qbk Z q1 h0 n0 v U'.heap L ∧ FrameEnd U o U' L ({ frames := 2, cells := 0, slots := 0, locals := 29 } : Room).cells ({ frames := 2, cells := 0, slots := 0, locals := 29 } : Room).slots) := by
  refine MetFree.of_bodySF (plainFor_of_name pn_2) hisR ?_
  intro p e s m args below meth c s₁ Bd hml0 hP hK
  obtain ⟨rfl, hZ, hh⟩ := hP
  have hx := Bd.exec
  have hby := Bd.bytes
  have hml : c.maxLocals = 5 := hml0
  have hown : s.vm.findClass "com/example/marshalyard/marshalyard/proxy/ResponseTimes" = some m.cls := findClass_of_methodNamed Bd.named
  have hnm := (name_of_methodNamed Bd.named Bd.method).1
  have hlk : meth.locks = false := BodyLoose.notSynchronized Bd
  have X0 : Stand p l e ({ frames := 2, cells := 0, slots := 0, locals := 29 } : Room) s m #[(.long q1)] below meth c s₁ [] 0 0 := Stand.of_body Bd
  have e0 : s₁.heap = h0 := by rw [← hh, Bd.state]; rfl
  have N0 := Fr.nil n0
  show OEnds p.tables e below (OGoal (Qbk Z q1 h0 n0) s 0 0) (s₁.setTop (entryFrame m #[(.long q1)] 5))
  refine OEnds.st (fun t k => castTop (ef_bk m q1) k) ?_
  generalize hG : OGoal (Qbk Z q1 h0 n0) s 0 0 = G
  have KK0 : Keep h0 h0 [] := Keep.refl h0 []
  show OEnds p.tables e below G (s₁.setTop (mkF m 0 #[.val (.long q1), .second, .unset, .unset, .unset] []))
  refine OEnds.st (fun _ k => XS.lloadN X0.here hx rfl (hb hby d3_0) rfl k) ?_
  show OEnds p.tables e below G (s₁.setTop (mkF m 1 #[.val (.long q1), .second, .unset, .unset, .unset] [(.long q1)]))
  refine OEnds.st (X0.ldc2Long hx hown (mvT hZ (hw _ (List.mem_of_getElem? (i := 15) rfl))) (g := (mkF m 1 #[.val (.long q1), .second, .unset, .unset, .unset] [(.long q1)])) rfl (hb hby d3_1)) ?_
  show OEnds p.tables e below G (s₁.setTop (mkF m 4 #[.val (.long q1), .second, .unset, .unset, .unset] [(.long (2048 : Int64)), (.long q1)]))
  refine OEnds.st (fun _ k => XS.lcmp X0.here hx rfl (hb hby d3_4) rfl k) ?_
  show OEnds p.tables e below G (s₁.setTop (mkF m 5 #[.val (.long q1), .second, .unset, .unset, .unset] [(.int (lcmpW q1 (2048 : Int64)))]))
  by_cases hc5_1001 : q1 < (2048 : Int64)
  · -- pc 5: yes
    refine OEnds.st (fun _ k => XS.ifNo X0.here hx rfl (hb hby d3_5) rfl ((if0 _ _).trans (tlt ((lw_lt q1 (2048 : Int64)).mpr hc5_1001)).2.1) k) ?_
    show OEnds p.tables e below G (s₁.setTop (mkF m 8 #[.val (.long q1), .second, .unset, .unset, .unset] []))
    refine OEnds.st (fun _ k => XS.lloadN X0.here hx rfl (hb hby d3_8) rfl k) ?_
    show OEnds p.tables e below G (s₁.setTop (mkF m 9 #[.val (.long q1), .second, .unset, .unset, .unset] [(.long q1)]))
    refine OEnds.st (fun _ k => XS.l2i X0.here hx rfl (hb hby d3_9) rfl k) ?_
    show OEnds p.tables e below G (s₁.setTop (mkF m 10 #[.val (.long q1), .second, .unset, .unset, .unset] [(.int (q1.toInt32))]))
    rw [← hG]
    refine OEnds.retI X0 hx hlk Bd.returns (hb hby d3_10) (by decide) (by decide) ?_
    rw [e0]
    exact ⟨congrArg (fun z => some (Value.int z)) (by unfold own_bk; rw [if_pos hc5_1001]), N0, rfl⟩
  · -- pc 5: no
    refine OEnds.st (fun _ k => XS.ifYes X0.here hx rfl (pc0 := 5) (pc' := 11) rfl (hb hby d3_5) rfl ((if0 _ _).trans (flt (fun q => hc5_1001 ((lw_lt q1 (2048 : Int64)).mp q))).2.1) (by decide) (by decide) k) ?_
    show OEnds p.tables e below G (s₁.setTop (mkF m 11 #[.val (.long q1), .second, .unset, .unset, .unset] []))
    refine OEnds.st (fun _ k => XS.bipush X0.here hx rfl (hb hby d3_11) k) ?_
    show OEnds p.tables e below G (s₁.setTop (mkF m 13 #[.val (.long q1), .second, .unset, .unset, .unset] [(.int (63 : Int32))]))
    refine OEnds.st (fun _ k => XS.lloadN X0.here hx rfl (hb hby d3_13) rfl k) ?_
    show OEnds p.tables e below G (s₁.setTop (mkF m 14 #[.val (.long q1), .second, .unset, .unset, .unset] [(.long q1), (.int (63 : Int32))]))
    obtain ⟨_, _, ⟨T1002, L1002, k1002c, n1002c⟩, -, X1002, ⟨Lc1002, hQ1002, l1002, y1002, z1002⟩, st1002⟩ := Jvm.LawKit.callS X0 hx (y := (⟨"java/lang/Long", "numberOfLeadingZeros", "(J)I"⟩ : MethodName)) hown (mvT hZ (hw _ (List.mem_of_getElem? (i := 16) rfl))) (mvT hZ (hw _ (List.mem_of_getElem? (i := 17) rfl))) (mvT hZ (hw _ (List.mem_of_getElem? (i := 18) rfl))) (mvT hZ (hw _ (List.mem_of_getElem? (i := 19) rfl))) (by decide) (backOf (W := 1) (rmnl l Z a0 hw [] q1 h0 n0 Z0 (own_h32 hq)) hZ (hw _ (List.mem_of_getElem? (i := 19) rfl)) (hw _ (List.mem_of_getElem? (i := 18) rfl)) (by decide) (by decide)) (g := (mkF m 14 #[.val (.long q1), .second, .unset, .unset, .unset] [(.long q1), (.int (63 : Int32))])) rfl (by rw [hml]; rfl) (argsL := [(.long q1)]) (rest := [(.int (63 : Int32))]) (lenOf pd_1 rfl) rfl (by show 2 * 0 + _ ≤ _; exact Nat.le_of_eq rfl) (hb hby d3_14) (fun _ _ => ⟨rfl, e0, (by decide : 0 + 0 ≤ _), (by decide : 0 + 0 ≤ _)⟩)
    dsimp only [Pt.U, Pt.locs, Pt.cells, Pt.slots] at X1002 l1002 y1002 z1002 st1002 hQ1002
    subst l1002 y1002 z1002
    obtain ⟨rfl, N1002q, e1002⟩ := hQ1002
    have N1002 := Fr.app N0 N1002q
    refine OEnds.st st1002 ?_
    clear st1002
    show OEnds p.tables e below G (T1002.setTop (mkF m 17 #[.val (.long q1), .second, .unset, .unset, .unset] [(.int ((32 : Int32) + (own_nlz (q1.toInt32)))), (.int (63 : Int32))]))
    refine OEnds.st (fun _ k => XS.isub X1002.here hx rfl (hb hby d3_17) rfl k) ?_
    show OEnds p.tables e below G (T1002.setTop (mkF m 18 #[.val (.long q1), .second, .unset, .unset, .unset] [(.int ((63 : Int32) - ((32 : Int32) + (own_nlz (q1.toInt32)))))]))
    refine OEnds.st (fun _ k => XS.istoreN X1002.here hx rfl (hb hby d3_18) rfl (l' := #[.val (.long q1), .second, .val (.int ((63 : Int32) - ((32 : Int32) + (own_nlz (q1.toInt32))))), .unset, .unset]) rfl k) ?_
    show OEnds p.tables e below G (T1002.setTop (mkF m 19 #[.val (.long q1), .second, .val (.int ((63 : Int32) - ((32 : Int32) + (own_nlz (q1.toInt32))))), .unset, .unset] []))
    refine OEnds.st (fun _ k => XS.iloadN X1002.here hx rfl (hb hby d3_19) rfl k) ?_
    show OEnds p.tables e below G (T1002.setTop (mkF m 20 #[.val (.long q1), .second, .val (.int ((63 : Int32) - ((32 : Int32) + (own_nlz (q1.toInt32))))), .unset, .unset] [(.int ((63 : Int32) - ((32 : Int32) + (own_nlz (q1.toInt32)))))]))
    obtain ⟨T1003, X1003, e1003, st1003⟩ := getS2 X1002 hx hZ hown (host := "") (Or.inl (hw _ (List.mem_of_getElem? (i := 24) rfl))) Via.refl e1002 Sp (g := (mkF m 20 #[.val (.long q1), .second, .val (.int ((63 : Int32) - ((32 : Int32) + (own_nlz (q1.toInt32))))), .unset, .unset] [(.int ((63 : Int32) - ((32 : Int32) + (own_nlz (q1.toInt32)))))])) rfl (hb hby d3_20)
    refine OEnds.st st1003 ?_
    clear st1003
    show OEnds p.tables e below G (T1003.setTop (mkF m 23 #[.val (.long q1), .second, .val (.int ((63 : Int32) - ((32 : Int32) + (own_nlz (q1.toInt32))))), .unset, .unset] [(.int (7 : Int32)), (.int ((63 : Int32) - ((32 : Int32) + (own_nlz (q1.toInt32)))))]))
    refine OEnds.st (fun _ k => XS.isub X1003.here hx rfl (hb hby d3_23) rfl k) ?_
    show OEnds p.tables e below G (T1003.setTop (mkF m 24 #[.val (.long q1), .second, .val (.int ((63 : Int32) - ((32 : Int32) + (own_nlz (q1.toInt32))))), .unset, .unset] [(.int (((63 : Int32) - ((32 : Int32) + (own_nlz (q1.toInt32)))) - (7 : Int32)))]))
    refine OEnds.st (fun _ k => XS.istoreN X1003.here hx rfl (hb hby d3_24) rfl (l' := #[.val (.long q1), .second, .val (.int ((63 : Int32) - ((32 : Int32) + (own_nlz (q1.toInt32))))), .val (.int (((63 : Int32) - ((32 : Int32) + (own_nlz (q1.toInt32)))) - (7 : Int32))), .unset]) rfl k) ?_
    show OEnds p.tables e below G (T1003.setTop (mkF m 25 #[.val (.long q1), .second, .val (.int ((63 : Int32) - ((32 : Int32) + (own_nlz (q1.toInt32))))), .val (.int (((63 : Int32) - ((32 : Int32) + (own_nlz (q1.toInt32)))) - (7 : Int32))), .unset] []))
    refine OEnds.st (fun _ k => XS.lloadN X1003.here hx rfl (hb hby d3_25) rfl k) ?_
    show OEnds p.tables e below G (T1003.setTop (mkF m 26 #[.val (.long q1), .second, .val (.int ((63 : Int32) - ((32 : Int32) + (own_nlz (q1.toInt32))))), .val (.int (((63 : Int32) - ((32 : Int32) + (own_nlz (q1.toInt32)))) - (7 : Int32))), .unset] [(.long q1)]))
    refine OEnds.st (fun _ k => XS.iloadN X1003.here hx rfl (hb hby d3_26) rfl k) ?_
    show OEnds p.tables e below G (T1003.setTop (mkF m 27 #[.val (.long q1), .second, .val (.int ((63 : Int32) - ((32 : Int32) + (own_nlz (q1.toInt32))))), .val (.int (((63 : Int32) - ((32 : Int32) + (own_nlz (q1.toInt32)))) - (7 : Int32))), .unset] [(.int (((63 : Int32) - ((32 : Int32) + (own_nlz (q1.toInt32)))) - (7 : Int32))), (.long q1)]))
    refine OEnds.st (fun _ k => XS.lshr X1003.here hx rfl (hb hby d3_27) rfl k) ?_
    show OEnds p.tables e below G (T1003.setTop (mkF m 28 #[.val (.long q1), .second, .val (.int ((63 : Int32) - ((32 : Int32) + (own_nlz (q1.toInt32))))), .val (.int (((63 : Int32) - ((32 : Int32) + (own_nlz (q1.toInt32)))) - (7 : Int32))), .unset] [(.long (q1 >>> ((((63 : Int32) - ((32 : Int32) + (own_nlz (q1.toInt32)))) - (7 : Int32)) &&& 0x3f).toInt64))]))
    refine OEnds.st (fun _ k => XS.l2i X1003.here hx rfl (hb hby d3_28) rfl k) ?_
    show OEnds p.tables e below G (T1003.setTop (mkF m 29 #[.val (.long q1), .second, .val (.int ((63 : Int32) - ((32 : Int32) + (own_nlz (q1.toInt32))))), .val (.int (((63 : Int32) - ((32 : Int32) + (own_nlz (q1.toInt32)))) - (7 : Int32))), .unset] [(.int ((q1 >>> ((((63 : Int32) - ((32 : Int32) + (own_nlz (q1.toInt32)))) - (7 : Int32)) &&& 0x3f).toInt64).toInt32))]))
    refine OEnds.st (fun _ k => XS.sipush X1003.here hx rfl (hb hby d3_29) k) ?_
    show OEnds p.tables e below G (T1003.setTop (mkF m 32 #[.val (.long q1), .second, .val (.int ((63 : Int32) - ((32 : Int32) + (own_nlz (q1.toInt32))))), .val (.int (((63 : Int32) - ((32 : Int32) + (own_nlz (q1.toInt32)))) - (7 : Int32))), .unset] [(.int (128 : Int32)), (.int ((q1 >>> ((((63 : Int32) - ((32 : Int32) + (own_nlz (q1.toInt32)))) - (7 : Int32)) &&& 0x3f).toInt64).toInt32))]))
    refine OEnds.st (fun _ k => XS.isub X1003.here hx rfl (hb hby d3_32) rfl k) ?_
    show OEnds p.tables e below G (T1003.setTop (mkF m 33 #[.val (.long q1), .second, .val (.int ((63 : Int32) - ((32 : Int32) + (own_nlz (q1.toInt32))))), .val (.int (((63 : Int32) - ((32 : Int32) + (own_nlz (q1.toInt32)))) - (7 : Int32))), .unset] [(.int (((q1 >>> ((((63 : Int32) - ((32 : Int32) + (own_nlz (q1.toInt32)))) - (7 : Int32)) &&& 0x3f).toInt64).toInt32) - (128 : Int32)))]))
    refine OEnds.st (fun _ k => XS.istore X1003.here hx rfl (hb hby d3_33) rfl (l' := #[.val (.long q1), .second, .val (.int ((63 : Int32) - ((32 : Int32) + (own_nlz (q1.toInt32))))), .val (.int (((63 : Int32) - ((32 : Int32) + (own_nlz (q1.toInt32)))) - (7 : Int32))), .val (.int (((q1 >>> ((((63 : Int32) - ((32 : Int32) + (own_nlz (q1.toInt32)))) - (7 : Int32)) &&& 0x3f).toInt64).toInt32) - (128 : Int32)))]) rfl k) ?_
    show OEnds p.tables e below G (T1003.setTop (mkF m 35 #[.val (.long q1), .second, .val (.int ((63 : Int32) - ((32 : Int32) + (own_nlz (q1.toInt32))))), .val (.int (((63 : Int32) - ((32 : Int32) + (own_nlz (q1.toInt32)))) - (7 : Int32))), .val (.int (((q1 >>> ((((63 : Int32) - ((32 : Int32) + (own_nlz (q1.toInt32)))) - (7 : Int32)) &&& 0x3f).toInt64).toInt32) - (128 : Int32)))] []))
    refine OEnds.st (fun _ k => XS.sipush X1003.here hx rfl (hb hby d3_35) k) ?_
    show OEnds p.tables e below G (T1003.setTop (mkF m 38 #[.val (.long q1), .second, .val (.int ((63 : Int32) - ((32 : Int32) + (own_nlz (q1.toInt32))))), .val (.int (((63 : Int32) - ((32 : Int32) + (own_nlz (q1.toInt32)))) - (7 : Int32))), .val (.int (((q1 >>> ((((63 : Int32) - ((32 : Int32) + (own_nlz (q1.toInt32)))) - (7 : Int32)) &&& 0x3f).toInt64).toInt32) - (128 : Int32)))] [(.int (2048 : Int32))]))
    refine OEnds.st (fun _ k => XS.iloadN X1003.here hx rfl (hb hby d3_38) rfl k) ?_
    show OEnds p.tables e below G (T1003.setTop (mkF m 39 #[.val (.long q1), .second, .val (.int ((63 : Int32) - ((32 : Int32) + (own_nlz (q1.toInt32))))), .val (.int (((63 : Int32) - ((32 : Int32) + (own_nlz (q1.toInt32)))) - (7 : Int32))), .val (.int (((q1 >>> ((((63 : Int32) - ((32 : Int32) + (own_nlz (q1.toInt32)))) - (7 : Int32)) &&& 0x3f).toInt64).toInt32) - (128 : Int32)))] [(.int ((63 : Int32) - ((32 : Int32) + (own_nlz (q1.toInt32))))), (.int (2048 : Int32))]))
    obtain ⟨T1004, X1004, e1004, st1004⟩ := getS2 X1003 hx hZ hown (host := "") (Or.inl (hw _ (List.mem_of_getElem? (i := 26) rfl))) Via.refl e1003 Se (g := (mkF m 39 #[.val (.long q1), .second, .val (.int ((63 : Int32) - ((32 : Int32) + (own_nlz (q1.toInt32))))), .val (.int (((63 : Int32) - ((32 : Int32) + (own_nlz (q1.toInt32)))) - (7 : Int32))), .val (.int (((q1 >>> ((((63 : Int32) - ((32 : Int32) + (own_nlz (q1.toInt32)))) - (7 : Int32)) &&& 0x3f).toInt64).toInt32) - (128 : Int32)))] [(.int ((63 : Int32) - ((32 : Int32) + (own_nlz (q1.toInt32))))), (.int (2048 : Int32))])) rfl (hb hby d3_39)
    refine OEnds.st st1004 ?_
    clear st1004
    show OEnds p.tables e below G (T1004.setTop (mkF m 42 #[.val (.long q1), .second, .val (.int ((63 : Int32) - ((32 : Int32) + (own_nlz (q1.toInt32))))), .val (.int (((63 : Int32) - ((32 : Int32) + (own_nlz (q1.toInt32)))) - (7 : Int32))), .val (.int (((q1 >>> ((((63 : Int32) - ((32 : Int32) + (own_nlz (q1.toInt32)))) - (7 : Int32)) &&& 0x3f).toInt64).toInt32) - (128 : Int32)))] [(.int (11 : Int32)), (.int ((63 : Int32) - ((32 : Int32) + (own_nlz (q1.toInt32))))), (.int (2048 : Int32))]))
    refine OEnds.st (fun _ k => XS.isub X1004.here hx rfl (hb hby d3_42) rfl k) ?_
    show OEnds p.tables e below G (T1004.setTop (mkF m 43 #[.val (.long q1), .second, .val (.int ((63 : Int32) - ((32 : Int32) + (own_nlz (q1.toInt32))))), .val (.int (((63 : Int32) - ((32 : Int32) + (own_nlz (q1.toInt32)))) - (7 : Int32))), .val (.int (((q1 >>> ((((63 : Int32) - ((32 : Int32) + (own_nlz (q1.toInt32)))) - (7 : Int32)) &&& 0x3f).toInt64).toInt32) - (128 : Int32)))] [(.int (((63 : Int32) - ((32 : Int32) + (own_nlz (q1.toInt32)))) - (11 : Int32))), (.int (2048 : Int32))]))
    refine OEnds.st (fun _ k => XS.sipush X1004.here hx rfl (hb hby d3_43) k) ?_
    show OEnds p.tables e below G (T1004.setTop (mkF m 46 #[.val (.long q1), .second, .val (.int ((63 : Int32) - ((32 : Int32) + (own_nlz (q1.toInt32))))), .val (.int (((63 : Int32) - ((32 : Int32) + (own_nlz (q1.toInt32)))) - (7 : Int32))), .val (.int (((q1 >>> ((((63 : Int32) - ((32 : Int32) + (own_nlz (q1.toInt32)))) - (7 : Int32)) &&& 0x3f).toInt64).toInt32) - (128 : Int32)))] [(.int (128 : Int32)), (.int (((63 : Int32) - ((32 : Int32) + (own_nlz (q1.toInt32)))) - (11 : Int32))), (.int (2048 : Int32))]))
    refine OEnds.st (fun _ k => XS.imul X1004.here hx rfl (hb hby d3_46) rfl k) ?_
    show OEnds p.tables e below G (T1004.setTop (mkF m 47 #[.val (.long q1), .second, .val (.int ((63 : Int32) - ((32 : Int32) + (own_nlz (q1.toInt32))))), .val (.int (((63 : Int32) - ((32 : Int32) + (own_nlz (q1.toInt32)))) - (7 : Int32))), .val (.int (((q1 >>> ((((63 : Int32) - ((32 : Int32) + (own_nlz (q1.toInt32)))) - (7 : Int32)) &&& 0x3f).toInt64).toInt32) - (128 : Int32)))] [(.int ((((63 : Int32) - ((32 : Int32) + (own_nlz (q1.toInt32)))) - (11 : Int32)) * (128 : Int32))), (.int (2048 : Int32))]))
    refine OEnds.st (fun _ k => XS.iadd X1004.here hx rfl (hb hby d3_47) rfl k) ?_
    show OEnds p.tables e below G (T1004.setTop (mkF m 48 #[.val (.long q1), .second, .val (.int ((63 : Int32) - ((32 : Int32) + (own_nlz (q1.toInt32))))), .val (.int (((63 : Int32) - ((32 : Int32) + (own_nlz (q1.toInt32)))) - (7 : Int32))), .val (.int (((q1 >>> ((((63 : Int32) - ((32 : Int32) + (own_nlz (q1.toInt32)))) - (7 : Int32)) &&& 0x3f).toInt64).toInt32) - (128 : Int32)))] [(.int ((2048 : Int32) + ((((63 : Int32) - ((32 : Int32) + (own_nlz (q1.toInt32)))) - (11 : Int32)) * (128 : Int32))))]))
    refine OEnds.st (fun _ k => XS.iload X1004.here hx rfl (hb hby d3_48) rfl k) ?_
    show OEnds p.tables e below G (T1004.setTop (mkF m 50 #[.val (.long q1), .second, .val (.int ((63 : Int32) - ((32 : Int32) + (own_nlz (q1.toInt32))))), .val (.int (((63 : Int32) - ((32 : Int32) + (own_nlz (q1.toInt32)))) - (7 : Int32))), .val (.int (((q1 >>> ((((63 : Int32) - ((32 : Int32) + (own_nlz (q1.toInt32)))) - (7 : Int32)) &&& 0x3f).toInt64).toInt32) - (128 : Int32)))] [(.int (((q1 >>> ((((63 : Int32) - ((32 : Int32) + (own_nlz (q1.toInt32)))) - (7 : Int32)) &&& 0x3f).toInt64).toInt32) - (128 : Int32))), (.int ((2048 : Int32) + ((((63 : Int32) - ((32 : Int32) + (own_nlz (q1.toInt32)))) - (11 : Int32)) * (128 : Int32))))]))
    refine OEnds.st (fun _ k => XS.iadd X1004.here hx rfl (hb hby d3_50) rfl k) ?_
    show OEnds p.tables e below G (T1004.setTop (mkF m 51 #[.val (.long q1), .second, .val (.int ((63 : Int32) - ((32 : Int32) + (own_nlz (q1.toInt32))))), .val (.int (((63 : Int32) - ((32 : Int32) + (own_nlz (q1.toInt32)))) - (7 : Int32))), .val (.int (((q1 >>> ((((63 : Int32) - ((32 : Int32) + (own_nlz (q1.toInt32)))) - (7 : Int32)) &&& 0x3f).toInt64).toInt32) - (128 : Int32)))] [(.int (((2048 : Int32) + ((((63 : Int32) - ((32 : Int32) + (own_nlz (q1.toInt32)))) - (11 : Int32)) * (128 : Int32))) + (((q1 >>> ((((63 : Int32) - ((32 : Int32) + (own_nlz (q1.toInt32)))) - (7 : Int32)) &&& 0x3f).toInt64).toInt32) - (128 : Int32))))]))
    rw [← hG]
    refine OEnds.retI X1004 hx hlk Bd.returns (hb hby d3_51) (by decide) (by decide) ?_
    rw [e1004]
    exact ⟨congrArg (fun z => some (Value.int z)) (by unfold own_bk; rw [if_neg hc5_1001]; rfl), N1002, rfl⟩
theorem ef_ini (m : MethodId) (a1 : Addr) : entryFrame m #[(.ref a1)] 1 = mkF m 0 #[.val (.ref a1)] [] := by first | (simp [entryFrame, mkF, argsToLocals, Value.category]; done) | rfl
def Qini (Z : State) (a1 : Addr) (h0 : Heap) (n0 : Nat) (v : Option Value) (h : Heap) (L : List Loc) : Prop := ∃ (b : Addr) (kb : ClassId), v = none ∧ Fr n0 L ∧ Keep h0 h [a1] ∧ h0.size ≤ b ∧ Exa Z h a1 "com/example/marshalyard/marshalyard/proxy/ResponseTimes" ∧ Fld Z h a1 "com/example/marshalyard/marshalyard/proxy/ResponseTimes" "buckets" "[J" (.ref b) ∧ Fld Z h a1 "com/example/marshalyard/marshalyard/proxy/ResponseTimes" "count" "J" (.long (0 : Int64)) ∧ Fld Z h a1 "com/example/marshalyard/marshalyard/proxy/ResponseTimes" "totalNanos" "J" (.long (0 : Int64)) ∧ Arv Z h b kb .long (4736 : Int32) [] (.long (0 : Int64))
theorem d1_0 : decode prog_92_method_1_code 0 = .ok (.aload_n 0, 1) := by decide +kernel
theorem d1_1 : decode prog_92_method_1_code 1 = .ok (.invokespecial 1, 3) := by decide +kernel
theorem d1_4 : decode prog_92_method_1_code 4 = .ok (.aload_n 0, 1) := by decide +kernel
theorem d1_5 : decode prog_92_method_1_code 5 = .ok (.ldc2_w 9, 3) := by decide +kernel
theorem d1_8 : decode prog_92_method_1_code 8 = .ok (.invokestatic 11, 3) := by decide +kernel
theorem d1_11 : decode prog_92_method_1_code 11 = .ok (.iconst 1, 1) := by decide +kernel
theorem d1_12 : decode prog_92_method_1_code 12 = .ok (.iadd, 1) := by decide +kernel
theorem d1_13 : decode prog_92_method_1_code 13 = .ok (.newarray .long, 2) := by decide +kernel
theorem d1_15 : decode prog_92_method_1_code 15 = .ok (.putfield 15, 3) := by decide +kernel
theorem d1_18 : decode prog_92_method_1_code 18 = .ok (.return_, 1) := by decide +kernel
set_option maxRecDepth 65536 in
set_option maxHeartbeats 40000000 in
theorem rmini (l : Launch) (Z : State) (a0 : Array Value) (hw : ∀ d ∈ tables_1, d.before a0 Z = true) (ws : List Jvm.Cond) (a1 : Addr) (h0 : Heap) (n0 : Nat) (Z0 : n0 ≤ h0.size) (Ea1 : Exa Z h0 a1 "com/example/marshalyard/marshalyard/proxy/ResponseTimes") (Fb : Fld Z h0 a1 "com/example/marshalyard/marshalyard/proxy/ResponseTimes" "buckets" "[J" .null) (Fc : Fld Z h0 a1 "com/example/marshalyard/marshalyard/proxy/ResponseTimes" "count" "J" (.long (0 : Int64))) (Ft : Fld Z h0 a1 "com/example/marshalyard/marshalyard/proxy/ResponseTimes" "totalNanos" "J" (.long (0 : Int64))) (Sp : Sta Z h0 "com/example/marshalyard/marshalyard/proxy/ResponseTimes" "SPLIT_BITS" "I" (.int (7 : Int32))) (Se : Sta Z h0 "com/example/marshalyard/marshalyard/proxy/ResponseTimes" "EXACT_BITS" "I" (.int (11 : Int32))) (g_a1 : n0 ≤ a1) :
    MetFree l (⟨"com/example/marshalyard/marshalyard/proxy/ResponseTimes", "<init>", "()V"⟩ : MethodName) (head1 (Jvm.Cond.code (⟨"com/example/marshalyard/marshalyard/proxy/ResponseTimes", "<init>", "()V"⟩ : MethodName) prog_92_method_1_code 1 none :: ws) ({ frames := 3, cells := 1, slots := 4736, locals := 46 } : Room)) (fun a U => a = #[(.ref a1)] ∧ Z.Warmed39 U.vm ∧ U.heap = h0) (fun _ _ _ _ _ => True) (fun _ U o U' => ∃ v L, o = .returned v ∧ Qini Z a1 h0 n0 v U'.heap L ∧ FrameEnd U o U' L ({ frames := 3, cells := 1, slots := 4736, locals := 46 } : Room).cells ({ frames := 3, cells := 1, slots := 4736, locals := 46 } : Room).slots) := by
  refine MetFree.of_bodySF (plainFor_of_name pn_2) hisR ?_
  intro p e s m args below meth c s₁ Bd hml0 hP hK
  obtain ⟨rfl, hZ, hh⟩ := hP
  have hx := Bd.exec
  have hby := Bd.bytes
  have hml : c.maxLocals = 1 := hml0
  have hown : s.vm.findClass "com/example/marshalyard/marshalyard/proxy/ResponseTimes" = some m.cls := findClass_of_methodNamed Bd.named
  have hnm := (name_of_methodNamed Bd.named Bd.method).1
  have hlk : meth.locks = false := BodyLoose.notSynchronized Bd
  have X0 : Stand p l e ({ frames := 3, cells := 1, slots := 4736, locals := 46 } : Room) s m #[(.ref a1)] below meth c s₁ [] 0 0 := Stand.of_body Bd
  have e0 : s₁.heap = h0 := by rw [← hh, Bd.state]; rfl
  have N0 := Fr.nil n0
  show OEnds p.tables e below (OGoal (Qini Z a1 h0 n0) s 1 4736) (s₁.setTop (entryFrame m #[(.ref a1)] 1))
  refine OEnds.st (fun t k => castTop (ef_ini m a1) k) ?_
  generalize hG : OGoal (Qini Z a1 h0 n0) s 1 4736 = G
  have KK0 : Keep h0 h0 [a1] := Keep.refl h0 [a1]
  show OEnds p.tables e below G (s₁.setTop (mkF m 0 #[.val (.ref a1)] []))
  refine OEnds.st (fun _ k => XS.aloadN X0.here hx rfl (hb hby d1_0) rfl rfl k) ?_
  show OEnds p.tables e below G (s₁.setTop (mkF m 1 #[.val (.ref a1)] [(.ref a1)]))
  obtain ⟨T1001, X1001, e1001, st1001⟩ := initO X0 hx hZ hown (hw _ (List.mem_of_getElem? (i := 8) rfl)) (hw _ (List.mem_of_getElem? (i := 9) rfl)) (hw _ (List.mem_of_getElem? (i := 10) rfl)) e0 (g := (mkF m 1 #[.val (.ref a1)] [(.ref a1)])) rfl (by rw [hml]; rfl) rfl (hb hby d1_1) (by decide) (W := 0) (by show 2 * 0 + _ ≤ _; exact Nat.le_of_eq rfl) (by decide)
  refine OEnds.st st1001 ?_
  clear st1001
  show OEnds p.tables e below G (T1001.setTop (mkF m 4 #[.val (.ref a1)] []))
  refine OEnds.st (fun _ k => XS.aloadN X1001.here hx rfl (hb hby d1_4) rfl rfl k) ?_
  show OEnds p.tables e below G (T1001.setTop (mkF m 5 #[.val (.ref a1)] [(.ref a1)]))
  refine OEnds.st (X1001.ldc2Long hx hown (mvT hZ (hw _ (List.mem_of_getElem? (i := 11) rfl))) (g := (mkF m 5 #[.val (.ref a1)] [(.ref a1)])) rfl (hb hby d1_5)) ?_
  show OEnds p.tables e below G (T1001.setTop (mkF m 8 #[.val (.ref a1)] [(.long (4294967295 : Int64)), (.ref a1)]))
  obtain ⟨_, _, ⟨T1002, L1002, k1002c, n1002c⟩, -, X1002, ⟨Lc1002, hQ1002, l1002, y1002, z1002⟩, st1002⟩ := Jvm.LawKit.callS X1001 hx (y := (⟨"com/example/marshalyard/marshalyard/proxy/ResponseTimes", "bucket", "(J)I"⟩ : MethodName)) hown (mvT hZ (hw _ (List.mem_of_getElem? (i := 12) rfl))) (mvT hZ (hw _ (List.mem_of_getElem? (i := 13) rfl))) (mvT hZ (hw _ (List.mem_of_getElem? (i := 4) rfl))) (mvT hZ (hw _ (List.mem_of_getElem? (i := 14) rfl))) (by decide) (backOf (W := 1) (rmbk l Z a0 hw [] (4294967295 : Int64) h0 n0 Z0 Sp Se (by decide)) hZ (hw _ (List.mem_of_getElem? (i := 14) rfl)) (hw _ (List.mem_of_getElem? (i := 4) rfl)) (by decide) (by decide)) (g := (mkF m 8 #[.val (.ref a1)] [(.long (4294967295 : Int64)), (.ref a1)])) rfl (by rw [hml]; rfl) (argsL := [(.long (4294967295 : Int64))]) (rest := [(.ref a1)]) (lenOf pd_1 rfl) rfl (by show 2 * 0 + _ ≤ _; exact Nat.le_of_eq rfl) (hb hby d1_8) (fun _ _ => ⟨rfl, e1001, (by decide : 0 + 0 ≤ _), (by decide : 0 + 0 ≤ _)⟩)
  dsimp only [Pt.U, Pt.locs, Pt.cells, Pt.slots] at X1002 l1002 y1002 z1002 st1002 hQ1002
  subst l1002 y1002 z1002
  obtain ⟨rfl, N1002q, e1002⟩ := hQ1002
  have N1002 := Fr.app N0 N1002q
  refine OEnds.st st1002 ?_
  clear st1002
  show OEnds p.tables e below G (T1002.setTop (mkF m 11 #[.val (.ref a1)] [(.int (own_bk (4294967295 : Int64))), (.ref a1)]))
  refine OEnds.st (fun _ k => XS.iconst X1002.here hx rfl (hb hby d1_11) k) ?_
  show OEnds p.tables e below G (T1002.setTop (mkF m 12 #[.val (.ref a1)] [(.int (1 : Int32)), (.int (own_bk (4294967295 : Int64))), (.ref a1)]))
  refine OEnds.st (fun _ k => XS.iadd X1002.here hx rfl (hb hby d1_12) rfl k) ?_
  show OEnds p.tables e below G (T1002.setTop (mkF m 13 #[.val (.ref a1)] [(.int ((own_bk (4294967295 : Int64)) + (1 : Int32))), (.ref a1)]))
  rw [show ((own_bk (4294967295 : Int64)) + (1 : Int32)) = (4736 : Int32) from by decide +kernel]
  show OEnds p.tables e below G (T1002.setTop (mkF m 13 #[.val (.ref a1)] [(.int (4736 : Int32)), (.ref a1)]))
  obtain ⟨T1003, h1003, k1003, X1003, e1003, E1003, A1003, st1003⟩ := newP X1002 hx hZ (hw _ (List.mem_of_getElem? (i := 28) rfl)) e1002 (g := (mkF m 13 #[.val (.ref a1)] [(.int (4736 : Int32)), (.ref a1)])) rfl (hb hby d1_13) rfl (by decide) (cap := 4736) (by decide) (by decide) (by decide) (by decide)
  obtain ⟨b1003, g1003⟩ : ∃ z, z = h0.size := ⟨_, rfl⟩
  rw [← g1003] at A1003 st1003
  refine OEnds.st st1003 ?_
  clear st1003
  have ne1004 : a1 ≠ b1003 := Nat.ne_of_lt (Nat.lt_of_lt_of_le (Ea1).lt (Nat.le_of_eq g1003.symm))
  have ge_b1003 : n0 ≤ b1003 := Nat.le_trans Z0 (Nat.le_of_eq g1003.symm)
  have sz_b1003 : h0.size ≤ b1003 := Nat.le_trans KK0.1 (Nat.le_of_eq g1003.symm)
  have f1005 : Exa Z h1003 a1 "com/example/marshalyard/marshalyard/proxy/ResponseTimes" := Ea1.ext E1003
  have f1006 : Fld Z h1003 a1 "com/example/marshalyard/marshalyard/proxy/ResponseTimes" "buckets" "[J" .null := Fb.ext E1003
  have f1007 : Fld Z h1003 a1 "com/example/marshalyard/marshalyard/proxy/ResponseTimes" "count" "J" (.long (0 : Int64)) := Fc.ext E1003
  have f1008 : Fld Z h1003 a1 "com/example/marshalyard/marshalyard/proxy/ResponseTimes" "totalNanos" "J" (.long (0 : Int64)) := Ft.ext E1003
  have f1009 : Sta Z h1003 "com/example/marshalyard/marshalyard/proxy/ResponseTimes" "SPLIT_BITS" "I" (.int (7 : Int32)) := Sp.ext E1003
  have f1010 : Sta Z h1003 "com/example/marshalyard/marshalyard/proxy/ResponseTimes" "EXACT_BITS" "I" (.int (11 : Int32)) := Se.ext E1003
  have KK1003 : Keep h0 h1003 [a1] := KK0.ext E1003
  have Z1003 := Nat.le_trans Z0 E1003.1
  have f1011 : Arv Z h1003 b1003 k1003 .long (4736 : Int32) [] (.long (0 : Int64)) := Arv.new A1003 (by decide)
  show OEnds p.tables e below G (T1003.setTop (mkF m 15 #[.val (.ref a1)] [(.ref b1003), (.ref a1)]))
  obtain ⟨T1012, h1012, X1012, e1012, W1012, st1012⟩ := putF X1003 hx hZ hown (host := "") (Or.inl (hw _ (List.mem_of_getElem? (i := 29) rfl))) Via.refl e1003 f1006 f1005 (Or.inr ⟨(hw _ (List.mem_of_getElem? (i := 30) rfl)), rfl, hnm⟩) (hw _ (List.mem_of_getElem? (i := 3) rfl)) (ty := (.array .long)) (by decide) rfl rfl (g := (mkF m 15 #[.val (.ref a1)] [(.ref b1003), (.ref a1)])) rfl rfl (hb hby d1_15)
  refine OEnds.st st1012 ?_
  clear st1012
  have f1013 : Fld Z h1012 a1 "com/example/marshalyard/marshalyard/proxy/ResponseTimes" "buckets" "[J" (.ref b1003) := f1006.same W1012
  have f1014 : Exa Z h1012 a1 "com/example/marshalyard/marshalyard/proxy/ResponseTimes" := f1005.wr W1012
  have f1016 : Fld Z h1012 a1 "com/example/marshalyard/marshalyard/proxy/ResponseTimes" "count" "J" (.long (0 : Int64)) := f1007.other W1012 (Or.inr (slot_ne (Or.inl (hw _ (List.mem_of_getElem? (i := 42) rfl))) (Or.inr (hw _ (List.mem_of_getElem? (i := 30) rfl))) (by decide) (t := .long) (t' := (.array .long)) (by decide) (by decide)))
  have f1017 : Fld Z h1012 a1 "com/example/marshalyard/marshalyard/proxy/ResponseTimes" "totalNanos" "J" (.long (0 : Int64)) := f1008.other W1012 (Or.inr (slot_ne (Or.inl (hw _ (List.mem_of_getElem? (i := 44) rfl))) (Or.inr (hw _ (List.mem_of_getElem? (i := 30) rfl))) (by decide) (t := .long) (t' := (.array .long)) (by decide) (by decide)))
  have f1018 : Sta Z h1012 "com/example/marshalyard/marshalyard/proxy/ResponseTimes" "SPLIT_BITS" "I" (.int (7 : Int32)) := f1009.wr W1012
  have f1019 : Sta Z h1012 "com/example/marshalyard/marshalyard/proxy/ResponseTimes" "EXACT_BITS" "I" (.int (11 : Int32)) := f1010.wr W1012
  have f1020 : Arv Z h1012 b1003 k1003 .long (4736 : Int32) [] (.long (0 : Int64)) := f1011.other W1012 (Ne.symm ne1004)
  have N1012 := Fr.snoc X1012 N1002 g_a1
  have KK1012 : Keep h0 h1012 [a1] := KK1003.wr W1012 (Or.inl (List.mem_of_getElem? (i := 0) rfl))
  have Z1012 := Nat.le_trans Z1003 (Keep.of_wr W1012).1
  show OEnds p.tables e below G (T1012.setTop (mkF m 18 #[.val (.ref a1)] []))
  rw [← hG]
  refine OEnds.retV X1012 hx hlk Bd.returns (hb hby d1_18) (by decide) (by decide) ?_
  rw [e1012]
  exact ⟨b1003, k1003, rfl, N1012, KK1012, sz_b1003, f1014, f1013, f1016, f1017, f1020⟩
theorem ef_add (m : MethodId) (a1 : Addr) (q2 : Int64) : entryFrame m #[(.ref a1), (.long q2)] 5 = mkF m 0 #[.val (.ref a1), .val (.long q2), .second, .unset, .unset] [] := by first | (simp [entryFrame, mkF, argsToLocals, Value.category]; done) | rfl
def Qadd (Z : State) (a1 : Addr) (q2 : Int64) (a3 : Addr) (k : ClassId) (n : Int64) (sm : Int64) (vs : List Value) (h0 : Heap) (n0 : Nat) (v : Option Value) (h : Heap) (L : List Loc) : Prop := ∃ (ws : List Value), v = none ∧ Fr n0 L ∧ Keep h0 h [a1, a3] ∧ Exa Z h a1 "com/example/marshalyard/marshalyard/proxy/ResponseTimes" ∧ Fld Z h a1 "com/example/marshalyard/marshalyard/proxy/ResponseTimes" "buckets" "[J" (.ref a3) ∧ Fld Z h a1 "com/example/marshalyard/marshalyard/proxy/ResponseTimes" "count" "J" (.long (n + (1 : Int64))) ∧ Fld Z h a1 "com/example/marshalyard/marshalyard/proxy/ResponseTimes" "totalNanos" "J" (.long (sm + q2)) ∧ Arv Z h a3 k .long (4736 : Int32) ws (.long (0 : Int64))
theorem pd_2 : parseMethodDescriptor "(JJ)J" = some ⟨[.long, .long], some .long⟩ := by decide +kernel
theorem d6_0 : decode prog_92_method_2_code 0 = .ok (.ldc2_w 9, 3) := by decide +kernel
theorem d6_3 : decode prog_92_method_2_code 3 = .ok (.lload_n 1, 1) := by decide +kernel
theorem d6_4 : decode prog_92_method_2_code 4 = .ok (.ldc2_w 19, 3) := by decide +kernel
theorem d6_7 : decode prog_92_method_2_code 7 = .ok (.ladd, 1) := by decide +kernel
theorem d6_8 : decode prog_92_method_2_code 8 = .ok (.lconst 1, 1) := by decide +kernel
theorem d6_9 : decode prog_92_method_2_code 9 = .ok (.lsub, 1) := by decide +kernel
theorem d6_10 : decode prog_92_method_2_code 10 = .ok (.ldc2_w 19, 3) := by decide +kernel
theorem d6_13 : decode prog_92_method_2_code 13 = .ok (.ldiv, 1) := by decide +kernel
theorem d6_14 : decode prog_92_method_2_code 14 = .ok (.invokestatic 21, 3) := by decide +kernel
theorem d6_17 : decode prog_92_method_2_code 17 = .ok (.lstore_n 3, 1) := by decide +kernel
theorem d6_18 : decode prog_92_method_2_code 18 = .ok (.aload_n 0, 1) := by decide +kernel
theorem d6_19 : decode prog_92_method_2_code 19 = .ok (.getfield 15, 3) := by decide +kernel
theorem d6_22 : decode prog_92_method_2_code 22 = .ok (.lload_n 3, 1) := by decide +kernel
theorem d6_23 : decode prog_92_method_2_code 23 = .ok (.invokestatic 11, 3) := by decide +kernel
theorem d6_26 : decode prog_92_method_2_code 26 = .ok (.dup2, 1) := by decide +kernel
theorem d6_27 : decode prog_92_method_2_code 27 = .ok (.laload, 1) := by decide +kernel
theorem d6_28 : decode prog_92_method_2_code 28 = .ok (.lconst 1, 1) := by decide +kernel
theorem d6_29 : decode prog_92_method_2_code 29 = .ok (.ladd, 1) := by decide +kernel
theorem d6_30 : decode prog_92_method_2_code 30 = .ok (.lastore, 1) := by decide +kernel
theorem d6_31 : decode prog_92_method_2_code 31 = .ok (.aload_n 0, 1) := by decide +kernel
theorem d6_32 : decode prog_92_method_2_code 32 = .ok (.dup, 1) := by decide +kernel
theorem d6_33 : decode prog_92_method_2_code 33 = .ok (.getfield 27, 3) := by decide +kernel
theorem d6_36 : decode prog_92_method_2_code 36 = .ok (.lconst 1, 1) := by decide +kernel
theorem d6_37 : decode prog_92_method_2_code 37 = .ok (.ladd, 1) := by decide +kernel
theorem d6_38 : decode prog_92_method_2_code 38 = .ok (.putfield 27, 3) := by decide +kernel
theorem d6_41 : decode prog_92_method_2_code 41 = .ok (.aload_n 0, 1) := by decide +kernel
theorem d6_42 : decode prog_92_method_2_code 42 = .ok (.dup, 1) := by decide +kernel
theorem d6_43 : decode prog_92_method_2_code 43 = .ok (.getfield 31, 3) := by decide +kernel
theorem d6_46 : decode prog_92_method_2_code 46 = .ok (.lload_n 1, 1) := by decide +kernel
theorem d6_47 : decode prog_92_method_2_code 47 = .ok (.ladd, 1) := by decide +kernel
theorem d6_48 : decode prog_92_method_2_code 48 = .ok (.putfield 31, 3) := by decide +kernel
theorem d6_51 : decode prog_92_method_2_code 51 = .ok (.return_, 1) := by decide +kernel
set_option maxRecDepth 65536 in
set_option maxHeartbeats 40000000 in
theorem rmadd (l : Launch) (Z : State) (a0 : Array Value) (hw : ∀ d ∈ tables_1, d.before a0 Z = true) (ws : List Jvm.Cond) (a1 : Addr) (q2 : Int64) (a3 : Addr) (k : ClassId) (n : Int64) (sm : Int64) (vs : List Value) (h0 : Heap) (n0 : Nat) (Z0 : n0 ≤ h0.size) (Ea1 : Exa Z h0 a1 "com/example/marshalyard/marshalyard/proxy/ResponseTimes") (Fb : Fld Z h0 a1 "com/example/marshalyard/marshalyard/proxy/ResponseTimes" "buckets" "[J" (.ref a3)) (Fc : Fld Z h0 a1 "com/example/marshalyard/marshalyard/proxy/ResponseTimes" "count" "J" (.long n)) (Ft : Fld Z h0 a1 "com/example/marshalyard/marshalyard/proxy/ResponseTimes" "totalNanos" "J" (.long sm)) (V : Arv Z h0 a3 k .long (4736 : Int32) vs (.long (0 : Int64))) (Sp : Sta Z h0 "com/example/marshalyard/marshalyard/proxy/ResponseTimes" "SPLIT_BITS" "I" (.int (7 : Int32))) (Se : Sta Z h0 "com/example/marshalyard/marshalyard/proxy/ResponseTimes" "EXACT_BITS" "I" (.int (11 : Int32))) (g_a1 : n0 ≤ a1) (g_a3 : n0 ≤ a3) (n13 : a1 ≠ a3) (hq : 0 ≤ q2.toInt ∧ q2.toInt < 2305843009213693952) :
    MetFree l (⟨"com/example/marshalyard/marshalyard/proxy/ResponseTimes", "add", "(J)V"⟩ : MethodName) (head1 (Jvm.Cond.code (⟨"com/example/marshalyard/marshalyard/proxy/ResponseTimes", "add", "(J)V"⟩ : MethodName) prog_92_method_2_code 5 none :: ws) ({ frames := 3, cells := 0, slots := 0, locals := 46 } : Room)) (fun a U => a = #[(.ref a1), (.long q2)] ∧ Z.Warmed39 U.vm ∧ U.heap = h0) (fun _ _ _ _ _ => True) (fun _ U o U' => ∃ v L, o = .returned v ∧ Qadd Z a1 q2 a3 k n sm vs h0 n0 v U'.heap L ∧ FrameEnd U o U' L ({ frames := 3, cells := 0, slots := 0, locals := 46 } : Room).cells ({ frames := 3, cells := 0, slots := 0, locals := 46 } : Room).slots) := by
  refine MetFree.of_bodySF (plainFor_of_name pn_2) hisR ?_
  intro p e s m args below meth c s₁ Bd hml0 hP hK
  obtain ⟨rfl, hZ, hh⟩ := hP
  have hx := Bd.exec
  have hby := Bd.bytes
  have hml : c.maxLocals = 5 := hml0
  have hown : s.vm.findClass "com/example/marshalyard/marshalyard/proxy/ResponseTimes" = some m.cls := findClass_of_methodNamed Bd.named
  have hnm := (name_of_methodNamed Bd.named Bd.method).1
  have hlk : meth.locks = false := BodyLoose.notSynchronized Bd
  have X0 : Stand p l e ({ frames := 3, cells := 0, slots := 0, locals := 46 } : Room) s m #[(.ref a1), (.long q2)] below meth c s₁ [] 0 0 := Stand.of_body Bd
  have e0 : s₁.heap = h0 := by rw [← hh, Bd.state]; rfl
  have N0 := Fr.nil n0
  show OEnds p.tables e below (OGoal (Qadd Z a1 q2 a3 k n sm vs h0 n0) s 0 0) (s₁.setTop (entryFrame m #[(.ref a1), (.long q2)] 5))
  refine OEnds.st (fun t k => castTop (ef_add m a1 q2) k) ?_
  generalize hG : OGoal (Qadd Z a1 q2 a3 k n sm vs h0 n0) s 0 0 = G
  have KK0 : Keep h0 h0 [a1, a3] := Keep.refl h0 [a1, a3]
  show OEnds p.tables e below G (s₁.setTop (mkF m 0 #[.val (.ref a1), .val (.long q2), .second, .unset, .unset] []))
  refine OEnds.st (X0.ldc2Long hx hown (mvT hZ (hw _ (List.mem_of_getElem? (i := 11) rfl))) (g := (mkF m 0 #[.val (.ref a1), .val (.long q2), .second, .unset, .unset] [])) rfl (hb hby d6_0)) ?_
  show OEnds p.tables e below G (s₁.setTop (mkF m 3 #[.val (.ref a1), .val (.long q2), .second, .unset, .unset] [(.long (4294967295 : Int64))]))
  refine OEnds.st (fun _ k => XS.lloadN X0.here hx rfl (hb hby d6_3) rfl k) ?_
  show OEnds p.tables e below G (s₁.setTop (mkF m 4 #[.val (.ref a1), .val (.long q2), .second, .unset, .unset] [(.long q2), (.long (4294967295 : Int64))]))
  refine OEnds.st (X0.ldc2Long hx hown (mvT hZ (hw _ (List.mem_of_getElem? (i := 36) rfl))) (g := (mkF m 4 #[.val (.ref a1), .val (.long q2), .second, .unset, .unset] [(.long q2), (.long (4294967295 : Int64))])) rfl (hb hby d6_4)) ?_
  show OEnds p.tables e below G (s₁.setTop (mkF m 7 #[.val (.ref a1), .val (.long q2), .second, .unset, .unset] [(.long (1000000 : Int64)), (.long q2), (.long (4294967295 : Int64))]))
  refine OEnds.st (fun _ k => XS.ladd X0.here hx rfl (hb hby d6_7) rfl k) ?_
  show OEnds p.tables e below G (s₁.setTop (mkF m 8 #[.val (.ref a1), .val (.long q2), .second, .unset, .unset] [(.long (q2 + (1000000 : Int64))), (.long (4294967295 : Int64))]))
  refine OEnds.st (fun _ k => XS.lconst X0.here hx rfl (hb hby d6_8) k) ?_
  show OEnds p.tables e below G (s₁.setTop (mkF m 9 #[.val (.ref a1), .val (.long q2), .second, .unset, .unset] [(.long (1 : Int64)), (.long (q2 + (1000000 : Int64))), (.long (4294967295 : Int64))]))
  refine OEnds.st (fun _ k => XS.lsub X0.here hx rfl (hb hby d6_9) rfl k) ?_
  show OEnds p.tables e below G (s₁.setTop (mkF m 10 #[.val (.ref a1), .val (.long q2), .second, .unset, .unset] [(.long ((q2 + (1000000 : Int64)) - (1 : Int64))), (.long (4294967295 : Int64))]))
  refine OEnds.st (X0.ldc2Long hx hown (mvT hZ (hw _ (List.mem_of_getElem? (i := 36) rfl))) (g := (mkF m 10 #[.val (.ref a1), .val (.long q2), .second, .unset, .unset] [(.long ((q2 + (1000000 : Int64)) - (1 : Int64))), (.long (4294967295 : Int64))])) rfl (hb hby d6_10)) ?_
  show OEnds p.tables e below G (s₁.setTop (mkF m 13 #[.val (.ref a1), .val (.long q2), .second, .unset, .unset] [(.long (1000000 : Int64)), (.long ((q2 + (1000000 : Int64)) - (1 : Int64))), (.long (4294967295 : Int64))]))
  refine OEnds.st (fun _ k => XS.ldiv X0.here hx rfl (hb hby d6_13) rfl (by decide) k) ?_
  show OEnds p.tables e below G (s₁.setTop (mkF m 14 #[.val (.ref a1), .val (.long q2), .second, .unset, .unset] [(.long (((q2 + (1000000 : Int64)) - (1 : Int64)) / (1000000 : Int64))), (.long (4294967295 : Int64))]))
  obtain ⟨_, _, ⟨T1001, L1001, k1001c, n1001c⟩, -, X1001, ⟨Lc1001, hQ1001, l1001, y1001, z1001⟩, st1001⟩ := Jvm.LawKit.callS X0 hx (y := (⟨"java/lang/Math", "min", "(JJ)J"⟩ : MethodName)) hown (mvT hZ (hw _ (List.mem_of_getElem? (i := 37) rfl))) (mvT hZ (hw _ (List.mem_of_getElem? (i := 38) rfl))) (mvT hZ (hw _ (List.mem_of_getElem? (i := 39) rfl))) (mvT hZ (hw _ (List.mem_of_getElem? (i := 40) rfl))) (by decide) (backOf (W := 0) (rm7 l Z a0 hw [] (4294967295 : Int64) (((q2 + (1000000 : Int64)) - (1 : Int64)) / (1000000 : Int64)) h0 n0 Z0 ) hZ (hw _ (List.mem_of_getElem? (i := 40) rfl)) (hw _ (List.mem_of_getElem? (i := 39) rfl)) (by decide) (by decide)) (g := (mkF m 14 #[.val (.ref a1), .val (.long q2), .second, .unset, .unset] [(.long (((q2 + (1000000 : Int64)) - (1 : Int64)) / (1000000 : Int64))), (.long (4294967295 : Int64))])) rfl (by rw [hml]; rfl) (argsL := [(.long (4294967295 : Int64)), (.long (((q2 + (1000000 : Int64)) - (1 : Int64)) / (1000000 : Int64)))]) (rest := []) (lenOf pd_2 rfl) rfl (by show 2 * 0 + _ ≤ _; exact Nat.le_of_eq rfl) (hb hby d6_14) (fun _ _ => ⟨rfl, e0, (by decide : 0 + 0 ≤ _), (by decide : 0 + 0 ≤ _)⟩)
  dsimp only [Pt.U, Pt.locs, Pt.cells, Pt.slots] at X1001 l1001 y1001 z1001 st1001 hQ1001
  subst l1001 y1001 z1001
  obtain ⟨rfl, N1001q, e1001⟩ := hQ1001
  have N1001 := Fr.app N0 N1001q
  refine OEnds.st st1001 ?_
  clear st1001
  show OEnds p.tables e below G (T1001.setTop (mkF m 17 #[.val (.ref a1), .val (.long q2), .second, .unset, .unset] [(.long (own_mn (4294967295 : Int64) (((q2 + (1000000 : Int64)) - (1 : Int64)) / (1000000 : Int64))))]))
  refine OEnds.st (fun _ k => XS.lstoreN X1001.here hx rfl (hb hby d6_17) rfl (l' := #[.val (.ref a1), .val (.long q2), .second, .val (.long (own_mn (4294967295 : Int64) (((q2 + (1000000 : Int64)) - (1 : Int64)) / (1000000 : Int64)))), .second]) rfl k) ?_
  show OEnds p.tables e below G (T1001.setTop (mkF m 18 #[.val (.ref a1), .val (.long q2), .second, .val (.long (own_mn (4294967295 : Int64) (((q2 + (1000000 : Int64)) - (1 : Int64)) / (1000000 : Int64)))), .second] []))
  generalize hv_v1002 : (own_mn (4294967295 : Int64) (((q2 + (1000000 : Int64)) - (1 : Int64)) / (1000000 : Int64))) = v1002
  have hm := own_ms hq hv_v1002
  show OEnds p.tables e below G (T1001.setTop (mkF m 18 #[.val (.ref a1), .val (.long q2), .second, .val (.long v1002), .second] []))
  refine OEnds.st (fun _ k => XS.aloadN X1001.here hx rfl (hb hby d6_18) rfl rfl k) ?_
  show OEnds p.tables e below G (T1001.setTop (mkF m 19 #[.val (.ref a1), .val (.long q2), .second, .val (.long v1002), .second] [(.ref a1)]))
  obtain ⟨T1003, X1003, e1003, st1003⟩ := getF X1001 hx hZ hown (host := "") (Or.inl (hw _ (List.mem_of_getElem? (i := 29) rfl))) Via.refl e1001 Fb (g := (mkF m 19 #[.val (.ref a1), .val (.long q2), .second, .val (.long v1002), .second] [(.ref a1)])) rfl rfl (hb hby d6_19)
  refine OEnds.st st1003 ?_
  clear st1003
  show OEnds p.tables e below G (T1003.setTop (mkF m 22 #[.val (.ref a1), .val (.long q2), .second, .val (.long v1002), .second] [(.ref a3)]))
  refine OEnds.st (fun _ k => XS.lloadN X1003.here hx rfl (hb hby d6_22) rfl k) ?_
  show OEnds p.tables e below G (T1003.setTop (mkF m 23 #[.val (.ref a1), .val (.long q2), .second, .val (.long v1002), .second] [(.long v1002), (.ref a3)]))
  obtain ⟨_, _, ⟨T1004, L1004, k1004c, n1004c⟩, -, X1004, ⟨Lc1004, hQ1004, l1004, y1004, z1004⟩, st1004⟩ := Jvm.LawKit.callS X1003 hx (y := (⟨"com/example/marshalyard/marshalyard/proxy/ResponseTimes", "bucket", "(J)I"⟩ : MethodName)) hown (mvT hZ (hw _ (List.mem_of_getElem? (i := 12) rfl))) (mvT hZ (hw _ (List.mem_of_getElem? (i := 13) rfl))) (mvT hZ (hw _ (List.mem_of_getElem? (i := 4) rfl))) (mvT hZ (hw _ (List.mem_of_getElem? (i := 14) rfl))) (by decide) (backOf (W := 1) (rmbk l Z a0 hw [] v1002 h0 n0 Z0 Sp Se hm) hZ (hw _ (List.mem_of_getElem? (i := 14) rfl)) (hw _ (List.mem_of_getElem? (i := 4) rfl)) (by decide) (by decide)) (g := (mkF m 23 #[.val (.ref a1), .val (.long q2), .second, .val (.long v1002), .second] [(.long v1002), (.ref a3)])) rfl (by rw [hml]; rfl) (argsL := [(.long v1002)]) (rest := [(.ref a3)]) (lenOf pd_1 rfl) rfl (by show 2 * 0 + _ ≤ _; exact Nat.le_of_eq rfl) (hb hby d6_23) (fun _ _ => ⟨rfl, e1003, (by decide : 0 + 0 + 0 ≤ _), (by decide : 0 + 0 + 0 ≤ _)⟩)
  dsimp only [Pt.U, Pt.locs, Pt.cells, Pt.slots] at X1004 l1004 y1004 z1004 st1004 hQ1004
  subst l1004 y1004 z1004
  obtain ⟨rfl, N1004q, e1004⟩ := hQ1004
  have N1004 := Fr.app N1001 N1004q
  refine OEnds.st st1004 ?_
  clear st1004
  show OEnds p.tables e below G (T1004.setTop (mkF m 26 #[.val (.ref a1), .val (.long q2), .second, .val (.long v1002), .second] [(.int (own_bk v1002)), (.ref a3)]))
  refine OEnds.st (B := T1004.setTop (mkF m 27 #[.val (.ref a1), .val (.long q2), .second, .val (.long v1002), .second] [(.int (own_bk v1002)), (.ref a3), (.int (own_bk v1002)), (.ref a3)])) (fun _ k => ?_) ?_
  · jvm_step X1004.here [X1004.here.top, hx, (hb hby d6_26), Value.category]
    exact k
  show OEnds p.tables e below G (T1004.setTop (mkF m 27 #[.val (.ref a1), .val (.long q2), .second, .val (.long v1002), .second] [(.int (own_bk v1002)), (.ref a3), (.int (own_bk v1002)), (.ref a3)]))
  obtain ⟨cl1005, Ar1005, q1005, S1005, N1005n, H1005, G1005⟩ := id V
  have hj1005 : ¬ ((own_bk v1002) < 0 ∨ cl1005.slots.size ≤ ((own_bk v1002)).toNatClampNeg) := inb_of S1005 (own_bk_lt hm)
  obtain ⟨xl1005, hxl1005⟩ := own_lg (G1005 _ (Nat.lt_of_not_le fun y => hj1005 (Or.inr y)))
  have hin1005 : ¬ ((own_bk v1002) < 0 ∨ cl1005.slots.size ≤ ((own_bk v1002)).toNatClampNeg) := hj1005
  have hat1005 : cl1005.slots[((own_bk v1002)).toNatClampNeg]? = some (.long xl1005) := H1005.at hin1005 hxl1005
  refine OEnds.st (X1004.laload hx (j := (own_bk v1002)) (v := (.long xl1005)) (by rw [e1004]; exact Ar1005.1) (State.isArrayOf_alike hZ.alike Ar1005.2.1) Ar1005.2.2 hin1005 hat1005 (g := (mkF m 27 #[.val (.ref a1), .val (.long q2), .second, .val (.long v1002), .second] [(.int (own_bk v1002)), (.ref a3), (.int (own_bk v1002)), (.ref a3)])) rfl rfl (hb hby d6_27)) ?_
  show OEnds p.tables e below G (T1004.setTop (mkF m 28 #[.val (.ref a1), .val (.long q2), .second, .val (.long v1002), .second] [(.long xl1005), (.int (own_bk v1002)), (.ref a3)]))
  refine OEnds.st (fun _ k => XS.lconst X1004.here hx rfl (hb hby d6_28) k) ?_
  show OEnds p.tables e below G (T1004.setTop (mkF m 29 #[.val (.ref a1), .val (.long q2), .second, .val (.long v1002), .second] [(.long (1 : Int64)), (.long xl1005), (.int (own_bk v1002)), (.ref a3)]))
  refine OEnds.st (fun _ k => XS.ladd X1004.here hx rfl (hb hby d6_29) rfl k) ?_
  show OEnds p.tables e below G (T1004.setTop (mkF m 30 #[.val (.ref a1), .val (.long q2), .second, .val (.long v1002), .second] [(.long (xl1005 + (1 : Int64))), (.int (own_bk v1002)), (.ref a3)]))
  obtain ⟨cl1006, Ar1006, q1006, S1006, N1006n, H1006, G1006⟩ := id V
  have hin1006 : ¬ ((own_bk v1002) < 0 ∨ cl1006.slots.size ≤ ((own_bk v1002)).toNatClampNeg) := inb_of S1006 (own_bk_lt hm)
  obtain ⟨T1006, h1006, X1006, e1006, W1006, st1006⟩ := stJ X1004 hx hZ e1004 Ar1006 (j := (own_bk v1002)) hin1006 (g := (mkF m 30 #[.val (.ref a1), .val (.long q2), .second, .val (.long v1002), .second] [(.long (xl1005 + (1 : Int64))), (.int (own_bk v1002)), (.ref a3)])) rfl rfl (hb hby d6_30)
  refine OEnds.st st1006 ?_
  clear st1006
  obtain ⟨vs1006, Av1006⟩ := own_setJ Ar1006 q1006 S1006 N1006n H1006 G1006 W1006
  have f1007 : Arv Z h1006 a3 k .long (4736 : Int32) vs1006 (.long (0 : Int64)) := Av1006
  have f1008 : Exa Z h1006 a1 "com/example/marshalyard/marshalyard/proxy/ResponseTimes" := Ea1.wr W1006
  have f1009 : Fld Z h1006 a1 "com/example/marshalyard/marshalyard/proxy/ResponseTimes" "buckets" "[J" (.ref a3) := Fb.other W1006 (Or.inl n13)
  have f1010 : Fld Z h1006 a1 "com/example/marshalyard/marshalyard/proxy/ResponseTimes" "count" "J" (.long n) := Fc.other W1006 (Or.inl n13)
  have f1011 : Fld Z h1006 a1 "com/example/marshalyard/marshalyard/proxy/ResponseTimes" "totalNanos" "J" (.long sm) := Ft.other W1006 (Or.inl n13)
  have f1012 : Sta Z h1006 "com/example/marshalyard/marshalyard/proxy/ResponseTimes" "SPLIT_BITS" "I" (.int (7 : Int32)) := Sp.wr W1006
  have f1013 : Sta Z h1006 "com/example/marshalyard/marshalyard/proxy/ResponseTimes" "EXACT_BITS" "I" (.int (11 : Int32)) := Se.wr W1006
  have N1006 := Fr.snoc X1006 N1004 g_a3
  have KK1006 : Keep h0 h1006 [a1, a3] := KK0.wr W1006 (Or.inl (List.mem_of_getElem? (i := 1) rfl))
  have Z1006 := Nat.le_trans Z0 (Keep.of_wr W1006).1
  show OEnds p.tables e below G (T1006.setTop (mkF m 31 #[.val (.ref a1), .val (.long q2), .second, .val (.long v1002), .second] []))
  refine OEnds.st (fun _ k => XS.aloadN X1006.here hx rfl (hb hby d6_31) rfl rfl k) ?_
  show OEnds p.tables e below G (T1006.setTop (mkF m 32 #[.val (.ref a1), .val (.long q2), .second, .val (.long v1002), .second] [(.ref a1)]))
  refine OEnds.st (fun _ k => XS.dup X1006.here hx rfl (hb hby d6_32) rfl rfl k) ?_
  show OEnds p.tables e below G (T1006.setTop (mkF m 33 #[.val (.ref a1), .val (.long q2), .second, .val (.long v1002), .second] [(.ref a1), (.ref a1)]))
  obtain ⟨T1014, X1014, e1014, st1014⟩ := getF X1006 hx hZ hown (host := "") (Or.inl (hw _ (List.mem_of_getElem? (i := 41) rfl))) Via.refl e1006 f1010 (g := (mkF m 33 #[.val (.ref a1), .val (.long q2), .second, .val (.long v1002), .second] [(.ref a1), (.ref a1)])) rfl rfl (hb hby d6_33)
  refine OEnds.st st1014 ?_
  clear st1014
  show OEnds p.tables e below G (T1014.setTop (mkF m 36 #[.val (.ref a1), .val (.long q2), .second, .val (.long v1002), .second] [(.long n), (.ref a1)]))
  refine OEnds.st (fun _ k => XS.lconst X1014.here hx rfl (hb hby d6_36) k) ?_
  show OEnds p.tables e below G (T1014.setTop (mkF m 37 #[.val (.ref a1), .val (.long q2), .second, .val (.long v1002), .second] [(.long (1 : Int64)), (.long n), (.ref a1)]))
  refine OEnds.st (fun _ k => XS.ladd X1014.here hx rfl (hb hby d6_37) rfl k) ?_
  show OEnds p.tables e below G (T1014.setTop (mkF m 38 #[.val (.ref a1), .val (.long q2), .second, .val (.long v1002), .second] [(.long (n + (1 : Int64))), (.ref a1)]))
  obtain ⟨T1015, h1015, X1015, e1015, W1015, st1015⟩ := putF X1014 hx hZ hown (host := "") (Or.inl (hw _ (List.mem_of_getElem? (i := 41) rfl))) Via.refl e1014 f1010 f1008 (Or.inl (hw _ (List.mem_of_getElem? (i := 42) rfl))) (hw _ (List.mem_of_getElem? (i := 3) rfl)) (ty := .long) (by decide) rfl rfl (g := (mkF m 38 #[.val (.ref a1), .val (.long q2), .second, .val (.long v1002), .second] [(.long (n + (1 : Int64))), (.ref a1)])) rfl rfl (hb hby d6_38)
  refine OEnds.st st1015 ?_
  clear st1015
  have f1016 : Fld Z h1015 a1 "com/example/marshalyard/marshalyard/proxy/ResponseTimes" "count" "J" (.long (n + (1 : Int64))) := f1010.same W1015
  have f1017 : Exa Z h1015 a1 "com/example/marshalyard/marshalyard/proxy/ResponseTimes" := f1008.wr W1015
  have f1018 : Fld Z h1015 a1 "com/example/marshalyard/marshalyard/proxy/ResponseTimes" "buckets" "[J" (.ref a3) := f1009.other W1015 (Or.inr (slot_ne (Or.inr (hw _ (List.mem_of_getElem? (i := 30) rfl))) (Or.inl (hw _ (List.mem_of_getElem? (i := 42) rfl))) (by decide) (t := (.array .long)) (t' := .long) (by decide) (by decide)))
  have f1020 : Fld Z h1015 a1 "com/example/marshalyard/marshalyard/proxy/ResponseTimes" "totalNanos" "J" (.long sm) := f1011.other W1015 (Or.inr (slot_ne (Or.inl (hw _ (List.mem_of_getElem? (i := 44) rfl))) (Or.inl (hw _ (List.mem_of_getElem? (i := 42) rfl))) (by decide) (t := .long) (t' := .long) (by decide) (by decide)))
  have f1021 : Sta Z h1015 "com/example/marshalyard/marshalyard/proxy/ResponseTimes" "SPLIT_BITS" "I" (.int (7 : Int32)) := f1012.wr W1015
  have f1022 : Sta Z h1015 "com/example/marshalyard/marshalyard/proxy/ResponseTimes" "EXACT_BITS" "I" (.int (11 : Int32)) := f1013.wr W1015
  have f1023 : Arv Z h1015 a3 k .long (4736 : Int32) vs1006 (.long (0 : Int64)) := f1007.other W1015 (Ne.symm n13)
  have N1015 := Fr.snoc X1015 N1006 g_a1
  have KK1015 : Keep h0 h1015 [a1, a3] := KK1006.wr W1015 (Or.inl (List.mem_of_getElem? (i := 0) rfl))
  have Z1015 := Nat.le_trans Z1006 (Keep.of_wr W1015).1
  show OEnds p.tables e below G (T1015.setTop (mkF m 41 #[.val (.ref a1), .val (.long q2), .second, .val (.long v1002), .second] []))
  refine OEnds.st (fun _ k => XS.aloadN X1015.here hx rfl (hb hby d6_41) rfl rfl k) ?_
  show OEnds p.tables e below G (T1015.setTop (mkF m 42 #[.val (.ref a1), .val (.long q2), .second, .val (.long v1002), .second] [(.ref a1)]))
  refine OEnds.st (fun _ k => XS.dup X1015.here hx rfl (hb hby d6_42) rfl rfl k) ?_
  show OEnds p.tables e below G (T1015.setTop (mkF m 43 #[.val (.ref a1), .val (.long q2), .second, .val (.long v1002), .second] [(.ref a1), (.ref a1)]))
  obtain ⟨T1024, X1024, e1024, st1024⟩ := getF X1015 hx hZ hown (host := "") (Or.inl (hw _ (List.mem_of_getElem? (i := 43) rfl))) Via.refl e1015 f1020 (g := (mkF m 43 #[.val (.ref a1), .val (.long q2), .second, .val (.long v1002), .second] [(.ref a1), (.ref a1)])) rfl rfl (hb hby d6_43)
  refine OEnds.st st1024 ?_
  clear st1024
  show OEnds p.tables e below G (T1024.setTop (mkF m 46 #[.val (.ref a1), .val (.long q2), .second, .val (.long v1002), .second] [(.long sm), (.ref a1)]))
  refine OEnds.st (fun _ k => XS.lloadN X1024.here hx rfl (hb hby d6_46) rfl k) ?_
  show OEnds p.tables e below G (T1024.setTop (mkF m 47 #[.val (.ref a1), .val (.long q2), .second, .val (.long v1002), .second] [(.long q2), (.long sm), (.ref a1)]))
  refine OEnds.st (fun _ k => XS.ladd X1024.here hx rfl (hb hby d6_47) rfl k) ?_
  show OEnds p.tables e below G (T1024.setTop (mkF m 48 #[.val (.ref a1), .val (.long q2), .second, .val (.long v1002), .second] [(.long (sm + q2)), (.ref a1)]))
  obtain ⟨T1025, h1025, X1025, e1025, W1025, st1025⟩ := putF X1024 hx hZ hown (host := "") (Or.inl (hw _ (List.mem_of_getElem? (i := 43) rfl))) Via.refl e1024 f1020 f1017 (Or.inl (hw _ (List.mem_of_getElem? (i := 44) rfl))) (hw _ (List.mem_of_getElem? (i := 3) rfl)) (ty := .long) (by decide) rfl rfl (g := (mkF m 48 #[.val (.ref a1), .val (.long q2), .second, .val (.long v1002), .second] [(.long (sm + q2)), (.ref a1)])) rfl rfl (hb hby d6_48)
  refine OEnds.st st1025 ?_
  clear st1025
  have f1026 : Fld Z h1025 a1 "com/example/marshalyard/marshalyard/proxy/ResponseTimes" "totalNanos" "J" (.long (sm + q2)) := f1020.same W1025
  have f1027 : Exa Z h1025 a1 "com/example/marshalyard/marshalyard/proxy/ResponseTimes" := f1017.wr W1025
  have f1028 : Fld Z h1025 a1 "com/example/marshalyard/marshalyard/proxy/ResponseTimes" "buckets" "[J" (.ref a3) := f1018.other W1025 (Or.inr (slot_ne (Or.inr (hw _ (List.mem_of_getElem? (i := 30) rfl))) (Or.inl (hw _ (List.mem_of_getElem? (i := 44) rfl))) (by decide) (t := (.array .long)) (t' := .long) (by decide) (by decide)))
  have f1030 : Sta Z h1025 "com/example/marshalyard/marshalyard/proxy/ResponseTimes" "SPLIT_BITS" "I" (.int (7 : Int32)) := f1021.wr W1025
  have f1031 : Sta Z h1025 "com/example/marshalyard/marshalyard/proxy/ResponseTimes" "EXACT_BITS" "I" (.int (11 : Int32)) := f1022.wr W1025
  have f1032 : Arv Z h1025 a3 k .long (4736 : Int32) vs1006 (.long (0 : Int64)) := f1023.other W1025 (Ne.symm n13)
  have f1033 : Fld Z h1025 a1 "com/example/marshalyard/marshalyard/proxy/ResponseTimes" "count" "J" (.long (n + (1 : Int64))) := f1016.other W1025 (Or.inr (slot_ne (Or.inl (hw _ (List.mem_of_getElem? (i := 42) rfl))) (Or.inl (hw _ (List.mem_of_getElem? (i := 44) rfl))) (by decide) (t := .long) (t' := .long) (by decide) (by decide)))
  have N1025 := Fr.snoc X1025 N1015 g_a1
  have KK1025 : Keep h0 h1025 [a1, a3] := KK1015.wr W1025 (Or.inl (List.mem_of_getElem? (i := 0) rfl))
  have Z1025 := Nat.le_trans Z1015 (Keep.of_wr W1025).1
  show OEnds p.tables e below G (T1025.setTop (mkF m 51 #[.val (.ref a1), .val (.long q2), .second, .val (.long v1002), .second] []))
  rw [← hG]
  refine OEnds.retV X1025 hx hlk Bd.returns (hb hby d6_51) (by decide) (by decide) ?_
  rw [e1025]
  exact ⟨vs1006, rfl, N1025, KK1025, f1027, f1028, f1033, f1026, f1032⟩
theorem ef_av0 (m : MethodId) (a1 : Addr) : entryFrame m #[(.ref a1)] 1 = mkF m 0 #[.val (.ref a1)] [] := by first | (simp [entryFrame, mkF, argsToLocals, Value.category]; done) | rfl
def Qav0 (Z : State) (a1 : Addr) (h0 : Heap) (n0 : Nat) (v : Option Value) (h : Heap) (L : List Loc) : Prop := v = some (.double (0 : UInt64)) ∧ Fr n0 L ∧ h = h0
theorem d8_0 : decode prog_92_method_5_code 0 = .ok (.aload_n 0, 1) := by decide +kernel
theorem d8_1 : decode prog_92_method_5_code 1 = .ok (.getfield 27, 3) := by decide +kernel
theorem d8_4 : decode prog_92_method_5_code 4 = .ok (.lconst 0, 1) := by decide +kernel
theorem d8_5 : decode prog_92_method_5_code 5 = .ok (.lcmp, 1) := by decide +kernel
theorem d8_6 : decode prog_92_method_5_code 6 = .ok (.ifCond .ne 7, 3) := by decide +kernel
theorem d8_9 : decode prog_92_method_5_code 9 = .ok (.dconst 0, 1) := by decide +kernel
theorem d8_10 : decode prog_92_method_5_code 10 = .ok (.goto 18, 3) := by decide +kernel
theorem d8_28 : decode prog_92_method_5_code 28 = .ok (.dreturn, 1) := by decide +kernel
set_option maxRecDepth 65536 in
set_option maxHeartbeats 40000000 in
theorem rmav0 (l : Launch) (Z : State) (a0 : Array Value) (hw : ∀ d ∈ tables_1, d.before a0 Z = true) (ws : List Jvm.Cond) (a1 : Addr) (h0 : Heap) (n0 : Nat) (Z0 : n0 ≤ h0.size) (Fc : Fld Z h0 a1 "com/example/marshalyard/marshalyard/proxy/ResponseTimes" "count" "J" (.long (0 : Int64))) :
    MetFree l (⟨"com/example/marshalyard/marshalyard/proxy/ResponseTimes", "averageMillis", "()D"⟩ : MethodName) (head1 (Jvm.Cond.code (⟨"com/example/marshalyard/marshalyard/proxy/ResponseTimes", "averageMillis", "()D"⟩ : MethodName) prog_92_method_5_code 1 (some .double) :: ws) ({ frames := 0, cells := 0, slots := 0, locals := 0 } : Room)) (fun a U => a = #[(.ref a1)] ∧ Z.Warmed39 U.vm ∧ U.heap = h0) (fun _ _ _ _ _ => True) (fun _ U o U' => ∃ v L, o = .returned v ∧ Qav0 Z a1 h0 n0 v U'.heap L ∧ FrameEnd U o U' L ({ frames := 0, cells := 0, slots := 0, locals := 0 } : Room).cells ({ frames := 0, cells := 0, slots := 0, locals := 0 } : Room).slots) := by
  refine MetFree.of_bodySF (plainFor_of_name pn_2) hisR ?_
  intro p e s m args below meth c s₁ Bd hml0 hP hK
  obtain ⟨rfl, hZ, hh⟩ := hP
  have hx := Bd.exec
  have hby := Bd.bytes
  have hml : c.maxLocals = 1 := hml0
  have hown : s.vm.findClass "com/example/marshalyard/marshalyard/proxy/ResponseTimes" = some m.cls := findClass_of_methodNamed Bd.named
  have hnm := (name_of_methodNamed Bd.named Bd.method).1
  have hlk : meth.locks = false := BodyLoose.notSynchronized Bd
  have X0 : Stand p l e ({ frames := 0, cells := 0, slots := 0, locals := 0 } : Room) s m #[(.ref a1)] below meth c s₁ [] 0 0 := Stand.of_body Bd
  have e0 : s₁.heap = h0 := by rw [← hh, Bd.state]; rfl
  have N0 := Fr.nil n0
  show OEnds p.tables e below (OGoal (Qav0 Z a1 h0 n0) s 0 0) (s₁.setTop (entryFrame m #[(.ref a1)] 1))
  refine OEnds.st (fun t k => castTop (ef_av0 m a1) k) ?_
  generalize hG : OGoal (Qav0 Z a1 h0 n0) s 0 0 = G
  have KK0 : Keep h0 h0 [] := Keep.refl h0 []
  show OEnds p.tables e below G (s₁.setTop (mkF m 0 #[.val (.ref a1)] []))
  refine OEnds.st (fun _ k => XS.aloadN X0.here hx rfl (hb hby d8_0) rfl rfl k) ?_
  show OEnds p.tables e below G (s₁.setTop (mkF m 1 #[.val (.ref a1)] [(.ref a1)]))
  obtain ⟨T1001, X1001, e1001, st1001⟩ := getF X0 hx hZ hown (host := "") (Or.inl (hw _ (List.mem_of_getElem? (i := 41) rfl))) Via.refl e0 Fc (g := (mkF m 1 #[.val (.ref a1)] [(.ref a1)])) rfl rfl (hb hby d8_1)
  refine OEnds.st st1001 ?_
  clear st1001
  show OEnds p.tables e below G (T1001.setTop (mkF m 4 #[.val (.ref a1)] [(.long (0 : Int64))]))
  refine OEnds.st (fun _ k => XS.lconst X1001.here hx rfl (hb hby d8_4) k) ?_
  show OEnds p.tables e below G (T1001.setTop (mkF m 5 #[.val (.ref a1)] [(.long (0 : Int64)), (.long (0 : Int64))]))
  refine OEnds.st (fun _ k => XS.lcmp X1001.here hx rfl (hb hby d8_5) rfl k) ?_
  show OEnds p.tables e below G (T1001.setTop (mkF m 6 #[.val (.ref a1)] [(.int (lcmpW (0 : Int64) (0 : Int64)))]))
  have hc6_1002 : (0 : Int64) = (0 : Int64) := rfl
  refine OEnds.st (fun _ k => XS.ifNo X1001.here hx rfl (hb hby d8_6) rfl ((if0 _ _).trans (teq ((lw_eq (0 : Int64) (0 : Int64)).mpr hc6_1002)).2) k) ?_
  show OEnds p.tables e below G (T1001.setTop (mkF m 9 #[.val (.ref a1)] []))
  refine OEnds.st (fun _ k => XS.dconst0 X1001.here hx rfl (hb hby d8_9) (v := (0 : UInt64)) rfl k) ?_
  show OEnds p.tables e below G (T1001.setTop (mkF m 10 #[.val (.ref a1)] [(.double (0 : UInt64))]))
  refine OEnds.st (fun _ k => XS.goto X1001.here hx rfl (pc0 := 10) (pc' := 28) rfl (hb hby d8_10) (by decide) (by decide) k) ?_
  show OEnds p.tables e below G (T1001.setTop (mkF m 28 #[.val (.ref a1)] [(.double (0 : UInt64))]))
  rw [← hG]
  refine OEnds.retD X1001 hx hlk Bd.returns (hb hby d8_28) (by decide) (by decide) ?_
  rw [e1001]
  exact ⟨rfl, N0, rfl⟩
theorem ef_av (m : MethodId) (a1 : Addr) : entryFrame m #[(.ref a1)] 1 = mkF m 0 #[.val (.ref a1)] [] := by first | (simp [entryFrame, mkF, argsToLocals, Value.category]; done) | rfl
def Qav (Z : State) (a1 : Addr) (n : Int64) (sm : Int64) (h0 : Heap) (n0 : Nat) (v : Option Value) (h : Heap) (L : List Loc) : Prop := v = some (.double (FP.ddiv (FP.ddiv (FP.l2d sm) (FP.l2d n)) (4696837146684686336 : UInt64))) ∧ Fr n0 L ∧ h = h0
theorem d8_13 : decode prog_92_method_5_code 13 = .ok (.aload_n 0, 1) := by decide +kernel
theorem d8_14 : decode prog_92_method_5_code 14 = .ok (.getfield 31, 3) := by decide +kernel
theorem d8_17 : decode prog_92_method_5_code 17 = .ok (.l2d, 1) := by decide +kernel
theorem d8_18 : decode prog_92_method_5_code 18 = .ok (.aload_n 0, 1) := by decide +kernel
theorem d8_19 : decode prog_92_method_5_code 19 = .ok (.getfield 27, 3) := by decide +kernel
theorem d8_22 : decode prog_92_method_5_code 22 = .ok (.l2d, 1) := by decide +kernel
theorem d8_23 : decode prog_92_method_5_code 23 = .ok (.ddiv, 1) := by decide +kernel
theorem d8_24 : decode prog_92_method_5_code 24 = .ok (.ldc2_w 34, 3) := by decide +kernel
theorem d8_27 : decode prog_92_method_5_code 27 = .ok (.ddiv, 1) := by decide +kernel
set_option maxRecDepth 65536 in
set_option maxHeartbeats 40000000 in
theorem rmav (l : Launch) (Z : State) (a0 : Array Value) (hw : ∀ d ∈ tables_1, d.before a0 Z = true) (ws : List Jvm.Cond) (a1 : Addr) (n : Int64) (sm : Int64) (h0 : Heap) (n0 : Nat) (Z0 : n0 ≤ h0.size) (Fc : Fld Z h0 a1 "com/example/marshalyard/marshalyard/proxy/ResponseTimes" "count" "J" (.long n)) (Ft : Fld Z h0 a1 "com/example/marshalyard/marshalyard/proxy/ResponseTimes" "totalNanos" "J" (.long sm)) (hn : ¬ (n = (0 : Int64))) :
    MetFree l (⟨"com/example/marshalyard/marshalyard/proxy/ResponseTimes", "averageMillis", "()D"⟩ : MethodName) (head1 (Jvm.Cond.code (⟨"com/example/marshalyard/marshalyard/proxy/ResponseTimes", "averageMillis", "()D"⟩ : MethodName) prog_92_method_5_code 1 (some .double) :: ws) ({ frames := 0, cells := 0, slots := 0, locals := 0 } : Room)) (fun a U => a = #[(.ref a1)] ∧ Z.Warmed39 U.vm ∧ U.heap = h0) (fun _ _ _ _ _ => True) (fun _ U o U' => ∃ v L, o = .returned v ∧ Qav Z a1 n sm h0 n0 v U'.heap L ∧ FrameEnd U o U' L ({ frames := 0, cells := 0, slots := 0, locals := 0 } : Room).cells ({ frames := 0, cells := 0, slots := 0, locals := 0 } : Room).slots) := by
  refine MetFree.of_bodySF (plainFor_of_name pn_2) hisR ?_
  intro p e s m args below meth c s₁ Bd hml0 hP hK
  obtain ⟨rfl, hZ, hh⟩ := hP
  have hx := Bd.exec
  have hby := Bd.bytes
  have hml : c.maxLocals = 1 := hml0
  have hown : s.vm.findClass "com/example/marshalyard/marshalyard/proxy/ResponseTimes" = some m.cls := findClass_of_methodNamed Bd.named
  have hnm := (name_of_methodNamed Bd.named Bd.method).1
  have hlk : meth.locks = false := BodyLoose.notSynchronized Bd
  have X0 : Stand p l e ({ frames := 0, cells := 0, slots := 0, locals := 0 } : Room) s m #[(.ref a1)] below meth c s₁ [] 0 0 := Stand.of_body Bd
  have e0 : s₁.heap = h0 := by rw [← hh, Bd.state]; rfl
  have N0 := Fr.nil n0
  show OEnds p.tables e below (OGoal (Qav Z a1 n sm h0 n0) s 0 0) (s₁.setTop (entryFrame m #[(.ref a1)] 1))
  refine OEnds.st (fun t k => castTop (ef_av m a1) k) ?_
  generalize hG : OGoal (Qav Z a1 n sm h0 n0) s 0 0 = G
  have KK0 : Keep h0 h0 [] := Keep.refl h0 []
  show OEnds p.tables e below G (s₁.setTop (mkF m 0 #[.val (.ref a1)] []))
  refine OEnds.st (fun _ k => XS.aloadN X0.here hx rfl (hb hby d8_0) rfl rfl k) ?_
  show OEnds p.tables e below G (s₁.setTop (mkF m 1 #[.val (.ref a1)] [(.ref a1)]))
  obtain ⟨T1001, X1001, e1001, st1001⟩ := getF X0 hx hZ hown (host := "") (Or.inl (hw _ (List.mem_of_getElem? (i := 41) rfl))) Via.refl e0 Fc (g := (mkF m 1 #[.val (.ref a1)] [(.ref a1)])) rfl rfl (hb hby d8_1)
  refine OEnds.st st1001 ?_
  clear st1001
  show OEnds p.tables e below G (T1001.setTop (mkF m 4 #[.val (.ref a1)] [(.long n)]))
  refine OEnds.st (fun _ k => XS.lconst X1001.here hx rfl (hb hby d8_4) k) ?_
  show OEnds p.tables e below G (T1001.setTop (mkF m 5 #[.val (.ref a1)] [(.long (0 : Int64)), (.long n)]))
  refine OEnds.st (fun _ k => XS.lcmp X1001.here hx rfl (hb hby d8_5) rfl k) ?_
  show OEnds p.tables e below G (T1001.setTop (mkF m 6 #[.val (.ref a1)] [(.int (lcmpW n (0 : Int64)))]))
  refine OEnds.st (fun _ k => XS.ifYes X1001.here hx rfl (pc0 := 6) (pc' := 13) rfl (hb hby d8_6) rfl ((if0 _ _).trans (feq (fun q => hn ((lw_eq n (0 : Int64)).mp q))).2) (by decide) (by decide) k) ?_
  show OEnds p.tables e below G (T1001.setTop (mkF m 13 #[.val (.ref a1)] []))
  refine OEnds.st (fun _ k => XS.aloadN X1001.here hx rfl (hb hby d8_13) rfl rfl k) ?_
  show OEnds p.tables e below G (T1001.setTop (mkF m 14 #[.val (.ref a1)] [(.ref a1)]))
  obtain ⟨T1002, X1002, e1002, st1002⟩ := getF X1001 hx hZ hown (host := "") (Or.inl (hw _ (List.mem_of_getElem? (i := 43) rfl))) Via.refl e1001 Ft (g := (mkF m 14 #[.val (.ref a1)] [(.ref a1)])) rfl rfl (hb hby d8_14)
  refine OEnds.st st1002 ?_
  clear st1002
  show OEnds p.tables e below G (T1002.setTop (mkF m 17 #[.val (.ref a1)] [(.long sm)]))
  refine OEnds.st (fun _ k => XS.l2dS X1002.here hx rfl (hb hby d8_17) rfl (v := (FP.l2d sm)) rfl k) ?_
  show OEnds p.tables e below G (T1002.setTop (mkF m 18 #[.val (.ref a1)] [(.double (FP.l2d sm))]))
  refine OEnds.st (fun _ k => XS.aloadN X1002.here hx rfl (hb hby d8_18) rfl rfl k) ?_
  show OEnds p.tables e below G (T1002.setTop (mkF m 19 #[.val (.ref a1)] [(.ref a1), (.double (FP.l2d sm))]))
  obtain ⟨T1003, X1003, e1003, st1003⟩ := getF X1002 hx hZ hown (host := "") (Or.inl (hw _ (List.mem_of_getElem? (i := 41) rfl))) Via.refl e1002 Fc (g := (mkF m 19 #[.val (.ref a1)] [(.ref a1), (.double (FP.l2d sm))])) rfl rfl (hb hby d8_19)
  refine OEnds.st st1003 ?_
  clear st1003
  show OEnds p.tables e below G (T1003.setTop (mkF m 22 #[.val (.ref a1)] [(.long n), (.double (FP.l2d sm))]))
  refine OEnds.st (fun _ k => XS.l2dS X1003.here hx rfl (hb hby d8_22) rfl (v := (FP.l2d n)) rfl k) ?_
  show OEnds p.tables e below G (T1003.setTop (mkF m 23 #[.val (.ref a1)] [(.double (FP.l2d n)), (.double (FP.l2d sm))]))
  refine OEnds.st (fun _ k => XS.ddivS X1003.here hx rfl (hb hby d8_23) rfl (Fl.ddiv_out (Fl.l2d_fin _).noNaN (Fl.l2d_fin _) (Fl.l2d_nz hn)) rfl k) ?_
  show OEnds p.tables e below G (T1003.setTop (mkF m 24 #[.val (.ref a1)] [(.double (FP.ddiv (FP.l2d sm) (FP.l2d n)))]))
  refine OEnds.st (X1003.ldc2DoubleC hx hown (mvT hZ (hw _ (List.mem_of_getElem? (i := 50) rfl))) (g := (mkF m 24 #[.val (.ref a1)] [(.double (FP.ddiv (FP.l2d sm) (FP.l2d n)))])) rfl (hb hby d8_24)) ?_
  show OEnds p.tables e below G (T1003.setTop (mkF m 27 #[.val (.ref a1)] [(.double (4696837146684686336 : UInt64)), (.double (FP.ddiv (FP.l2d sm) (FP.l2d n)))]))
  refine OEnds.st (fun _ k => XS.ddivS X1003.here hx rfl (hb hby d8_27) rfl (own_nnQ (Fl.ddiv_out (Fl.l2d_fin _).noNaN (Fl.l2d_fin _) (Fl.l2d_nz hn))) rfl k) ?_
  show OEnds p.tables e below G (T1003.setTop (mkF m 28 #[.val (.ref a1)] [(.double (FP.ddiv (FP.ddiv (FP.l2d sm) (FP.l2d n)) (4696837146684686336 : UInt64)))]))
  rw [← hG]
  refine OEnds.retD X1003 hx hlk Bd.returns (hb hby d8_28) (by decide) (by decide) ?_
  rw [e1003]
  exact ⟨rfl, N0, rfl⟩
theorem pn_3 : plainName "com/example/marshalyard/marshalyard/proxy/ResponseTimesAverageMillisPinLaw" = true := by first | (simp [plainName, overriddenIn]; done) | decide +kernel
theorem ef_0 (m : MethodId) (q1 : Int64) (q2 : Int64) (q3 : Int64) (q4 : Int64) (p5 : Int32) : entryFrame m #[(.long q1), (.long q2), (.long q3), (.long q4), (.int p5)] maxLocals = mkF m 0 #[.val (.long q1), .second, .val (.long q2), .second, .val (.long q3), .second, .val (.long q4), .second, .val (.int p5), .unset, .unset, .unset, .unset, .unset, .unset, .unset, .unset, .unset, .unset, .unset, .unset, .unset, .unset, .unset, .unset, .unset, .unset] [] := by first | (simp [entryFrame, mkF, argsToLocals, Value.category, maxLocals]; done) | rfl
def Q0 (Z : State) (q1 : Int64) (q2 : Int64) (q3 : Int64) (q4 : Int64) (p5 : Int32) (h0 : Heap) (n0 : Nat) (v : Option Value) (h : Heap) (L : List Loc) : Prop := v = some (.int (1 : Int32)) ∧ Fr n0 L
theorem pd_3 : parseMethodDescriptor "()V" = some ⟨[], none⟩ := by decide +kernel
theorem pd_4 : parseMethodDescriptor "()D" = some ⟨[], some .double⟩ := by decide +kernel
theorem pd_5 : parseMethodDescriptor "(J)V" = some ⟨[.long], none⟩ := by decide +kernel
set_option maxRecDepth 65536 in
set_option maxHeartbeats 40000000 in
theorem rm0 (l : Launch) (Z : State) (a0 : Array Value) (hw : ∀ d ∈ tables_1, d.before a0 Z = true) (ws : List Jvm.Cond) (q1 : Int64) (q2 : Int64) (q3 : Int64) (q4 : Int64) (p5 : Int32) (h0 : Heap) (n0 : Nat) (Z0 : n0 ≤ h0.size) (Sp : Sta Z h0 "com/example/marshalyard/marshalyard/proxy/ResponseTimes" "SPLIT_BITS" "I" (.int (7 : Int32))) (Se : Sta Z h0 "com/example/marshalyard/marshalyard/proxy/ResponseTimes" "EXACT_BITS" "I" (.int (11 : Int32))) :
    MetFree l x (head1 (Jvm.Cond.code x code maxLocals ret :: ws) room_1) (fun a U => a = #[(.long q1), (.long q2), (.long q3), (.long q4), (.int p5)] ∧ Z.Warmed39 U.vm ∧ U.heap = h0) (fun _ _ _ _ _ => True) (fun _ U o U' => ∃ v L, o = .returned v ∧ Q0 Z q1 q2 q3 q4 p5 h0 n0 v U'.heap L ∧ FrameEnd U o U' L room_1.cells room_1.slots) := by
  refine MetFree.of_bodySF (plainFor_of_name pn_3) hisR ?_
  intro p e s m args below meth c s₁ Bd hml0 hP hK
  obtain ⟨rfl, hZ, hh⟩ := hP
  have hx := Bd.exec
  have hby := Bd.bytes
  have hml : c.maxLocals = 27 := hml0
  have hown : s.vm.findClass "com/example/marshalyard/marshalyard/proxy/ResponseTimesAverageMillisPinLaw" = some m.cls := findClass_of_methodNamed Bd.named
  have hnm := (name_of_methodNamed Bd.named Bd.method).1
  have hlk : meth.locks = false := BodyLoose.notSynchronized Bd
  have X0 : Stand p l e room_1 s m #[(.long q1), (.long q2), (.long q3), (.long q4), (.int p5)] below meth c s₁ [] 0 0 := Stand.of_body Bd
  have e0 : s₁.heap = h0 := by rw [← hh, Bd.state]; rfl
  have N0 := Fr.nil n0
  show OEnds p.tables e below (OGoal (Q0 Z q1 q2 q3 q4 p5 h0 n0) s 16 9600) (s₁.setTop (entryFrame m #[(.long q1), (.long q2), (.long q3), (.long q4), (.int p5)] maxLocals))
  refine OEnds.st (fun t k => castTop (ef_0 m q1 q2 q3 q4 p5) k) ?_
  generalize hG : OGoal (Q0 Z q1 q2 q3 q4 p5 h0 n0) s 16 9600 = G
  have KK0 : Keep h0 h0 [] := Keep.refl h0 []
  show OEnds p.tables e below G (s₁.setTop (mkF m 0 #[.val (.long q1), .second, .val (.long q2), .second, .val (.long q3), .second, .val (.long q4), .second, .val (.int p5), .unset, .unset, .unset, .unset, .unset, .unset, .unset, .unset, .unset, .unset, .unset, .unset, .unset, .unset, .unset, .unset, .unset, .unset] []))
  refine OEnds.st (X0.ldc2Long hx hown (mvT hZ (hw _ (List.mem_of_getElem? (i := 0) rfl))) (g := (mkF m 0 #[.val (.long q1), .second, .val (.long q2), .second, .val (.long q3), .second, .val (.long q4), .second, .val (.int p5), .unset, .unset, .unset, .unset, .unset, .unset, .unset, .unset, .unset, .unset, .unset, .unset, .unset, .unset, .unset, .unset, .unset, .unset] [])) rfl (hb hby at_0)) ?_
  show OEnds p.tables e below G (s₁.setTop (mkF m 3 #[.val (.long q1), .second, .val (.long q2), .second, .val (.long q3), .second, .val (.long q4), .second, .val (.int p5), .unset, .unset, .unset, .unset, .unset, .unset, .unset, .unset, .unset, .unset, .unset, .unset, .unset, .unset, .unset, .unset, .unset, .unset] [(.long (2305843009213693951 : Int64))]))
  refine OEnds.st (fun _ k => XS.lstore X0.here hx rfl (hb hby at_3) rfl (l' := #[.val (.long q1), .second, .val (.long q2), .second, .val (.long q3), .second, .val (.long q4), .second, .val (.int p5), .val (.long (2305843009213693951 : Int64)), .second, .unset, .unset, .unset, .unset, .unset, .unset, .unset, .unset, .unset, .unset, .unset, .unset, .unset, .unset, .unset, .unset]) rfl k) ?_
  show OEnds p.tables e below G (s₁.setTop (mkF m 5 #[.val (.long q1), .second, .val (.long q2), .second, .val (.long q3), .second, .val (.long q4), .second, .val (.int p5), .val (.long (2305843009213693951 : Int64)), .second, .unset, .unset, .unset, .unset, .unset, .unset, .unset, .unset, .unset, .unset, .unset, .unset, .unset, .unset, .unset, .unset] []))
  refine OEnds.st (X0.ldc2Long hx hown (mvT hZ (hw _ (List.mem_of_getElem? (i := 1) rfl))) (g := (mkF m 5 #[.val (.long q1), .second, .val (.long q2), .second, .val (.long q3), .second, .val (.long q4), .second, .val (.int p5), .val (.long (2305843009213693951 : Int64)), .second, .unset, .unset, .unset, .unset, .unset, .unset, .unset, .unset, .unset, .unset, .unset, .unset, .unset, .unset, .unset, .unset] [])) rfl (hb hby at_5)) ?_
  show OEnds p.tables e below G (s₁.setTop (mkF m 8 #[.val (.long q1), .second, .val (.long q2), .second, .val (.long q3), .second, .val (.long q4), .second, .val (.int p5), .val (.long (2305843009213693951 : Int64)), .second, .unset, .unset, .unset, .unset, .unset, .unset, .unset, .unset, .unset, .unset, .unset, .unset, .unset, .unset, .unset, .unset] [(.long (2251799813685247 : Int64))]))
  refine OEnds.st (fun _ k => XS.lstore X0.here hx rfl (hb hby at_8) rfl (l' := #[.val (.long q1), .second, .val (.long q2), .second, .val (.long q3), .second, .val (.long q4), .second, .val (.int p5), .val (.long (2305843009213693951 : Int64)), .second, .val (.long (2251799813685247 : Int64)), .second, .unset, .unset, .unset, .unset, .unset, .unset, .unset, .unset, .unset, .unset, .unset, .unset, .unset, .unset]) rfl k) ?_
  show OEnds p.tables e below G (s₁.setTop (mkF m 10 #[.val (.long q1), .second, .val (.long q2), .second, .val (.long q3), .second, .val (.long q4), .second, .val (.int p5), .val (.long (2305843009213693951 : Int64)), .second, .val (.long (2251799813685247 : Int64)), .second, .unset, .unset, .unset, .unset, .unset, .unset, .unset, .unset, .unset, .unset, .unset, .unset, .unset, .unset] []))
  refine OEnds.st (fun _ k => XS.iload X0.here hx rfl (hb hby at_10) rfl k) ?_
  show OEnds p.tables e below G (s₁.setTop (mkF m 12 #[.val (.long q1), .second, .val (.long q2), .second, .val (.long q3), .second, .val (.long q4), .second, .val (.int p5), .val (.long (2305843009213693951 : Int64)), .second, .val (.long (2251799813685247 : Int64)), .second, .unset, .unset, .unset, .unset, .unset, .unset, .unset, .unset, .unset, .unset, .unset, .unset, .unset, .unset] [(.int p5)]))
  refine OEnds.st (fun _ k => XS.bipush X0.here hx rfl (hb hby at_12) k) ?_
  show OEnds p.tables e below G (s₁.setTop (mkF m 14 #[.val (.long q1), .second, .val (.long q2), .second, .val (.long q3), .second, .val (.long q4), .second, .val (.int p5), .val (.long (2305843009213693951 : Int64)), .second, .val (.long (2251799813685247 : Int64)), .second, .unset, .unset, .unset, .unset, .unset, .unset, .unset, .unset, .unset, .unset, .unset, .unset, .unset, .unset] [(.int (7 : Int32)), (.int p5)]))
  refine OEnds.st (fun _ k => XS.iand X0.here hx rfl (hb hby at_14) rfl k) ?_
  show OEnds p.tables e below G (s₁.setTop (mkF m 15 #[.val (.long q1), .second, .val (.long q2), .second, .val (.long q3), .second, .val (.long q4), .second, .val (.int p5), .val (.long (2305843009213693951 : Int64)), .second, .val (.long (2251799813685247 : Int64)), .second, .unset, .unset, .unset, .unset, .unset, .unset, .unset, .unset, .unset, .unset, .unset, .unset, .unset, .unset] [(.int (p5 &&& (7 : Int32)))]))
  refine OEnds.st (fun _ k => XS.istore X0.here hx rfl (hb hby at_15) rfl (l' := #[.val (.long q1), .second, .val (.long q2), .second, .val (.long q3), .second, .val (.long q4), .second, .val (.int p5), .val (.long (2305843009213693951 : Int64)), .second, .val (.long (2251799813685247 : Int64)), .second, .val (.int (p5 &&& (7 : Int32))), .unset, .unset, .unset, .unset, .unset, .unset, .unset, .unset, .unset, .unset, .unset, .unset, .unset]) rfl k) ?_
  show OEnds p.tables e below G (s₁.setTop (mkF m 17 #[.val (.long q1), .second, .val (.long q2), .second, .val (.long q3), .second, .val (.long q4), .second, .val (.int p5), .val (.long (2305843009213693951 : Int64)), .second, .val (.long (2251799813685247 : Int64)), .second, .val (.int (p5 &&& (7 : Int32))), .unset, .unset, .unset, .unset, .unset, .unset, .unset, .unset, .unset, .unset, .unset, .unset, .unset] []))
  generalize hv_v1001 : (p5 &&& (7 : Int32)) = v1001
  show OEnds p.tables e below G (s₁.setTop (mkF m 17 #[.val (.long q1), .second, .val (.long q2), .second, .val (.long q3), .second, .val (.long q4), .second, .val (.int p5), .val (.long (2305843009213693951 : Int64)), .second, .val (.long (2251799813685247 : Int64)), .second, .val (.int v1001), .unset, .unset, .unset, .unset, .unset, .unset, .unset, .unset, .unset, .unset, .unset, .unset, .unset] []))
  obtain ⟨T1002, h1002, X1002, e1002, E1002, A1002, D1002, -, st1002⟩ := newO X0 hx hZ hown (hw _ (List.mem_of_getElem? (i := 2) rfl)) (hw _ (List.mem_of_getElem? (i := 3) rfl)) (hw _ (List.mem_of_getElem? (i := 4) rfl)) e0 (g := (mkF m 17 #[.val (.long q1), .second, .val (.long q2), .second, .val (.long q3), .second, .val (.long q4), .second, .val (.int p5), .val (.long (2305843009213693951 : Int64)), .second, .val (.long (2251799813685247 : Int64)), .second, .val (.int v1001), .unset, .unset, .unset, .unset, .unset, .unset, .unset, .unset, .unset, .unset, .unset, .unset, .unset] [])) rfl (hb hby at_17) (by decide) (by decide)
  obtain ⟨b1002, g1002⟩ : ∃ z, z = h0.size := ⟨_, rfl⟩
  rw [← g1002] at A1002 D1002 st1002
  refine OEnds.st st1002 ?_
  clear st1002
  have ge_b1002 : n0 ≤ b1002 := Nat.le_trans Z0 (Nat.le_of_eq g1002.symm)
  have sz_b1002 : h0.size ≤ b1002 := Nat.le_trans KK0.1 (Nat.le_of_eq g1002.symm)
  have f1003 : Sta Z h1002 "com/example/marshalyard/marshalyard/proxy/ResponseTimes" "SPLIT_BITS" "I" (.int (7 : Int32)) := Sp.ext E1002
  have f1004 : Sta Z h1002 "com/example/marshalyard/marshalyard/proxy/ResponseTimes" "EXACT_BITS" "I" (.int (11 : Int32)) := Se.ext E1002
  have KK1002 : Keep h0 h1002 [] := KK0.ext E1002
  have Z1002 := Nat.le_trans Z0 E1002.1
  have ex_b1002 := A1002
  have f1005 : Fld Z h1002 b1002 "com/example/marshalyard/marshalyard/proxy/ResponseTimes" "buckets" "[J" .null := D1002 (Or.inr (hw _ (List.mem_of_getElem? (i := 30) rfl))) (ty := (.array .long)) (by decide)
  have f1006 : Fld Z h1002 b1002 "com/example/marshalyard/marshalyard/proxy/ResponseTimes" "count" "J" (.long (0 : Int64)) := D1002 (Or.inl (hw _ (List.mem_of_getElem? (i := 42) rfl))) (ty := .long) (by decide)
  have f1007 : Fld Z h1002 b1002 "com/example/marshalyard/marshalyard/proxy/ResponseTimes" "totalNanos" "J" (.long (0 : Int64)) := D1002 (Or.inl (hw _ (List.mem_of_getElem? (i := 44) rfl))) (ty := .long) (by decide)
  show OEnds p.tables e below G (T1002.setTop (mkF m 20 #[.val (.long q1), .second, .val (.long q2), .second, .val (.long q3), .second, .val (.long q4), .second, .val (.int p5), .val (.long (2305843009213693951 : Int64)), .second, .val (.long (2251799813685247 : Int64)), .second, .val (.int v1001), .unset, .unset, .unset, .unset, .unset, .unset, .unset, .unset, .unset, .unset, .unset, .unset, .unset] [(.ref b1002)]))
  refine OEnds.st (fun _ k => XS.dup X1002.here hx rfl (hb hby at_20) rfl rfl k) ?_
  show OEnds p.tables e below G (T1002.setTop (mkF m 21 #[.val (.long q1), .second, .val (.long q2), .second, .val (.long q3), .second, .val (.long q4), .second, .val (.int p5), .val (.long (2305843009213693951 : Int64)), .second, .val (.long (2251799813685247 : Int64)), .second, .val (.int v1001), .unset, .unset, .unset, .unset, .unset, .unset, .unset, .unset, .unset, .unset, .unset, .unset, .unset] [(.ref b1002), (.ref b1002)]))
  obtain ⟨_, _, ⟨T1008, L1008, k1008c, n1008c⟩, -, X1008, ⟨Lc1008, hQ1008, l1008, y1008, z1008⟩, st1008⟩ := X1002.specialBack hx (y := (⟨"com/example/marshalyard/marshalyard/proxy/ResponseTimes", "<init>", "()V"⟩ : MethodName)) rfl hown (mvT hZ (hw _ (List.mem_of_getElem? (i := 5) rfl))) (mvT hZ (hw _ (List.mem_of_getElem? (i := 6) rfl))) (mvT hZ (hw _ (List.mem_of_getElem? (i := 7) rfl))) (by decide) (backOf (W := 1) (rmini l Z a0 hw [] b1002 h1002 n0 Z1002 ex_b1002 f1005 f1006 f1007 f1003 f1004 ge_b1002) hZ (hw _ (List.mem_of_getElem? (i := 7) rfl)) (hw _ (List.mem_of_getElem? (i := 4) rfl)) (by decide) (by decide)) (g := (mkF m 21 #[.val (.long q1), .second, .val (.long q2), .second, .val (.long q3), .second, .val (.long q4), .second, .val (.int p5), .val (.long (2305843009213693951 : Int64)), .second, .val (.long (2251799813685247 : Int64)), .second, .val (.int v1001), .unset, .unset, .unset, .unset, .unset, .unset, .unset, .unset, .unset, .unset, .unset, .unset, .unset] [(.ref b1002), (.ref b1002)])) rfl (by rw [hml]; rfl) (Steps.refl _) (a := b1002) (argsL := []) (rest := [(.ref b1002)]) (lenOf pd_3 rfl) rfl (by show 2 * 0 + _ ≤ _; exact Nat.le_of_eq rfl) (hb hby at_21) (fun _ _ => ⟨rfl, e1002, (by decide : 0 + 1 + 1 ≤ _), (by decide : 0 + 3 + 4736 ≤ _)⟩)
  dsimp only [Pt.U, Pt.locs, Pt.cells, Pt.slots] at X1008 l1008 y1008 z1008 st1008 hQ1008
  subst l1008 y1008 z1008
  obtain ⟨b_1008, kb_1008, rfl, N1008q, p1009, p1010, p1011, p1012, p1013, p1014, p1015⟩ := hQ1008
  have N1008 := Fr.app N0 N1008q
  refine OEnds.st (fun _ k => st1008.trans k) ?_
  clear st1008
  have ne1016 : b1002 ≠ b_1008 := Nat.ne_of_lt (Nat.lt_of_lt_of_le (ex_b1002).lt p1010)
  have sz_b_1008 : h0.size ≤ b_1008 := Nat.le_trans KK1002.1 p1010
  have ge_b_1008 : n0 ≤ b_1008 := Nat.le_trans Z1002 p1010
  have f1017 : Sta Z T1008.heap "com/example/marshalyard/marshalyard/proxy/ResponseTimes" "SPLIT_BITS" "I" (.int (7 : Int32)) := own_Sta_keep f1003 p1009 (fun x hx => by cases List.mem_singleton.mp hx; exact own_exa_ns ex_b1002)
  have f1018 : Sta Z T1008.heap "com/example/marshalyard/marshalyard/proxy/ResponseTimes" "EXACT_BITS" "I" (.int (11 : Int32)) := own_Sta_keep f1004 p1009 (fun x hx => by cases List.mem_singleton.mp hx; exact own_exa_ns ex_b1002)
  have f1019 : Exa Z T1008.heap b1002 "com/example/marshalyard/marshalyard/proxy/ResponseTimes" := ex_b1002.keep p1009
  have KK1008 : Keep h0 T1008.heap [] := KK1002.trans p1009 (fun x hx => by cases List.mem_singleton.mp hx; exact Or.inr sz_b1002)
  have Z1008 := Nat.le_trans Z1002 p1009.1
  show OEnds p.tables e below G (T1008.setTop (mkF m 24 #[.val (.long q1), .second, .val (.long q2), .second, .val (.long q3), .second, .val (.long q4), .second, .val (.int p5), .val (.long (2305843009213693951 : Int64)), .second, .val (.long (2251799813685247 : Int64)), .second, .val (.int v1001), .unset, .unset, .unset, .unset, .unset, .unset, .unset, .unset, .unset, .unset, .unset, .unset, .unset] [(.ref b1002)]))
  refine OEnds.st (fun _ k => XS.astore X1008.here hx rfl (hb hby at_24) rfl rfl (l' := #[.val (.long q1), .second, .val (.long q2), .second, .val (.long q3), .second, .val (.long q4), .second, .val (.int p5), .val (.long (2305843009213693951 : Int64)), .second, .val (.long (2251799813685247 : Int64)), .second, .val (.int v1001), .val (.ref b1002), .unset, .unset, .unset, .unset, .unset, .unset, .unset, .unset, .unset, .unset, .unset, .unset]) rfl k) ?_
  show OEnds p.tables e below G (T1008.setTop (mkF m 26 #[.val (.long q1), .second, .val (.long q2), .second, .val (.long q3), .second, .val (.long q4), .second, .val (.int p5), .val (.long (2305843009213693951 : Int64)), .second, .val (.long (2251799813685247 : Int64)), .second, .val (.int v1001), .val (.ref b1002), .unset, .unset, .unset, .unset, .unset, .unset, .unset, .unset, .unset, .unset, .unset, .unset] []))
  refine OEnds.st (fun _ k => XS.iload X1008.here hx rfl (hb hby at_26) rfl k) ?_
  show OEnds p.tables e below G (T1008.setTop (mkF m 28 #[.val (.long q1), .second, .val (.long q2), .second, .val (.long q3), .second, .val (.long q4), .second, .val (.int p5), .val (.long (2305843009213693951 : Int64)), .second, .val (.long (2251799813685247 : Int64)), .second, .val (.int v1001), .val (.ref b1002), .unset, .unset, .unset, .unset, .unset, .unset, .unset, .unset, .unset, .unset, .unset, .unset] [(.int v1001)]))
  by_cases hc28_1023 : v1001 = (0 : Int32)
  · -- pc 28: yes
    refine OEnds.st (fun _ k => XS.ifNo X1008.here hx rfl (hb hby at_28) rfl ((if0 _ _).trans (teq hc28_1023).2) k) ?_
    show OEnds p.tables e below G (T1008.setTop (mkF m 31 #[.val (.long q1), .second, .val (.long q2), .second, .val (.long q3), .second, .val (.long q4), .second, .val (.int p5), .val (.long (2305843009213693951 : Int64)), .second, .val (.long (2251799813685247 : Int64)), .second, .val (.int v1001), .val (.ref b1002), .unset, .unset, .unset, .unset, .unset, .unset, .unset, .unset, .unset, .unset, .unset, .unset] []))
    refine OEnds.st (fun _ k => XS.aload X1008.here hx rfl (hb hby at_31) rfl rfl k) ?_
    show OEnds p.tables e below G (T1008.setTop (mkF m 33 #[.val (.long q1), .second, .val (.long q2), .second, .val (.long q3), .second, .val (.long q4), .second, .val (.int p5), .val (.long (2305843009213693951 : Int64)), .second, .val (.long (2251799813685247 : Int64)), .second, .val (.int v1001), .val (.ref b1002), .unset, .unset, .unset, .unset, .unset, .unset, .unset, .unset, .unset, .unset, .unset, .unset] [(.ref b1002)]))
    obtain ⟨cq1024, kq1024, q1024a, q1024b, q1024c⟩ := isOf hZ rfl p1011
    obtain ⟨_, _, ⟨T1024, L1024, k1024c, n1024c⟩, -, X1024, ⟨Lc1024, hQ1024, l1024, y1024, z1024⟩, st1024⟩ := X1008.virtualBack hx (y := (⟨"com/example/marshalyard/marshalyard/proxy/ResponseTimes", "averageMillis", "()D"⟩ : MethodName)) (z := (⟨"com/example/marshalyard/marshalyard/proxy/ResponseTimes", "averageMillis", "()D"⟩ : MethodName)) hown (mvT hZ (hw _ (List.mem_of_getElem? (i := 45) rfl))) (mvT hZ (hw _ (List.mem_of_getElem? (i := 46) rfl))) (notFace_of_selects (args := #[]) (mvT hZ (hw _ (List.mem_of_getElem? (i := 48) rfl)))) (mvT hZ (hw _ (List.mem_of_getElem? (i := 48) rfl))) (mvT hZ (hw _ (List.mem_of_getElem? (i := 47) rfl))) (by decide) (backOf (W := 0) (rmav0 l Z a0 hw [] b1002 T1008.heap n0 Z1008 p1013) hZ (hw _ (List.mem_of_getElem? (i := 49) rfl)) (hw _ (List.mem_of_getElem? (i := 4) rfl)) (by decide) (by decide)) q1024a q1024c (g := (mkF m 33 #[.val (.long q1), .second, .val (.long q2), .second, .val (.long q3), .second, .val (.long q4), .second, .val (.int p5), .val (.long (2305843009213693951 : Int64)), .second, .val (.long (2251799813685247 : Int64)), .second, .val (.int v1001), .val (.ref b1002), .unset, .unset, .unset, .unset, .unset, .unset, .unset, .unset, .unset, .unset, .unset, .unset] [(.ref b1002)])) rfl (by rw [hml]; rfl) (Steps.refl _) (argsL := []) (rest := []) (lenOf pd_4 rfl) rfl (by show 2 * 0 + _ ≤ _; exact Nat.le_of_eq rfl) (hb hby at_33) (fun _ _ => ⟨rfl, rfl, (by decide : 0 + 1 + 1 + 0 ≤ _), (by decide : 0 + 3 + 4736 + 0 ≤ _)⟩)
    dsimp only [Pt.U, Pt.locs, Pt.cells, Pt.slots] at X1024 l1024 y1024 z1024 st1024 hQ1024
    subst l1024 y1024 z1024
    obtain ⟨rfl, N1024q, e1024⟩ := hQ1024
    have N1024 := Fr.app N1008 N1024q
    refine OEnds.st (fun _ k => st1024.trans k) ?_
    clear st1024
    show OEnds p.tables e below G (T1024.setTop (mkF m 36 #[.val (.long q1), .second, .val (.long q2), .second, .val (.long q3), .second, .val (.long q4), .second, .val (.int p5), .val (.long (2305843009213693951 : Int64)), .second, .val (.long (2251799813685247 : Int64)), .second, .val (.int v1001), .val (.ref b1002), .unset, .unset, .unset, .unset, .unset, .unset, .unset, .unset, .unset, .unset, .unset, .unset] [(.double (0 : UInt64))]))
    refine OEnds.st (fun _ k => XS.dconst0 X1024.here hx rfl (hb hby at_36) (v := (0 : UInt64)) rfl k) ?_
    show OEnds p.tables e below G (T1024.setTop (mkF m 37 #[.val (.long q1), .second, .val (.long q2), .second, .val (.long q3), .second, .val (.long q4), .second, .val (.int p5), .val (.long (2305843009213693951 : Int64)), .second, .val (.long (2251799813685247 : Int64)), .second, .val (.int v1001), .val (.ref b1002), .unset, .unset, .unset, .unset, .unset, .unset, .unset, .unset, .unset, .unset, .unset, .unset] [(.double (0 : UInt64)), (.double (0 : UInt64))]))
    refine OEnds.st (fun _ k => XS.dcmpS X1024.here hx rfl (hb hby at_37) rfl rfl k) ?_
    show OEnds p.tables e below G (T1024.setTop (mkF m 38 #[.val (.long q1), .second, .val (.long q2), .second, .val (.long q3), .second, .val (.long q4), .second, .val (.int p5), .val (.long (2305843009213693951 : Int64)), .second, .val (.long (2251799813685247 : Int64)), .second, .val (.int v1001), .val (.ref b1002), .unset, .unset, .unset, .unset, .unset, .unset, .unset, .unset, .unset, .unset, .unset, .unset] [(.int (cmpValue (FP.dcmp (0 : UInt64) (0 : UInt64)) .l))]))
    have hc38_1025 : (cmpValue (FP.dcmp (0 : UInt64) (0 : UInt64)) .l) = (0 : Int32) := by decide +kernel
    refine OEnds.st (fun _ k => XS.ifNo X1024.here hx rfl (hb hby at_38) rfl ((if0 _ _).trans (teq hc38_1025).2) k) ?_
    show OEnds p.tables e below G (T1024.setTop (mkF m 41 #[.val (.long q1), .second, .val (.long q2), .second, .val (.long q3), .second, .val (.long q4), .second, .val (.int p5), .val (.long (2305843009213693951 : Int64)), .second, .val (.long (2251799813685247 : Int64)), .second, .val (.int v1001), .val (.ref b1002), .unset, .unset, .unset, .unset, .unset, .unset, .unset, .unset, .unset, .unset, .unset, .unset] []))
    refine OEnds.st (fun _ k => XS.iconst X1024.here hx rfl (hb hby at_41) k) ?_
    show OEnds p.tables e below G (T1024.setTop (mkF m 42 #[.val (.long q1), .second, .val (.long q2), .second, .val (.long q3), .second, .val (.long q4), .second, .val (.int p5), .val (.long (2305843009213693951 : Int64)), .second, .val (.long (2251799813685247 : Int64)), .second, .val (.int v1001), .val (.ref b1002), .unset, .unset, .unset, .unset, .unset, .unset, .unset, .unset, .unset, .unset, .unset, .unset] [(.int (1 : Int32))]))
    refine OEnds.st (fun _ k => XS.goto X1024.here hx rfl (pc0 := 42) (pc' := 46) rfl (hb hby at_42) (by decide) (by decide) k) ?_
    show OEnds p.tables e below G (T1024.setTop (mkF m 46 #[.val (.long q1), .second, .val (.long q2), .second, .val (.long q3), .second, .val (.long q4), .second, .val (.int p5), .val (.long (2305843009213693951 : Int64)), .second, .val (.long (2251799813685247 : Int64)), .second, .val (.int v1001), .val (.ref b1002), .unset, .unset, .unset, .unset, .unset, .unset, .unset, .unset, .unset, .unset, .unset, .unset] [(.int (1 : Int32))]))
    rw [← hG]
    refine OEnds.retZ X1024 hx hlk Bd.returns rfl (hb hby at_46) (by decide) (by decide) ?_
    rw [e1024]
    exact ⟨rfl, N1024⟩
  · -- pc 28: no
    refine OEnds.st (fun _ k => XS.ifYes X1008.here hx rfl (pc0 := 28) (pc' := 47) rfl (hb hby at_28) rfl ((if0 _ _).trans (feq hc28_1023).2) (by decide) (by decide) k) ?_
    show OEnds p.tables e below G (T1008.setTop (mkF m 47 #[.val (.long q1), .second, .val (.long q2), .second, .val (.long q3), .second, .val (.long q4), .second, .val (.int p5), .val (.long (2305843009213693951 : Int64)), .second, .val (.long (2251799813685247 : Int64)), .second, .val (.int v1001), .val (.ref b1002), .unset, .unset, .unset, .unset, .unset, .unset, .unset, .unset, .unset, .unset, .unset, .unset] []))
    refine OEnds.st (fun _ k => XS.iload X1008.here hx rfl (hb hby at_47) rfl k) ?_
    show OEnds p.tables e below G (T1008.setTop (mkF m 49 #[.val (.long q1), .second, .val (.long q2), .second, .val (.long q3), .second, .val (.long q4), .second, .val (.int p5), .val (.long (2305843009213693951 : Int64)), .second, .val (.long (2251799813685247 : Int64)), .second, .val (.int v1001), .val (.ref b1002), .unset, .unset, .unset, .unset, .unset, .unset, .unset, .unset, .unset, .unset, .unset, .unset] [(.int v1001)]))
    refine OEnds.st (fun _ k => XS.iconst X1008.here hx rfl (hb hby at_49) k) ?_
    show OEnds p.tables e below G (T1008.setTop (mkF m 50 #[.val (.long q1), .second, .val (.long q2), .second, .val (.long q3), .second, .val (.long q4), .second, .val (.int p5), .val (.long (2305843009213693951 : Int64)), .second, .val (.long (2251799813685247 : Int64)), .second, .val (.int v1001), .val (.ref b1002), .unset, .unset, .unset, .unset, .unset, .unset, .unset, .unset, .unset, .unset, .unset, .unset] [(.int (1 : Int32)), (.int v1001)]))
    by_cases hc50_1026 : v1001 = (1 : Int32)
    · -- pc 50: yes
      refine OEnds.st (fun _ k => XS.icmpNo X1008.here hx rfl (hb hby at_50) rfl (teq hc50_1026).2 k) ?_
      show OEnds p.tables e below G (T1008.setTop (mkF m 53 #[.val (.long q1), .second, .val (.long q2), .second, .val (.long q3), .second, .val (.long q4), .second, .val (.int p5), .val (.long (2305843009213693951 : Int64)), .second, .val (.long (2251799813685247 : Int64)), .second, .val (.int v1001), .val (.ref b1002), .unset, .unset, .unset, .unset, .unset, .unset, .unset, .unset, .unset, .unset, .unset, .unset] []))
      refine OEnds.st (fun _ k => XS.lloadN X1008.here hx rfl (hb hby at_53) rfl k) ?_
      show OEnds p.tables e below G (T1008.setTop (mkF m 54 #[.val (.long q1), .second, .val (.long q2), .second, .val (.long q3), .second, .val (.long q4), .second, .val (.int p5), .val (.long (2305843009213693951 : Int64)), .second, .val (.long (2251799813685247 : Int64)), .second, .val (.int v1001), .val (.ref b1002), .unset, .unset, .unset, .unset, .unset, .unset, .unset, .unset, .unset, .unset, .unset, .unset] [(.long q1)]))
      refine OEnds.st (fun _ k => XS.lload X1008.here hx rfl (hb hby at_54) rfl k) ?_
      show OEnds p.tables e below G (T1008.setTop (mkF m 56 #[.val (.long q1), .second, .val (.long q2), .second, .val (.long q3), .second, .val (.long q4), .second, .val (.int p5), .val (.long (2305843009213693951 : Int64)), .second, .val (.long (2251799813685247 : Int64)), .second, .val (.int v1001), .val (.ref b1002), .unset, .unset, .unset, .unset, .unset, .unset, .unset, .unset, .unset, .unset, .unset, .unset] [(.long (2305843009213693951 : Int64)), (.long q1)]))
      refine OEnds.st (fun _ k => XS.land X1008.here hx rfl (hb hby at_56) rfl k) ?_
      show OEnds p.tables e below G (T1008.setTop (mkF m 57 #[.val (.long q1), .second, .val (.long q2), .second, .val (.long q3), .second, .val (.long q4), .second, .val (.int p5), .val (.long (2305843009213693951 : Int64)), .second, .val (.long (2251799813685247 : Int64)), .second, .val (.int v1001), .val (.ref b1002), .unset, .unset, .unset, .unset, .unset, .unset, .unset, .unset, .unset, .unset, .unset, .unset] [(.long (q1 &&& (2305843009213693951 : Int64)))]))
      refine OEnds.st (fun _ k => XS.lstore X1008.here hx rfl (hb hby at_57) rfl (l' := #[.val (.long q1), .second, .val (.long q2), .second, .val (.long q3), .second, .val (.long q4), .second, .val (.int p5), .val (.long (2305843009213693951 : Int64)), .second, .val (.long (2251799813685247 : Int64)), .second, .val (.int v1001), .val (.ref b1002), .val (.long (q1 &&& (2305843009213693951 : Int64))), .second, .unset, .unset, .unset, .unset, .unset, .unset, .unset, .unset, .unset, .unset]) rfl k) ?_
      show OEnds p.tables e below G (T1008.setTop (mkF m 59 #[.val (.long q1), .second, .val (.long q2), .second, .val (.long q3), .second, .val (.long q4), .second, .val (.int p5), .val (.long (2305843009213693951 : Int64)), .second, .val (.long (2251799813685247 : Int64)), .second, .val (.int v1001), .val (.ref b1002), .val (.long (q1 &&& (2305843009213693951 : Int64))), .second, .unset, .unset, .unset, .unset, .unset, .unset, .unset, .unset, .unset, .unset] []))
      generalize hv_v1027 : (q1 &&& (2305843009213693951 : Int64)) = v1027
      have hb15 := own_wide hv_v1027
      show OEnds p.tables e below G (T1008.setTop (mkF m 59 #[.val (.long q1), .second, .val (.long q2), .second, .val (.long q3), .second, .val (.long q4), .second, .val (.int p5), .val (.long (2305843009213693951 : Int64)), .second, .val (.long (2251799813685247 : Int64)), .second, .val (.int v1001), .val (.ref b1002), .val (.long v1027), .second, .unset, .unset, .unset, .unset, .unset, .unset, .unset, .unset, .unset, .unset] []))
      refine OEnds.st (fun _ k => XS.aload X1008.here hx rfl (hb hby at_59) rfl rfl k) ?_
      show OEnds p.tables e below G (T1008.setTop (mkF m 61 #[.val (.long q1), .second, .val (.long q2), .second, .val (.long q3), .second, .val (.long q4), .second, .val (.int p5), .val (.long (2305843009213693951 : Int64)), .second, .val (.long (2251799813685247 : Int64)), .second, .val (.int v1001), .val (.ref b1002), .val (.long v1027), .second, .unset, .unset, .unset, .unset, .unset, .unset, .unset, .unset, .unset, .unset] [(.ref b1002)]))
      refine OEnds.st (fun _ k => XS.lload X1008.here hx rfl (hb hby at_61) rfl k) ?_
      show OEnds p.tables e below G (T1008.setTop (mkF m 63 #[.val (.long q1), .second, .val (.long q2), .second, .val (.long q3), .second, .val (.long q4), .second, .val (.int p5), .val (.long (2305843009213693951 : Int64)), .second, .val (.long (2251799813685247 : Int64)), .second, .val (.int v1001), .val (.ref b1002), .val (.long v1027), .second, .unset, .unset, .unset, .unset, .unset, .unset, .unset, .unset, .unset, .unset] [(.long v1027), (.ref b1002)]))
      obtain ⟨cq1028, kq1028, q1028a, q1028b, q1028c⟩ := isOf hZ rfl p1011
      obtain ⟨_, _, ⟨T1028, L1028, k1028c, n1028c⟩, -, X1028, ⟨Lc1028, hQ1028, l1028, y1028, z1028⟩, st1028⟩ := X1008.virtualBack hx (y := (⟨"com/example/marshalyard/marshalyard/proxy/ResponseTimes", "add", "(J)V"⟩ : MethodName)) (z := (⟨"com/example/marshalyard/marshalyard/proxy/ResponseTimes", "add", "(J)V"⟩ : MethodName)) hown (mvT hZ (hw _ (List.mem_of_getElem? (i := 31) rfl))) (mvT hZ (hw _ (List.mem_of_getElem? (i := 32) rfl))) (notFace_of_selects (args := #[]) (mvT hZ (hw _ (List.mem_of_getElem? (i := 34) rfl)))) (mvT hZ (hw _ (List.mem_of_getElem? (i := 34) rfl))) (mvT hZ (hw _ (List.mem_of_getElem? (i := 33) rfl))) (by decide) (backOf (W := 0) (rmadd l Z a0 hw [] b1002 v1027 b_1008 kb_1008 (0 : Int64) (0 : Int64) [] T1008.heap n0 Z1008 p1011 p1012 p1013 p1014 p1015 f1017 f1018 ge_b1002 ge_b_1008 ne1016 (by omega)) hZ (hw _ (List.mem_of_getElem? (i := 35) rfl)) (hw _ (List.mem_of_getElem? (i := 4) rfl)) (by decide) (by decide)) q1028a q1028c (g := (mkF m 63 #[.val (.long q1), .second, .val (.long q2), .second, .val (.long q3), .second, .val (.long q4), .second, .val (.int p5), .val (.long (2305843009213693951 : Int64)), .second, .val (.long (2251799813685247 : Int64)), .second, .val (.int v1001), .val (.ref b1002), .val (.long v1027), .second, .unset, .unset, .unset, .unset, .unset, .unset, .unset, .unset, .unset, .unset] [(.long v1027), (.ref b1002)])) rfl (by rw [hml]; rfl) (Steps.refl _) (argsL := [(.long v1027)]) (rest := []) (lenOf pd_5 rfl) rfl (by show 2 * 0 + _ ≤ _; exact Nat.le_of_eq rfl) (hb hby at_63) (fun _ _ => ⟨rfl, rfl, (by decide : 0 + 1 + 1 + 0 ≤ _), (by decide : 0 + 3 + 4736 + 0 ≤ _)⟩)
      dsimp only [Pt.U, Pt.locs, Pt.cells, Pt.slots] at X1028 l1028 y1028 z1028 st1028 hQ1028
      subst l1028 y1028 z1028
      obtain ⟨ws_1028, rfl, N1028q, p1029, p1030, p1031, p1032, p1033, p1034⟩ := hQ1028
      have N1028 := Fr.app N1008 N1028q
      refine OEnds.st (fun _ k => st1028.trans k) ?_
      clear st1028
      have f1035 : Sta Z T1028.heap "com/example/marshalyard/marshalyard/proxy/ResponseTimes" "SPLIT_BITS" "I" (.int (7 : Int32)) := own_Sta_keep f1017 p1029 (fun x hx => by rcases List.mem_cons.mp hx with rfl | hx; exact own_exa_ns p1011; cases List.mem_singleton.mp hx; exact Arv.nostat p1015)
      have f1036 : Sta Z T1028.heap "com/example/marshalyard/marshalyard/proxy/ResponseTimes" "EXACT_BITS" "I" (.int (11 : Int32)) := own_Sta_keep f1018 p1029 (fun x hx => by rcases List.mem_cons.mp hx with rfl | hx; exact own_exa_ns p1011; cases List.mem_singleton.mp hx; exact Arv.nostat p1015)
      have f1037 : Exa Z T1028.heap b1002 "com/example/marshalyard/marshalyard/proxy/ResponseTimes" := p1011.keep p1029
      have KK1028 : Keep h0 T1028.heap [] := KK1008.trans p1029 (fun x hx => by rcases List.mem_cons.mp hx with rfl | hx; exact Or.inr sz_b1002; cases List.mem_singleton.mp hx; exact Or.inr sz_b_1008)
      have Z1028 := Nat.le_trans Z1008 p1029.1
      show OEnds p.tables e below G (T1028.setTop (mkF m 66 #[.val (.long q1), .second, .val (.long q2), .second, .val (.long q3), .second, .val (.long q4), .second, .val (.int p5), .val (.long (2305843009213693951 : Int64)), .second, .val (.long (2251799813685247 : Int64)), .second, .val (.int v1001), .val (.ref b1002), .val (.long v1027), .second, .unset, .unset, .unset, .unset, .unset, .unset, .unset, .unset, .unset, .unset] []))
      refine OEnds.st (fun _ k => XS.aload X1028.here hx rfl (hb hby at_66) rfl rfl k) ?_
      show OEnds p.tables e below G (T1028.setTop (mkF m 68 #[.val (.long q1), .second, .val (.long q2), .second, .val (.long q3), .second, .val (.long q4), .second, .val (.int p5), .val (.long (2305843009213693951 : Int64)), .second, .val (.long (2251799813685247 : Int64)), .second, .val (.int v1001), .val (.ref b1002), .val (.long v1027), .second, .unset, .unset, .unset, .unset, .unset, .unset, .unset, .unset, .unset, .unset] [(.ref b1002)]))
      obtain ⟨cq1042, kq1042, q1042a, q1042b, q1042c⟩ := isOf hZ rfl p1030
      obtain ⟨_, _, ⟨T1042, L1042, k1042c, n1042c⟩, -, X1042, ⟨Lc1042, hQ1042, l1042, y1042, z1042⟩, st1042⟩ := X1028.virtualBack hx (y := (⟨"com/example/marshalyard/marshalyard/proxy/ResponseTimes", "averageMillis", "()D"⟩ : MethodName)) (z := (⟨"com/example/marshalyard/marshalyard/proxy/ResponseTimes", "averageMillis", "()D"⟩ : MethodName)) hown (mvT hZ (hw _ (List.mem_of_getElem? (i := 45) rfl))) (mvT hZ (hw _ (List.mem_of_getElem? (i := 46) rfl))) (notFace_of_selects (args := #[]) (mvT hZ (hw _ (List.mem_of_getElem? (i := 48) rfl)))) (mvT hZ (hw _ (List.mem_of_getElem? (i := 48) rfl))) (mvT hZ (hw _ (List.mem_of_getElem? (i := 47) rfl))) (by decide) (backOf (W := 0) (rmav l Z a0 hw [] b1002 ((0 : Int64) + (1 : Int64)) ((0 : Int64) + v1027) T1028.heap n0 Z1028 p1032 p1033 (by decide)) hZ (hw _ (List.mem_of_getElem? (i := 49) rfl)) (hw _ (List.mem_of_getElem? (i := 4) rfl)) (by decide) (by decide)) q1042a q1042c (g := (mkF m 68 #[.val (.long q1), .second, .val (.long q2), .second, .val (.long q3), .second, .val (.long q4), .second, .val (.int p5), .val (.long (2305843009213693951 : Int64)), .second, .val (.long (2251799813685247 : Int64)), .second, .val (.int v1001), .val (.ref b1002), .val (.long v1027), .second, .unset, .unset, .unset, .unset, .unset, .unset, .unset, .unset, .unset, .unset] [(.ref b1002)])) rfl (by rw [hml]; rfl) (Steps.refl _) (argsL := []) (rest := []) (lenOf pd_4 rfl) rfl (by show 2 * 0 + _ ≤ _; exact Nat.le_of_eq rfl) (hb hby at_68) (fun _ _ => ⟨rfl, rfl, (by decide : 0 + 1 + 1 + 0 + 0 ≤ _), (by decide : 0 + 3 + 4736 + 0 + 0 ≤ _)⟩)
      dsimp only [Pt.U, Pt.locs, Pt.cells, Pt.slots] at X1042 l1042 y1042 z1042 st1042 hQ1042
      subst l1042 y1042 z1042
      obtain ⟨rfl, N1042q, e1042⟩ := hQ1042
      have N1042 := Fr.app N1028 N1042q
      refine OEnds.st (fun _ k => st1042.trans k) ?_
      clear st1042
      show OEnds p.tables e below G (T1042.setTop (mkF m 71 #[.val (.long q1), .second, .val (.long q2), .second, .val (.long q3), .second, .val (.long q4), .second, .val (.int p5), .val (.long (2305843009213693951 : Int64)), .second, .val (.long (2251799813685247 : Int64)), .second, .val (.int v1001), .val (.ref b1002), .val (.long v1027), .second, .unset, .unset, .unset, .unset, .unset, .unset, .unset, .unset, .unset, .unset] [(.double (FP.ddiv (FP.ddiv (FP.l2d ((0 : Int64) + v1027)) (FP.l2d ((0 : Int64) + (1 : Int64)))) (4696837146684686336 : UInt64)))]))
      refine OEnds.st (fun _ k => XS.lload X1042.here hx rfl (hb hby at_71) rfl k) ?_
      show OEnds p.tables e below G (T1042.setTop (mkF m 73 #[.val (.long q1), .second, .val (.long q2), .second, .val (.long q3), .second, .val (.long q4), .second, .val (.int p5), .val (.long (2305843009213693951 : Int64)), .second, .val (.long (2251799813685247 : Int64)), .second, .val (.int v1001), .val (.ref b1002), .val (.long v1027), .second, .unset, .unset, .unset, .unset, .unset, .unset, .unset, .unset, .unset, .unset] [(.long v1027), (.double (FP.ddiv (FP.ddiv (FP.l2d ((0 : Int64) + v1027)) (FP.l2d ((0 : Int64) + (1 : Int64)))) (4696837146684686336 : UInt64)))]))
      refine OEnds.st (fun _ k => XS.l2dS X1042.here hx rfl (hb hby at_73) rfl (v := (FP.l2d v1027)) rfl k) ?_
      show OEnds p.tables e below G (T1042.setTop (mkF m 74 #[.val (.long q1), .second, .val (.long q2), .second, .val (.long q3), .second, .val (.long q4), .second, .val (.int p5), .val (.long (2305843009213693951 : Int64)), .second, .val (.long (2251799813685247 : Int64)), .second, .val (.int v1001), .val (.ref b1002), .val (.long v1027), .second, .unset, .unset, .unset, .unset, .unset, .unset, .unset, .unset, .unset, .unset] [(.double (FP.l2d v1027)), (.double (FP.ddiv (FP.ddiv (FP.l2d ((0 : Int64) + v1027)) (FP.l2d ((0 : Int64) + (1 : Int64)))) (4696837146684686336 : UInt64)))]))
      refine OEnds.st (X1042.ldc2DoubleC hx hown (mvT hZ (hw _ (List.mem_of_getElem? (i := 51) rfl))) (g := (mkF m 74 #[.val (.long q1), .second, .val (.long q2), .second, .val (.long q3), .second, .val (.long q4), .second, .val (.int p5), .val (.long (2305843009213693951 : Int64)), .second, .val (.long (2251799813685247 : Int64)), .second, .val (.int v1001), .val (.ref b1002), .val (.long v1027), .second, .unset, .unset, .unset, .unset, .unset, .unset, .unset, .unset, .unset, .unset] [(.double (FP.l2d v1027)), (.double (FP.ddiv (FP.ddiv (FP.l2d ((0 : Int64) + v1027)) (FP.l2d ((0 : Int64) + (1 : Int64)))) (4696837146684686336 : UInt64)))])) rfl (hb hby at_74)) ?_
      show OEnds p.tables e below G (T1042.setTop (mkF m 77 #[.val (.long q1), .second, .val (.long q2), .second, .val (.long q3), .second, .val (.long q4), .second, .val (.int p5), .val (.long (2305843009213693951 : Int64)), .second, .val (.long (2251799813685247 : Int64)), .second, .val (.int v1001), .val (.ref b1002), .val (.long v1027), .second, .unset, .unset, .unset, .unset, .unset, .unset, .unset, .unset, .unset, .unset] [(.double (4696837146684686336 : UInt64)), (.double (FP.l2d v1027)), (.double (FP.ddiv (FP.ddiv (FP.l2d ((0 : Int64) + v1027)) (FP.l2d ((0 : Int64) + (1 : Int64)))) (4696837146684686336 : UInt64)))]))
      refine OEnds.st (fun _ k => XS.ddivS X1042.here hx rfl (hb hby at_77) rfl (own_nnQ (Fl.l2d_fin _).noNaN) rfl k) ?_
      show OEnds p.tables e below G (T1042.setTop (mkF m 78 #[.val (.long q1), .second, .val (.long q2), .second, .val (.long q3), .second, .val (.long q4), .second, .val (.int p5), .val (.long (2305843009213693951 : Int64)), .second, .val (.long (2251799813685247 : Int64)), .second, .val (.int v1001), .val (.ref b1002), .val (.long v1027), .second, .unset, .unset, .unset, .unset, .unset, .unset, .unset, .unset, .unset, .unset] [(.double (FP.ddiv (FP.l2d v1027) (4696837146684686336 : UInt64))), (.double (FP.ddiv (FP.ddiv (FP.l2d ((0 : Int64) + v1027)) (FP.l2d ((0 : Int64) + (1 : Int64)))) (4696837146684686336 : UInt64)))]))
      refine OEnds.st (fun _ k => XS.dcmpS X1042.here hx rfl (hb hby at_78) rfl rfl k) ?_
      show OEnds p.tables e below G (T1042.setTop (mkF m 79 #[.val (.long q1), .second, .val (.long q2), .second, .val (.long q3), .second, .val (.long q4), .second, .val (.int p5), .val (.long (2305843009213693951 : Int64)), .second, .val (.long (2251799813685247 : Int64)), .second, .val (.int v1001), .val (.ref b1002), .val (.long v1027), .second, .unset, .unset, .unset, .unset, .unset, .unset, .unset, .unset, .unset, .unset] [(.int (cmpValue (FP.dcmp (FP.ddiv (FP.ddiv (FP.l2d ((0 : Int64) + v1027)) (FP.l2d ((0 : Int64) + (1 : Int64)))) (4696837146684686336 : UInt64)) (FP.ddiv (FP.l2d v1027) (4696837146684686336 : UInt64))) .l))]))
      have hc79_1043 : (cmpValue (FP.dcmp (FP.ddiv (FP.ddiv (FP.l2d ((0 : Int64) + v1027)) (FP.l2d ((0 : Int64) + (1 : Int64)))) (4696837146684686336 : UInt64)) (FP.ddiv (FP.l2d v1027) (4696837146684686336 : UInt64))) .l) = (0 : Int32) := by
        rw [own_z0 v1027, own_c1, own_d1]
        exact dcmpV_self (own_nnQ (Fl.l2d_fin _).noNaN) .l
      refine OEnds.st (fun _ k => XS.ifNo X1042.here hx rfl (hb hby at_79) rfl ((if0 _ _).trans (teq hc79_1043).2) k) ?_
      show OEnds p.tables e below G (T1042.setTop (mkF m 82 #[.val (.long q1), .second, .val (.long q2), .second, .val (.long q3), .second, .val (.long q4), .second, .val (.int p5), .val (.long (2305843009213693951 : Int64)), .second, .val (.long (2251799813685247 : Int64)), .second, .val (.int v1001), .val (.ref b1002), .val (.long v1027), .second, .unset, .unset, .unset, .unset, .unset, .unset, .unset, .unset, .unset, .unset] []))
      refine OEnds.st (fun _ k => XS.iconst X1042.here hx rfl (hb hby at_82) k) ?_
      show OEnds p.tables e below G (T1042.setTop (mkF m 83 #[.val (.long q1), .second, .val (.long q2), .second, .val (.long q3), .second, .val (.long q4), .second, .val (.int p5), .val (.long (2305843009213693951 : Int64)), .second, .val (.long (2251799813685247 : Int64)), .second, .val (.int v1001), .val (.ref b1002), .val (.long v1027), .second, .unset, .unset, .unset, .unset, .unset, .unset, .unset, .unset, .unset, .unset] [(.int (1 : Int32))]))
      refine OEnds.st (fun _ k => XS.goto X1042.here hx rfl (pc0 := 83) (pc' := 87) rfl (hb hby at_83) (by decide) (by decide) k) ?_
      show OEnds p.tables e below G (T1042.setTop (mkF m 87 #[.val (.long q1), .second, .val (.long q2), .second, .val (.long q3), .second, .val (.long q4), .second, .val (.int p5), .val (.long (2305843009213693951 : Int64)), .second, .val (.long (2251799813685247 : Int64)), .second, .val (.int v1001), .val (.ref b1002), .val (.long v1027), .second, .unset, .unset, .unset, .unset, .unset, .unset, .unset, .unset, .unset, .unset] [(.int (1 : Int32))]))
      rw [← hG]
      refine OEnds.retZ X1042 hx hlk Bd.returns rfl (hb hby at_87) (by decide) (by decide) ?_
      rw [e1042]
      exact ⟨rfl, N1042⟩
    · -- pc 50: no
      refine OEnds.st (fun _ k => XS.icmpYes X1008.here hx rfl (pc0 := 50) (pc' := 88) rfl (hb hby at_50) rfl (feq hc50_1026).2 (by decide) (by decide) k) ?_
      show OEnds p.tables e below G (T1008.setTop (mkF m 88 #[.val (.long q1), .second, .val (.long q2), .second, .val (.long q3), .second, .val (.long q4), .second, .val (.int p5), .val (.long (2305843009213693951 : Int64)), .second, .val (.long (2251799813685247 : Int64)), .second, .val (.int v1001), .val (.ref b1002), .unset, .unset, .unset, .unset, .unset, .unset, .unset, .unset, .unset, .unset, .unset, .unset] []))
      refine OEnds.st (fun _ k => XS.iload X1008.here hx rfl (hb hby at_88) rfl k) ?_
      show OEnds p.tables e below G (T1008.setTop (mkF m 90 #[.val (.long q1), .second, .val (.long q2), .second, .val (.long q3), .second, .val (.long q4), .second, .val (.int p5), .val (.long (2305843009213693951 : Int64)), .second, .val (.long (2251799813685247 : Int64)), .second, .val (.int v1001), .val (.ref b1002), .unset, .unset, .unset, .unset, .unset, .unset, .unset, .unset, .unset, .unset, .unset, .unset] [(.int v1001)]))
      refine OEnds.st (fun _ k => XS.iconst X1008.here hx rfl (hb hby at_90) k) ?_
      show OEnds p.tables e below G (T1008.setTop (mkF m 91 #[.val (.long q1), .second, .val (.long q2), .second, .val (.long q3), .second, .val (.long q4), .second, .val (.int p5), .val (.long (2305843009213693951 : Int64)), .second, .val (.long (2251799813685247 : Int64)), .second, .val (.int v1001), .val (.ref b1002), .unset, .unset, .unset, .unset, .unset, .unset, .unset, .unset, .unset, .unset, .unset, .unset] [(.int (2 : Int32)), (.int v1001)]))
      by_cases hc91_1044 : v1001 = (2 : Int32)
      · -- pc 91: yes
        refine OEnds.st (fun _ k => XS.icmpNo X1008.here hx rfl (hb hby at_91) rfl (teq hc91_1044).2 k) ?_
        show OEnds p.tables e below G (T1008.setTop (mkF m 94 #[.val (.long q1), .second, .val (.long q2), .second, .val (.long q3), .second, .val (.long q4), .second, .val (.int p5), .val (.long (2305843009213693951 : Int64)), .second, .val (.long (2251799813685247 : Int64)), .second, .val (.int v1001), .val (.ref b1002), .unset, .unset, .unset, .unset, .unset, .unset, .unset, .unset, .unset, .unset, .unset, .unset] []))
        refine OEnds.st (fun _ k => XS.lloadN X1008.here hx rfl (hb hby at_94) rfl k) ?_
        show OEnds p.tables e below G (T1008.setTop (mkF m 95 #[.val (.long q1), .second, .val (.long q2), .second, .val (.long q3), .second, .val (.long q4), .second, .val (.int p5), .val (.long (2305843009213693951 : Int64)), .second, .val (.long (2251799813685247 : Int64)), .second, .val (.int v1001), .val (.ref b1002), .unset, .unset, .unset, .unset, .unset, .unset, .unset, .unset, .unset, .unset, .unset, .unset] [(.long q1)]))
        refine OEnds.st (fun _ k => XS.lload X1008.here hx rfl (hb hby at_95) rfl k) ?_
        show OEnds p.tables e below G (T1008.setTop (mkF m 97 #[.val (.long q1), .second, .val (.long q2), .second, .val (.long q3), .second, .val (.long q4), .second, .val (.int p5), .val (.long (2305843009213693951 : Int64)), .second, .val (.long (2251799813685247 : Int64)), .second, .val (.int v1001), .val (.ref b1002), .unset, .unset, .unset, .unset, .unset, .unset, .unset, .unset, .unset, .unset, .unset, .unset] [(.long (2305843009213693951 : Int64)), (.long q1)]))
        refine OEnds.st (fun _ k => XS.land X1008.here hx rfl (hb hby at_97) rfl k) ?_
        show OEnds p.tables e below G (T1008.setTop (mkF m 98 #[.val (.long q1), .second, .val (.long q2), .second, .val (.long q3), .second, .val (.long q4), .second, .val (.int p5), .val (.long (2305843009213693951 : Int64)), .second, .val (.long (2251799813685247 : Int64)), .second, .val (.int v1001), .val (.ref b1002), .unset, .unset, .unset, .unset, .unset, .unset, .unset, .unset, .unset, .unset, .unset, .unset] [(.long (q1 &&& (2305843009213693951 : Int64)))]))
        refine OEnds.st (fun _ k => XS.lstore X1008.here hx rfl (hb hby at_98) rfl (l' := #[.val (.long q1), .second, .val (.long q2), .second, .val (.long q3), .second, .val (.long q4), .second, .val (.int p5), .val (.long (2305843009213693951 : Int64)), .second, .val (.long (2251799813685247 : Int64)), .second, .val (.int v1001), .val (.ref b1002), .val (.long (q1 &&& (2305843009213693951 : Int64))), .second, .unset, .unset, .unset, .unset, .unset, .unset, .unset, .unset, .unset, .unset]) rfl k) ?_
        show OEnds p.tables e below G (T1008.setTop (mkF m 100 #[.val (.long q1), .second, .val (.long q2), .second, .val (.long q3), .second, .val (.long q4), .second, .val (.int p5), .val (.long (2305843009213693951 : Int64)), .second, .val (.long (2251799813685247 : Int64)), .second, .val (.int v1001), .val (.ref b1002), .val (.long (q1 &&& (2305843009213693951 : Int64))), .second, .unset, .unset, .unset, .unset, .unset, .unset, .unset, .unset, .unset, .unset] []))
        generalize hv_v1045 : (q1 &&& (2305843009213693951 : Int64)) = v1045
        have hb15 := own_wide hv_v1045
        show OEnds p.tables e below G (T1008.setTop (mkF m 100 #[.val (.long q1), .second, .val (.long q2), .second, .val (.long q3), .second, .val (.long q4), .second, .val (.int p5), .val (.long (2305843009213693951 : Int64)), .second, .val (.long (2251799813685247 : Int64)), .second, .val (.int v1001), .val (.ref b1002), .val (.long v1045), .second, .unset, .unset, .unset, .unset, .unset, .unset, .unset, .unset, .unset, .unset] []))
        refine OEnds.st (fun _ k => XS.lloadN X1008.here hx rfl (hb hby at_100) rfl k) ?_
        show OEnds p.tables e below G (T1008.setTop (mkF m 101 #[.val (.long q1), .second, .val (.long q2), .second, .val (.long q3), .second, .val (.long q4), .second, .val (.int p5), .val (.long (2305843009213693951 : Int64)), .second, .val (.long (2251799813685247 : Int64)), .second, .val (.int v1001), .val (.ref b1002), .val (.long v1045), .second, .unset, .unset, .unset, .unset, .unset, .unset, .unset, .unset, .unset, .unset] [(.long q2)]))
        refine OEnds.st (fun _ k => XS.lload X1008.here hx rfl (hb hby at_101) rfl k) ?_
        show OEnds p.tables e below G (T1008.setTop (mkF m 103 #[.val (.long q1), .second, .val (.long q2), .second, .val (.long q3), .second, .val (.long q4), .second, .val (.int p5), .val (.long (2305843009213693951 : Int64)), .second, .val (.long (2251799813685247 : Int64)), .second, .val (.int v1001), .val (.ref b1002), .val (.long v1045), .second, .unset, .unset, .unset, .unset, .unset, .unset, .unset, .unset, .unset, .unset] [(.long (2305843009213693951 : Int64)), (.long q2)]))
        refine OEnds.st (fun _ k => XS.land X1008.here hx rfl (hb hby at_103) rfl k) ?_
        show OEnds p.tables e below G (T1008.setTop (mkF m 104 #[.val (.long q1), .second, .val (.long q2), .second, .val (.long q3), .second, .val (.long q4), .second, .val (.int p5), .val (.long (2305843009213693951 : Int64)), .second, .val (.long (2251799813685247 : Int64)), .second, .val (.int v1001), .val (.ref b1002), .val (.long v1045), .second, .unset, .unset, .unset, .unset, .unset, .unset, .unset, .unset, .unset, .unset] [(.long (q2 &&& (2305843009213693951 : Int64)))]))
        refine OEnds.st (fun _ k => XS.lstore X1008.here hx rfl (hb hby at_104) rfl (l' := #[.val (.long q1), .second, .val (.long q2), .second, .val (.long q3), .second, .val (.long q4), .second, .val (.int p5), .val (.long (2305843009213693951 : Int64)), .second, .val (.long (2251799813685247 : Int64)), .second, .val (.int v1001), .val (.ref b1002), .val (.long v1045), .second, .val (.long (q2 &&& (2305843009213693951 : Int64))), .second, .unset, .unset, .unset, .unset, .unset, .unset, .unset, .unset]) rfl k) ?_
        show OEnds p.tables e below G (T1008.setTop (mkF m 106 #[.val (.long q1), .second, .val (.long q2), .second, .val (.long q3), .second, .val (.long q4), .second, .val (.int p5), .val (.long (2305843009213693951 : Int64)), .second, .val (.long (2251799813685247 : Int64)), .second, .val (.int v1001), .val (.ref b1002), .val (.long v1045), .second, .val (.long (q2 &&& (2305843009213693951 : Int64))), .second, .unset, .unset, .unset, .unset, .unset, .unset, .unset, .unset] []))
        generalize hv_v1046 : (q2 &&& (2305843009213693951 : Int64)) = v1046
        have hb17 := own_wide hv_v1046
        show OEnds p.tables e below G (T1008.setTop (mkF m 106 #[.val (.long q1), .second, .val (.long q2), .second, .val (.long q3), .second, .val (.long q4), .second, .val (.int p5), .val (.long (2305843009213693951 : Int64)), .second, .val (.long (2251799813685247 : Int64)), .second, .val (.int v1001), .val (.ref b1002), .val (.long v1045), .second, .val (.long v1046), .second, .unset, .unset, .unset, .unset, .unset, .unset, .unset, .unset] []))
        refine OEnds.st (fun _ k => XS.aload X1008.here hx rfl (hb hby at_106) rfl rfl k) ?_
        show OEnds p.tables e below G (T1008.setTop (mkF m 108 #[.val (.long q1), .second, .val (.long q2), .second, .val (.long q3), .second, .val (.long q4), .second, .val (.int p5), .val (.long (2305843009213693951 : Int64)), .second, .val (.long (2251799813685247 : Int64)), .second, .val (.int v1001), .val (.ref b1002), .val (.long v1045), .second, .val (.long v1046), .second, .unset, .unset, .unset, .unset, .unset, .unset, .unset, .unset] [(.ref b1002)]))
        refine OEnds.st (fun _ k => XS.lload X1008.here hx rfl (hb hby at_108) rfl k) ?_
        show OEnds p.tables e below G (T1008.setTop (mkF m 110 #[.val (.long q1), .second, .val (.long q2), .second, .val (.long q3), .second, .val (.long q4), .second, .val (.int p5), .val (.long (2305843009213693951 : Int64)), .second, .val (.long (2251799813685247 : Int64)), .second, .val (.int v1001), .val (.ref b1002), .val (.long v1045), .second, .val (.long v1046), .second, .unset, .unset, .unset, .unset, .unset, .unset, .unset, .unset] [(.long v1045), (.ref b1002)]))
        obtain ⟨cq1047, kq1047, q1047a, q1047b, q1047c⟩ := isOf hZ rfl p1011
        obtain ⟨_, _, ⟨T1047, L1047, k1047c, n1047c⟩, -, X1047, ⟨Lc1047, hQ1047, l1047, y1047, z1047⟩, st1047⟩ := X1008.virtualBack hx (y := (⟨"com/example/marshalyard/marshalyard/proxy/ResponseTimes", "add", "(J)V"⟩ : MethodName)) (z := (⟨"com/example/marshalyard/marshalyard/proxy/ResponseTimes", "add", "(J)V"⟩ : MethodName)) hown (mvT hZ (hw _ (List.mem_of_getElem? (i := 31) rfl))) (mvT hZ (hw _ (List.mem_of_getElem? (i := 32) rfl))) (notFace_of_selects (args := #[]) (mvT hZ (hw _ (List.mem_of_getElem? (i := 34) rfl)))) (mvT hZ (hw _ (List.mem_of_getElem? (i := 34) rfl))) (mvT hZ (hw _ (List.mem_of_getElem? (i := 33) rfl))) (by decide) (backOf (W := 0) (rmadd l Z a0 hw [] b1002 v1045 b_1008 kb_1008 (0 : Int64) (0 : Int64) [] T1008.heap n0 Z1008 p1011 p1012 p1013 p1014 p1015 f1017 f1018 ge_b1002 ge_b_1008 ne1016 (by omega)) hZ (hw _ (List.mem_of_getElem? (i := 35) rfl)) (hw _ (List.mem_of_getElem? (i := 4) rfl)) (by decide) (by decide)) q1047a q1047c (g := (mkF m 110 #[.val (.long q1), .second, .val (.long q2), .second, .val (.long q3), .second, .val (.long q4), .second, .val (.int p5), .val (.long (2305843009213693951 : Int64)), .second, .val (.long (2251799813685247 : Int64)), .second, .val (.int v1001), .val (.ref b1002), .val (.long v1045), .second, .val (.long v1046), .second, .unset, .unset, .unset, .unset, .unset, .unset, .unset, .unset] [(.long v1045), (.ref b1002)])) rfl (by rw [hml]; rfl) (Steps.refl _) (argsL := [(.long v1045)]) (rest := []) (lenOf pd_5 rfl) rfl (by show 2 * 0 + _ ≤ _; exact Nat.le_of_eq rfl) (hb hby at_110) (fun _ _ => ⟨rfl, rfl, (by decide : 0 + 1 + 1 + 0 ≤ _), (by decide : 0 + 3 + 4736 + 0 ≤ _)⟩)
        dsimp only [Pt.U, Pt.locs, Pt.cells, Pt.slots] at X1047 l1047 y1047 z1047 st1047 hQ1047
        subst l1047 y1047 z1047
        obtain ⟨ws_1047, rfl, N1047q, p1048, p1049, p1050, p1051, p1052, p1053⟩ := hQ1047
        have N1047 := Fr.app N1008 N1047q
        refine OEnds.st (fun _ k => st1047.trans k) ?_
        clear st1047
        have f1054 : Sta Z T1047.heap "com/example/marshalyard/marshalyard/proxy/ResponseTimes" "SPLIT_BITS" "I" (.int (7 : Int32)) := own_Sta_keep f1017 p1048 (fun x hx => by rcases List.mem_cons.mp hx with rfl | hx; exact own_exa_ns p1011; cases List.mem_singleton.mp hx; exact Arv.nostat p1015)
        have f1055 : Sta Z T1047.heap "com/example/marshalyard/marshalyard/proxy/ResponseTimes" "EXACT_BITS" "I" (.int (11 : Int32)) := own_Sta_keep f1018 p1048 (fun x hx => by rcases List.mem_cons.mp hx with rfl | hx; exact own_exa_ns p1011; cases List.mem_singleton.mp hx; exact Arv.nostat p1015)
        have f1056 : Exa Z T1047.heap b1002 "com/example/marshalyard/marshalyard/proxy/ResponseTimes" := p1011.keep p1048
        have KK1047 : Keep h0 T1047.heap [] := KK1008.trans p1048 (fun x hx => by rcases List.mem_cons.mp hx with rfl | hx; exact Or.inr sz_b1002; cases List.mem_singleton.mp hx; exact Or.inr sz_b_1008)
        have Z1047 := Nat.le_trans Z1008 p1048.1
        show OEnds p.tables e below G (T1047.setTop (mkF m 113 #[.val (.long q1), .second, .val (.long q2), .second, .val (.long q3), .second, .val (.long q4), .second, .val (.int p5), .val (.long (2305843009213693951 : Int64)), .second, .val (.long (2251799813685247 : Int64)), .second, .val (.int v1001), .val (.ref b1002), .val (.long v1045), .second, .val (.long v1046), .second, .unset, .unset, .unset, .unset, .unset, .unset, .unset, .unset] []))
        refine OEnds.st (fun _ k => XS.aload X1047.here hx rfl (hb hby at_113) rfl rfl k) ?_
        show OEnds p.tables e below G (T1047.setTop (mkF m 115 #[.val (.long q1), .second, .val (.long q2), .second, .val (.long q3), .second, .val (.long q4), .second, .val (.int p5), .val (.long (2305843009213693951 : Int64)), .second, .val (.long (2251799813685247 : Int64)), .second, .val (.int v1001), .val (.ref b1002), .val (.long v1045), .second, .val (.long v1046), .second, .unset, .unset, .unset, .unset, .unset, .unset, .unset, .unset] [(.ref b1002)]))
        refine OEnds.st (fun _ k => XS.lload X1047.here hx rfl (hb hby at_115) rfl k) ?_
        show OEnds p.tables e below G (T1047.setTop (mkF m 117 #[.val (.long q1), .second, .val (.long q2), .second, .val (.long q3), .second, .val (.long q4), .second, .val (.int p5), .val (.long (2305843009213693951 : Int64)), .second, .val (.long (2251799813685247 : Int64)), .second, .val (.int v1001), .val (.ref b1002), .val (.long v1045), .second, .val (.long v1046), .second, .unset, .unset, .unset, .unset, .unset, .unset, .unset, .unset] [(.long v1046), (.ref b1002)]))
        obtain ⟨cq1061, kq1061, q1061a, q1061b, q1061c⟩ := isOf hZ rfl p1049
        obtain ⟨_, _, ⟨T1061, L1061, k1061c, n1061c⟩, -, X1061, ⟨Lc1061, hQ1061, l1061, y1061, z1061⟩, st1061⟩ := X1047.virtualBack hx (y := (⟨"com/example/marshalyard/marshalyard/proxy/ResponseTimes", "add", "(J)V"⟩ : MethodName)) (z := (⟨"com/example/marshalyard/marshalyard/proxy/ResponseTimes", "add", "(J)V"⟩ : MethodName)) hown (mvT hZ (hw _ (List.mem_of_getElem? (i := 31) rfl))) (mvT hZ (hw _ (List.mem_of_getElem? (i := 32) rfl))) (notFace_of_selects (args := #[]) (mvT hZ (hw _ (List.mem_of_getElem? (i := 34) rfl)))) (mvT hZ (hw _ (List.mem_of_getElem? (i := 34) rfl))) (mvT hZ (hw _ (List.mem_of_getElem? (i := 33) rfl))) (by decide) (backOf (W := 0) (rmadd l Z a0 hw [] b1002 v1046 b_1008 kb_1008 ((0 : Int64) + (1 : Int64)) ((0 : Int64) + v1045) ws_1047 T1047.heap n0 Z1047 p1049 p1050 p1051 p1052 p1053 f1054 f1055 ge_b1002 ge_b_1008 ne1016 (by omega)) hZ (hw _ (List.mem_of_getElem? (i := 35) rfl)) (hw _ (List.mem_of_getElem? (i := 4) rfl)) (by decide) (by decide)) q1061a q1061c (g := (mkF m 117 #[.val (.long q1), .second, .val (.long q2), .second, .val (.long q3), .second, .val (.long q4), .second, .val (.int p5), .val (.long (2305843009213693951 : Int64)), .second, .val (.long (2251799813685247 : Int64)), .second, .val (.int v1001), .val (.ref b1002), .val (.long v1045), .second, .val (.long v1046), .second, .unset, .unset, .unset, .unset, .unset, .unset, .unset, .unset] [(.long v1046), (.ref b1002)])) rfl (by rw [hml]; rfl) (Steps.refl _) (argsL := [(.long v1046)]) (rest := []) (lenOf pd_5 rfl) rfl (by show 2 * 0 + _ ≤ _; exact Nat.le_of_eq rfl) (hb hby at_117) (fun _ _ => ⟨rfl, rfl, (by decide : 0 + 1 + 1 + 0 + 0 ≤ _), (by decide : 0 + 3 + 4736 + 0 + 0 ≤ _)⟩)
        dsimp only [Pt.U, Pt.locs, Pt.cells, Pt.slots] at X1061 l1061 y1061 z1061 st1061 hQ1061
        subst l1061 y1061 z1061
        obtain ⟨ws_1061, rfl, N1061q, p1062, p1063, p1064, p1065, p1066, p1067⟩ := hQ1061
        have N1061 := Fr.app N1047 N1061q
        refine OEnds.st (fun _ k => st1061.trans k) ?_
        clear st1061
        have f1068 : Sta Z T1061.heap "com/example/marshalyard/marshalyard/proxy/ResponseTimes" "SPLIT_BITS" "I" (.int (7 : Int32)) := own_Sta_keep f1054 p1062 (fun x hx => by rcases List.mem_cons.mp hx with rfl | hx; exact own_exa_ns p1049; cases List.mem_singleton.mp hx; exact Arv.nostat p1053)
        have f1069 : Sta Z T1061.heap "com/example/marshalyard/marshalyard/proxy/ResponseTimes" "EXACT_BITS" "I" (.int (11 : Int32)) := own_Sta_keep f1055 p1062 (fun x hx => by rcases List.mem_cons.mp hx with rfl | hx; exact own_exa_ns p1049; cases List.mem_singleton.mp hx; exact Arv.nostat p1053)
        have f1070 : Exa Z T1061.heap b1002 "com/example/marshalyard/marshalyard/proxy/ResponseTimes" := p1049.keep p1062
        have KK1061 : Keep h0 T1061.heap [] := KK1047.trans p1062 (fun x hx => by rcases List.mem_cons.mp hx with rfl | hx; exact Or.inr sz_b1002; cases List.mem_singleton.mp hx; exact Or.inr sz_b_1008)
        have Z1061 := Nat.le_trans Z1047 p1062.1
        show OEnds p.tables e below G (T1061.setTop (mkF m 120 #[.val (.long q1), .second, .val (.long q2), .second, .val (.long q3), .second, .val (.long q4), .second, .val (.int p5), .val (.long (2305843009213693951 : Int64)), .second, .val (.long (2251799813685247 : Int64)), .second, .val (.int v1001), .val (.ref b1002), .val (.long v1045), .second, .val (.long v1046), .second, .unset, .unset, .unset, .unset, .unset, .unset, .unset, .unset] []))
        refine OEnds.st (fun _ k => XS.aload X1061.here hx rfl (hb hby at_120) rfl rfl k) ?_
        show OEnds p.tables e below G (T1061.setTop (mkF m 122 #[.val (.long q1), .second, .val (.long q2), .second, .val (.long q3), .second, .val (.long q4), .second, .val (.int p5), .val (.long (2305843009213693951 : Int64)), .second, .val (.long (2251799813685247 : Int64)), .second, .val (.int v1001), .val (.ref b1002), .val (.long v1045), .second, .val (.long v1046), .second, .unset, .unset, .unset, .unset, .unset, .unset, .unset, .unset] [(.ref b1002)]))
        obtain ⟨cq1075, kq1075, q1075a, q1075b, q1075c⟩ := isOf hZ rfl p1063
        obtain ⟨_, _, ⟨T1075, L1075, k1075c, n1075c⟩, -, X1075, ⟨Lc1075, hQ1075, l1075, y1075, z1075⟩, st1075⟩ := X1061.virtualBack hx (y := (⟨"com/example/marshalyard/marshalyard/proxy/ResponseTimes", "averageMillis", "()D"⟩ : MethodName)) (z := (⟨"com/example/marshalyard/marshalyard/proxy/ResponseTimes", "averageMillis", "()D"⟩ : MethodName)) hown (mvT hZ (hw _ (List.mem_of_getElem? (i := 45) rfl))) (mvT hZ (hw _ (List.mem_of_getElem? (i := 46) rfl))) (notFace_of_selects (args := #[]) (mvT hZ (hw _ (List.mem_of_getElem? (i := 48) rfl)))) (mvT hZ (hw _ (List.mem_of_getElem? (i := 48) rfl))) (mvT hZ (hw _ (List.mem_of_getElem? (i := 47) rfl))) (by decide) (backOf (W := 0) (rmav l Z a0 hw [] b1002 (((0 : Int64) + (1 : Int64)) + (1 : Int64)) (((0 : Int64) + v1045) + v1046) T1061.heap n0 Z1061 p1065 p1066 (by decide)) hZ (hw _ (List.mem_of_getElem? (i := 49) rfl)) (hw _ (List.mem_of_getElem? (i := 4) rfl)) (by decide) (by decide)) q1075a q1075c (g := (mkF m 122 #[.val (.long q1), .second, .val (.long q2), .second, .val (.long q3), .second, .val (.long q4), .second, .val (.int p5), .val (.long (2305843009213693951 : Int64)), .second, .val (.long (2251799813685247 : Int64)), .second, .val (.int v1001), .val (.ref b1002), .val (.long v1045), .second, .val (.long v1046), .second, .unset, .unset, .unset, .unset, .unset, .unset, .unset, .unset] [(.ref b1002)])) rfl (by rw [hml]; rfl) (Steps.refl _) (argsL := []) (rest := []) (lenOf pd_4 rfl) rfl (by show 2 * 0 + _ ≤ _; exact Nat.le_of_eq rfl) (hb hby at_122) (fun _ _ => ⟨rfl, rfl, (by decide : 0 + 1 + 1 + 0 + 0 + 0 ≤ _), (by decide : 0 + 3 + 4736 + 0 + 0 + 0 ≤ _)⟩)
        dsimp only [Pt.U, Pt.locs, Pt.cells, Pt.slots] at X1075 l1075 y1075 z1075 st1075 hQ1075
        subst l1075 y1075 z1075
        obtain ⟨rfl, N1075q, e1075⟩ := hQ1075
        have N1075 := Fr.app N1061 N1075q
        refine OEnds.st (fun _ k => st1075.trans k) ?_
        clear st1075
        show OEnds p.tables e below G (T1075.setTop (mkF m 125 #[.val (.long q1), .second, .val (.long q2), .second, .val (.long q3), .second, .val (.long q4), .second, .val (.int p5), .val (.long (2305843009213693951 : Int64)), .second, .val (.long (2251799813685247 : Int64)), .second, .val (.int v1001), .val (.ref b1002), .val (.long v1045), .second, .val (.long v1046), .second, .unset, .unset, .unset, .unset, .unset, .unset, .unset, .unset] [(.double (FP.ddiv (FP.ddiv (FP.l2d (((0 : Int64) + v1045) + v1046)) (FP.l2d (((0 : Int64) + (1 : Int64)) + (1 : Int64)))) (4696837146684686336 : UInt64)))]))
        refine OEnds.st (fun _ k => XS.lload X1075.here hx rfl (hb hby at_125) rfl k) ?_
        show OEnds p.tables e below G (T1075.setTop (mkF m 127 #[.val (.long q1), .second, .val (.long q2), .second, .val (.long q3), .second, .val (.long q4), .second, .val (.int p5), .val (.long (2305843009213693951 : Int64)), .second, .val (.long (2251799813685247 : Int64)), .second, .val (.int v1001), .val (.ref b1002), .val (.long v1045), .second, .val (.long v1046), .second, .unset, .unset, .unset, .unset, .unset, .unset, .unset, .unset] [(.long v1045), (.double (FP.ddiv (FP.ddiv (FP.l2d (((0 : Int64) + v1045) + v1046)) (FP.l2d (((0 : Int64) + (1 : Int64)) + (1 : Int64)))) (4696837146684686336 : UInt64)))]))
        refine OEnds.st (fun _ k => XS.lload X1075.here hx rfl (hb hby at_127) rfl k) ?_
        show OEnds p.tables e below G (T1075.setTop (mkF m 129 #[.val (.long q1), .second, .val (.long q2), .second, .val (.long q3), .second, .val (.long q4), .second, .val (.int p5), .val (.long (2305843009213693951 : Int64)), .second, .val (.long (2251799813685247 : Int64)), .second, .val (.int v1001), .val (.ref b1002), .val (.long v1045), .second, .val (.long v1046), .second, .unset, .unset, .unset, .unset, .unset, .unset, .unset, .unset] [(.long v1046), (.long v1045), (.double (FP.ddiv (FP.ddiv (FP.l2d (((0 : Int64) + v1045) + v1046)) (FP.l2d (((0 : Int64) + (1 : Int64)) + (1 : Int64)))) (4696837146684686336 : UInt64)))]))
        refine OEnds.st (fun _ k => XS.ladd X1075.here hx rfl (hb hby at_129) rfl k) ?_
        show OEnds p.tables e below G (T1075.setTop (mkF m 130 #[.val (.long q1), .second, .val (.long q2), .second, .val (.long q3), .second, .val (.long q4), .second, .val (.int p5), .val (.long (2305843009213693951 : Int64)), .second, .val (.long (2251799813685247 : Int64)), .second, .val (.int v1001), .val (.ref b1002), .val (.long v1045), .second, .val (.long v1046), .second, .unset, .unset, .unset, .unset, .unset, .unset, .unset, .unset] [(.long (v1045 + v1046)), (.double (FP.ddiv (FP.ddiv (FP.l2d (((0 : Int64) + v1045) + v1046)) (FP.l2d (((0 : Int64) + (1 : Int64)) + (1 : Int64)))) (4696837146684686336 : UInt64)))]))
        refine OEnds.st (fun _ k => XS.l2dS X1075.here hx rfl (hb hby at_130) rfl (v := (FP.l2d (v1045 + v1046))) rfl k) ?_
        show OEnds p.tables e below G (T1075.setTop (mkF m 131 #[.val (.long q1), .second, .val (.long q2), .second, .val (.long q3), .second, .val (.long q4), .second, .val (.int p5), .val (.long (2305843009213693951 : Int64)), .second, .val (.long (2251799813685247 : Int64)), .second, .val (.int v1001), .val (.ref b1002), .val (.long v1045), .second, .val (.long v1046), .second, .unset, .unset, .unset, .unset, .unset, .unset, .unset, .unset] [(.double (FP.l2d (v1045 + v1046))), (.double (FP.ddiv (FP.ddiv (FP.l2d (((0 : Int64) + v1045) + v1046)) (FP.l2d (((0 : Int64) + (1 : Int64)) + (1 : Int64)))) (4696837146684686336 : UInt64)))]))
        refine OEnds.st (X1075.ldc2DoubleC hx hown (mvT hZ (hw _ (List.mem_of_getElem? (i := 58) rfl))) (g := (mkF m 131 #[.val (.long q1), .second, .val (.long q2), .second, .val (.long q3), .second, .val (.long q4), .second, .val (.int p5), .val (.long (2305843009213693951 : Int64)), .second, .val (.long (2251799813685247 : Int64)), .second, .val (.int v1001), .val (.ref b1002), .val (.long v1045), .second, .val (.long v1046), .second, .unset, .unset, .unset, .unset, .unset, .unset, .unset, .unset] [(.double (FP.l2d (v1045 + v1046))), (.double (FP.ddiv (FP.ddiv (FP.l2d (((0 : Int64) + v1045) + v1046)) (FP.l2d (((0 : Int64) + (1 : Int64)) + (1 : Int64)))) (4696837146684686336 : UInt64)))])) rfl (hb hby at_131)) ?_
        show OEnds p.tables e below G (T1075.setTop (mkF m 134 #[.val (.long q1), .second, .val (.long q2), .second, .val (.long q3), .second, .val (.long q4), .second, .val (.int p5), .val (.long (2305843009213693951 : Int64)), .second, .val (.long (2251799813685247 : Int64)), .second, .val (.int v1001), .val (.ref b1002), .val (.long v1045), .second, .val (.long v1046), .second, .unset, .unset, .unset, .unset, .unset, .unset, .unset, .unset] [(.double (4602678819172646912 : UInt64)), (.double (FP.l2d (v1045 + v1046))), (.double (FP.ddiv (FP.ddiv (FP.l2d (((0 : Int64) + v1045) + v1046)) (FP.l2d (((0 : Int64) + (1 : Int64)) + (1 : Int64)))) (4696837146684686336 : UInt64)))]))
        refine OEnds.st (fun _ k => XS.dmulS X1075.here hx rfl (hb hby at_134) rfl (Fl.dmul_out (Fl.l2d_fin _) (own_fL (by decide))) rfl k) ?_
        show OEnds p.tables e below G (T1075.setTop (mkF m 135 #[.val (.long q1), .second, .val (.long q2), .second, .val (.long q3), .second, .val (.long q4), .second, .val (.int p5), .val (.long (2305843009213693951 : Int64)), .second, .val (.long (2251799813685247 : Int64)), .second, .val (.int v1001), .val (.ref b1002), .val (.long v1045), .second, .val (.long v1046), .second, .unset, .unset, .unset, .unset, .unset, .unset, .unset, .unset] [(.double (FP.dmul (FP.l2d (v1045 + v1046)) (4602678819172646912 : UInt64))), (.double (FP.ddiv (FP.ddiv (FP.l2d (((0 : Int64) + v1045) + v1046)) (FP.l2d (((0 : Int64) + (1 : Int64)) + (1 : Int64)))) (4696837146684686336 : UInt64)))]))
        refine OEnds.st (X1075.ldc2DoubleC hx hown (mvT hZ (hw _ (List.mem_of_getElem? (i := 51) rfl))) (g := (mkF m 135 #[.val (.long q1), .second, .val (.long q2), .second, .val (.long q3), .second, .val (.long q4), .second, .val (.int p5), .val (.long (2305843009213693951 : Int64)), .second, .val (.long (2251799813685247 : Int64)), .second, .val (.int v1001), .val (.ref b1002), .val (.long v1045), .second, .val (.long v1046), .second, .unset, .unset, .unset, .unset, .unset, .unset, .unset, .unset] [(.double (FP.dmul (FP.l2d (v1045 + v1046)) (4602678819172646912 : UInt64))), (.double (FP.ddiv (FP.ddiv (FP.l2d (((0 : Int64) + v1045) + v1046)) (FP.l2d (((0 : Int64) + (1 : Int64)) + (1 : Int64)))) (4696837146684686336 : UInt64)))])) rfl (hb hby at_135)) ?_
        show OEnds p.tables e below G (T1075.setTop (mkF m 138 #[.val (.long q1), .second, .val (.long q2), .second, .val (.long q3), .second, .val (.long q4), .second, .val (.int p5), .val (.long (2305843009213693951 : Int64)), .second, .val (.long (2251799813685247 : Int64)), .second, .val (.int v1001), .val (.ref b1002), .val (.long v1045), .second, .val (.long v1046), .second, .unset, .unset, .unset, .unset, .unset, .unset, .unset, .unset] [(.double (4696837146684686336 : UInt64)), (.double (FP.dmul (FP.l2d (v1045 + v1046)) (4602678819172646912 : UInt64))), (.double (FP.ddiv (FP.ddiv (FP.l2d (((0 : Int64) + v1045) + v1046)) (FP.l2d (((0 : Int64) + (1 : Int64)) + (1 : Int64)))) (4696837146684686336 : UInt64)))]))
        refine OEnds.st (fun _ k => XS.ddivS X1075.here hx rfl (hb hby at_138) rfl (own_nnQ (Fl.dmul_out (Fl.l2d_fin _) (own_fL (by decide)))) rfl k) ?_
        show OEnds p.tables e below G (T1075.setTop (mkF m 139 #[.val (.long q1), .second, .val (.long q2), .second, .val (.long q3), .second, .val (.long q4), .second, .val (.int p5), .val (.long (2305843009213693951 : Int64)), .second, .val (.long (2251799813685247 : Int64)), .second, .val (.int v1001), .val (.ref b1002), .val (.long v1045), .second, .val (.long v1046), .second, .unset, .unset, .unset, .unset, .unset, .unset, .unset, .unset] [(.double (FP.ddiv (FP.dmul (FP.l2d (v1045 + v1046)) (4602678819172646912 : UInt64)) (4696837146684686336 : UInt64))), (.double (FP.ddiv (FP.ddiv (FP.l2d (((0 : Int64) + v1045) + v1046)) (FP.l2d (((0 : Int64) + (1 : Int64)) + (1 : Int64)))) (4696837146684686336 : UInt64)))]))
        refine OEnds.st (fun _ k => XS.dcmpS X1075.here hx rfl (hb hby at_139) rfl rfl k) ?_
        show OEnds p.tables e below G (T1075.setTop (mkF m 140 #[.val (.long q1), .second, .val (.long q2), .second, .val (.long q3), .second, .val (.long q4), .second, .val (.int p5), .val (.long (2305843009213693951 : Int64)), .second, .val (.long (2251799813685247 : Int64)), .second, .val (.int v1001), .val (.ref b1002), .val (.long v1045), .second, .val (.long v1046), .second, .unset, .unset, .unset, .unset, .unset, .unset, .unset, .unset] [(.int (cmpValue (FP.dcmp (FP.ddiv (FP.ddiv (FP.l2d (((0 : Int64) + v1045) + v1046)) (FP.l2d (((0 : Int64) + (1 : Int64)) + (1 : Int64)))) (4696837146684686336 : UInt64)) (FP.ddiv (FP.dmul (FP.l2d (v1045 + v1046)) (4602678819172646912 : UInt64)) (4696837146684686336 : UInt64))) .l))]))
        have hc140_1076 : (cmpValue (FP.dcmp (FP.ddiv (FP.ddiv (FP.l2d (((0 : Int64) + v1045) + v1046)) (FP.l2d (((0 : Int64) + (1 : Int64)) + (1 : Int64)))) (4696837146684686336 : UInt64)) (FP.ddiv (FP.dmul (FP.l2d (v1045 + v1046)) (4602678819172646912 : UInt64)) (4696837146684686336 : UInt64))) .l) = (0 : Int32) := by
          rw [own_z0 v1045, own_c2, own_d2]
          exact dcmpV_self (own_nnQ (Fl.dmul_out (Fl.l2d_fin _) (own_fL (by decide)))) .l
        refine OEnds.st (fun _ k => XS.ifNo X1075.here hx rfl (hb hby at_140) rfl ((if0 _ _).trans (teq hc140_1076).2) k) ?_
        show OEnds p.tables e below G (T1075.setTop (mkF m 143 #[.val (.long q1), .second, .val (.long q2), .second, .val (.long q3), .second, .val (.long q4), .second, .val (.int p5), .val (.long (2305843009213693951 : Int64)), .second, .val (.long (2251799813685247 : Int64)), .second, .val (.int v1001), .val (.ref b1002), .val (.long v1045), .second, .val (.long v1046), .second, .unset, .unset, .unset, .unset, .unset, .unset, .unset, .unset] []))
        refine OEnds.st (fun _ k => XS.iconst X1075.here hx rfl (hb hby at_143) k) ?_
        show OEnds p.tables e below G (T1075.setTop (mkF m 144 #[.val (.long q1), .second, .val (.long q2), .second, .val (.long q3), .second, .val (.long q4), .second, .val (.int p5), .val (.long (2305843009213693951 : Int64)), .second, .val (.long (2251799813685247 : Int64)), .second, .val (.int v1001), .val (.ref b1002), .val (.long v1045), .second, .val (.long v1046), .second, .unset, .unset, .unset, .unset, .unset, .unset, .unset, .unset] [(.int (1 : Int32))]))
        refine OEnds.st (fun _ k => XS.goto X1075.here hx rfl (pc0 := 144) (pc' := 148) rfl (hb hby at_144) (by decide) (by decide) k) ?_
        show OEnds p.tables e below G (T1075.setTop (mkF m 148 #[.val (.long q1), .second, .val (.long q2), .second, .val (.long q3), .second, .val (.long q4), .second, .val (.int p5), .val (.long (2305843009213693951 : Int64)), .second, .val (.long (2251799813685247 : Int64)), .second, .val (.int v1001), .val (.ref b1002), .val (.long v1045), .second, .val (.long v1046), .second, .unset, .unset, .unset, .unset, .unset, .unset, .unset, .unset] [(.int (1 : Int32))]))
        rw [← hG]
        refine OEnds.retZ X1075 hx hlk Bd.returns rfl (hb hby at_148) (by decide) (by decide) ?_
        rw [e1075]
        exact ⟨rfl, N1075⟩
      · -- pc 91: no
        refine OEnds.st (fun _ k => XS.icmpYes X1008.here hx rfl (pc0 := 91) (pc' := 149) rfl (hb hby at_91) rfl (feq hc91_1044).2 (by decide) (by decide) k) ?_
        show OEnds p.tables e below G (T1008.setTop (mkF m 149 #[.val (.long q1), .second, .val (.long q2), .second, .val (.long q3), .second, .val (.long q4), .second, .val (.int p5), .val (.long (2305843009213693951 : Int64)), .second, .val (.long (2251799813685247 : Int64)), .second, .val (.int v1001), .val (.ref b1002), .unset, .unset, .unset, .unset, .unset, .unset, .unset, .unset, .unset, .unset, .unset, .unset] []))
        refine OEnds.st (fun _ k => XS.iload X1008.here hx rfl (hb hby at_149) rfl k) ?_
        show OEnds p.tables e below G (T1008.setTop (mkF m 151 #[.val (.long q1), .second, .val (.long q2), .second, .val (.long q3), .second, .val (.long q4), .second, .val (.int p5), .val (.long (2305843009213693951 : Int64)), .second, .val (.long (2251799813685247 : Int64)), .second, .val (.int v1001), .val (.ref b1002), .unset, .unset, .unset, .unset, .unset, .unset, .unset, .unset, .unset, .unset, .unset, .unset] [(.int v1001)]))
        refine OEnds.st (fun _ k => XS.iconst X1008.here hx rfl (hb hby at_151) k) ?_
        show OEnds p.tables e below G (T1008.setTop (mkF m 152 #[.val (.long q1), .second, .val (.long q2), .second, .val (.long q3), .second, .val (.long q4), .second, .val (.int p5), .val (.long (2305843009213693951 : Int64)), .second, .val (.long (2251799813685247 : Int64)), .second, .val (.int v1001), .val (.ref b1002), .unset, .unset, .unset, .unset, .unset, .unset, .unset, .unset, .unset, .unset, .unset, .unset] [(.int (3 : Int32)), (.int v1001)]))
        by_cases hc152_1077 : v1001 = (3 : Int32)
        · -- pc 152: yes
          refine OEnds.st (fun _ k => XS.icmpNo X1008.here hx rfl (hb hby at_152) rfl (teq hc152_1077).2 k) ?_
          show OEnds p.tables e below G (T1008.setTop (mkF m 155 #[.val (.long q1), .second, .val (.long q2), .second, .val (.long q3), .second, .val (.long q4), .second, .val (.int p5), .val (.long (2305843009213693951 : Int64)), .second, .val (.long (2251799813685247 : Int64)), .second, .val (.int v1001), .val (.ref b1002), .unset, .unset, .unset, .unset, .unset, .unset, .unset, .unset, .unset, .unset, .unset, .unset] []))
          refine OEnds.st (fun _ k => XS.lloadN X1008.here hx rfl (hb hby at_155) rfl k) ?_
          show OEnds p.tables e below G (T1008.setTop (mkF m 156 #[.val (.long q1), .second, .val (.long q2), .second, .val (.long q3), .second, .val (.long q4), .second, .val (.int p5), .val (.long (2305843009213693951 : Int64)), .second, .val (.long (2251799813685247 : Int64)), .second, .val (.int v1001), .val (.ref b1002), .unset, .unset, .unset, .unset, .unset, .unset, .unset, .unset, .unset, .unset, .unset, .unset] [(.long q1)]))
          refine OEnds.st (fun _ k => XS.lload X1008.here hx rfl (hb hby at_156) rfl k) ?_
          show OEnds p.tables e below G (T1008.setTop (mkF m 158 #[.val (.long q1), .second, .val (.long q2), .second, .val (.long q3), .second, .val (.long q4), .second, .val (.int p5), .val (.long (2305843009213693951 : Int64)), .second, .val (.long (2251799813685247 : Int64)), .second, .val (.int v1001), .val (.ref b1002), .unset, .unset, .unset, .unset, .unset, .unset, .unset, .unset, .unset, .unset, .unset, .unset] [(.long (2251799813685247 : Int64)), (.long q1)]))
          refine OEnds.st (fun _ k => XS.land X1008.here hx rfl (hb hby at_158) rfl k) ?_
          show OEnds p.tables e below G (T1008.setTop (mkF m 159 #[.val (.long q1), .second, .val (.long q2), .second, .val (.long q3), .second, .val (.long q4), .second, .val (.int p5), .val (.long (2305843009213693951 : Int64)), .second, .val (.long (2251799813685247 : Int64)), .second, .val (.int v1001), .val (.ref b1002), .unset, .unset, .unset, .unset, .unset, .unset, .unset, .unset, .unset, .unset, .unset, .unset] [(.long (q1 &&& (2251799813685247 : Int64)))]))
          refine OEnds.st (fun _ k => XS.lstore X1008.here hx rfl (hb hby at_159) rfl (l' := #[.val (.long q1), .second, .val (.long q2), .second, .val (.long q3), .second, .val (.long q4), .second, .val (.int p5), .val (.long (2305843009213693951 : Int64)), .second, .val (.long (2251799813685247 : Int64)), .second, .val (.int v1001), .val (.ref b1002), .val (.long (q1 &&& (2251799813685247 : Int64))), .second, .unset, .unset, .unset, .unset, .unset, .unset, .unset, .unset, .unset, .unset]) rfl k) ?_
          show OEnds p.tables e below G (T1008.setTop (mkF m 161 #[.val (.long q1), .second, .val (.long q2), .second, .val (.long q3), .second, .val (.long q4), .second, .val (.int p5), .val (.long (2305843009213693951 : Int64)), .second, .val (.long (2251799813685247 : Int64)), .second, .val (.int v1001), .val (.ref b1002), .val (.long (q1 &&& (2251799813685247 : Int64))), .second, .unset, .unset, .unset, .unset, .unset, .unset, .unset, .unset, .unset, .unset] []))
          generalize hv_v1078 : (q1 &&& (2251799813685247 : Int64)) = v1078
          have hb15 := own_nrw hv_v1078
          show OEnds p.tables e below G (T1008.setTop (mkF m 161 #[.val (.long q1), .second, .val (.long q2), .second, .val (.long q3), .second, .val (.long q4), .second, .val (.int p5), .val (.long (2305843009213693951 : Int64)), .second, .val (.long (2251799813685247 : Int64)), .second, .val (.int v1001), .val (.ref b1002), .val (.long v1078), .second, .unset, .unset, .unset, .unset, .unset, .unset, .unset, .unset, .unset, .unset] []))
          refine OEnds.st (fun _ k => XS.aload X1008.here hx rfl (hb hby at_161) rfl rfl k) ?_
          show OEnds p.tables e below G (T1008.setTop (mkF m 163 #[.val (.long q1), .second, .val (.long q2), .second, .val (.long q3), .second, .val (.long q4), .second, .val (.int p5), .val (.long (2305843009213693951 : Int64)), .second, .val (.long (2251799813685247 : Int64)), .second, .val (.int v1001), .val (.ref b1002), .val (.long v1078), .second, .unset, .unset, .unset, .unset, .unset, .unset, .unset, .unset, .unset, .unset] [(.ref b1002)]))
          refine OEnds.st (fun _ k => XS.lload X1008.here hx rfl (hb hby at_163) rfl k) ?_
          show OEnds p.tables e below G (T1008.setTop (mkF m 165 #[.val (.long q1), .second, .val (.long q2), .second, .val (.long q3), .second, .val (.long q4), .second, .val (.int p5), .val (.long (2305843009213693951 : Int64)), .second, .val (.long (2251799813685247 : Int64)), .second, .val (.int v1001), .val (.ref b1002), .val (.long v1078), .second, .unset, .unset, .unset, .unset, .unset, .unset, .unset, .unset, .unset, .unset] [(.long v1078), (.ref b1002)]))
          obtain ⟨cq1079, kq1079, q1079a, q1079b, q1079c⟩ := isOf hZ rfl p1011
          obtain ⟨_, _, ⟨T1079, L1079, k1079c, n1079c⟩, -, X1079, ⟨Lc1079, hQ1079, l1079, y1079, z1079⟩, st1079⟩ := X1008.virtualBack hx (y := (⟨"com/example/marshalyard/marshalyard/proxy/ResponseTimes", "add", "(J)V"⟩ : MethodName)) (z := (⟨"com/example/marshalyard/marshalyard/proxy/ResponseTimes", "add", "(J)V"⟩ : MethodName)) hown (mvT hZ (hw _ (List.mem_of_getElem? (i := 31) rfl))) (mvT hZ (hw _ (List.mem_of_getElem? (i := 32) rfl))) (notFace_of_selects (args := #[]) (mvT hZ (hw _ (List.mem_of_getElem? (i := 34) rfl)))) (mvT hZ (hw _ (List.mem_of_getElem? (i := 34) rfl))) (mvT hZ (hw _ (List.mem_of_getElem? (i := 33) rfl))) (by decide) (backOf (W := 0) (rmadd l Z a0 hw [] b1002 v1078 b_1008 kb_1008 (0 : Int64) (0 : Int64) [] T1008.heap n0 Z1008 p1011 p1012 p1013 p1014 p1015 f1017 f1018 ge_b1002 ge_b_1008 ne1016 (by omega)) hZ (hw _ (List.mem_of_getElem? (i := 35) rfl)) (hw _ (List.mem_of_getElem? (i := 4) rfl)) (by decide) (by decide)) q1079a q1079c (g := (mkF m 165 #[.val (.long q1), .second, .val (.long q2), .second, .val (.long q3), .second, .val (.long q4), .second, .val (.int p5), .val (.long (2305843009213693951 : Int64)), .second, .val (.long (2251799813685247 : Int64)), .second, .val (.int v1001), .val (.ref b1002), .val (.long v1078), .second, .unset, .unset, .unset, .unset, .unset, .unset, .unset, .unset, .unset, .unset] [(.long v1078), (.ref b1002)])) rfl (by rw [hml]; rfl) (Steps.refl _) (argsL := [(.long v1078)]) (rest := []) (lenOf pd_5 rfl) rfl (by show 2 * 0 + _ ≤ _; exact Nat.le_of_eq rfl) (hb hby at_165) (fun _ _ => ⟨rfl, rfl, (by decide : 0 + 1 + 1 + 0 ≤ _), (by decide : 0 + 3 + 4736 + 0 ≤ _)⟩)
          dsimp only [Pt.U, Pt.locs, Pt.cells, Pt.slots] at X1079 l1079 y1079 z1079 st1079 hQ1079
          subst l1079 y1079 z1079
          obtain ⟨ws_1079, rfl, N1079q, p1080, p1081, p1082, p1083, p1084, p1085⟩ := hQ1079
          have N1079 := Fr.app N1008 N1079q
          refine OEnds.st (fun _ k => st1079.trans k) ?_
          clear st1079
          have f1086 : Sta Z T1079.heap "com/example/marshalyard/marshalyard/proxy/ResponseTimes" "SPLIT_BITS" "I" (.int (7 : Int32)) := own_Sta_keep f1017 p1080 (fun x hx => by rcases List.mem_cons.mp hx with rfl | hx; exact own_exa_ns p1011; cases List.mem_singleton.mp hx; exact Arv.nostat p1015)
          have f1087 : Sta Z T1079.heap "com/example/marshalyard/marshalyard/proxy/ResponseTimes" "EXACT_BITS" "I" (.int (11 : Int32)) := own_Sta_keep f1018 p1080 (fun x hx => by rcases List.mem_cons.mp hx with rfl | hx; exact own_exa_ns p1011; cases List.mem_singleton.mp hx; exact Arv.nostat p1015)
          have f1088 : Exa Z T1079.heap b1002 "com/example/marshalyard/marshalyard/proxy/ResponseTimes" := p1011.keep p1080
          have KK1079 : Keep h0 T1079.heap [] := KK1008.trans p1080 (fun x hx => by rcases List.mem_cons.mp hx with rfl | hx; exact Or.inr sz_b1002; cases List.mem_singleton.mp hx; exact Or.inr sz_b_1008)
          have Z1079 := Nat.le_trans Z1008 p1080.1
          show OEnds p.tables e below G (T1079.setTop (mkF m 168 #[.val (.long q1), .second, .val (.long q2), .second, .val (.long q3), .second, .val (.long q4), .second, .val (.int p5), .val (.long (2305843009213693951 : Int64)), .second, .val (.long (2251799813685247 : Int64)), .second, .val (.int v1001), .val (.ref b1002), .val (.long v1078), .second, .unset, .unset, .unset, .unset, .unset, .unset, .unset, .unset, .unset, .unset] []))
          refine OEnds.st (fun _ k => XS.aload X1079.here hx rfl (hb hby at_168) rfl rfl k) ?_
          show OEnds p.tables e below G (T1079.setTop (mkF m 170 #[.val (.long q1), .second, .val (.long q2), .second, .val (.long q3), .second, .val (.long q4), .second, .val (.int p5), .val (.long (2305843009213693951 : Int64)), .second, .val (.long (2251799813685247 : Int64)), .second, .val (.int v1001), .val (.ref b1002), .val (.long v1078), .second, .unset, .unset, .unset, .unset, .unset, .unset, .unset, .unset, .unset, .unset] [(.ref b1002)]))
          refine OEnds.st (fun _ k => XS.lload X1079.here hx rfl (hb hby at_170) rfl k) ?_
          show OEnds p.tables e below G (T1079.setTop (mkF m 172 #[.val (.long q1), .second, .val (.long q2), .second, .val (.long q3), .second, .val (.long q4), .second, .val (.int p5), .val (.long (2305843009213693951 : Int64)), .second, .val (.long (2251799813685247 : Int64)), .second, .val (.int v1001), .val (.ref b1002), .val (.long v1078), .second, .unset, .unset, .unset, .unset, .unset, .unset, .unset, .unset, .unset, .unset] [(.long v1078), (.ref b1002)]))
          obtain ⟨cq1093, kq1093, q1093a, q1093b, q1093c⟩ := isOf hZ rfl p1081
          obtain ⟨_, _, ⟨T1093, L1093, k1093c, n1093c⟩, -, X1093, ⟨Lc1093, hQ1093, l1093, y1093, z1093⟩, st1093⟩ := X1079.virtualBack hx (y := (⟨"com/example/marshalyard/marshalyard/proxy/ResponseTimes", "add", "(J)V"⟩ : MethodName)) (z := (⟨"com/example/marshalyard/marshalyard/proxy/ResponseTimes", "add", "(J)V"⟩ : MethodName)) hown (mvT hZ (hw _ (List.mem_of_getElem? (i := 31) rfl))) (mvT hZ (hw _ (List.mem_of_getElem? (i := 32) rfl))) (notFace_of_selects (args := #[]) (mvT hZ (hw _ (List.mem_of_getElem? (i := 34) rfl)))) (mvT hZ (hw _ (List.mem_of_getElem? (i := 34) rfl))) (mvT hZ (hw _ (List.mem_of_getElem? (i := 33) rfl))) (by decide) (backOf (W := 0) (rmadd l Z a0 hw [] b1002 v1078 b_1008 kb_1008 ((0 : Int64) + (1 : Int64)) ((0 : Int64) + v1078) ws_1079 T1079.heap n0 Z1079 p1081 p1082 p1083 p1084 p1085 f1086 f1087 ge_b1002 ge_b_1008 ne1016 (by omega)) hZ (hw _ (List.mem_of_getElem? (i := 35) rfl)) (hw _ (List.mem_of_getElem? (i := 4) rfl)) (by decide) (by decide)) q1093a q1093c (g := (mkF m 172 #[.val (.long q1), .second, .val (.long q2), .second, .val (.long q3), .second, .val (.long q4), .second, .val (.int p5), .val (.long (2305843009213693951 : Int64)), .second, .val (.long (2251799813685247 : Int64)), .second, .val (.int v1001), .val (.ref b1002), .val (.long v1078), .second, .unset, .unset, .unset, .unset, .unset, .unset, .unset, .unset, .unset, .unset] [(.long v1078), (.ref b1002)])) rfl (by rw [hml]; rfl) (Steps.refl _) (argsL := [(.long v1078)]) (rest := []) (lenOf pd_5 rfl) rfl (by show 2 * 0 + _ ≤ _; exact Nat.le_of_eq rfl) (hb hby at_172) (fun _ _ => ⟨rfl, rfl, (by decide : 0 + 1 + 1 + 0 + 0 ≤ _), (by decide : 0 + 3 + 4736 + 0 + 0 ≤ _)⟩)
          dsimp only [Pt.U, Pt.locs, Pt.cells, Pt.slots] at X1093 l1093 y1093 z1093 st1093 hQ1093
          subst l1093 y1093 z1093
          obtain ⟨ws_1093, rfl, N1093q, p1094, p1095, p1096, p1097, p1098, p1099⟩ := hQ1093
          have N1093 := Fr.app N1079 N1093q
          refine OEnds.st (fun _ k => st1093.trans k) ?_
          clear st1093
          have f1100 : Sta Z T1093.heap "com/example/marshalyard/marshalyard/proxy/ResponseTimes" "SPLIT_BITS" "I" (.int (7 : Int32)) := own_Sta_keep f1086 p1094 (fun x hx => by rcases List.mem_cons.mp hx with rfl | hx; exact own_exa_ns p1081; cases List.mem_singleton.mp hx; exact Arv.nostat p1085)
          have f1101 : Sta Z T1093.heap "com/example/marshalyard/marshalyard/proxy/ResponseTimes" "EXACT_BITS" "I" (.int (11 : Int32)) := own_Sta_keep f1087 p1094 (fun x hx => by rcases List.mem_cons.mp hx with rfl | hx; exact own_exa_ns p1081; cases List.mem_singleton.mp hx; exact Arv.nostat p1085)
          have f1102 : Exa Z T1093.heap b1002 "com/example/marshalyard/marshalyard/proxy/ResponseTimes" := p1081.keep p1094
          have KK1093 : Keep h0 T1093.heap [] := KK1079.trans p1094 (fun x hx => by rcases List.mem_cons.mp hx with rfl | hx; exact Or.inr sz_b1002; cases List.mem_singleton.mp hx; exact Or.inr sz_b_1008)
          have Z1093 := Nat.le_trans Z1079 p1094.1
          show OEnds p.tables e below G (T1093.setTop (mkF m 175 #[.val (.long q1), .second, .val (.long q2), .second, .val (.long q3), .second, .val (.long q4), .second, .val (.int p5), .val (.long (2305843009213693951 : Int64)), .second, .val (.long (2251799813685247 : Int64)), .second, .val (.int v1001), .val (.ref b1002), .val (.long v1078), .second, .unset, .unset, .unset, .unset, .unset, .unset, .unset, .unset, .unset, .unset] []))
          refine OEnds.st (fun _ k => XS.aload X1093.here hx rfl (hb hby at_175) rfl rfl k) ?_
          show OEnds p.tables e below G (T1093.setTop (mkF m 177 #[.val (.long q1), .second, .val (.long q2), .second, .val (.long q3), .second, .val (.long q4), .second, .val (.int p5), .val (.long (2305843009213693951 : Int64)), .second, .val (.long (2251799813685247 : Int64)), .second, .val (.int v1001), .val (.ref b1002), .val (.long v1078), .second, .unset, .unset, .unset, .unset, .unset, .unset, .unset, .unset, .unset, .unset] [(.ref b1002)]))
          refine OEnds.st (fun _ k => XS.lload X1093.here hx rfl (hb hby at_177) rfl k) ?_
          show OEnds p.tables e below G (T1093.setTop (mkF m 179 #[.val (.long q1), .second, .val (.long q2), .second, .val (.long q3), .second, .val (.long q4), .second, .val (.int p5), .val (.long (2305843009213693951 : Int64)), .second, .val (.long (2251799813685247 : Int64)), .second, .val (.int v1001), .val (.ref b1002), .val (.long v1078), .second, .unset, .unset, .unset, .unset, .unset, .unset, .unset, .unset, .unset, .unset] [(.long v1078), (.ref b1002)]))
          obtain ⟨cq1107, kq1107, q1107a, q1107b, q1107c⟩ := isOf hZ rfl p1095
          obtain ⟨_, _, ⟨T1107, L1107, k1107c, n1107c⟩, -, X1107, ⟨Lc1107, hQ1107, l1107, y1107, z1107⟩, st1107⟩ := X1093.virtualBack hx (y := (⟨"com/example/marshalyard/marshalyard/proxy/ResponseTimes", "add", "(J)V"⟩ : MethodName)) (z := (⟨"com/example/marshalyard/marshalyard/proxy/ResponseTimes", "add", "(J)V"⟩ : MethodName)) hown (mvT hZ (hw _ (List.mem_of_getElem? (i := 31) rfl))) (mvT hZ (hw _ (List.mem_of_getElem? (i := 32) rfl))) (notFace_of_selects (args := #[]) (mvT hZ (hw _ (List.mem_of_getElem? (i := 34) rfl)))) (mvT hZ (hw _ (List.mem_of_getElem? (i := 34) rfl))) (mvT hZ (hw _ (List.mem_of_getElem? (i := 33) rfl))) (by decide) (backOf (W := 0) (rmadd l Z a0 hw [] b1002 v1078 b_1008 kb_1008 (((0 : Int64) + (1 : Int64)) + (1 : Int64)) (((0 : Int64) + v1078) + v1078) ws_1093 T1093.heap n0 Z1093 p1095 p1096 p1097 p1098 p1099 f1100 f1101 ge_b1002 ge_b_1008 ne1016 (by omega)) hZ (hw _ (List.mem_of_getElem? (i := 35) rfl)) (hw _ (List.mem_of_getElem? (i := 4) rfl)) (by decide) (by decide)) q1107a q1107c (g := (mkF m 179 #[.val (.long q1), .second, .val (.long q2), .second, .val (.long q3), .second, .val (.long q4), .second, .val (.int p5), .val (.long (2305843009213693951 : Int64)), .second, .val (.long (2251799813685247 : Int64)), .second, .val (.int v1001), .val (.ref b1002), .val (.long v1078), .second, .unset, .unset, .unset, .unset, .unset, .unset, .unset, .unset, .unset, .unset] [(.long v1078), (.ref b1002)])) rfl (by rw [hml]; rfl) (Steps.refl _) (argsL := [(.long v1078)]) (rest := []) (lenOf pd_5 rfl) rfl (by show 2 * 0 + _ ≤ _; exact Nat.le_of_eq rfl) (hb hby at_179) (fun _ _ => ⟨rfl, rfl, (by decide : 0 + 1 + 1 + 0 + 0 + 0 ≤ _), (by decide : 0 + 3 + 4736 + 0 + 0 + 0 ≤ _)⟩)
          dsimp only [Pt.U, Pt.locs, Pt.cells, Pt.slots] at X1107 l1107 y1107 z1107 st1107 hQ1107
          subst l1107 y1107 z1107
          obtain ⟨ws_1107, rfl, N1107q, p1108, p1109, p1110, p1111, p1112, p1113⟩ := hQ1107
          have N1107 := Fr.app N1093 N1107q
          refine OEnds.st (fun _ k => st1107.trans k) ?_
          clear st1107
          have f1114 : Sta Z T1107.heap "com/example/marshalyard/marshalyard/proxy/ResponseTimes" "SPLIT_BITS" "I" (.int (7 : Int32)) := own_Sta_keep f1100 p1108 (fun x hx => by rcases List.mem_cons.mp hx with rfl | hx; exact own_exa_ns p1095; cases List.mem_singleton.mp hx; exact Arv.nostat p1099)
          have f1115 : Sta Z T1107.heap "com/example/marshalyard/marshalyard/proxy/ResponseTimes" "EXACT_BITS" "I" (.int (11 : Int32)) := own_Sta_keep f1101 p1108 (fun x hx => by rcases List.mem_cons.mp hx with rfl | hx; exact own_exa_ns p1095; cases List.mem_singleton.mp hx; exact Arv.nostat p1099)
          have f1116 : Exa Z T1107.heap b1002 "com/example/marshalyard/marshalyard/proxy/ResponseTimes" := p1095.keep p1108
          have KK1107 : Keep h0 T1107.heap [] := KK1093.trans p1108 (fun x hx => by rcases List.mem_cons.mp hx with rfl | hx; exact Or.inr sz_b1002; cases List.mem_singleton.mp hx; exact Or.inr sz_b_1008)
          have Z1107 := Nat.le_trans Z1093 p1108.1
          show OEnds p.tables e below G (T1107.setTop (mkF m 182 #[.val (.long q1), .second, .val (.long q2), .second, .val (.long q3), .second, .val (.long q4), .second, .val (.int p5), .val (.long (2305843009213693951 : Int64)), .second, .val (.long (2251799813685247 : Int64)), .second, .val (.int v1001), .val (.ref b1002), .val (.long v1078), .second, .unset, .unset, .unset, .unset, .unset, .unset, .unset, .unset, .unset, .unset] []))
          refine OEnds.st (fun _ k => XS.aload X1107.here hx rfl (hb hby at_182) rfl rfl k) ?_
          show OEnds p.tables e below G (T1107.setTop (mkF m 184 #[.val (.long q1), .second, .val (.long q2), .second, .val (.long q3), .second, .val (.long q4), .second, .val (.int p5), .val (.long (2305843009213693951 : Int64)), .second, .val (.long (2251799813685247 : Int64)), .second, .val (.int v1001), .val (.ref b1002), .val (.long v1078), .second, .unset, .unset, .unset, .unset, .unset, .unset, .unset, .unset, .unset, .unset] [(.ref b1002)]))
          obtain ⟨cq1121, kq1121, q1121a, q1121b, q1121c⟩ := isOf hZ rfl p1109
          obtain ⟨_, _, ⟨T1121, L1121, k1121c, n1121c⟩, -, X1121, ⟨Lc1121, hQ1121, l1121, y1121, z1121⟩, st1121⟩ := X1107.virtualBack hx (y := (⟨"com/example/marshalyard/marshalyard/proxy/ResponseTimes", "averageMillis", "()D"⟩ : MethodName)) (z := (⟨"com/example/marshalyard/marshalyard/proxy/ResponseTimes", "averageMillis", "()D"⟩ : MethodName)) hown (mvT hZ (hw _ (List.mem_of_getElem? (i := 45) rfl))) (mvT hZ (hw _ (List.mem_of_getElem? (i := 46) rfl))) (notFace_of_selects (args := #[]) (mvT hZ (hw _ (List.mem_of_getElem? (i := 48) rfl)))) (mvT hZ (hw _ (List.mem_of_getElem? (i := 48) rfl))) (mvT hZ (hw _ (List.mem_of_getElem? (i := 47) rfl))) (by decide) (backOf (W := 0) (rmav l Z a0 hw [] b1002 ((((0 : Int64) + (1 : Int64)) + (1 : Int64)) + (1 : Int64)) ((((0 : Int64) + v1078) + v1078) + v1078) T1107.heap n0 Z1107 p1111 p1112 (by decide)) hZ (hw _ (List.mem_of_getElem? (i := 49) rfl)) (hw _ (List.mem_of_getElem? (i := 4) rfl)) (by decide) (by decide)) q1121a q1121c (g := (mkF m 184 #[.val (.long q1), .second, .val (.long q2), .second, .val (.long q3), .second, .val (.long q4), .second, .val (.int p5), .val (.long (2305843009213693951 : Int64)), .second, .val (.long (2251799813685247 : Int64)), .second, .val (.int v1001), .val (.ref b1002), .val (.long v1078), .second, .unset, .unset, .unset, .unset, .unset, .unset, .unset, .unset, .unset, .unset] [(.ref b1002)])) rfl (by rw [hml]; rfl) (Steps.refl _) (argsL := []) (rest := []) (lenOf pd_4 rfl) rfl (by show 2 * 0 + _ ≤ _; exact Nat.le_of_eq rfl) (hb hby at_184) (fun _ _ => ⟨rfl, rfl, (by decide : 0 + 1 + 1 + 0 + 0 + 0 + 0 ≤ _), (by decide : 0 + 3 + 4736 + 0 + 0 + 0 + 0 ≤ _)⟩)
          dsimp only [Pt.U, Pt.locs, Pt.cells, Pt.slots] at X1121 l1121 y1121 z1121 st1121 hQ1121
          subst l1121 y1121 z1121
          obtain ⟨rfl, N1121q, e1121⟩ := hQ1121
          have N1121 := Fr.app N1107 N1121q
          refine OEnds.st (fun _ k => st1121.trans k) ?_
          clear st1121
          show OEnds p.tables e below G (T1121.setTop (mkF m 187 #[.val (.long q1), .second, .val (.long q2), .second, .val (.long q3), .second, .val (.long q4), .second, .val (.int p5), .val (.long (2305843009213693951 : Int64)), .second, .val (.long (2251799813685247 : Int64)), .second, .val (.int v1001), .val (.ref b1002), .val (.long v1078), .second, .unset, .unset, .unset, .unset, .unset, .unset, .unset, .unset, .unset, .unset] [(.double (FP.ddiv (FP.ddiv (FP.l2d ((((0 : Int64) + v1078) + v1078) + v1078)) (FP.l2d ((((0 : Int64) + (1 : Int64)) + (1 : Int64)) + (1 : Int64)))) (4696837146684686336 : UInt64)))]))
          refine OEnds.st (fun _ k => XS.lload X1121.here hx rfl (hb hby at_187) rfl k) ?_
          show OEnds p.tables e below G (T1121.setTop (mkF m 189 #[.val (.long q1), .second, .val (.long q2), .second, .val (.long q3), .second, .val (.long q4), .second, .val (.int p5), .val (.long (2305843009213693951 : Int64)), .second, .val (.long (2251799813685247 : Int64)), .second, .val (.int v1001), .val (.ref b1002), .val (.long v1078), .second, .unset, .unset, .unset, .unset, .unset, .unset, .unset, .unset, .unset, .unset] [(.long v1078), (.double (FP.ddiv (FP.ddiv (FP.l2d ((((0 : Int64) + v1078) + v1078) + v1078)) (FP.l2d ((((0 : Int64) + (1 : Int64)) + (1 : Int64)) + (1 : Int64)))) (4696837146684686336 : UInt64)))]))
          refine OEnds.st (fun _ k => XS.l2dS X1121.here hx rfl (hb hby at_189) rfl (v := (FP.l2d v1078)) rfl k) ?_
          show OEnds p.tables e below G (T1121.setTop (mkF m 190 #[.val (.long q1), .second, .val (.long q2), .second, .val (.long q3), .second, .val (.long q4), .second, .val (.int p5), .val (.long (2305843009213693951 : Int64)), .second, .val (.long (2251799813685247 : Int64)), .second, .val (.int v1001), .val (.ref b1002), .val (.long v1078), .second, .unset, .unset, .unset, .unset, .unset, .unset, .unset, .unset, .unset, .unset] [(.double (FP.l2d v1078)), (.double (FP.ddiv (FP.ddiv (FP.l2d ((((0 : Int64) + v1078) + v1078) + v1078)) (FP.l2d ((((0 : Int64) + (1 : Int64)) + (1 : Int64)) + (1 : Int64)))) (4696837146684686336 : UInt64)))]))
          refine OEnds.st (X1121.ldc2DoubleC hx hown (mvT hZ (hw _ (List.mem_of_getElem? (i := 51) rfl))) (g := (mkF m 190 #[.val (.long q1), .second, .val (.long q2), .second, .val (.long q3), .second, .val (.long q4), .second, .val (.int p5), .val (.long (2305843009213693951 : Int64)), .second, .val (.long (2251799813685247 : Int64)), .second, .val (.int v1001), .val (.ref b1002), .val (.long v1078), .second, .unset, .unset, .unset, .unset, .unset, .unset, .unset, .unset, .unset, .unset] [(.double (FP.l2d v1078)), (.double (FP.ddiv (FP.ddiv (FP.l2d ((((0 : Int64) + v1078) + v1078) + v1078)) (FP.l2d ((((0 : Int64) + (1 : Int64)) + (1 : Int64)) + (1 : Int64)))) (4696837146684686336 : UInt64)))])) rfl (hb hby at_190)) ?_
          show OEnds p.tables e below G (T1121.setTop (mkF m 193 #[.val (.long q1), .second, .val (.long q2), .second, .val (.long q3), .second, .val (.long q4), .second, .val (.int p5), .val (.long (2305843009213693951 : Int64)), .second, .val (.long (2251799813685247 : Int64)), .second, .val (.int v1001), .val (.ref b1002), .val (.long v1078), .second, .unset, .unset, .unset, .unset, .unset, .unset, .unset, .unset, .unset, .unset] [(.double (4696837146684686336 : UInt64)), (.double (FP.l2d v1078)), (.double (FP.ddiv (FP.ddiv (FP.l2d ((((0 : Int64) + v1078) + v1078) + v1078)) (FP.l2d ((((0 : Int64) + (1 : Int64)) + (1 : Int64)) + (1 : Int64)))) (4696837146684686336 : UInt64)))]))
          refine OEnds.st (fun _ k => XS.ddivS X1121.here hx rfl (hb hby at_193) rfl (own_nnQ (Fl.l2d_fin _).noNaN) rfl k) ?_
          show OEnds p.tables e below G (T1121.setTop (mkF m 194 #[.val (.long q1), .second, .val (.long q2), .second, .val (.long q3), .second, .val (.long q4), .second, .val (.int p5), .val (.long (2305843009213693951 : Int64)), .second, .val (.long (2251799813685247 : Int64)), .second, .val (.int v1001), .val (.ref b1002), .val (.long v1078), .second, .unset, .unset, .unset, .unset, .unset, .unset, .unset, .unset, .unset, .unset] [(.double (FP.ddiv (FP.l2d v1078) (4696837146684686336 : UInt64))), (.double (FP.ddiv (FP.ddiv (FP.l2d ((((0 : Int64) + v1078) + v1078) + v1078)) (FP.l2d ((((0 : Int64) + (1 : Int64)) + (1 : Int64)) + (1 : Int64)))) (4696837146684686336 : UInt64)))]))
          refine OEnds.st (fun _ k => XS.dcmpS X1121.here hx rfl (hb hby at_194) rfl rfl k) ?_
          show OEnds p.tables e below G (T1121.setTop (mkF m 195 #[.val (.long q1), .second, .val (.long q2), .second, .val (.long q3), .second, .val (.long q4), .second, .val (.int p5), .val (.long (2305843009213693951 : Int64)), .second, .val (.long (2251799813685247 : Int64)), .second, .val (.int v1001), .val (.ref b1002), .val (.long v1078), .second, .unset, .unset, .unset, .unset, .unset, .unset, .unset, .unset, .unset, .unset] [(.int (cmpValue (FP.dcmp (FP.ddiv (FP.ddiv (FP.l2d ((((0 : Int64) + v1078) + v1078) + v1078)) (FP.l2d ((((0 : Int64) + (1 : Int64)) + (1 : Int64)) + (1 : Int64)))) (4696837146684686336 : UInt64)) (FP.ddiv (FP.l2d v1078) (4696837146684686336 : UInt64))) .l))]))
          have hc195_1122 : (cmpValue (FP.dcmp (FP.ddiv (FP.ddiv (FP.l2d ((((0 : Int64) + v1078) + v1078) + v1078)) (FP.l2d ((((0 : Int64) + (1 : Int64)) + (1 : Int64)) + (1 : Int64)))) (4696837146684686336 : UInt64)) (FP.ddiv (FP.l2d v1078) (4696837146684686336 : UInt64))) .l) = (0 : Int32) := by
            rw [own_z0 v1078, own_c3', own_d3 hb15]
            exact dcmpV_self (own_nnQ (Fl.l2d_fin _).noNaN) .l
          refine OEnds.st (fun _ k => XS.ifNo X1121.here hx rfl (hb hby at_195) rfl ((if0 _ _).trans (teq hc195_1122).2) k) ?_
          show OEnds p.tables e below G (T1121.setTop (mkF m 198 #[.val (.long q1), .second, .val (.long q2), .second, .val (.long q3), .second, .val (.long q4), .second, .val (.int p5), .val (.long (2305843009213693951 : Int64)), .second, .val (.long (2251799813685247 : Int64)), .second, .val (.int v1001), .val (.ref b1002), .val (.long v1078), .second, .unset, .unset, .unset, .unset, .unset, .unset, .unset, .unset, .unset, .unset] []))
          refine OEnds.st (fun _ k => XS.iconst X1121.here hx rfl (hb hby at_198) k) ?_
          show OEnds p.tables e below G (T1121.setTop (mkF m 199 #[.val (.long q1), .second, .val (.long q2), .second, .val (.long q3), .second, .val (.long q4), .second, .val (.int p5), .val (.long (2305843009213693951 : Int64)), .second, .val (.long (2251799813685247 : Int64)), .second, .val (.int v1001), .val (.ref b1002), .val (.long v1078), .second, .unset, .unset, .unset, .unset, .unset, .unset, .unset, .unset, .unset, .unset] [(.int (1 : Int32))]))
          refine OEnds.st (fun _ k => XS.goto X1121.here hx rfl (pc0 := 199) (pc' := 203) rfl (hb hby at_199) (by decide) (by decide) k) ?_
          show OEnds p.tables e below G (T1121.setTop (mkF m 203 #[.val (.long q1), .second, .val (.long q2), .second, .val (.long q3), .second, .val (.long q4), .second, .val (.int p5), .val (.long (2305843009213693951 : Int64)), .second, .val (.long (2251799813685247 : Int64)), .second, .val (.int v1001), .val (.ref b1002), .val (.long v1078), .second, .unset, .unset, .unset, .unset, .unset, .unset, .unset, .unset, .unset, .unset] [(.int (1 : Int32))]))
          rw [← hG]
          refine OEnds.retZ X1121 hx hlk Bd.returns rfl (hb hby at_203) (by decide) (by decide) ?_
          rw [e1121]
          exact ⟨rfl, N1121⟩
        · -- pc 152: no
          refine OEnds.st (fun _ k => XS.icmpYes X1008.here hx rfl (pc0 := 152) (pc' := 204) rfl (hb hby at_152) rfl (feq hc152_1077).2 (by decide) (by decide) k) ?_
          show OEnds p.tables e below G (T1008.setTop (mkF m 204 #[.val (.long q1), .second, .val (.long q2), .second, .val (.long q3), .second, .val (.long q4), .second, .val (.int p5), .val (.long (2305843009213693951 : Int64)), .second, .val (.long (2251799813685247 : Int64)), .second, .val (.int v1001), .val (.ref b1002), .unset, .unset, .unset, .unset, .unset, .unset, .unset, .unset, .unset, .unset, .unset, .unset] []))
          refine OEnds.st (fun _ k => XS.iload X1008.here hx rfl (hb hby at_204) rfl k) ?_
          show OEnds p.tables e below G (T1008.setTop (mkF m 206 #[.val (.long q1), .second, .val (.long q2), .second, .val (.long q3), .second, .val (.long q4), .second, .val (.int p5), .val (.long (2305843009213693951 : Int64)), .second, .val (.long (2251799813685247 : Int64)), .second, .val (.int v1001), .val (.ref b1002), .unset, .unset, .unset, .unset, .unset, .unset, .unset, .unset, .unset, .unset, .unset, .unset] [(.int v1001)]))
          refine OEnds.st (fun _ k => XS.iconst X1008.here hx rfl (hb hby at_206) k) ?_
          show OEnds p.tables e below G (T1008.setTop (mkF m 207 #[.val (.long q1), .second, .val (.long q2), .second, .val (.long q3), .second, .val (.long q4), .second, .val (.int p5), .val (.long (2305843009213693951 : Int64)), .second, .val (.long (2251799813685247 : Int64)), .second, .val (.int v1001), .val (.ref b1002), .unset, .unset, .unset, .unset, .unset, .unset, .unset, .unset, .unset, .unset, .unset, .unset] [(.int (4 : Int32)), (.int v1001)]))
          by_cases hc207_1123 : v1001 = (4 : Int32)
          · -- pc 207: yes
            refine OEnds.st (fun _ k => XS.icmpNo X1008.here hx rfl (hb hby at_207) rfl (teq hc207_1123).2 k) ?_
            show OEnds p.tables e below G (T1008.setTop (mkF m 210 #[.val (.long q1), .second, .val (.long q2), .second, .val (.long q3), .second, .val (.long q4), .second, .val (.int p5), .val (.long (2305843009213693951 : Int64)), .second, .val (.long (2251799813685247 : Int64)), .second, .val (.int v1001), .val (.ref b1002), .unset, .unset, .unset, .unset, .unset, .unset, .unset, .unset, .unset, .unset, .unset, .unset] []))
            refine OEnds.st (fun _ k => XS.lloadN X1008.here hx rfl (hb hby at_210) rfl k) ?_
            show OEnds p.tables e below G (T1008.setTop (mkF m 211 #[.val (.long q1), .second, .val (.long q2), .second, .val (.long q3), .second, .val (.long q4), .second, .val (.int p5), .val (.long (2305843009213693951 : Int64)), .second, .val (.long (2251799813685247 : Int64)), .second, .val (.int v1001), .val (.ref b1002), .unset, .unset, .unset, .unset, .unset, .unset, .unset, .unset, .unset, .unset, .unset, .unset] [(.long q1)]))
            refine OEnds.st (fun _ k => XS.lload X1008.here hx rfl (hb hby at_211) rfl k) ?_
            show OEnds p.tables e below G (T1008.setTop (mkF m 213 #[.val (.long q1), .second, .val (.long q2), .second, .val (.long q3), .second, .val (.long q4), .second, .val (.int p5), .val (.long (2305843009213693951 : Int64)), .second, .val (.long (2251799813685247 : Int64)), .second, .val (.int v1001), .val (.ref b1002), .unset, .unset, .unset, .unset, .unset, .unset, .unset, .unset, .unset, .unset, .unset, .unset] [(.long (2305843009213693951 : Int64)), (.long q1)]))
            refine OEnds.st (fun _ k => XS.land X1008.here hx rfl (hb hby at_213) rfl k) ?_
            show OEnds p.tables e below G (T1008.setTop (mkF m 214 #[.val (.long q1), .second, .val (.long q2), .second, .val (.long q3), .second, .val (.long q4), .second, .val (.int p5), .val (.long (2305843009213693951 : Int64)), .second, .val (.long (2251799813685247 : Int64)), .second, .val (.int v1001), .val (.ref b1002), .unset, .unset, .unset, .unset, .unset, .unset, .unset, .unset, .unset, .unset, .unset, .unset] [(.long (q1 &&& (2305843009213693951 : Int64)))]))
            refine OEnds.st (fun _ k => XS.lstore X1008.here hx rfl (hb hby at_214) rfl (l' := #[.val (.long q1), .second, .val (.long q2), .second, .val (.long q3), .second, .val (.long q4), .second, .val (.int p5), .val (.long (2305843009213693951 : Int64)), .second, .val (.long (2251799813685247 : Int64)), .second, .val (.int v1001), .val (.ref b1002), .val (.long (q1 &&& (2305843009213693951 : Int64))), .second, .unset, .unset, .unset, .unset, .unset, .unset, .unset, .unset, .unset, .unset]) rfl k) ?_
            show OEnds p.tables e below G (T1008.setTop (mkF m 216 #[.val (.long q1), .second, .val (.long q2), .second, .val (.long q3), .second, .val (.long q4), .second, .val (.int p5), .val (.long (2305843009213693951 : Int64)), .second, .val (.long (2251799813685247 : Int64)), .second, .val (.int v1001), .val (.ref b1002), .val (.long (q1 &&& (2305843009213693951 : Int64))), .second, .unset, .unset, .unset, .unset, .unset, .unset, .unset, .unset, .unset, .unset] []))
            generalize hv_v1124 : (q1 &&& (2305843009213693951 : Int64)) = v1124
            have hb15 := own_wide hv_v1124
            show OEnds p.tables e below G (T1008.setTop (mkF m 216 #[.val (.long q1), .second, .val (.long q2), .second, .val (.long q3), .second, .val (.long q4), .second, .val (.int p5), .val (.long (2305843009213693951 : Int64)), .second, .val (.long (2251799813685247 : Int64)), .second, .val (.int v1001), .val (.ref b1002), .val (.long v1124), .second, .unset, .unset, .unset, .unset, .unset, .unset, .unset, .unset, .unset, .unset] []))
            refine OEnds.st (fun _ k => XS.lloadN X1008.here hx rfl (hb hby at_216) rfl k) ?_
            show OEnds p.tables e below G (T1008.setTop (mkF m 217 #[.val (.long q1), .second, .val (.long q2), .second, .val (.long q3), .second, .val (.long q4), .second, .val (.int p5), .val (.long (2305843009213693951 : Int64)), .second, .val (.long (2251799813685247 : Int64)), .second, .val (.int v1001), .val (.ref b1002), .val (.long v1124), .second, .unset, .unset, .unset, .unset, .unset, .unset, .unset, .unset, .unset, .unset] [(.long q2)]))
            refine OEnds.st (fun _ k => XS.lload X1008.here hx rfl (hb hby at_217) rfl k) ?_
            show OEnds p.tables e below G (T1008.setTop (mkF m 219 #[.val (.long q1), .second, .val (.long q2), .second, .val (.long q3), .second, .val (.long q4), .second, .val (.int p5), .val (.long (2305843009213693951 : Int64)), .second, .val (.long (2251799813685247 : Int64)), .second, .val (.int v1001), .val (.ref b1002), .val (.long v1124), .second, .unset, .unset, .unset, .unset, .unset, .unset, .unset, .unset, .unset, .unset] [(.long (2305843009213693951 : Int64)), (.long q2)]))
            refine OEnds.st (fun _ k => XS.land X1008.here hx rfl (hb hby at_219) rfl k) ?_
            show OEnds p.tables e below G (T1008.setTop (mkF m 220 #[.val (.long q1), .second, .val (.long q2), .second, .val (.long q3), .second, .val (.long q4), .second, .val (.int p5), .val (.long (2305843009213693951 : Int64)), .second, .val (.long (2251799813685247 : Int64)), .second, .val (.int v1001), .val (.ref b1002), .val (.long v1124), .second, .unset, .unset, .unset, .unset, .unset, .unset, .unset, .unset, .unset, .unset] [(.long (q2 &&& (2305843009213693951 : Int64)))]))
            refine OEnds.st (fun _ k => XS.lstore X1008.here hx rfl (hb hby at_220) rfl (l' := #[.val (.long q1), .second, .val (.long q2), .second, .val (.long q3), .second, .val (.long q4), .second, .val (.int p5), .val (.long (2305843009213693951 : Int64)), .second, .val (.long (2251799813685247 : Int64)), .second, .val (.int v1001), .val (.ref b1002), .val (.long v1124), .second, .val (.long (q2 &&& (2305843009213693951 : Int64))), .second, .unset, .unset, .unset, .unset, .unset, .unset, .unset, .unset]) rfl k) ?_
            show OEnds p.tables e below G (T1008.setTop (mkF m 222 #[.val (.long q1), .second, .val (.long q2), .second, .val (.long q3), .second, .val (.long q4), .second, .val (.int p5), .val (.long (2305843009213693951 : Int64)), .second, .val (.long (2251799813685247 : Int64)), .second, .val (.int v1001), .val (.ref b1002), .val (.long v1124), .second, .val (.long (q2 &&& (2305843009213693951 : Int64))), .second, .unset, .unset, .unset, .unset, .unset, .unset, .unset, .unset] []))
            generalize hv_v1125 : (q2 &&& (2305843009213693951 : Int64)) = v1125
            have hb17 := own_wide hv_v1125
            show OEnds p.tables e below G (T1008.setTop (mkF m 222 #[.val (.long q1), .second, .val (.long q2), .second, .val (.long q3), .second, .val (.long q4), .second, .val (.int p5), .val (.long (2305843009213693951 : Int64)), .second, .val (.long (2251799813685247 : Int64)), .second, .val (.int v1001), .val (.ref b1002), .val (.long v1124), .second, .val (.long v1125), .second, .unset, .unset, .unset, .unset, .unset, .unset, .unset, .unset] []))
            refine OEnds.st (fun _ k => XS.lload X1008.here hx rfl (hb hby at_222) rfl k) ?_
            show OEnds p.tables e below G (T1008.setTop (mkF m 224 #[.val (.long q1), .second, .val (.long q2), .second, .val (.long q3), .second, .val (.long q4), .second, .val (.int p5), .val (.long (2305843009213693951 : Int64)), .second, .val (.long (2251799813685247 : Int64)), .second, .val (.int v1001), .val (.ref b1002), .val (.long v1124), .second, .val (.long v1125), .second, .unset, .unset, .unset, .unset, .unset, .unset, .unset, .unset] [(.long q3)]))
            refine OEnds.st (fun _ k => XS.lload X1008.here hx rfl (hb hby at_224) rfl k) ?_
            show OEnds p.tables e below G (T1008.setTop (mkF m 226 #[.val (.long q1), .second, .val (.long q2), .second, .val (.long q3), .second, .val (.long q4), .second, .val (.int p5), .val (.long (2305843009213693951 : Int64)), .second, .val (.long (2251799813685247 : Int64)), .second, .val (.int v1001), .val (.ref b1002), .val (.long v1124), .second, .val (.long v1125), .second, .unset, .unset, .unset, .unset, .unset, .unset, .unset, .unset] [(.long (2305843009213693951 : Int64)), (.long q3)]))
            refine OEnds.st (fun _ k => XS.land X1008.here hx rfl (hb hby at_226) rfl k) ?_
            show OEnds p.tables e below G (T1008.setTop (mkF m 227 #[.val (.long q1), .second, .val (.long q2), .second, .val (.long q3), .second, .val (.long q4), .second, .val (.int p5), .val (.long (2305843009213693951 : Int64)), .second, .val (.long (2251799813685247 : Int64)), .second, .val (.int v1001), .val (.ref b1002), .val (.long v1124), .second, .val (.long v1125), .second, .unset, .unset, .unset, .unset, .unset, .unset, .unset, .unset] [(.long (q3 &&& (2305843009213693951 : Int64)))]))
            refine OEnds.st (fun _ k => XS.lstore X1008.here hx rfl (hb hby at_227) rfl (l' := #[.val (.long q1), .second, .val (.long q2), .second, .val (.long q3), .second, .val (.long q4), .second, .val (.int p5), .val (.long (2305843009213693951 : Int64)), .second, .val (.long (2251799813685247 : Int64)), .second, .val (.int v1001), .val (.ref b1002), .val (.long v1124), .second, .val (.long v1125), .second, .val (.long (q3 &&& (2305843009213693951 : Int64))), .second, .unset, .unset, .unset, .unset, .unset, .unset]) rfl k) ?_
            show OEnds p.tables e below G (T1008.setTop (mkF m 229 #[.val (.long q1), .second, .val (.long q2), .second, .val (.long q3), .second, .val (.long q4), .second, .val (.int p5), .val (.long (2305843009213693951 : Int64)), .second, .val (.long (2251799813685247 : Int64)), .second, .val (.int v1001), .val (.ref b1002), .val (.long v1124), .second, .val (.long v1125), .second, .val (.long (q3 &&& (2305843009213693951 : Int64))), .second, .unset, .unset, .unset, .unset, .unset, .unset] []))
            generalize hv_v1126 : (q3 &&& (2305843009213693951 : Int64)) = v1126
            have hb19 := own_wide hv_v1126
            show OEnds p.tables e below G (T1008.setTop (mkF m 229 #[.val (.long q1), .second, .val (.long q2), .second, .val (.long q3), .second, .val (.long q4), .second, .val (.int p5), .val (.long (2305843009213693951 : Int64)), .second, .val (.long (2251799813685247 : Int64)), .second, .val (.int v1001), .val (.ref b1002), .val (.long v1124), .second, .val (.long v1125), .second, .val (.long v1126), .second, .unset, .unset, .unset, .unset, .unset, .unset] []))
            refine OEnds.st (fun _ k => XS.lload X1008.here hx rfl (hb hby at_229) rfl k) ?_
            show OEnds p.tables e below G (T1008.setTop (mkF m 231 #[.val (.long q1), .second, .val (.long q2), .second, .val (.long q3), .second, .val (.long q4), .second, .val (.int p5), .val (.long (2305843009213693951 : Int64)), .second, .val (.long (2251799813685247 : Int64)), .second, .val (.int v1001), .val (.ref b1002), .val (.long v1124), .second, .val (.long v1125), .second, .val (.long v1126), .second, .unset, .unset, .unset, .unset, .unset, .unset] [(.long q4)]))
            refine OEnds.st (fun _ k => XS.lload X1008.here hx rfl (hb hby at_231) rfl k) ?_
            show OEnds p.tables e below G (T1008.setTop (mkF m 233 #[.val (.long q1), .second, .val (.long q2), .second, .val (.long q3), .second, .val (.long q4), .second, .val (.int p5), .val (.long (2305843009213693951 : Int64)), .second, .val (.long (2251799813685247 : Int64)), .second, .val (.int v1001), .val (.ref b1002), .val (.long v1124), .second, .val (.long v1125), .second, .val (.long v1126), .second, .unset, .unset, .unset, .unset, .unset, .unset] [(.long (2305843009213693951 : Int64)), (.long q4)]))
            refine OEnds.st (fun _ k => XS.land X1008.here hx rfl (hb hby at_233) rfl k) ?_
            show OEnds p.tables e below G (T1008.setTop (mkF m 234 #[.val (.long q1), .second, .val (.long q2), .second, .val (.long q3), .second, .val (.long q4), .second, .val (.int p5), .val (.long (2305843009213693951 : Int64)), .second, .val (.long (2251799813685247 : Int64)), .second, .val (.int v1001), .val (.ref b1002), .val (.long v1124), .second, .val (.long v1125), .second, .val (.long v1126), .second, .unset, .unset, .unset, .unset, .unset, .unset] [(.long (q4 &&& (2305843009213693951 : Int64)))]))
            refine OEnds.st (fun _ k => XS.lstore X1008.here hx rfl (hb hby at_234) rfl (l' := #[.val (.long q1), .second, .val (.long q2), .second, .val (.long q3), .second, .val (.long q4), .second, .val (.int p5), .val (.long (2305843009213693951 : Int64)), .second, .val (.long (2251799813685247 : Int64)), .second, .val (.int v1001), .val (.ref b1002), .val (.long v1124), .second, .val (.long v1125), .second, .val (.long v1126), .second, .val (.long (q4 &&& (2305843009213693951 : Int64))), .second, .unset, .unset, .unset, .unset]) rfl k) ?_
            show OEnds p.tables e below G (T1008.setTop (mkF m 236 #[.val (.long q1), .second, .val (.long q2), .second, .val (.long q3), .second, .val (.long q4), .second, .val (.int p5), .val (.long (2305843009213693951 : Int64)), .second, .val (.long (2251799813685247 : Int64)), .second, .val (.int v1001), .val (.ref b1002), .val (.long v1124), .second, .val (.long v1125), .second, .val (.long v1126), .second, .val (.long (q4 &&& (2305843009213693951 : Int64))), .second, .unset, .unset, .unset, .unset] []))
            generalize hv_v1127 : (q4 &&& (2305843009213693951 : Int64)) = v1127
            have hb21 := own_wide hv_v1127
            show OEnds p.tables e below G (T1008.setTop (mkF m 236 #[.val (.long q1), .second, .val (.long q2), .second, .val (.long q3), .second, .val (.long q4), .second, .val (.int p5), .val (.long (2305843009213693951 : Int64)), .second, .val (.long (2251799813685247 : Int64)), .second, .val (.int v1001), .val (.ref b1002), .val (.long v1124), .second, .val (.long v1125), .second, .val (.long v1126), .second, .val (.long v1127), .second, .unset, .unset, .unset, .unset] []))
            refine OEnds.st (fun _ k => XS.aload X1008.here hx rfl (hb hby at_236) rfl rfl k) ?_
            show OEnds p.tables e below G (T1008.setTop (mkF m 238 #[.val (.long q1), .second, .val (.long q2), .second, .val (.long q3), .second, .val (.long q4), .second, .val (.int p5), .val (.long (2305843009213693951 : Int64)), .second, .val (.long (2251799813685247 : Int64)), .second, .val (.int v1001), .val (.ref b1002), .val (.long v1124), .second, .val (.long v1125), .second, .val (.long v1126), .second, .val (.long v1127), .second, .unset, .unset, .unset, .unset] [(.ref b1002)]))
            refine OEnds.st (fun _ k => XS.lload X1008.here hx rfl (hb hby at_238) rfl k) ?_
            show OEnds p.tables e below G (T1008.setTop (mkF m 240 #[.val (.long q1), .second, .val (.long q2), .second, .val (.long q3), .second, .val (.long q4), .second, .val (.int p5), .val (.long (2305843009213693951 : Int64)), .second, .val (.long (2251799813685247 : Int64)), .second, .val (.int v1001), .val (.ref b1002), .val (.long v1124), .second, .val (.long v1125), .second, .val (.long v1126), .second, .val (.long v1127), .second, .unset, .unset, .unset, .unset] [(.long v1124), (.ref b1002)]))
            obtain ⟨cq1128, kq1128, q1128a, q1128b, q1128c⟩ := isOf hZ rfl p1011
            obtain ⟨_, _, ⟨T1128, L1128, k1128c, n1128c⟩, -, X1128, ⟨Lc1128, hQ1128, l1128, y1128, z1128⟩, st1128⟩ := X1008.virtualBack hx (y := (⟨"com/example/marshalyard/marshalyard/proxy/ResponseTimes", "add", "(J)V"⟩ : MethodName)) (z := (⟨"com/example/marshalyard/marshalyard/proxy/ResponseTimes", "add", "(J)V"⟩ : MethodName)) hown (mvT hZ (hw _ (List.mem_of_getElem? (i := 31) rfl))) (mvT hZ (hw _ (List.mem_of_getElem? (i := 32) rfl))) (notFace_of_selects (args := #[]) (mvT hZ (hw _ (List.mem_of_getElem? (i := 34) rfl)))) (mvT hZ (hw _ (List.mem_of_getElem? (i := 34) rfl))) (mvT hZ (hw _ (List.mem_of_getElem? (i := 33) rfl))) (by decide) (backOf (W := 0) (rmadd l Z a0 hw [] b1002 v1124 b_1008 kb_1008 (0 : Int64) (0 : Int64) [] T1008.heap n0 Z1008 p1011 p1012 p1013 p1014 p1015 f1017 f1018 ge_b1002 ge_b_1008 ne1016 (by omega)) hZ (hw _ (List.mem_of_getElem? (i := 35) rfl)) (hw _ (List.mem_of_getElem? (i := 4) rfl)) (by decide) (by decide)) q1128a q1128c (g := (mkF m 240 #[.val (.long q1), .second, .val (.long q2), .second, .val (.long q3), .second, .val (.long q4), .second, .val (.int p5), .val (.long (2305843009213693951 : Int64)), .second, .val (.long (2251799813685247 : Int64)), .second, .val (.int v1001), .val (.ref b1002), .val (.long v1124), .second, .val (.long v1125), .second, .val (.long v1126), .second, .val (.long v1127), .second, .unset, .unset, .unset, .unset] [(.long v1124), (.ref b1002)])) rfl (by rw [hml]; rfl) (Steps.refl _) (argsL := [(.long v1124)]) (rest := []) (lenOf pd_5 rfl) rfl (by show 2 * 0 + _ ≤ _; exact Nat.le_of_eq rfl) (hb hby at_240) (fun _ _ => ⟨rfl, rfl, (by decide : 0 + 1 + 1 + 0 ≤ _), (by decide : 0 + 3 + 4736 + 0 ≤ _)⟩)
            dsimp only [Pt.U, Pt.locs, Pt.cells, Pt.slots] at X1128 l1128 y1128 z1128 st1128 hQ1128
            subst l1128 y1128 z1128
            obtain ⟨ws_1128, rfl, N1128q, p1129, p1130, p1131, p1132, p1133, p1134⟩ := hQ1128
            have N1128 := Fr.app N1008 N1128q
            refine OEnds.st (fun _ k => st1128.trans k) ?_
            clear st1128
            have f1135 : Sta Z T1128.heap "com/example/marshalyard/marshalyard/proxy/ResponseTimes" "SPLIT_BITS" "I" (.int (7 : Int32)) := own_Sta_keep f1017 p1129 (fun x hx => by rcases List.mem_cons.mp hx with rfl | hx; exact own_exa_ns p1011; cases List.mem_singleton.mp hx; exact Arv.nostat p1015)
            have f1136 : Sta Z T1128.heap "com/example/marshalyard/marshalyard/proxy/ResponseTimes" "EXACT_BITS" "I" (.int (11 : Int32)) := own_Sta_keep f1018 p1129 (fun x hx => by rcases List.mem_cons.mp hx with rfl | hx; exact own_exa_ns p1011; cases List.mem_singleton.mp hx; exact Arv.nostat p1015)
            have f1137 : Exa Z T1128.heap b1002 "com/example/marshalyard/marshalyard/proxy/ResponseTimes" := p1011.keep p1129
            have KK1128 : Keep h0 T1128.heap [] := KK1008.trans p1129 (fun x hx => by rcases List.mem_cons.mp hx with rfl | hx; exact Or.inr sz_b1002; cases List.mem_singleton.mp hx; exact Or.inr sz_b_1008)
            have Z1128 := Nat.le_trans Z1008 p1129.1
            show OEnds p.tables e below G (T1128.setTop (mkF m 243 #[.val (.long q1), .second, .val (.long q2), .second, .val (.long q3), .second, .val (.long q4), .second, .val (.int p5), .val (.long (2305843009213693951 : Int64)), .second, .val (.long (2251799813685247 : Int64)), .second, .val (.int v1001), .val (.ref b1002), .val (.long v1124), .second, .val (.long v1125), .second, .val (.long v1126), .second, .val (.long v1127), .second, .unset, .unset, .unset, .unset] []))
            refine OEnds.st (fun _ k => XS.aload X1128.here hx rfl (hb hby at_243) rfl rfl k) ?_
            show OEnds p.tables e below G (T1128.setTop (mkF m 245 #[.val (.long q1), .second, .val (.long q2), .second, .val (.long q3), .second, .val (.long q4), .second, .val (.int p5), .val (.long (2305843009213693951 : Int64)), .second, .val (.long (2251799813685247 : Int64)), .second, .val (.int v1001), .val (.ref b1002), .val (.long v1124), .second, .val (.long v1125), .second, .val (.long v1126), .second, .val (.long v1127), .second, .unset, .unset, .unset, .unset] [(.ref b1002)]))
            refine OEnds.st (fun _ k => XS.lload X1128.here hx rfl (hb hby at_245) rfl k) ?_
            show OEnds p.tables e below G (T1128.setTop (mkF m 247 #[.val (.long q1), .second, .val (.long q2), .second, .val (.long q3), .second, .val (.long q4), .second, .val (.int p5), .val (.long (2305843009213693951 : Int64)), .second, .val (.long (2251799813685247 : Int64)), .second, .val (.int v1001), .val (.ref b1002), .val (.long v1124), .second, .val (.long v1125), .second, .val (.long v1126), .second, .val (.long v1127), .second, .unset, .unset, .unset, .unset] [(.long v1125), (.ref b1002)]))
            obtain ⟨cq1142, kq1142, q1142a, q1142b, q1142c⟩ := isOf hZ rfl p1130
            obtain ⟨_, _, ⟨T1142, L1142, k1142c, n1142c⟩, -, X1142, ⟨Lc1142, hQ1142, l1142, y1142, z1142⟩, st1142⟩ := X1128.virtualBack hx (y := (⟨"com/example/marshalyard/marshalyard/proxy/ResponseTimes", "add", "(J)V"⟩ : MethodName)) (z := (⟨"com/example/marshalyard/marshalyard/proxy/ResponseTimes", "add", "(J)V"⟩ : MethodName)) hown (mvT hZ (hw _ (List.mem_of_getElem? (i := 31) rfl))) (mvT hZ (hw _ (List.mem_of_getElem? (i := 32) rfl))) (notFace_of_selects (args := #[]) (mvT hZ (hw _ (List.mem_of_getElem? (i := 34) rfl)))) (mvT hZ (hw _ (List.mem_of_getElem? (i := 34) rfl))) (mvT hZ (hw _ (List.mem_of_getElem? (i := 33) rfl))) (by decide) (backOf (W := 0) (rmadd l Z a0 hw [] b1002 v1125 b_1008 kb_1008 ((0 : Int64) + (1 : Int64)) ((0 : Int64) + v1124) ws_1128 T1128.heap n0 Z1128 p1130 p1131 p1132 p1133 p1134 f1135 f1136 ge_b1002 ge_b_1008 ne1016 (by omega)) hZ (hw _ (List.mem_of_getElem? (i := 35) rfl)) (hw _ (List.mem_of_getElem? (i := 4) rfl)) (by decide) (by decide)) q1142a q1142c (g := (mkF m 247 #[.val (.long q1), .second, .val (.long q2), .second, .val (.long q3), .second, .val (.long q4), .second, .val (.int p5), .val (.long (2305843009213693951 : Int64)), .second, .val (.long (2251799813685247 : Int64)), .second, .val (.int v1001), .val (.ref b1002), .val (.long v1124), .second, .val (.long v1125), .second, .val (.long v1126), .second, .val (.long v1127), .second, .unset, .unset, .unset, .unset] [(.long v1125), (.ref b1002)])) rfl (by rw [hml]; rfl) (Steps.refl _) (argsL := [(.long v1125)]) (rest := []) (lenOf pd_5 rfl) rfl (by show 2 * 0 + _ ≤ _; exact Nat.le_of_eq rfl) (hb hby at_247) (fun _ _ => ⟨rfl, rfl, (by decide : 0 + 1 + 1 + 0 + 0 ≤ _), (by decide : 0 + 3 + 4736 + 0 + 0 ≤ _)⟩)
            dsimp only [Pt.U, Pt.locs, Pt.cells, Pt.slots] at X1142 l1142 y1142 z1142 st1142 hQ1142
            subst l1142 y1142 z1142
            obtain ⟨ws_1142, rfl, N1142q, p1143, p1144, p1145, p1146, p1147, p1148⟩ := hQ1142
            have N1142 := Fr.app N1128 N1142q
            refine OEnds.st (fun _ k => st1142.trans k) ?_
            clear st1142
            have f1149 : Sta Z T1142.heap "com/example/marshalyard/marshalyard/proxy/ResponseTimes" "SPLIT_BITS" "I" (.int (7 : Int32)) := own_Sta_keep f1135 p1143 (fun x hx => by rcases List.mem_cons.mp hx with rfl | hx; exact own_exa_ns p1130; cases List.mem_singleton.mp hx; exact Arv.nostat p1134)
            have f1150 : Sta Z T1142.heap "com/example/marshalyard/marshalyard/proxy/ResponseTimes" "EXACT_BITS" "I" (.int (11 : Int32)) := own_Sta_keep f1136 p1143 (fun x hx => by rcases List.mem_cons.mp hx with rfl | hx; exact own_exa_ns p1130; cases List.mem_singleton.mp hx; exact Arv.nostat p1134)
            have f1151 : Exa Z T1142.heap b1002 "com/example/marshalyard/marshalyard/proxy/ResponseTimes" := p1130.keep p1143
            have KK1142 : Keep h0 T1142.heap [] := KK1128.trans p1143 (fun x hx => by rcases List.mem_cons.mp hx with rfl | hx; exact Or.inr sz_b1002; cases List.mem_singleton.mp hx; exact Or.inr sz_b_1008)
            have Z1142 := Nat.le_trans Z1128 p1143.1
            show OEnds p.tables e below G (T1142.setTop (mkF m 250 #[.val (.long q1), .second, .val (.long q2), .second, .val (.long q3), .second, .val (.long q4), .second, .val (.int p5), .val (.long (2305843009213693951 : Int64)), .second, .val (.long (2251799813685247 : Int64)), .second, .val (.int v1001), .val (.ref b1002), .val (.long v1124), .second, .val (.long v1125), .second, .val (.long v1126), .second, .val (.long v1127), .second, .unset, .unset, .unset, .unset] []))
            refine OEnds.st (fun _ k => XS.aload X1142.here hx rfl (hb hby at_250) rfl rfl k) ?_
            show OEnds p.tables e below G (T1142.setTop (mkF m 252 #[.val (.long q1), .second, .val (.long q2), .second, .val (.long q3), .second, .val (.long q4), .second, .val (.int p5), .val (.long (2305843009213693951 : Int64)), .second, .val (.long (2251799813685247 : Int64)), .second, .val (.int v1001), .val (.ref b1002), .val (.long v1124), .second, .val (.long v1125), .second, .val (.long v1126), .second, .val (.long v1127), .second, .unset, .unset, .unset, .unset] [(.ref b1002)]))
            refine OEnds.st (fun _ k => XS.lload X1142.here hx rfl (hb hby at_252) rfl k) ?_
            show OEnds p.tables e below G (T1142.setTop (mkF m 254 #[.val (.long q1), .second, .val (.long q2), .second, .val (.long q3), .second, .val (.long q4), .second, .val (.int p5), .val (.long (2305843009213693951 : Int64)), .second, .val (.long (2251799813685247 : Int64)), .second, .val (.int v1001), .val (.ref b1002), .val (.long v1124), .second, .val (.long v1125), .second, .val (.long v1126), .second, .val (.long v1127), .second, .unset, .unset, .unset, .unset] [(.long v1126), (.ref b1002)]))
            obtain ⟨cq1156, kq1156, q1156a, q1156b, q1156c⟩ := isOf hZ rfl p1144
            obtain ⟨_, _, ⟨T1156, L1156, k1156c, n1156c⟩, -, X1156, ⟨Lc1156, hQ1156, l1156, y1156, z1156⟩, st1156⟩ := X1142.virtualBack hx (y := (⟨"com/example/marshalyard/marshalyard/proxy/ResponseTimes", "add", "(J)V"⟩ : MethodName)) (z := (⟨"com/example/marshalyard/marshalyard/proxy/ResponseTimes", "add", "(J)V"⟩ : MethodName)) hown (mvT hZ (hw _ (List.mem_of_getElem? (i := 31) rfl))) (mvT hZ (hw _ (List.mem_of_getElem? (i := 32) rfl))) (notFace_of_selects (args := #[]) (mvT hZ (hw _ (List.mem_of_getElem? (i := 34) rfl)))) (mvT hZ (hw _ (List.mem_of_getElem? (i := 34) rfl))) (mvT hZ (hw _ (List.mem_of_getElem? (i := 33) rfl))) (by decide) (backOf (W := 0) (rmadd l Z a0 hw [] b1002 v1126 b_1008 kb_1008 (((0 : Int64) + (1 : Int64)) + (1 : Int64)) (((0 : Int64) + v1124) + v1125) ws_1142 T1142.heap n0 Z1142 p1144 p1145 p1146 p1147 p1148 f1149 f1150 ge_b1002 ge_b_1008 ne1016 (by omega)) hZ (hw _ (List.mem_of_getElem? (i := 35) rfl)) (hw _ (List.mem_of_getElem? (i := 4) rfl)) (by decide) (by decide)) q1156a q1156c (g := (mkF m 254 #[.val (.long q1), .second, .val (.long q2), .second, .val (.long q3), .second, .val (.long q4), .second, .val (.int p5), .val (.long (2305843009213693951 : Int64)), .second, .val (.long (2251799813685247 : Int64)), .second, .val (.int v1001), .val (.ref b1002), .val (.long v1124), .second, .val (.long v1125), .second, .val (.long v1126), .second, .val (.long v1127), .second, .unset, .unset, .unset, .unset] [(.long v1126), (.ref b1002)])) rfl (by rw [hml]; rfl) (Steps.refl _) (argsL := [(.long v1126)]) (rest := []) (lenOf pd_5 rfl) rfl (by show 2 * 0 + _ ≤ _; exact Nat.le_of_eq rfl) (hb hby at_254) (fun _ _ => ⟨rfl, rfl, (by decide : 0 + 1 + 1 + 0 + 0 + 0 ≤ _), (by decide : 0 + 3 + 4736 + 0 + 0 + 0 ≤ _)⟩)
            dsimp only [Pt.U, Pt.locs, Pt.cells, Pt.slots] at X1156 l1156 y1156 z1156 st1156 hQ1156
            subst l1156 y1156 z1156
            obtain ⟨ws_1156, rfl, N1156q, p1157, p1158, p1159, p1160, p1161, p1162⟩ := hQ1156
            have N1156 := Fr.app N1142 N1156q
            refine OEnds.st (fun _ k => st1156.trans k) ?_
            clear st1156
            have f1163 : Sta Z T1156.heap "com/example/marshalyard/marshalyard/proxy/ResponseTimes" "SPLIT_BITS" "I" (.int (7 : Int32)) := own_Sta_keep f1149 p1157 (fun x hx => by rcases List.mem_cons.mp hx with rfl | hx; exact own_exa_ns p1144; cases List.mem_singleton.mp hx; exact Arv.nostat p1148)
            have f1164 : Sta Z T1156.heap "com/example/marshalyard/marshalyard/proxy/ResponseTimes" "EXACT_BITS" "I" (.int (11 : Int32)) := own_Sta_keep f1150 p1157 (fun x hx => by rcases List.mem_cons.mp hx with rfl | hx; exact own_exa_ns p1144; cases List.mem_singleton.mp hx; exact Arv.nostat p1148)
            have f1165 : Exa Z T1156.heap b1002 "com/example/marshalyard/marshalyard/proxy/ResponseTimes" := p1144.keep p1157
            have KK1156 : Keep h0 T1156.heap [] := KK1142.trans p1157 (fun x hx => by rcases List.mem_cons.mp hx with rfl | hx; exact Or.inr sz_b1002; cases List.mem_singleton.mp hx; exact Or.inr sz_b_1008)
            have Z1156 := Nat.le_trans Z1142 p1157.1
            show OEnds p.tables e below G (T1156.setTop (mkF m 257 #[.val (.long q1), .second, .val (.long q2), .second, .val (.long q3), .second, .val (.long q4), .second, .val (.int p5), .val (.long (2305843009213693951 : Int64)), .second, .val (.long (2251799813685247 : Int64)), .second, .val (.int v1001), .val (.ref b1002), .val (.long v1124), .second, .val (.long v1125), .second, .val (.long v1126), .second, .val (.long v1127), .second, .unset, .unset, .unset, .unset] []))
            refine OEnds.st (fun _ k => XS.aload X1156.here hx rfl (hb hby at_257) rfl rfl k) ?_
            show OEnds p.tables e below G (T1156.setTop (mkF m 259 #[.val (.long q1), .second, .val (.long q2), .second, .val (.long q3), .second, .val (.long q4), .second, .val (.int p5), .val (.long (2305843009213693951 : Int64)), .second, .val (.long (2251799813685247 : Int64)), .second, .val (.int v1001), .val (.ref b1002), .val (.long v1124), .second, .val (.long v1125), .second, .val (.long v1126), .second, .val (.long v1127), .second, .unset, .unset, .unset, .unset] [(.ref b1002)]))
            refine OEnds.st (fun _ k => XS.lload X1156.here hx rfl (hb hby at_259) rfl k) ?_
            show OEnds p.tables e below G (T1156.setTop (mkF m 261 #[.val (.long q1), .second, .val (.long q2), .second, .val (.long q3), .second, .val (.long q4), .second, .val (.int p5), .val (.long (2305843009213693951 : Int64)), .second, .val (.long (2251799813685247 : Int64)), .second, .val (.int v1001), .val (.ref b1002), .val (.long v1124), .second, .val (.long v1125), .second, .val (.long v1126), .second, .val (.long v1127), .second, .unset, .unset, .unset, .unset] [(.long v1127), (.ref b1002)]))
            obtain ⟨cq1170, kq1170, q1170a, q1170b, q1170c⟩ := isOf hZ rfl p1158
            obtain ⟨_, _, ⟨T1170, L1170, k1170c, n1170c⟩, -, X1170, ⟨Lc1170, hQ1170, l1170, y1170, z1170⟩, st1170⟩ := X1156.virtualBack hx (y := (⟨"com/example/marshalyard/marshalyard/proxy/ResponseTimes", "add", "(J)V"⟩ : MethodName)) (z := (⟨"com/example/marshalyard/marshalyard/proxy/ResponseTimes", "add", "(J)V"⟩ : MethodName)) hown (mvT hZ (hw _ (List.mem_of_getElem? (i := 31) rfl))) (mvT hZ (hw _ (List.mem_of_getElem? (i := 32) rfl))) (notFace_of_selects (args := #[]) (mvT hZ (hw _ (List.mem_of_getElem? (i := 34) rfl)))) (mvT hZ (hw _ (List.mem_of_getElem? (i := 34) rfl))) (mvT hZ (hw _ (List.mem_of_getElem? (i := 33) rfl))) (by decide) (backOf (W := 0) (rmadd l Z a0 hw [] b1002 v1127 b_1008 kb_1008 ((((0 : Int64) + (1 : Int64)) + (1 : Int64)) + (1 : Int64)) ((((0 : Int64) + v1124) + v1125) + v1126) ws_1156 T1156.heap n0 Z1156 p1158 p1159 p1160 p1161 p1162 f1163 f1164 ge_b1002 ge_b_1008 ne1016 (by omega)) hZ (hw _ (List.mem_of_getElem? (i := 35) rfl)) (hw _ (List.mem_of_getElem? (i := 4) rfl)) (by decide) (by decide)) q1170a q1170c (g := (mkF m 261 #[.val (.long q1), .second, .val (.long q2), .second, .val (.long q3), .second, .val (.long q4), .second, .val (.int p5), .val (.long (2305843009213693951 : Int64)), .second, .val (.long (2251799813685247 : Int64)), .second, .val (.int v1001), .val (.ref b1002), .val (.long v1124), .second, .val (.long v1125), .second, .val (.long v1126), .second, .val (.long v1127), .second, .unset, .unset, .unset, .unset] [(.long v1127), (.ref b1002)])) rfl (by rw [hml]; rfl) (Steps.refl _) (argsL := [(.long v1127)]) (rest := []) (lenOf pd_5 rfl) rfl (by show 2 * 0 + _ ≤ _; exact Nat.le_of_eq rfl) (hb hby at_261) (fun _ _ => ⟨rfl, rfl, (by decide : 0 + 1 + 1 + 0 + 0 + 0 + 0 ≤ _), (by decide : 0 + 3 + 4736 + 0 + 0 + 0 + 0 ≤ _)⟩)
            dsimp only [Pt.U, Pt.locs, Pt.cells, Pt.slots] at X1170 l1170 y1170 z1170 st1170 hQ1170
            subst l1170 y1170 z1170
            obtain ⟨ws_1170, rfl, N1170q, p1171, p1172, p1173, p1174, p1175, p1176⟩ := hQ1170
            have N1170 := Fr.app N1156 N1170q
            refine OEnds.st (fun _ k => st1170.trans k) ?_
            clear st1170
            have f1177 : Sta Z T1170.heap "com/example/marshalyard/marshalyard/proxy/ResponseTimes" "SPLIT_BITS" "I" (.int (7 : Int32)) := own_Sta_keep f1163 p1171 (fun x hx => by rcases List.mem_cons.mp hx with rfl | hx; exact own_exa_ns p1158; cases List.mem_singleton.mp hx; exact Arv.nostat p1162)
            have f1178 : Sta Z T1170.heap "com/example/marshalyard/marshalyard/proxy/ResponseTimes" "EXACT_BITS" "I" (.int (11 : Int32)) := own_Sta_keep f1164 p1171 (fun x hx => by rcases List.mem_cons.mp hx with rfl | hx; exact own_exa_ns p1158; cases List.mem_singleton.mp hx; exact Arv.nostat p1162)
            have f1179 : Exa Z T1170.heap b1002 "com/example/marshalyard/marshalyard/proxy/ResponseTimes" := p1158.keep p1171
            have KK1170 : Keep h0 T1170.heap [] := KK1156.trans p1171 (fun x hx => by rcases List.mem_cons.mp hx with rfl | hx; exact Or.inr sz_b1002; cases List.mem_singleton.mp hx; exact Or.inr sz_b_1008)
            have Z1170 := Nat.le_trans Z1156 p1171.1
            show OEnds p.tables e below G (T1170.setTop (mkF m 264 #[.val (.long q1), .second, .val (.long q2), .second, .val (.long q3), .second, .val (.long q4), .second, .val (.int p5), .val (.long (2305843009213693951 : Int64)), .second, .val (.long (2251799813685247 : Int64)), .second, .val (.int v1001), .val (.ref b1002), .val (.long v1124), .second, .val (.long v1125), .second, .val (.long v1126), .second, .val (.long v1127), .second, .unset, .unset, .unset, .unset] []))
            refine OEnds.st (fun _ k => XS.aload X1170.here hx rfl (hb hby at_264) rfl rfl k) ?_
            show OEnds p.tables e below G (T1170.setTop (mkF m 266 #[.val (.long q1), .second, .val (.long q2), .second, .val (.long q3), .second, .val (.long q4), .second, .val (.int p5), .val (.long (2305843009213693951 : Int64)), .second, .val (.long (2251799813685247 : Int64)), .second, .val (.int v1001), .val (.ref b1002), .val (.long v1124), .second, .val (.long v1125), .second, .val (.long v1126), .second, .val (.long v1127), .second, .unset, .unset, .unset, .unset] [(.ref b1002)]))
            obtain ⟨cq1184, kq1184, q1184a, q1184b, q1184c⟩ := isOf hZ rfl p1172
            obtain ⟨_, _, ⟨T1184, L1184, k1184c, n1184c⟩, -, X1184, ⟨Lc1184, hQ1184, l1184, y1184, z1184⟩, st1184⟩ := X1170.virtualBack hx (y := (⟨"com/example/marshalyard/marshalyard/proxy/ResponseTimes", "averageMillis", "()D"⟩ : MethodName)) (z := (⟨"com/example/marshalyard/marshalyard/proxy/ResponseTimes", "averageMillis", "()D"⟩ : MethodName)) hown (mvT hZ (hw _ (List.mem_of_getElem? (i := 45) rfl))) (mvT hZ (hw _ (List.mem_of_getElem? (i := 46) rfl))) (notFace_of_selects (args := #[]) (mvT hZ (hw _ (List.mem_of_getElem? (i := 48) rfl)))) (mvT hZ (hw _ (List.mem_of_getElem? (i := 48) rfl))) (mvT hZ (hw _ (List.mem_of_getElem? (i := 47) rfl))) (by decide) (backOf (W := 0) (rmav l Z a0 hw [] b1002 (((((0 : Int64) + (1 : Int64)) + (1 : Int64)) + (1 : Int64)) + (1 : Int64)) (((((0 : Int64) + v1124) + v1125) + v1126) + v1127) T1170.heap n0 Z1170 p1174 p1175 (by decide)) hZ (hw _ (List.mem_of_getElem? (i := 49) rfl)) (hw _ (List.mem_of_getElem? (i := 4) rfl)) (by decide) (by decide)) q1184a q1184c (g := (mkF m 266 #[.val (.long q1), .second, .val (.long q2), .second, .val (.long q3), .second, .val (.long q4), .second, .val (.int p5), .val (.long (2305843009213693951 : Int64)), .second, .val (.long (2251799813685247 : Int64)), .second, .val (.int v1001), .val (.ref b1002), .val (.long v1124), .second, .val (.long v1125), .second, .val (.long v1126), .second, .val (.long v1127), .second, .unset, .unset, .unset, .unset] [(.ref b1002)])) rfl (by rw [hml]; rfl) (Steps.refl _) (argsL := []) (rest := []) (lenOf pd_4 rfl) rfl (by show 2 * 0 + _ ≤ _; exact Nat.le_of_eq rfl) (hb hby at_266) (fun _ _ => ⟨rfl, rfl, (by decide : 0 + 1 + 1 + 0 + 0 + 0 + 0 + 0 ≤ _), (by decide : 0 + 3 + 4736 + 0 + 0 + 0 + 0 + 0 ≤ _)⟩)
            dsimp only [Pt.U, Pt.locs, Pt.cells, Pt.slots] at X1184 l1184 y1184 z1184 st1184 hQ1184
            subst l1184 y1184 z1184
            obtain ⟨rfl, N1184q, e1184⟩ := hQ1184
            have N1184 := Fr.app N1170 N1184q
            refine OEnds.st (fun _ k => st1184.trans k) ?_
            clear st1184
            show OEnds p.tables e below G (T1184.setTop (mkF m 269 #[.val (.long q1), .second, .val (.long q2), .second, .val (.long q3), .second, .val (.long q4), .second, .val (.int p5), .val (.long (2305843009213693951 : Int64)), .second, .val (.long (2251799813685247 : Int64)), .second, .val (.int v1001), .val (.ref b1002), .val (.long v1124), .second, .val (.long v1125), .second, .val (.long v1126), .second, .val (.long v1127), .second, .unset, .unset, .unset, .unset] [(.double (FP.ddiv (FP.ddiv (FP.l2d (((((0 : Int64) + v1124) + v1125) + v1126) + v1127)) (FP.l2d (((((0 : Int64) + (1 : Int64)) + (1 : Int64)) + (1 : Int64)) + (1 : Int64)))) (4696837146684686336 : UInt64)))]))
            refine OEnds.st (fun _ k => XS.lload X1184.here hx rfl (hb hby at_269) rfl k) ?_
            show OEnds p.tables e below G (T1184.setTop (mkF m 271 #[.val (.long q1), .second, .val (.long q2), .second, .val (.long q3), .second, .val (.long q4), .second, .val (.int p5), .val (.long (2305843009213693951 : Int64)), .second, .val (.long (2251799813685247 : Int64)), .second, .val (.int v1001), .val (.ref b1002), .val (.long v1124), .second, .val (.long v1125), .second, .val (.long v1126), .second, .val (.long v1127), .second, .unset, .unset, .unset, .unset] [(.long v1124), (.double (FP.ddiv (FP.ddiv (FP.l2d (((((0 : Int64) + v1124) + v1125) + v1126) + v1127)) (FP.l2d (((((0 : Int64) + (1 : Int64)) + (1 : Int64)) + (1 : Int64)) + (1 : Int64)))) (4696837146684686336 : UInt64)))]))
            refine OEnds.st (fun _ k => XS.lload X1184.here hx rfl (hb hby at_271) rfl k) ?_
            show OEnds p.tables e below G (T1184.setTop (mkF m 273 #[.val (.long q1), .second, .val (.long q2), .second, .val (.long q3), .second, .val (.long q4), .second, .val (.int p5), .val (.long (2305843009213693951 : Int64)), .second, .val (.long (2251799813685247 : Int64)), .second, .val (.int v1001), .val (.ref b1002), .val (.long v1124), .second, .val (.long v1125), .second, .val (.long v1126), .second, .val (.long v1127), .second, .unset, .unset, .unset, .unset] [(.long v1125), (.long v1124), (.double (FP.ddiv (FP.ddiv (FP.l2d (((((0 : Int64) + v1124) + v1125) + v1126) + v1127)) (FP.l2d (((((0 : Int64) + (1 : Int64)) + (1 : Int64)) + (1 : Int64)) + (1 : Int64)))) (4696837146684686336 : UInt64)))]))
            refine OEnds.st (fun _ k => XS.ladd X1184.here hx rfl (hb hby at_273) rfl k) ?_
            show OEnds p.tables e below G (T1184.setTop (mkF m 274 #[.val (.long q1), .second, .val (.long q2), .second, .val (.long q3), .second, .val (.long q4), .second, .val (.int p5), .val (.long (2305843009213693951 : Int64)), .second, .val (.long (2251799813685247 : Int64)), .second, .val (.int v1001), .val (.ref b1002), .val (.long v1124), .second, .val (.long v1125), .second, .val (.long v1126), .second, .val (.long v1127), .second, .unset, .unset, .unset, .unset] [(.long (v1124 + v1125)), (.double (FP.ddiv (FP.ddiv (FP.l2d (((((0 : Int64) + v1124) + v1125) + v1126) + v1127)) (FP.l2d (((((0 : Int64) + (1 : Int64)) + (1 : Int64)) + (1 : Int64)) + (1 : Int64)))) (4696837146684686336 : UInt64)))]))
            refine OEnds.st (fun _ k => XS.lload X1184.here hx rfl (hb hby at_274) rfl k) ?_
            show OEnds p.tables e below G (T1184.setTop (mkF m 276 #[.val (.long q1), .second, .val (.long q2), .second, .val (.long q3), .second, .val (.long q4), .second, .val (.int p5), .val (.long (2305843009213693951 : Int64)), .second, .val (.long (2251799813685247 : Int64)), .second, .val (.int v1001), .val (.ref b1002), .val (.long v1124), .second, .val (.long v1125), .second, .val (.long v1126), .second, .val (.long v1127), .second, .unset, .unset, .unset, .unset] [(.long v1126), (.long (v1124 + v1125)), (.double (FP.ddiv (FP.ddiv (FP.l2d (((((0 : Int64) + v1124) + v1125) + v1126) + v1127)) (FP.l2d (((((0 : Int64) + (1 : Int64)) + (1 : Int64)) + (1 : Int64)) + (1 : Int64)))) (4696837146684686336 : UInt64)))]))
            refine OEnds.st (fun _ k => XS.ladd X1184.here hx rfl (hb hby at_276) rfl k) ?_
            show OEnds p.tables e below G (T1184.setTop (mkF m 277 #[.val (.long q1), .second, .val (.long q2), .second, .val (.long q3), .second, .val (.long q4), .second, .val (.int p5), .val (.long (2305843009213693951 : Int64)), .second, .val (.long (2251799813685247 : Int64)), .second, .val (.int v1001), .val (.ref b1002), .val (.long v1124), .second, .val (.long v1125), .second, .val (.long v1126), .second, .val (.long v1127), .second, .unset, .unset, .unset, .unset] [(.long ((v1124 + v1125) + v1126)), (.double (FP.ddiv (FP.ddiv (FP.l2d (((((0 : Int64) + v1124) + v1125) + v1126) + v1127)) (FP.l2d (((((0 : Int64) + (1 : Int64)) + (1 : Int64)) + (1 : Int64)) + (1 : Int64)))) (4696837146684686336 : UInt64)))]))
            refine OEnds.st (fun _ k => XS.lload X1184.here hx rfl (hb hby at_277) rfl k) ?_
            show OEnds p.tables e below G (T1184.setTop (mkF m 279 #[.val (.long q1), .second, .val (.long q2), .second, .val (.long q3), .second, .val (.long q4), .second, .val (.int p5), .val (.long (2305843009213693951 : Int64)), .second, .val (.long (2251799813685247 : Int64)), .second, .val (.int v1001), .val (.ref b1002), .val (.long v1124), .second, .val (.long v1125), .second, .val (.long v1126), .second, .val (.long v1127), .second, .unset, .unset, .unset, .unset] [(.long v1127), (.long ((v1124 + v1125) + v1126)), (.double (FP.ddiv (FP.ddiv (FP.l2d (((((0 : Int64) + v1124) + v1125) + v1126) + v1127)) (FP.l2d (((((0 : Int64) + (1 : Int64)) + (1 : Int64)) + (1 : Int64)) + (1 : Int64)))) (4696837146684686336 : UInt64)))]))
            refine OEnds.st (fun _ k => XS.ladd X1184.here hx rfl (hb hby at_279) rfl k) ?_
            show OEnds p.tables e below G (T1184.setTop (mkF m 280 #[.val (.long q1), .second, .val (.long q2), .second, .val (.long q3), .second, .val (.long q4), .second, .val (.int p5), .val (.long (2305843009213693951 : Int64)), .second, .val (.long (2251799813685247 : Int64)), .second, .val (.int v1001), .val (.ref b1002), .val (.long v1124), .second, .val (.long v1125), .second, .val (.long v1126), .second, .val (.long v1127), .second, .unset, .unset, .unset, .unset] [(.long (((v1124 + v1125) + v1126) + v1127)), (.double (FP.ddiv (FP.ddiv (FP.l2d (((((0 : Int64) + v1124) + v1125) + v1126) + v1127)) (FP.l2d (((((0 : Int64) + (1 : Int64)) + (1 : Int64)) + (1 : Int64)) + (1 : Int64)))) (4696837146684686336 : UInt64)))]))
            refine OEnds.st (fun _ k => XS.l2dS X1184.here hx rfl (hb hby at_280) rfl (v := (FP.l2d (((v1124 + v1125) + v1126) + v1127))) rfl k) ?_
            show OEnds p.tables e below G (T1184.setTop (mkF m 281 #[.val (.long q1), .second, .val (.long q2), .second, .val (.long q3), .second, .val (.long q4), .second, .val (.int p5), .val (.long (2305843009213693951 : Int64)), .second, .val (.long (2251799813685247 : Int64)), .second, .val (.int v1001), .val (.ref b1002), .val (.long v1124), .second, .val (.long v1125), .second, .val (.long v1126), .second, .val (.long v1127), .second, .unset, .unset, .unset, .unset] [(.double (FP.l2d (((v1124 + v1125) + v1126) + v1127))), (.double (FP.ddiv (FP.ddiv (FP.l2d (((((0 : Int64) + v1124) + v1125) + v1126) + v1127)) (FP.l2d (((((0 : Int64) + (1 : Int64)) + (1 : Int64)) + (1 : Int64)) + (1 : Int64)))) (4696837146684686336 : UInt64)))]))
            refine OEnds.st (X1184.ldc2DoubleC hx hown (mvT hZ (hw _ (List.mem_of_getElem? (i := 57) rfl))) (g := (mkF m 281 #[.val (.long q1), .second, .val (.long q2), .second, .val (.long q3), .second, .val (.long q4), .second, .val (.int p5), .val (.long (2305843009213693951 : Int64)), .second, .val (.long (2251799813685247 : Int64)), .second, .val (.int v1001), .val (.ref b1002), .val (.long v1124), .second, .val (.long v1125), .second, .val (.long v1126), .second, .val (.long v1127), .second, .unset, .unset, .unset, .unset] [(.double (FP.l2d (((v1124 + v1125) + v1126) + v1127))), (.double (FP.ddiv (FP.ddiv (FP.l2d (((((0 : Int64) + v1124) + v1125) + v1126) + v1127)) (FP.l2d (((((0 : Int64) + (1 : Int64)) + (1 : Int64)) + (1 : Int64)) + (1 : Int64)))) (4696837146684686336 : UInt64)))])) rfl (hb hby at_281)) ?_
            show OEnds p.tables e below G (T1184.setTop (mkF m 284 #[.val (.long q1), .second, .val (.long q2), .second, .val (.long q3), .second, .val (.long q4), .second, .val (.int p5), .val (.long (2305843009213693951 : Int64)), .second, .val (.long (2251799813685247 : Int64)), .second, .val (.int v1001), .val (.ref b1002), .val (.long v1124), .second, .val (.long v1125), .second, .val (.long v1126), .second, .val (.long v1127), .second, .unset, .unset, .unset, .unset] [(.double (4598175219545276416 : UInt64)), (.double (FP.l2d (((v1124 + v1125) + v1126) + v1127))), (.double (FP.ddiv (FP.ddiv (FP.l2d (((((0 : Int64) + v1124) + v1125) + v1126) + v1127)) (FP.l2d (((((0 : Int64) + (1 : Int64)) + (1 : Int64)) + (1 : Int64)) + (1 : Int64)))) (4696837146684686336 : UInt64)))]))
            refine OEnds.st (fun _ k => XS.dmulS X1184.here hx rfl (hb hby at_284) rfl (Fl.dmul_out (Fl.l2d_fin _) (own_fL (by decide))) rfl k) ?_
            show OEnds p.tables e below G (T1184.setTop (mkF m 285 #[.val (.long q1), .second, .val (.long q2), .second, .val (.long q3), .second, .val (.long q4), .second, .val (.int p5), .val (.long (2305843009213693951 : Int64)), .second, .val (.long (2251799813685247 : Int64)), .second, .val (.int v1001), .val (.ref b1002), .val (.long v1124), .second, .val (.long v1125), .second, .val (.long v1126), .second, .val (.long v1127), .second, .unset, .unset, .unset, .unset] [(.double (FP.dmul (FP.l2d (((v1124 + v1125) + v1126) + v1127)) (4598175219545276416 : UInt64))), (.double (FP.ddiv (FP.ddiv (FP.l2d (((((0 : Int64) + v1124) + v1125) + v1126) + v1127)) (FP.l2d (((((0 : Int64) + (1 : Int64)) + (1 : Int64)) + (1 : Int64)) + (1 : Int64)))) (4696837146684686336 : UInt64)))]))
            refine OEnds.st (X1184.ldc2DoubleC hx hown (mvT hZ (hw _ (List.mem_of_getElem? (i := 51) rfl))) (g := (mkF m 285 #[.val (.long q1), .second, .val (.long q2), .second, .val (.long q3), .second, .val (.long q4), .second, .val (.int p5), .val (.long (2305843009213693951 : Int64)), .second, .val (.long (2251799813685247 : Int64)), .second, .val (.int v1001), .val (.ref b1002), .val (.long v1124), .second, .val (.long v1125), .second, .val (.long v1126), .second, .val (.long v1127), .second, .unset, .unset, .unset, .unset] [(.double (FP.dmul (FP.l2d (((v1124 + v1125) + v1126) + v1127)) (4598175219545276416 : UInt64))), (.double (FP.ddiv (FP.ddiv (FP.l2d (((((0 : Int64) + v1124) + v1125) + v1126) + v1127)) (FP.l2d (((((0 : Int64) + (1 : Int64)) + (1 : Int64)) + (1 : Int64)) + (1 : Int64)))) (4696837146684686336 : UInt64)))])) rfl (hb hby at_285)) ?_
            show OEnds p.tables e below G (T1184.setTop (mkF m 288 #[.val (.long q1), .second, .val (.long q2), .second, .val (.long q3), .second, .val (.long q4), .second, .val (.int p5), .val (.long (2305843009213693951 : Int64)), .second, .val (.long (2251799813685247 : Int64)), .second, .val (.int v1001), .val (.ref b1002), .val (.long v1124), .second, .val (.long v1125), .second, .val (.long v1126), .second, .val (.long v1127), .second, .unset, .unset, .unset, .unset] [(.double (4696837146684686336 : UInt64)), (.double (FP.dmul (FP.l2d (((v1124 + v1125) + v1126) + v1127)) (4598175219545276416 : UInt64))), (.double (FP.ddiv (FP.ddiv (FP.l2d (((((0 : Int64) + v1124) + v1125) + v1126) + v1127)) (FP.l2d (((((0 : Int64) + (1 : Int64)) + (1 : Int64)) + (1 : Int64)) + (1 : Int64)))) (4696837146684686336 : UInt64)))]))
            refine OEnds.st (fun _ k => XS.ddivS X1184.here hx rfl (hb hby at_288) rfl (own_nnQ (Fl.dmul_out (Fl.l2d_fin _) (own_fL (by decide)))) rfl k) ?_
            show OEnds p.tables e below G (T1184.setTop (mkF m 289 #[.val (.long q1), .second, .val (.long q2), .second, .val (.long q3), .second, .val (.long q4), .second, .val (.int p5), .val (.long (2305843009213693951 : Int64)), .second, .val (.long (2251799813685247 : Int64)), .second, .val (.int v1001), .val (.ref b1002), .val (.long v1124), .second, .val (.long v1125), .second, .val (.long v1126), .second, .val (.long v1127), .second, .unset, .unset, .unset, .unset] [(.double (FP.ddiv (FP.dmul (FP.l2d (((v1124 + v1125) + v1126) + v1127)) (4598175219545276416 : UInt64)) (4696837146684686336 : UInt64))), (.double (FP.ddiv (FP.ddiv (FP.l2d (((((0 : Int64) + v1124) + v1125) + v1126) + v1127)) (FP.l2d (((((0 : Int64) + (1 : Int64)) + (1 : Int64)) + (1 : Int64)) + (1 : Int64)))) (4696837146684686336 : UInt64)))]))
            refine OEnds.st (fun _ k => XS.dcmpS X1184.here hx rfl (hb hby at_289) rfl rfl k) ?_
            show OEnds p.tables e below G (T1184.setTop (mkF m 290 #[.val (.long q1), .second, .val (.long q2), .second, .val (.long q3), .second, .val (.long q4), .second, .val (.int p5), .val (.long (2305843009213693951 : Int64)), .second, .val (.long (2251799813685247 : Int64)), .second, .val (.int v1001), .val (.ref b1002), .val (.long v1124), .second, .val (.long v1125), .second, .val (.long v1126), .second, .val (.long v1127), .second, .unset, .unset, .unset, .unset] [(.int (cmpValue (FP.dcmp (FP.ddiv (FP.ddiv (FP.l2d (((((0 : Int64) + v1124) + v1125) + v1126) + v1127)) (FP.l2d (((((0 : Int64) + (1 : Int64)) + (1 : Int64)) + (1 : Int64)) + (1 : Int64)))) (4696837146684686336 : UInt64)) (FP.ddiv (FP.dmul (FP.l2d (((v1124 + v1125) + v1126) + v1127)) (4598175219545276416 : UInt64)) (4696837146684686336 : UInt64))) .l))]))
            have hc290_1185 : (cmpValue (FP.dcmp (FP.ddiv (FP.ddiv (FP.l2d (((((0 : Int64) + v1124) + v1125) + v1126) + v1127)) (FP.l2d (((((0 : Int64) + (1 : Int64)) + (1 : Int64)) + (1 : Int64)) + (1 : Int64)))) (4696837146684686336 : UInt64)) (FP.ddiv (FP.dmul (FP.l2d (((v1124 + v1125) + v1126) + v1127)) (4598175219545276416 : UInt64)) (4696837146684686336 : UInt64))) .l) = (0 : Int32) := by
              rw [own_z0 v1124, own_c4, own_d4]
              exact dcmpV_self (own_nnQ (Fl.dmul_out (Fl.l2d_fin _) (own_fL (by decide)))) .l
            refine OEnds.st (fun _ k => XS.ifNo X1184.here hx rfl (hb hby at_290) rfl ((if0 _ _).trans (teq hc290_1185).2) k) ?_
            show OEnds p.tables e below G (T1184.setTop (mkF m 293 #[.val (.long q1), .second, .val (.long q2), .second, .val (.long q3), .second, .val (.long q4), .second, .val (.int p5), .val (.long (2305843009213693951 : Int64)), .second, .val (.long (2251799813685247 : Int64)), .second, .val (.int v1001), .val (.ref b1002), .val (.long v1124), .second, .val (.long v1125), .second, .val (.long v1126), .second, .val (.long v1127), .second, .unset, .unset, .unset, .unset] []))
            refine OEnds.st (fun _ k => XS.iconst X1184.here hx rfl (hb hby at_293) k) ?_
            show OEnds p.tables e below G (T1184.setTop (mkF m 294 #[.val (.long q1), .second, .val (.long q2), .second, .val (.long q3), .second, .val (.long q4), .second, .val (.int p5), .val (.long (2305843009213693951 : Int64)), .second, .val (.long (2251799813685247 : Int64)), .second, .val (.int v1001), .val (.ref b1002), .val (.long v1124), .second, .val (.long v1125), .second, .val (.long v1126), .second, .val (.long v1127), .second, .unset, .unset, .unset, .unset] [(.int (1 : Int32))]))
            refine OEnds.st (fun _ k => XS.goto X1184.here hx rfl (pc0 := 294) (pc' := 298) rfl (hb hby at_294) (by decide) (by decide) k) ?_
            show OEnds p.tables e below G (T1184.setTop (mkF m 298 #[.val (.long q1), .second, .val (.long q2), .second, .val (.long q3), .second, .val (.long q4), .second, .val (.int p5), .val (.long (2305843009213693951 : Int64)), .second, .val (.long (2251799813685247 : Int64)), .second, .val (.int v1001), .val (.ref b1002), .val (.long v1124), .second, .val (.long v1125), .second, .val (.long v1126), .second, .val (.long v1127), .second, .unset, .unset, .unset, .unset] [(.int (1 : Int32))]))
            rw [← hG]
            refine OEnds.retZ X1184 hx hlk Bd.returns rfl (hb hby at_298) (by decide) (by decide) ?_
            rw [e1184]
            exact ⟨rfl, N1184⟩
          · -- pc 207: no
            refine OEnds.st (fun _ k => XS.icmpYes X1008.here hx rfl (pc0 := 207) (pc' := 299) rfl (hb hby at_207) rfl (feq hc207_1123).2 (by decide) (by decide) k) ?_
            show OEnds p.tables e below G (T1008.setTop (mkF m 299 #[.val (.long q1), .second, .val (.long q2), .second, .val (.long q3), .second, .val (.long q4), .second, .val (.int p5), .val (.long (2305843009213693951 : Int64)), .second, .val (.long (2251799813685247 : Int64)), .second, .val (.int v1001), .val (.ref b1002), .unset, .unset, .unset, .unset, .unset, .unset, .unset, .unset, .unset, .unset, .unset, .unset] []))
            refine OEnds.st (fun _ k => XS.lloadN X1008.here hx rfl (hb hby at_299) rfl k) ?_
            show OEnds p.tables e below G (T1008.setTop (mkF m 300 #[.val (.long q1), .second, .val (.long q2), .second, .val (.long q3), .second, .val (.long q4), .second, .val (.int p5), .val (.long (2305843009213693951 : Int64)), .second, .val (.long (2251799813685247 : Int64)), .second, .val (.int v1001), .val (.ref b1002), .unset, .unset, .unset, .unset, .unset, .unset, .unset, .unset, .unset, .unset, .unset, .unset] [(.long q1)]))
            refine OEnds.st (fun _ k => XS.lload X1008.here hx rfl (hb hby at_300) rfl k) ?_
            show OEnds p.tables e below G (T1008.setTop (mkF m 302 #[.val (.long q1), .second, .val (.long q2), .second, .val (.long q3), .second, .val (.long q4), .second, .val (.int p5), .val (.long (2305843009213693951 : Int64)), .second, .val (.long (2251799813685247 : Int64)), .second, .val (.int v1001), .val (.ref b1002), .unset, .unset, .unset, .unset, .unset, .unset, .unset, .unset, .unset, .unset, .unset, .unset] [(.long (2251799813685247 : Int64)), (.long q1)]))
            refine OEnds.st (fun _ k => XS.land X1008.here hx rfl (hb hby at_302) rfl k) ?_
            show OEnds p.tables e below G (T1008.setTop (mkF m 303 #[.val (.long q1), .second, .val (.long q2), .second, .val (.long q3), .second, .val (.long q4), .second, .val (.int p5), .val (.long (2305843009213693951 : Int64)), .second, .val (.long (2251799813685247 : Int64)), .second, .val (.int v1001), .val (.ref b1002), .unset, .unset, .unset, .unset, .unset, .unset, .unset, .unset, .unset, .unset, .unset, .unset] [(.long (q1 &&& (2251799813685247 : Int64)))]))
            refine OEnds.st (fun _ k => XS.lstore X1008.here hx rfl (hb hby at_303) rfl (l' := #[.val (.long q1), .second, .val (.long q2), .second, .val (.long q3), .second, .val (.long q4), .second, .val (.int p5), .val (.long (2305843009213693951 : Int64)), .second, .val (.long (2251799813685247 : Int64)), .second, .val (.int v1001), .val (.ref b1002), .val (.long (q1 &&& (2251799813685247 : Int64))), .second, .unset, .unset, .unset, .unset, .unset, .unset, .unset, .unset, .unset, .unset]) rfl k) ?_
            show OEnds p.tables e below G (T1008.setTop (mkF m 305 #[.val (.long q1), .second, .val (.long q2), .second, .val (.long q3), .second, .val (.long q4), .second, .val (.int p5), .val (.long (2305843009213693951 : Int64)), .second, .val (.long (2251799813685247 : Int64)), .second, .val (.int v1001), .val (.ref b1002), .val (.long (q1 &&& (2251799813685247 : Int64))), .second, .unset, .unset, .unset, .unset, .unset, .unset, .unset, .unset, .unset, .unset] []))
            generalize hv_v1186 : (q1 &&& (2251799813685247 : Int64)) = v1186
            have hb15 := own_nrw hv_v1186
            show OEnds p.tables e below G (T1008.setTop (mkF m 305 #[.val (.long q1), .second, .val (.long q2), .second, .val (.long q3), .second, .val (.long q4), .second, .val (.int p5), .val (.long (2305843009213693951 : Int64)), .second, .val (.long (2251799813685247 : Int64)), .second, .val (.int v1001), .val (.ref b1002), .val (.long v1186), .second, .unset, .unset, .unset, .unset, .unset, .unset, .unset, .unset, .unset, .unset] []))
            refine OEnds.st (fun _ k => XS.lloadN X1008.here hx rfl (hb hby at_305) rfl k) ?_
            show OEnds p.tables e below G (T1008.setTop (mkF m 306 #[.val (.long q1), .second, .val (.long q2), .second, .val (.long q3), .second, .val (.long q4), .second, .val (.int p5), .val (.long (2305843009213693951 : Int64)), .second, .val (.long (2251799813685247 : Int64)), .second, .val (.int v1001), .val (.ref b1002), .val (.long v1186), .second, .unset, .unset, .unset, .unset, .unset, .unset, .unset, .unset, .unset, .unset] [(.long q2)]))
            refine OEnds.st (fun _ k => XS.lload X1008.here hx rfl (hb hby at_306) rfl k) ?_
            show OEnds p.tables e below G (T1008.setTop (mkF m 308 #[.val (.long q1), .second, .val (.long q2), .second, .val (.long q3), .second, .val (.long q4), .second, .val (.int p5), .val (.long (2305843009213693951 : Int64)), .second, .val (.long (2251799813685247 : Int64)), .second, .val (.int v1001), .val (.ref b1002), .val (.long v1186), .second, .unset, .unset, .unset, .unset, .unset, .unset, .unset, .unset, .unset, .unset] [(.long (2251799813685247 : Int64)), (.long q2)]))
            refine OEnds.st (fun _ k => XS.land X1008.here hx rfl (hb hby at_308) rfl k) ?_
            show OEnds p.tables e below G (T1008.setTop (mkF m 309 #[.val (.long q1), .second, .val (.long q2), .second, .val (.long q3), .second, .val (.long q4), .second, .val (.int p5), .val (.long (2305843009213693951 : Int64)), .second, .val (.long (2251799813685247 : Int64)), .second, .val (.int v1001), .val (.ref b1002), .val (.long v1186), .second, .unset, .unset, .unset, .unset, .unset, .unset, .unset, .unset, .unset, .unset] [(.long (q2 &&& (2251799813685247 : Int64)))]))
            refine OEnds.st (fun _ k => XS.lstore X1008.here hx rfl (hb hby at_309) rfl (l' := #[.val (.long q1), .second, .val (.long q2), .second, .val (.long q3), .second, .val (.long q4), .second, .val (.int p5), .val (.long (2305843009213693951 : Int64)), .second, .val (.long (2251799813685247 : Int64)), .second, .val (.int v1001), .val (.ref b1002), .val (.long v1186), .second, .val (.long (q2 &&& (2251799813685247 : Int64))), .second, .unset, .unset, .unset, .unset, .unset, .unset, .unset, .unset]) rfl k) ?_
            show OEnds p.tables e below G (T1008.setTop (mkF m 311 #[.val (.long q1), .second, .val (.long q2), .second, .val (.long q3), .second, .val (.long q4), .second, .val (.int p5), .val (.long (2305843009213693951 : Int64)), .second, .val (.long (2251799813685247 : Int64)), .second, .val (.int v1001), .val (.ref b1002), .val (.long v1186), .second, .val (.long (q2 &&& (2251799813685247 : Int64))), .second, .unset, .unset, .unset, .unset, .unset, .unset, .unset, .unset] []))
            generalize hv_v1187 : (q2 &&& (2251799813685247 : Int64)) = v1187
            have hb17 := own_nrw hv_v1187
            show OEnds p.tables e below G (T1008.setTop (mkF m 311 #[.val (.long q1), .second, .val (.long q2), .second, .val (.long q3), .second, .val (.long q4), .second, .val (.int p5), .val (.long (2305843009213693951 : Int64)), .second, .val (.long (2251799813685247 : Int64)), .second, .val (.int v1001), .val (.ref b1002), .val (.long v1186), .second, .val (.long v1187), .second, .unset, .unset, .unset, .unset, .unset, .unset, .unset, .unset] []))
            refine OEnds.st (fun _ k => XS.lload X1008.here hx rfl (hb hby at_311) rfl k) ?_
            show OEnds p.tables e below G (T1008.setTop (mkF m 313 #[.val (.long q1), .second, .val (.long q2), .second, .val (.long q3), .second, .val (.long q4), .second, .val (.int p5), .val (.long (2305843009213693951 : Int64)), .second, .val (.long (2251799813685247 : Int64)), .second, .val (.int v1001), .val (.ref b1002), .val (.long v1186), .second, .val (.long v1187), .second, .unset, .unset, .unset, .unset, .unset, .unset, .unset, .unset] [(.long q3)]))
            refine OEnds.st (fun _ k => XS.lload X1008.here hx rfl (hb hby at_313) rfl k) ?_
            show OEnds p.tables e below G (T1008.setTop (mkF m 315 #[.val (.long q1), .second, .val (.long q2), .second, .val (.long q3), .second, .val (.long q4), .second, .val (.int p5), .val (.long (2305843009213693951 : Int64)), .second, .val (.long (2251799813685247 : Int64)), .second, .val (.int v1001), .val (.ref b1002), .val (.long v1186), .second, .val (.long v1187), .second, .unset, .unset, .unset, .unset, .unset, .unset, .unset, .unset] [(.long (2251799813685247 : Int64)), (.long q3)]))
            refine OEnds.st (fun _ k => XS.land X1008.here hx rfl (hb hby at_315) rfl k) ?_
            show OEnds p.tables e below G (T1008.setTop (mkF m 316 #[.val (.long q1), .second, .val (.long q2), .second, .val (.long q3), .second, .val (.long q4), .second, .val (.int p5), .val (.long (2305843009213693951 : Int64)), .second, .val (.long (2251799813685247 : Int64)), .second, .val (.int v1001), .val (.ref b1002), .val (.long v1186), .second, .val (.long v1187), .second, .unset, .unset, .unset, .unset, .unset, .unset, .unset, .unset] [(.long (q3 &&& (2251799813685247 : Int64)))]))
            refine OEnds.st (fun _ k => XS.lstore X1008.here hx rfl (hb hby at_316) rfl (l' := #[.val (.long q1), .second, .val (.long q2), .second, .val (.long q3), .second, .val (.long q4), .second, .val (.int p5), .val (.long (2305843009213693951 : Int64)), .second, .val (.long (2251799813685247 : Int64)), .second, .val (.int v1001), .val (.ref b1002), .val (.long v1186), .second, .val (.long v1187), .second, .val (.long (q3 &&& (2251799813685247 : Int64))), .second, .unset, .unset, .unset, .unset, .unset, .unset]) rfl k) ?_
            show OEnds p.tables e below G (T1008.setTop (mkF m 318 #[.val (.long q1), .second, .val (.long q2), .second, .val (.long q3), .second, .val (.long q4), .second, .val (.int p5), .val (.long (2305843009213693951 : Int64)), .second, .val (.long (2251799813685247 : Int64)), .second, .val (.int v1001), .val (.ref b1002), .val (.long v1186), .second, .val (.long v1187), .second, .val (.long (q3 &&& (2251799813685247 : Int64))), .second, .unset, .unset, .unset, .unset, .unset, .unset] []))
            generalize hv_v1188 : (q3 &&& (2251799813685247 : Int64)) = v1188
            have hb19 := own_nrw hv_v1188
            show OEnds p.tables e below G (T1008.setTop (mkF m 318 #[.val (.long q1), .second, .val (.long q2), .second, .val (.long q3), .second, .val (.long q4), .second, .val (.int p5), .val (.long (2305843009213693951 : Int64)), .second, .val (.long (2251799813685247 : Int64)), .second, .val (.int v1001), .val (.ref b1002), .val (.long v1186), .second, .val (.long v1187), .second, .val (.long v1188), .second, .unset, .unset, .unset, .unset, .unset, .unset] []))
            refine OEnds.st (fun _ k => XS.aload X1008.here hx rfl (hb hby at_318) rfl rfl k) ?_
            show OEnds p.tables e below G (T1008.setTop (mkF m 320 #[.val (.long q1), .second, .val (.long q2), .second, .val (.long q3), .second, .val (.long q4), .second, .val (.int p5), .val (.long (2305843009213693951 : Int64)), .second, .val (.long (2251799813685247 : Int64)), .second, .val (.int v1001), .val (.ref b1002), .val (.long v1186), .second, .val (.long v1187), .second, .val (.long v1188), .second, .unset, .unset, .unset, .unset, .unset, .unset] [(.ref b1002)]))
            refine OEnds.st (fun _ k => XS.lload X1008.here hx rfl (hb hby at_320) rfl k) ?_
            show OEnds p.tables e below G (T1008.setTop (mkF m 322 #[.val (.long q1), .second, .val (.long q2), .second, .val (.long q3), .second, .val (.long q4), .second, .val (.int p5), .val (.long (2305843009213693951 : Int64)), .second, .val (.long (2251799813685247 : Int64)), .second, .val (.int v1001), .val (.ref b1002), .val (.long v1186), .second, .val (.long v1187), .second, .val (.long v1188), .second, .unset, .unset, .unset, .unset, .unset, .unset] [(.long v1186), (.ref b1002)]))
            obtain ⟨cq1189, kq1189, q1189a, q1189b, q1189c⟩ := isOf hZ rfl p1011
            obtain ⟨_, _, ⟨T1189, L1189, k1189c, n1189c⟩, -, X1189, ⟨Lc1189, hQ1189, l1189, y1189, z1189⟩, st1189⟩ := X1008.virtualBack hx (y := (⟨"com/example/marshalyard/marshalyard/proxy/ResponseTimes", "add", "(J)V"⟩ : MethodName)) (z := (⟨"com/example/marshalyard/marshalyard/proxy/ResponseTimes", "add", "(J)V"⟩ : MethodName)) hown (mvT hZ (hw _ (List.mem_of_getElem? (i := 31) rfl))) (mvT hZ (hw _ (List.mem_of_getElem? (i := 32) rfl))) (notFace_of_selects (args := #[]) (mvT hZ (hw _ (List.mem_of_getElem? (i := 34) rfl)))) (mvT hZ (hw _ (List.mem_of_getElem? (i := 34) rfl))) (mvT hZ (hw _ (List.mem_of_getElem? (i := 33) rfl))) (by decide) (backOf (W := 0) (rmadd l Z a0 hw [] b1002 v1186 b_1008 kb_1008 (0 : Int64) (0 : Int64) [] T1008.heap n0 Z1008 p1011 p1012 p1013 p1014 p1015 f1017 f1018 ge_b1002 ge_b_1008 ne1016 (by omega)) hZ (hw _ (List.mem_of_getElem? (i := 35) rfl)) (hw _ (List.mem_of_getElem? (i := 4) rfl)) (by decide) (by decide)) q1189a q1189c (g := (mkF m 322 #[.val (.long q1), .second, .val (.long q2), .second, .val (.long q3), .second, .val (.long q4), .second, .val (.int p5), .val (.long (2305843009213693951 : Int64)), .second, .val (.long (2251799813685247 : Int64)), .second, .val (.int v1001), .val (.ref b1002), .val (.long v1186), .second, .val (.long v1187), .second, .val (.long v1188), .second, .unset, .unset, .unset, .unset, .unset, .unset] [(.long v1186), (.ref b1002)])) rfl (by rw [hml]; rfl) (Steps.refl _) (argsL := [(.long v1186)]) (rest := []) (lenOf pd_5 rfl) rfl (by show 2 * 0 + _ ≤ _; exact Nat.le_of_eq rfl) (hb hby at_322) (fun _ _ => ⟨rfl, rfl, (by decide : 0 + 1 + 1 + 0 ≤ _), (by decide : 0 + 3 + 4736 + 0 ≤ _)⟩)
            dsimp only [Pt.U, Pt.locs, Pt.cells, Pt.slots] at X1189 l1189 y1189 z1189 st1189 hQ1189
            subst l1189 y1189 z1189
            obtain ⟨ws_1189, rfl, N1189q, p1190, p1191, p1192, p1193, p1194, p1195⟩ := hQ1189
            have N1189 := Fr.app N1008 N1189q
            refine OEnds.st (fun _ k => st1189.trans k) ?_
            clear st1189
            have f1196 : Sta Z T1189.heap "com/example/marshalyard/marshalyard/proxy/ResponseTimes" "SPLIT_BITS" "I" (.int (7 : Int32)) := own_Sta_keep f1017 p1190 (fun x hx => by rcases List.mem_cons.mp hx with rfl | hx; exact own_exa_ns p1011; cases List.mem_singleton.mp hx; exact Arv.nostat p1015)
            have f1197 : Sta Z T1189.heap "com/example/marshalyard/marshalyard/proxy/ResponseTimes" "EXACT_BITS" "I" (.int (11 : Int32)) := own_Sta_keep f1018 p1190 (fun x hx => by rcases List.mem_cons.mp hx with rfl | hx; exact own_exa_ns p1011; cases List.mem_singleton.mp hx; exact Arv.nostat p1015)
            have f1198 : Exa Z T1189.heap b1002 "com/example/marshalyard/marshalyard/proxy/ResponseTimes" := p1011.keep p1190
            have KK1189 : Keep h0 T1189.heap [] := KK1008.trans p1190 (fun x hx => by rcases List.mem_cons.mp hx with rfl | hx; exact Or.inr sz_b1002; cases List.mem_singleton.mp hx; exact Or.inr sz_b_1008)
            have Z1189 := Nat.le_trans Z1008 p1190.1
            show OEnds p.tables e below G (T1189.setTop (mkF m 325 #[.val (.long q1), .second, .val (.long q2), .second, .val (.long q3), .second, .val (.long q4), .second, .val (.int p5), .val (.long (2305843009213693951 : Int64)), .second, .val (.long (2251799813685247 : Int64)), .second, .val (.int v1001), .val (.ref b1002), .val (.long v1186), .second, .val (.long v1187), .second, .val (.long v1188), .second, .unset, .unset, .unset, .unset, .unset, .unset] []))
            refine OEnds.st (fun _ k => XS.aload X1189.here hx rfl (hb hby at_325) rfl rfl k) ?_
            show OEnds p.tables e below G (T1189.setTop (mkF m 327 #[.val (.long q1), .second, .val (.long q2), .second, .val (.long q3), .second, .val (.long q4), .second, .val (.int p5), .val (.long (2305843009213693951 : Int64)), .second, .val (.long (2251799813685247 : Int64)), .second, .val (.int v1001), .val (.ref b1002), .val (.long v1186), .second, .val (.long v1187), .second, .val (.long v1188), .second, .unset, .unset, .unset, .unset, .unset, .unset] [(.ref b1002)]))
            refine OEnds.st (fun _ k => XS.lload X1189.here hx rfl (hb hby at_327) rfl k) ?_
            show OEnds p.tables e below G (T1189.setTop (mkF m 329 #[.val (.long q1), .second, .val (.long q2), .second, .val (.long q3), .second, .val (.long q4), .second, .val (.int p5), .val (.long (2305843009213693951 : Int64)), .second, .val (.long (2251799813685247 : Int64)), .second, .val (.int v1001), .val (.ref b1002), .val (.long v1186), .second, .val (.long v1187), .second, .val (.long v1188), .second, .unset, .unset, .unset, .unset, .unset, .unset] [(.long v1187), (.ref b1002)]))
            obtain ⟨cq1203, kq1203, q1203a, q1203b, q1203c⟩ := isOf hZ rfl p1191
            obtain ⟨_, _, ⟨T1203, L1203, k1203c, n1203c⟩, -, X1203, ⟨Lc1203, hQ1203, l1203, y1203, z1203⟩, st1203⟩ := X1189.virtualBack hx (y := (⟨"com/example/marshalyard/marshalyard/proxy/ResponseTimes", "add", "(J)V"⟩ : MethodName)) (z := (⟨"com/example/marshalyard/marshalyard/proxy/ResponseTimes", "add", "(J)V"⟩ : MethodName)) hown (mvT hZ (hw _ (List.mem_of_getElem? (i := 31) rfl))) (mvT hZ (hw _ (List.mem_of_getElem? (i := 32) rfl))) (notFace_of_selects (args := #[]) (mvT hZ (hw _ (List.mem_of_getElem? (i := 34) rfl)))) (mvT hZ (hw _ (List.mem_of_getElem? (i := 34) rfl))) (mvT hZ (hw _ (List.mem_of_getElem? (i := 33) rfl))) (by decide) (backOf (W := 0) (rmadd l Z a0 hw [] b1002 v1187 b_1008 kb_1008 ((0 : Int64) + (1 : Int64)) ((0 : Int64) + v1186) ws_1189 T1189.heap n0 Z1189 p1191 p1192 p1193 p1194 p1195 f1196 f1197 ge_b1002 ge_b_1008 ne1016 (by omega)) hZ (hw _ (List.mem_of_getElem? (i := 35) rfl)) (hw _ (List.mem_of_getElem? (i := 4) rfl)) (by decide) (by decide)) q1203a q1203c (g := (mkF m 329 #[.val (.long q1), .second, .val (.long q2), .second, .val (.long q3), .second, .val (.long q4), .second, .val (.int p5), .val (.long (2305843009213693951 : Int64)), .second, .val (.long (2251799813685247 : Int64)), .second, .val (.int v1001), .val (.ref b1002), .val (.long v1186), .second, .val (.long v1187), .second, .val (.long v1188), .second, .unset, .unset, .unset, .unset, .unset, .unset] [(.long v1187), (.ref b1002)])) rfl (by rw [hml]; rfl) (Steps.refl _) (argsL := [(.long v1187)]) (rest := []) (lenOf pd_5 rfl) rfl (by show 2 * 0 + _ ≤ _; exact Nat.le_of_eq rfl) (hb hby at_329) (fun _ _ => ⟨rfl, rfl, (by decide : 0 + 1 + 1 + 0 + 0 ≤ _), (by decide : 0 + 3 + 4736 + 0 + 0 ≤ _)⟩)
            dsimp only [Pt.U, Pt.locs, Pt.cells, Pt.slots] at X1203 l1203 y1203 z1203 st1203 hQ1203
            subst l1203 y1203 z1203
            obtain ⟨ws_1203, rfl, N1203q, p1204, p1205, p1206, p1207, p1208, p1209⟩ := hQ1203
            have N1203 := Fr.app N1189 N1203q
            refine OEnds.st (fun _ k => st1203.trans k) ?_
            clear st1203
            have f1210 : Sta Z T1203.heap "com/example/marshalyard/marshalyard/proxy/ResponseTimes" "SPLIT_BITS" "I" (.int (7 : Int32)) := own_Sta_keep f1196 p1204 (fun x hx => by rcases List.mem_cons.mp hx with rfl | hx; exact own_exa_ns p1191; cases List.mem_singleton.mp hx; exact Arv.nostat p1195)
            have f1211 : Sta Z T1203.heap "com/example/marshalyard/marshalyard/proxy/ResponseTimes" "EXACT_BITS" "I" (.int (11 : Int32)) := own_Sta_keep f1197 p1204 (fun x hx => by rcases List.mem_cons.mp hx with rfl | hx; exact own_exa_ns p1191; cases List.mem_singleton.mp hx; exact Arv.nostat p1195)
            have f1212 : Exa Z T1203.heap b1002 "com/example/marshalyard/marshalyard/proxy/ResponseTimes" := p1191.keep p1204
            have KK1203 : Keep h0 T1203.heap [] := KK1189.trans p1204 (fun x hx => by rcases List.mem_cons.mp hx with rfl | hx; exact Or.inr sz_b1002; cases List.mem_singleton.mp hx; exact Or.inr sz_b_1008)
            have Z1203 := Nat.le_trans Z1189 p1204.1
            show OEnds p.tables e below G (T1203.setTop (mkF m 332 #[.val (.long q1), .second, .val (.long q2), .second, .val (.long q3), .second, .val (.long q4), .second, .val (.int p5), .val (.long (2305843009213693951 : Int64)), .second, .val (.long (2251799813685247 : Int64)), .second, .val (.int v1001), .val (.ref b1002), .val (.long v1186), .second, .val (.long v1187), .second, .val (.long v1188), .second, .unset, .unset, .unset, .unset, .unset, .unset] []))
            refine OEnds.st (fun _ k => XS.aload X1203.here hx rfl (hb hby at_332) rfl rfl k) ?_
            show OEnds p.tables e below G (T1203.setTop (mkF m 334 #[.val (.long q1), .second, .val (.long q2), .second, .val (.long q3), .second, .val (.long q4), .second, .val (.int p5), .val (.long (2305843009213693951 : Int64)), .second, .val (.long (2251799813685247 : Int64)), .second, .val (.int v1001), .val (.ref b1002), .val (.long v1186), .second, .val (.long v1187), .second, .val (.long v1188), .second, .unset, .unset, .unset, .unset, .unset, .unset] [(.ref b1002)]))
            refine OEnds.st (fun _ k => XS.lload X1203.here hx rfl (hb hby at_334) rfl k) ?_
            show OEnds p.tables e below G (T1203.setTop (mkF m 336 #[.val (.long q1), .second, .val (.long q2), .second, .val (.long q3), .second, .val (.long q4), .second, .val (.int p5), .val (.long (2305843009213693951 : Int64)), .second, .val (.long (2251799813685247 : Int64)), .second, .val (.int v1001), .val (.ref b1002), .val (.long v1186), .second, .val (.long v1187), .second, .val (.long v1188), .second, .unset, .unset, .unset, .unset, .unset, .unset] [(.long v1188), (.ref b1002)]))
            obtain ⟨cq1217, kq1217, q1217a, q1217b, q1217c⟩ := isOf hZ rfl p1205
            obtain ⟨_, _, ⟨T1217, L1217, k1217c, n1217c⟩, -, X1217, ⟨Lc1217, hQ1217, l1217, y1217, z1217⟩, st1217⟩ := X1203.virtualBack hx (y := (⟨"com/example/marshalyard/marshalyard/proxy/ResponseTimes", "add", "(J)V"⟩ : MethodName)) (z := (⟨"com/example/marshalyard/marshalyard/proxy/ResponseTimes", "add", "(J)V"⟩ : MethodName)) hown (mvT hZ (hw _ (List.mem_of_getElem? (i := 31) rfl))) (mvT hZ (hw _ (List.mem_of_getElem? (i := 32) rfl))) (notFace_of_selects (args := #[]) (mvT hZ (hw _ (List.mem_of_getElem? (i := 34) rfl)))) (mvT hZ (hw _ (List.mem_of_getElem? (i := 34) rfl))) (mvT hZ (hw _ (List.mem_of_getElem? (i := 33) rfl))) (by decide) (backOf (W := 0) (rmadd l Z a0 hw [] b1002 v1188 b_1008 kb_1008 (((0 : Int64) + (1 : Int64)) + (1 : Int64)) (((0 : Int64) + v1186) + v1187) ws_1203 T1203.heap n0 Z1203 p1205 p1206 p1207 p1208 p1209 f1210 f1211 ge_b1002 ge_b_1008 ne1016 (by omega)) hZ (hw _ (List.mem_of_getElem? (i := 35) rfl)) (hw _ (List.mem_of_getElem? (i := 4) rfl)) (by decide) (by decide)) q1217a q1217c (g := (mkF m 336 #[.val (.long q1), .second, .val (.long q2), .second, .val (.long q3), .second, .val (.long q4), .second, .val (.int p5), .val (.long (2305843009213693951 : Int64)), .second, .val (.long (2251799813685247 : Int64)), .second, .val (.int v1001), .val (.ref b1002), .val (.long v1186), .second, .val (.long v1187), .second, .val (.long v1188), .second, .unset, .unset, .unset, .unset, .unset, .unset] [(.long v1188), (.ref b1002)])) rfl (by rw [hml]; rfl) (Steps.refl _) (argsL := [(.long v1188)]) (rest := []) (lenOf pd_5 rfl) rfl (by show 2 * 0 + _ ≤ _; exact Nat.le_of_eq rfl) (hb hby at_336) (fun _ _ => ⟨rfl, rfl, (by decide : 0 + 1 + 1 + 0 + 0 + 0 ≤ _), (by decide : 0 + 3 + 4736 + 0 + 0 + 0 ≤ _)⟩)
            dsimp only [Pt.U, Pt.locs, Pt.cells, Pt.slots] at X1217 l1217 y1217 z1217 st1217 hQ1217
            subst l1217 y1217 z1217
            obtain ⟨ws_1217, rfl, N1217q, p1218, p1219, p1220, p1221, p1222, p1223⟩ := hQ1217
            have N1217 := Fr.app N1203 N1217q
            refine OEnds.st (fun _ k => st1217.trans k) ?_
            clear st1217
            have f1224 : Sta Z T1217.heap "com/example/marshalyard/marshalyard/proxy/ResponseTimes" "SPLIT_BITS" "I" (.int (7 : Int32)) := own_Sta_keep f1210 p1218 (fun x hx => by rcases List.mem_cons.mp hx with rfl | hx; exact own_exa_ns p1205; cases List.mem_singleton.mp hx; exact Arv.nostat p1209)
            have f1225 : Sta Z T1217.heap "com/example/marshalyard/marshalyard/proxy/ResponseTimes" "EXACT_BITS" "I" (.int (11 : Int32)) := own_Sta_keep f1211 p1218 (fun x hx => by rcases List.mem_cons.mp hx with rfl | hx; exact own_exa_ns p1205; cases List.mem_singleton.mp hx; exact Arv.nostat p1209)
            have f1226 : Exa Z T1217.heap b1002 "com/example/marshalyard/marshalyard/proxy/ResponseTimes" := p1205.keep p1218
            have KK1217 : Keep h0 T1217.heap [] := KK1203.trans p1218 (fun x hx => by rcases List.mem_cons.mp hx with rfl | hx; exact Or.inr sz_b1002; cases List.mem_singleton.mp hx; exact Or.inr sz_b_1008)
            have Z1217 := Nat.le_trans Z1203 p1218.1
            show OEnds p.tables e below G (T1217.setTop (mkF m 339 #[.val (.long q1), .second, .val (.long q2), .second, .val (.long q3), .second, .val (.long q4), .second, .val (.int p5), .val (.long (2305843009213693951 : Int64)), .second, .val (.long (2251799813685247 : Int64)), .second, .val (.int v1001), .val (.ref b1002), .val (.long v1186), .second, .val (.long v1187), .second, .val (.long v1188), .second, .unset, .unset, .unset, .unset, .unset, .unset] []))
            refine OEnds.st (fun _ k => XS.lload X1217.here hx rfl (hb hby at_339) rfl k) ?_
            show OEnds p.tables e below G (T1217.setTop (mkF m 341 #[.val (.long q1), .second, .val (.long q2), .second, .val (.long q3), .second, .val (.long q4), .second, .val (.int p5), .val (.long (2305843009213693951 : Int64)), .second, .val (.long (2251799813685247 : Int64)), .second, .val (.int v1001), .val (.ref b1002), .val (.long v1186), .second, .val (.long v1187), .second, .val (.long v1188), .second, .unset, .unset, .unset, .unset, .unset, .unset] [(.long v1186)]))
            refine OEnds.st (fun _ k => XS.lload X1217.here hx rfl (hb hby at_341) rfl k) ?_
            show OEnds p.tables e below G (T1217.setTop (mkF m 343 #[.val (.long q1), .second, .val (.long q2), .second, .val (.long q3), .second, .val (.long q4), .second, .val (.int p5), .val (.long (2305843009213693951 : Int64)), .second, .val (.long (2251799813685247 : Int64)), .second, .val (.int v1001), .val (.ref b1002), .val (.long v1186), .second, .val (.long v1187), .second, .val (.long v1188), .second, .unset, .unset, .unset, .unset, .unset, .unset] [(.long v1187), (.long v1186)]))
            refine OEnds.st (fun _ k => XS.lload X1217.here hx rfl (hb hby at_343) rfl k) ?_
            show OEnds p.tables e below G (T1217.setTop (mkF m 345 #[.val (.long q1), .second, .val (.long q2), .second, .val (.long q3), .second, .val (.long q4), .second, .val (.int p5), .val (.long (2305843009213693951 : Int64)), .second, .val (.long (2251799813685247 : Int64)), .second, .val (.int v1001), .val (.ref b1002), .val (.long v1186), .second, .val (.long v1187), .second, .val (.long v1188), .second, .unset, .unset, .unset, .unset, .unset, .unset] [(.long v1188), (.long v1187), (.long v1186)]))
            obtain ⟨_, _, ⟨T1231, L1231, k1231c, n1231c⟩, -, X1231, ⟨Lc1231, hQ1231, l1231, y1231, z1231⟩, st1231⟩ := Jvm.LawKit.callS X1217 hx (y := (⟨"java/lang/Math", "min", "(JJ)J"⟩ : MethodName)) hown (mvT hZ (hw _ (List.mem_of_getElem? (i := 53) rfl))) (mvT hZ (hw _ (List.mem_of_getElem? (i := 38) rfl))) (mvT hZ (hw _ (List.mem_of_getElem? (i := 39) rfl))) (mvT hZ (hw _ (List.mem_of_getElem? (i := 40) rfl))) (by decide) (backOf (W := 2) (rm7 l Z a0 hw [] v1187 v1188 T1217.heap n0 Z1217 ) hZ (hw _ (List.mem_of_getElem? (i := 40) rfl)) (hw _ (List.mem_of_getElem? (i := 39) rfl)) (by decide) (by decide)) (g := (mkF m 345 #[.val (.long q1), .second, .val (.long q2), .second, .val (.long q3), .second, .val (.long q4), .second, .val (.int p5), .val (.long (2305843009213693951 : Int64)), .second, .val (.long (2251799813685247 : Int64)), .second, .val (.int v1001), .val (.ref b1002), .val (.long v1186), .second, .val (.long v1187), .second, .val (.long v1188), .second, .unset, .unset, .unset, .unset, .unset, .unset] [(.long v1188), (.long v1187), (.long v1186)])) rfl (by rw [hml]; rfl) (argsL := [(.long v1187), (.long v1188)]) (rest := [(.long v1186)]) (lenOf pd_2 rfl) rfl (by show 2 * 0 + _ ≤ _; exact Nat.le_of_eq rfl) (hb hby at_345) (fun _ _ => ⟨rfl, rfl, (by decide : 0 + 1 + 1 + 0 + 0 + 0 + 0 ≤ _), (by decide : 0 + 3 + 4736 + 0 + 0 + 0 + 0 ≤ _)⟩)
            dsimp only [Pt.U, Pt.locs, Pt.cells, Pt.slots] at X1231 l1231 y1231 z1231 st1231 hQ1231
            subst l1231 y1231 z1231
            obtain ⟨rfl, N1231q, e1231⟩ := hQ1231
            have N1231 := Fr.app N1217 N1231q
            refine OEnds.st st1231 ?_
            clear st1231
            show OEnds p.tables e below G (T1231.setTop (mkF m 348 #[.val (.long q1), .second, .val (.long q2), .second, .val (.long q3), .second, .val (.long q4), .second, .val (.int p5), .val (.long (2305843009213693951 : Int64)), .second, .val (.long (2251799813685247 : Int64)), .second, .val (.int v1001), .val (.ref b1002), .val (.long v1186), .second, .val (.long v1187), .second, .val (.long v1188), .second, .unset, .unset, .unset, .unset, .unset, .unset] [(.long (own_mn v1187 v1188)), (.long v1186)]))
            obtain ⟨_, _, ⟨T1232, L1232, k1232c, n1232c⟩, -, X1232, ⟨Lc1232, hQ1232, l1232, y1232, z1232⟩, st1232⟩ := Jvm.LawKit.callS X1231 hx (y := (⟨"java/lang/Math", "min", "(JJ)J"⟩ : MethodName)) hown (mvT hZ (hw _ (List.mem_of_getElem? (i := 53) rfl))) (mvT hZ (hw _ (List.mem_of_getElem? (i := 38) rfl))) (mvT hZ (hw _ (List.mem_of_getElem? (i := 39) rfl))) (mvT hZ (hw _ (List.mem_of_getElem? (i := 40) rfl))) (by decide) (backOf (W := 0) (rm7 l Z a0 hw [] v1186 (own_mn v1187 v1188) T1217.heap n0 Z1217 ) hZ (hw _ (List.mem_of_getElem? (i := 40) rfl)) (hw _ (List.mem_of_getElem? (i := 39) rfl)) (by decide) (by decide)) (g := (mkF m 348 #[.val (.long q1), .second, .val (.long q2), .second, .val (.long q3), .second, .val (.long q4), .second, .val (.int p5), .val (.long (2305843009213693951 : Int64)), .second, .val (.long (2251799813685247 : Int64)), .second, .val (.int v1001), .val (.ref b1002), .val (.long v1186), .second, .val (.long v1187), .second, .val (.long v1188), .second, .unset, .unset, .unset, .unset, .unset, .unset] [(.long (own_mn v1187 v1188)), (.long v1186)])) rfl (by rw [hml]; rfl) (argsL := [(.long v1186), (.long (own_mn v1187 v1188))]) (rest := []) (lenOf pd_2 rfl) rfl (by show 2 * 0 + _ ≤ _; exact Nat.le_of_eq rfl) (hb hby at_348) (fun _ _ => ⟨rfl, e1231, (by decide : 0 + 1 + 1 + 0 + 0 + 0 + 0 + 0 ≤ _), (by decide : 0 + 3 + 4736 + 0 + 0 + 0 + 0 + 0 ≤ _)⟩)
            dsimp only [Pt.U, Pt.locs, Pt.cells, Pt.slots] at X1232 l1232 y1232 z1232 st1232 hQ1232
            subst l1232 y1232 z1232
            obtain ⟨rfl, N1232q, e1232⟩ := hQ1232
            have N1232 := Fr.app N1231 N1232q
            refine OEnds.st st1232 ?_
            clear st1232
            show OEnds p.tables e below G (T1232.setTop (mkF m 351 #[.val (.long q1), .second, .val (.long q2), .second, .val (.long q3), .second, .val (.long q4), .second, .val (.int p5), .val (.long (2305843009213693951 : Int64)), .second, .val (.long (2251799813685247 : Int64)), .second, .val (.int v1001), .val (.ref b1002), .val (.long v1186), .second, .val (.long v1187), .second, .val (.long v1188), .second, .unset, .unset, .unset, .unset, .unset, .unset] [(.long (own_mn v1186 (own_mn v1187 v1188)))]))
            refine OEnds.st (fun _ k => XS.lstore X1232.here hx rfl (hb hby at_351) rfl (l' := #[.val (.long q1), .second, .val (.long q2), .second, .val (.long q3), .second, .val (.long q4), .second, .val (.int p5), .val (.long (2305843009213693951 : Int64)), .second, .val (.long (2251799813685247 : Int64)), .second, .val (.int v1001), .val (.ref b1002), .val (.long v1186), .second, .val (.long v1187), .second, .val (.long v1188), .second, .val (.long (own_mn v1186 (own_mn v1187 v1188))), .second, .unset, .unset, .unset, .unset]) rfl k) ?_
            show OEnds p.tables e below G (T1232.setTop (mkF m 353 #[.val (.long q1), .second, .val (.long q2), .second, .val (.long q3), .second, .val (.long q4), .second, .val (.int p5), .val (.long (2305843009213693951 : Int64)), .second, .val (.long (2251799813685247 : Int64)), .second, .val (.int v1001), .val (.ref b1002), .val (.long v1186), .second, .val (.long v1187), .second, .val (.long v1188), .second, .val (.long (own_mn v1186 (own_mn v1187 v1188))), .second, .unset, .unset, .unset, .unset] []))
            generalize hv_v1233 : (own_mn v1186 (own_mn v1187 v1188)) = v1233
            show OEnds p.tables e below G (T1232.setTop (mkF m 353 #[.val (.long q1), .second, .val (.long q2), .second, .val (.long q3), .second, .val (.long q4), .second, .val (.int p5), .val (.long (2305843009213693951 : Int64)), .second, .val (.long (2251799813685247 : Int64)), .second, .val (.int v1001), .val (.ref b1002), .val (.long v1186), .second, .val (.long v1187), .second, .val (.long v1188), .second, .val (.long v1233), .second, .unset, .unset, .unset, .unset] []))
            refine OEnds.st (fun _ k => XS.lload X1232.here hx rfl (hb hby at_353) rfl k) ?_
            show OEnds p.tables e below G (T1232.setTop (mkF m 355 #[.val (.long q1), .second, .val (.long q2), .second, .val (.long q3), .second, .val (.long q4), .second, .val (.int p5), .val (.long (2305843009213693951 : Int64)), .second, .val (.long (2251799813685247 : Int64)), .second, .val (.int v1001), .val (.ref b1002), .val (.long v1186), .second, .val (.long v1187), .second, .val (.long v1188), .second, .val (.long v1233), .second, .unset, .unset, .unset, .unset] [(.long v1186)]))
            refine OEnds.st (fun _ k => XS.lload X1232.here hx rfl (hb hby at_355) rfl k) ?_
            show OEnds p.tables e below G (T1232.setTop (mkF m 357 #[.val (.long q1), .second, .val (.long q2), .second, .val (.long q3), .second, .val (.long q4), .second, .val (.int p5), .val (.long (2305843009213693951 : Int64)), .second, .val (.long (2251799813685247 : Int64)), .second, .val (.int v1001), .val (.ref b1002), .val (.long v1186), .second, .val (.long v1187), .second, .val (.long v1188), .second, .val (.long v1233), .second, .unset, .unset, .unset, .unset] [(.long v1187), (.long v1186)]))
            refine OEnds.st (fun _ k => XS.lload X1232.here hx rfl (hb hby at_357) rfl k) ?_
            show OEnds p.tables e below G (T1232.setTop (mkF m 359 #[.val (.long q1), .second, .val (.long q2), .second, .val (.long q3), .second, .val (.long q4), .second, .val (.int p5), .val (.long (2305843009213693951 : Int64)), .second, .val (.long (2251799813685247 : Int64)), .second, .val (.int v1001), .val (.ref b1002), .val (.long v1186), .second, .val (.long v1187), .second, .val (.long v1188), .second, .val (.long v1233), .second, .unset, .unset, .unset, .unset] [(.long v1188), (.long v1187), (.long v1186)]))
            obtain ⟨_, _, ⟨T1234, L1234, k1234c, n1234c⟩, -, X1234, ⟨Lc1234, hQ1234, l1234, y1234, z1234⟩, st1234⟩ := Jvm.LawKit.callS X1232 hx (y := (⟨"java/lang/Math", "max", "(JJ)J"⟩ : MethodName)) hown (mvT hZ (hw _ (List.mem_of_getElem? (i := 54) rfl))) (mvT hZ (hw _ (List.mem_of_getElem? (i := 55) rfl))) (mvT hZ (hw _ (List.mem_of_getElem? (i := 39) rfl))) (mvT hZ (hw _ (List.mem_of_getElem? (i := 56) rfl))) (by decide) (backOf (W := 2) (rm9 l Z a0 hw [] v1187 v1188 T1217.heap n0 Z1217 ) hZ (hw _ (List.mem_of_getElem? (i := 56) rfl)) (hw _ (List.mem_of_getElem? (i := 39) rfl)) (by decide) (by decide)) (g := (mkF m 359 #[.val (.long q1), .second, .val (.long q2), .second, .val (.long q3), .second, .val (.long q4), .second, .val (.int p5), .val (.long (2305843009213693951 : Int64)), .second, .val (.long (2251799813685247 : Int64)), .second, .val (.int v1001), .val (.ref b1002), .val (.long v1186), .second, .val (.long v1187), .second, .val (.long v1188), .second, .val (.long v1233), .second, .unset, .unset, .unset, .unset] [(.long v1188), (.long v1187), (.long v1186)])) rfl (by rw [hml]; rfl) (argsL := [(.long v1187), (.long v1188)]) (rest := [(.long v1186)]) (lenOf pd_2 rfl) rfl (by show 2 * 0 + _ ≤ _; exact Nat.le_of_eq rfl) (hb hby at_359) (fun _ _ => ⟨rfl, e1232, (by decide : 0 + 1 + 1 + 0 + 0 + 0 + 0 + 0 + 0 ≤ _), (by decide : 0 + 3 + 4736 + 0 + 0 + 0 + 0 + 0 + 0 ≤ _)⟩)
            dsimp only [Pt.U, Pt.locs, Pt.cells, Pt.slots] at X1234 l1234 y1234 z1234 st1234 hQ1234
            subst l1234 y1234 z1234
            obtain ⟨rfl, N1234q, e1234⟩ := hQ1234
            have N1234 := Fr.app N1232 N1234q
            refine OEnds.st st1234 ?_
            clear st1234
            show OEnds p.tables e below G (T1234.setTop (mkF m 362 #[.val (.long q1), .second, .val (.long q2), .second, .val (.long q3), .second, .val (.long q4), .second, .val (.int p5), .val (.long (2305843009213693951 : Int64)), .second, .val (.long (2251799813685247 : Int64)), .second, .val (.int v1001), .val (.ref b1002), .val (.long v1186), .second, .val (.long v1187), .second, .val (.long v1188), .second, .val (.long v1233), .second, .unset, .unset, .unset, .unset] [(.long (own_mxJ v1187 v1188)), (.long v1186)]))
            obtain ⟨_, _, ⟨T1235, L1235, k1235c, n1235c⟩, -, X1235, ⟨Lc1235, hQ1235, l1235, y1235, z1235⟩, st1235⟩ := Jvm.LawKit.callS X1234 hx (y := (⟨"java/lang/Math", "max", "(JJ)J"⟩ : MethodName)) hown (mvT hZ (hw _ (List.mem_of_getElem? (i := 54) rfl))) (mvT hZ (hw _ (List.mem_of_getElem? (i := 55) rfl))) (mvT hZ (hw _ (List.mem_of_getElem? (i := 39) rfl))) (mvT hZ (hw _ (List.mem_of_getElem? (i := 56) rfl))) (by decide) (backOf (W := 0) (rm9 l Z a0 hw [] v1186 (own_mxJ v1187 v1188) T1217.heap n0 Z1217 ) hZ (hw _ (List.mem_of_getElem? (i := 56) rfl)) (hw _ (List.mem_of_getElem? (i := 39) rfl)) (by decide) (by decide)) (g := (mkF m 362 #[.val (.long q1), .second, .val (.long q2), .second, .val (.long q3), .second, .val (.long q4), .second, .val (.int p5), .val (.long (2305843009213693951 : Int64)), .second, .val (.long (2251799813685247 : Int64)), .second, .val (.int v1001), .val (.ref b1002), .val (.long v1186), .second, .val (.long v1187), .second, .val (.long v1188), .second, .val (.long v1233), .second, .unset, .unset, .unset, .unset] [(.long (own_mxJ v1187 v1188)), (.long v1186)])) rfl (by rw [hml]; rfl) (argsL := [(.long v1186), (.long (own_mxJ v1187 v1188))]) (rest := []) (lenOf pd_2 rfl) rfl (by show 2 * 0 + _ ≤ _; exact Nat.le_of_eq rfl) (hb hby at_362) (fun _ _ => ⟨rfl, e1234, (by decide : 0 + 1 + 1 + 0 + 0 + 0 + 0 + 0 + 0 + 0 ≤ _), (by decide : 0 + 3 + 4736 + 0 + 0 + 0 + 0 + 0 + 0 + 0 ≤ _)⟩)
            dsimp only [Pt.U, Pt.locs, Pt.cells, Pt.slots] at X1235 l1235 y1235 z1235 st1235 hQ1235
            subst l1235 y1235 z1235
            obtain ⟨rfl, N1235q, e1235⟩ := hQ1235
            have N1235 := Fr.app N1234 N1235q
            refine OEnds.st st1235 ?_
            clear st1235
            show OEnds p.tables e below G (T1235.setTop (mkF m 365 #[.val (.long q1), .second, .val (.long q2), .second, .val (.long q3), .second, .val (.long q4), .second, .val (.int p5), .val (.long (2305843009213693951 : Int64)), .second, .val (.long (2251799813685247 : Int64)), .second, .val (.int v1001), .val (.ref b1002), .val (.long v1186), .second, .val (.long v1187), .second, .val (.long v1188), .second, .val (.long v1233), .second, .unset, .unset, .unset, .unset] [(.long (own_mxJ v1186 (own_mxJ v1187 v1188)))]))
            refine OEnds.st (fun _ k => XS.lstore X1235.here hx rfl (hb hby at_365) rfl (l' := #[.val (.long q1), .second, .val (.long q2), .second, .val (.long q3), .second, .val (.long q4), .second, .val (.int p5), .val (.long (2305843009213693951 : Int64)), .second, .val (.long (2251799813685247 : Int64)), .second, .val (.int v1001), .val (.ref b1002), .val (.long v1186), .second, .val (.long v1187), .second, .val (.long v1188), .second, .val (.long v1233), .second, .val (.long (own_mxJ v1186 (own_mxJ v1187 v1188))), .second, .unset, .unset]) rfl k) ?_
            show OEnds p.tables e below G (T1235.setTop (mkF m 367 #[.val (.long q1), .second, .val (.long q2), .second, .val (.long q3), .second, .val (.long q4), .second, .val (.int p5), .val (.long (2305843009213693951 : Int64)), .second, .val (.long (2251799813685247 : Int64)), .second, .val (.int v1001), .val (.ref b1002), .val (.long v1186), .second, .val (.long v1187), .second, .val (.long v1188), .second, .val (.long v1233), .second, .val (.long (own_mxJ v1186 (own_mxJ v1187 v1188))), .second, .unset, .unset] []))
            generalize hv_v1236 : (own_mxJ v1186 (own_mxJ v1187 v1188)) = v1236
            show OEnds p.tables e below G (T1235.setTop (mkF m 367 #[.val (.long q1), .second, .val (.long q2), .second, .val (.long q3), .second, .val (.long q4), .second, .val (.int p5), .val (.long (2305843009213693951 : Int64)), .second, .val (.long (2251799813685247 : Int64)), .second, .val (.int v1001), .val (.ref b1002), .val (.long v1186), .second, .val (.long v1187), .second, .val (.long v1188), .second, .val (.long v1233), .second, .val (.long v1236), .second, .unset, .unset] []))
            refine OEnds.st (fun _ k => XS.aload X1235.here hx rfl (hb hby at_367) rfl rfl k) ?_
            show OEnds p.tables e below G (T1235.setTop (mkF m 369 #[.val (.long q1), .second, .val (.long q2), .second, .val (.long q3), .second, .val (.long q4), .second, .val (.int p5), .val (.long (2305843009213693951 : Int64)), .second, .val (.long (2251799813685247 : Int64)), .second, .val (.int v1001), .val (.ref b1002), .val (.long v1186), .second, .val (.long v1187), .second, .val (.long v1188), .second, .val (.long v1233), .second, .val (.long v1236), .second, .unset, .unset] [(.ref b1002)]))
            obtain ⟨cq1237, kq1237, q1237a, q1237b, q1237c⟩ := isOf hZ e1235 p1219
            obtain ⟨_, _, ⟨T1237, L1237, k1237c, n1237c⟩, -, X1237, ⟨Lc1237, hQ1237, l1237, y1237, z1237⟩, st1237⟩ := X1235.virtualBack hx (y := (⟨"com/example/marshalyard/marshalyard/proxy/ResponseTimes", "averageMillis", "()D"⟩ : MethodName)) (z := (⟨"com/example/marshalyard/marshalyard/proxy/ResponseTimes", "averageMillis", "()D"⟩ : MethodName)) hown (mvT hZ (hw _ (List.mem_of_getElem? (i := 45) rfl))) (mvT hZ (hw _ (List.mem_of_getElem? (i := 46) rfl))) (notFace_of_selects (args := #[]) (mvT hZ (hw _ (List.mem_of_getElem? (i := 48) rfl)))) (mvT hZ (hw _ (List.mem_of_getElem? (i := 48) rfl))) (mvT hZ (hw _ (List.mem_of_getElem? (i := 47) rfl))) (by decide) (backOf (W := 0) (rmav l Z a0 hw [] b1002 ((((0 : Int64) + (1 : Int64)) + (1 : Int64)) + (1 : Int64)) ((((0 : Int64) + v1186) + v1187) + v1188) T1217.heap n0 Z1217 p1221 p1222 (by decide)) hZ (hw _ (List.mem_of_getElem? (i := 49) rfl)) (hw _ (List.mem_of_getElem? (i := 4) rfl)) (by decide) (by decide)) q1237a q1237c (g := (mkF m 369 #[.val (.long q1), .second, .val (.long q2), .second, .val (.long q3), .second, .val (.long q4), .second, .val (.int p5), .val (.long (2305843009213693951 : Int64)), .second, .val (.long (2251799813685247 : Int64)), .second, .val (.int v1001), .val (.ref b1002), .val (.long v1186), .second, .val (.long v1187), .second, .val (.long v1188), .second, .val (.long v1233), .second, .val (.long v1236), .second, .unset, .unset] [(.ref b1002)])) rfl (by rw [hml]; rfl) (Steps.refl _) (argsL := []) (rest := []) (lenOf pd_4 rfl) rfl (by show 2 * 0 + _ ≤ _; exact Nat.le_of_eq rfl) (hb hby at_369) (fun _ _ => ⟨rfl, e1235, (by decide : 0 + 1 + 1 + 0 + 0 + 0 + 0 + 0 + 0 + 0 + 0 ≤ _), (by decide : 0 + 3 + 4736 + 0 + 0 + 0 + 0 + 0 + 0 + 0 + 0 ≤ _)⟩)
            dsimp only [Pt.U, Pt.locs, Pt.cells, Pt.slots] at X1237 l1237 y1237 z1237 st1237 hQ1237
            subst l1237 y1237 z1237
            obtain ⟨rfl, N1237q, e1237⟩ := hQ1237
            have N1237 := Fr.app N1235 N1237q
            refine OEnds.st (fun _ k => st1237.trans k) ?_
            clear st1237
            obtain ⟨MA, MB, MC, hA, hB, hC, hAB, hBC⟩ := own_five hb15 hb17 hb19 hv_v1233 hv_v1236
            show OEnds p.tables e below G (T1237.setTop (mkF m 372 #[.val (.long q1), .second, .val (.long q2), .second, .val (.long q3), .second, .val (.long q4), .second, .val (.int p5), .val (.long (2305843009213693951 : Int64)), .second, .val (.long (2251799813685247 : Int64)), .second, .val (.int v1001), .val (.ref b1002), .val (.long v1186), .second, .val (.long v1187), .second, .val (.long v1188), .second, .val (.long v1233), .second, .val (.long v1236), .second, .unset, .unset] [(.double (FP.ddiv (FP.ddiv (FP.l2d ((((0 : Int64) + v1186) + v1187) + v1188)) (FP.l2d ((((0 : Int64) + (1 : Int64)) + (1 : Int64)) + (1 : Int64)))) (4696837146684686336 : UInt64)))]))
            refine OEnds.st (fun _ k => XS.dstore X1237.here hx rfl (hb hby at_372) rfl (l' := #[.val (.long q1), .second, .val (.long q2), .second, .val (.long q3), .second, .val (.long q4), .second, .val (.int p5), .val (.long (2305843009213693951 : Int64)), .second, .val (.long (2251799813685247 : Int64)), .second, .val (.int v1001), .val (.ref b1002), .val (.long v1186), .second, .val (.long v1187), .second, .val (.long v1188), .second, .val (.long v1233), .second, .val (.long v1236), .second, .val (.double (FP.ddiv (FP.ddiv (FP.l2d ((((0 : Int64) + v1186) + v1187) + v1188)) (FP.l2d ((((0 : Int64) + (1 : Int64)) + (1 : Int64)) + (1 : Int64)))) (4696837146684686336 : UInt64))), .second]) rfl k) ?_
            show OEnds p.tables e below G (T1237.setTop (mkF m 374 #[.val (.long q1), .second, .val (.long q2), .second, .val (.long q3), .second, .val (.long q4), .second, .val (.int p5), .val (.long (2305843009213693951 : Int64)), .second, .val (.long (2251799813685247 : Int64)), .second, .val (.int v1001), .val (.ref b1002), .val (.long v1186), .second, .val (.long v1187), .second, .val (.long v1188), .second, .val (.long v1233), .second, .val (.long v1236), .second, .val (.double (FP.ddiv (FP.ddiv (FP.l2d ((((0 : Int64) + v1186) + v1187) + v1188)) (FP.l2d ((((0 : Int64) + (1 : Int64)) + (1 : Int64)) + (1 : Int64)))) (4696837146684686336 : UInt64))), .second] []))
            refine OEnds.st (fun _ k => XS.lload X1237.here hx rfl (hb hby at_374) rfl k) ?_
            show OEnds p.tables e below G (T1237.setTop (mkF m 376 #[.val (.long q1), .second, .val (.long q2), .second, .val (.long q3), .second, .val (.long q4), .second, .val (.int p5), .val (.long (2305843009213693951 : Int64)), .second, .val (.long (2251799813685247 : Int64)), .second, .val (.int v1001), .val (.ref b1002), .val (.long v1186), .second, .val (.long v1187), .second, .val (.long v1188), .second, .val (.long v1233), .second, .val (.long v1236), .second, .val (.double (FP.ddiv (FP.ddiv (FP.l2d ((((0 : Int64) + v1186) + v1187) + v1188)) (FP.l2d ((((0 : Int64) + (1 : Int64)) + (1 : Int64)) + (1 : Int64)))) (4696837146684686336 : UInt64))), .second] [(.long v1233)]))
            refine OEnds.st (fun _ k => XS.l2dS X1237.here hx rfl (hb hby at_376) rfl (v := (FP.l2d v1233)) rfl k) ?_
            show OEnds p.tables e below G (T1237.setTop (mkF m 377 #[.val (.long q1), .second, .val (.long q2), .second, .val (.long q3), .second, .val (.long q4), .second, .val (.int p5), .val (.long (2305843009213693951 : Int64)), .second, .val (.long (2251799813685247 : Int64)), .second, .val (.int v1001), .val (.ref b1002), .val (.long v1186), .second, .val (.long v1187), .second, .val (.long v1188), .second, .val (.long v1233), .second, .val (.long v1236), .second, .val (.double (FP.ddiv (FP.ddiv (FP.l2d ((((0 : Int64) + v1186) + v1187) + v1188)) (FP.l2d ((((0 : Int64) + (1 : Int64)) + (1 : Int64)) + (1 : Int64)))) (4696837146684686336 : UInt64))), .second] [(.double (FP.l2d v1233))]))
            refine OEnds.st (X1237.ldc2DoubleC hx hown (mvT hZ (hw _ (List.mem_of_getElem? (i := 51) rfl))) (g := (mkF m 377 #[.val (.long q1), .second, .val (.long q2), .second, .val (.long q3), .second, .val (.long q4), .second, .val (.int p5), .val (.long (2305843009213693951 : Int64)), .second, .val (.long (2251799813685247 : Int64)), .second, .val (.int v1001), .val (.ref b1002), .val (.long v1186), .second, .val (.long v1187), .second, .val (.long v1188), .second, .val (.long v1233), .second, .val (.long v1236), .second, .val (.double (FP.ddiv (FP.ddiv (FP.l2d ((((0 : Int64) + v1186) + v1187) + v1188)) (FP.l2d ((((0 : Int64) + (1 : Int64)) + (1 : Int64)) + (1 : Int64)))) (4696837146684686336 : UInt64))), .second] [(.double (FP.l2d v1233))])) rfl (hb hby at_377)) ?_
            show OEnds p.tables e below G (T1237.setTop (mkF m 380 #[.val (.long q1), .second, .val (.long q2), .second, .val (.long q3), .second, .val (.long q4), .second, .val (.int p5), .val (.long (2305843009213693951 : Int64)), .second, .val (.long (2251799813685247 : Int64)), .second, .val (.int v1001), .val (.ref b1002), .val (.long v1186), .second, .val (.long v1187), .second, .val (.long v1188), .second, .val (.long v1233), .second, .val (.long v1236), .second, .val (.double (FP.ddiv (FP.ddiv (FP.l2d ((((0 : Int64) + v1186) + v1187) + v1188)) (FP.l2d ((((0 : Int64) + (1 : Int64)) + (1 : Int64)) + (1 : Int64)))) (4696837146684686336 : UInt64))), .second] [(.double (4696837146684686336 : UInt64)), (.double (FP.l2d v1233))]))
            refine OEnds.st (fun _ k => XS.ddivS X1237.here hx rfl (hb hby at_380) rfl (own_nnQ (Fl.l2d_fin _).noNaN) rfl k) ?_
            show OEnds p.tables e below G (T1237.setTop (mkF m 381 #[.val (.long q1), .second, .val (.long q2), .second, .val (.long q3), .second, .val (.long q4), .second, .val (.int p5), .val (.long (2305843009213693951 : Int64)), .second, .val (.long (2251799813685247 : Int64)), .second, .val (.int v1001), .val (.ref b1002), .val (.long v1186), .second, .val (.long v1187), .second, .val (.long v1188), .second, .val (.long v1233), .second, .val (.long v1236), .second, .val (.double (FP.ddiv (FP.ddiv (FP.l2d ((((0 : Int64) + v1186) + v1187) + v1188)) (FP.l2d ((((0 : Int64) + (1 : Int64)) + (1 : Int64)) + (1 : Int64)))) (4696837146684686336 : UInt64))), .second] [(.double (FP.ddiv (FP.l2d v1233) (4696837146684686336 : UInt64)))]))
            refine OEnds.st (fun _ k => XS.dload X1237.here hx rfl (hb hby at_381) rfl k) ?_
            show OEnds p.tables e below G (T1237.setTop (mkF m 383 #[.val (.long q1), .second, .val (.long q2), .second, .val (.long q3), .second, .val (.long q4), .second, .val (.int p5), .val (.long (2305843009213693951 : Int64)), .second, .val (.long (2251799813685247 : Int64)), .second, .val (.int v1001), .val (.ref b1002), .val (.long v1186), .second, .val (.long v1187), .second, .val (.long v1188), .second, .val (.long v1233), .second, .val (.long v1236), .second, .val (.double (FP.ddiv (FP.ddiv (FP.l2d ((((0 : Int64) + v1186) + v1187) + v1188)) (FP.l2d ((((0 : Int64) + (1 : Int64)) + (1 : Int64)) + (1 : Int64)))) (4696837146684686336 : UInt64))), .second] [(.double (FP.ddiv (FP.ddiv (FP.l2d ((((0 : Int64) + v1186) + v1187) + v1188)) (FP.l2d ((((0 : Int64) + (1 : Int64)) + (1 : Int64)) + (1 : Int64)))) (4696837146684686336 : UInt64))), (.double (FP.ddiv (FP.l2d v1233) (4696837146684686336 : UInt64)))]))
            refine OEnds.st (fun _ k => XS.dcmpS X1237.here hx rfl (hb hby at_383) rfl rfl k) ?_
            show OEnds p.tables e below G (T1237.setTop (mkF m 384 #[.val (.long q1), .second, .val (.long q2), .second, .val (.long q3), .second, .val (.long q4), .second, .val (.int p5), .val (.long (2305843009213693951 : Int64)), .second, .val (.long (2251799813685247 : Int64)), .second, .val (.int v1001), .val (.ref b1002), .val (.long v1186), .second, .val (.long v1187), .second, .val (.long v1188), .second, .val (.long v1233), .second, .val (.long v1236), .second, .val (.double (FP.ddiv (FP.ddiv (FP.l2d ((((0 : Int64) + v1186) + v1187) + v1188)) (FP.l2d ((((0 : Int64) + (1 : Int64)) + (1 : Int64)) + (1 : Int64)))) (4696837146684686336 : UInt64))), .second] [(.int (cmpValue (FP.dcmp (FP.ddiv (FP.l2d v1233) (4696837146684686336 : UInt64)) (FP.ddiv (FP.ddiv (FP.l2d ((((0 : Int64) + v1186) + v1187) + v1188)) (FP.l2d ((((0 : Int64) + (1 : Int64)) + (1 : Int64)) + (1 : Int64)))) (4696837146684686336 : UInt64))) .g))]))
            have hc384_1238 : ¬ ((0 : Int32) < (cmpValue (FP.dcmp (FP.ddiv (FP.l2d v1233) (4696837146684686336 : UInt64)) (FP.ddiv (FP.ddiv (FP.l2d ((((0 : Int64) + v1186) + v1187) + v1188)) (FP.l2d ((((0 : Int64) + (1 : Int64)) + (1 : Int64)) + (1 : Int64)))) (4696837146684686336 : UInt64))) .g)) := fun q => by
              rw [own_z0 v1186, own_c3'] at q
              exact Nat.not_lt.mpr hAB ((own_cgt hA hB .g).mp q)
            refine OEnds.st (fun _ k => XS.ifNo X1237.here hx rfl (hb hby at_384) rfl ((if0 _ _).trans (flt hc384_1238).2.2.1) k) ?_
            show OEnds p.tables e below G (T1237.setTop (mkF m 387 #[.val (.long q1), .second, .val (.long q2), .second, .val (.long q3), .second, .val (.long q4), .second, .val (.int p5), .val (.long (2305843009213693951 : Int64)), .second, .val (.long (2251799813685247 : Int64)), .second, .val (.int v1001), .val (.ref b1002), .val (.long v1186), .second, .val (.long v1187), .second, .val (.long v1188), .second, .val (.long v1233), .second, .val (.long v1236), .second, .val (.double (FP.ddiv (FP.ddiv (FP.l2d ((((0 : Int64) + v1186) + v1187) + v1188)) (FP.l2d ((((0 : Int64) + (1 : Int64)) + (1 : Int64)) + (1 : Int64)))) (4696837146684686336 : UInt64))), .second] []))
            refine OEnds.st (fun _ k => XS.dload X1237.here hx rfl (hb hby at_387) rfl k) ?_
            show OEnds p.tables e below G (T1237.setTop (mkF m 389 #[.val (.long q1), .second, .val (.long q2), .second, .val (.long q3), .second, .val (.long q4), .second, .val (.int p5), .val (.long (2305843009213693951 : Int64)), .second, .val (.long (2251799813685247 : Int64)), .second, .val (.int v1001), .val (.ref b1002), .val (.long v1186), .second, .val (.long v1187), .second, .val (.long v1188), .second, .val (.long v1233), .second, .val (.long v1236), .second, .val (.double (FP.ddiv (FP.ddiv (FP.l2d ((((0 : Int64) + v1186) + v1187) + v1188)) (FP.l2d ((((0 : Int64) + (1 : Int64)) + (1 : Int64)) + (1 : Int64)))) (4696837146684686336 : UInt64))), .second] [(.double (FP.ddiv (FP.ddiv (FP.l2d ((((0 : Int64) + v1186) + v1187) + v1188)) (FP.l2d ((((0 : Int64) + (1 : Int64)) + (1 : Int64)) + (1 : Int64)))) (4696837146684686336 : UInt64)))]))
            refine OEnds.st (fun _ k => XS.lload X1237.here hx rfl (hb hby at_389) rfl k) ?_
            show OEnds p.tables e below G (T1237.setTop (mkF m 391 #[.val (.long q1), .second, .val (.long q2), .second, .val (.long q3), .second, .val (.long q4), .second, .val (.int p5), .val (.long (2305843009213693951 : Int64)), .second, .val (.long (2251799813685247 : Int64)), .second, .val (.int v1001), .val (.ref b1002), .val (.long v1186), .second, .val (.long v1187), .second, .val (.long v1188), .second, .val (.long v1233), .second, .val (.long v1236), .second, .val (.double (FP.ddiv (FP.ddiv (FP.l2d ((((0 : Int64) + v1186) + v1187) + v1188)) (FP.l2d ((((0 : Int64) + (1 : Int64)) + (1 : Int64)) + (1 : Int64)))) (4696837146684686336 : UInt64))), .second] [(.long v1236), (.double (FP.ddiv (FP.ddiv (FP.l2d ((((0 : Int64) + v1186) + v1187) + v1188)) (FP.l2d ((((0 : Int64) + (1 : Int64)) + (1 : Int64)) + (1 : Int64)))) (4696837146684686336 : UInt64)))]))
            refine OEnds.st (fun _ k => XS.l2dS X1237.here hx rfl (hb hby at_391) rfl (v := (FP.l2d v1236)) rfl k) ?_
            show OEnds p.tables e below G (T1237.setTop (mkF m 392 #[.val (.long q1), .second, .val (.long q2), .second, .val (.long q3), .second, .val (.long q4), .second, .val (.int p5), .val (.long (2305843009213693951 : Int64)), .second, .val (.long (2251799813685247 : Int64)), .second, .val (.int v1001), .val (.ref b1002), .val (.long v1186), .second, .val (.long v1187), .second, .val (.long v1188), .second, .val (.long v1233), .second, .val (.long v1236), .second, .val (.double (FP.ddiv (FP.ddiv (FP.l2d ((((0 : Int64) + v1186) + v1187) + v1188)) (FP.l2d ((((0 : Int64) + (1 : Int64)) + (1 : Int64)) + (1 : Int64)))) (4696837146684686336 : UInt64))), .second] [(.double (FP.l2d v1236)), (.double (FP.ddiv (FP.ddiv (FP.l2d ((((0 : Int64) + v1186) + v1187) + v1188)) (FP.l2d ((((0 : Int64) + (1 : Int64)) + (1 : Int64)) + (1 : Int64)))) (4696837146684686336 : UInt64)))]))
            refine OEnds.st (X1237.ldc2DoubleC hx hown (mvT hZ (hw _ (List.mem_of_getElem? (i := 51) rfl))) (g := (mkF m 392 #[.val (.long q1), .second, .val (.long q2), .second, .val (.long q3), .second, .val (.long q4), .second, .val (.int p5), .val (.long (2305843009213693951 : Int64)), .second, .val (.long (2251799813685247 : Int64)), .second, .val (.int v1001), .val (.ref b1002), .val (.long v1186), .second, .val (.long v1187), .second, .val (.long v1188), .second, .val (.long v1233), .second, .val (.long v1236), .second, .val (.double (FP.ddiv (FP.ddiv (FP.l2d ((((0 : Int64) + v1186) + v1187) + v1188)) (FP.l2d ((((0 : Int64) + (1 : Int64)) + (1 : Int64)) + (1 : Int64)))) (4696837146684686336 : UInt64))), .second] [(.double (FP.l2d v1236)), (.double (FP.ddiv (FP.ddiv (FP.l2d ((((0 : Int64) + v1186) + v1187) + v1188)) (FP.l2d ((((0 : Int64) + (1 : Int64)) + (1 : Int64)) + (1 : Int64)))) (4696837146684686336 : UInt64)))])) rfl (hb hby at_392)) ?_
            show OEnds p.tables e below G (T1237.setTop (mkF m 395 #[.val (.long q1), .second, .val (.long q2), .second, .val (.long q3), .second, .val (.long q4), .second, .val (.int p5), .val (.long (2305843009213693951 : Int64)), .second, .val (.long (2251799813685247 : Int64)), .second, .val (.int v1001), .val (.ref b1002), .val (.long v1186), .second, .val (.long v1187), .second, .val (.long v1188), .second, .val (.long v1233), .second, .val (.long v1236), .second, .val (.double (FP.ddiv (FP.ddiv (FP.l2d ((((0 : Int64) + v1186) + v1187) + v1188)) (FP.l2d ((((0 : Int64) + (1 : Int64)) + (1 : Int64)) + (1 : Int64)))) (4696837146684686336 : UInt64))), .second] [(.double (4696837146684686336 : UInt64)), (.double (FP.l2d v1236)), (.double (FP.ddiv (FP.ddiv (FP.l2d ((((0 : Int64) + v1186) + v1187) + v1188)) (FP.l2d ((((0 : Int64) + (1 : Int64)) + (1 : Int64)) + (1 : Int64)))) (4696837146684686336 : UInt64)))]))
            refine OEnds.st (fun _ k => XS.ddivS X1237.here hx rfl (hb hby at_395) rfl (own_nnQ (Fl.l2d_fin _).noNaN) rfl k) ?_
            show OEnds p.tables e below G (T1237.setTop (mkF m 396 #[.val (.long q1), .second, .val (.long q2), .second, .val (.long q3), .second, .val (.long q4), .second, .val (.int p5), .val (.long (2305843009213693951 : Int64)), .second, .val (.long (2251799813685247 : Int64)), .second, .val (.int v1001), .val (.ref b1002), .val (.long v1186), .second, .val (.long v1187), .second, .val (.long v1188), .second, .val (.long v1233), .second, .val (.long v1236), .second, .val (.double (FP.ddiv (FP.ddiv (FP.l2d ((((0 : Int64) + v1186) + v1187) + v1188)) (FP.l2d ((((0 : Int64) + (1 : Int64)) + (1 : Int64)) + (1 : Int64)))) (4696837146684686336 : UInt64))), .second] [(.double (FP.ddiv (FP.l2d v1236) (4696837146684686336 : UInt64))), (.double (FP.ddiv (FP.ddiv (FP.l2d ((((0 : Int64) + v1186) + v1187) + v1188)) (FP.l2d ((((0 : Int64) + (1 : Int64)) + (1 : Int64)) + (1 : Int64)))) (4696837146684686336 : UInt64)))]))
            refine OEnds.st (fun _ k => XS.dcmpS X1237.here hx rfl (hb hby at_396) rfl rfl k) ?_
            show OEnds p.tables e below G (T1237.setTop (mkF m 397 #[.val (.long q1), .second, .val (.long q2), .second, .val (.long q3), .second, .val (.long q4), .second, .val (.int p5), .val (.long (2305843009213693951 : Int64)), .second, .val (.long (2251799813685247 : Int64)), .second, .val (.int v1001), .val (.ref b1002), .val (.long v1186), .second, .val (.long v1187), .second, .val (.long v1188), .second, .val (.long v1233), .second, .val (.long v1236), .second, .val (.double (FP.ddiv (FP.ddiv (FP.l2d ((((0 : Int64) + v1186) + v1187) + v1188)) (FP.l2d ((((0 : Int64) + (1 : Int64)) + (1 : Int64)) + (1 : Int64)))) (4696837146684686336 : UInt64))), .second] [(.int (cmpValue (FP.dcmp (FP.ddiv (FP.ddiv (FP.l2d ((((0 : Int64) + v1186) + v1187) + v1188)) (FP.l2d ((((0 : Int64) + (1 : Int64)) + (1 : Int64)) + (1 : Int64)))) (4696837146684686336 : UInt64)) (FP.ddiv (FP.l2d v1236) (4696837146684686336 : UInt64))) .g))]))
            have hc397_1239 : ¬ ((0 : Int32) < (cmpValue (FP.dcmp (FP.ddiv (FP.ddiv (FP.l2d ((((0 : Int64) + v1186) + v1187) + v1188)) (FP.l2d ((((0 : Int64) + (1 : Int64)) + (1 : Int64)) + (1 : Int64)))) (4696837146684686336 : UInt64)) (FP.ddiv (FP.l2d v1236) (4696837146684686336 : UInt64))) .g)) := fun q => by
              rw [own_z0 v1186, own_c3'] at q
              exact Nat.not_lt.mpr hBC ((own_cgt hB hC .g).mp q)
            refine OEnds.st (fun _ k => XS.ifNo X1237.here hx rfl (hb hby at_397) rfl ((if0 _ _).trans (flt hc397_1239).2.2.1) k) ?_
            show OEnds p.tables e below G (T1237.setTop (mkF m 400 #[.val (.long q1), .second, .val (.long q2), .second, .val (.long q3), .second, .val (.long q4), .second, .val (.int p5), .val (.long (2305843009213693951 : Int64)), .second, .val (.long (2251799813685247 : Int64)), .second, .val (.int v1001), .val (.ref b1002), .val (.long v1186), .second, .val (.long v1187), .second, .val (.long v1188), .second, .val (.long v1233), .second, .val (.long v1236), .second, .val (.double (FP.ddiv (FP.ddiv (FP.l2d ((((0 : Int64) + v1186) + v1187) + v1188)) (FP.l2d ((((0 : Int64) + (1 : Int64)) + (1 : Int64)) + (1 : Int64)))) (4696837146684686336 : UInt64))), .second] []))
            refine OEnds.st (fun _ k => XS.iconst X1237.here hx rfl (hb hby at_400) k) ?_
            show OEnds p.tables e below G (T1237.setTop (mkF m 401 #[.val (.long q1), .second, .val (.long q2), .second, .val (.long q3), .second, .val (.long q4), .second, .val (.int p5), .val (.long (2305843009213693951 : Int64)), .second, .val (.long (2251799813685247 : Int64)), .second, .val (.int v1001), .val (.ref b1002), .val (.long v1186), .second, .val (.long v1187), .second, .val (.long v1188), .second, .val (.long v1233), .second, .val (.long v1236), .second, .val (.double (FP.ddiv (FP.ddiv (FP.l2d ((((0 : Int64) + v1186) + v1187) + v1188)) (FP.l2d ((((0 : Int64) + (1 : Int64)) + (1 : Int64)) + (1 : Int64)))) (4696837146684686336 : UInt64))), .second] [(.int (1 : Int32))]))
            refine OEnds.st (fun _ k => XS.goto X1237.here hx rfl (pc0 := 401) (pc' := 405) rfl (hb hby at_401) (by decide) (by decide) k) ?_
            show OEnds p.tables e below G (T1237.setTop (mkF m 405 #[.val (.long q1), .second, .val (.long q2), .second, .val (.long q3), .second, .val (.long q4), .second, .val (.int p5), .val (.long (2305843009213693951 : Int64)), .second, .val (.long (2251799813685247 : Int64)), .second, .val (.int v1001), .val (.ref b1002), .val (.long v1186), .second, .val (.long v1187), .second, .val (.long v1188), .second, .val (.long v1233), .second, .val (.long v1236), .second, .val (.double (FP.ddiv (FP.ddiv (FP.l2d ((((0 : Int64) + v1186) + v1187) + v1188)) (FP.l2d ((((0 : Int64) + (1 : Int64)) + (1 : Int64)) + (1 : Int64)))) (4696837146684686336 : UInt64))), .second] [(.int (1 : Int32))]))
            rw [← hG]
            refine OEnds.retZ X1237 hx hlk Bd.returns rfl (hb hby at_405) (by decide) (by decide) ?_
            rw [e1237]
            exact ⟨rfl, N1237⟩
set_option maxRecDepth 65536 in
set_option maxHeartbeats 40000000 in
theorem comes_1 {Post : Tables → Env → Array Value → State → Outcome → State → Prop} (hpost : ∀ tb e args s v u, (limb_1_1.after args s (.returned v) u = true ∧ limb_1_2.after args s (.returned v) u = true ∧ True) → FrameEnd s (.returned v) u (Jvm.fieldLocs frame_1_writes args s ++ Jvm.arrayLocs frame_1_arrays args s ++ Jvm.staticLocs frame_1_statics s) 16 9600 → Post tb e args s (.returned v) u) :
    ArmFor flags0 classFile x code maxLocals ret World_1 tables_1 room_1 Calls_1 rest_1 Pre_1 Post := by
  intro l hfl _ _ p e ha hc hk s m args below hf hA hF happ hP
  obtain ⟨hcalls, hrest, hpre⟩ := hP
  obtain ⟨-, -, -, hnamed, -, -, -, hat⟩ := (Spec.applies_iff hf).mp happ
  obtain ⟨hg, hn⟩ := and_e (Cond.before_iff.mp (show (Jvm.Cond.and given_1 narrow_1).before args s = true from hpre))
  obtain ⟨gc, gr0⟩ := and_e hg
  obtain ⟨ga0, gr1⟩ := and_e gr0
  obtain ⟨ga1, gr2⟩ := and_e gr1
  obtain ⟨ga2, gr3⟩ := and_e gr2
  obtain ⟨ga3, gr4⟩ := and_e gr3
  obtain ⟨w0, w1, w2, w3, w4, rfl⟩ : ∃ w0 w1 w2 w3 w4 : Value, args = #[w0, w1, w2, w3, w4] := by
    have hs : args.size = 5 := by simpa [Cond.value, given_1] using gc
    obtain ⟨L⟩ := args
    match L, hs with
    | [w0, w1, w2, w3, w4], _ => exact ⟨w0, w1, w2, w3, w4, rfl⟩
  have hw := fun d (hd : d ∈ tables_1) => atoms_spec (ws := Jvm.Cond.code x code maxLocals ret :: tables_1) hat d (List.mem_cons_of_mem _ hd)
  have hfit : Fit s := fun {y c} hc i hi => by
    obtain ⟨ha, rfl⟩ := Array.getElem?_eq_some_iff.mp hc
    have q := List.all_eq_true.mp ((Array.all_eq_true_iff_forall_mem.mp hF) _ (Array.getElem_mem ha)) i (List.mem_range.mpr hi)
    simpa [Array.getElem?_eq_getElem hi] using q
  obtain ⟨i0, ei0⟩ := isL_v ga0
  obtain rfl : w0 = (.long i0) := Option.some.inj ei0
  obtain ⟨i1, ei1⟩ := isL_v ga1
  obtain rfl : w1 = (.long i1) := Option.some.inj ei1
  obtain ⟨i2, ei2⟩ := isL_v ga2
  obtain rfl : w2 = (.long i2) := Option.some.inj ei2
  obtain ⟨i3, ei3⟩ := isL_v ga3
  obtain rfl : w3 = (.long i3) := Option.some.inj ei3
  obtain ⟨i4, ei4⟩ := is_v gr4
  obtain rfl : w4 = (.int i4) := Option.some.inj ei4
  obtain ⟨hn1, hn2⟩ := and_e hn
  obtain ⟨n, o, h1, h2, h3, _, L, rfl, ⟨rfl, N⟩, hq⟩ := rm0 l s _ hw tables_1 i0 i1 i2 i3 i4  s.heap s.heap.size (Nat.le_refl _) (Sta.start (own_staI hn1) (Or.inr ⟨(hw _ (List.mem_of_getElem? (i := 4) rfl)), (hw _ (List.mem_of_getElem? (i := 25) rfl))⟩)) (Sta.start (own_staI hn2) (Or.inr ⟨(hw _ (List.mem_of_getElem? (i := 4) rfl)), (hw _ (List.mem_of_getElem? (i := 27) rfl))⟩)) p e ha hc hk s m _ below hf ((Spec.applies_iff_loose hf).mp happ).1 ⟨rfl, State.Warmed39.refl s, rfl⟩ trivial
  refine ⟨n, _, h1, h2, h3, hpost _ _ _ _ _ _ ⟨Cond.after_iff.mpr rfl, Cond.after_iff.mpr (eq_i res_at (Term.int_eval (1)) rfl), trivial⟩ ⟨hq.1, hq.2.1, (hq.2.2.sift fun y hy => Or.inr (N y hy)).mono (by decide) (by decide)⟩⟩
theorem main_1_1 : Claimed_1_1 := comes_1 fun _ _ _ _ _ _ h hF => ⟨h.1, hF⟩
theorem main_1_2 : Claimed_1_2 := comes_1 fun _ _ _ _ _ _ h hF => ⟨h.2.1, hF⟩
end Jvm.Pilot.@@N@@
namespace Jvm.Pilot.@@N@@
open Jvm Jvm.ClassFile Sem Op Lib Jvm.Free Jvm.Stand Jvm.Pilot.@@N@@.Jvm.D
/-! MADE BY PROGRAM (witnessworld.py) out of the Statement's table words and the real class files: 18 classes; the members and pool entries that the words name. The judged class is class 1, her method 1. -/
namespace start1
open Jvm.ClassFile
def u (s : String) : CpInfo := .utf8 (stringToUtf16 s)
/-- a pool by its gaps: so many unusable entries, then the entry; so many at the end -/
def gap : Nat → List CpInfo → List CpInfo
  | 0, r => r
  | n + 1, r => .unusable :: gap n r
def poolList (es : List (Nat × CpInfo)) (last : Nat) : List CpInfo := es.foldr (fun e r => gap e.1 (e.2 :: r)) (gap last [])
def pool (es : List (Nat × CpInfo)) (last : Nat) : Array CpInfo := ⟨poolList es last⟩
def fileOf (pool : Array CpInfo) (this : Nat) (attrs : Array Attribute := #[]) (ms : Array MethodInfo := #[]) (fl : Nat := 33) (sup : Nat := 0) (ifs : Array Nat := #[]) (fds : Array FieldInfo := #[]) : ClassFile where
  minorVersion := 0
  majorVersion := 65
  constantPool := pool
  accessFlags := fl
  thisClass := this
  superClass := sup
  interfaces := ifs
  fields := fds
  methods := ms
  attributes := attrs
def plain (name : String) (sup : Option ClassId) : Class where
  name := name
  kind := .ordinary
  loader := none
  accessFlags := 33
  super := sup
  interfaces := #[]
  cf := none
  fields := #[]
  methods := #[]
  instanceTypes := #[]
  staticTypes := #[]
  resolved := #[]
  callSites := []
  init := .initialized
  statics := none
  mirror := none

def pool0 : Array CpInfo := pool [(5, u "<init>"), (0, u "()V"), (1, .class_ 10), (1, u "java/lang/Object")] 113

def k0c0 : Code := { maxStack := 0, maxLocals := 1, code := object_method_1_code, exceptionTable := #[], attributes := #[] }
def k0m0 : Method := { name := "<init>", desc := "()V", sig := { parameters := [], returnType := none }, accessFlags := 1, code := some k0c0 }
/-- java/lang/Object -/
def k0 : Class := { plain "java/lang/Object" none with
  accessFlags := 33
  interfaces := #[]
  cf := some (fileOf pool0 8 #[] #[{ accessFlags := 1, nameIndex := 5, descriptorIndex := 6, attributes := #[] }] 33 0 #[] #[])
  fields := #[]
  methods := #[k0m0]
  instanceTypes := #[]
  staticTypes := #[]
  resolved := Array.replicate 124 none
  statics := none }

def pool1 : Array CpInfo := pool [(2, .class_ 4), (0, .nameAndType 5 6), (0, u "java/lang/Object"), (0, u "<init>"), (0, u "()V"), (2, .long 2305843009213693951), (1, .long 2251799813685247), (1, .class_ 14), (0, u "com/example/marshalyard/marshalyard/proxy/ResponseTimes"), (0, .methodref 13 3), (0, .methodref 13 17), (0, .nameAndType 18 19), (0, u "averageMillis"), (0, u "()D"), (0, .methodref 13 21), (0, .nameAndType 22 23), (0, u "add"), (0, u "(J)V"), (0, .double 4696837146684686336), (1, .double 4602678819172646912), (1, .double 4598175219545276416), (1, .methodref 31 32), (0, .class_ 33), (0, .nameAndType 34 35), (0, u "java/lang/Math"), (0, u "min"), (0, u "(JJ)J"), (0, .methodref 31 37), (0, .nameAndType 38 35), (0, u "max"), (0, .class_ 40), (0, u "com/example/marshalyard/marshalyard/proxy/ResponseTimesAverageMillisPinLaw"), (2, u "law"), (0, u "(JJJJI)Z")] 3

def k1m0 : Method := { name := "<init>", desc := "()V", sig := { parameters := [], returnType := none }, accessFlags := 1, code := none }
def k1c1 : Code := { maxStack := 6, maxLocals := 27, code := code, exceptionTable := #[], attributes := #[] }
def k1m1 : Method := { name := "law", desc := "(JJJJI)Z", sig := { parameters := [.long, .long, .long, .long, .int], returnType := some .boolean }, accessFlags := 9, code := some k1c1 }
/-- com/example/marshalyard/marshalyard/proxy/ResponseTimesAverageMillisPinLaw -/
def k1 : Class := { plain "com/example/marshalyard/marshalyard/proxy/ResponseTimesAverageMillisPinLaw" (some 0) with
  accessFlags := 49
  interfaces := #[]
  cf := some (fileOf pool1 39 #[] #[{ accessFlags := 1, nameIndex := 5, descriptorIndex := 6, attributes := #[] }, { accessFlags := 9, nameIndex := 43, descriptorIndex := 44, attributes := #[] }] 49 2 #[] #[])
  fields := #[]
  methods := #[k1m0, k1m1]
  instanceTypes := #[]
  staticTypes := #[]
  resolved := Array.replicate 48 none
  statics := none }

def pool2 : Array CpInfo := pool [(1, .methodref 2 3), (0, .class_ 4), (0, .nameAndType 5 6), (0, u "java/lang/Object"), (0, u "<init>"), (0, u "()V"), (0, .class_ 8), (0, u "com/example/marshalyard/marshalyard/proxy/ResponseTimes"), (0, .long 4294967295), (1, .methodref 7 12), (0, .nameAndType 13 14), (0, u "bucket"), (0, u "(J)I"), (0, .fieldref 7 16), (0, .nameAndType 17 18), (0, u "buckets"), (0, u "[J"), (0, .long 1000000), (1, .methodref 22 23), (0, .class_ 24), (0, .nameAndType 25 26), (0, u "java/lang/Math"), (0, u "min"), (0, u "(JJ)J"), (0, .fieldref 7 28), (0, .nameAndType 29 30), (0, u "count"), (0, u "J"), (0, .fieldref 7 32), (0, .nameAndType 33 30), (0, u "totalNanos"), (0, .double 4696837146684686336), (9, .long 2048), (1, .class_ 47), (0, u "java/lang/Long"), (0, .methodref 46 49), (0, .nameAndType 50 14), (0, u "numberOfLeadingZeros"), (0, .fieldref 7 52), (0, .nameAndType 53 54), (0, u "SPLIT_BITS"), (0, u "I"), (0, .fieldref 7 56), (0, .nameAndType 57 54), (0, u "EXACT_BITS"), (6, u "EXACT"), (2, u "SPLIT"), (1, u "LONGEST"), (0, u "NANOS_PER_MILLI"), (2, u "add"), (0, u "(J)V"), (1, u "averageMillis"), (0, u "()D")] 5

def k2c0 : Code := { maxStack := 3, maxLocals := 1, code := prog_92_method_1_code, exceptionTable := #[], attributes := #[] }
def k2m0 : Method := { name := "<init>", desc := "()V", sig := { parameters := [], returnType := none }, accessFlags := 0, code := some k2c0 }
def k2c1 : Code := { maxStack := 6, maxLocals := 5, code := prog_92_method_2_code, exceptionTable := #[], attributes := #[] }
def k2m1 : Method := { name := "add", desc := "(J)V", sig := { parameters := [.long], returnType := none }, accessFlags := 0, code := some k2c1 }
def k2c2 : Code := { maxStack := 4, maxLocals := 1, code := prog_92_method_5_code, exceptionTable := #[], attributes := #[] }
def k2m2 : Method := { name := "averageMillis", desc := "()D", sig := { parameters := [], returnType := some .double }, accessFlags := 0, code := some k2c2 }
def k2c3 : Code := { maxStack := 4, maxLocals := 5, code := prog_92_method_7_code, exceptionTable := #[], attributes := #[] }
def k2m3 : Method := { name := "bucket", desc := "(J)I", sig := { parameters := [.long], returnType := some .int }, accessFlags := 10, code := some k2c3 }
/-- com/example/marshalyard/marshalyard/proxy/ResponseTimes -/
def k2 : Class := { plain "com/example/marshalyard/marshalyard/proxy/ResponseTimes" (some 0) with
  accessFlags := 48
  interfaces := #[]
  cf := some (fileOf pool2 7 #[] #[{ accessFlags := 0, nameIndex := 5, descriptorIndex := 6, attributes := #[] }, { accessFlags := 0, nameIndex := 73, descriptorIndex := 74, attributes := #[] }, { accessFlags := 0, nameIndex := 76, descriptorIndex := 77, attributes := #[] }, { accessFlags := 10, nameIndex := 13, descriptorIndex := 14, attributes := #[] }] 48 2 #[] #[{ accessFlags := 24, nameIndex := 64, descriptorIndex := 54, attributes := #[] }, { accessFlags := 24, nameIndex := 67, descriptorIndex := 54, attributes := #[] }, { accessFlags := 26, nameIndex := 57, descriptorIndex := 54, attributes := #[] }, { accessFlags := 26, nameIndex := 53, descriptorIndex := 54, attributes := #[] }, { accessFlags := 26, nameIndex := 69, descriptorIndex := 30, attributes := #[] }, { accessFlags := 26, nameIndex := 70, descriptorIndex := 30, attributes := #[] }, { accessFlags := 18, nameIndex := 17, descriptorIndex := 18, attributes := #[] }, { accessFlags := 2, nameIndex := 29, descriptorIndex := 30, attributes := #[] }, { accessFlags := 2, nameIndex := 33, descriptorIndex := 30, attributes := #[] }])
  fields := #[{ name := "EXACT", type := .int, accessFlags := 24, slot := 0, constantValue := 0 }, { name := "SPLIT", type := .int, accessFlags := 24, slot := 1, constantValue := 0 }, { name := "EXACT_BITS", type := .int, accessFlags := 26, slot := 2, constantValue := 0 }, { name := "SPLIT_BITS", type := .int, accessFlags := 26, slot := 3, constantValue := 0 }, { name := "LONGEST", type := .long, accessFlags := 26, slot := 4, constantValue := 0 }, { name := "NANOS_PER_MILLI", type := .long, accessFlags := 26, slot := 5, constantValue := 0 }, { name := "buckets", type := (.array .long), accessFlags := 18, slot := 0, constantValue := 0 }, { name := "count", type := .long, accessFlags := 2, slot := 1, constantValue := 0 }, { name := "totalNanos", type := .long, accessFlags := 2, slot := 2, constantValue := 0 }]
  methods := #[k2m0, k2m1, k2m2, k2m3]
  instanceTypes := #[(.array .long), .long, .long]
  staticTypes := #[.int, .int, .int, .int, .long, .long]
  resolved := Array.replicate 83 none
  statics := some 0 }

def pool3 : Array CpInfo := pool [(1, .class_ 2), (0, u "java/io/Serializable"), (0, .class_ 4), (0, u "java/lang/Object")] 2

/-- java/io/Serializable -/
def k3 : Class := { plain "java/io/Serializable" (some 0) with
  accessFlags := 1537
  interfaces := #[]
  cf := some (fileOf pool3 1 #[] #[] 1537 3 #[] #[])
  fields := #[]
  methods := #[]
  instanceTypes := #[]
  staticTypes := #[]
  resolved := Array.replicate 7 none
  statics := none }

def pool4 : Array CpInfo := pool [(2, .class_ 4), (1, u "java/lang/Object"), (0, u "<init>"), (0, u "()V"), (1, .class_ 10), (1, u "java/lang/Number"), (2, .class_ 14), (0, u "java/io/Serializable"), (0, u "serialVersionUID"), (0, u "J")] 20

def k4m0 : Method := { name := "<init>", desc := "()V", sig := { parameters := [], returnType := none }, accessFlags := 1, code := none }
/-- java/lang/Number -/
def k4 : Class := { plain "java/lang/Number" (some 0) with
  accessFlags := 1057
  interfaces := #[3]
  cf := some (fileOf pool4 8 #[] #[{ accessFlags := 1, nameIndex := 5, descriptorIndex := 6, attributes := #[] }] 1057 2 #[13] #[{ accessFlags := 26, nameIndex := 15, descriptorIndex := 16, attributes := #[] }])
  fields := #[{ name := "serialVersionUID", type := .long, accessFlags := 26, slot := 0, constantValue := 0 }]
  methods := #[k4m0]
  instanceTypes := #[]
  staticTypes := #[.long]
  resolved := Array.replicate 37 none
  statics := none }

def pool5 : Array CpInfo := pool [(1, .class_ 2), (0, u "java/lang/Comparable"), (0, .class_ 4), (0, u "java/lang/Object")] 7

/-- java/lang/Comparable -/
def k5 : Class := { plain "java/lang/Comparable" (some 0) with
  accessFlags := 1537
  interfaces := #[]
  cf := some (fileOf pool5 1 #[] #[] 1537 3 #[] #[])
  fields := #[]
  methods := #[]
  instanceTypes := #[]
  staticTypes := #[]
  resolved := Array.replicate 12 none
  statics := none }

def pool6 : Array CpInfo := pool [(1, .class_ 2), (0, u "java/lang/constant/Constable"), (0, .class_ 4), (0, u "java/lang/Object")] 6

/-- java/lang/constant/Constable -/
def k6 : Class := { plain "java/lang/constant/Constable" (some 0) with
  accessFlags := 1537
  interfaces := #[]
  cf := some (fileOf pool6 1 #[] #[] 1537 3 #[] #[])
  fields := #[]
  methods := #[]
  instanceTypes := #[]
  staticTypes := #[]
  resolved := Array.replicate 11 none
  statics := none }

def pool7 : Array CpInfo := pool [(1, .class_ 2), (0, u "java/lang/constant/ConstantDesc"), (0, .class_ 4), (0, u "java/lang/Object")] 32

/-- java/lang/constant/ConstantDesc -/
def k7 : Class := { plain "java/lang/constant/ConstantDesc" (some 0) with
  accessFlags := 1537
  interfaces := #[]
  cf := some (fileOf pool7 1 #[] #[] 1537 3 #[] #[])
  fields := #[]
  methods := #[]
  instanceTypes := #[]
  staticTypes := #[]
  resolved := Array.replicate 37 none
  statics := none }

def pool8 : Array CpInfo := pool [(1, .class_ 2), (0, u "java/lang/Long"), (15, .class_ 20), (1, u "java/lang/Integer"), (79, u "numberOfLeadingZeros"), (0, u "(J)I"), (133, .class_ 237), (1, u "java/lang/Long$LongCache"), (33, .class_ 272), (0, u "java/lang/Number"), (2, u "value"), (0, u "J"), (31, .methodref 18 309), (0, .nameAndType 100 310), (0, u "(I)I"), (50, u "TYPE"), (0, u "Ljava/lang/Class;"), (0, .class_ 364), (0, u "java/lang/Comparable"), (0, .class_ 366), (0, u "java/lang/constant/Constable"), (0, .class_ 368), (0, u "java/lang/constant/ConstantDesc"), (0, u "MIN_VALUE"), (1, u "MAX_VALUE"), (4, u "SIZE"), (0, u "I"), (1, u "BYTES"), (1, u "serialVersionUID")] 142

def k8c0 : Code := { maxStack := 3, maxLocals := 3, code := jdk_35_method_48_code, exceptionTable := #[], attributes := #[] }
def k8m0 : Method := { name := "numberOfLeadingZeros", desc := "(J)I", sig := { parameters := [.long], returnType := some .int }, accessFlags := 9, code := some k8c0 }
/-- java/lang/Long -/
def k8 : Class := { plain "java/lang/Long" (some 4) with
  accessFlags := 49
  interfaces := #[5, 6, 7]
  cf := some (fileOf pool8 1 #[.nestMembers #[235]] #[{ accessFlags := 9, nameIndex := 100, descriptorIndex := 101, attributes := #[] }] 49 271 #[363, 365, 367] #[{ accessFlags := 25, nameIndex := 369, descriptorIndex := 276, attributes := #[] }, { accessFlags := 25, nameIndex := 371, descriptorIndex := 276, attributes := #[] }, { accessFlags := 25, nameIndex := 361, descriptorIndex := 362, attributes := #[] }, { accessFlags := 18, nameIndex := 275, descriptorIndex := 276, attributes := #[] }, { accessFlags := 25, nameIndex := 376, descriptorIndex := 377, attributes := #[] }, { accessFlags := 25, nameIndex := 379, descriptorIndex := 377, attributes := #[] }, { accessFlags := 26, nameIndex := 381, descriptorIndex := 276, attributes := #[] }])
  fields := #[{ name := "MIN_VALUE", type := .long, accessFlags := 25, slot := 0, constantValue := 0 }, { name := "MAX_VALUE", type := .long, accessFlags := 25, slot := 1, constantValue := 0 }, { name := "TYPE", type := (.object "java/lang/Class"), accessFlags := 25, slot := 2, constantValue := 0 }, { name := "value", type := .long, accessFlags := 18, slot := 0, constantValue := 0 }, { name := "SIZE", type := .int, accessFlags := 25, slot := 3, constantValue := 0 }, { name := "BYTES", type := .int, accessFlags := 25, slot := 4, constantValue := 0 }, { name := "serialVersionUID", type := .long, accessFlags := 26, slot := 5, constantValue := 0 }]
  methods := #[k8m0]
  instanceTypes := #[.long]
  staticTypes := #[.long, .long, (.object "java/lang/Class"), .int, .int, .long]
  resolved := Array.replicate 524 none
  statics := none }

def pool9 : Array CpInfo := pool [(1, .class_ 2), (0, u "java/lang/Integer"), (16, u "digits"), (0, u "[C"), (32, u "numberOfLeadingZeros"), (0, u "(I)I"), (30, u "DigitOnes"), (0, u "[B"), (2, u "DigitTens"), (99, .class_ 190), (0, u "java/lang/Integer$IntegerCache"), (3, u "I"), (8, .class_ 204), (0, u "java/lang/Number"), (2, u "value"), (56, .integer 65536), (37, u "TYPE"), (0, u "Ljava/lang/Class;"), (0, .class_ 305), (0, u "java/lang/Comparable"), (0, .class_ 307), (0, u "java/lang/constant/Constable"), (0, .class_ 309), (0, u "java/lang/constant/ConstantDesc"), (0, u "MIN_VALUE"), (1, u "MAX_VALUE"), (3, u "SIZE"), (1, u "BYTES"), (1, u "serialVersionUID"), (0, u "J")] 131

def k9c0 : Code := { maxStack := 3, maxLocals := 2, code := jdk_33_method_47_code, exceptionTable := #[], attributes := #[] }
def k9m0 : Method := { name := "numberOfLeadingZeros", desc := "(I)I", sig := { parameters := [.int], returnType := some .int }, accessFlags := 9, code := some k9c0 }
/-- java/lang/Integer -/
def k9 : Class := { plain "java/lang/Integer" (some 4) with
  accessFlags := 49
  interfaces := #[5, 6, 7]
  cf := some (fileOf pool9 1 #[.nestMembers #[189]] #[{ accessFlags := 9, nameIndex := 53, descriptorIndex := 54, attributes := #[] }] 49 203 #[304, 306, 308] #[{ accessFlags := 25, nameIndex := 310, descriptorIndex := 194, attributes := #[] }, { accessFlags := 25, nameIndex := 312, descriptorIndex := 194, attributes := #[] }, { accessFlags := 25, nameIndex := 302, descriptorIndex := 303, attributes := #[] }, { accessFlags := 24, nameIndex := 19, descriptorIndex := 20, attributes := #[] }, { accessFlags := 24, nameIndex := 89, descriptorIndex := 86, attributes := #[] }, { accessFlags := 24, nameIndex := 85, descriptorIndex := 86, attributes := #[] }, { accessFlags := 18, nameIndex := 207, descriptorIndex := 194, attributes := #[] }, { accessFlags := 25, nameIndex := 316, descriptorIndex := 194, attributes := #[] }, { accessFlags := 25, nameIndex := 318, descriptorIndex := 194, attributes := #[] }, { accessFlags := 26, nameIndex := 320, descriptorIndex := 321, attributes := #[] }])
  fields := #[{ name := "MIN_VALUE", type := .int, accessFlags := 25, slot := 0, constantValue := 0 }, { name := "MAX_VALUE", type := .int, accessFlags := 25, slot := 1, constantValue := 0 }, { name := "TYPE", type := (.object "java/lang/Class"), accessFlags := 25, slot := 2, constantValue := 0 }, { name := "digits", type := (.array .char), accessFlags := 24, slot := 3, constantValue := 0 }, { name := "DigitTens", type := (.array .byte), accessFlags := 24, slot := 4, constantValue := 0 }, { name := "DigitOnes", type := (.array .byte), accessFlags := 24, slot := 5, constantValue := 0 }, { name := "value", type := .int, accessFlags := 18, slot := 0, constantValue := 0 }, { name := "SIZE", type := .int, accessFlags := 25, slot := 6, constantValue := 0 }, { name := "BYTES", type := .int, accessFlags := 25, slot := 7, constantValue := 0 }, { name := "serialVersionUID", type := .long, accessFlags := 26, slot := 8, constantValue := 0 }]
  methods := #[k9m0]
  instanceTypes := #[.int]
  staticTypes := #[.int, .int, (.object "java/lang/Class"), (.array .char), (.array .byte), (.array .byte), .int, .int, .long]
  resolved := Array.replicate 453 none
  statics := none }

def pool10 : Array CpInfo := pool [(1, .class_ 2), (0, u "java/lang/Math"), (1, .class_ 6), (1, u "java/lang/Object"), (0, u "<init>"), (0, u "()V"), (89, .class_ 100), (1, u "java/lang/Math$RandomNumberGeneratorHolder"), (20, u "(JJ)J"), (50, u "negativeZeroFloatBits"), (0, u "J"), (2, u "negativeZeroDoubleBits"), (21, u "max"), (2, u "min"), (43, u "$assertionsDisabled"), (0, u "Z"), (91, u "twoToTheDoubleScaleDown"), (0, u "D"), (4, u "twoToTheDoubleScaleUp"), (9, u "E"), (3, u "PI"), (2, u "TAU"), (2, u "DEGREES_TO_RADIANS"), (0, u "RADIANS_TO_DEGREES")] 94

def k10m0 : Method := { name := "<init>", desc := "()V", sig := { parameters := [], returnType := none }, accessFlags := 2, code := none }
def k10c1 : Code := { maxStack := 4, maxLocals := 4, code := jdk_29_method_66_code, exceptionTable := #[], attributes := #[] }
def k10m1 : Method := { name := "max", desc := "(JJ)J", sig := { parameters := [.long, .long], returnType := some .long }, accessFlags := 9, code := some k10c1 }
def k10c2 : Code := { maxStack := 4, maxLocals := 4, code := jdk_29_method_70_code, exceptionTable := #[], attributes := #[] }
def k10m2 : Method := { name := "min", desc := "(JJ)J", sig := { parameters := [.long, .long], returnType := some .long }, accessFlags := 9, code := some k10c2 }
/-- java/lang/Math -/
def k10 : Class := { plain "java/lang/Math" (some 0) with
  accessFlags := 49
  interfaces := #[]
  cf := some (fileOf pool10 1 #[.nestMembers #[98]] #[{ accessFlags := 2, nameIndex := 7, descriptorIndex := 8, attributes := #[] }, { accessFlags := 9, nameIndex := 198, descriptorIndex := 121, attributes := #[] }, { accessFlags := 9, nameIndex := 201, descriptorIndex := 121, attributes := #[] }] 49 4 #[] #[{ accessFlags := 25, nameIndex := 354, descriptorIndex := 339, attributes := #[] }, { accessFlags := 25, nameIndex := 358, descriptorIndex := 339, attributes := #[] }, { accessFlags := 25, nameIndex := 361, descriptorIndex := 339, attributes := #[] }, { accessFlags := 26, nameIndex := 364, descriptorIndex := 339, attributes := #[] }, { accessFlags := 26, nameIndex := 365, descriptorIndex := 339, attributes := #[] }, { accessFlags := 26, nameIndex := 172, descriptorIndex := 173, attributes := #[] }, { accessFlags := 26, nameIndex := 176, descriptorIndex := 173, attributes := #[] }, { accessFlags := 8, nameIndex := 344, descriptorIndex := 339, attributes := #[] }, { accessFlags := 8, nameIndex := 338, descriptorIndex := 339, attributes := #[] }, { accessFlags := 4120, nameIndex := 245, descriptorIndex := 246, attributes := #[] }])
  fields := #[{ name := "E", type := .double, accessFlags := 25, slot := 0, constantValue := 0 }, { name := "PI", type := .double, accessFlags := 25, slot := 1, constantValue := 0 }, { name := "TAU", type := .double, accessFlags := 25, slot := 2, constantValue := 0 }, { name := "DEGREES_TO_RADIANS", type := .double, accessFlags := 26, slot := 3, constantValue := 0 }, { name := "RADIANS_TO_DEGREES", type := .double, accessFlags := 26, slot := 4, constantValue := 0 }, { name := "negativeZeroFloatBits", type := .long, accessFlags := 26, slot := 5, constantValue := 0 }, { name := "negativeZeroDoubleBits", type := .long, accessFlags := 26, slot := 6, constantValue := 0 }, { name := "twoToTheDoubleScaleUp", type := .double, accessFlags := 8, slot := 7, constantValue := 0 }, { name := "twoToTheDoubleScaleDown", type := .double, accessFlags := 8, slot := 8, constantValue := 0 }, { name := "$assertionsDisabled", type := .boolean, accessFlags := 4120, slot := 9, constantValue := 0 }]
  methods := #[k10m0, k10m1, k10m2]
  instanceTypes := #[]
  staticTypes := #[.double, .double, .double, .double, .double, .long, .long, .double, .double, .boolean]
  resolved := Array.replicate 460 none
  statics := none }

def pool11 : Array CpInfo := pool [(1, u "java/lang/Cloneable"), (0, .class_ 1), (0, u "java/lang/Object"), (0, .class_ 3)] 3

/-- java/lang/Cloneable -/
def k11 : Class := { plain "java/lang/Cloneable" (some 0) with
  accessFlags := 1537
  interfaces := #[]
  cf := some (fileOf pool11 2 #[] #[] 1537 4 #[] #[])
  fields := #[]
  methods := #[]
  instanceTypes := #[]
  staticTypes := #[]
  resolved := Array.replicate 8 none
  statics := none }

/-- the primitive byte -/
def k12 : Class := { plain "byte" none with kind := .primitive 'B', accessFlags := 0x411 }
/-- [B -/
def k13 : Class := { plain "[B" (some 0) with kind := .array 12 .byte, interfaces := #[11, 3], accessFlags := 1041 }

/-- the primitive int -/
def k14 : Class := { plain "int" none with kind := .primitive 'I', accessFlags := 0x411 }
/-- [I -/
def k15 : Class := { plain "[I" (some 0) with kind := .array 14 .int, interfaces := #[11, 3], accessFlags := 1041 }

/-- the primitive long -/
def k16 : Class := { plain "long" none with kind := .primitive 'J', accessFlags := 0x411 }
/-- [J -/
def k17 : Class := { plain "[J" (some 0) with kind := .array 16 .long, interfaces := #[11, 3], accessFlags := 1041 }

def heap : Heap := #[{ cls := 2, slots := #[.int 0, .int 0, .int 11, .int 7, .long 0, .long 0], vm := .statics 2 }]
def classes : Array Class := #[k0, k1, k2, k3, k4, k5, k6, k7, k8, k9, k10, k11, k12, k13, k14, k15, k16, k17]
def interned : List (Array UInt16 × Addr) := []
def slotsUsed : Nat := 6
def theMethod : MethodId := ⟨1, 1⟩
def args0 : Array Value := #[.long 5, .long 6, .long 7, .long 8, .int 5]
def aboutOver (below : List Frame) : State where
  vm := { classes := classes, interned := interned.toArray }
  heap := heap
  slotsUsed := slotsUsed
  threads := #[{ frames := .invoking theMethod args0 :: below }]
def below0 : List Frame := [.native { method := ⟨0, 0⟩, args := #[] }]
def about1 : State := aboutOver below0
def p0 : Program := .bare "" "" ""
def e0 : Env := launch0.env 0 0 0
theorem w_frames : about1.frames = Frame.invoking theMethod args0 :: below0 := rfl
set_option maxRecDepth 65536 in
theorem w_args : argsFit about1.vm theMethod args0 = true := by decide +kernel
set_option maxRecDepth 65536 in
theorem w_heap : heapFits about1 = true := by decide +kernel
set_option maxRecDepth 65536 in
theorem w_runnable : about1.curStatus? = some .runnable := by decide +kernel
set_option maxRecDepth 65536 in
theorem w_alone : about1.alone = true := by decide +kernel
set_option maxRecDepth 65536 in
theorem w_named : about1.methodNamed? x = some theMethod := by decide +kernel
set_option maxRecDepth 65536 in
theorem w_hears : about1.hears theMethod below0 = true := by decide +kernel
set_option maxRecDepth 65536 in
theorem w_ripe : about1.ripe theMethod args0 below0 = true := by decide +kernel
theorem w_running : about1.status = .running := rfl
set_option maxRecDepth 65536 in
theorem w_room : about1.hasRoom e0.platform room_1 = true :=
  launch0.hasRoom_least _ room_1 (by decide +kernel) (by decide +kernel) (by decide +kernel) (by decide +kernel) (by decide +kernel) (by decide +kernel)
theorem allAtoms_all (ts : List Jvm.Cond) (a : Array Jvm.Value) (st : Jvm.State) : (allAtoms ts).before a st = ts.all (fun c => c.before a st) := by
  induction ts with
  | nil => rfl
  | cons c t ih =>
    show (Jvm.Cond.and c (allAtoms t)).before a st = _
    rw [Jvm.Cond.before_and, ih, List.all_cons]
def words1 : List Jvm.Cond := Jvm.Cond.code x code maxLocals ret :: tables_1
/-- a 'code' word, met by the world's own term for the bytes: nothing is compared byte by byte -/
theorem code_word {y : MethodName} {bytes : ByteArray} {mx : Nat} {rt : Option FieldType} {a : Array Value} {s : State} {m : MethodId} {meth : Method} {c : Code} (h1 : s.methodNamed? y = some m) (h2 : s.vm.method? m = some meth) (h3 : meth.code = some c) (h4 : c.code = bytes)
    (h5 : (c.maxLocals == mx && c.exceptionTable.isEmpty && decide (c.maxStack ≤ mostOperands) && decide (meth.sig.returnType = rt) && !meth.locks && decide (parseMethodDescriptor y.desc = some meth.sig)) = true) : (Jvm.Cond.code y bytes mx rt).before a s = true := by
  simp only [Bool.and_eq_true, beq_iff_eq, Bool.not_eq_true', decide_eq_true_eq] at h5
  obtain ⟨⟨⟨⟨⟨g1, g2⟩, g3⟩, g4⟩, g5⟩, g6⟩ := h5
  simp [Cond.before, Cond.holds, Cond.value, h1, h2, h3, h4, g1, g2, g3, g4, g5, g6]
def isCode : Jvm.Cond → Bool
  | .code _ _ _ _ => true
  | _ => false
theorem all_split {L : List Jvm.Cond} {P : Jvm.Cond → Bool} (h1 : L.all (fun c => isCode c || P c) = true) (h2 : ∀ c ∈ L.filter isCode, P c = true) : L.all P = true := by
  refine List.all_eq_true.mpr fun c hc => ?_
  have h := List.all_eq_true.mp h1 c hc
  rcases Bool.eq_false_or_eq_true (isCode c) with hi | hi
  · exact h2 c (List.mem_filter.mpr ⟨hc, hi⟩)
  · simpa [hi] using h
set_option maxRecDepth 65536 in
theorem w_c0 : (Jvm.Cond.code x code maxLocals ret).before args0 about1 = true := code_word (m := ⟨1, 1⟩) (meth := k1m1) (c := k1c1) (by decide +kernel) rfl rfl rfl (by decide +kernel)
set_option maxRecDepth 65536 in
theorem w_c1 : (Jvm.Cond.code ({ cls := "com/example/marshalyard/marshalyard/proxy/ResponseTimes", name := "<init>", desc := "()V" } : Jvm.MethodName) prog_92_method_1_code (1 : Nat) (Option.none : Option Jvm.ClassFile.FieldType)).before args0 about1 = true := code_word (m := ⟨2, 0⟩) (meth := k2m0) (c := k2c0) (by decide +kernel) rfl rfl rfl (by decide +kernel)
set_option maxRecDepth 65536 in
theorem w_c2 : (Jvm.Cond.code ({ cls := "java/lang/Object", name := "<init>", desc := "()V" } : Jvm.MethodName) object_method_1_code (1 : Nat) (Option.none : Option Jvm.ClassFile.FieldType)).before args0 about1 = true := code_word (m := ⟨0, 0⟩) (meth := k0m0) (c := k0c0) (by decide +kernel) rfl rfl rfl (by decide +kernel)
set_option maxRecDepth 65536 in
theorem w_c3 : (Jvm.Cond.code ({ cls := "com/example/marshalyard/marshalyard/proxy/ResponseTimes", name := "bucket", desc := "(J)I" } : Jvm.MethodName) prog_92_method_7_code (5 : Nat) (Option.some Jvm.ClassFile.FieldType.int)).before args0 about1 = true := code_word (m := ⟨2, 3⟩) (meth := k2m3) (c := k2c3) (by decide +kernel) rfl rfl rfl (by decide +kernel)
set_option maxRecDepth 65536 in
theorem w_c4 : (Jvm.Cond.code ({ cls := "java/lang/Long", name := "numberOfLeadingZeros", desc := "(J)I" } : Jvm.MethodName) jdk_35_method_48_code (3 : Nat) (Option.some Jvm.ClassFile.FieldType.int)).before args0 about1 = true := code_word (m := ⟨8, 0⟩) (meth := k8m0) (c := k8c0) (by decide +kernel) rfl rfl rfl (by decide +kernel)
set_option maxRecDepth 65536 in
theorem w_c5 : (Jvm.Cond.code ({ cls := "java/lang/Integer", name := "numberOfLeadingZeros", desc := "(I)I" } : Jvm.MethodName) jdk_33_method_47_code (2 : Nat) (Option.some Jvm.ClassFile.FieldType.int)).before args0 about1 = true := code_word (m := ⟨9, 0⟩) (meth := k9m0) (c := k9c0) (by decide +kernel) rfl rfl rfl (by decide +kernel)
set_option maxRecDepth 65536 in
theorem w_c6 : (Jvm.Cond.code ({ cls := "com/example/marshalyard/marshalyard/proxy/ResponseTimes", name := "add", desc := "(J)V" } : Jvm.MethodName) prog_92_method_2_code (5 : Nat) (Option.none : Option Jvm.ClassFile.FieldType)).before args0 about1 = true := code_word (m := ⟨2, 1⟩) (meth := k2m1) (c := k2c1) (by decide +kernel) rfl rfl rfl (by decide +kernel)
set_option maxRecDepth 65536 in
theorem w_c7 : (Jvm.Cond.code ({ cls := "java/lang/Math", name := "min", desc := "(JJ)J" } : Jvm.MethodName) jdk_29_method_70_code (4 : Nat) (Option.some Jvm.ClassFile.FieldType.long)).before args0 about1 = true := code_word (m := ⟨10, 2⟩) (meth := k10m2) (c := k10c2) (by decide +kernel) rfl rfl rfl (by decide +kernel)
set_option maxRecDepth 65536 in
theorem w_c8 : (Jvm.Cond.code ({ cls := "com/example/marshalyard/marshalyard/proxy/ResponseTimes", name := "averageMillis", desc := "()D" } : Jvm.MethodName) prog_92_method_5_code (1 : Nat) (Option.some Jvm.ClassFile.FieldType.double)).before args0 about1 = true := code_word (m := ⟨2, 2⟩) (meth := k2m2) (c := k2c2) (by decide +kernel) rfl rfl rfl (by decide +kernel)
set_option maxRecDepth 65536 in
theorem w_c9 : (Jvm.Cond.code ({ cls := "java/lang/Math", name := "max", desc := "(JJ)J" } : Jvm.MethodName) jdk_29_method_66_code (4 : Nat) (Option.some Jvm.ClassFile.FieldType.long)).before args0 about1 = true := code_word (m := ⟨10, 1⟩) (meth := k10m1) (c := k10c1) (by decide +kernel) rfl rfl rfl (by decide +kernel)
def codes1 : List Jvm.Cond := [Jvm.Cond.code x code maxLocals ret, Jvm.Cond.code ({ cls := "com/example/marshalyard/marshalyard/proxy/ResponseTimes", name := "<init>", desc := "()V" } : Jvm.MethodName) prog_92_method_1_code (1 : Nat) (Option.none : Option Jvm.ClassFile.FieldType), Jvm.Cond.code ({ cls := "java/lang/Object", name := "<init>", desc := "()V" } : Jvm.MethodName) object_method_1_code (1 : Nat) (Option.none : Option Jvm.ClassFile.FieldType), Jvm.Cond.code ({ cls := "com/example/marshalyard/marshalyard/proxy/ResponseTimes", name := "bucket", desc := "(J)I" } : Jvm.MethodName) prog_92_method_7_code (5 : Nat) (Option.some Jvm.ClassFile.FieldType.int), Jvm.Cond.code ({ cls := "java/lang/Long", name := "numberOfLeadingZeros", desc := "(J)I" } : Jvm.MethodName) jdk_35_method_48_code (3 : Nat) (Option.some Jvm.ClassFile.FieldType.int), Jvm.Cond.code ({ cls := "java/lang/Integer", name := "numberOfLeadingZeros", desc := "(I)I" } : Jvm.MethodName) jdk_33_method_47_code (2 : Nat) (Option.some Jvm.ClassFile.FieldType.int), Jvm.Cond.code ({ cls := "com/example/marshalyard/marshalyard/proxy/ResponseTimes", name := "add", desc := "(J)V" } : Jvm.MethodName) prog_92_method_2_code (5 : Nat) (Option.none : Option Jvm.ClassFile.FieldType), Jvm.Cond.code ({ cls := "java/lang/Math", name := "min", desc := "(JJ)J" } : Jvm.MethodName) jdk_29_method_70_code (4 : Nat) (Option.some Jvm.ClassFile.FieldType.long), Jvm.Cond.code ({ cls := "com/example/marshalyard/marshalyard/proxy/ResponseTimes", name := "averageMillis", desc := "()D" } : Jvm.MethodName) prog_92_method_5_code (1 : Nat) (Option.some Jvm.ClassFile.FieldType.double), Jvm.Cond.code ({ cls := "java/lang/Math", name := "max", desc := "(JJ)J" } : Jvm.MethodName) jdk_29_method_66_code (4 : Nat) (Option.some Jvm.ClassFile.FieldType.long)]
set_option maxRecDepth 65536 in
theorem codes_eq : words1.filter isCode = codes1 := rfl
theorem w_codes : ∀ c ∈ words1.filter isCode, c.before args0 about1 = true := by
  rw [codes_eq]
  intro c hc
  simp only [codes1, List.mem_cons, List.not_mem_nil, or_false] at hc
  rcases hc with rfl | rfl | rfl | rfl | rfl | rfl | rfl | rfl | rfl | rfl
  · exact w_c0
  · exact w_c1
  · exact w_c2
  · exact w_c3
  · exact w_c4
  · exact w_c5
  · exact w_c6
  · exact w_c7
  · exact w_c8
  · exact w_c9
set_option maxRecDepth 65536 in
theorem w_t1 : (words1.take 24).all (fun c => isCode c || c.before args0 about1) = true := by decide +kernel
set_option maxRecDepth 65536 in
theorem w_t2 : ((words1.drop 24).take 24).all (fun c => isCode c || c.before args0 about1) = true := by decide +kernel
set_option maxRecDepth 65536 in
theorem w_t3 : ((words1.drop 24).drop 24).all (fun c => isCode c || c.before args0 about1) = true := by decide +kernel
theorem w_tables : (allAtoms (Jvm.Cond.code x code maxLocals ret :: tables_1)).before args0 about1 = true := by
  rw [allAtoms_all]
  show words1.all (fun c => c.before args0 about1) = true
  refine all_split ?_ w_codes
  rw [← List.take_append_drop 24 words1, List.all_append, w_t1, ← List.take_append_drop 24 (words1.drop 24), List.all_append, w_t2, w_t3]
  rfl
set_option maxRecDepth 65536 in
theorem w_case : (Jvm.Cond.and given_1 narrow_1).before args0 about1 = true := by decide +kernel
theorem w_applies : (headSpec (Jvm.Cond.code x code maxLocals ret :: tables_1) room_1).applies x e0.platform about1 = true :=
  (Spec.applies_iff w_frames).mpr ⟨w_running, w_runnable, w_alone, w_named, w_hears, w_ripe, w_room, w_tables⟩
theorem atStart : AtStart classFile x code maxLocals ret World_1 tables_1 room_1 Calls_1 rest_1 Pre_1 launch0 p0 e0 about1 theMethod args0 below0 :=
  ⟨lists_1, trivial, launch0.admits_env _ _ _, launch0.least_env, fairChoices_fair.cas, fairChoices_fair.clock, w_frames, w_args, w_heap, w_applies, trivial, trivial, w_case⟩
end start1
theorem witness_1 : WitnessClaimed_1 := ⟨start1.p0, start1.e0, start1.about1, start1.theMethod, start1.args0, start1.below0, start1.atStart⟩
end Jvm.Pilot.@@N@@
