import JvmDerived
import JvmDerived.Pilot.@@N@@Statement
import JvmDerived.Pilot.@@N@@Code
set_option linter.unusedVariables false
set_option linter.unusedSimpArgs false
@@BLOCK:TracedD.lean.txt@@
namespace Jvm.Pilot.@@N@@
open Jvm Jvm.ClassFile Sem Op Lib Jvm.Free Jvm.Stand Jvm.LawKit Jvm.RoadKit Bundle Jvm.Pilot.@@N@@.Jvm.D
section OwnRoad
variable {p : Program} {l : Launch} {e : Env} {R : Room} {s : State} {m : MethodId} {args : Array Value} {below : List Frame} {meth : Method} {c : Code} {T : State} {locs : List Loc} {cells slots : Nat}
/-- from A the run comes to an end of which G speaks -/
def OEnds (tb : Tables) (e : Env) (below : List Frame) (G : Outcome → State → Prop) (A : State) : Prop := ∃ s₂ o, Steps tb e below A s₂ ∧ s₂.status = .running ∧ Ended s₂ below o ∧ G o s₂
theorem OEnds.st {tb : Tables} {e : Env} {below : List Frame} {G : Outcome → State → Prop} {A B : State} (h : ∀ t, Steps tb e below B t → Steps tb e below A t) (k : OEnds tb e below G B) : OEnds tb e below G A := by
  obtain ⟨s, o, h1, h2⟩ := k
  exact ⟨s, o, h _ h1, h2⟩
def OGoal (Q : Option Value → Heap → List Loc → Prop) (s : State) (C S : Nat) (o : Outcome) (t : State) : Prop := ∃ v L, o = .returned v ∧ Q v t.heap L ∧ FrameEnd s o t L C S
theorem OEnds.out (X : Stand p l e R s m args below meth c T locs cells slots) (hlk : meth.locks = false) {v : Option Value} (hv : meth.sig.returnType = none → v = none) {Q : Option Value → Heap → List Loc → Prop} {C S : Nat} {A : State}
    (st : ∀ fs, (∀ (f : JFrame) (acts : List Action), f.method = m → f.locked = none → f.entered = [] → (doReturn e (T.setTop f) acts v).1 = T.setFrames fs) → Steps p.tables e below A (T.setFrames fs)) (hc : cells ≤ C) (hs : slots ≤ S) (hQ : Q v T.heap locs) : OEnds p.tables e below (OGoal Q s C S) A := by
  obtain ⟨fs, hr, hrun, hended, hW, hsame⟩ := X.leave (v := v) hv hlk
  exact ⟨_, _, st fs hr, hrun, hended, _, _, rfl, hQ, ⟨_, rfl⟩, hW, hsame.mono hc hs⟩
theorem OEnds.retI (X : Stand p l e R s m args below meth c T locs cells slots) (hx : p.tables.exec = Jvm.exec) (hlk : meth.locks = false) (hret : meth.sig.returnType = some .int) {pc : Nat} {Ls : Array Slot} {z : Int32} {rest : List Value} (hd : decode c.code pc = .ok (.ireturn, 1)) {Q : Option Value → Heap → List Loc → Prop} {C S : Nat} (hc : cells ≤ C) (hs : slots ≤ S) (hQ : Q (some (.int z)) T.heap locs) :
    OEnds p.tables e below (OGoal Q s C S) (T.setTop (mkF m pc Ls (.int z :: rest))) :=
  OEnds.out X hlk (fun h => by rw [hret] at h; cases h) (fun fs hr => retOut X hx hret rfl (Or.inl ⟨rfl, Or.inl rfl, _, rfl⟩) hd hr) hc hs hQ
theorem OEnds.retZ (X : Stand p l e R s m args below meth c T locs cells slots) (hx : p.tables.exec = Jvm.exec) (hlk : meth.locks = false) (hret : meth.sig.returnType = some .boolean) {pc : Nat} {Ls : Array Slot} {z : Int32} {rest : List Value} (hz : nar .boolean z = z) (hd : decode c.code pc = .ok (.ireturn, 1)) {Q : Option Value → Heap → List Loc → Prop} {C S : Nat} (hc : cells ≤ C) (hs : slots ≤ S) (hQ : Q (some (.int z)) T.heap locs) :
    OEnds p.tables e below (OGoal Q s C S) (T.setTop (mkF m pc Ls (.int z :: rest))) :=
  OEnds.out X hlk (fun h => by rw [hret] at h; cases h) (fun fs hr => retN X hx (t := .boolean) hret (Or.inl rfl) hd (by rw [hz]; exact hr)) hc hs hQ
theorem OEnds.retB (X : Stand p l e R s m args below meth c T locs cells slots) (hx : p.tables.exec = Jvm.exec) (hlk : meth.locks = false) (hret : meth.sig.returnType = some .byte) {pc : Nat} {Ls : Array Slot} {z : Int32} {rest : List Value} (hz : nar .byte z = z) (hd : decode c.code pc = .ok (.ireturn, 1)) {Q : Option Value → Heap → List Loc → Prop} {C S : Nat} (hc : cells ≤ C) (hs : slots ≤ S) (hQ : Q (some (.int z)) T.heap locs) :
    OEnds p.tables e below (OGoal Q s C S) (T.setTop (mkF m pc Ls (.int z :: rest))) :=
  OEnds.out X hlk (fun h => by rw [hret] at h; cases h) (fun fs hr => retN X hx (t := .byte) hret (Or.inr (Or.inl rfl)) hd (by rw [hz]; exact hr)) hc hs hQ
theorem OEnds.retJ (X : Stand p l e R s m args below meth c T locs cells slots) (hx : p.tables.exec = Jvm.exec) (hlk : meth.locks = false) (hret : meth.sig.returnType = some .long) {pc : Nat} {Ls : Array Slot} {z : Int64} {rest : List Value} (hd : decode c.code pc = .ok (.lreturn, 1)) {Q : Option Value → Heap → List Loc → Prop} {C S : Nat} (hc : cells ≤ C) (hs : slots ≤ S) (hQ : Q (some (.long z)) T.heap locs) :
    OEnds p.tables e below (OGoal Q s C S) (T.setTop (mkF m pc Ls (.long z :: rest))) :=
  OEnds.out X hlk (fun h => by rw [hret] at h; cases h) (fun fs hr => retOut X hx hret rfl (Or.inr (Or.inl ⟨rfl, rfl, _, rfl⟩)) hd hr) hc hs hQ
theorem OEnds.retD (X : Stand p l e R s m args below meth c T locs cells slots) (hx : p.tables.exec = Jvm.exec) (hlk : meth.locks = false) (hret : meth.sig.returnType = some .double) {pc : Nat} {Ls : Array Slot} {z : UInt64} {rest : List Value} (hd : decode c.code pc = .ok (.dreturn, 1)) {Q : Option Value → Heap → List Loc → Prop} {C S : Nat} (hc : cells ≤ C) (hs : slots ≤ S) (hQ : Q (some (.double z)) T.heap locs) :
    OEnds p.tables e below (OGoal Q s C S) (T.setTop (mkF m pc Ls (.double z :: rest))) :=
  OEnds.out X hlk (fun h => by rw [hret] at h; cases h) (fun fs hr => retOut X hx hret rfl (Or.inr (Or.inr (Or.inl ⟨rfl, rfl, _, rfl⟩))) hd hr) hc hs hQ
theorem OEnds.retA (X : Stand p l e R s m args below meth c T locs cells slots) (hx : p.tables.exec = Jvm.exec) (hlk : meth.locks = false) {t : FieldType} (hret : meth.sig.returnType = some t) {pc : Nat} {Ls : Array Slot} {w : Value} {rest : List Value} (hw : w.isRef = true) (ht : t.isReference = true) (hd : decode c.code pc = .ok (.areturn, 1)) {Q : Option Value → Heap → List Loc → Prop} {C S : Nat} (hc : cells ≤ C) (hs : slots ≤ S) (hQ : Q (some w) T.heap locs) :
    OEnds p.tables e below (OGoal Q s C S) (T.setTop (mkF m pc Ls (w :: rest))) :=
  OEnds.out X hlk (fun h => by rw [hret] at h; cases h) (fun fs hr => retOut X hx hret (by cases t <;> cases w <;> first | rfl | (cases ht; done) | (cases hw; done)) (Or.inr (Or.inr (Or.inr (Or.inr ⟨rfl, ht, hw⟩)))) hd hr) hc hs hQ
theorem OEnds.retV (X : Stand p l e R s m args below meth c T locs cells slots) (hx : p.tables.exec = Jvm.exec) (hlk : meth.locks = false) (hret : meth.sig.returnType = none) {pc : Nat} {Ls : Array Slot} (hd : decode c.code pc = .ok (.return_, 1)) {Q : Option Value → Heap → List Loc → Prop} {C S : Nat} (hc : cells ≤ C) (hs : slots ≤ S) (hQ : Q none T.heap locs) :
    OEnds p.tables e below (OGoal Q s C S) (T.setTop (mkF m pc Ls [])) :=
  OEnds.out X hlk (fun _ => rfl) (fun fs hr => X.returnOut hx hret hd hr) hc hs hQ
def OGoalW (Q : Option Value → Heap → List Loc → Prop) (s : State) (C S : Nat) (o : Outcome) (t : State) : Prop := ∃ v L, o = .returned v ∧ Q v t.heap L ∧ Jvm.ReturnedEndW s o t L C S
theorem own_growW {s t : State} {o : Outcome} {L : List Loc} {k n k' n' : Nat} (h : Jvm.ReturnedEndW s o t L k n) (hk : k ≤ k') (hn : n ≤ n') : Jvm.ReturnedEndW s o t L k' n' := ⟨h.1, h.2.1, h.2.2.1, h.2.2.2.mono hk hn⟩
theorem OEnds.retZW {vm0 : Vm} (X : Stand p l e R (s.setVm vm0) m args below meth c T locs cells slots) {n : Nat} (hS : s.Since vm0 n) (hn : n ≤ T.heap.size) (hx : p.tables.exec = Jvm.exec) (hlk : meth.locks = false) (hret : meth.sig.returnType = some .boolean) {pc : Nat} {Ls : Array Slot} {z : Int32} {rest : List Value} (hz : nar .boolean z = z) (hd : decode c.code pc = .ok (.ireturn, 1)) {Q : Option Value → Heap → List Loc → Prop} {C S : Nat} (hc : cells ≤ C) (hs : slots ≤ S) (hQ : Q (some (.int z)) T.heap locs) :
    OEnds p.tables e below (OGoalW Q s C S) (T.setTop (mkF m pc Ls (.int z :: rest))) := by
  obtain ⟨fs, hr, hrun, hended, hW⟩ := X.leaveW hS hn (v := some (.int z)) (fun h => by rw [hret] at h; cases h) hlk
  exact ⟨_, _, retN X hx (t := .boolean) hret (Or.inl rfl) hd (by rw [hz]; exact hr), hrun, hended, _, _, rfl, hQ, own_growW hW hc hs⟩
def OGoalH (Z : State) (EL : List (String × Nat)) (Q : Option Value → Heap → List Loc → Prop) (s : State) (C S : Nat) (o : Outcome) (t : State) : Prop := ∃ v L, o = .returned v ∧ Q v t.heap L ∧ CHr Z EL s.vm s.heap t.vm t.heap ∧ Jvm.ReturnedEndW s o t L C S
theorem OEnds.retVH {vm0 : Vm} {Z : State} {EL : List (String × Nat)} (X : Stand p l e R (s.setVm vm0) m args below meth c T locs cells slots) {n : Nat} (hS : s.Since vm0 n) (hn : n ≤ T.heap.size) (hx : p.tables.exec = Jvm.exec) (hlk : meth.locks = false) (hret : meth.sig.returnType = none) {pc : Nat} {Ls : Array Slot} (hd : decode c.code pc = .ok (.return_, 1)) {Q : Option Value → Heap → List Loc → Prop} {C S : Nat} (hc : cells ≤ C) (hs : slots ≤ S) (hC : CHr Z EL s.vm s.heap T.vm T.heap) (hQ : Q none T.heap locs) :
    OEnds p.tables e below (OGoalH Z EL Q s C S) (T.setTop (mkF m pc Ls [])) := by
  obtain ⟨fs, hr, hrun, hended, hW⟩ := X.leaveW hS hn (v := none) (fun _ => rfl) hlk
  exact ⟨_, _, X.returnOut hx hret hd hr, hrun, hended, _, _, rfl, hQ, hC, own_growW hW hc hs⟩
theorem own_b8 (x : Int32) : nar .byte (x.toInt8.toInt32) = x.toInt8.toInt32 := by
  show (x.toInt8.toInt32).toInt8.toInt32 = _
  rw [Int8.toInt8_toInt32]
theorem own_selP {s : State} {args : Array Value} {n : Nat} {y : MethodName} (hins : (Jvm.Cond.instantiable y.cls n).before args s = true) (hpriv : (Jvm.Cond.privateMethod y).before args s = true) (hinst : (Jvm.Cond.instanceMethod y).before args s = true) (hy : y.cls ≠ "java/lang/invoke/MethodHandle" ∧ y.cls ≠ "java/lang/invoke/VarHandle") :
    (Jvm.Cond.selects y.cls y y).before args s = true := by
  obtain ⟨c, k, hc, hk, -, hniab, -, -⟩ := Cond.instantiable_spec hins
  have hni : k.isInterface = false := (Bool.or_eq_false_iff.mp hniab).1
  obtain ⟨mk, methM, hnamed, hmethM, -, -⟩ := Cond.instanceMethod_spec hinst
  have hfound : s.methodFound? y.cls y.name y.desc = some mk := State.methodFound?_of_named hnamed hy
  have hcls : mk.cls = c := Option.some.inj ((findClass_of_methodNamed hnamed).symm.trans hc)
  have hsel : selectMethod {} s.vm c mk = .method mk := selectMethod_private hmethM (Cond.privateMethod_at hpriv mk methM hnamed hmethM)
  simp only [Cond.before, Cond.holds, Cond.value, hc, hfound, hnamed, hsel, hcls, hk]
  simp; exact hni
theorem own_exa_ns {Z : State} {h : Heap} {a : Addr} {C : String} (E : Exa Z h a C) : ∀ cell : Cell, h[a]? = some cell → cell.vm.isStatics = false := fun cell q => by
  obtain ⟨c, k, h1, -, -, h4, -⟩ := E
  cases h1.symm.trans q
  exact h4
theorem own_Sta_keep {Z : State} {h h' : Heap} {C n d : String} {v : Value} {ws : List Addr} (F : Sta Z h C n d v) (K : Keep h h' ws) (q : ∀ x ∈ ws, ∀ cell : Cell, h[x]? = some cell → cell.vm.isStatics = false) : Sta Z h' C n d v := by
  obtain ⟨cf, i, k, f, st, cell, h1, h2, h3, h4, h5, h6, h7⟩ := F
  refine ⟨cf, i, k, f, st, cell, h1, h2, h3, h4, K.2.1 _ _ h5 (fun hm => ?_), h6, h7⟩
  rw [q _ hm _ h5] at h6
  cases h6
theorem own_grow (X : Stand p l e R s m args below meth c T locs cells slots) {C S : Nat} (hc : cells ≤ C) (hs : slots ≤ S) : Stand p l e R s m args below meth c T locs C S :=
  ⟨X.admits, X.cas, X.clock, X.frames, X.room, X.hears, X.method, X.code, X.here, X.tail, X.warmed, X.limits, X.bytes, X.same.mono hc hs⟩
end OwnRoad
def own_EL : List (String × Nat) := [("java/lang/String", 7)]
theorem own_ew {Z : State} {a0 : Array Value} (hw : ∀ d ∈ tables_1, d.before a0 Z = true) : EW Z a0 own_EL := EW.cons (text := "") (hw _ (List.mem_of_getElem? (i := 125) rfl)) (by simp) EW.nil
theorem own_safeNull {Z : State} {EL : List (String × Nat)} {vm : Vm} {h : Heap} {x : Addr} (hal : Z.vm.Alike vm) (E : Exa Z h x "java/lang/String") (F : Fld Z h x "java/lang/String" "value" "[B" .null) : Safe Z EL vm h x := fun B => by
  obtain ⟨cell, k, e1, e2, e3, -, -⟩ := E
  obtain ⟨p, -, u, a, -, q, -, G, rfl | rfl⟩ := B
  · obtain ⟨cF, cf, kf, i, f, f1, f2, f3, f4, f5, f6, f7⟩ := F
    cases (show h[q.sa]? = some q.sC from G.ha).symm.trans f1
    obtain ⟨cS, ⟨⟨-, -, -, ⟨c1, k1, i1, g1, -⟩, -, -, -, v1, -⟩, -⟩, -⟩ := G
    obtain ⟨k3, q3, -⟩ := State.fieldFound?_setVm (s := Z) hal f2
    have e4 := (show (Wst Z vm h).fieldFound? _ _ _ = _ from q3).symm.trans g1
    simp only [Option.some.injEq, Prod.mk.injEq] at e4
    rw [← e4.2.2.2, f7] at v1
    cases v1
  · cases (show h[q.sd]? = some q.SA from G.hd).symm.trans e1
    obtain ⟨cS, -, -, f, -⟩ := G
    have f : vm.findClass "[B" = some q.SA.cls := f
    rw [hal.findClass] at f
    obtain ⟨k1, q1, q2⟩ := Vm.findClass_spec f
    obtain ⟨k2, q3, q4⟩ := Vm.findClass_spec e2
    cases q1.symm.trans q3
    exact absurd (q2.symm.trans q4) (by decide)
/-- the parts of Throwable that a stack trace's filling looks at; the word on 'suppressedExceptions' is the receiver's class's -/
theorem own_links {args : Array Value} {s : State} {pl : Platform} (howns : pl.frameOwnsMonitors = true) (hfin : pl.finalization = false) (hpl : pl.magicAccessors = ({} : Platform).magicAccessors) (W : ∀ d ∈ tables_1, xOk d = true → d.before args s = true) :
    ∃ T : ThrowableC, T.Links pl s ∧ s.vm.findClass tN = some T.cT ∧ s.methodNamed? tFill = some T.fill ∧ s.methodNamed? tFill0 = some T.fill0 ∧ (∃ i, s.fieldFound? tN "stackTrace" steD = some (T.cT, T.kT, i, T.fStack)) ∧ (∃ i, s.fieldFound? tN "UNASSIGNED_STACK" steD = some (T.cT, T.kT, i, T.fUnassigned)) ∧ T.fStack.name = "stackTrace" ∧ T.fStack.type = .array (.object "java/lang/StackTraceElement") := by
  have w : ∀ d, d ∈ tables_1 → xOk d = true → d.holds args s none s [] = true := fun d h1 h2 => W d h1 h2
  obtain ⟨⟨c, j0⟩, q0, n0, r0, t1, t2, t3, t4⟩ := Cond.native_spec (w (.native tFill0) (by decide +kernel) rfl)
  have hc : s.vm.findClass tN = some c := findClass_of_methodNamed n0
  obtain ⟨k, hk, hnm⟩ := Vm.findClass_spec hc
  obtain ⟨_, k', _, _, hk', _, _, hord, _, hni⟩ := Cond.superclass_spec hc (w (.superclass tN "java/lang/Object") (by decide +kernel) rfl)
  cases hk.symm.trans hk'
  obtain ⟨jF, qF, nF, rF, aF, sF, bF, -, -⟩ := Cond.ownMethod (x := tFill) hc hk (w (.instanceMethod tFill) (by decide +kernel) rfl)
  obtain ⟨qF', cF, rF', xF, yF, zF, uF, lF, -, gF⟩ := Cond.codeSync_spec nF (w (.codeSync tFill LibCode.Throwable.Fill.code 1 (some (.object tN))) (by decide +kernel) rfl)
  cases rF.symm.trans rF'
  obtain ⟨j1, q1, n1, r1, a1, s1, b1, nm1, ds1⟩ := Cond.ownMethod (x := tFill0) hc hk (w (.instanceMethod tFill0) (by decide +kernel) rfl)
  cases n0.symm.trans n1
  cases r0.symm.trans r1
  obtain ⟨mO, qO, nO, rO, sO, bO⟩ := Cond.instanceMethod_spec (w (.instanceMethod oInit) (by decide +kernel) rfl)
  obtain ⟨qO', cO, rO', xO, yO, zO, -, lO, -, gO⟩ := Cond.code_spec nO (w (.code oInit ⟨#[0xb1]⟩ 1 none) (by decide +kernel) rfl)
  cases rO.symm.trans rO'
  obtain ⟨kO, hkO, hnmO⟩ := Vm.findClass_spec (findClass_of_methodNamed nO)
  obtain ⟨nmO, dsO⟩ := name_of_methodNamed nO rO
  obtain ⟨m1, p1, cf, l1, g1, hcf, o1⟩ := Cond.linkedMethod hc hk nO (w (.methodLink tN 1 oInit) (by decide +kernel) rfl) pl hpl
  obtain ⟨m27, p27, cf2, l27, g27, hcf2, o27⟩ := Cond.linkedMethod hc hk nF (w (.methodLink tN 27 tFill) (by decide +kernel) rfl) pl hpl
  cases hcf.symm.trans hcf2
  obtain ⟨m202, p202, cf3, l202, g202, hcf3, o202⟩ := Cond.linkedMethod hc hk n0 (w (.methodLink tN 202 tFill0) (by decide +kernel) rfl) pl hpl
  cases hcf.symm.trans hcf3
  obtain ⟨c7, i7, f7, l7, g7, e7, u7, v7, -, -, -⟩ := Cond.ownField (t := .object tN) hc hk (by decide +kernel) (w (.fieldLink tN 7 tN "cause" "Ljava/lang/Throwable;") (by decide +kernel) rfl) (w (.lays tN tN "cause" "Ljava/lang/Throwable;") (by decide +kernel) rfl) pl hpl
  obtain ⟨c17, i17, f17, l17, g17, e17, u17, v17, x17, y17, z17⟩ := Cond.ownField (t := .array (.object "java/lang/StackTraceElement")) hc hk (by decide +kernel) (w (.fieldLink tN 17 tN "stackTrace" steD) (by decide +kernel) rfl) (w (.lays tN tN "stackTrace" steD) (by decide +kernel) rfl) pl hpl
  obtain ⟨c24, i24, f24, l24, g24, e24, u24, v24, x24, y24, z24⟩ := Cond.ownField (t := .object "java/util/List") hc hk (by decide +kernel) (w (.fieldLink tN 24 tN "suppressedExceptions" listD) (by decide +kernel) rfl) (w (.lays "com/example/coracle_health/coraclehealth/oauth/TokenError" tN "suppressedExceptions" listD) (by decide +kernel) rfl) pl hpl
  obtain ⟨c13, i13, f13, aS, cellS, l13, g13, e13, u13, -, -, hsta, -, -, -, -, z13⟩ := Cond.ownStatic (t := .array (.object "java/lang/StackTraceElement")) hc hk (by decide +kernel) (w (.fieldLink tN 13 tN "UNASSIGNED_STACK" steD) (by decide +kernel) rfl) (w (.laysStatic tN "UNASSIGNED_STACK" steD) (by decide +kernel) rfl) pl hpl
  obtain ⟨c20, i20, f20, _, _, l20, g20, e20, u20, -, -, -, -, -, -, -, -⟩ := Cond.ownStatic (t := .object "java/util/List") hc hk (by decide +kernel) (w (.fieldLink tN 20 tN "SUPPRESSED_SENTINEL" listD) (by decide +kernel) rfl) (w (.laysStatic tN "SUPPRESSED_SENTINEL" listD) (by decide +kernel) rfl) pl hpl
  obtain ⟨_, _, cM, kM, iM, fM, _, _, zM, uM, vM, _⟩ := Cond.lays_spec (w (.lays tN tN "detailMessage" "Ljava/lang/String;") (by decide +kernel) rfl)
  have apart : f17.slot ≠ f24.slot := Cond.lays_apart (w (.lays "com/example/coracle_health/coraclehealth/oauth/TokenError" tN "stackTrace" steD) (by decide +kernel) rfl) (w (.lays "com/example/coracle_health/coraclehealth/oauth/TokenError" tN "suppressedExceptions" listD) (by decide +kernel) rfl) z17 z24 (by rw [x17, x24]; decide)
  have par : ∀ {x : MethodName} {meth : Method} {ps : List FieldType} {rt : Option FieldType}, parseMethodDescriptor x.desc = some meth.sig → parseMethodDescriptor x.desc = some ⟨ps, rt⟩ → meth.sig.parameters = ps := fun h1 h2 => by rw [Option.some.inj (h1.symm.trans h2)]
  refine ⟨{ cT := c, kT := k, cO := c, aS := aS, fillIdx := jF, fill0Idx := j0, initSIdx := jF, obj := mO, kObj := kO, methFill := qF, methFill0 := q0, methInitS := qF, methObj := qO, codeFill := cF, codeInitS := cF, codeObj := cO, fBack := f7, fDepth := f7, fStack := f17, fCause := f7, fSupp := f24, fMsg := fM, fUnassigned := f13, fSentinel := f20, cfT := cf, ci1 := m1, n1 := p1, ci27 := m27, n27 := p27, ci202 := m202, n202 := p202, ci7 := c7, i7 := i7, ci13 := c13, i13 := i13, ci17 := c17, i17 := i17, ci20 := c20, i20 := i20, ci24 := c24, i24 := i24 }, ?_, hc, nF, n0, ⟨_, z17⟩, ⟨_, z13⟩, x17, y17⟩
  constructor
  all_goals first | assumption | skip
  · exact Vm.findClass_boot hc hk
  · exact Cond.initialized_spec hc hk (w (.initialized tN) (by decide +kernel) rfl)
  · exact par (rt := some (.object tN)) gF (by decide +kernel)
  · exact par (rt := some (.object tN)) t4 (by decide +kernel)
  · show lookupSpecial s.vm mO.cls "<init>" qO.desc = _
    rw [dsO]; exact lookupSpecial_of_named nO rO sO
  · rw [par (ps := []) (rt := none) gO (by decide +kernel)]; rfl
/-- a field found at Z, at a state whose tables are alike -/
theorem own_ff {Z s : State} (hal : Z.vm.Alike s.vm) {C n d : String} {c i : Nat} {k : Class} {f : Field} (h : Z.fieldFound? C n d = some (c, k, i, f)) {c' i' : Nat} {k' : Class} {f' : Field} (h' : s.fieldFound? C n d = some (c', k', i', f')) : f = f' := by
  obtain ⟨k2, q, -⟩ := State.fieldFound?_setVm (s := Z) hal h
  have q' : s.fieldFound? C n d = some (c, k2, i, f) := q
  have := h'.symm.trans q'
  simp only [Option.some.injEq, Prod.mk.injEq] at this
  exact this.2.2.2.symm
set_option maxHeartbeats 4000000 in
theorem own_fill {p : Program} {l : Launch} {e : Env} {R : Room} {s : State} {m : MethodId} {args : Array Value} {below : List Frame} {meth : Method} {c : Code} {T : State} {locs : List Loc} {cells slots : Nat} {Z : State} {a0 : Array Value} {h : Heap}
    (X : Stand p l e R s m args below meth c T locs cells slots) (hx : p.tables.exec = Jvm.exec) (hl : l.stackTraces = true) (hZ : Z.Warmed39 s.vm) (hw : ∀ d ∈ tables_1, d.before a0 Z = true) (hown : s.vm.findClass tN = some m.cls) (hT0 : ThS Z s.heap) (hTK : s.vm.MethodsKnown) (hBel : s.vm.FramesKnown below) (eT : T.heap = h)
    {a u : Addr} (E : Exa Z h a "com/example/coracle_health/coraclehealth/oauth/TokenError") (N : Unt h a) (B : Fld Z h a tN "backtrace" Jvm.Free.Exc.obD .null) (F : Fld Z h a tN "stackTrace" steD (.ref u)) (SU : Sta Z h tN "UNASSIGNED_STACK" steD (.ref u))
    {g : JFrame} (hg : g.method = m) (hsize : g.locals.size = c.maxLocals) {rest : List Value} (hs : g.stack = .ref a :: rest) (hd : decode c.code g.pc = .ok (.invokevirtual 27, 3)) {W : Nat} (hW : 2 * g.monitorRoom + (rest.map fun v => v.category).sum ≤ W) (hf : 2 < R.frames) (hlo : W + 42 ≤ R.locals) (hc : cells + 1 ≤ R.cells) (hsl : slots + 2752 ≤ R.slots) :
    ∃ (T' : State) (L : List Loc), (∀ y ∈ L, y.base = a) ∧ Stand p l e R s m args below meth c T' (locs ++ L) (cells + 1) (slots + 2752) ∧ Exa Z T'.heap a "com/example/coracle_health/coraclehealth/oauth/TokenError" ∧ (∃ cell : Cell, T'.heap[a]? = some cell ∧ cell.vm ≠ .unknown) ∧
      ∀ t, Steps p.tables e below (T'.setTop { g with pc := g.pc + 3, stack := .ref a :: rest }) t → Steps p.tables e below (T.setTop g) t := by
  have pf := X.admits.platform
  have hal := hZ.alike
  have w : ∀ d ∈ tables_1, xOk d = true → d.before args s = true := fun d hd ok => mvX hT0 hZ ok (hw d hd)
  have wh : ∀ d, d ∈ tables_1 → xOk d = true → d.holds args s none s [] = true := fun d h1 h2 => w d h1 h2
  have htr : e.platform.stackTraces = true := by rw [pf]; exact hl
  have hpl : e.platform.magicAccessors = ({} : Platform).magicAccessors := by rw [pf]
  obtain ⟨Tc, L, hfT, nF, nF0, ⟨iS, zS⟩, ⟨iU, zU⟩, nmS, tyS⟩ := own_links (pl := e.platform) (by rw [pf]) (by rw [pf]) hpl w
  obtain ⟨cell, k, e1, e2, e3, e4, e5⟩ := E
  obtain ⟨cell', n1, n2, n3⟩ := N
  cases e1.symm.trans n1
  have hfound : s.vm.findClass "com/example/coracle_health/coraclehealth/oauth/TokenError" = some cell.cls := by rw [hal.findClass]; exact e2
  obtain ⟨cX, kX, hcX, hkX, hord, -, -, -⟩ := Cond.instantiable_spec (wh (.instantiable "com/example/coracle_health/coraclehealth/oauth/TokenError" 8) (by decide +kernel) rfl)
  cases hfound.symm.trans hcX
  obtain ⟨k2, q2, q3⟩ := hal.2.2 _ _ e3
  cases q2.symm.trans hkX
  have hsz : cell.slots.size = kX.instanceTypes.size := by
    have o : k.kind = .ordinary := by rw [q3] at hord; exact hord
    rw [e5 o, q3]
  obtain ⟨c1, cf1, kf1, i1, f1, g1, g2, -, -, -, -, g7⟩ := F
  cases e1.symm.trans g1
  cases own_ff hal g2 zS
  obtain ⟨c2, cf2, kf2, i2, f2, b1, b2, b3, -, -, -, b7⟩ := B
  cases e1.symm.trans b1
  obtain ⟨ci198, i198, fB, hk198, hg198, ha198, hsB, -, hnB, htB, hffB⟩ := Cond.ownField (t := .object "java/lang/Object") hfT L.cls (by decide +kernel) (wh (.fieldLink tN 198 tN "backtrace" Jvm.Free.Exc.obD) (by decide +kernel) rfl) (wh (.lays tN tN "backtrace" Jvm.Free.Exc.obD) (by decide +kernel) rfl) e.platform hpl
  cases own_ff hal b2 hffB
  obtain ⟨cU, iU2, kU, fU, st, cellS, u1, u2, u3, u4, u5, u6, u7⟩ := SU
  obtain ⟨kU2, uq, ueq⟩ := State.fieldFound?_setVm (s := Z) hal u1
  have uq' : s.fieldFound? tN "UNASSIGNED_STACK" steD = some (cU, kU2, iU2, fU) := uq
  cases uq'.symm.trans zU
  have hst : Tc.kT.statics = some st := by rw [ueq]; exact u4
  cases hst.symm.trans L.statics
  have hneS : Tc.aS ≠ a := fun q => by
    rw [q, e1] at u5
    rw [← Option.some.inj u5, n2] at u6
    cases u6
  obtain ⟨_, _, cD, kD, iD, fD, -, -, zD, sD, -, -, -, -⟩ := Cond.lays_spec (wh (.lays "com/example/coracle_health/coraclehealth/oauth/TokenError" tN "depth" "I") (by decide +kernel) rfl)
  cases (Cond.lays_declared (wh (.lays "com/example/coracle_health/coraclehealth/oauth/TokenError" tN "depth" "I") (by decide +kernel) rfl) zD).symm.trans hfT
  obtain ⟨hkD, haD⟩ := State.fieldFound?_spec zD
  cases hkD.symm.trans L.cls
  obtain ⟨hnD, htD⟩ := State.fieldFound?_type zD (t := .int) (by decide +kernel)
  have hfb := Cond.soleField_find hfT L.cls (wh (.soleField tN "backtrace") (by decide +kernel) rfl) ha198 hnB hsB
  have hfd := Cond.soleField_find hfT L.cls (wh (.soleField tN "depth") (by decide +kernel) rfl) haD hnD sD
  obtain ⟨comp, cO, kO, -, -, hkO, hkindO, hO⟩ := Cond.arrayOver_spec (wh (.arrayOver (.object "java/lang/Object")) (by decide +kernel) rfl)
  have tS := (Cond.laysAt hfound hkX zS (wh (.lays "com/example/coracle_health/coraclehealth/oauth/TokenError" tN "stackTrace" steD) (by decide +kernel) rfl)).1
  have tB := (Cond.laysAt hfound hkX hffB (wh (.lays "com/example/coracle_health/coraclehealth/oauth/TokenError" tN "backtrace" Jvm.Free.Exc.obD) (by decide +kernel) rfl)).1
  have tD := (Cond.laysAt hfound hkX zD (wh (.lays "com/example/coracle_health/coraclehealth/oauth/TokenError" tN "depth" "I") (by decide +kernel) rfl)).1
  have tk : ∀ {f : Field} {v : Value}, kX.instanceTypes[f.slot]? = some f.type → fits f.type v = true → Jvm.Takes s cell f v := fun {f v} h1 h2 => by
    obtain ⟨r1, r2⟩ := Takes.of_laid (v := v) hkX hord h1 h2
    exact ⟨by rw [hsz]; simpa using r1, by rw [n2]; exact r2⟩
  have sel0 : selectMethod e.platform s.vm cell.cls Tc.fill0 = .method Tc.fill0 := by
    obtain ⟨c3, r3, m3, s1, s2, s3, s4, -⟩ := Cond.selects_spec (wh (.selects "com/example/coracle_health/coraclehealth/oauth/TokenError" tFill0 tFill0) (by decide +kernel) rfl)
    cases s1.symm.trans hfound
    cases s2.symm.trans (State.methodFound?_of_named nF0 (by decide))
    cases s3.symm.trans nF0
    rw [Launch.admits_selectMethod X.admits]; exact s4
  have hSE := w (.selects "com/example/coracle_health/coraclehealth/oauth/TokenError" tFill tFill) (by decide +kernel) rfl
  obtain ⟨v, vm₁, ⟨T6, L6, c6, n6⟩, hW6, X6, ⟨hv6, C6, nn, hn, hD6, r1, r2, r3, r4, hL6, hc6, hn6⟩, come⟩ := X.virtualBack hx (own := tN) (C := "com/example/coracle_health/coraclehealth/oauth/TokenError") (index := 27) (y := tFill) (z := tFill) hown (w (.methodLink tN 27 tFill) (by decide +kernel) rfl) (w (.declares tFill) (by decide +kernel) rfl) (notFace_of_selects hSE) hSE (w (.instanceMethod tFill) (by decide +kernel) rfl) (by decide)
    (Jvm.Free.Exc.fillPaysAny (l := l) (W := W) hx htr Tc L nF (u0 := ⟨.ref u, rfl⟩) (self := a) (cell := cell) (cellS := cellS) (fun _ => by rw [n2]; simp) (by rw [n2]; simp) (by rw [n3]) (by rw [n3]) g7 sel0 hneS (fun q => by rw [q] at u6; cases u6) u7 (tk tS (by rw [tyS]; exact fits_refV_array _ ⟨.ref u, rfl⟩))
      ⟨{ ci198 := ci198, i198 := i198, fBack := f2 }, ⟨hk198, hg198, ha198, hsB⟩, b7⟩ hTK hBel hfT hO hkO hkindO hfb hfd (fun x => tk tB (by rw [htB]; rfl)) (fun x => tk tD (by rw [htD]; rfl)) hf hlo)
    (b := a) (cB := cell.cls) hfound ⟨cell, by rw [eT]; exact e1, rfl, e4⟩ (g := g) hg hsize (Steps.refl _) (argsL := []) (rest := rest)
    (fun sig h => by rw [show parseMethodDescriptor tFill.desc = some ⟨[], some (.object tN)⟩ from by decide +kernel] at h; rw [← Option.some.inj h]; rfl) hs hW hd
    (fun vmx hWx => ⟨rfl, hc, hsl, by show T.heap[a]? = _; rw [eT]; exact e1, by show T.heap[Tc.aS]? = _; rw [eT]; exact u5⟩)
  dsimp only [Pt.U, Pt.locs, Pt.cells, Pt.slots] at X6 hD6 hL6 hc6 hn6 come
  subst hv6 hL6 hc6 hn6
  refine ⟨T6, _, ?_, own_grow X6 (Nat.le_refl _) (Nat.add_le_add_left hn _), ⟨C6, k, hD6, by rw [r1]; exact e2, by rw [r1]; exact e3, by rw [r2]; exact e4, fun q => by rw [r3]; exact e5 q⟩, ⟨C6, hD6, by rw [r2, n2]; simp⟩, fun t k => come.trans k⟩
  intro y hy
  simp only [List.mem_cons, List.not_mem_nil, or_false] at hy
  rcases hy with rfl | rfl | rfl <;> rfl
theorem own_keepS {p : Program} {l : Launch} {e : Env} {R : Room} {s : State} {m : MethodId} {args : Array Value} {below : List Frame} {meth : Method} {c : Code} {T : State} {locs : List Loc} {cells slots : Nat} {a : Addr} (X : Stand p l e R s m args below meth c T locs cells slots) (hb : ∀ y ∈ locs, y.base = a) : Keep s.heap T.heap [a] := by
  have q := X.same.2.2.2.2.2
  refine ⟨?_, fun x cl h hx => ?_, fun x cl h => ?_⟩
  · rcases Nat.eq_zero_or_pos s.heap.size with z | z
    · omega
    · obtain ⟨c', h1, -⟩ := q (s.heap.size - 1) _ (Array.getElem?_eq_getElem (by omega))
      have := (Array.getElem?_eq_some_iff.mp (show T.heap[s.heap.size - 1]? = some c' from h1)).1
      omega
  · obtain ⟨c', h1, h2, -, h4⟩ := q x cl h
    have hne : x ≠ a := by simpa using hx
    have hsl : c'.slots = cl.slots := Array.ext_getElem? fun i => h4 i fun hm => hne (hb _ hm)
    have hcc : c' = cl := by rw [h2, hsl]
    rw [← hcc]; exact h1
  · obtain ⟨c', h1, h2, h3, -⟩ := q x cl h
    exact ⟨c', h1, by rw [h2], by rw [h2], h3⟩
theorem own_bs {p : Program} {l : Launch} {e : Env} {R : Room} {s : State} {m : MethodId} {args : Array Value} {below : List Frame} {meth : Method} {c : Code} {T : State} {locs : List Loc} {cells slots : Nat} {a : Addr} {sl : Nat} (X : Stand p l e R s m args below meth c T (locs ++ [⟨a, sl⟩]) cells slots) (M : ∀ y ∈ locs, y.base = a) : ∀ y ∈ locs ++ [⟨a, sl⟩], y.base = a := fun y hy => by
  rcases List.mem_append.mp hy with q | q
  · exact M y q
  · cases List.mem_singleton.mp q; rfl
theorem own_bapp {locs L : List Loc} {a : Addr} (M : ∀ y ∈ locs, y.base = a) (N : ∀ y ∈ L, y.base = a) : ∀ y ∈ locs ++ L, y.base = a := fun y hy => (List.mem_append.mp hy).elim (M y) (N y)
theorem own_knK {h h' : Heap} {a : Addr} {ws : List Addr} (K : Keep h h' ws) (U : Unt h a) : ∃ cell : Cell, h'[a]? = some cell ∧ cell.vm ≠ .unknown := by
  obtain ⟨cl, h1, h2, -⟩ := U
  obtain ⟨c', q1, -, q3, -⟩ := K.2.2 _ _ h1
  exact ⟨c', q1, by rw [q3, h2]; simp⟩
theorem own_ch (p : Int32) : ¬ ((255 : Int32) < (nar .char ((p &&& (255 : Int32)).toUInt32.toUInt16.toUInt32.toInt32))) := by
  have e1 := c_mask p (255 : Int32) 8 (by decide) (by decide)
  have e2 := c_i2c (p &&& (255 : Int32))
  have e3 := c_i2c ((p &&& (255 : Int32)).toUInt32.toUInt16.toUInt32.toInt32)
  have z : (255 : Int32).toInt = 255 := by decide
  rw [Int32.lt_iff_toInt_lt]
  show ¬ ((255 : Int32).toInt < (((p &&& (255 : Int32)).toUInt32.toUInt16.toUInt32.toInt32).toUInt32.toUInt16.toUInt32.toInt32).toInt)
  omega
theorem own_ch7 (p : Int32) : ¬ ((255 : Int32) < (nar .char ((p &&& (127 : Int32)).toUInt32.toUInt16.toUInt32.toInt32))) := by
  have e1 := c_mask p (127 : Int32) 7 (by decide) (by decide)
  have e2 := c_i2c (p &&& (127 : Int32))
  have e3 := c_i2c ((p &&& (127 : Int32)).toUInt32.toUInt16.toUInt32.toInt32)
  have z : (255 : Int32).toInt = 255 := by decide
  rw [Int32.lt_iff_toInt_lt]
  show ¬ ((255 : Int32).toInt < (((p &&& (127 : Int32)).toUInt32.toUInt16.toUInt32.toInt32).toUInt32.toUInt16.toUInt32.toInt32).toInt)
  omega
theorem own_ch1 (p : Int32) : ¬ ((255 : Int32) < ((p &&& (255 : Int32)).toUInt32.toUInt16.toUInt32.toInt32)) := by
  have e1 := c_mask p (255 : Int32) 8 (by decide) (by decide)
  have e2 := c_i2c (p &&& (255 : Int32))
  have z : (255 : Int32).toInt = 255 := by decide
  rw [Int32.lt_iff_toInt_lt]
  omega
theorem pn_0 : plainName "java/lang/StringUTF16" = true := by first | (simp [plainName, overriddenIn]; done) | decide +kernel
theorem ef_6 (m : MethodId) (a1 : Addr) (a3 : Addr) : entryFrame m #[(.ref a1), (.int (0 : Int32)), (.ref a3), (.int (0 : Int32)), (.int (2 : Int32))] 7 = mkF m 0 #[.val (.ref a1), .val (.int (0 : Int32)), .val (.ref a3), .val (.int (0 : Int32)), .val (.int (2 : Int32)), .unset, .unset] [] := by first | (simp [entryFrame, mkF, argsToLocals, Value.category]; done) | rfl
def Q6 (Z : State) (a1 : Addr) (a3 : Addr) (k1 : ClassId) (k3 : ClassId) (c0 : Int32) (c1 : Int32) (h0 : Heap) (n0 : Nat) (v : Option Value) (h : Heap) (L : List Loc) : Prop := v = some (.int (2 : Int32)) ∧ Fr n0 L ∧ Keep h0 h [a3] ∧ Arv Z h a3 k3 .byte (2 : Int32) [(.int (c0.toInt8.toInt32)), (.int (c1.toInt8.toInt32))] (.int (0 : Int32))
theorem d6_0 : decode jdk_52_method_21_code 0 = .ok (.iconst 0, 1) := by decide +kernel
theorem d6_1 : decode jdk_52_method_21_code 1 = .ok (.istore 5, 2) := by decide +kernel
theorem d6_3 : decode jdk_52_method_21_code 3 = .ok (.iload 5, 2) := by decide +kernel
theorem d6_5 : decode jdk_52_method_21_code 5 = .ok (.iload 4, 2) := by decide +kernel
theorem d6_7 : decode jdk_52_method_21_code 7 = .ok (.if_icmp .ge 37, 3) := by decide +kernel
theorem d6_10 : decode jdk_52_method_21_code 10 = .ok (.aload_n 0, 1) := by decide +kernel
theorem d6_11 : decode jdk_52_method_21_code 11 = .ok (.iload_n 1, 1) := by decide +kernel
theorem d6_12 : decode jdk_52_method_21_code 12 = .ok (.caload, 1) := by decide +kernel
theorem d6_13 : decode jdk_52_method_21_code 13 = .ok (.istore 6, 2) := by decide +kernel
theorem d6_15 : decode jdk_52_method_21_code 15 = .ok (.iload 6, 2) := by decide +kernel
theorem d6_17 : decode jdk_52_method_21_code 17 = .ok (.sipush 255, 3) := by decide +kernel
theorem d6_20 : decode jdk_52_method_21_code 20 = .ok (.if_icmp .le 6, 3) := by decide +kernel
theorem d6_26 : decode jdk_52_method_21_code 26 = .ok (.aload_n 2, 1) := by decide +kernel
theorem d6_27 : decode jdk_52_method_21_code 27 = .ok (.iload_n 3, 1) := by decide +kernel
theorem d6_28 : decode jdk_52_method_21_code 28 = .ok (.iload 6, 2) := by decide +kernel
theorem d6_30 : decode jdk_52_method_21_code 30 = .ok (.i2b, 1) := by decide +kernel
theorem d6_31 : decode jdk_52_method_21_code 31 = .ok (.bastore, 1) := by decide +kernel
theorem d6_32 : decode jdk_52_method_21_code 32 = .ok (.iinc 1 1, 3) := by decide +kernel
theorem d6_35 : decode jdk_52_method_21_code 35 = .ok (.iinc 3 1, 3) := by decide +kernel
theorem d6_38 : decode jdk_52_method_21_code 38 = .ok (.iinc 5 1, 3) := by decide +kernel
theorem d6_41 : decode jdk_52_method_21_code 41 = .ok (.goto (-38), 3) := by decide +kernel
theorem d6_44 : decode jdk_52_method_21_code 44 = .ok (.iload 4, 2) := by decide +kernel
theorem d6_46 : decode jdk_52_method_21_code 46 = .ok (.ireturn, 1) := by decide +kernel
set_option maxRecDepth 65536 in
set_option maxHeartbeats 40000000 in
theorem rm6 (l : Launch) (Z : State) (a0 : Array Value) (hw : ∀ d ∈ tables_1, d.before a0 Z = true) (ws : List Jvm.Cond) (a1 : Addr) (a3 : Addr) (k1 : ClassId) (k3 : ClassId) (c0 : Int32) (c1 : Int32) (h0 : Heap) (n0 : Nat) (Z0 : n0 ≤ h0.size) (V1 : Arv Z h0 a1 k1 .char (2 : Int32) [(.int c0), (.int c1)] (.int (0 : Int32))) (V3 : Arv Z h0 a3 k3 .byte (2 : Int32) [(.int (0 : Int32)), (.int (0 : Int32))] (.int (0 : Int32))) (g_a3 : n0 ≤ a3) (n13 : a1 ≠ a3) (hc0 : ¬ ((255 : Int32) < c0)) (hc1 : ¬ ((255 : Int32) < c1)) :
    MetFree l (⟨"java/lang/StringUTF16", "compress", "([CI[BII)I"⟩ : MethodName) (head1 (Jvm.Cond.code (⟨"java/lang/StringUTF16", "compress", "([CI[BII)I"⟩ : MethodName) jdk_52_method_21_code 7 (some .int) :: ws) ({ frames := 0, cells := 0, slots := 0, locals := 0 } : Room)) (fun a U => a = #[(.ref a1), (.int (0 : Int32)), (.ref a3), (.int (0 : Int32)), (.int (2 : Int32))] ∧ Z.Warmed39 U.vm ∧ U.heap = h0) (fun _ _ _ _ _ => True) (fun _ U o U' => ∃ v L, o = .returned v ∧ Q6 Z a1 a3 k1 k3 c0 c1 h0 n0 v U'.heap L ∧ FrameEnd U o U' L ({ frames := 0, cells := 0, slots := 0, locals := 0 } : Room).cells ({ frames := 0, cells := 0, slots := 0, locals := 0 } : Room).slots) := by
  refine MetFree.of_bodySF (plainFor_of_name pn_0) hisR ?_
  intro p e s m args below meth c s₁ Bd hml0 hP hK
  obtain ⟨rfl, hZ, hh⟩ := hP
  have hx := Bd.exec
  have hby := Bd.bytes
  have hml : c.maxLocals = 7 := hml0
  have hown : s.vm.findClass "java/lang/StringUTF16" = some m.cls := findClass_of_methodNamed Bd.named
  have hnm := (name_of_methodNamed Bd.named Bd.method).1
  have hlk : meth.locks = false := BodyLoose.notSynchronized Bd
  have X0 : Stand p l e ({ frames := 0, cells := 0, slots := 0, locals := 0 } : Room) s m #[(.ref a1), (.int (0 : Int32)), (.ref a3), (.int (0 : Int32)), (.int (2 : Int32))] below meth c s₁ [] 0 0 := Stand.of_body Bd
  have e0 : s₁.heap = h0 := by rw [← hh, Bd.state]; rfl
  have N0 := Fr.nil n0
  show OEnds p.tables e below (OGoal (Q6 Z a1 a3 k1 k3 c0 c1 h0 n0) s 0 0) (s₁.setTop (entryFrame m #[(.ref a1), (.int (0 : Int32)), (.ref a3), (.int (0 : Int32)), (.int (2 : Int32))] 7))
  refine OEnds.st (fun t k => castTop (ef_6 m a1 a3) k) ?_
  generalize hG : OGoal (Q6 Z a1 a3 k1 k3 c0 c1 h0 n0) s 0 0 = G
  have KK0 : Keep h0 h0 [a3] := Keep.refl h0 [a3]
  show OEnds p.tables e below G (s₁.setTop (mkF m 0 #[.val (.ref a1), .val (.int (0 : Int32)), .val (.ref a3), .val (.int (0 : Int32)), .val (.int (2 : Int32)), .unset, .unset] []))
  refine OEnds.st (fun _ k => XS.iconst X0.here hx rfl (hb hby d6_0) k) ?_
  show OEnds p.tables e below G (s₁.setTop (mkF m 1 #[.val (.ref a1), .val (.int (0 : Int32)), .val (.ref a3), .val (.int (0 : Int32)), .val (.int (2 : Int32)), .unset, .unset] [(.int (0 : Int32))]))
  refine OEnds.st (fun _ k => XS.istore X0.here hx rfl (hb hby d6_1) rfl (l' := #[.val (.ref a1), .val (.int (0 : Int32)), .val (.ref a3), .val (.int (0 : Int32)), .val (.int (2 : Int32)), .val (.int (0 : Int32)), .unset]) rfl k) ?_
  show OEnds p.tables e below G (s₁.setTop (mkF m 3 #[.val (.ref a1), .val (.int (0 : Int32)), .val (.ref a3), .val (.int (0 : Int32)), .val (.int (2 : Int32)), .val (.int (0 : Int32)), .unset] []))
  refine OEnds.st (fun _ k => XS.iload X0.here hx rfl (hb hby d6_3) rfl k) ?_
  show OEnds p.tables e below G (s₁.setTop (mkF m 5 #[.val (.ref a1), .val (.int (0 : Int32)), .val (.ref a3), .val (.int (0 : Int32)), .val (.int (2 : Int32)), .val (.int (0 : Int32)), .unset] [(.int (0 : Int32))]))
  refine OEnds.st (fun _ k => XS.iload X0.here hx rfl (hb hby d6_5) rfl k) ?_
  show OEnds p.tables e below G (s₁.setTop (mkF m 7 #[.val (.ref a1), .val (.int (0 : Int32)), .val (.ref a3), .val (.int (0 : Int32)), .val (.int (2 : Int32)), .val (.int (0 : Int32)), .unset] [(.int (2 : Int32)), (.int (0 : Int32))]))
  refine OEnds.st (fun _ k => XS.icmpNo X0.here hx rfl (hb hby d6_7) rfl (tlt (by decide : (0 : Int32) < (2 : Int32))).2.1 k) ?_
  show OEnds p.tables e below G (s₁.setTop (mkF m 10 #[.val (.ref a1), .val (.int (0 : Int32)), .val (.ref a3), .val (.int (0 : Int32)), .val (.int (2 : Int32)), .val (.int (0 : Int32)), .unset] []))
  refine OEnds.st (fun _ k => XS.aloadN X0.here hx rfl (hb hby d6_10) rfl rfl k) ?_
  show OEnds p.tables e below G (s₁.setTop (mkF m 11 #[.val (.ref a1), .val (.int (0 : Int32)), .val (.ref a3), .val (.int (0 : Int32)), .val (.int (2 : Int32)), .val (.int (0 : Int32)), .unset] [(.ref a1)]))
  refine OEnds.st (fun _ k => XS.iloadN X0.here hx rfl (hb hby d6_11) rfl k) ?_
  show OEnds p.tables e below G (s₁.setTop (mkF m 12 #[.val (.ref a1), .val (.int (0 : Int32)), .val (.ref a3), .val (.int (0 : Int32)), .val (.int (2 : Int32)), .val (.int (0 : Int32)), .unset] [(.int (0 : Int32)), (.ref a1)]))
  obtain ⟨cl1001, Ar1001, q1001, S1001, N1001n, H1001, G1001⟩ := id V1
  have hin1001 : ¬ ((0 : Int32) < 0 ∨ cl1001.slots.size ≤ ((0 : Int32)).toNatClampNeg) := inb_of S1001 ⟨by decide, by decide⟩
  have hat1001 : cl1001.slots[((0 : Int32)).toNatClampNeg]? = some (.int c0) := H1001.at hin1001 rfl
  refine OEnds.st (X0.caload hx (j := (0 : Int32)) (v := (.int c0)) (by rw [e0]; exact Ar1001.1) (State.isArrayOf_alike hZ.alike Ar1001.2.1) Ar1001.2.2 hin1001 hat1001 (g := (mkF m 12 #[.val (.ref a1), .val (.int (0 : Int32)), .val (.ref a3), .val (.int (0 : Int32)), .val (.int (2 : Int32)), .val (.int (0 : Int32)), .unset] [(.int (0 : Int32)), (.ref a1)])) rfl rfl (hb hby d6_12)) ?_
  show OEnds p.tables e below G (s₁.setTop (mkF m 13 #[.val (.ref a1), .val (.int (0 : Int32)), .val (.ref a3), .val (.int (0 : Int32)), .val (.int (2 : Int32)), .val (.int (0 : Int32)), .unset] [(.int c0)]))
  refine OEnds.st (fun _ k => XS.istore X0.here hx rfl (hb hby d6_13) rfl (l' := #[.val (.ref a1), .val (.int (0 : Int32)), .val (.ref a3), .val (.int (0 : Int32)), .val (.int (2 : Int32)), .val (.int (0 : Int32)), .val (.int c0)]) rfl k) ?_
  show OEnds p.tables e below G (s₁.setTop (mkF m 15 #[.val (.ref a1), .val (.int (0 : Int32)), .val (.ref a3), .val (.int (0 : Int32)), .val (.int (2 : Int32)), .val (.int (0 : Int32)), .val (.int c0)] []))
  refine OEnds.st (fun _ k => XS.iload X0.here hx rfl (hb hby d6_15) rfl k) ?_
  show OEnds p.tables e below G (s₁.setTop (mkF m 17 #[.val (.ref a1), .val (.int (0 : Int32)), .val (.ref a3), .val (.int (0 : Int32)), .val (.int (2 : Int32)), .val (.int (0 : Int32)), .val (.int c0)] [(.int c0)]))
  refine OEnds.st (fun _ k => XS.sipush X0.here hx rfl (hb hby d6_17) k) ?_
  show OEnds p.tables e below G (s₁.setTop (mkF m 20 #[.val (.ref a1), .val (.int (0 : Int32)), .val (.ref a3), .val (.int (0 : Int32)), .val (.int (2 : Int32)), .val (.int (0 : Int32)), .val (.int c0)] [(.int (255 : Int32)), (.int c0)]))
  refine OEnds.st (fun _ k => XS.icmpYes X0.here hx rfl (pc0 := 20) (pc' := 26) rfl (hb hby d6_20) rfl (flt hc0).2.2.2 (by decide) (by decide) k) ?_
  show OEnds p.tables e below G (s₁.setTop (mkF m 26 #[.val (.ref a1), .val (.int (0 : Int32)), .val (.ref a3), .val (.int (0 : Int32)), .val (.int (2 : Int32)), .val (.int (0 : Int32)), .val (.int c0)] []))
  refine OEnds.st (fun _ k => XS.aloadN X0.here hx rfl (hb hby d6_26) rfl rfl k) ?_
  show OEnds p.tables e below G (s₁.setTop (mkF m 27 #[.val (.ref a1), .val (.int (0 : Int32)), .val (.ref a3), .val (.int (0 : Int32)), .val (.int (2 : Int32)), .val (.int (0 : Int32)), .val (.int c0)] [(.ref a3)]))
  refine OEnds.st (fun _ k => XS.iloadN X0.here hx rfl (hb hby d6_27) rfl k) ?_
  show OEnds p.tables e below G (s₁.setTop (mkF m 28 #[.val (.ref a1), .val (.int (0 : Int32)), .val (.ref a3), .val (.int (0 : Int32)), .val (.int (2 : Int32)), .val (.int (0 : Int32)), .val (.int c0)] [(.int (0 : Int32)), (.ref a3)]))
  refine OEnds.st (fun _ k => XS.iload X0.here hx rfl (hb hby d6_28) rfl k) ?_
  show OEnds p.tables e below G (s₁.setTop (mkF m 30 #[.val (.ref a1), .val (.int (0 : Int32)), .val (.ref a3), .val (.int (0 : Int32)), .val (.int (2 : Int32)), .val (.int (0 : Int32)), .val (.int c0)] [(.int c0), (.int (0 : Int32)), (.ref a3)]))
  refine OEnds.st (fun _ k => XS.i2b X0.here hx rfl (hb hby d6_30) rfl k) ?_
  show OEnds p.tables e below G (s₁.setTop (mkF m 31 #[.val (.ref a1), .val (.int (0 : Int32)), .val (.ref a3), .val (.int (0 : Int32)), .val (.int (2 : Int32)), .val (.int (0 : Int32)), .val (.int c0)] [(.int (c0.toInt8.toInt32)), (.int (0 : Int32)), (.ref a3)]))
  obtain ⟨cl1002, Ar1002, q1002, S1002, N1002n, H1002, G1002⟩ := id V3
  have hin1002 : ¬ ((0 : Int32) < 0 ∨ cl1002.slots.size ≤ ((0 : Int32)).toNatClampNeg) := inb_of S1002 ⟨by decide, by decide⟩
  obtain ⟨T1002, h1002, X1002, e1002, W1002, st1002⟩ := stB X0 hx hZ e0 Ar1002 (j := (0 : Int32)) hin1002 (g := (mkF m 31 #[.val (.ref a1), .val (.int (0 : Int32)), .val (.ref a3), .val (.int (0 : Int32)), .val (.int (2 : Int32)), .val (.int (0 : Int32)), .val (.int c0)] [(.int (c0.toInt8.toInt32)), (.int (0 : Int32)), (.ref a3)])) rfl rfl (hb hby d6_31)
  refine OEnds.st st1002 ?_
  clear st1002
  rw [own_b8] at W1002
  have f1003 : Arv Z h1002 a3 k3 .byte (2 : Int32) [(.int (c0.toInt8.toInt32)), (.int (0 : Int32))] (.int (0 : Int32)) := Arv.set Ar1002 q1002 S1002 N1002n H1002 G1002 (fits_nar_byte _) W1002 0 rfl (Nat.le_of_ble_eq_true rfl)
  have f1004 : Arv Z h1002 a1 k1 .char (2 : Int32) [(.int c0), (.int c1)] (.int (0 : Int32)) := V1.other W1002 n13
  have N1002 := Fr.snoc X1002 N0 g_a3
  have KK1002 : Keep h0 h1002 [a3] := KK0.wr W1002 (Or.inl (List.mem_of_getElem? (i := 0) rfl))
  have Z1002 := Nat.le_trans Z0 (Keep.of_wr W1002).1
  show OEnds p.tables e below G (T1002.setTop (mkF m 32 #[.val (.ref a1), .val (.int (0 : Int32)), .val (.ref a3), .val (.int (0 : Int32)), .val (.int (2 : Int32)), .val (.int (0 : Int32)), .val (.int c0)] []))
  refine OEnds.st (fun _ k => XS.iinc X1002.here hx rfl (hb hby d6_32) rfl (l' := #[.val (.ref a1), .val (.int ((0 : Int32) + (1 : Int32))), .val (.ref a3), .val (.int (0 : Int32)), .val (.int (2 : Int32)), .val (.int (0 : Int32)), .val (.int c0)]) rfl k) ?_
  show OEnds p.tables e below G (T1002.setTop (mkF m 35 #[.val (.ref a1), .val (.int ((0 : Int32) + (1 : Int32))), .val (.ref a3), .val (.int (0 : Int32)), .val (.int (2 : Int32)), .val (.int (0 : Int32)), .val (.int c0)] []))
  rw [show ((0 : Int32) + (1 : Int32)) = (1 : Int32) from by decide]
  show OEnds p.tables e below G (T1002.setTop (mkF m 35 #[.val (.ref a1), .val (.int (1 : Int32)), .val (.ref a3), .val (.int (0 : Int32)), .val (.int (2 : Int32)), .val (.int (0 : Int32)), .val (.int c0)] []))
  refine OEnds.st (fun _ k => XS.iinc X1002.here hx rfl (hb hby d6_35) rfl (l' := #[.val (.ref a1), .val (.int (1 : Int32)), .val (.ref a3), .val (.int ((0 : Int32) + (1 : Int32))), .val (.int (2 : Int32)), .val (.int (0 : Int32)), .val (.int c0)]) rfl k) ?_
  show OEnds p.tables e below G (T1002.setTop (mkF m 38 #[.val (.ref a1), .val (.int (1 : Int32)), .val (.ref a3), .val (.int ((0 : Int32) + (1 : Int32))), .val (.int (2 : Int32)), .val (.int (0 : Int32)), .val (.int c0)] []))
  rw [show ((0 : Int32) + (1 : Int32)) = (1 : Int32) from by decide]
  show OEnds p.tables e below G (T1002.setTop (mkF m 38 #[.val (.ref a1), .val (.int (1 : Int32)), .val (.ref a3), .val (.int (1 : Int32)), .val (.int (2 : Int32)), .val (.int (0 : Int32)), .val (.int c0)] []))
  refine OEnds.st (fun _ k => XS.iinc X1002.here hx rfl (hb hby d6_38) rfl (l' := #[.val (.ref a1), .val (.int (1 : Int32)), .val (.ref a3), .val (.int (1 : Int32)), .val (.int (2 : Int32)), .val (.int ((0 : Int32) + (1 : Int32))), .val (.int c0)]) rfl k) ?_
  show OEnds p.tables e below G (T1002.setTop (mkF m 41 #[.val (.ref a1), .val (.int (1 : Int32)), .val (.ref a3), .val (.int (1 : Int32)), .val (.int (2 : Int32)), .val (.int ((0 : Int32) + (1 : Int32))), .val (.int c0)] []))
  rw [show ((0 : Int32) + (1 : Int32)) = (1 : Int32) from by decide]
  show OEnds p.tables e below G (T1002.setTop (mkF m 41 #[.val (.ref a1), .val (.int (1 : Int32)), .val (.ref a3), .val (.int (1 : Int32)), .val (.int (2 : Int32)), .val (.int (1 : Int32)), .val (.int c0)] []))
  refine OEnds.st (fun _ k => XS.goto X1002.here hx rfl (pc0 := 41) (pc' := 3) rfl (hb hby d6_41) (by decide) (by decide) k) ?_
  show OEnds p.tables e below G (T1002.setTop (mkF m 3 #[.val (.ref a1), .val (.int (1 : Int32)), .val (.ref a3), .val (.int (1 : Int32)), .val (.int (2 : Int32)), .val (.int (1 : Int32)), .val (.int c0)] []))
  refine OEnds.st (fun _ k => XS.iload X1002.here hx rfl (hb hby d6_3) rfl k) ?_
  show OEnds p.tables e below G (T1002.setTop (mkF m 5 #[.val (.ref a1), .val (.int (1 : Int32)), .val (.ref a3), .val (.int (1 : Int32)), .val (.int (2 : Int32)), .val (.int (1 : Int32)), .val (.int c0)] [(.int (1 : Int32))]))
  refine OEnds.st (fun _ k => XS.iload X1002.here hx rfl (hb hby d6_5) rfl k) ?_
  show OEnds p.tables e below G (T1002.setTop (mkF m 7 #[.val (.ref a1), .val (.int (1 : Int32)), .val (.ref a3), .val (.int (1 : Int32)), .val (.int (2 : Int32)), .val (.int (1 : Int32)), .val (.int c0)] [(.int (2 : Int32)), (.int (1 : Int32))]))
  refine OEnds.st (fun _ k => XS.icmpNo X1002.here hx rfl (hb hby d6_7) rfl (tlt (by decide : (1 : Int32) < (2 : Int32))).2.1 k) ?_
  show OEnds p.tables e below G (T1002.setTop (mkF m 10 #[.val (.ref a1), .val (.int (1 : Int32)), .val (.ref a3), .val (.int (1 : Int32)), .val (.int (2 : Int32)), .val (.int (1 : Int32)), .val (.int c0)] []))
  refine OEnds.st (fun _ k => XS.aloadN X1002.here hx rfl (hb hby d6_10) rfl rfl k) ?_
  show OEnds p.tables e below G (T1002.setTop (mkF m 11 #[.val (.ref a1), .val (.int (1 : Int32)), .val (.ref a3), .val (.int (1 : Int32)), .val (.int (2 : Int32)), .val (.int (1 : Int32)), .val (.int c0)] [(.ref a1)]))
  refine OEnds.st (fun _ k => XS.iloadN X1002.here hx rfl (hb hby d6_11) rfl k) ?_
  show OEnds p.tables e below G (T1002.setTop (mkF m 12 #[.val (.ref a1), .val (.int (1 : Int32)), .val (.ref a3), .val (.int (1 : Int32)), .val (.int (2 : Int32)), .val (.int (1 : Int32)), .val (.int c0)] [(.int (1 : Int32)), (.ref a1)]))
  obtain ⟨cl1005, Ar1005, q1005, S1005, N1005n, H1005, G1005⟩ := id f1004
  have hin1005 : ¬ ((1 : Int32) < 0 ∨ cl1005.slots.size ≤ ((1 : Int32)).toNatClampNeg) := inb_of S1005 ⟨by decide, by decide⟩
  have hat1005 : cl1005.slots[((1 : Int32)).toNatClampNeg]? = some (.int c1) := H1005.at hin1005 rfl
  refine OEnds.st (X1002.caload hx (j := (1 : Int32)) (v := (.int c1)) (by rw [e1002]; exact Ar1005.1) (State.isArrayOf_alike hZ.alike Ar1005.2.1) Ar1005.2.2 hin1005 hat1005 (g := (mkF m 12 #[.val (.ref a1), .val (.int (1 : Int32)), .val (.ref a3), .val (.int (1 : Int32)), .val (.int (2 : Int32)), .val (.int (1 : Int32)), .val (.int c0)] [(.int (1 : Int32)), (.ref a1)])) rfl rfl (hb hby d6_12)) ?_
  show OEnds p.tables e below G (T1002.setTop (mkF m 13 #[.val (.ref a1), .val (.int (1 : Int32)), .val (.ref a3), .val (.int (1 : Int32)), .val (.int (2 : Int32)), .val (.int (1 : Int32)), .val (.int c0)] [(.int c1)]))
  refine OEnds.st (fun _ k => XS.istore X1002.here hx rfl (hb hby d6_13) rfl (l' := #[.val (.ref a1), .val (.int (1 : Int32)), .val (.ref a3), .val (.int (1 : Int32)), .val (.int (2 : Int32)), .val (.int (1 : Int32)), .val (.int c1)]) rfl k) ?_
  show OEnds p.tables e below G (T1002.setTop (mkF m 15 #[.val (.ref a1), .val (.int (1 : Int32)), .val (.ref a3), .val (.int (1 : Int32)), .val (.int (2 : Int32)), .val (.int (1 : Int32)), .val (.int c1)] []))
  refine OEnds.st (fun _ k => XS.iload X1002.here hx rfl (hb hby d6_15) rfl k) ?_
  show OEnds p.tables e below G (T1002.setTop (mkF m 17 #[.val (.ref a1), .val (.int (1 : Int32)), .val (.ref a3), .val (.int (1 : Int32)), .val (.int (2 : Int32)), .val (.int (1 : Int32)), .val (.int c1)] [(.int c1)]))
  refine OEnds.st (fun _ k => XS.sipush X1002.here hx rfl (hb hby d6_17) k) ?_
  show OEnds p.tables e below G (T1002.setTop (mkF m 20 #[.val (.ref a1), .val (.int (1 : Int32)), .val (.ref a3), .val (.int (1 : Int32)), .val (.int (2 : Int32)), .val (.int (1 : Int32)), .val (.int c1)] [(.int (255 : Int32)), (.int c1)]))
  refine OEnds.st (fun _ k => XS.icmpYes X1002.here hx rfl (pc0 := 20) (pc' := 26) rfl (hb hby d6_20) rfl (flt hc1).2.2.2 (by decide) (by decide) k) ?_
  show OEnds p.tables e below G (T1002.setTop (mkF m 26 #[.val (.ref a1), .val (.int (1 : Int32)), .val (.ref a3), .val (.int (1 : Int32)), .val (.int (2 : Int32)), .val (.int (1 : Int32)), .val (.int c1)] []))
  refine OEnds.st (fun _ k => XS.aloadN X1002.here hx rfl (hb hby d6_26) rfl rfl k) ?_
  show OEnds p.tables e below G (T1002.setTop (mkF m 27 #[.val (.ref a1), .val (.int (1 : Int32)), .val (.ref a3), .val (.int (1 : Int32)), .val (.int (2 : Int32)), .val (.int (1 : Int32)), .val (.int c1)] [(.ref a3)]))
  refine OEnds.st (fun _ k => XS.iloadN X1002.here hx rfl (hb hby d6_27) rfl k) ?_
  show OEnds p.tables e below G (T1002.setTop (mkF m 28 #[.val (.ref a1), .val (.int (1 : Int32)), .val (.ref a3), .val (.int (1 : Int32)), .val (.int (2 : Int32)), .val (.int (1 : Int32)), .val (.int c1)] [(.int (1 : Int32)), (.ref a3)]))
  refine OEnds.st (fun _ k => XS.iload X1002.here hx rfl (hb hby d6_28) rfl k) ?_
  show OEnds p.tables e below G (T1002.setTop (mkF m 30 #[.val (.ref a1), .val (.int (1 : Int32)), .val (.ref a3), .val (.int (1 : Int32)), .val (.int (2 : Int32)), .val (.int (1 : Int32)), .val (.int c1)] [(.int c1), (.int (1 : Int32)), (.ref a3)]))
  refine OEnds.st (fun _ k => XS.i2b X1002.here hx rfl (hb hby d6_30) rfl k) ?_
  show OEnds p.tables e below G (T1002.setTop (mkF m 31 #[.val (.ref a1), .val (.int (1 : Int32)), .val (.ref a3), .val (.int (1 : Int32)), .val (.int (2 : Int32)), .val (.int (1 : Int32)), .val (.int c1)] [(.int (c1.toInt8.toInt32)), (.int (1 : Int32)), (.ref a3)]))
  obtain ⟨cl1006, Ar1006, q1006, S1006, N1006n, H1006, G1006⟩ := id f1003
  have hin1006 : ¬ ((1 : Int32) < 0 ∨ cl1006.slots.size ≤ ((1 : Int32)).toNatClampNeg) := inb_of S1006 ⟨by decide, by decide⟩
  obtain ⟨T1006, h1006, X1006, e1006, W1006, st1006⟩ := stB X1002 hx hZ e1002 Ar1006 (j := (1 : Int32)) hin1006 (g := (mkF m 31 #[.val (.ref a1), .val (.int (1 : Int32)), .val (.ref a3), .val (.int (1 : Int32)), .val (.int (2 : Int32)), .val (.int (1 : Int32)), .val (.int c1)] [(.int (c1.toInt8.toInt32)), (.int (1 : Int32)), (.ref a3)])) rfl rfl (hb hby d6_31)
  refine OEnds.st st1006 ?_
  clear st1006
  rw [own_b8] at W1006
  have f1007 : Arv Z h1006 a3 k3 .byte (2 : Int32) [(.int (c0.toInt8.toInt32)), (.int (c1.toInt8.toInt32))] (.int (0 : Int32)) := Arv.set Ar1006 q1006 S1006 N1006n H1006 G1006 (fits_nar_byte _) W1006 1 rfl (Nat.le_of_ble_eq_true rfl)
  have f1008 : Arv Z h1006 a1 k1 .char (2 : Int32) [(.int c0), (.int c1)] (.int (0 : Int32)) := f1004.other W1006 n13
  have N1006 := Fr.snoc X1006 N1002 g_a3
  have KK1006 : Keep h0 h1006 [a3] := KK1002.wr W1006 (Or.inl (List.mem_of_getElem? (i := 0) rfl))
  have Z1006 := Nat.le_trans Z1002 (Keep.of_wr W1006).1
  show OEnds p.tables e below G (T1006.setTop (mkF m 32 #[.val (.ref a1), .val (.int (1 : Int32)), .val (.ref a3), .val (.int (1 : Int32)), .val (.int (2 : Int32)), .val (.int (1 : Int32)), .val (.int c1)] []))
  refine OEnds.st (fun _ k => XS.iinc X1006.here hx rfl (hb hby d6_32) rfl (l' := #[.val (.ref a1), .val (.int ((1 : Int32) + (1 : Int32))), .val (.ref a3), .val (.int (1 : Int32)), .val (.int (2 : Int32)), .val (.int (1 : Int32)), .val (.int c1)]) rfl k) ?_
  show OEnds p.tables e below G (T1006.setTop (mkF m 35 #[.val (.ref a1), .val (.int ((1 : Int32) + (1 : Int32))), .val (.ref a3), .val (.int (1 : Int32)), .val (.int (2 : Int32)), .val (.int (1 : Int32)), .val (.int c1)] []))
  rw [show ((1 : Int32) + (1 : Int32)) = (2 : Int32) from by decide]
  show OEnds p.tables e below G (T1006.setTop (mkF m 35 #[.val (.ref a1), .val (.int (2 : Int32)), .val (.ref a3), .val (.int (1 : Int32)), .val (.int (2 : Int32)), .val (.int (1 : Int32)), .val (.int c1)] []))
  refine OEnds.st (fun _ k => XS.iinc X1006.here hx rfl (hb hby d6_35) rfl (l' := #[.val (.ref a1), .val (.int (2 : Int32)), .val (.ref a3), .val (.int ((1 : Int32) + (1 : Int32))), .val (.int (2 : Int32)), .val (.int (1 : Int32)), .val (.int c1)]) rfl k) ?_
  show OEnds p.tables e below G (T1006.setTop (mkF m 38 #[.val (.ref a1), .val (.int (2 : Int32)), .val (.ref a3), .val (.int ((1 : Int32) + (1 : Int32))), .val (.int (2 : Int32)), .val (.int (1 : Int32)), .val (.int c1)] []))
  rw [show ((1 : Int32) + (1 : Int32)) = (2 : Int32) from by decide]
  show OEnds p.tables e below G (T1006.setTop (mkF m 38 #[.val (.ref a1), .val (.int (2 : Int32)), .val (.ref a3), .val (.int (2 : Int32)), .val (.int (2 : Int32)), .val (.int (1 : Int32)), .val (.int c1)] []))
  refine OEnds.st (fun _ k => XS.iinc X1006.here hx rfl (hb hby d6_38) rfl (l' := #[.val (.ref a1), .val (.int (2 : Int32)), .val (.ref a3), .val (.int (2 : Int32)), .val (.int (2 : Int32)), .val (.int ((1 : Int32) + (1 : Int32))), .val (.int c1)]) rfl k) ?_
  show OEnds p.tables e below G (T1006.setTop (mkF m 41 #[.val (.ref a1), .val (.int (2 : Int32)), .val (.ref a3), .val (.int (2 : Int32)), .val (.int (2 : Int32)), .val (.int ((1 : Int32) + (1 : Int32))), .val (.int c1)] []))
  rw [show ((1 : Int32) + (1 : Int32)) = (2 : Int32) from by decide]
  show OEnds p.tables e below G (T1006.setTop (mkF m 41 #[.val (.ref a1), .val (.int (2 : Int32)), .val (.ref a3), .val (.int (2 : Int32)), .val (.int (2 : Int32)), .val (.int (2 : Int32)), .val (.int c1)] []))
  refine OEnds.st (fun _ k => XS.goto X1006.here hx rfl (pc0 := 41) (pc' := 3) rfl (hb hby d6_41) (by decide) (by decide) k) ?_
  show OEnds p.tables e below G (T1006.setTop (mkF m 3 #[.val (.ref a1), .val (.int (2 : Int32)), .val (.ref a3), .val (.int (2 : Int32)), .val (.int (2 : Int32)), .val (.int (2 : Int32)), .val (.int c1)] []))
  refine OEnds.st (fun _ k => XS.iload X1006.here hx rfl (hb hby d6_3) rfl k) ?_
  show OEnds p.tables e below G (T1006.setTop (mkF m 5 #[.val (.ref a1), .val (.int (2 : Int32)), .val (.ref a3), .val (.int (2 : Int32)), .val (.int (2 : Int32)), .val (.int (2 : Int32)), .val (.int c1)] [(.int (2 : Int32))]))
  refine OEnds.st (fun _ k => XS.iload X1006.here hx rfl (hb hby d6_5) rfl k) ?_
  show OEnds p.tables e below G (T1006.setTop (mkF m 7 #[.val (.ref a1), .val (.int (2 : Int32)), .val (.ref a3), .val (.int (2 : Int32)), .val (.int (2 : Int32)), .val (.int (2 : Int32)), .val (.int c1)] [(.int (2 : Int32)), (.int (2 : Int32))]))
  refine OEnds.st (fun _ k => XS.icmpYes X1006.here hx rfl (pc0 := 7) (pc' := 44) rfl (hb hby d6_7) rfl (flt (by decide : ¬ ((2 : Int32) < (2 : Int32)))).2.1 (by decide) (by decide) k) ?_
  show OEnds p.tables e below G (T1006.setTop (mkF m 44 #[.val (.ref a1), .val (.int (2 : Int32)), .val (.ref a3), .val (.int (2 : Int32)), .val (.int (2 : Int32)), .val (.int (2 : Int32)), .val (.int c1)] []))
  refine OEnds.st (fun _ k => XS.iload X1006.here hx rfl (hb hby d6_44) rfl k) ?_
  show OEnds p.tables e below G (T1006.setTop (mkF m 46 #[.val (.ref a1), .val (.int (2 : Int32)), .val (.ref a3), .val (.int (2 : Int32)), .val (.int (2 : Int32)), .val (.int (2 : Int32)), .val (.int c1)] [(.int (2 : Int32))]))
  rw [← hG]
  refine OEnds.retI X1006 hx hlk Bd.returns (hb hby d6_46) (by decide) (by decide) ?_
  rw [e1006]
  exact ⟨rfl, N1006, KK1006, f1007⟩
theorem ef_5 (m : MethodId) (a1 : Addr) : entryFrame m #[(.ref a1), (.int (0 : Int32)), (.int (2 : Int32))] 6 = mkF m 0 #[.val (.ref a1), .val (.int (0 : Int32)), .val (.int (2 : Int32)), .unset, .unset, .unset] [] := by first | (simp [entryFrame, mkF, argsToLocals, Value.category]; done) | rfl
def Q5 (Z : State) (a1 : Addr) (k1 : ClassId) (c0 : Int32) (c1 : Int32) (h0 : Heap) (n0 : Nat) (v : Option Value) (h : Heap) (L : List Loc) : Prop := ∃ (b : Addr) (kb : ClassId), v = some (.ref b) ∧ Fr n0 L ∧ Keep h0 h [] ∧ h0.size ≤ b ∧ Arv Z h b kb .byte (2 : Int32) [(.int (c0.toInt8.toInt32)), (.int (c1.toInt8.toInt32))] (.int (0 : Int32))
theorem pd_0 : parseMethodDescriptor "([CI[BII)I" = some ⟨[(.array .char), .int, (.array .byte), .int, .int], some .int⟩ := by decide +kernel
theorem d5_0 : decode jdk_52_method_16_code 0 = .ok (.iload_n 2, 1) := by decide +kernel
theorem d5_1 : decode jdk_52_method_16_code 1 = .ok (.newarray .byte, 2) := by decide +kernel
theorem d5_3 : decode jdk_52_method_16_code 3 = .ok (.astore_n 3, 1) := by decide +kernel
theorem d5_4 : decode jdk_52_method_16_code 4 = .ok (.aload_n 0, 1) := by decide +kernel
theorem d5_5 : decode jdk_52_method_16_code 5 = .ok (.iload_n 1, 1) := by decide +kernel
theorem d5_6 : decode jdk_52_method_16_code 6 = .ok (.aload_n 3, 1) := by decide +kernel
theorem d5_7 : decode jdk_52_method_16_code 7 = .ok (.iconst 0, 1) := by decide +kernel
theorem d5_8 : decode jdk_52_method_16_code 8 = .ok (.iload_n 2, 1) := by decide +kernel
theorem d5_9 : decode jdk_52_method_16_code 9 = .ok (.invokestatic 115, 3) := by decide +kernel
theorem d5_12 : decode jdk_52_method_16_code 12 = .ok (.istore 4, 2) := by decide +kernel
theorem d5_14 : decode jdk_52_method_16_code 14 = .ok (.iload 4, 2) := by decide +kernel
theorem d5_16 : decode jdk_52_method_16_code 16 = .ok (.iload_n 2, 1) := by decide +kernel
theorem d5_17 : decode jdk_52_method_16_code 17 = .ok (.if_icmp .eq 40, 3) := by decide +kernel
theorem d5_57 : decode jdk_52_method_16_code 57 = .ok (.aload_n 3, 1) := by decide +kernel
theorem d5_58 : decode jdk_52_method_16_code 58 = .ok (.areturn, 1) := by decide +kernel
set_option maxRecDepth 65536 in
set_option maxHeartbeats 40000000 in
theorem rm5 (l : Launch) (Z : State) (a0 : Array Value) (hw : ∀ d ∈ tables_1, d.before a0 Z = true) (ws : List Jvm.Cond) (a1 : Addr) (k1 : ClassId) (c0 : Int32) (c1 : Int32) (h0 : Heap) (n0 : Nat) (Z0 : n0 ≤ h0.size) (V1 : Arv Z h0 a1 k1 .char (2 : Int32) [(.int c0), (.int c1)] (.int (0 : Int32))) (hc0 : ¬ ((255 : Int32) < c0)) (hc1 : ¬ ((255 : Int32) < c1)) :
    MetFree l (⟨"java/lang/StringUTF16", "compress", "([CII)[B"⟩ : MethodName) (head1 (Jvm.Cond.code (⟨"java/lang/StringUTF16", "compress", "([CII)[B"⟩ : MethodName) jdk_52_method_16_code 6 (some (.array .byte)) :: ws) ({ frames := 1, cells := 1, slots := 2, locals := 18 } : Room)) (fun a U => a = #[(.ref a1), (.int (0 : Int32)), (.int (2 : Int32))] ∧ Z.Warmed39 U.vm ∧ U.heap = h0) (fun _ _ _ _ _ => True) (fun _ U o U' => ∃ v L, o = .returned v ∧ Q5 Z a1 k1 c0 c1 h0 n0 v U'.heap L ∧ FrameEnd U o U' L ({ frames := 1, cells := 1, slots := 2, locals := 18 } : Room).cells ({ frames := 1, cells := 1, slots := 2, locals := 18 } : Room).slots) := by
  refine MetFree.of_bodySF (plainFor_of_name pn_0) hisR ?_
  intro p e s m args below meth c s₁ Bd hml0 hP hK
  obtain ⟨rfl, hZ, hh⟩ := hP
  have hx := Bd.exec
  have hby := Bd.bytes
  have hml : c.maxLocals = 6 := hml0
  have hown : s.vm.findClass "java/lang/StringUTF16" = some m.cls := findClass_of_methodNamed Bd.named
  have hnm := (name_of_methodNamed Bd.named Bd.method).1
  have hlk : meth.locks = false := BodyLoose.notSynchronized Bd
  have X0 : Stand p l e ({ frames := 1, cells := 1, slots := 2, locals := 18 } : Room) s m #[(.ref a1), (.int (0 : Int32)), (.int (2 : Int32))] below meth c s₁ [] 0 0 := Stand.of_body Bd
  have e0 : s₁.heap = h0 := by rw [← hh, Bd.state]; rfl
  have N0 := Fr.nil n0
  show OEnds p.tables e below (OGoal (Q5 Z a1 k1 c0 c1 h0 n0) s 1 2) (s₁.setTop (entryFrame m #[(.ref a1), (.int (0 : Int32)), (.int (2 : Int32))] 6))
  refine OEnds.st (fun t k => castTop (ef_5 m a1) k) ?_
  generalize hG : OGoal (Q5 Z a1 k1 c0 c1 h0 n0) s 1 2 = G
  have KK0 : Keep h0 h0 [] := Keep.refl h0 []
  show OEnds p.tables e below G (s₁.setTop (mkF m 0 #[.val (.ref a1), .val (.int (0 : Int32)), .val (.int (2 : Int32)), .unset, .unset, .unset] []))
  refine OEnds.st (fun _ k => XS.iloadN X0.here hx rfl (hb hby d5_0) rfl k) ?_
  show OEnds p.tables e below G (s₁.setTop (mkF m 1 #[.val (.ref a1), .val (.int (0 : Int32)), .val (.int (2 : Int32)), .unset, .unset, .unset] [(.int (2 : Int32))]))
  obtain ⟨T1001, h1001, k1001, X1001, e1001, E1001, A1001, st1001⟩ := newP X0 hx hZ (hw _ (List.mem_of_getElem? (i := 27) rfl)) e0 (g := (mkF m 1 #[.val (.ref a1), .val (.int (0 : Int32)), .val (.int (2 : Int32)), .unset, .unset, .unset] [(.int (2 : Int32))])) rfl (hb hby d5_1) rfl (by decide) (cap := 2) (by decide) (by decide) (by decide) (by decide)
  obtain ⟨b1001, g1001⟩ : ∃ z, z = h0.size := ⟨_, rfl⟩
  rw [← g1001] at A1001 st1001
  refine OEnds.st st1001 ?_
  clear st1001
  have ne1002 : a1 ≠ b1001 := Nat.ne_of_lt (Nat.lt_of_lt_of_le (V1).lt (Nat.le_of_eq g1001.symm))
  have ge_b1001 : n0 ≤ b1001 := Nat.le_trans Z0 (Nat.le_of_eq g1001.symm)
  have sz_b1001 : h0.size ≤ b1001 := Nat.le_trans KK0.1 (Nat.le_of_eq g1001.symm)
  have f1003 : Arv Z h1001 a1 k1 .char (2 : Int32) [(.int c0), (.int c1)] (.int (0 : Int32)) := V1.ext E1001
  have KK1001 : Keep h0 h1001 [] := KK0.ext E1001
  have Z1001 := Nat.le_trans Z0 E1001.1
  have f1004 : Arv Z h1001 b1001 k1001 .byte (2 : Int32) [(.int (0 : Int32)), (.int (0 : Int32))] (.int (0 : Int32)) := (Arv.new A1001 (by decide)).pad (pad_rep [] (.int (0 : Int32)) 2)
  show OEnds p.tables e below G (T1001.setTop (mkF m 3 #[.val (.ref a1), .val (.int (0 : Int32)), .val (.int (2 : Int32)), .unset, .unset, .unset] [(.ref b1001)]))
  refine OEnds.st (fun _ k => XS.astoreN X1001.here hx rfl (hb hby d5_3) rfl rfl (l' := #[.val (.ref a1), .val (.int (0 : Int32)), .val (.int (2 : Int32)), .val (.ref b1001), .unset, .unset]) rfl k) ?_
  show OEnds p.tables e below G (T1001.setTop (mkF m 4 #[.val (.ref a1), .val (.int (0 : Int32)), .val (.int (2 : Int32)), .val (.ref b1001), .unset, .unset] []))
  refine OEnds.st (fun _ k => XS.aloadN X1001.here hx rfl (hb hby d5_4) rfl rfl k) ?_
  show OEnds p.tables e below G (T1001.setTop (mkF m 5 #[.val (.ref a1), .val (.int (0 : Int32)), .val (.int (2 : Int32)), .val (.ref b1001), .unset, .unset] [(.ref a1)]))
  refine OEnds.st (fun _ k => XS.iloadN X1001.here hx rfl (hb hby d5_5) rfl k) ?_
  show OEnds p.tables e below G (T1001.setTop (mkF m 6 #[.val (.ref a1), .val (.int (0 : Int32)), .val (.int (2 : Int32)), .val (.ref b1001), .unset, .unset] [(.int (0 : Int32)), (.ref a1)]))
  refine OEnds.st (fun _ k => XS.aloadN X1001.here hx rfl (hb hby d5_6) rfl rfl k) ?_
  show OEnds p.tables e below G (T1001.setTop (mkF m 7 #[.val (.ref a1), .val (.int (0 : Int32)), .val (.int (2 : Int32)), .val (.ref b1001), .unset, .unset] [(.ref b1001), (.int (0 : Int32)), (.ref a1)]))
  refine OEnds.st (fun _ k => XS.iconst X1001.here hx rfl (hb hby d5_7) k) ?_
  show OEnds p.tables e below G (T1001.setTop (mkF m 8 #[.val (.ref a1), .val (.int (0 : Int32)), .val (.int (2 : Int32)), .val (.ref b1001), .unset, .unset] [(.int (0 : Int32)), (.ref b1001), (.int (0 : Int32)), (.ref a1)]))
  refine OEnds.st (fun _ k => XS.iloadN X1001.here hx rfl (hb hby d5_8) rfl k) ?_
  show OEnds p.tables e below G (T1001.setTop (mkF m 9 #[.val (.ref a1), .val (.int (0 : Int32)), .val (.int (2 : Int32)), .val (.ref b1001), .unset, .unset] [(.int (2 : Int32)), (.int (0 : Int32)), (.ref b1001), (.int (0 : Int32)), (.ref a1)]))
  obtain ⟨_, _, ⟨T1005, L1005, k1005c, n1005c⟩, -, X1005, ⟨Lc1005, hQ1005, l1005, y1005, z1005⟩, st1005⟩ := Jvm.LawKit.callS X1001 hx (y := (⟨"java/lang/StringUTF16", "compress", "([CI[BII)I"⟩ : MethodName)) hown (mvT hZ (hw _ (List.mem_of_getElem? (i := 28) rfl))) (mvT hZ (hw _ (List.mem_of_getElem? (i := 29) rfl))) (mvT hZ (hw _ (List.mem_of_getElem? (i := 25) rfl))) (mvT hZ (hw _ (List.mem_of_getElem? (i := 30) rfl))) (by decide) (backOf (W := 0) (rm6 l Z a0 hw [] a1 b1001 k1 k1001 c0 c1 h1001 n0 Z1001 f1003 f1004 ge_b1001 ne1002 hc0 hc1) hZ (hw _ (List.mem_of_getElem? (i := 30) rfl)) (hw _ (List.mem_of_getElem? (i := 25) rfl)) (by decide) (by decide)) (g := (mkF m 9 #[.val (.ref a1), .val (.int (0 : Int32)), .val (.int (2 : Int32)), .val (.ref b1001), .unset, .unset] [(.int (2 : Int32)), (.int (0 : Int32)), (.ref b1001), (.int (0 : Int32)), (.ref a1)])) rfl (by rw [hml]; rfl) (argsL := [(.ref a1), (.int (0 : Int32)), (.ref b1001), (.int (0 : Int32)), (.int (2 : Int32))]) (rest := []) (lenOf pd_0 rfl) rfl (by show 2 * 0 + _ ≤ _; exact Nat.le_of_eq rfl) (hb hby d5_9) (fun _ _ => ⟨rfl, e1001, (by decide : 0 + 1 + 0 ≤ _), (by decide : 0 + 2 + 0 ≤ _)⟩)
  dsimp only [Pt.U, Pt.locs, Pt.cells, Pt.slots] at X1005 l1005 y1005 z1005 st1005 hQ1005
  subst l1005 y1005 z1005
  obtain ⟨rfl, N1005q, p1006, p1007⟩ := hQ1005
  have N1005 := Fr.app N0 N1005q
  refine OEnds.st st1005 ?_
  clear st1005
  have f1008 : Arv Z T1005.heap a1 k1 .char (2 : Int32) [(.int c0), (.int c1)] (.int (0 : Int32)) := f1003.keep p1006 (by simp only [List.mem_cons, List.not_mem_nil, or_false, not_or]; exact ne1002)
  have KK1005 : Keep h0 T1005.heap [] := KK1001.trans p1006 (fun x hx => by cases List.mem_singleton.mp hx; exact Or.inr sz_b1001)
  have Z1005 := Nat.le_trans Z1001 p1006.1
  show OEnds p.tables e below G (T1005.setTop (mkF m 12 #[.val (.ref a1), .val (.int (0 : Int32)), .val (.int (2 : Int32)), .val (.ref b1001), .unset, .unset] [(.int (2 : Int32))]))
  refine OEnds.st (fun _ k => XS.istore X1005.here hx rfl (hb hby d5_12) rfl (l' := #[.val (.ref a1), .val (.int (0 : Int32)), .val (.int (2 : Int32)), .val (.ref b1001), .val (.int (2 : Int32)), .unset]) rfl k) ?_
  show OEnds p.tables e below G (T1005.setTop (mkF m 14 #[.val (.ref a1), .val (.int (0 : Int32)), .val (.int (2 : Int32)), .val (.ref b1001), .val (.int (2 : Int32)), .unset] []))
  refine OEnds.st (fun _ k => XS.iload X1005.here hx rfl (hb hby d5_14) rfl k) ?_
  show OEnds p.tables e below G (T1005.setTop (mkF m 16 #[.val (.ref a1), .val (.int (0 : Int32)), .val (.int (2 : Int32)), .val (.ref b1001), .val (.int (2 : Int32)), .unset] [(.int (2 : Int32))]))
  refine OEnds.st (fun _ k => XS.iloadN X1005.here hx rfl (hb hby d5_16) rfl k) ?_
  show OEnds p.tables e below G (T1005.setTop (mkF m 17 #[.val (.ref a1), .val (.int (0 : Int32)), .val (.int (2 : Int32)), .val (.ref b1001), .val (.int (2 : Int32)), .unset] [(.int (2 : Int32)), (.int (2 : Int32))]))
  refine OEnds.st (fun _ k => XS.icmpYes X1005.here hx rfl (pc0 := 17) (pc' := 57) rfl (hb hby d5_17) rfl (teq (by decide : (2 : Int32) = (2 : Int32))).1 (by decide) (by decide) k) ?_
  show OEnds p.tables e below G (T1005.setTop (mkF m 57 #[.val (.ref a1), .val (.int (0 : Int32)), .val (.int (2 : Int32)), .val (.ref b1001), .val (.int (2 : Int32)), .unset] []))
  refine OEnds.st (fun _ k => XS.aloadN X1005.here hx rfl (hb hby d5_57) rfl rfl k) ?_
  show OEnds p.tables e below G (T1005.setTop (mkF m 58 #[.val (.ref a1), .val (.int (0 : Int32)), .val (.int (2 : Int32)), .val (.ref b1001), .val (.int (2 : Int32)), .unset] [(.ref b1001)]))
  rw [← hG]
  refine OEnds.retA X1005 hx hlk Bd.returns (by first | rfl | exact rfl) rfl (hb hby d5_58) (by decide) (by decide) ?_
  show _
  exact ⟨b1001, k1001, rfl, N1005, KK1005, sz_b1001, p1007⟩
theorem ef_7 (m : MethodId) (a1 : Addr) : entryFrame m #[(.ref a1), (.int (2 : Int32))] 2 = mkF m 0 #[.val (.ref a1), .val (.int (2 : Int32))] [] := by first | (simp [entryFrame, mkF, argsToLocals, Value.category]; done) | rfl
def Q7 (Z : State) (a1 : Addr) (k : ClassId) (vs : List Value) (d : Value) (h0 : Heap) (n0 : Nat) (v : Option Value) (h : Heap) (L : List Loc) : Prop := v = some (.int (0 : Int32)) ∧ Fr n0 L ∧ h = h0
theorem d7_0 : decode jdk_52_method_15_code 0 = .ok (.iload_n 1, 1) := by decide +kernel
theorem d7_1 : decode jdk_52_method_15_code 1 = .ok (.aload_n 0, 1) := by decide +kernel
theorem d7_2 : decode jdk_52_method_15_code 2 = .ok (.arraylength, 1) := by decide +kernel
theorem d7_3 : decode jdk_52_method_15_code 3 = .ok (.isub, 1) := by decide +kernel
theorem d7_4 : decode jdk_52_method_15_code 4 = .ok (.bipush 31, 2) := by decide +kernel
theorem d7_6 : decode jdk_52_method_15_code 6 = .ok (.iushr, 1) := by decide +kernel
theorem d7_7 : decode jdk_52_method_15_code 7 = .ok (.i2b, 1) := by decide +kernel
theorem d7_8 : decode jdk_52_method_15_code 8 = .ok (.ireturn, 1) := by decide +kernel
set_option maxRecDepth 65536 in
set_option maxHeartbeats 40000000 in
theorem rm7 (l : Launch) (Z : State) (a0 : Array Value) (hw : ∀ d ∈ tables_1, d.before a0 Z = true) (ws : List Jvm.Cond) (a1 : Addr) (k : ClassId) (vs : List Value) (d : Value) (h0 : Heap) (n0 : Nat) (Z0 : n0 ≤ h0.size) (V : Arv Z h0 a1 k .byte (2 : Int32) vs d) :
    MetFree l (⟨"java/lang/StringUTF16", "coderFromArrayLen", "([BI)B"⟩ : MethodName) (head1 (Jvm.Cond.code (⟨"java/lang/StringUTF16", "coderFromArrayLen", "([BI)B"⟩ : MethodName) jdk_52_method_15_code 2 (some .byte) :: ws) ({ frames := 0, cells := 0, slots := 0, locals := 0 } : Room)) (fun a U => a = #[(.ref a1), (.int (2 : Int32))] ∧ Z.Warmed39 U.vm ∧ U.heap = h0) (fun _ _ _ _ _ => True) (fun _ U o U' => ∃ v L, o = .returned v ∧ Q7 Z a1 k vs d h0 n0 v U'.heap L ∧ FrameEnd U o U' L ({ frames := 0, cells := 0, slots := 0, locals := 0 } : Room).cells ({ frames := 0, cells := 0, slots := 0, locals := 0 } : Room).slots) := by
  refine MetFree.of_bodySF (plainFor_of_name pn_0) hisR ?_
  intro p e s m args below meth c s₁ Bd hml0 hP hK
  obtain ⟨rfl, hZ, hh⟩ := hP
  have hx := Bd.exec
  have hby := Bd.bytes
  have hml : c.maxLocals = 2 := hml0
  have hown : s.vm.findClass "java/lang/StringUTF16" = some m.cls := findClass_of_methodNamed Bd.named
  have hnm := (name_of_methodNamed Bd.named Bd.method).1
  have hlk : meth.locks = false := BodyLoose.notSynchronized Bd
  have X0 : Stand p l e ({ frames := 0, cells := 0, slots := 0, locals := 0 } : Room) s m #[(.ref a1), (.int (2 : Int32))] below meth c s₁ [] 0 0 := Stand.of_body Bd
  have e0 : s₁.heap = h0 := by rw [← hh, Bd.state]; rfl
  have N0 := Fr.nil n0
  show OEnds p.tables e below (OGoal (Q7 Z a1 k vs d h0 n0) s 0 0) (s₁.setTop (entryFrame m #[(.ref a1), (.int (2 : Int32))] 2))
  refine OEnds.st (fun t k => castTop (ef_7 m a1) k) ?_
  generalize hG : OGoal (Q7 Z a1 k vs d h0 n0) s 0 0 = G
  have KK0 : Keep h0 h0 [] := Keep.refl h0 []
  show OEnds p.tables e below G (s₁.setTop (mkF m 0 #[.val (.ref a1), .val (.int (2 : Int32))] []))
  refine OEnds.st (fun _ k => XS.iloadN X0.here hx rfl (hb hby d7_0) rfl k) ?_
  show OEnds p.tables e below G (s₁.setTop (mkF m 1 #[.val (.ref a1), .val (.int (2 : Int32))] [(.int (2 : Int32))]))
  refine OEnds.st (fun _ k => XS.aloadN X0.here hx rfl (hb hby d7_1) rfl rfl k) ?_
  show OEnds p.tables e below G (s₁.setTop (mkF m 2 #[.val (.ref a1), .val (.int (2 : Int32))] [(.ref a1), (.int (2 : Int32))]))
  obtain ⟨cl1001, Ar1001, -, S1001, N1001n, -, -⟩ := id V
  refine OEnds.st (X0.arraylength hx (by rw [e0]; exact Ar1001.1) (State.isArrayOf_alike hZ.alike Ar1001.2.1) (g := (mkF m 2 #[.val (.ref a1), .val (.int (2 : Int32))] [(.ref a1), (.int (2 : Int32))])) rfl rfl (hb hby d7_2)) ?_
  rw [len_of S1001 N1001n]
  show OEnds p.tables e below G (s₁.setTop (mkF m 3 #[.val (.ref a1), .val (.int (2 : Int32))] [(.int (2 : Int32)), (.int (2 : Int32))]))
  refine OEnds.st (fun _ k => XS.isub X0.here hx rfl (hb hby d7_3) rfl k) ?_
  show OEnds p.tables e below G (s₁.setTop (mkF m 4 #[.val (.ref a1), .val (.int (2 : Int32))] [(.int ((2 : Int32) - (2 : Int32)))]))
  refine OEnds.st (fun _ k => XS.bipush X0.here hx rfl (hb hby d7_4) k) ?_
  show OEnds p.tables e below G (s₁.setTop (mkF m 6 #[.val (.ref a1), .val (.int (2 : Int32))] [(.int (31 : Int32)), (.int ((2 : Int32) - (2 : Int32)))]))
  refine OEnds.st (fun _ k => XS.iushr X0.here hx rfl (hb hby d7_6) rfl k) ?_
  show OEnds p.tables e below G (s₁.setTop (mkF m 7 #[.val (.ref a1), .val (.int (2 : Int32))] [(.int ((((2 : Int32) - (2 : Int32)).toUInt32 >>> ((31 : Int32) &&& 31).toUInt32).toInt32))]))
  refine OEnds.st (fun _ k => XS.i2b X0.here hx rfl (hb hby d7_7) rfl k) ?_
  show OEnds p.tables e below G (s₁.setTop (mkF m 8 #[.val (.ref a1), .val (.int (2 : Int32))] [(.int (((((2 : Int32) - (2 : Int32)).toUInt32 >>> ((31 : Int32) &&& 31).toUInt32).toInt32).toInt8.toInt32))]))
  rw [show (((((2 : Int32) - (2 : Int32)).toUInt32 >>> ((31 : Int32) &&& 31).toUInt32).toInt32).toInt8.toInt32) = (0 : Int32) from by decide]
  show OEnds p.tables e below G (s₁.setTop (mkF m 8 #[.val (.ref a1), .val (.int (2 : Int32))] [(.int (0 : Int32))]))
  rw [← hG]
  refine OEnds.retB X0 hx hlk Bd.returns (by decide) (hb hby d7_8) (by decide) (by decide) ?_
  rw [e0]
  exact ⟨rfl, N0, rfl⟩
theorem pn_1 : plainName "java/lang/String" = true := by first | (simp [plainName, overriddenIn]; done) | decide +kernel
theorem ef_3 (m : MethodId) (a1 : Addr) (a2 : Addr) : entryFrame m #[(.ref a1), (.ref a2), (.int (0 : Int32)), (.int (2 : Int32)), .null] 6 = mkF m 0 #[.val (.ref a1), .val (.ref a2), .val (.int (0 : Int32)), .val (.int (2 : Int32)), .val .null, .unset] [] := by first | (simp [entryFrame, mkF, argsToLocals, Value.category]; done) | rfl
def Q3 (Z : State) (a1 : Addr) (a2 : Addr) (w : Int32) (k2 : ClassId) (c0 : Int32) (c1 : Int32) (h0 : Heap) (n0 : Nat) (v : Option Value) (h : Heap) (L : List Loc) : Prop := v = none ∧ Fr n0 L ∧ Keep h0 h [a1] ∧ Exa Z h a1 "java/lang/String"
theorem pd_1 : parseMethodDescriptor "([CII)[B" = some ⟨[(.array .char), .int, .int], some (.array .byte)⟩ := by decide +kernel
theorem pd_2 : parseMethodDescriptor "([BI)B" = some ⟨[(.array .byte), .int], some .byte⟩ := by decide +kernel
theorem d3_0 : decode jdk_42_method_149_code 0 = .ok (.aload_n 0, 1) := by decide +kernel
theorem d3_1 : decode jdk_42_method_149_code 1 = .ok (.invokespecial 1, 3) := by decide +kernel
theorem d3_4 : decode jdk_42_method_149_code 4 = .ok (.iload_n 3, 1) := by decide +kernel
theorem d3_5 : decode jdk_42_method_149_code 5 = .ok (.ifCond .ne 22, 3) := by decide +kernel
theorem d3_27 : decode jdk_42_method_149_code 27 = .ok (.getstatic 38, 3) := by decide +kernel
theorem d3_30 : decode jdk_42_method_149_code 30 = .ok (.ifCond .eq 28, 3) := by decide +kernel
theorem d3_33 : decode jdk_42_method_149_code 33 = .ok (.aload_n 1, 1) := by decide +kernel
theorem d3_34 : decode jdk_42_method_149_code 34 = .ok (.iload_n 2, 1) := by decide +kernel
theorem d3_35 : decode jdk_42_method_149_code 35 = .ok (.iload_n 3, 1) := by decide +kernel
theorem d3_36 : decode jdk_42_method_149_code 36 = .ok (.invokestatic 177, 3) := by decide +kernel
theorem d3_39 : decode jdk_42_method_149_code 39 = .ok (.astore 5, 2) := by decide +kernel
theorem d3_41 : decode jdk_42_method_149_code 41 = .ok (.aload_n 0, 1) := by decide +kernel
theorem d3_42 : decode jdk_42_method_149_code 42 = .ok (.aload 5, 2) := by decide +kernel
theorem d3_44 : decode jdk_42_method_149_code 44 = .ok (.iload_n 3, 1) := by decide +kernel
theorem d3_45 : decode jdk_42_method_149_code 45 = .ok (.invokestatic 47, 3) := by decide +kernel
theorem d3_48 : decode jdk_42_method_149_code 48 = .ok (.putfield 15, 3) := by decide +kernel
theorem d3_51 : decode jdk_42_method_149_code 51 = .ok (.aload_n 0, 1) := by decide +kernel
theorem d3_52 : decode jdk_42_method_149_code 52 = .ok (.aload 5, 2) := by decide +kernel
theorem d3_54 : decode jdk_42_method_149_code 54 = .ok (.putfield 9, 3) := by decide +kernel
theorem d3_57 : decode jdk_42_method_149_code 57 = .ok (.return_, 1) := by decide +kernel
set_option maxRecDepth 65536 in
set_option maxHeartbeats 40000000 in
theorem rm3 (l : Launch) (Z : State) (a0 : Array Value) (hw : ∀ d ∈ tables_1, d.before a0 Z = true) (ws : List Jvm.Cond) (a1 : Addr) (a2 : Addr) (w : Int32) (k2 : ClassId) (c0 : Int32) (c1 : Int32) (h0 : Heap) (n0 : Nat) (Z0 : n0 ≤ h0.size) (E : Exa Z h0 a1 "java/lang/String") (Fv : Fld Z h0 a1 "java/lang/String" "value" "[B" .null) (Fc : Fld Z h0 a1 "java/lang/String" "coder" "B" (.int (0 : Int32))) (V2 : Arv Z h0 a2 k2 .char (2 : Int32) [(.int c0), (.int c1)] (.int (0 : Int32))) (Sc : Sta Z h0 "java/lang/String" "COMPACT_STRINGS" "Z" (.int w)) (g_a1 : n0 ≤ a1) (n21 : a2 ≠ a1) (hw0 : ¬ (w = (0 : Int32))) (hc0 : ¬ ((255 : Int32) < c0)) (hc1 : ¬ ((255 : Int32) < c1)) :
    MetFree l (⟨"java/lang/String", "<init>", "([CIILjava/lang/Void;)V"⟩ : MethodName) (head1 (Jvm.Cond.code (⟨"java/lang/String", "<init>", "([CIILjava/lang/Void;)V"⟩ : MethodName) jdk_42_method_149_code 6 none :: ws) ({ frames := 2, cells := 1, slots := 2, locals := 35 } : Room)) (fun a U => a = #[(.ref a1), (.ref a2), (.int (0 : Int32)), (.int (2 : Int32)), .null] ∧ Z.Warmed39 U.vm ∧ U.heap = h0) (fun _ _ _ _ _ => True) (fun _ U o U' => ∃ v L, o = .returned v ∧ Q3 Z a1 a2 w k2 c0 c1 h0 n0 v U'.heap L ∧ FrameEnd U o U' L ({ frames := 2, cells := 1, slots := 2, locals := 35 } : Room).cells ({ frames := 2, cells := 1, slots := 2, locals := 35 } : Room).slots) := by
  refine MetFree.of_bodySF (plainFor_of_name pn_1) hisR ?_
  intro p e s m args below meth c s₁ Bd hml0 hP hK
  obtain ⟨rfl, hZ, hh⟩ := hP
  have hx := Bd.exec
  have hby := Bd.bytes
  have hml : c.maxLocals = 6 := hml0
  have hown : s.vm.findClass "java/lang/String" = some m.cls := findClass_of_methodNamed Bd.named
  have hnm := (name_of_methodNamed Bd.named Bd.method).1
  have hlk : meth.locks = false := BodyLoose.notSynchronized Bd
  have X0 : Stand p l e ({ frames := 2, cells := 1, slots := 2, locals := 35 } : Room) s m #[(.ref a1), (.ref a2), (.int (0 : Int32)), (.int (2 : Int32)), .null] below meth c s₁ [] 0 0 := Stand.of_body Bd
  have e0 : s₁.heap = h0 := by rw [← hh, Bd.state]; rfl
  have N0 := Fr.nil n0
  show OEnds p.tables e below (OGoal (Q3 Z a1 a2 w k2 c0 c1 h0 n0) s 1 2) (s₁.setTop (entryFrame m #[(.ref a1), (.ref a2), (.int (0 : Int32)), (.int (2 : Int32)), .null] 6))
  refine OEnds.st (fun t k => castTop (ef_3 m a1 a2) k) ?_
  generalize hG : OGoal (Q3 Z a1 a2 w k2 c0 c1 h0 n0) s 1 2 = G
  have KK0 : Keep h0 h0 [a1] := Keep.refl h0 [a1]
  show OEnds p.tables e below G (s₁.setTop (mkF m 0 #[.val (.ref a1), .val (.ref a2), .val (.int (0 : Int32)), .val (.int (2 : Int32)), .val .null, .unset] []))
  refine OEnds.st (fun _ k => XS.aloadN X0.here hx rfl (hb hby d3_0) rfl rfl k) ?_
  show OEnds p.tables e below G (s₁.setTop (mkF m 1 #[.val (.ref a1), .val (.ref a2), .val (.int (0 : Int32)), .val (.int (2 : Int32)), .val .null, .unset] [(.ref a1)]))
  obtain ⟨T1001, X1001, e1001, st1001⟩ := initO X0 hx hZ hown (hw _ (List.mem_of_getElem? (i := 19) rfl)) (hw _ (List.mem_of_getElem? (i := 20) rfl)) (hw _ (List.mem_of_getElem? (i := 21) rfl)) e0 (g := (mkF m 1 #[.val (.ref a1), .val (.ref a2), .val (.int (0 : Int32)), .val (.int (2 : Int32)), .val .null, .unset] [(.ref a1)])) rfl (by rw [hml]; rfl) rfl (hb hby d3_1) (by decide) (W := 0) (by show 2 * 0 + _ ≤ _; exact Nat.le_of_eq rfl) (by decide)
  refine OEnds.st st1001 ?_
  clear st1001
  show OEnds p.tables e below G (T1001.setTop (mkF m 4 #[.val (.ref a1), .val (.ref a2), .val (.int (0 : Int32)), .val (.int (2 : Int32)), .val .null, .unset] []))
  refine OEnds.st (fun _ k => XS.iloadN X1001.here hx rfl (hb hby d3_4) rfl k) ?_
  show OEnds p.tables e below G (T1001.setTop (mkF m 5 #[.val (.ref a1), .val (.ref a2), .val (.int (0 : Int32)), .val (.int (2 : Int32)), .val .null, .unset] [(.int (2 : Int32))]))
  refine OEnds.st (fun _ k => XS.ifYes X1001.here hx rfl (pc0 := 5) (pc' := 27) rfl (hb hby d3_5) rfl ((if0 _ _).trans (feq (by decide : ¬ ((2 : Int32) = (0 : Int32)))).2) (by decide) (by decide) k) ?_
  show OEnds p.tables e below G (T1001.setTop (mkF m 27 #[.val (.ref a1), .val (.ref a2), .val (.int (0 : Int32)), .val (.int (2 : Int32)), .val .null, .unset] []))
  obtain ⟨T1002, X1002, e1002, st1002⟩ := getS2 X1001 hx hZ hown (host := "") (Or.inl (hw _ (List.mem_of_getElem? (i := 22) rfl))) Via.refl e1001 Sc (g := (mkF m 27 #[.val (.ref a1), .val (.ref a2), .val (.int (0 : Int32)), .val (.int (2 : Int32)), .val .null, .unset] [])) rfl (hb hby d3_27)
  refine OEnds.st st1002 ?_
  clear st1002
  show OEnds p.tables e below G (T1002.setTop (mkF m 30 #[.val (.ref a1), .val (.ref a2), .val (.int (0 : Int32)), .val (.int (2 : Int32)), .val .null, .unset] [(.int w)]))
  refine OEnds.st (fun _ k => XS.ifNo X1002.here hx rfl (hb hby d3_30) rfl ((if0 _ _).trans (feq hw0).1) k) ?_
  show OEnds p.tables e below G (T1002.setTop (mkF m 33 #[.val (.ref a1), .val (.ref a2), .val (.int (0 : Int32)), .val (.int (2 : Int32)), .val .null, .unset] []))
  refine OEnds.st (fun _ k => XS.aloadN X1002.here hx rfl (hb hby d3_33) rfl rfl k) ?_
  show OEnds p.tables e below G (T1002.setTop (mkF m 34 #[.val (.ref a1), .val (.ref a2), .val (.int (0 : Int32)), .val (.int (2 : Int32)), .val .null, .unset] [(.ref a2)]))
  refine OEnds.st (fun _ k => XS.iloadN X1002.here hx rfl (hb hby d3_34) rfl k) ?_
  show OEnds p.tables e below G (T1002.setTop (mkF m 35 #[.val (.ref a1), .val (.ref a2), .val (.int (0 : Int32)), .val (.int (2 : Int32)), .val .null, .unset] [(.int (0 : Int32)), (.ref a2)]))
  refine OEnds.st (fun _ k => XS.iloadN X1002.here hx rfl (hb hby d3_35) rfl k) ?_
  show OEnds p.tables e below G (T1002.setTop (mkF m 36 #[.val (.ref a1), .val (.ref a2), .val (.int (0 : Int32)), .val (.int (2 : Int32)), .val .null, .unset] [(.int (2 : Int32)), (.int (0 : Int32)), (.ref a2)]))
  obtain ⟨_, _, ⟨T1003, L1003, k1003c, n1003c⟩, -, X1003, ⟨Lc1003, hQ1003, l1003, y1003, z1003⟩, st1003⟩ := Jvm.LawKit.callS X1002 hx (y := (⟨"java/lang/StringUTF16", "compress", "([CII)[B"⟩ : MethodName)) hown (mvT hZ (hw _ (List.mem_of_getElem? (i := 23) rfl))) (mvT hZ (hw _ (List.mem_of_getElem? (i := 24) rfl))) (mvT hZ (hw _ (List.mem_of_getElem? (i := 25) rfl))) (mvT hZ (hw _ (List.mem_of_getElem? (i := 26) rfl))) (by decide) (backOf (W := 0) (rm5 l Z a0 hw [] a2 k2 c0 c1 h0 n0 Z0 V2 hc0 hc1) hZ (hw _ (List.mem_of_getElem? (i := 26) rfl)) (hw _ (List.mem_of_getElem? (i := 25) rfl)) (by decide) (by decide)) (g := (mkF m 36 #[.val (.ref a1), .val (.ref a2), .val (.int (0 : Int32)), .val (.int (2 : Int32)), .val .null, .unset] [(.int (2 : Int32)), (.int (0 : Int32)), (.ref a2)])) rfl (by rw [hml]; rfl) (argsL := [(.ref a2), (.int (0 : Int32)), (.int (2 : Int32))]) (rest := []) (lenOf pd_1 rfl) rfl (by show 2 * 0 + _ ≤ _; exact Nat.le_of_eq rfl) (hb hby d3_36) (fun _ _ => ⟨rfl, e1002, (by decide : 0 + 1 ≤ _), (by decide : 0 + 2 ≤ _)⟩)
  dsimp only [Pt.U, Pt.locs, Pt.cells, Pt.slots] at X1003 l1003 y1003 z1003 st1003 hQ1003
  subst l1003 y1003 z1003
  obtain ⟨b_1003, kb_1003, rfl, N1003q, p1004, p1005, p1006⟩ := hQ1003
  have N1003 := Fr.app N0 N1003q
  refine OEnds.st st1003 ?_
  clear st1003
  have ne1007 : a1 ≠ b_1003 := Nat.ne_of_lt (Nat.lt_of_lt_of_le (E).lt p1005)
  have ne1008 : a2 ≠ b_1003 := Nat.ne_of_lt (Nat.lt_of_lt_of_le (V2).lt p1005)
  have sz_b_1003 : h0.size ≤ b_1003 := Nat.le_trans KK0.1 p1005
  have ge_b_1003 : n0 ≤ b_1003 := Nat.le_trans Z0 p1005
  have f1009 : Exa Z T1003.heap a1 "java/lang/String" := E.keep p1004
  have f1010 : Fld Z T1003.heap a1 "java/lang/String" "value" "[B" .null := Fv.keep p1004 (List.not_mem_nil)
  have f1011 : Fld Z T1003.heap a1 "java/lang/String" "coder" "B" (.int (0 : Int32)) := Fc.keep p1004 (List.not_mem_nil)
  have f1012 : Arv Z T1003.heap a2 k2 .char (2 : Int32) [(.int c0), (.int c1)] (.int (0 : Int32)) := V2.keep p1004 (List.not_mem_nil)
  have f1013 : Sta Z T1003.heap "java/lang/String" "COMPACT_STRINGS" "Z" (.int w) := own_Sta_keep Sc p1004 (fun x hx => absurd hx List.not_mem_nil)
  have KK1003 : Keep h0 T1003.heap [a1] := KK0.trans p1004 (fun x hx => absurd hx List.not_mem_nil)
  have Z1003 := Nat.le_trans Z0 p1004.1
  show OEnds p.tables e below G (T1003.setTop (mkF m 39 #[.val (.ref a1), .val (.ref a2), .val (.int (0 : Int32)), .val (.int (2 : Int32)), .val .null, .unset] [(.ref b_1003)]))
  refine OEnds.st (fun _ k => XS.astore X1003.here hx rfl (hb hby d3_39) rfl rfl (l' := #[.val (.ref a1), .val (.ref a2), .val (.int (0 : Int32)), .val (.int (2 : Int32)), .val .null, .val (.ref b_1003)]) rfl k) ?_
  show OEnds p.tables e below G (T1003.setTop (mkF m 41 #[.val (.ref a1), .val (.ref a2), .val (.int (0 : Int32)), .val (.int (2 : Int32)), .val .null, .val (.ref b_1003)] []))
  refine OEnds.st (fun _ k => XS.aloadN X1003.here hx rfl (hb hby d3_41) rfl rfl k) ?_
  show OEnds p.tables e below G (T1003.setTop (mkF m 42 #[.val (.ref a1), .val (.ref a2), .val (.int (0 : Int32)), .val (.int (2 : Int32)), .val .null, .val (.ref b_1003)] [(.ref a1)]))
  refine OEnds.st (fun _ k => XS.aload X1003.here hx rfl (hb hby d3_42) rfl rfl k) ?_
  show OEnds p.tables e below G (T1003.setTop (mkF m 44 #[.val (.ref a1), .val (.ref a2), .val (.int (0 : Int32)), .val (.int (2 : Int32)), .val .null, .val (.ref b_1003)] [(.ref b_1003), (.ref a1)]))
  refine OEnds.st (fun _ k => XS.iloadN X1003.here hx rfl (hb hby d3_44) rfl k) ?_
  show OEnds p.tables e below G (T1003.setTop (mkF m 45 #[.val (.ref a1), .val (.ref a2), .val (.int (0 : Int32)), .val (.int (2 : Int32)), .val .null, .val (.ref b_1003)] [(.int (2 : Int32)), (.ref b_1003), (.ref a1)]))
  obtain ⟨_, _, ⟨T1014, L1014, k1014c, n1014c⟩, -, X1014, ⟨Lc1014, hQ1014, l1014, y1014, z1014⟩, st1014⟩ := Jvm.LawKit.callS X1003 hx (y := (⟨"java/lang/StringUTF16", "coderFromArrayLen", "([BI)B"⟩ : MethodName)) hown (mvT hZ (hw _ (List.mem_of_getElem? (i := 31) rfl))) (mvT hZ (hw _ (List.mem_of_getElem? (i := 32) rfl))) (mvT hZ (hw _ (List.mem_of_getElem? (i := 25) rfl))) (mvT hZ (hw _ (List.mem_of_getElem? (i := 33) rfl))) (by decide) (backOf (W := 1) (rm7 l Z a0 hw [] b_1003 kb_1003 ([(.int (c0.toInt8.toInt32)), (.int (c1.toInt8.toInt32))]) (.int (0 : Int32)) T1003.heap n0 Z1003 p1006) hZ (hw _ (List.mem_of_getElem? (i := 33) rfl)) (hw _ (List.mem_of_getElem? (i := 25) rfl)) (by decide) (by decide)) (g := (mkF m 45 #[.val (.ref a1), .val (.ref a2), .val (.int (0 : Int32)), .val (.int (2 : Int32)), .val .null, .val (.ref b_1003)] [(.int (2 : Int32)), (.ref b_1003), (.ref a1)])) rfl (by rw [hml]; rfl) (argsL := [(.ref b_1003), (.int (2 : Int32))]) (rest := [(.ref a1)]) (lenOf pd_2 rfl) rfl (by show 2 * 0 + _ ≤ _; exact Nat.le_of_eq rfl) (hb hby d3_45) (fun _ _ => ⟨rfl, rfl, (by decide : 0 + 1 + 0 ≤ _), (by decide : 0 + 2 + 0 ≤ _)⟩)
  dsimp only [Pt.U, Pt.locs, Pt.cells, Pt.slots] at X1014 l1014 y1014 z1014 st1014 hQ1014
  subst l1014 y1014 z1014
  obtain ⟨rfl, N1014q, e1014⟩ := hQ1014
  have N1014 := Fr.app N1003 N1014q
  refine OEnds.st st1014 ?_
  clear st1014
  show OEnds p.tables e below G (T1014.setTop (mkF m 48 #[.val (.ref a1), .val (.ref a2), .val (.int (0 : Int32)), .val (.int (2 : Int32)), .val .null, .val (.ref b_1003)] [(.int (0 : Int32)), (.ref a1)]))
  obtain ⟨T1015, h1015, X1015, e1015, W1015, st1015⟩ := putFN X1014 hx hZ hown (hw _ (List.mem_of_getElem? (i := 34) rfl)) Via.refl e1014 f1011 f1009 (Or.inr ⟨(hw _ (List.mem_of_getElem? (i := 35) rfl)), rfl, hnm⟩) (hw _ (List.mem_of_getElem? (i := 9) rfl)) (ty := .byte) (v' := (.int (0 : Int32))) (by decide) rfl (by decide) (g := (mkF m 48 #[.val (.ref a1), .val (.ref a2), .val (.int (0 : Int32)), .val (.int (2 : Int32)), .val .null, .val (.ref b_1003)] [(.int (0 : Int32)), (.ref a1)])) rfl rfl (hb hby d3_48)
  refine OEnds.st st1015 ?_
  clear st1015
  have f1016 : Fld Z h1015 a1 "java/lang/String" "coder" "B" (.int (0 : Int32)) := f1011.same W1015
  have f1017 : Exa Z h1015 a1 "java/lang/String" := f1009.wr W1015
  have f1018 : Fld Z h1015 a1 "java/lang/String" "value" "[B" .null := f1010.other W1015 (Or.inr (slot_ne (Or.inr (hw _ (List.mem_of_getElem? (i := 37) rfl))) (Or.inr (hw _ (List.mem_of_getElem? (i := 35) rfl))) (by decide) (t := (.array .byte)) (t' := .byte) (by decide) (by decide)))
  have f1020 : Arv Z h1015 a2 k2 .char (2 : Int32) [(.int c0), (.int c1)] (.int (0 : Int32)) := f1012.other W1015 n21
  have f1021 : Sta Z h1015 "java/lang/String" "COMPACT_STRINGS" "Z" (.int w) := f1013.wr W1015
  have f1022 : Arv Z h1015 b_1003 kb_1003 .byte (2 : Int32) [(.int (c0.toInt8.toInt32)), (.int (c1.toInt8.toInt32))] (.int (0 : Int32)) := p1006.other W1015 (Ne.symm ne1007)
  have N1015 := Fr.snoc X1015 N1014 g_a1
  have KK1015 : Keep h0 h1015 [a1] := KK1003.wr W1015 (Or.inl (List.mem_of_getElem? (i := 0) rfl))
  have Z1015 := Nat.le_trans Z1003 (Keep.of_wr W1015).1
  show OEnds p.tables e below G (T1015.setTop (mkF m 51 #[.val (.ref a1), .val (.ref a2), .val (.int (0 : Int32)), .val (.int (2 : Int32)), .val .null, .val (.ref b_1003)] []))
  refine OEnds.st (fun _ k => XS.aloadN X1015.here hx rfl (hb hby d3_51) rfl rfl k) ?_
  show OEnds p.tables e below G (T1015.setTop (mkF m 52 #[.val (.ref a1), .val (.ref a2), .val (.int (0 : Int32)), .val (.int (2 : Int32)), .val .null, .val (.ref b_1003)] [(.ref a1)]))
  refine OEnds.st (fun _ k => XS.aload X1015.here hx rfl (hb hby d3_52) rfl rfl k) ?_
  show OEnds p.tables e below G (T1015.setTop (mkF m 54 #[.val (.ref a1), .val (.ref a2), .val (.int (0 : Int32)), .val (.int (2 : Int32)), .val .null, .val (.ref b_1003)] [(.ref b_1003), (.ref a1)]))
  obtain ⟨T1023, h1023, X1023, e1023, W1023, st1023⟩ := putF X1015 hx hZ hown (host := "") (Or.inl (hw _ (List.mem_of_getElem? (i := 36) rfl))) Via.refl e1015 f1018 f1017 (Or.inr ⟨(hw _ (List.mem_of_getElem? (i := 37) rfl)), rfl, hnm⟩) (hw _ (List.mem_of_getElem? (i := 9) rfl)) (ty := (.array .byte)) (by decide) rfl rfl (g := (mkF m 54 #[.val (.ref a1), .val (.ref a2), .val (.int (0 : Int32)), .val (.int (2 : Int32)), .val .null, .val (.ref b_1003)] [(.ref b_1003), (.ref a1)])) rfl rfl (hb hby d3_54)
  refine OEnds.st st1023 ?_
  clear st1023
  have f1024 : Fld Z h1023 a1 "java/lang/String" "value" "[B" (.ref b_1003) := f1018.same W1023
  have f1025 : Exa Z h1023 a1 "java/lang/String" := f1017.wr W1023
  have f1027 : Arv Z h1023 a2 k2 .char (2 : Int32) [(.int c0), (.int c1)] (.int (0 : Int32)) := f1020.other W1023 n21
  have f1028 : Sta Z h1023 "java/lang/String" "COMPACT_STRINGS" "Z" (.int w) := f1021.wr W1023
  have f1029 : Arv Z h1023 b_1003 kb_1003 .byte (2 : Int32) [(.int (c0.toInt8.toInt32)), (.int (c1.toInt8.toInt32))] (.int (0 : Int32)) := f1022.other W1023 (Ne.symm ne1007)
  have f1030 : Fld Z h1023 a1 "java/lang/String" "coder" "B" (.int (0 : Int32)) := f1016.other W1023 (Or.inr (slot_ne (Or.inr (hw _ (List.mem_of_getElem? (i := 35) rfl))) (Or.inr (hw _ (List.mem_of_getElem? (i := 37) rfl))) (by decide) (t := .byte) (t' := (.array .byte)) (by decide) (by decide)))
  have N1023 := Fr.snoc X1023 N1015 g_a1
  have KK1023 : Keep h0 h1023 [a1] := KK1015.wr W1023 (Or.inl (List.mem_of_getElem? (i := 0) rfl))
  have Z1023 := Nat.le_trans Z1015 (Keep.of_wr W1023).1
  show OEnds p.tables e below G (T1023.setTop (mkF m 57 #[.val (.ref a1), .val (.ref a2), .val (.int (0 : Int32)), .val (.int (2 : Int32)), .val .null, .val (.ref b_1003)] []))
  rw [← hG]
  refine OEnds.retV X1023 hx hlk Bd.returns (hb hby d3_57) (by decide) (by decide) ?_
  rw [e1023]
  exact ⟨rfl, N1023, KK1023, f1025⟩
theorem ef_2 (m : MethodId) (a1 : Addr) (a2 : Addr) : entryFrame m #[(.ref a1), (.ref a2)] 2 = mkF m 0 #[.val (.ref a1), .val (.ref a2)] [] := by first | (simp [entryFrame, mkF, argsToLocals, Value.category]; done) | rfl
def Q2 (Z : State) (a1 : Addr) (a2 : Addr) (w : Int32) (k2 : ClassId) (c0 : Int32) (c1 : Int32) (h0 : Heap) (n0 : Nat) (v : Option Value) (h : Heap) (L : List Loc) : Prop := v = none ∧ Fr n0 L ∧ Keep h0 h [a1] ∧ Exa Z h a1 "java/lang/String"
theorem pd_3 : parseMethodDescriptor "([CIILjava/lang/Void;)V" = some ⟨[(.array .char), .int, .int, (.object "java/lang/Void")], none⟩ := by decide +kernel
theorem d2_0 : decode jdk_42_method_3_code 0 = .ok (.aload_n 0, 1) := by decide +kernel
theorem d2_1 : decode jdk_42_method_3_code 1 = .ok (.aload_n 1, 1) := by decide +kernel
theorem d2_2 : decode jdk_42_method_3_code 2 = .ok (.iconst 0, 1) := by decide +kernel
theorem d2_3 : decode jdk_42_method_3_code 3 = .ok (.aload_n 1, 1) := by decide +kernel
theorem d2_4 : decode jdk_42_method_3_code 4 = .ok (.arraylength, 1) := by decide +kernel
theorem d2_5 : decode jdk_42_method_3_code 5 = .ok (.aconst_null, 1) := by decide +kernel
theorem d2_6 : decode jdk_42_method_3_code 6 = .ok (.invokespecial 27, 3) := by decide +kernel
theorem d2_9 : decode jdk_42_method_3_code 9 = .ok (.return_, 1) := by decide +kernel
set_option maxRecDepth 65536 in
set_option maxHeartbeats 40000000 in
theorem rm2 (l : Launch) (Z : State) (a0 : Array Value) (hw : ∀ d ∈ tables_1, d.before a0 Z = true) (ws : List Jvm.Cond) (a1 : Addr) (a2 : Addr) (w : Int32) (k2 : ClassId) (c0 : Int32) (c1 : Int32) (h0 : Heap) (n0 : Nat) (Z0 : n0 ≤ h0.size) (E : Exa Z h0 a1 "java/lang/String") (Fv : Fld Z h0 a1 "java/lang/String" "value" "[B" .null) (Fc : Fld Z h0 a1 "java/lang/String" "coder" "B" (.int (0 : Int32))) (V2 : Arv Z h0 a2 k2 .char (2 : Int32) [(.int c0), (.int c1)] (.int (0 : Int32))) (Sc : Sta Z h0 "java/lang/String" "COMPACT_STRINGS" "Z" (.int w)) (g_a1 : n0 ≤ a1) (n21 : a2 ≠ a1) (hw0 : ¬ (w = (0 : Int32))) (hc0 : ¬ ((255 : Int32) < c0)) (hc1 : ¬ ((255 : Int32) < c1)) :
    MetFree l (⟨"java/lang/String", "<init>", "([C)V"⟩ : MethodName) (head1 (Jvm.Cond.code (⟨"java/lang/String", "<init>", "([C)V"⟩ : MethodName) jdk_42_method_3_code 2 none :: ws) ({ frames := 3, cells := 1, slots := 2, locals := 52 } : Room)) (fun a U => a = #[(.ref a1), (.ref a2)] ∧ Z.Warmed39 U.vm ∧ U.heap = h0) (fun _ _ _ _ _ => True) (fun _ U o U' => ∃ v L, o = .returned v ∧ Q2 Z a1 a2 w k2 c0 c1 h0 n0 v U'.heap L ∧ FrameEnd U o U' L ({ frames := 3, cells := 1, slots := 2, locals := 52 } : Room).cells ({ frames := 3, cells := 1, slots := 2, locals := 52 } : Room).slots) := by
  refine MetFree.of_bodySF (plainFor_of_name pn_1) hisR ?_
  intro p e s m args below meth c s₁ Bd hml0 hP hK
  obtain ⟨rfl, hZ, hh⟩ := hP
  have hx := Bd.exec
  have hby := Bd.bytes
  have hml : c.maxLocals = 2 := hml0
  have hown : s.vm.findClass "java/lang/String" = some m.cls := findClass_of_methodNamed Bd.named
  have hnm := (name_of_methodNamed Bd.named Bd.method).1
  have hlk : meth.locks = false := BodyLoose.notSynchronized Bd
  have X0 : Stand p l e ({ frames := 3, cells := 1, slots := 2, locals := 52 } : Room) s m #[(.ref a1), (.ref a2)] below meth c s₁ [] 0 0 := Stand.of_body Bd
  have e0 : s₁.heap = h0 := by rw [← hh, Bd.state]; rfl
  have N0 := Fr.nil n0
  show OEnds p.tables e below (OGoal (Q2 Z a1 a2 w k2 c0 c1 h0 n0) s 1 2) (s₁.setTop (entryFrame m #[(.ref a1), (.ref a2)] 2))
  refine OEnds.st (fun t k => castTop (ef_2 m a1 a2) k) ?_
  generalize hG : OGoal (Q2 Z a1 a2 w k2 c0 c1 h0 n0) s 1 2 = G
  have KK0 : Keep h0 h0 [a1] := Keep.refl h0 [a1]
  show OEnds p.tables e below G (s₁.setTop (mkF m 0 #[.val (.ref a1), .val (.ref a2)] []))
  refine OEnds.st (fun _ k => XS.aloadN X0.here hx rfl (hb hby d2_0) rfl rfl k) ?_
  show OEnds p.tables e below G (s₁.setTop (mkF m 1 #[.val (.ref a1), .val (.ref a2)] [(.ref a1)]))
  refine OEnds.st (fun _ k => XS.aloadN X0.here hx rfl (hb hby d2_1) rfl rfl k) ?_
  show OEnds p.tables e below G (s₁.setTop (mkF m 2 #[.val (.ref a1), .val (.ref a2)] [(.ref a2), (.ref a1)]))
  refine OEnds.st (fun _ k => XS.iconst X0.here hx rfl (hb hby d2_2) k) ?_
  show OEnds p.tables e below G (s₁.setTop (mkF m 3 #[.val (.ref a1), .val (.ref a2)] [(.int (0 : Int32)), (.ref a2), (.ref a1)]))
  refine OEnds.st (fun _ k => XS.aloadN X0.here hx rfl (hb hby d2_3) rfl rfl k) ?_
  show OEnds p.tables e below G (s₁.setTop (mkF m 4 #[.val (.ref a1), .val (.ref a2)] [(.ref a2), (.int (0 : Int32)), (.ref a2), (.ref a1)]))
  obtain ⟨cl1001, Ar1001, -, S1001, N1001n, -, -⟩ := id V2
  refine OEnds.st (X0.arraylength hx (by rw [e0]; exact Ar1001.1) (State.isArrayOf_alike hZ.alike Ar1001.2.1) (g := (mkF m 4 #[.val (.ref a1), .val (.ref a2)] [(.ref a2), (.int (0 : Int32)), (.ref a2), (.ref a1)])) rfl rfl (hb hby d2_4)) ?_
  rw [len_of S1001 N1001n]
  show OEnds p.tables e below G (s₁.setTop (mkF m 5 #[.val (.ref a1), .val (.ref a2)] [(.int (2 : Int32)), (.int (0 : Int32)), (.ref a2), (.ref a1)]))
  refine OEnds.st (fun _ k => XS.aconstNull X0.here hx rfl (hb hby d2_5) k) ?_
  show OEnds p.tables e below G (s₁.setTop (mkF m 6 #[.val (.ref a1), .val (.ref a2)] [.null, (.int (2 : Int32)), (.int (0 : Int32)), (.ref a2), (.ref a1)]))
  obtain ⟨_, _, ⟨T1002, L1002, k1002c, n1002c⟩, -, X1002, ⟨Lc1002, hQ1002, l1002, y1002, z1002⟩, st1002⟩ := X0.specialBack hx (y := (⟨"java/lang/String", "<init>", "([CIILjava/lang/Void;)V"⟩ : MethodName)) rfl hown (mvT hZ (hw _ (List.mem_of_getElem? (i := 15) rfl))) (mvT hZ (hw _ (List.mem_of_getElem? (i := 16) rfl))) (mvT hZ (hw _ (List.mem_of_getElem? (i := 18) rfl))) (by decide) (backOf (W := 0) (rm3 l Z a0 hw [] a1 a2 w k2 c0 c1 h0 n0 Z0 E Fv Fc V2 Sc g_a1 n21 hw0 hc0 hc1) hZ (hw _ (List.mem_of_getElem? (i := 18) rfl)) (hw _ (List.mem_of_getElem? (i := 10) rfl)) (by decide) (by decide)) (g := (mkF m 6 #[.val (.ref a1), .val (.ref a2)] [.null, (.int (2 : Int32)), (.int (0 : Int32)), (.ref a2), (.ref a1)])) rfl (by rw [hml]; rfl) (Steps.refl _) (a := a1) (argsL := [(.ref a2), (.int (0 : Int32)), (.int (2 : Int32)), .null]) (rest := []) (lenOf pd_3 rfl) rfl (by show 2 * 0 + _ ≤ _; exact Nat.le_of_eq rfl) (hb hby d2_6) (fun _ _ => ⟨rfl, e0, (by decide : 0 + 1 ≤ _), (by decide : 0 + 2 ≤ _)⟩)
  dsimp only [Pt.U, Pt.locs, Pt.cells, Pt.slots] at X1002 l1002 y1002 z1002 st1002 hQ1002
  subst l1002 y1002 z1002
  obtain ⟨rfl, N1002q, p1003, p1004⟩ := hQ1002
  have N1002 := Fr.app N0 N1002q
  refine OEnds.st (fun _ k => st1002.trans k) ?_
  clear st1002
  have f1005 : Exa Z T1002.heap a1 "java/lang/String" := E.keep p1003
  have f1008 : Arv Z T1002.heap a2 k2 .char (2 : Int32) [(.int c0), (.int c1)] (.int (0 : Int32)) := V2.keep p1003 (by simp only [List.mem_cons, List.not_mem_nil, or_false, not_or]; exact n21)
  have f1009 : Sta Z T1002.heap "java/lang/String" "COMPACT_STRINGS" "Z" (.int w) := own_Sta_keep Sc p1003 (fun x hx => by cases List.mem_singleton.mp hx; exact own_exa_ns E)
  have KK1002 : Keep h0 T1002.heap [a1] := KK0.trans p1003 (fun x hx => by cases List.mem_singleton.mp hx; exact Or.inl (List.mem_of_getElem? (i := 0) rfl))
  have Z1002 := Nat.le_trans Z0 p1003.1
  show OEnds p.tables e below G (T1002.setTop (mkF m 9 #[.val (.ref a1), .val (.ref a2)] []))
  rw [← hG]
  refine OEnds.retV X1002 hx hlk Bd.returns (hb hby d2_9) (by decide) (by decide) ?_
  show _
  exact ⟨rfl, N1002, KK1002, p1004⟩
theorem ef_e4 (m : MethodId) (a1 : Addr) (a2 : Addr) : entryFrame m #[(.ref a1), (.ref a2), (.int (0 : Int32)), (.int (0 : Int32)), .null] 6 = mkF m 0 #[.val (.ref a1), .val (.ref a2), .val (.int (0 : Int32)), .val (.int (0 : Int32)), .val .null, .unset] [] := by first | (simp [entryFrame, mkF, argsToLocals, Value.category]; done) | rfl
def Qe4 (Z : State) (a1 : Addr) (a2 : Addr) (h0 : Heap) (n0 : Nat) (v : Option Value) (h : Heap) (L : List Loc) : Prop := v = none ∧ Fr n0 L ∧ Keep h0 h [a1] ∧ Exa Z h a1 "java/lang/String"
theorem d3_8 : decode jdk_42_method_149_code 8 = .ok (.aload_n 0, 1) := by decide +kernel
theorem d3_9 : decode jdk_42_method_149_code 9 = .ok (.ldc 7, 2) := by decide +kernel
theorem d3_11 : decode jdk_42_method_149_code 11 = .ok (.getfield 9, 3) := by decide +kernel
theorem d3_14 : decode jdk_42_method_149_code 14 = .ok (.putfield 9, 3) := by decide +kernel
theorem d3_17 : decode jdk_42_method_149_code 17 = .ok (.aload_n 0, 1) := by decide +kernel
theorem d3_18 : decode jdk_42_method_149_code 18 = .ok (.ldc 7, 2) := by decide +kernel
theorem d3_20 : decode jdk_42_method_149_code 20 = .ok (.getfield 15, 3) := by decide +kernel
theorem d3_23 : decode jdk_42_method_149_code 23 = .ok (.putfield 15, 3) := by decide +kernel
theorem d3_26 : decode jdk_42_method_149_code 26 = .ok (.return_, 1) := by decide +kernel
set_option maxRecDepth 65536 in
set_option maxHeartbeats 40000000 in
theorem rme4 (l : Launch) (Z : State) (a0 : Array Value) (hw : ∀ d ∈ tables_1, d.before a0 Z = true) (ws : List Jvm.Cond) (a1 : Addr) (a2 : Addr) (h0 : Heap) (n0 : Nat) (Z0 : n0 ≤ h0.size) (E : Exa Z h0 a1 "java/lang/String") (Fv : Fld Z h0 a1 "java/lang/String" "value" "[B" .null) (Fc : Fld Z h0 a1 "java/lang/String" "coder" "B" (.int (0 : Int32))) (g_a1 : n0 ≤ a1) :
    MetFree l (⟨"java/lang/String", "<init>", "([CIILjava/lang/Void;)V"⟩ : MethodName) (head1 (Jvm.Cond.code (⟨"java/lang/String", "<init>", "([CIILjava/lang/Void;)V"⟩ : MethodName) jdk_42_method_149_code 6 none :: ws) ({ frames := 1, cells := 2, slots := 4, locals := 12 } : Room)) (fun a U => a = #[(.ref a1), (.ref a2), (.int (0 : Int32)), (.int (0 : Int32)), .null] ∧ Z.Warmed39 U.vm ∧ U.heap = h0 ∧ CHv Z own_EL U.vm h0) (fun _ _ _ _ _ => True) (fun _ U o U' => ∃ v L, o = .returned v ∧ Qe4 Z a1 a2 h0 n0 v U'.heap L ∧ CHr Z own_EL U.vm U.heap U'.vm U'.heap ∧ Jvm.ReturnedEndW U o U' L ({ frames := 1, cells := 2, slots := 4, locals := 12 } : Room).cells ({ frames := 1, cells := 2, slots := 4, locals := 12 } : Room).slots) := by
  refine MetFree.of_bodySF (plainFor_of_name pn_1) hisR ?_
  intro p e s m args below meth c s₁ Bd hml0 hP hK
  obtain ⟨rfl, hZ, hh, hCH0⟩ := hP
  have hx := Bd.exec
  have hby := Bd.bytes
  have hml : c.maxLocals = 6 := hml0
  have hown : s.vm.findClass "java/lang/String" = some m.cls := findClass_of_methodNamed Bd.named
  have hnm := (name_of_methodNamed Bd.named Bd.method).1
  have hlk : meth.locks = false := BodyLoose.notSynchronized Bd
  have X0 : Stand p l e ({ frames := 1, cells := 2, slots := 4, locals := 12 } : Room) s m #[(.ref a1), (.ref a2), (.int (0 : Int32)), (.int (0 : Int32)), .null] below meth c s₁ [] 0 0 := Stand.of_body Bd
  have e0 : s₁.heap = h0 := by rw [← hh, Bd.state]; rfl
  have N0 := Fr.nil n0
  show OEnds p.tables e below (OGoalH Z own_EL (Qe4 Z a1 a2 h0 n0) s 2 4) (s₁.setTop (entryFrame m #[(.ref a1), (.ref a2), (.int (0 : Int32)), (.int (0 : Int32)), .null] 6))
  refine OEnds.st (fun t k => castTop (ef_e4 m a1 a2) k) ?_
  generalize hG : OGoalH Z own_EL (Qe4 Z a1 a2 h0 n0) s 2 4 = G
  have X0 : Stand p l e ({ frames := 1, cells := 2, slots := 4, locals := 12 } : Room) (s.setVm s.vm) m #[(.ref a1), (.ref a2), (.int (0 : Int32)), (.int (0 : Int32)), .null] below meth c s₁ [] 0 0 := X0
  have hS : s.Since s.vm 0 := (State.WarmedH.refl s).since 0
  have hkk : 0 ≤ h0.size := Nat.zero_le _
  have wS : ∀ a ∈ Bundle.stringAtoms, a.before a0 Z = true := fun a ha => hw a ((by decide +kernel : ∀ a ∈ Bundle.stringAtoms, a ∈ tables_1) a ha)
  have hEL : EW Z a0 own_EL := own_ew hw
  have CH0 := CHr.refl hCH0
  have hlt0 := E.lt
  have hSf0 : Safe Z own_EL s.vm h0 a1 := own_safeNull hZ.alike E Fv
  have KK0 : Keep h0 h0 [a1] := Keep.refl h0 [a1]
  show OEnds p.tables e below G (s₁.setTop (mkF m 0 #[.val (.ref a1), .val (.ref a2), .val (.int (0 : Int32)), .val (.int (0 : Int32)), .val .null, .unset] []))
  refine OEnds.st (fun _ k => XS.aloadN X0.here hx rfl (hb hby d3_0) rfl rfl k) ?_
  show OEnds p.tables e below G (s₁.setTop (mkF m 1 #[.val (.ref a1), .val (.ref a2), .val (.int (0 : Int32)), .val (.int (0 : Int32)), .val .null, .unset] [(.ref a1)]))
  obtain ⟨T1001, X1001, e1001, st1001⟩ := initO X0 hx hZ hown (hw _ (List.mem_of_getElem? (i := 19) rfl)) (hw _ (List.mem_of_getElem? (i := 20) rfl)) (hw _ (List.mem_of_getElem? (i := 21) rfl)) e0 (g := (mkF m 1 #[.val (.ref a1), .val (.ref a2), .val (.int (0 : Int32)), .val (.int (0 : Int32)), .val .null, .unset] [(.ref a1)])) rfl (by rw [hml]; rfl) rfl (hb hby d3_1) (by decide) (W := 0) (by show 2 * 0 + _ ≤ _; exact Nat.le_of_eq rfl) (by decide)
  refine OEnds.st st1001 ?_
  clear st1001
  show OEnds p.tables e below G (T1001.setTop (mkF m 4 #[.val (.ref a1), .val (.ref a2), .val (.int (0 : Int32)), .val (.int (0 : Int32)), .val .null, .unset] []))
  refine OEnds.st (fun _ k => XS.iloadN X1001.here hx rfl (hb hby d3_4) rfl k) ?_
  show OEnds p.tables e below G (T1001.setTop (mkF m 5 #[.val (.ref a1), .val (.ref a2), .val (.int (0 : Int32)), .val (.int (0 : Int32)), .val .null, .unset] [(.int (0 : Int32))]))
  refine OEnds.st (fun _ k => XS.ifNo X1001.here hx rfl (hb hby d3_5) rfl ((if0 _ _).trans (teq (by decide : (0 : Int32) = (0 : Int32))).2) k) ?_
  show OEnds p.tables e below G (T1001.setTop (mkF m 8 #[.val (.ref a1), .val (.ref a2), .val (.int (0 : Int32)), .val (.int (0 : Int32)), .val .null, .unset] []))
  refine OEnds.st (fun _ k => XS.aloadN X1001.here hx rfl (hb hby d3_8) rfl rfl k) ?_
  show OEnds p.tables e below G (T1001.setTop (mkF m 9 #[.val (.ref a1), .val (.ref a2), .val (.int (0 : Int32)), .val (.int (0 : Int32)), .val .null, .unset] [(.ref a1)]))
  obtain ⟨str1002, T1002, h1002, kS1002, bs1002, ks1002, X1002, e1002, E1002, hS, hkk, hZ, hown, Es1002, Fc1002, Fv1002, Av1002, lu1002, lv1002, CHr1002, Lt1002, Sn1002, st1002⟩ := ldcCH X1001 hx hZ hown (hw _ (List.mem_of_getElem? (i := 125) rfl)) wS e1001 hS hkk hEL (by decide) CH0.1 (z := (0 : Int32)) (vs := []) ⟨by simp, by simp⟩ (by decide) rfl (g := (mkF m 9 #[.val (.ref a1), .val (.ref a2), .val (.int (0 : Int32)), .val (.int (0 : Int32)), .val .null, .unset] [(.ref a1)])) rfl (hb hby d3_9) (n := 0) (by simp) (by decide) (by decide) (by decide)
  refine OEnds.st st1002 ?_
  clear st1002
  have CH1002 := CH0.trans CHr1002
  have nq1002 := Sn1002 a1 (CHr.safe CH1002 hlt0 hSf0)
  have f1003 : Exa Z h1002 a1 "java/lang/String" := E.ext E1002
  have f1004 : Fld Z h1002 a1 "java/lang/String" "value" "[B" .null := Fv.ext E1002
  have f1005 : Fld Z h1002 a1 "java/lang/String" "coder" "B" (.int (0 : Int32)) := Fc.ext E1002
  have KK1002 : Keep h0 h1002 [a1] := KK0.ext E1002
  have Z1002 := Nat.le_trans Z0 E1002.1
  show OEnds p.tables e below G (T1002.setTop (mkF m 11 #[.val (.ref a1), .val (.ref a2), .val (.int (0 : Int32)), .val (.int (0 : Int32)), .val .null, .unset] [(.ref str1002), (.ref a1)]))
  obtain ⟨T1006, X1006, e1006, st1006⟩ := getF X1002 hx hZ hown (host := "") (Or.inl (hw _ (List.mem_of_getElem? (i := 36) rfl))) Via.refl e1002 Fv1002 (g := (mkF m 11 #[.val (.ref a1), .val (.ref a2), .val (.int (0 : Int32)), .val (.int (0 : Int32)), .val .null, .unset] [(.ref str1002), (.ref a1)])) rfl rfl (hb hby d3_11)
  refine OEnds.st st1006 ?_
  clear st1006
  show OEnds p.tables e below G (T1006.setTop (mkF m 14 #[.val (.ref a1), .val (.ref a2), .val (.int (0 : Int32)), .val (.int (0 : Int32)), .val .null, .unset] [(.ref bs1002), (.ref a1)]))
  obtain ⟨T1007, h1007, X1007, e1007, W1007, st1007⟩ := putF X1006 hx hZ hown (host := "") (Or.inl (hw _ (List.mem_of_getElem? (i := 36) rfl))) Via.refl e1006 f1004 f1003 (Or.inr ⟨(hw _ (List.mem_of_getElem? (i := 37) rfl)), rfl, hnm⟩) (hw _ (List.mem_of_getElem? (i := 9) rfl)) (ty := (.array .byte)) (by decide) rfl rfl (g := (mkF m 14 #[.val (.ref a1), .val (.ref a2), .val (.int (0 : Int32)), .val (.int (0 : Int32)), .val .null, .unset] [(.ref bs1002), (.ref a1)])) rfl rfl (hb hby d3_14)
  refine OEnds.st st1007 ?_
  clear st1007
  have f1008 : Fld Z h1007 a1 "java/lang/String" "value" "[B" (.ref bs1002) := f1004.same W1007
  have f1009 : Exa Z h1007 a1 "java/lang/String" := f1003.wr W1007
  have f1011 : Fld Z h1007 a1 "java/lang/String" "coder" "B" (.int (0 : Int32)) := f1005.other W1007 (Or.inr (slot_ne (Or.inr (hw _ (List.mem_of_getElem? (i := 35) rfl))) (Or.inr (hw _ (List.mem_of_getElem? (i := 37) rfl))) (by decide) (t := .byte) (t' := (.array .byte)) (by decide) (by decide)))
  have f1012 : Exa Z h1007 str1002 "java/lang/String" := Es1002.wr W1007
  have f1013 : Fld Z h1007 str1002 "java/lang/String" "coder" "B" (.int (0 : Int32)) := Fc1002.other W1007 (Or.inl (Ne.symm nq1002.1))
  have f1014 : Fld Z h1007 str1002 "java/lang/String" "value" "[B" (.ref bs1002) := Fv1002.other W1007 (Or.inl (Ne.symm nq1002.1))
  have N1007 := Fr.snoc X1007 N0 g_a1
  have KK1007 : Keep h0 h1007 [a1] := KK1002.wr W1007 (Or.inl (List.mem_of_getElem? (i := 0) rfl))
  have Z1007 := Nat.le_trans Z1002 (Keep.of_wr W1007).1
  have CH1007 := CH1002.trans (CHr.wr W1007 (CHr.safe CH1002 hlt0 hSf0) CH1002.1)
  have hkk := Nat.le_trans hkk (Keep.of_wr W1007).1
  show OEnds p.tables e below G (T1007.setTop (mkF m 17 #[.val (.ref a1), .val (.ref a2), .val (.int (0 : Int32)), .val (.int (0 : Int32)), .val .null, .unset] []))
  refine OEnds.st (fun _ k => XS.aloadN X1007.here hx rfl (hb hby d3_17) rfl rfl k) ?_
  show OEnds p.tables e below G (T1007.setTop (mkF m 18 #[.val (.ref a1), .val (.ref a2), .val (.int (0 : Int32)), .val (.int (0 : Int32)), .val .null, .unset] [(.ref a1)]))
  refine OEnds.st (ldcAgain X1007 hx hZ hown (hw _ (List.mem_of_getElem? (i := 125) rfl)) Lt1002 (g := (mkF m 18 #[.val (.ref a1), .val (.ref a2), .val (.int (0 : Int32)), .val (.int (0 : Int32)), .val .null, .unset] [(.ref a1)])) rfl (hb hby d3_18)) ?_
  show OEnds p.tables e below G (T1007.setTop (mkF m 20 #[.val (.ref a1), .val (.ref a2), .val (.int (0 : Int32)), .val (.int (0 : Int32)), .val .null, .unset] [(.ref str1002), (.ref a1)]))
  obtain ⟨T1016, X1016, e1016, st1016⟩ := getF X1007 hx hZ hown (host := "") (Or.inl (hw _ (List.mem_of_getElem? (i := 34) rfl))) Via.refl e1007 f1013 (g := (mkF m 20 #[.val (.ref a1), .val (.ref a2), .val (.int (0 : Int32)), .val (.int (0 : Int32)), .val .null, .unset] [(.ref str1002), (.ref a1)])) rfl rfl (hb hby d3_20)
  refine OEnds.st st1016 ?_
  clear st1016
  show OEnds p.tables e below G (T1016.setTop (mkF m 23 #[.val (.ref a1), .val (.ref a2), .val (.int (0 : Int32)), .val (.int (0 : Int32)), .val .null, .unset] [(.int (0 : Int32)), (.ref a1)]))
  obtain ⟨T1017, h1017, X1017, e1017, W1017, st1017⟩ := putFN X1016 hx hZ hown (hw _ (List.mem_of_getElem? (i := 34) rfl)) Via.refl e1016 f1011 f1009 (Or.inr ⟨(hw _ (List.mem_of_getElem? (i := 35) rfl)), rfl, hnm⟩) (hw _ (List.mem_of_getElem? (i := 9) rfl)) (ty := .byte) (v' := (.int (0 : Int32))) (by decide) rfl (by decide) (g := (mkF m 23 #[.val (.ref a1), .val (.ref a2), .val (.int (0 : Int32)), .val (.int (0 : Int32)), .val .null, .unset] [(.int (0 : Int32)), (.ref a1)])) rfl rfl (hb hby d3_23)
  refine OEnds.st st1017 ?_
  clear st1017
  have f1018 : Fld Z h1017 a1 "java/lang/String" "coder" "B" (.int (0 : Int32)) := f1011.same W1017
  have f1019 : Exa Z h1017 a1 "java/lang/String" := f1009.wr W1017
  have f1021 : Exa Z h1017 str1002 "java/lang/String" := f1012.wr W1017
  have f1022 : Fld Z h1017 str1002 "java/lang/String" "coder" "B" (.int (0 : Int32)) := f1013.other W1017 (Or.inl (Ne.symm nq1002.1))
  have f1023 : Fld Z h1017 str1002 "java/lang/String" "value" "[B" (.ref bs1002) := f1014.other W1017 (Or.inl (Ne.symm nq1002.1))
  have f1024 : Fld Z h1017 a1 "java/lang/String" "value" "[B" (.ref bs1002) := f1008.other W1017 (Or.inr (slot_ne (Or.inr (hw _ (List.mem_of_getElem? (i := 37) rfl))) (Or.inr (hw _ (List.mem_of_getElem? (i := 35) rfl))) (by decide) (t := (.array .byte)) (t' := .byte) (by decide) (by decide)))
  have N1017 := Fr.snoc X1017 N1007 g_a1
  have KK1017 : Keep h0 h1017 [a1] := KK1007.wr W1017 (Or.inl (List.mem_of_getElem? (i := 0) rfl))
  have Z1017 := Nat.le_trans Z1007 (Keep.of_wr W1017).1
  have CH1017 := CH1007.trans (CHr.wr W1017 (CHr.safe CH1007 hlt0 hSf0) CH1007.1)
  have hkk := Nat.le_trans hkk (Keep.of_wr W1017).1
  show OEnds p.tables e below G (T1017.setTop (mkF m 26 #[.val (.ref a1), .val (.ref a2), .val (.int (0 : Int32)), .val (.int (0 : Int32)), .val .null, .unset] []))
  rw [← hG]
  refine OEnds.retVH X1017 hS (by rw [e1017]; exact hkk) hx hlk Bd.returns (hb hby d3_26) (by decide) (by decide) ?_ ?_
  · rw [hh, e1017]; exact CH1017.trans (CHv.at X1017 hZ hEL CH1017.1)
  · rw [e1017]; exact ⟨rfl, N1017, KK1017, f1019⟩
theorem ef_e1 (m : MethodId) (a1 : Addr) (a2 : Addr) : entryFrame m #[(.ref a1), (.ref a2)] 2 = mkF m 0 #[.val (.ref a1), .val (.ref a2)] [] := by first | (simp [entryFrame, mkF, argsToLocals, Value.category]; done) | rfl
def Qe1 (Z : State) (a1 : Addr) (a2 : Addr) (k2 : ClassId) (h0 : Heap) (n0 : Nat) (v : Option Value) (h : Heap) (L : List Loc) : Prop := v = none ∧ Fr n0 L ∧ Keep h0 h [a1] ∧ Exa Z h a1 "java/lang/String"
set_option maxRecDepth 65536 in
set_option maxHeartbeats 40000000 in
theorem rme1 (l : Launch) (Z : State) (a0 : Array Value) (hw : ∀ d ∈ tables_1, d.before a0 Z = true) (ws : List Jvm.Cond) (a1 : Addr) (a2 : Addr) (k2 : ClassId) (h0 : Heap) (n0 : Nat) (Z0 : n0 ≤ h0.size) (E : Exa Z h0 a1 "java/lang/String") (Fv : Fld Z h0 a1 "java/lang/String" "value" "[B" .null) (Fc : Fld Z h0 a1 "java/lang/String" "coder" "B" (.int (0 : Int32))) (V2 : Arv Z h0 a2 k2 .char (0 : Int32) [] (.int (0 : Int32))) (g_a1 : n0 ≤ a1) :
    MetFree l (⟨"java/lang/String", "<init>", "([C)V"⟩ : MethodName) (head1 (Jvm.Cond.code (⟨"java/lang/String", "<init>", "([C)V"⟩ : MethodName) jdk_42_method_3_code 2 none :: ws) ({ frames := 2, cells := 2, slots := 4, locals := 29 } : Room)) (fun a U => a = #[(.ref a1), (.ref a2)] ∧ Z.Warmed39 U.vm ∧ U.heap = h0 ∧ CHv Z own_EL U.vm h0) (fun _ _ _ _ _ => True) (fun _ U o U' => ∃ v L, o = .returned v ∧ Qe1 Z a1 a2 k2 h0 n0 v U'.heap L ∧ CHr Z own_EL U.vm U.heap U'.vm U'.heap ∧ Jvm.ReturnedEndW U o U' L ({ frames := 2, cells := 2, slots := 4, locals := 29 } : Room).cells ({ frames := 2, cells := 2, slots := 4, locals := 29 } : Room).slots) := by
  refine MetFree.of_bodySF (plainFor_of_name pn_1) hisR ?_
  intro p e s m args below meth c s₁ Bd hml0 hP hK
  obtain ⟨rfl, hZ, hh, hCH0⟩ := hP
  have hx := Bd.exec
  have hby := Bd.bytes
  have hml : c.maxLocals = 2 := hml0
  have hown : s.vm.findClass "java/lang/String" = some m.cls := findClass_of_methodNamed Bd.named
  have hnm := (name_of_methodNamed Bd.named Bd.method).1
  have hlk : meth.locks = false := BodyLoose.notSynchronized Bd
  have X0 : Stand p l e ({ frames := 2, cells := 2, slots := 4, locals := 29 } : Room) s m #[(.ref a1), (.ref a2)] below meth c s₁ [] 0 0 := Stand.of_body Bd
  have e0 : s₁.heap = h0 := by rw [← hh, Bd.state]; rfl
  have N0 := Fr.nil n0
  show OEnds p.tables e below (OGoalH Z own_EL (Qe1 Z a1 a2 k2 h0 n0) s 2 4) (s₁.setTop (entryFrame m #[(.ref a1), (.ref a2)] 2))
  refine OEnds.st (fun t k => castTop (ef_e1 m a1 a2) k) ?_
  generalize hG : OGoalH Z own_EL (Qe1 Z a1 a2 k2 h0 n0) s 2 4 = G
  have X0 : Stand p l e ({ frames := 2, cells := 2, slots := 4, locals := 29 } : Room) (s.setVm s.vm) m #[(.ref a1), (.ref a2)] below meth c s₁ [] 0 0 := X0
  have hS : s.Since s.vm 0 := (State.WarmedH.refl s).since 0
  have hkk : 0 ≤ h0.size := Nat.zero_le _
  have wS : ∀ a ∈ Bundle.stringAtoms, a.before a0 Z = true := fun a ha => hw a ((by decide +kernel : ∀ a ∈ Bundle.stringAtoms, a ∈ tables_1) a ha)
  have hEL : EW Z a0 own_EL := own_ew hw
  have CH0 := CHr.refl hCH0
  have hlt0 := E.lt
  have hSf0 : Safe Z own_EL s.vm h0 a1 := own_safeNull hZ.alike E Fv
  have KK0 : Keep h0 h0 [a1] := Keep.refl h0 [a1]
  show OEnds p.tables e below G (s₁.setTop (mkF m 0 #[.val (.ref a1), .val (.ref a2)] []))
  refine OEnds.st (fun _ k => XS.aloadN X0.here hx rfl (hb hby d2_0) rfl rfl k) ?_
  show OEnds p.tables e below G (s₁.setTop (mkF m 1 #[.val (.ref a1), .val (.ref a2)] [(.ref a1)]))
  refine OEnds.st (fun _ k => XS.aloadN X0.here hx rfl (hb hby d2_1) rfl rfl k) ?_
  show OEnds p.tables e below G (s₁.setTop (mkF m 2 #[.val (.ref a1), .val (.ref a2)] [(.ref a2), (.ref a1)]))
  refine OEnds.st (fun _ k => XS.iconst X0.here hx rfl (hb hby d2_2) k) ?_
  show OEnds p.tables e below G (s₁.setTop (mkF m 3 #[.val (.ref a1), .val (.ref a2)] [(.int (0 : Int32)), (.ref a2), (.ref a1)]))
  refine OEnds.st (fun _ k => XS.aloadN X0.here hx rfl (hb hby d2_3) rfl rfl k) ?_
  show OEnds p.tables e below G (s₁.setTop (mkF m 4 #[.val (.ref a1), .val (.ref a2)] [(.ref a2), (.int (0 : Int32)), (.ref a2), (.ref a1)]))
  obtain ⟨cl1001, Ar1001, -, S1001, N1001n, -, -⟩ := id V2
  refine OEnds.st (X0.arraylength hx (by rw [e0]; exact Ar1001.1) (State.isArrayOf_alike hZ.alike Ar1001.2.1) (g := (mkF m 4 #[.val (.ref a1), .val (.ref a2)] [(.ref a2), (.int (0 : Int32)), (.ref a2), (.ref a1)])) rfl rfl (hb hby d2_4)) ?_
  rw [len_of S1001 N1001n]
  show OEnds p.tables e below G (s₁.setTop (mkF m 5 #[.val (.ref a1), .val (.ref a2)] [(.int (0 : Int32)), (.int (0 : Int32)), (.ref a2), (.ref a1)]))
  refine OEnds.st (fun _ k => XS.aconstNull X0.here hx rfl (hb hby d2_5) k) ?_
  show OEnds p.tables e below G (s₁.setTop (mkF m 6 #[.val (.ref a1), .val (.ref a2)] [.null, (.int (0 : Int32)), (.int (0 : Int32)), (.ref a2), (.ref a1)]))
  obtain ⟨_, _, ⟨T1002, L1002, k1002c, n1002c⟩, -, X1002, s2_1002, g2_1002, ⟨Lc1002, hQ1002, l1002, y1002, z1002, CHr1002⟩, st1002⟩ := X0.specialBackS hx (y := (⟨"java/lang/String", "<init>", "([CIILjava/lang/Void;)V"⟩ : MethodName)) rfl hown (mvT hZ (hw _ (List.mem_of_getElem? (i := 15) rfl))) (mvT hZ (hw _ (List.mem_of_getElem? (i := 16) rfl))) (mvT hZ (hw _ (List.mem_of_getElem? (i := 18) rfl))) (by decide) (backOfSH (W := 0) (rme4 l Z a0 hw [] a1 a2 h0 n0 Z0 E Fv Fc g_a1) hZ (hw _ (List.mem_of_getElem? (i := 18) rfl)) (hw _ (List.mem_of_getElem? (i := 10) rfl)) (by decide) (by decide) hEL (CH0.1)) (g := (mkF m 6 #[.val (.ref a1), .val (.ref a2)] [.null, (.int (0 : Int32)), (.int (0 : Int32)), (.ref a2), (.ref a1)])) rfl (by rw [hml]; rfl) (Steps.refl _) (a := a1) (argsL := [(.ref a2), (.int (0 : Int32)), (.int (0 : Int32)), .null]) (rest := []) (lenOf pd_3 rfl) rfl (by show 2 * 0 + _ ≤ _; exact Nat.le_of_eq rfl) (hb hby d2_6) (fun _ _ => ⟨rfl, e0, (by decide : 0 + 2 ≤ _), (by decide : 0 + 4 ≤ _)⟩)
  dsimp only [Pt.U, Pt.locs, Pt.cells, Pt.slots] at s2_1002 g2_1002 CHr1002
  dsimp only [Pt.U, Pt.locs, Pt.cells, Pt.slots] at X1002 l1002 y1002 z1002 st1002 hQ1002
  subst l1002 y1002 z1002
  obtain ⟨X1002, hS, hZ, hown⟩ := rebS hS (by rw [e0]; exact hkk) X1002 s2_1002 g2_1002 hZ hown
  have hkk : T1002.heap.size ≤ T1002.heap.size := Nat.le_refl _
  have CH1002 := CH0.trans CHr1002
  obtain ⟨rfl, N1002q, p1003, p1004⟩ := hQ1002
  have N1002 := Fr.app N0 N1002q
  refine OEnds.st (fun _ k => st1002.trans k) ?_
  clear st1002
  have f1005 : Exa Z T1002.heap a1 "java/lang/String" := E.keep p1003
  have KK1002 : Keep h0 T1002.heap [a1] := KK0.trans p1003 (fun x hx => by cases List.mem_singleton.mp hx; exact Or.inl (List.mem_of_getElem? (i := 0) rfl))
  have Z1002 := Nat.le_trans Z0 p1003.1
  show OEnds p.tables e below G (T1002.setTop (mkF m 9 #[.val (.ref a1), .val (.ref a2)] []))
  rw [← hG]
  refine OEnds.retVH X1002 hS hkk hx hlk Bd.returns (hb hby d2_9) (by decide) (by decide) ?_ ?_
  · rw [hh]; exact CH1002.trans (CHv.at X1002 hZ hEL CH1002.1)
  · exact ⟨rfl, N1002, KK1002, p1004⟩
theorem pn_2 : plainName "java/lang/StringLatin1" = true := by first | (simp [plainName, overriddenIn]; done) | decide +kernel
theorem ef_9 (m : MethodId) (p1 : Int32) : entryFrame m #[(.int p1)] 1 = mkF m 0 #[.val (.int p1)] [] := by first | (simp [entryFrame, mkF, argsToLocals, Value.category]; done) | rfl
def Q9 (Z : State) (p1 : Int32) (h0 : Heap) (n0 : Nat) (v : Option Value) (h : Heap) (L : List Loc) : Prop := v = some (.int (1 : Int32)) ∧ Fr n0 L ∧ h = h0
theorem d9_0 : decode jdk_43_method_3_code 0 = .ok (.iload_n 0, 1) := by decide +kernel
theorem d9_1 : decode jdk_43_method_3_code 1 = .ok (.sipush 255, 3) := by decide +kernel
theorem d9_4 : decode jdk_43_method_3_code 4 = .ok (.if_icmp .gt 7, 3) := by decide +kernel
theorem d9_7 : decode jdk_43_method_3_code 7 = .ok (.iconst 1, 1) := by decide +kernel
theorem d9_8 : decode jdk_43_method_3_code 8 = .ok (.goto 4, 3) := by decide +kernel
theorem d9_12 : decode jdk_43_method_3_code 12 = .ok (.ireturn, 1) := by decide +kernel
set_option maxRecDepth 65536 in
set_option maxHeartbeats 40000000 in
theorem rm9 (l : Launch) (Z : State) (a0 : Array Value) (hw : ∀ d ∈ tables_1, d.before a0 Z = true) (ws : List Jvm.Cond) (p1 : Int32) (h0 : Heap) (n0 : Nat) (Z0 : n0 ≤ h0.size) (hc : ¬ ((255 : Int32) < p1)) :
    MetFree l (⟨"java/lang/StringLatin1", "canEncode", "(C)Z"⟩ : MethodName) (head1 (Jvm.Cond.code (⟨"java/lang/StringLatin1", "canEncode", "(C)Z"⟩ : MethodName) jdk_43_method_3_code 1 (some .boolean) :: ws) ({ frames := 0, cells := 0, slots := 0, locals := 0 } : Room)) (fun a U => a = #[(.int p1)] ∧ Z.Warmed39 U.vm ∧ U.heap = h0) (fun _ _ _ _ _ => True) (fun _ U o U' => ∃ v L, o = .returned v ∧ Q9 Z p1 h0 n0 v U'.heap L ∧ FrameEnd U o U' L ({ frames := 0, cells := 0, slots := 0, locals := 0 } : Room).cells ({ frames := 0, cells := 0, slots := 0, locals := 0 } : Room).slots) := by
  refine MetFree.of_bodySF (plainFor_of_name pn_2) hisR ?_
  intro p e s m args below meth c s₁ Bd hml0 hP hK
  obtain ⟨rfl, hZ, hh⟩ := hP
  have hx := Bd.exec
  have hby := Bd.bytes
  have hml : c.maxLocals = 1 := hml0
  have hown : s.vm.findClass "java/lang/StringLatin1" = some m.cls := findClass_of_methodNamed Bd.named
  have hnm := (name_of_methodNamed Bd.named Bd.method).1
  have hlk : meth.locks = false := BodyLoose.notSynchronized Bd
  have X0 : Stand p l e ({ frames := 0, cells := 0, slots := 0, locals := 0 } : Room) s m #[(.int p1)] below meth c s₁ [] 0 0 := Stand.of_body Bd
  have e0 : s₁.heap = h0 := by rw [← hh, Bd.state]; rfl
  have N0 := Fr.nil n0
  show OEnds p.tables e below (OGoal (Q9 Z p1 h0 n0) s 0 0) (s₁.setTop (entryFrame m #[(.int p1)] 1))
  refine OEnds.st (fun t k => castTop (ef_9 m p1) k) ?_
  generalize hG : OGoal (Q9 Z p1 h0 n0) s 0 0 = G
  have KK0 : Keep h0 h0 [] := Keep.refl h0 []
  show OEnds p.tables e below G (s₁.setTop (mkF m 0 #[.val (.int p1)] []))
  refine OEnds.st (fun _ k => XS.iloadN X0.here hx rfl (hb hby d9_0) rfl k) ?_
  show OEnds p.tables e below G (s₁.setTop (mkF m 1 #[.val (.int p1)] [(.int p1)]))
  refine OEnds.st (fun _ k => XS.sipush X0.here hx rfl (hb hby d9_1) k) ?_
  show OEnds p.tables e below G (s₁.setTop (mkF m 4 #[.val (.int p1)] [(.int (255 : Int32)), (.int p1)]))
  refine OEnds.st (fun _ k => XS.icmpNo X0.here hx rfl (hb hby d9_4) rfl (flt hc).2.2.1 k) ?_
  show OEnds p.tables e below G (s₁.setTop (mkF m 7 #[.val (.int p1)] []))
  refine OEnds.st (fun _ k => XS.iconst X0.here hx rfl (hb hby d9_7) k) ?_
  show OEnds p.tables e below G (s₁.setTop (mkF m 8 #[.val (.int p1)] [(.int (1 : Int32))]))
  refine OEnds.st (fun _ k => XS.goto X0.here hx rfl (pc0 := 8) (pc' := 12) rfl (hb hby d9_8) (by decide) (by decide) k) ?_
  show OEnds p.tables e below G (s₁.setTop (mkF m 12 #[.val (.int p1)] [(.int (1 : Int32))]))
  rw [← hG]
  refine OEnds.retZ X0 hx hlk Bd.returns rfl (hb hby d9_12) (by decide) (by decide) ?_
  rw [e0]
  exact ⟨rfl, N0, rfl⟩
theorem ef_10 (m : MethodId) (p1 : Int32) : entryFrame m #[(.int p1)] 1 = mkF m 0 #[.val (.int p1)] [] := by first | (simp [entryFrame, mkF, argsToLocals, Value.category]; done) | rfl
def Q10 (Z : State) (p1 : Int32) (h0 : Heap) (n0 : Nat) (v : Option Value) (h : Heap) (L : List Loc) : Prop := ∃ (b : Addr) (kb : ClassId), v = some (.ref b) ∧ Fr n0 L ∧ Keep h0 h [] ∧ h0.size ≤ b ∧ Arv Z h b kb .byte (1 : Int32) [(.int (p1.toInt8.toInt32))] (.int (0 : Int32))
theorem d10_0 : decode jdk_43_method_46_code 0 = .ok (.iconst 1, 1) := by decide +kernel
theorem d10_1 : decode jdk_43_method_46_code 1 = .ok (.newarray .byte, 2) := by decide +kernel
theorem d10_3 : decode jdk_43_method_46_code 3 = .ok (.dup, 1) := by decide +kernel
theorem d10_4 : decode jdk_43_method_46_code 4 = .ok (.iconst 0, 1) := by decide +kernel
theorem d10_5 : decode jdk_43_method_46_code 5 = .ok (.iload_n 0, 1) := by decide +kernel
theorem d10_6 : decode jdk_43_method_46_code 6 = .ok (.i2b, 1) := by decide +kernel
theorem d10_7 : decode jdk_43_method_46_code 7 = .ok (.bastore, 1) := by decide +kernel
theorem d10_8 : decode jdk_43_method_46_code 8 = .ok (.areturn, 1) := by decide +kernel
set_option maxRecDepth 65536 in
set_option maxHeartbeats 40000000 in
theorem rm10 (l : Launch) (Z : State) (a0 : Array Value) (hw : ∀ d ∈ tables_1, d.before a0 Z = true) (ws : List Jvm.Cond) (p1 : Int32) (h0 : Heap) (n0 : Nat) (Z0 : n0 ≤ h0.size) :
    MetFree l (⟨"java/lang/StringLatin1", "toBytes", "(C)[B"⟩ : MethodName) (head1 (Jvm.Cond.code (⟨"java/lang/StringLatin1", "toBytes", "(C)[B"⟩ : MethodName) jdk_43_method_46_code 1 (some (.array .byte)) :: ws) ({ frames := 0, cells := 1, slots := 1, locals := 0 } : Room)) (fun a U => a = #[(.int p1)] ∧ Z.Warmed39 U.vm ∧ U.heap = h0) (fun _ _ _ _ _ => True) (fun _ U o U' => ∃ v L, o = .returned v ∧ Q10 Z p1 h0 n0 v U'.heap L ∧ FrameEnd U o U' L ({ frames := 0, cells := 1, slots := 1, locals := 0 } : Room).cells ({ frames := 0, cells := 1, slots := 1, locals := 0 } : Room).slots) := by
  refine MetFree.of_bodySF (plainFor_of_name pn_2) hisR ?_
  intro p e s m args below meth c s₁ Bd hml0 hP hK
  obtain ⟨rfl, hZ, hh⟩ := hP
  have hx := Bd.exec
  have hby := Bd.bytes
  have hml : c.maxLocals = 1 := hml0
  have hown : s.vm.findClass "java/lang/StringLatin1" = some m.cls := findClass_of_methodNamed Bd.named
  have hnm := (name_of_methodNamed Bd.named Bd.method).1
  have hlk : meth.locks = false := BodyLoose.notSynchronized Bd
  have X0 : Stand p l e ({ frames := 0, cells := 1, slots := 1, locals := 0 } : Room) s m #[(.int p1)] below meth c s₁ [] 0 0 := Stand.of_body Bd
  have e0 : s₁.heap = h0 := by rw [← hh, Bd.state]; rfl
  have N0 := Fr.nil n0
  show OEnds p.tables e below (OGoal (Q10 Z p1 h0 n0) s 1 1) (s₁.setTop (entryFrame m #[(.int p1)] 1))
  refine OEnds.st (fun t k => castTop (ef_10 m p1) k) ?_
  generalize hG : OGoal (Q10 Z p1 h0 n0) s 1 1 = G
  have KK0 : Keep h0 h0 [] := Keep.refl h0 []
  show OEnds p.tables e below G (s₁.setTop (mkF m 0 #[.val (.int p1)] []))
  refine OEnds.st (fun _ k => XS.iconst X0.here hx rfl (hb hby d10_0) k) ?_
  show OEnds p.tables e below G (s₁.setTop (mkF m 1 #[.val (.int p1)] [(.int (1 : Int32))]))
  obtain ⟨T1001, h1001, k1001, X1001, e1001, E1001, A1001, st1001⟩ := newP X0 hx hZ (hw _ (List.mem_of_getElem? (i := 27) rfl)) e0 (g := (mkF m 1 #[.val (.int p1)] [(.int (1 : Int32))])) rfl (hb hby d10_1) rfl (by decide) (cap := 1) (by decide) (by decide) (by decide) (by decide)
  obtain ⟨b1001, g1001⟩ : ∃ z, z = h0.size := ⟨_, rfl⟩
  rw [← g1001] at A1001 st1001
  refine OEnds.st st1001 ?_
  clear st1001
  have ge_b1001 : n0 ≤ b1001 := Nat.le_trans Z0 (Nat.le_of_eq g1001.symm)
  have sz_b1001 : h0.size ≤ b1001 := Nat.le_trans KK0.1 (Nat.le_of_eq g1001.symm)
  have KK1001 : Keep h0 h1001 [] := KK0.ext E1001
  have Z1001 := Nat.le_trans Z0 E1001.1
  have f1002 : Arv Z h1001 b1001 k1001 .byte (1 : Int32) [(.int (0 : Int32))] (.int (0 : Int32)) := (Arv.new A1001 (by decide)).pad (pad_rep [] (.int (0 : Int32)) 1)
  show OEnds p.tables e below G (T1001.setTop (mkF m 3 #[.val (.int p1)] [(.ref b1001)]))
  refine OEnds.st (fun _ k => XS.dup X1001.here hx rfl (hb hby d10_3) rfl rfl k) ?_
  show OEnds p.tables e below G (T1001.setTop (mkF m 4 #[.val (.int p1)] [(.ref b1001), (.ref b1001)]))
  refine OEnds.st (fun _ k => XS.iconst X1001.here hx rfl (hb hby d10_4) k) ?_
  show OEnds p.tables e below G (T1001.setTop (mkF m 5 #[.val (.int p1)] [(.int (0 : Int32)), (.ref b1001), (.ref b1001)]))
  refine OEnds.st (fun _ k => XS.iloadN X1001.here hx rfl (hb hby d10_5) rfl k) ?_
  show OEnds p.tables e below G (T1001.setTop (mkF m 6 #[.val (.int p1)] [(.int p1), (.int (0 : Int32)), (.ref b1001), (.ref b1001)]))
  refine OEnds.st (fun _ k => XS.i2b X1001.here hx rfl (hb hby d10_6) rfl k) ?_
  show OEnds p.tables e below G (T1001.setTop (mkF m 7 #[.val (.int p1)] [(.int (p1.toInt8.toInt32)), (.int (0 : Int32)), (.ref b1001), (.ref b1001)]))
  obtain ⟨cl1003, Ar1003, q1003, S1003, N1003n, H1003, G1003⟩ := id f1002
  have hin1003 : ¬ ((0 : Int32) < 0 ∨ cl1003.slots.size ≤ ((0 : Int32)).toNatClampNeg) := inb_of S1003 ⟨by decide, by decide⟩
  obtain ⟨T1003, h1003, X1003, e1003, W1003, st1003⟩ := stB X1001 hx hZ e1001 Ar1003 (j := (0 : Int32)) hin1003 (g := (mkF m 7 #[.val (.int p1)] [(.int (p1.toInt8.toInt32)), (.int (0 : Int32)), (.ref b1001), (.ref b1001)])) rfl rfl (hb hby d10_7)
  refine OEnds.st st1003 ?_
  clear st1003
  rw [own_b8] at W1003
  have f1004 : Arv Z h1003 b1001 k1001 .byte (1 : Int32) [(.int (p1.toInt8.toInt32))] (.int (0 : Int32)) := Arv.set Ar1003 q1003 S1003 N1003n H1003 G1003 (fits_nar_byte _) W1003 0 rfl (Nat.le_of_ble_eq_true rfl)
  have N1003 := Fr.snoc X1003 N0 ge_b1001
  have KK1003 : Keep h0 h1003 [] := KK1001.wr W1003 (Or.inr sz_b1001)
  have Z1003 := Nat.le_trans Z1001 (Keep.of_wr W1003).1
  show OEnds p.tables e below G (T1003.setTop (mkF m 8 #[.val (.int p1)] [(.ref b1001)]))
  rw [← hG]
  refine OEnds.retA X1003 hx hlk Bd.returns (by first | rfl | exact rfl) rfl (hb hby d10_8) (by decide) (by decide) ?_
  rw [e1003]
  exact ⟨b1001, k1001, rfl, N1003, KK1003, sz_b1001, f1004⟩
theorem ef_11 (m : MethodId) (a1 : Addr) (a2 : Addr) : entryFrame m #[(.ref a1), (.ref a2), (.int (0 : Int32))] 3 = mkF m 0 #[.val (.ref a1), .val (.ref a2), .val (.int (0 : Int32))] [] := by first | (simp [entryFrame, mkF, argsToLocals, Value.category]; done) | rfl
def Q11 (Z : State) (a1 : Addr) (a2 : Addr) (h0 : Heap) (n0 : Nat) (v : Option Value) (h : Heap) (L : List Loc) : Prop := v = none ∧ Fr n0 L ∧ Keep h0 h [a1] ∧ Exa Z h a1 "java/lang/String"
theorem d11_0 : decode jdk_42_method_151_code 0 = .ok (.aload_n 0, 1) := by decide +kernel
theorem d11_1 : decode jdk_42_method_151_code 1 = .ok (.invokespecial 1, 3) := by decide +kernel
theorem d11_4 : decode jdk_42_method_151_code 4 = .ok (.aload_n 0, 1) := by decide +kernel
theorem d11_5 : decode jdk_42_method_151_code 5 = .ok (.aload_n 1, 1) := by decide +kernel
theorem d11_6 : decode jdk_42_method_151_code 6 = .ok (.putfield 9, 3) := by decide +kernel
theorem d11_9 : decode jdk_42_method_151_code 9 = .ok (.aload_n 0, 1) := by decide +kernel
theorem d11_10 : decode jdk_42_method_151_code 10 = .ok (.iload_n 2, 1) := by decide +kernel
theorem d11_11 : decode jdk_42_method_151_code 11 = .ok (.putfield 15, 3) := by decide +kernel
theorem d11_14 : decode jdk_42_method_151_code 14 = .ok (.return_, 1) := by decide +kernel
set_option maxRecDepth 65536 in
set_option maxHeartbeats 40000000 in
theorem rm11 (l : Launch) (Z : State) (a0 : Array Value) (hw : ∀ d ∈ tables_1, d.before a0 Z = true) (ws : List Jvm.Cond) (a1 : Addr) (a2 : Addr) (h0 : Heap) (n0 : Nat) (Z0 : n0 ≤ h0.size) (E : Exa Z h0 a1 "java/lang/String") (Fv : Fld Z h0 a1 "java/lang/String" "value" "[B" .null) (Fc : Fld Z h0 a1 "java/lang/String" "coder" "B" (.int (0 : Int32))) (g_a1 : n0 ≤ a1) :
    MetFree l (⟨"java/lang/String", "<init>", "([BB)V"⟩ : MethodName) (head1 (Jvm.Cond.code (⟨"java/lang/String", "<init>", "([BB)V"⟩ : MethodName) jdk_42_method_151_code 3 none :: ws) ({ frames := 1, cells := 0, slots := 0, locals := 12 } : Room)) (fun a U => a = #[(.ref a1), (.ref a2), (.int (0 : Int32))] ∧ Z.Warmed39 U.vm ∧ U.heap = h0) (fun _ _ _ _ _ => True) (fun _ U o U' => ∃ v L, o = .returned v ∧ Q11 Z a1 a2 h0 n0 v U'.heap L ∧ FrameEnd U o U' L ({ frames := 1, cells := 0, slots := 0, locals := 12 } : Room).cells ({ frames := 1, cells := 0, slots := 0, locals := 12 } : Room).slots) := by
  refine MetFree.of_bodySF (plainFor_of_name pn_1) hisR ?_
  intro p e s m args below meth c s₁ Bd hml0 hP hK
  obtain ⟨rfl, hZ, hh⟩ := hP
  have hx := Bd.exec
  have hby := Bd.bytes
  have hml : c.maxLocals = 3 := hml0
  have hown : s.vm.findClass "java/lang/String" = some m.cls := findClass_of_methodNamed Bd.named
  have hnm := (name_of_methodNamed Bd.named Bd.method).1
  have hlk : meth.locks = false := BodyLoose.notSynchronized Bd
  have X0 : Stand p l e ({ frames := 1, cells := 0, slots := 0, locals := 12 } : Room) s m #[(.ref a1), (.ref a2), (.int (0 : Int32))] below meth c s₁ [] 0 0 := Stand.of_body Bd
  have e0 : s₁.heap = h0 := by rw [← hh, Bd.state]; rfl
  have N0 := Fr.nil n0
  show OEnds p.tables e below (OGoal (Q11 Z a1 a2 h0 n0) s 0 0) (s₁.setTop (entryFrame m #[(.ref a1), (.ref a2), (.int (0 : Int32))] 3))
  refine OEnds.st (fun t k => castTop (ef_11 m a1 a2) k) ?_
  generalize hG : OGoal (Q11 Z a1 a2 h0 n0) s 0 0 = G
  have KK0 : Keep h0 h0 [a1] := Keep.refl h0 [a1]
  show OEnds p.tables e below G (s₁.setTop (mkF m 0 #[.val (.ref a1), .val (.ref a2), .val (.int (0 : Int32))] []))
  refine OEnds.st (fun _ k => XS.aloadN X0.here hx rfl (hb hby d11_0) rfl rfl k) ?_
  show OEnds p.tables e below G (s₁.setTop (mkF m 1 #[.val (.ref a1), .val (.ref a2), .val (.int (0 : Int32))] [(.ref a1)]))
  obtain ⟨T1001, X1001, e1001, st1001⟩ := initO X0 hx hZ hown (hw _ (List.mem_of_getElem? (i := 19) rfl)) (hw _ (List.mem_of_getElem? (i := 20) rfl)) (hw _ (List.mem_of_getElem? (i := 21) rfl)) e0 (g := (mkF m 1 #[.val (.ref a1), .val (.ref a2), .val (.int (0 : Int32))] [(.ref a1)])) rfl (by rw [hml]; rfl) rfl (hb hby d11_1) (by decide) (W := 0) (by show 2 * 0 + _ ≤ _; exact Nat.le_of_eq rfl) (by decide)
  refine OEnds.st st1001 ?_
  clear st1001
  show OEnds p.tables e below G (T1001.setTop (mkF m 4 #[.val (.ref a1), .val (.ref a2), .val (.int (0 : Int32))] []))
  refine OEnds.st (fun _ k => XS.aloadN X1001.here hx rfl (hb hby d11_4) rfl rfl k) ?_
  show OEnds p.tables e below G (T1001.setTop (mkF m 5 #[.val (.ref a1), .val (.ref a2), .val (.int (0 : Int32))] [(.ref a1)]))
  refine OEnds.st (fun _ k => XS.aloadN X1001.here hx rfl (hb hby d11_5) rfl rfl k) ?_
  show OEnds p.tables e below G (T1001.setTop (mkF m 6 #[.val (.ref a1), .val (.ref a2), .val (.int (0 : Int32))] [(.ref a2), (.ref a1)]))
  obtain ⟨T1002, h1002, X1002, e1002, W1002, st1002⟩ := putF X1001 hx hZ hown (host := "") (Or.inl (hw _ (List.mem_of_getElem? (i := 36) rfl))) Via.refl e1001 Fv E (Or.inr ⟨(hw _ (List.mem_of_getElem? (i := 37) rfl)), rfl, hnm⟩) (hw _ (List.mem_of_getElem? (i := 9) rfl)) (ty := (.array .byte)) (by decide) rfl rfl (g := (mkF m 6 #[.val (.ref a1), .val (.ref a2), .val (.int (0 : Int32))] [(.ref a2), (.ref a1)])) rfl rfl (hb hby d11_6)
  refine OEnds.st st1002 ?_
  clear st1002
  have f1003 : Fld Z h1002 a1 "java/lang/String" "value" "[B" (.ref a2) := Fv.same W1002
  have f1004 : Exa Z h1002 a1 "java/lang/String" := E.wr W1002
  have f1006 : Fld Z h1002 a1 "java/lang/String" "coder" "B" (.int (0 : Int32)) := Fc.other W1002 (Or.inr (slot_ne (Or.inr (hw _ (List.mem_of_getElem? (i := 35) rfl))) (Or.inr (hw _ (List.mem_of_getElem? (i := 37) rfl))) (by decide) (t := .byte) (t' := (.array .byte)) (by decide) (by decide)))
  have N1002 := Fr.snoc X1002 N0 g_a1
  have KK1002 : Keep h0 h1002 [a1] := KK0.wr W1002 (Or.inl (List.mem_of_getElem? (i := 0) rfl))
  have Z1002 := Nat.le_trans Z0 (Keep.of_wr W1002).1
  show OEnds p.tables e below G (T1002.setTop (mkF m 9 #[.val (.ref a1), .val (.ref a2), .val (.int (0 : Int32))] []))
  refine OEnds.st (fun _ k => XS.aloadN X1002.here hx rfl (hb hby d11_9) rfl rfl k) ?_
  show OEnds p.tables e below G (T1002.setTop (mkF m 10 #[.val (.ref a1), .val (.ref a2), .val (.int (0 : Int32))] [(.ref a1)]))
  refine OEnds.st (fun _ k => XS.iloadN X1002.here hx rfl (hb hby d11_10) rfl k) ?_
  show OEnds p.tables e below G (T1002.setTop (mkF m 11 #[.val (.ref a1), .val (.ref a2), .val (.int (0 : Int32))] [(.int (0 : Int32)), (.ref a1)]))
  obtain ⟨T1007, h1007, X1007, e1007, W1007, st1007⟩ := putFN X1002 hx hZ hown (hw _ (List.mem_of_getElem? (i := 34) rfl)) Via.refl e1002 f1006 f1004 (Or.inr ⟨(hw _ (List.mem_of_getElem? (i := 35) rfl)), rfl, hnm⟩) (hw _ (List.mem_of_getElem? (i := 9) rfl)) (ty := .byte) (v' := (.int (0 : Int32))) (by decide) rfl (by decide) (g := (mkF m 11 #[.val (.ref a1), .val (.ref a2), .val (.int (0 : Int32))] [(.int (0 : Int32)), (.ref a1)])) rfl rfl (hb hby d11_11)
  refine OEnds.st st1007 ?_
  clear st1007
  have f1008 : Fld Z h1007 a1 "java/lang/String" "coder" "B" (.int (0 : Int32)) := f1006.same W1007
  have f1009 : Exa Z h1007 a1 "java/lang/String" := f1004.wr W1007
  have f1011 : Fld Z h1007 a1 "java/lang/String" "value" "[B" (.ref a2) := f1003.other W1007 (Or.inr (slot_ne (Or.inr (hw _ (List.mem_of_getElem? (i := 37) rfl))) (Or.inr (hw _ (List.mem_of_getElem? (i := 35) rfl))) (by decide) (t := (.array .byte)) (t' := .byte) (by decide) (by decide)))
  have N1007 := Fr.snoc X1007 N1002 g_a1
  have KK1007 : Keep h0 h1007 [a1] := KK1002.wr W1007 (Or.inl (List.mem_of_getElem? (i := 0) rfl))
  have Z1007 := Nat.le_trans Z1002 (Keep.of_wr W1007).1
  show OEnds p.tables e below G (T1007.setTop (mkF m 14 #[.val (.ref a1), .val (.ref a2), .val (.int (0 : Int32))] []))
  rw [← hG]
  refine OEnds.retV X1007 hx hlk Bd.returns (hb hby d11_14) (by decide) (by decide) ?_
  rw [e1007]
  exact ⟨rfl, N1007, KK1007, f1009⟩
theorem ef_8 (m : MethodId) (p1 : Int32) : entryFrame m #[(.int p1)] 1 = mkF m 0 #[.val (.int p1)] [] := by first | (simp [entryFrame, mkF, argsToLocals, Value.category]; done) | rfl
def Q8 (Z : State) (p1 : Int32) (w : Int32) (h0 : Heap) (n0 : Nat) (v : Option Value) (h : Heap) (L : List Loc) : Prop := ∃ (b : Addr), v = some (.ref b) ∧ Fr n0 L ∧ Keep h0 h [] ∧ h0.size ≤ b ∧ Exa Z h b "java/lang/String"
theorem pd_4 : parseMethodDescriptor "(C)Z" = some ⟨[.char], some .boolean⟩ := by decide +kernel
theorem pd_5 : parseMethodDescriptor "(C)[B" = some ⟨[.char], some (.array .byte)⟩ := by decide +kernel
theorem pd_6 : parseMethodDescriptor "([BB)V" = some ⟨[(.array .byte), .byte], none⟩ := by decide +kernel
theorem d8_0 : decode jdk_42_method_139_code 0 = .ok (.getstatic 38, 3) := by decide +kernel
theorem d8_3 : decode jdk_42_method_139_code 3 = .ok (.ifCond .eq 23, 3) := by decide +kernel
theorem d8_6 : decode jdk_42_method_139_code 6 = .ok (.iload_n 0, 1) := by decide +kernel
theorem d8_7 : decode jdk_42_method_139_code 7 = .ok (.invokestatic 1015, 3) := by decide +kernel
theorem d8_10 : decode jdk_42_method_139_code 10 = .ok (.ifCond .eq 16, 3) := by decide +kernel
theorem d8_13 : decode jdk_42_method_139_code 13 = .ok (.new 10, 3) := by decide +kernel
theorem d8_16 : decode jdk_42_method_139_code 16 = .ok (.dup, 1) := by decide +kernel
theorem d8_17 : decode jdk_42_method_139_code 17 = .ok (.iload_n 0, 1) := by decide +kernel
theorem d8_18 : decode jdk_42_method_139_code 18 = .ok (.invokestatic 1018, 3) := by decide +kernel
theorem d8_21 : decode jdk_42_method_139_code 21 = .ok (.iconst 0, 1) := by decide +kernel
theorem d8_22 : decode jdk_42_method_139_code 22 = .ok (.invokespecial 209, 3) := by decide +kernel
theorem d8_25 : decode jdk_42_method_139_code 25 = .ok (.areturn, 1) := by decide +kernel
set_option maxRecDepth 65536 in
set_option maxHeartbeats 40000000 in
theorem rm8 (l : Launch) (Z : State) (a0 : Array Value) (hw : ∀ d ∈ tables_1, d.before a0 Z = true) (ws : List Jvm.Cond) (p1 : Int32) (w : Int32) (h0 : Heap) (n0 : Nat) (Z0 : n0 ≤ h0.size) (Sc : Sta Z h0 "java/lang/String" "COMPACT_STRINGS" "Z" (.int w)) (hw0 : ¬ (w = (0 : Int32))) (hc : ¬ ((255 : Int32) < p1)) :
    MetFree l (⟨"java/lang/String", "valueOf", "(C)Ljava/lang/String;"⟩ : MethodName) (head1 (Jvm.Cond.code (⟨"java/lang/String", "valueOf", "(C)Ljava/lang/String;"⟩ : MethodName) jdk_42_method_139_code 1 (some (.object "java/lang/String")) :: ws) ({ frames := 2, cells := 2, slots := 5, locals := 27 } : Room)) (fun a U => a = #[(.int p1)] ∧ Z.Warmed39 U.vm ∧ U.heap = h0) (fun _ _ _ _ _ => True) (fun _ U o U' => ∃ v L, o = .returned v ∧ Q8 Z p1 w h0 n0 v U'.heap L ∧ FrameEnd U o U' L ({ frames := 2, cells := 2, slots := 5, locals := 27 } : Room).cells ({ frames := 2, cells := 2, slots := 5, locals := 27 } : Room).slots) := by
  refine MetFree.of_bodySF (plainFor_of_name pn_1) hisR ?_
  intro p e s m args below meth c s₁ Bd hml0 hP hK
  obtain ⟨rfl, hZ, hh⟩ := hP
  have hx := Bd.exec
  have hby := Bd.bytes
  have hml : c.maxLocals = 1 := hml0
  have hown : s.vm.findClass "java/lang/String" = some m.cls := findClass_of_methodNamed Bd.named
  have hnm := (name_of_methodNamed Bd.named Bd.method).1
  have hlk : meth.locks = false := BodyLoose.notSynchronized Bd
  have X0 : Stand p l e ({ frames := 2, cells := 2, slots := 5, locals := 27 } : Room) s m #[(.int p1)] below meth c s₁ [] 0 0 := Stand.of_body Bd
  have e0 : s₁.heap = h0 := by rw [← hh, Bd.state]; rfl
  have N0 := Fr.nil n0
  show OEnds p.tables e below (OGoal (Q8 Z p1 w h0 n0) s 2 5) (s₁.setTop (entryFrame m #[(.int p1)] 1))
  refine OEnds.st (fun t k => castTop (ef_8 m p1) k) ?_
  generalize hG : OGoal (Q8 Z p1 w h0 n0) s 2 5 = G
  have KK0 : Keep h0 h0 [] := Keep.refl h0 []
  show OEnds p.tables e below G (s₁.setTop (mkF m 0 #[.val (.int p1)] []))
  obtain ⟨T1001, X1001, e1001, st1001⟩ := getS2 X0 hx hZ hown (host := "") (Or.inl (hw _ (List.mem_of_getElem? (i := 22) rfl))) Via.refl e0 Sc (g := (mkF m 0 #[.val (.int p1)] [])) rfl (hb hby d8_0)
  refine OEnds.st st1001 ?_
  clear st1001
  show OEnds p.tables e below G (T1001.setTop (mkF m 3 #[.val (.int p1)] [(.int w)]))
  refine OEnds.st (fun _ k => XS.ifNo X1001.here hx rfl (hb hby d8_3) rfl ((if0 _ _).trans (feq hw0).1) k) ?_
  show OEnds p.tables e below G (T1001.setTop (mkF m 6 #[.val (.int p1)] []))
  refine OEnds.st (fun _ k => XS.iloadN X1001.here hx rfl (hb hby d8_6) rfl k) ?_
  show OEnds p.tables e below G (T1001.setTop (mkF m 7 #[.val (.int p1)] [(.int p1)]))
  obtain ⟨_, _, ⟨T1002, L1002, k1002c, n1002c⟩, -, X1002, ⟨Lc1002, hQ1002, l1002, y1002, z1002⟩, st1002⟩ := Jvm.LawKit.callS X1001 hx (y := (⟨"java/lang/StringLatin1", "canEncode", "(C)Z"⟩ : MethodName)) hown (mvT hZ (hw _ (List.mem_of_getElem? (i := 41) rfl))) (mvT hZ (hw _ (List.mem_of_getElem? (i := 42) rfl))) (mvT hZ (hw _ (List.mem_of_getElem? (i := 43) rfl))) (mvT hZ (hw _ (List.mem_of_getElem? (i := 44) rfl))) (by decide) (backOf (W := 0) (rm9 l Z a0 hw [] p1 h0 n0 Z0 hc) hZ (hw _ (List.mem_of_getElem? (i := 44) rfl)) (hw _ (List.mem_of_getElem? (i := 43) rfl)) (by decide) (by decide)) (g := (mkF m 7 #[.val (.int p1)] [(.int p1)])) rfl (by rw [hml]; rfl) (argsL := [(.int p1)]) (rest := []) (lenOf pd_4 rfl) rfl (by show 2 * 0 + _ ≤ _; exact Nat.le_of_eq rfl) (hb hby d8_7) (fun _ _ => ⟨rfl, e1001, (by decide : 0 + 0 ≤ _), (by decide : 0 + 0 ≤ _)⟩)
  dsimp only [Pt.U, Pt.locs, Pt.cells, Pt.slots] at X1002 l1002 y1002 z1002 st1002 hQ1002
  subst l1002 y1002 z1002
  obtain ⟨rfl, N1002q, e1002⟩ := hQ1002
  have N1002 := Fr.app N0 N1002q
  refine OEnds.st st1002 ?_
  clear st1002
  show OEnds p.tables e below G (T1002.setTop (mkF m 10 #[.val (.int p1)] [(.int (1 : Int32))]))
  refine OEnds.st (fun _ k => XS.ifNo X1002.here hx rfl (hb hby d8_10) rfl ((if0 _ _).trans (feq (by decide : ¬ ((1 : Int32) = (0 : Int32)))).1) k) ?_
  show OEnds p.tables e below G (T1002.setTop (mkF m 13 #[.val (.int p1)] []))
  obtain ⟨T1003, h1003, X1003, e1003, E1003, A1003, D1003, -, st1003⟩ := newO X1002 hx hZ hown (hw _ (List.mem_of_getElem? (i := 45) rfl)) (hw _ (List.mem_of_getElem? (i := 9) rfl)) (hw _ (List.mem_of_getElem? (i := 10) rfl)) e1002 (g := (mkF m 13 #[.val (.int p1)] [])) rfl (hb hby d8_13) (by decide) (by decide)
  obtain ⟨b1003, g1003⟩ : ∃ z, z = h0.size := ⟨_, rfl⟩
  rw [← g1003] at A1003 D1003 st1003
  refine OEnds.st st1003 ?_
  clear st1003
  have ge_b1003 : n0 ≤ b1003 := Nat.le_trans Z0 (Nat.le_of_eq g1003.symm)
  have sz_b1003 : h0.size ≤ b1003 := Nat.le_trans KK0.1 (Nat.le_of_eq g1003.symm)
  have f1004 : Sta Z h1003 "java/lang/String" "COMPACT_STRINGS" "Z" (.int w) := Sc.ext E1003
  have KK1003 : Keep h0 h1003 [] := KK0.ext E1003
  have Z1003 := Nat.le_trans Z0 E1003.1
  have ex_b1003 := A1003
  have f1005 : Fld Z h1003 b1003 "java/lang/String" "coder" "B" (.int (0 : Int32)) := D1003 (Or.inr (hw _ (List.mem_of_getElem? (i := 35) rfl))) (ty := .byte) (by decide)
  have f1006 : Fld Z h1003 b1003 "java/lang/String" "value" "[B" .null := D1003 (Or.inr (hw _ (List.mem_of_getElem? (i := 37) rfl))) (ty := (.array .byte)) (by decide)
  show OEnds p.tables e below G (T1003.setTop (mkF m 16 #[.val (.int p1)] [(.ref b1003)]))
  refine OEnds.st (fun _ k => XS.dup X1003.here hx rfl (hb hby d8_16) rfl rfl k) ?_
  show OEnds p.tables e below G (T1003.setTop (mkF m 17 #[.val (.int p1)] [(.ref b1003), (.ref b1003)]))
  refine OEnds.st (fun _ k => XS.iloadN X1003.here hx rfl (hb hby d8_17) rfl k) ?_
  show OEnds p.tables e below G (T1003.setTop (mkF m 18 #[.val (.int p1)] [(.int p1), (.ref b1003), (.ref b1003)]))
  obtain ⟨_, _, ⟨T1007, L1007, k1007c, n1007c⟩, -, X1007, ⟨Lc1007, hQ1007, l1007, y1007, z1007⟩, st1007⟩ := Jvm.LawKit.callS X1003 hx (y := (⟨"java/lang/StringLatin1", "toBytes", "(C)[B"⟩ : MethodName)) hown (mvT hZ (hw _ (List.mem_of_getElem? (i := 46) rfl))) (mvT hZ (hw _ (List.mem_of_getElem? (i := 47) rfl))) (mvT hZ (hw _ (List.mem_of_getElem? (i := 43) rfl))) (mvT hZ (hw _ (List.mem_of_getElem? (i := 48) rfl))) (by decide) (backOf (W := 2) (rm10 l Z a0 hw [] p1 h1003 n0 Z1003 ) hZ (hw _ (List.mem_of_getElem? (i := 48) rfl)) (hw _ (List.mem_of_getElem? (i := 43) rfl)) (by decide) (by decide)) (g := (mkF m 18 #[.val (.int p1)] [(.int p1), (.ref b1003), (.ref b1003)])) rfl (by rw [hml]; rfl) (argsL := [(.int p1)]) (rest := [(.ref b1003), (.ref b1003)]) (lenOf pd_5 rfl) rfl (by show 2 * 0 + _ ≤ _; exact Nat.le_of_eq rfl) (hb hby d8_18) (fun _ _ => ⟨rfl, e1003, (by decide : 0 + 0 + 1 + 1 ≤ _), (by decide : 0 + 0 + 4 + 1 ≤ _)⟩)
  dsimp only [Pt.U, Pt.locs, Pt.cells, Pt.slots] at X1007 l1007 y1007 z1007 st1007 hQ1007
  subst l1007 y1007 z1007
  obtain ⟨b_1007, kb_1007, rfl, N1007q, p1008, p1009, p1010⟩ := hQ1007
  have N1007 := Fr.app N1002 N1007q
  refine OEnds.st st1007 ?_
  clear st1007
  have ne1011 : b1003 ≠ b_1007 := Nat.ne_of_lt (Nat.lt_of_lt_of_le (ex_b1003).lt p1009)
  have sz_b_1007 : h0.size ≤ b_1007 := Nat.le_trans KK1003.1 p1009
  have ge_b_1007 : n0 ≤ b_1007 := Nat.le_trans Z1003 p1009
  have f1012 : Sta Z T1007.heap "java/lang/String" "COMPACT_STRINGS" "Z" (.int w) := own_Sta_keep f1004 p1008 (fun x hx => absurd hx List.not_mem_nil)
  have f1013 : Exa Z T1007.heap b1003 "java/lang/String" := ex_b1003.keep p1008
  have f1014 : Fld Z T1007.heap b1003 "java/lang/String" "coder" "B" (.int (0 : Int32)) := f1005.keep p1008 (List.not_mem_nil)
  have f1015 : Fld Z T1007.heap b1003 "java/lang/String" "value" "[B" .null := f1006.keep p1008 (List.not_mem_nil)
  have KK1007 : Keep h0 T1007.heap [] := KK1003.trans p1008 (fun x hx => absurd hx List.not_mem_nil)
  have Z1007 := Nat.le_trans Z1003 p1008.1
  show OEnds p.tables e below G (T1007.setTop (mkF m 21 #[.val (.int p1)] [(.ref b_1007), (.ref b1003), (.ref b1003)]))
  refine OEnds.st (fun _ k => XS.iconst X1007.here hx rfl (hb hby d8_21) k) ?_
  show OEnds p.tables e below G (T1007.setTop (mkF m 22 #[.val (.int p1)] [(.int (0 : Int32)), (.ref b_1007), (.ref b1003), (.ref b1003)]))
  obtain ⟨_, _, ⟨T1016, L1016, k1016c, n1016c⟩, -, X1016, ⟨Lc1016, hQ1016, l1016, y1016, z1016⟩, st1016⟩ := X1007.specialBack hx (y := (⟨"java/lang/String", "<init>", "([BB)V"⟩ : MethodName)) rfl hown (mvT hZ (hw _ (List.mem_of_getElem? (i := 49) rfl))) (mvT hZ (hw _ (List.mem_of_getElem? (i := 50) rfl))) (mvT hZ (hw _ (List.mem_of_getElem? (i := 51) rfl))) (by decide) (backOf (W := 1) (rm11 l Z a0 hw [] b1003 b_1007 T1007.heap n0 Z1007 f1013 f1015 f1014 ge_b1003) hZ (hw _ (List.mem_of_getElem? (i := 51) rfl)) (hw _ (List.mem_of_getElem? (i := 10) rfl)) (by decide) (by decide)) (g := (mkF m 22 #[.val (.int p1)] [(.int (0 : Int32)), (.ref b_1007), (.ref b1003), (.ref b1003)])) rfl (by rw [hml]; rfl) (Steps.refl _) (a := b1003) (argsL := [(.ref b_1007), (.int (0 : Int32))]) (rest := [(.ref b1003)]) (lenOf pd_6 rfl) rfl (by show 2 * 0 + _ ≤ _; exact Nat.le_of_eq rfl) (hb hby d8_22) (fun _ _ => ⟨rfl, rfl, (by decide : 0 + 0 + 1 + 1 + 0 ≤ _), (by decide : 0 + 0 + 4 + 1 + 0 ≤ _)⟩)
  dsimp only [Pt.U, Pt.locs, Pt.cells, Pt.slots] at X1016 l1016 y1016 z1016 st1016 hQ1016
  subst l1016 y1016 z1016
  obtain ⟨rfl, N1016q, p1017, p1018⟩ := hQ1016
  have N1016 := Fr.app N1007 N1016q
  refine OEnds.st (fun _ k => st1016.trans k) ?_
  clear st1016
  have f1019 : Sta Z T1016.heap "java/lang/String" "COMPACT_STRINGS" "Z" (.int w) := own_Sta_keep f1012 p1017 (fun x hx => by cases List.mem_singleton.mp hx; exact own_exa_ns f1013)
  have f1020 : Exa Z T1016.heap b1003 "java/lang/String" := f1013.keep p1017
  have f1023 : Arv Z T1016.heap b_1007 kb_1007 .byte (1 : Int32) [(.int (p1.toInt8.toInt32))] (.int (0 : Int32)) := p1010.keep p1017 (by simp only [List.mem_cons, List.not_mem_nil, or_false, not_or]; exact (Ne.symm ne1011))
  have KK1016 : Keep h0 T1016.heap [] := KK1007.trans p1017 (fun x hx => by cases List.mem_singleton.mp hx; exact Or.inr sz_b1003)
  have Z1016 := Nat.le_trans Z1007 p1017.1
  show OEnds p.tables e below G (T1016.setTop (mkF m 25 #[.val (.int p1)] [(.ref b1003)]))
  rw [← hG]
  refine OEnds.retA X1016 hx hlk Bd.returns (by first | rfl | exact rfl) rfl (hb hby d8_25) (by decide) (by decide) ?_
  show _
  exact ⟨b1003, rfl, N1016, KK1016, sz_b1003, p1018⟩
theorem pn_3 : plainName "com/example/coracle_health/coraclehealth/oauth/TokenErrorStatusPinLaw" = true := by first | (simp [plainName, overriddenIn]; done) | decide +kernel
theorem ef_1 (m : MethodId) (p1 : Int32) : entryFrame m #[(.int p1)] 2 = mkF m 0 #[.val (.int p1), .unset] [] := by first | (simp [entryFrame, mkF, argsToLocals, Value.category]; done) | rfl
def Q1 (Z : State) (p1 : Int32) (o0 : Addr) (o1 : Addr) (o2 : Addr) (o3 : Addr) (o4 : Addr) (o5 : Addr) (h0 : Heap) (n0 : Nat) (v : Option Value) (h : Heap) (L : List Loc) : Prop := ∃ (ob : Addr), v = some (.ref ob) ∧ Fr n0 L ∧ h = h0
theorem d1_0 : decode method_2_code 0 = .ok (.iload_n 0, 1) := by decide +kernel
theorem d1_1 : decode method_2_code 1 = .ok (.ldc 7, 2) := by decide +kernel
theorem d1_3 : decode method_2_code 3 = .ok (.iand, 1) := by decide +kernel
theorem d1_4 : decode method_2_code 4 = .ok (.bipush 6, 2) := by decide +kernel
theorem d1_6 : decode method_2_code 6 = .ok (.irem, 1) := by decide +kernel
theorem d1_7 : decode method_2_code 7 = .ok (.istore_n 1, 1) := by decide +kernel
theorem d1_8 : decode method_2_code 8 = .ok (.iload_n 1, 1) := by decide +kernel
theorem d1_9 : decode method_2_code 9 = .ok (.ifCond .ne 7, 3) := by decide +kernel
theorem d1_12 : decode method_2_code 12 = .ok (.getstatic 8, 3) := by decide +kernel
theorem d1_15 : decode method_2_code 15 = .ok (.areturn, 1) := by decide +kernel
theorem d1_16 : decode method_2_code 16 = .ok (.iload_n 1, 1) := by decide +kernel
theorem d1_17 : decode method_2_code 17 = .ok (.iconst 1, 1) := by decide +kernel
theorem d1_18 : decode method_2_code 18 = .ok (.if_icmp .ne 7, 3) := by decide +kernel
theorem d1_21 : decode method_2_code 21 = .ok (.getstatic 14, 3) := by decide +kernel
theorem d1_24 : decode method_2_code 24 = .ok (.areturn, 1) := by decide +kernel
theorem d1_25 : decode method_2_code 25 = .ok (.iload_n 1, 1) := by decide +kernel
theorem d1_26 : decode method_2_code 26 = .ok (.iconst 2, 1) := by decide +kernel
theorem d1_27 : decode method_2_code 27 = .ok (.if_icmp .ne 7, 3) := by decide +kernel
theorem d1_30 : decode method_2_code 30 = .ok (.getstatic 17, 3) := by decide +kernel
theorem d1_33 : decode method_2_code 33 = .ok (.areturn, 1) := by decide +kernel
theorem d1_34 : decode method_2_code 34 = .ok (.iload_n 1, 1) := by decide +kernel
theorem d1_35 : decode method_2_code 35 = .ok (.iconst 3, 1) := by decide +kernel
theorem d1_36 : decode method_2_code 36 = .ok (.if_icmp .ne 7, 3) := by decide +kernel
theorem d1_39 : decode method_2_code 39 = .ok (.getstatic 20, 3) := by decide +kernel
theorem d1_42 : decode method_2_code 42 = .ok (.areturn, 1) := by decide +kernel
theorem d1_43 : decode method_2_code 43 = .ok (.iload_n 1, 1) := by decide +kernel
theorem d1_44 : decode method_2_code 44 = .ok (.iconst 4, 1) := by decide +kernel
theorem d1_45 : decode method_2_code 45 = .ok (.if_icmp .ne 7, 3) := by decide +kernel
theorem d1_48 : decode method_2_code 48 = .ok (.getstatic 23, 3) := by decide +kernel
theorem d1_51 : decode method_2_code 51 = .ok (.areturn, 1) := by decide +kernel
theorem d1_52 : decode method_2_code 52 = .ok (.getstatic 26, 3) := by decide +kernel
theorem d1_55 : decode method_2_code 55 = .ok (.areturn, 1) := by decide +kernel
set_option maxRecDepth 65536 in
set_option maxHeartbeats 40000000 in
theorem rm1 (l : Launch) (Z : State) (a0 : Array Value) (hw : ∀ d ∈ tables_1, d.before a0 Z = true) (ws : List Jvm.Cond) (p1 : Int32) (o0 : Addr) (o1 : Addr) (o2 : Addr) (o3 : Addr) (o4 : Addr) (o5 : Addr) (h0 : Heap) (n0 : Nat) (Z0 : n0 ≤ h0.size) (Sk0 : Sta Z h0 "com/example/coracle_health/coraclehealth/oauth/TokenError$Code" "INVALID_REQUEST" "Lcom/example/coracle_health/coraclehealth/oauth/TokenError$Code;" (.ref o0)) (Sk1 : Sta Z h0 "com/example/coracle_health/coraclehealth/oauth/TokenError$Code" "INVALID_GRANT" "Lcom/example/coracle_health/coraclehealth/oauth/TokenError$Code;" (.ref o1)) (Sk2 : Sta Z h0 "com/example/coracle_health/coraclehealth/oauth/TokenError$Code" "INVALID_CLIENT" "Lcom/example/coracle_health/coraclehealth/oauth/TokenError$Code;" (.ref o2)) (Sk3 : Sta Z h0 "com/example/coracle_health/coraclehealth/oauth/TokenError$Code" "UNSUPPORTED_GRANT_TYPE" "Lcom/example/coracle_health/coraclehealth/oauth/TokenError$Code;" (.ref o3)) (Sk4 : Sta Z h0 "com/example/coracle_health/coraclehealth/oauth/TokenError$Code" "INVALID_SCOPE" "Lcom/example/coracle_health/coraclehealth/oauth/TokenError$Code;" (.ref o4)) (Sk5 : Sta Z h0 "com/example/coracle_health/coraclehealth/oauth/TokenError$Code" "TEMPORARILY_UNAVAILABLE" "Lcom/example/coracle_health/coraclehealth/oauth/TokenError$Code;" (.ref o5)) :
    MetFree l (⟨"com/example/coracle_health/coraclehealth/oauth/TokenErrorStatusPinLaw", "pick", "(I)Lcom/example/coracle_health/coraclehealth/oauth/TokenError$Code;"⟩ : MethodName) (head1 (Jvm.Cond.code (⟨"com/example/coracle_health/coraclehealth/oauth/TokenErrorStatusPinLaw", "pick", "(I)Lcom/example/coracle_health/coraclehealth/oauth/TokenError$Code;"⟩ : MethodName) method_2_code 2 (some (.object "com/example/coracle_health/coraclehealth/oauth/TokenError$Code")) :: ws) ({ frames := 0, cells := 0, slots := 0, locals := 0 } : Room)) (fun a U => a = #[(.int p1)] ∧ Z.Warmed39 U.vm ∧ U.heap = h0) (fun _ _ _ _ _ => True) (fun _ U o U' => ∃ v L, o = .returned v ∧ Q1 Z p1 o0 o1 o2 o3 o4 o5 h0 n0 v U'.heap L ∧ FrameEnd U o U' L ({ frames := 0, cells := 0, slots := 0, locals := 0 } : Room).cells ({ frames := 0, cells := 0, slots := 0, locals := 0 } : Room).slots) := by
  refine MetFree.of_bodySF (plainFor_of_name pn_3) hisR ?_
  intro p e s m args below meth c s₁ Bd hml0 hP hK
  obtain ⟨rfl, hZ, hh⟩ := hP
  have hx := Bd.exec
  have hby := Bd.bytes
  have hml : c.maxLocals = 2 := hml0
  have hown : s.vm.findClass "com/example/coracle_health/coraclehealth/oauth/TokenErrorStatusPinLaw" = some m.cls := findClass_of_methodNamed Bd.named
  have hnm := (name_of_methodNamed Bd.named Bd.method).1
  have hlk : meth.locks = false := BodyLoose.notSynchronized Bd
  have X0 : Stand p l e ({ frames := 0, cells := 0, slots := 0, locals := 0 } : Room) s m #[(.int p1)] below meth c s₁ [] 0 0 := Stand.of_body Bd
  have e0 : s₁.heap = h0 := by rw [← hh, Bd.state]; rfl
  have N0 := Fr.nil n0
  show OEnds p.tables e below (OGoal (Q1 Z p1 o0 o1 o2 o3 o4 o5 h0 n0) s 0 0) (s₁.setTop (entryFrame m #[(.int p1)] 2))
  refine OEnds.st (fun t k => castTop (ef_1 m p1) k) ?_
  generalize hG : OGoal (Q1 Z p1 o0 o1 o2 o3 o4 o5 h0 n0) s 0 0 = G
  have KK0 : Keep h0 h0 [] := Keep.refl h0 []
  show OEnds p.tables e below G (s₁.setTop (mkF m 0 #[.val (.int p1), .unset] []))
  refine OEnds.st (fun _ k => XS.iloadN X0.here hx rfl (hb hby d1_0) rfl k) ?_
  show OEnds p.tables e below G (s₁.setTop (mkF m 1 #[.val (.int p1), .unset] [(.int p1)]))
  refine OEnds.st (X0.ldcInt hx hown (mvT hZ (hw _ (List.mem_of_getElem? (i := 4) rfl))) (g := (mkF m 1 #[.val (.int p1), .unset] [(.int p1)])) rfl (hb hby d1_1)) ?_
  show OEnds p.tables e below G (s₁.setTop (mkF m 3 #[.val (.int p1), .unset] [(.int (2147483647 : Int32)), (.int p1)]))
  refine OEnds.st (fun _ k => XS.iand X0.here hx rfl (hb hby d1_3) rfl k) ?_
  show OEnds p.tables e below G (s₁.setTop (mkF m 4 #[.val (.int p1), .unset] [(.int (p1 &&& (2147483647 : Int32)))]))
  refine OEnds.st (fun _ k => XS.bipush X0.here hx rfl (hb hby d1_4) k) ?_
  show OEnds p.tables e below G (s₁.setTop (mkF m 6 #[.val (.int p1), .unset] [(.int (6 : Int32)), (.int (p1 &&& (2147483647 : Int32)))]))
  refine OEnds.st (fun _ k => iremM X0 hx rfl (hb hby d1_6) rfl (by decide) k) ?_
  show OEnds p.tables e below G (s₁.setTop (mkF m 7 #[.val (.int p1), .unset] [(.int ((p1 &&& (2147483647 : Int32)) % (6 : Int32)))]))
  refine OEnds.st (fun _ k => XS.istoreN X0.here hx rfl (hb hby d1_7) rfl (l' := #[.val (.int p1), .val (.int ((p1 &&& (2147483647 : Int32)) % (6 : Int32)))]) rfl k) ?_
  show OEnds p.tables e below G (s₁.setTop (mkF m 8 #[.val (.int p1), .val (.int ((p1 &&& (2147483647 : Int32)) % (6 : Int32)))] []))
  generalize hv_v1001 : ((p1 &&& (2147483647 : Int32)) % (6 : Int32)) = v1001
  show OEnds p.tables e below G (s₁.setTop (mkF m 8 #[.val (.int p1), .val (.int v1001)] []))
  refine OEnds.st (fun _ k => XS.iloadN X0.here hx rfl (hb hby d1_8) rfl k) ?_
  show OEnds p.tables e below G (s₁.setTop (mkF m 9 #[.val (.int p1), .val (.int v1001)] [(.int v1001)]))
  by_cases hc9_1002 : v1001 = (0 : Int32)
  · -- pc 9: yes
    refine OEnds.st (fun _ k => XS.ifNo X0.here hx rfl (hb hby d1_9) rfl ((if0 _ _).trans (teq hc9_1002).2) k) ?_
    show OEnds p.tables e below G (s₁.setTop (mkF m 12 #[.val (.int p1), .val (.int v1001)] []))
    obtain ⟨T1003, X1003, e1003, st1003⟩ := getS2 X0 hx hZ hown (host := "") (Or.inl (hw _ (List.mem_of_getElem? (i := 5) rfl))) Via.refl e0 Sk0 (g := (mkF m 12 #[.val (.int p1), .val (.int v1001)] [])) rfl (hb hby d1_12)
    refine OEnds.st st1003 ?_
    clear st1003
    show OEnds p.tables e below G (T1003.setTop (mkF m 15 #[.val (.int p1), .val (.int v1001)] [(.ref o0)]))
    rw [← hG]
    refine OEnds.retA X1003 hx hlk Bd.returns (by first | rfl | exact rfl) rfl (hb hby d1_15) (by decide) (by decide) ?_
    rw [e1003]
    exact ⟨o0, rfl, N0, rfl⟩
  · -- pc 9: no
    refine OEnds.st (fun _ k => XS.ifYes X0.here hx rfl (pc0 := 9) (pc' := 16) rfl (hb hby d1_9) rfl ((if0 _ _).trans (feq hc9_1002).2) (by decide) (by decide) k) ?_
    show OEnds p.tables e below G (s₁.setTop (mkF m 16 #[.val (.int p1), .val (.int v1001)] []))
    refine OEnds.st (fun _ k => XS.iloadN X0.here hx rfl (hb hby d1_16) rfl k) ?_
    show OEnds p.tables e below G (s₁.setTop (mkF m 17 #[.val (.int p1), .val (.int v1001)] [(.int v1001)]))
    refine OEnds.st (fun _ k => XS.iconst X0.here hx rfl (hb hby d1_17) k) ?_
    show OEnds p.tables e below G (s₁.setTop (mkF m 18 #[.val (.int p1), .val (.int v1001)] [(.int (1 : Int32)), (.int v1001)]))
    by_cases hc18_1004 : v1001 = (1 : Int32)
    · -- pc 18: yes
      refine OEnds.st (fun _ k => XS.icmpNo X0.here hx rfl (hb hby d1_18) rfl (teq hc18_1004).2 k) ?_
      show OEnds p.tables e below G (s₁.setTop (mkF m 21 #[.val (.int p1), .val (.int v1001)] []))
      obtain ⟨T1005, X1005, e1005, st1005⟩ := getS2 X0 hx hZ hown (host := "") (Or.inl (hw _ (List.mem_of_getElem? (i := 119) rfl))) Via.refl e0 Sk1 (g := (mkF m 21 #[.val (.int p1), .val (.int v1001)] [])) rfl (hb hby d1_21)
      refine OEnds.st st1005 ?_
      clear st1005
      show OEnds p.tables e below G (T1005.setTop (mkF m 24 #[.val (.int p1), .val (.int v1001)] [(.ref o1)]))
      rw [← hG]
      refine OEnds.retA X1005 hx hlk Bd.returns (by first | rfl | exact rfl) rfl (hb hby d1_24) (by decide) (by decide) ?_
      rw [e1005]
      exact ⟨o1, rfl, N0, rfl⟩
    · -- pc 18: no
      refine OEnds.st (fun _ k => XS.icmpYes X0.here hx rfl (pc0 := 18) (pc' := 25) rfl (hb hby d1_18) rfl (feq hc18_1004).2 (by decide) (by decide) k) ?_
      show OEnds p.tables e below G (s₁.setTop (mkF m 25 #[.val (.int p1), .val (.int v1001)] []))
      refine OEnds.st (fun _ k => XS.iloadN X0.here hx rfl (hb hby d1_25) rfl k) ?_
      show OEnds p.tables e below G (s₁.setTop (mkF m 26 #[.val (.int p1), .val (.int v1001)] [(.int v1001)]))
      refine OEnds.st (fun _ k => XS.iconst X0.here hx rfl (hb hby d1_26) k) ?_
      show OEnds p.tables e below G (s₁.setTop (mkF m 27 #[.val (.int p1), .val (.int v1001)] [(.int (2 : Int32)), (.int v1001)]))
      by_cases hc27_1006 : v1001 = (2 : Int32)
      · -- pc 27: yes
        refine OEnds.st (fun _ k => XS.icmpNo X0.here hx rfl (hb hby d1_27) rfl (teq hc27_1006).2 k) ?_
        show OEnds p.tables e below G (s₁.setTop (mkF m 30 #[.val (.int p1), .val (.int v1001)] []))
        obtain ⟨T1007, X1007, e1007, st1007⟩ := getS2 X0 hx hZ hown (host := "") (Or.inl (hw _ (List.mem_of_getElem? (i := 130) rfl))) Via.refl e0 Sk2 (g := (mkF m 30 #[.val (.int p1), .val (.int v1001)] [])) rfl (hb hby d1_30)
        refine OEnds.st st1007 ?_
        clear st1007
        show OEnds p.tables e below G (T1007.setTop (mkF m 33 #[.val (.int p1), .val (.int v1001)] [(.ref o2)]))
        rw [← hG]
        refine OEnds.retA X1007 hx hlk Bd.returns (by first | rfl | exact rfl) rfl (hb hby d1_33) (by decide) (by decide) ?_
        rw [e1007]
        exact ⟨o2, rfl, N0, rfl⟩
      · -- pc 27: no
        refine OEnds.st (fun _ k => XS.icmpYes X0.here hx rfl (pc0 := 27) (pc' := 34) rfl (hb hby d1_27) rfl (feq hc27_1006).2 (by decide) (by decide) k) ?_
        show OEnds p.tables e below G (s₁.setTop (mkF m 34 #[.val (.int p1), .val (.int v1001)] []))
        refine OEnds.st (fun _ k => XS.iloadN X0.here hx rfl (hb hby d1_34) rfl k) ?_
        show OEnds p.tables e below G (s₁.setTop (mkF m 35 #[.val (.int p1), .val (.int v1001)] [(.int v1001)]))
        refine OEnds.st (fun _ k => XS.iconst X0.here hx rfl (hb hby d1_35) k) ?_
        show OEnds p.tables e below G (s₁.setTop (mkF m 36 #[.val (.int p1), .val (.int v1001)] [(.int (3 : Int32)), (.int v1001)]))
        by_cases hc36_1008 : v1001 = (3 : Int32)
        · -- pc 36: yes
          refine OEnds.st (fun _ k => XS.icmpNo X0.here hx rfl (hb hby d1_36) rfl (teq hc36_1008).2 k) ?_
          show OEnds p.tables e below G (s₁.setTop (mkF m 39 #[.val (.int p1), .val (.int v1001)] []))
          obtain ⟨T1009, X1009, e1009, st1009⟩ := getS2 X0 hx hZ hown (host := "") (Or.inl (hw _ (List.mem_of_getElem? (i := 123) rfl))) Via.refl e0 Sk3 (g := (mkF m 39 #[.val (.int p1), .val (.int v1001)] [])) rfl (hb hby d1_39)
          refine OEnds.st st1009 ?_
          clear st1009
          show OEnds p.tables e below G (T1009.setTop (mkF m 42 #[.val (.int p1), .val (.int v1001)] [(.ref o3)]))
          rw [← hG]
          refine OEnds.retA X1009 hx hlk Bd.returns (by first | rfl | exact rfl) rfl (hb hby d1_42) (by decide) (by decide) ?_
          rw [e1009]
          exact ⟨o3, rfl, N0, rfl⟩
        · -- pc 36: no
          refine OEnds.st (fun _ k => XS.icmpYes X0.here hx rfl (pc0 := 36) (pc' := 43) rfl (hb hby d1_36) rfl (feq hc36_1008).2 (by decide) (by decide) k) ?_
          show OEnds p.tables e below G (s₁.setTop (mkF m 43 #[.val (.int p1), .val (.int v1001)] []))
          refine OEnds.st (fun _ k => XS.iloadN X0.here hx rfl (hb hby d1_43) rfl k) ?_
          show OEnds p.tables e below G (s₁.setTop (mkF m 44 #[.val (.int p1), .val (.int v1001)] [(.int v1001)]))
          refine OEnds.st (fun _ k => XS.iconst X0.here hx rfl (hb hby d1_44) k) ?_
          show OEnds p.tables e below G (s₁.setTop (mkF m 45 #[.val (.int p1), .val (.int v1001)] [(.int (4 : Int32)), (.int v1001)]))
          by_cases hc45_1010 : v1001 = (4 : Int32)
          · -- pc 45: yes
            refine OEnds.st (fun _ k => XS.icmpNo X0.here hx rfl (hb hby d1_45) rfl (teq hc45_1010).2 k) ?_
            show OEnds p.tables e below G (s₁.setTop (mkF m 48 #[.val (.int p1), .val (.int v1001)] []))
            obtain ⟨T1011, X1011, e1011, st1011⟩ := getS2 X0 hx hZ hown (host := "") (Or.inl (hw _ (List.mem_of_getElem? (i := 121) rfl))) Via.refl e0 Sk4 (g := (mkF m 48 #[.val (.int p1), .val (.int v1001)] [])) rfl (hb hby d1_48)
            refine OEnds.st st1011 ?_
            clear st1011
            show OEnds p.tables e below G (T1011.setTop (mkF m 51 #[.val (.int p1), .val (.int v1001)] [(.ref o4)]))
            rw [← hG]
            refine OEnds.retA X1011 hx hlk Bd.returns (by first | rfl | exact rfl) rfl (hb hby d1_51) (by decide) (by decide) ?_
            rw [e1011]
            exact ⟨o4, rfl, N0, rfl⟩
          · -- pc 45: no
            refine OEnds.st (fun _ k => XS.icmpYes X0.here hx rfl (pc0 := 45) (pc' := 52) rfl (hb hby d1_45) rfl (feq hc45_1010).2 (by decide) (by decide) k) ?_
            show OEnds p.tables e below G (s₁.setTop (mkF m 52 #[.val (.int p1), .val (.int v1001)] []))
            obtain ⟨T1012, X1012, e1012, st1012⟩ := getS2 X0 hx hZ hown (host := "") (Or.inl (hw _ (List.mem_of_getElem? (i := 128) rfl))) Via.refl e0 Sk5 (g := (mkF m 52 #[.val (.int p1), .val (.int v1001)] [])) rfl (hb hby d1_52)
            refine OEnds.st st1012 ?_
            clear st1012
            show OEnds p.tables e below G (T1012.setTop (mkF m 55 #[.val (.int p1), .val (.int v1001)] [(.ref o5)]))
            rw [← hG]
            refine OEnds.retA X1012 hx hlk Bd.returns (by first | rfl | exact rfl) rfl (hb hby d1_55) (by decide) (by decide) ?_
            rw [e1012]
            exact ⟨o5, rfl, N0, rfl⟩
theorem pn_4 : plainName "java/lang/Throwable" = true := by first | (simp [plainName, overriddenIn]; done) | decide +kernel
theorem ef_thI (m : MethodId) (a1 : Addr) (a2 : Addr) : entryFrame m #[(.ref a1), (.ref a2)] 2 = mkF m 0 #[.val (.ref a1), .val (.ref a2)] [] := by first | (simp [entryFrame, mkF, argsToLocals, Value.category]; done) | rfl
def QthI (Z : State) (a1 : Addr) (a2 : Addr) (u1 : Addr) (u2 : Addr) (h0 : Heap) (n0 : Nat) (v : Option Value) (h : Heap) (L : List Loc) : Prop := v = none ∧ Fr n0 L ∧ Keep h0 h [a1] ∧ Exa Z h a1 "com/example/coracle_health/coraclehealth/oauth/TokenError"
theorem d14_0 : decode jdk_78_method_2_code 0 = .ok (.aload_n 0, 1) := by decide +kernel
theorem d14_1 : decode jdk_78_method_2_code 1 = .ok (.invokespecial 1, 3) := by decide +kernel
theorem d14_4 : decode jdk_78_method_2_code 4 = .ok (.aload_n 0, 1) := by decide +kernel
theorem d14_5 : decode jdk_78_method_2_code 5 = .ok (.aload_n 0, 1) := by decide +kernel
theorem d14_6 : decode jdk_78_method_2_code 6 = .ok (.putfield 7, 3) := by decide +kernel
theorem d14_9 : decode jdk_78_method_2_code 9 = .ok (.aload_n 0, 1) := by decide +kernel
theorem d14_10 : decode jdk_78_method_2_code 10 = .ok (.getstatic 13, 3) := by decide +kernel
theorem d14_13 : decode jdk_78_method_2_code 13 = .ok (.putfield 17, 3) := by decide +kernel
theorem d14_16 : decode jdk_78_method_2_code 16 = .ok (.aload_n 0, 1) := by decide +kernel
theorem d14_17 : decode jdk_78_method_2_code 17 = .ok (.getstatic 20, 3) := by decide +kernel
theorem d14_20 : decode jdk_78_method_2_code 20 = .ok (.putfield 24, 3) := by decide +kernel
theorem d14_23 : decode jdk_78_method_2_code 23 = .ok (.aload_n 0, 1) := by decide +kernel
theorem d14_24 : decode jdk_78_method_2_code 24 = .ok (.invokevirtual 27, 3) := by decide +kernel
theorem d14_27 : decode jdk_78_method_2_code 27 = .ok (.pop, 1) := by decide +kernel
theorem d14_28 : decode jdk_78_method_2_code 28 = .ok (.aload_n 0, 1) := by decide +kernel
theorem d14_29 : decode jdk_78_method_2_code 29 = .ok (.aload_n 1, 1) := by decide +kernel
theorem d14_30 : decode jdk_78_method_2_code 30 = .ok (.putfield 31, 3) := by decide +kernel
theorem d14_33 : decode jdk_78_method_2_code 33 = .ok (.return_, 1) := by decide +kernel
set_option maxRecDepth 65536 in
set_option maxHeartbeats 40000000 in
theorem rmthI (l : Launch) (Z : State) (a0 : Array Value) (hw : ∀ d ∈ tables_1, d.before a0 Z = true) (ws : List Jvm.Cond) (a1 : Addr) (a2 : Addr) (u1 : Addr) (u2 : Addr) (h0 : Heap) (n0 : Nat) (Z0 : n0 ≤ h0.size) (TS : ThS Z h0) (U : Unt h0 a1) (E : Exa Z h0 a1 "com/example/coracle_health/coraclehealth/oauth/TokenError") (B1 : Fld Z h0 a1 "java/lang/Throwable" "backtrace" "Ljava/lang/Object;" .null) (B2 : Fld Z h0 a1 "java/lang/Throwable" "detailMessage" "Ljava/lang/String;" .null) (B3 : Fld Z h0 a1 "java/lang/Throwable" "cause" "Ljava/lang/Throwable;" .null) (B4 : Fld Z h0 a1 "java/lang/Throwable" "stackTrace" "[Ljava/lang/StackTraceElement;" .null) (B5 : Fld Z h0 a1 "java/lang/Throwable" "suppressedExceptions" "Ljava/util/List;" .null) (Su : Sta Z h0 "java/lang/Throwable" "UNASSIGNED_STACK" "[Ljava/lang/StackTraceElement;" (.ref u1)) (Sv : Sta Z h0 "java/lang/Throwable" "SUPPRESSED_SENTINEL" "Ljava/util/List;" (.ref u2)) (g_a1 : n0 ≤ a1) (hl : l.stackTraces = true) :
    MetFree l (⟨"java/lang/Throwable", "<init>", "(Ljava/lang/String;)V"⟩ : MethodName) (head1 (Jvm.Cond.code (⟨"java/lang/Throwable", "<init>", "(Ljava/lang/String;)V"⟩ : MethodName) jdk_78_method_2_code 2 none :: ws) ({ frames := 3, cells := 1, slots := 2752, locals := 42 } : Room)) (fun a U => a = #[(.ref a1), (.ref a2)] ∧ Z.Warmed39 U.vm ∧ U.heap = h0) (fun _ _ bl s _ => s.vm.MethodsKnown ∧ s.vm.FramesKnown bl) (fun _ U o U' => ∃ v L, o = .returned v ∧ QthI Z a1 a2 u1 u2 h0 n0 v U'.heap L ∧ FrameEnd U o U' L ({ frames := 3, cells := 1, slots := 2752, locals := 42 } : Room).cells ({ frames := 3, cells := 1, slots := 2752, locals := 42 } : Room).slots) := by
  refine MetFree.of_bodySF (plainFor_of_name pn_4) hisR ?_
  intro p e s m args below meth c s₁ Bd hml0 hP hK
  obtain ⟨rfl, hZ, hh⟩ := hP
  have hx := Bd.exec
  have hby := Bd.bytes
  have hml : c.maxLocals = 2 := hml0
  have hown : s.vm.findClass "java/lang/Throwable" = some m.cls := findClass_of_methodNamed Bd.named
  have hnm := (name_of_methodNamed Bd.named Bd.method).1
  have hlk : meth.locks = false := BodyLoose.notSynchronized Bd
  have X0 : Stand p l e ({ frames := 3, cells := 1, slots := 2752, locals := 42 } : Room) s m #[(.ref a1), (.ref a2)] below meth c s₁ [] 0 0 := Stand.of_body Bd
  have e0 : s₁.heap = h0 := by rw [← hh, Bd.state]; rfl
  have N0 := Fr.nil n0
  show OEnds p.tables e below (OGoal (QthI Z a1 a2 u1 u2 h0 n0) s 1 2752) (s₁.setTop (entryFrame m #[(.ref a1), (.ref a2)] 2))
  refine OEnds.st (fun t k => castTop (ef_thI m a1 a2) k) ?_
  generalize hG : OGoal (QthI Z a1 a2 u1 u2 h0 n0) s 1 2752 = G
  obtain ⟨hTK, hBel⟩ := hK
  have M0 : ∀ y ∈ ([] : List Loc), y.base = a1 := fun _ h => nomatch h
  have KK0 : Keep h0 h0 [a1] := Keep.refl h0 [a1]
  show OEnds p.tables e below G (s₁.setTop (mkF m 0 #[.val (.ref a1), .val (.ref a2)] []))
  refine OEnds.st (fun _ k => XS.aloadN X0.here hx rfl (hb hby d14_0) rfl rfl k) ?_
  show OEnds p.tables e below G (s₁.setTop (mkF m 1 #[.val (.ref a1), .val (.ref a2)] [(.ref a1)]))
  obtain ⟨T1001, X1001, e1001, st1001⟩ := initO X0 hx hZ hown (hw _ (List.mem_of_getElem? (i := 69) rfl)) (hw _ (List.mem_of_getElem? (i := 20) rfl)) (hw _ (List.mem_of_getElem? (i := 21) rfl)) e0 (g := (mkF m 1 #[.val (.ref a1), .val (.ref a2)] [(.ref a1)])) rfl (by rw [hml]; rfl) rfl (hb hby d14_1) (by decide) (W := 0) (by show 2 * 0 + _ ≤ _; exact Nat.le_of_eq rfl) (by decide)
  refine OEnds.st st1001 ?_
  clear st1001
  show OEnds p.tables e below G (T1001.setTop (mkF m 4 #[.val (.ref a1), .val (.ref a2)] []))
  refine OEnds.st (fun _ k => XS.aloadN X1001.here hx rfl (hb hby d14_4) rfl rfl k) ?_
  show OEnds p.tables e below G (T1001.setTop (mkF m 5 #[.val (.ref a1), .val (.ref a2)] [(.ref a1)]))
  refine OEnds.st (fun _ k => XS.aloadN X1001.here hx rfl (hb hby d14_5) rfl rfl k) ?_
  show OEnds p.tables e below G (T1001.setTop (mkF m 6 #[.val (.ref a1), .val (.ref a2)] [(.ref a1), (.ref a1)]))
  obtain ⟨T1002, h1002, X1002, e1002, W1002, st1002⟩ := putF X1001 hx hZ hown (host := "") (Or.inl (hw _ (List.mem_of_getElem? (i := 70) rfl))) Via.refl e1001 B3 E (Or.inl (hw _ (List.mem_of_getElem? (i := 71) rfl))) (hw _ (List.mem_of_getElem? (i := 53) rfl)) (ty := (.object "java/lang/Throwable")) (by decide) rfl rfl (g := (mkF m 6 #[.val (.ref a1), .val (.ref a2)] [(.ref a1), (.ref a1)])) rfl rfl (hb hby d14_6)
  refine OEnds.st st1002 ?_
  clear st1002
  have f1003 : Fld Z h1002 a1 "java/lang/Throwable" "cause" "Ljava/lang/Throwable;" (.ref a1) := B3.same W1002
  have f1004 : Unt h1002 a1 := Unt.wr W1002 U
  have f1005 : Exa Z h1002 a1 "com/example/coracle_health/coraclehealth/oauth/TokenError" := E.wr W1002
  have f1006 : Fld Z h1002 a1 "java/lang/Throwable" "backtrace" "Ljava/lang/Object;" .null := B1.other W1002 (Or.inr (slot_ne (Or.inl (hw _ (List.mem_of_getElem? (i := 102) rfl))) (Or.inl (hw _ (List.mem_of_getElem? (i := 71) rfl))) (by decide) (t := (.object "java/lang/Object")) (t' := (.object "java/lang/Throwable")) (by decide) (by decide)))
  have f1007 : Fld Z h1002 a1 "java/lang/Throwable" "detailMessage" "Ljava/lang/String;" .null := B2.other W1002 (Or.inr (slot_ne (Or.inl (hw _ (List.mem_of_getElem? (i := 101) rfl))) (Or.inl (hw _ (List.mem_of_getElem? (i := 71) rfl))) (by decide) (t := (.object "java/lang/String")) (t' := (.object "java/lang/Throwable")) (by decide) (by decide)))
  have f1009 : Fld Z h1002 a1 "java/lang/Throwable" "stackTrace" "[Ljava/lang/StackTraceElement;" .null := B4.other W1002 (Or.inr (slot_ne (Or.inl (hw _ (List.mem_of_getElem? (i := 74) rfl))) (Or.inl (hw _ (List.mem_of_getElem? (i := 71) rfl))) (by decide) (t := (.array (.object "java/lang/StackTraceElement"))) (t' := (.object "java/lang/Throwable")) (by decide) (by decide)))
  have f1010 : Fld Z h1002 a1 "java/lang/Throwable" "suppressedExceptions" "Ljava/util/List;" .null := B5.other W1002 (Or.inr (slot_ne (Or.inl (hw _ (List.mem_of_getElem? (i := 77) rfl))) (Or.inl (hw _ (List.mem_of_getElem? (i := 71) rfl))) (by decide) (t := (.object "java/util/List")) (t' := (.object "java/lang/Throwable")) (by decide) (by decide)))
  have f1011 : Sta Z h1002 "java/lang/Throwable" "UNASSIGNED_STACK" "[Ljava/lang/StackTraceElement;" (.ref u1) := Su.wr W1002
  have f1012 : Sta Z h1002 "java/lang/Throwable" "SUPPRESSED_SENTINEL" "Ljava/util/List;" (.ref u2) := Sv.wr W1002
  have N1002 := Fr.snoc X1002 N0 g_a1
  have M1002 := own_bs X1002 M0
  have KK1002 : Keep h0 h1002 [a1] := KK0.wr W1002 (Or.inl (List.mem_of_getElem? (i := 0) rfl))
  have Z1002 := Nat.le_trans Z0 (Keep.of_wr W1002).1
  show OEnds p.tables e below G (T1002.setTop (mkF m 9 #[.val (.ref a1), .val (.ref a2)] []))
  refine OEnds.st (fun _ k => XS.aloadN X1002.here hx rfl (hb hby d14_9) rfl rfl k) ?_
  show OEnds p.tables e below G (T1002.setTop (mkF m 10 #[.val (.ref a1), .val (.ref a2)] [(.ref a1)]))
  obtain ⟨T1013, X1013, e1013, st1013⟩ := getS2 X1002 hx hZ hown (host := "") (Or.inl (hw _ (List.mem_of_getElem? (i := 72) rfl))) Via.refl e1002 f1011 (g := (mkF m 10 #[.val (.ref a1), .val (.ref a2)] [(.ref a1)])) rfl (hb hby d14_10)
  refine OEnds.st st1013 ?_
  clear st1013
  show OEnds p.tables e below G (T1013.setTop (mkF m 13 #[.val (.ref a1), .val (.ref a2)] [(.ref u1), (.ref a1)]))
  obtain ⟨T1014, h1014, X1014, e1014, W1014, st1014⟩ := putF X1013 hx hZ hown (host := "") (Or.inl (hw _ (List.mem_of_getElem? (i := 73) rfl))) Via.refl e1013 f1009 f1005 (Or.inl (hw _ (List.mem_of_getElem? (i := 74) rfl))) (hw _ (List.mem_of_getElem? (i := 53) rfl)) (ty := (.array (.object "java/lang/StackTraceElement"))) (by decide) rfl rfl (g := (mkF m 13 #[.val (.ref a1), .val (.ref a2)] [(.ref u1), (.ref a1)])) rfl rfl (hb hby d14_13)
  refine OEnds.st st1014 ?_
  clear st1014
  have f1015 : Fld Z h1014 a1 "java/lang/Throwable" "stackTrace" "[Ljava/lang/StackTraceElement;" (.ref u1) := f1009.same W1014
  have f1016 : Unt h1014 a1 := Unt.wr W1014 f1004
  have f1017 : Exa Z h1014 a1 "com/example/coracle_health/coraclehealth/oauth/TokenError" := f1005.wr W1014
  have f1018 : Fld Z h1014 a1 "java/lang/Throwable" "backtrace" "Ljava/lang/Object;" .null := f1006.other W1014 (Or.inr (slot_ne (Or.inl (hw _ (List.mem_of_getElem? (i := 102) rfl))) (Or.inl (hw _ (List.mem_of_getElem? (i := 74) rfl))) (by decide) (t := (.object "java/lang/Object")) (t' := (.array (.object "java/lang/StackTraceElement"))) (by decide) (by decide)))
  have f1019 : Fld Z h1014 a1 "java/lang/Throwable" "detailMessage" "Ljava/lang/String;" .null := f1007.other W1014 (Or.inr (slot_ne (Or.inl (hw _ (List.mem_of_getElem? (i := 101) rfl))) (Or.inl (hw _ (List.mem_of_getElem? (i := 74) rfl))) (by decide) (t := (.object "java/lang/String")) (t' := (.array (.object "java/lang/StackTraceElement"))) (by decide) (by decide)))
  have f1021 : Fld Z h1014 a1 "java/lang/Throwable" "suppressedExceptions" "Ljava/util/List;" .null := f1010.other W1014 (Or.inr (slot_ne (Or.inl (hw _ (List.mem_of_getElem? (i := 77) rfl))) (Or.inl (hw _ (List.mem_of_getElem? (i := 74) rfl))) (by decide) (t := (.object "java/util/List")) (t' := (.array (.object "java/lang/StackTraceElement"))) (by decide) (by decide)))
  have f1022 : Sta Z h1014 "java/lang/Throwable" "UNASSIGNED_STACK" "[Ljava/lang/StackTraceElement;" (.ref u1) := f1011.wr W1014
  have f1023 : Sta Z h1014 "java/lang/Throwable" "SUPPRESSED_SENTINEL" "Ljava/util/List;" (.ref u2) := f1012.wr W1014
  have f1024 : Fld Z h1014 a1 "java/lang/Throwable" "cause" "Ljava/lang/Throwable;" (.ref a1) := f1003.other W1014 (Or.inr (slot_ne (Or.inl (hw _ (List.mem_of_getElem? (i := 71) rfl))) (Or.inl (hw _ (List.mem_of_getElem? (i := 74) rfl))) (by decide) (t := (.object "java/lang/Throwable")) (t' := (.array (.object "java/lang/StackTraceElement"))) (by decide) (by decide)))
  have N1014 := Fr.snoc X1014 N1002 g_a1
  have M1014 := own_bs X1014 M1002
  have KK1014 : Keep h0 h1014 [a1] := KK1002.wr W1014 (Or.inl (List.mem_of_getElem? (i := 0) rfl))
  have Z1014 := Nat.le_trans Z1002 (Keep.of_wr W1014).1
  show OEnds p.tables e below G (T1014.setTop (mkF m 16 #[.val (.ref a1), .val (.ref a2)] []))
  refine OEnds.st (fun _ k => XS.aloadN X1014.here hx rfl (hb hby d14_16) rfl rfl k) ?_
  show OEnds p.tables e below G (T1014.setTop (mkF m 17 #[.val (.ref a1), .val (.ref a2)] [(.ref a1)]))
  obtain ⟨T1025, X1025, e1025, st1025⟩ := getS2 X1014 hx hZ hown (host := "") (Or.inl (hw _ (List.mem_of_getElem? (i := 75) rfl))) Via.refl e1014 f1023 (g := (mkF m 17 #[.val (.ref a1), .val (.ref a2)] [(.ref a1)])) rfl (hb hby d14_17)
  refine OEnds.st st1025 ?_
  clear st1025
  show OEnds p.tables e below G (T1025.setTop (mkF m 20 #[.val (.ref a1), .val (.ref a2)] [(.ref u2), (.ref a1)]))
  obtain ⟨T1026, h1026, X1026, e1026, W1026, st1026⟩ := putF X1025 hx hZ hown (host := "") (Or.inl (hw _ (List.mem_of_getElem? (i := 76) rfl))) Via.refl e1025 f1021 f1017 (Or.inl (hw _ (List.mem_of_getElem? (i := 77) rfl))) (hw _ (List.mem_of_getElem? (i := 53) rfl)) (ty := (.object "java/util/List")) (by decide) rfl rfl (g := (mkF m 20 #[.val (.ref a1), .val (.ref a2)] [(.ref u2), (.ref a1)])) rfl rfl (hb hby d14_20)
  refine OEnds.st st1026 ?_
  clear st1026
  have f1027 : Fld Z h1026 a1 "java/lang/Throwable" "suppressedExceptions" "Ljava/util/List;" (.ref u2) := f1021.same W1026
  have f1028 : Unt h1026 a1 := Unt.wr W1026 f1016
  have f1029 : Exa Z h1026 a1 "com/example/coracle_health/coraclehealth/oauth/TokenError" := f1017.wr W1026
  have f1030 : Fld Z h1026 a1 "java/lang/Throwable" "backtrace" "Ljava/lang/Object;" .null := f1018.other W1026 (Or.inr (slot_ne (Or.inl (hw _ (List.mem_of_getElem? (i := 102) rfl))) (Or.inl (hw _ (List.mem_of_getElem? (i := 77) rfl))) (by decide) (t := (.object "java/lang/Object")) (t' := (.object "java/util/List")) (by decide) (by decide)))
  have f1031 : Fld Z h1026 a1 "java/lang/Throwable" "detailMessage" "Ljava/lang/String;" .null := f1019.other W1026 (Or.inr (slot_ne (Or.inl (hw _ (List.mem_of_getElem? (i := 101) rfl))) (Or.inl (hw _ (List.mem_of_getElem? (i := 77) rfl))) (by decide) (t := (.object "java/lang/String")) (t' := (.object "java/util/List")) (by decide) (by decide)))
  have f1033 : Sta Z h1026 "java/lang/Throwable" "UNASSIGNED_STACK" "[Ljava/lang/StackTraceElement;" (.ref u1) := f1022.wr W1026
  have f1034 : Sta Z h1026 "java/lang/Throwable" "SUPPRESSED_SENTINEL" "Ljava/util/List;" (.ref u2) := f1023.wr W1026
  have f1035 : Fld Z h1026 a1 "java/lang/Throwable" "cause" "Ljava/lang/Throwable;" (.ref a1) := f1024.other W1026 (Or.inr (slot_ne (Or.inl (hw _ (List.mem_of_getElem? (i := 71) rfl))) (Or.inl (hw _ (List.mem_of_getElem? (i := 77) rfl))) (by decide) (t := (.object "java/lang/Throwable")) (t' := (.object "java/util/List")) (by decide) (by decide)))
  have f1036 : Fld Z h1026 a1 "java/lang/Throwable" "stackTrace" "[Ljava/lang/StackTraceElement;" (.ref u1) := f1015.other W1026 (Or.inr (slot_ne (Or.inl (hw _ (List.mem_of_getElem? (i := 74) rfl))) (Or.inl (hw _ (List.mem_of_getElem? (i := 77) rfl))) (by decide) (t := (.array (.object "java/lang/StackTraceElement"))) (t' := (.object "java/util/List")) (by decide) (by decide)))
  have N1026 := Fr.snoc X1026 N1014 g_a1
  have M1026 := own_bs X1026 M1014
  have KK1026 : Keep h0 h1026 [a1] := KK1014.wr W1026 (Or.inl (List.mem_of_getElem? (i := 0) rfl))
  have Z1026 := Nat.le_trans Z1014 (Keep.of_wr W1026).1
  show OEnds p.tables e below G (T1026.setTop (mkF m 23 #[.val (.ref a1), .val (.ref a2)] []))
  refine OEnds.st (fun _ k => XS.aloadN X1026.here hx rfl (hb hby d14_23) rfl rfl k) ?_
  show OEnds p.tables e below G (T1026.setTop (mkF m 24 #[.val (.ref a1), .val (.ref a2)] [(.ref a1)]))
  obtain ⟨T1038, L1038, hb1038, X1038, E1038, kn1038, st1038⟩ := own_fill X1026 hx hl hZ hw hown (by rw [hh]; exact TS) hTK hBel e1026 f1029 f1028 f1030 f1036 f1033 (g := (mkF m 24 #[.val (.ref a1), .val (.ref a2)] [(.ref a1)])) rfl (by rw [hml]; rfl) rfl (hb hby d14_24) (W := 0) (by show 2 * 0 + 0 ≤ 0; decide) (by decide) (by decide) (by decide) (by decide)
  refine OEnds.st st1038 ?_
  clear st1038
  have N1038 := Fr.app N1026 (fun y hy => by rw [hb1038 y hy]; exact g_a1)
  have M1038 := own_bapp M1026 hb1038
  have KK1038 : Keep h0 T1038.heap [a1] := by rw [← hh]; exact own_keepS X1038 M1038
  have Z1038 := Nat.le_trans Z0 KK1038.1
  obtain ⟨vd1038, Fd1038⟩ := fld_laid E1038 kn1038 (hw _ (List.mem_of_getElem? (i := 53) rfl)) (Or.inl (hw _ (List.mem_of_getElem? (i := 101) rfl)))
  show OEnds p.tables e below G (T1038.setTop (mkF m 27 #[.val (.ref a1), .val (.ref a2)] [(.ref a1)]))
  refine OEnds.st (fun _ k => XS.pop X1038.here hx rfl (hb hby d14_27) rfl rfl k) ?_
  show OEnds p.tables e below G (T1038.setTop (mkF m 28 #[.val (.ref a1), .val (.ref a2)] []))
  refine OEnds.st (fun _ k => XS.aloadN X1038.here hx rfl (hb hby d14_28) rfl rfl k) ?_
  show OEnds p.tables e below G (T1038.setTop (mkF m 29 #[.val (.ref a1), .val (.ref a2)] [(.ref a1)]))
  refine OEnds.st (fun _ k => XS.aloadN X1038.here hx rfl (hb hby d14_29) rfl rfl k) ?_
  show OEnds p.tables e below G (T1038.setTop (mkF m 30 #[.val (.ref a1), .val (.ref a2)] [(.ref a2), (.ref a1)]))
  obtain ⟨T1039, h1039, X1039, e1039, W1039, st1039⟩ := putF X1038 hx hZ hown (host := "") (Or.inl (hw _ (List.mem_of_getElem? (i := 105) rfl))) Via.refl rfl Fd1038 E1038 (Or.inl (hw _ (List.mem_of_getElem? (i := 101) rfl))) (hw _ (List.mem_of_getElem? (i := 53) rfl)) (ty := (.object "java/lang/String")) (by decide) rfl rfl (g := (mkF m 30 #[.val (.ref a1), .val (.ref a2)] [(.ref a2), (.ref a1)])) rfl rfl (hb hby d14_30)
  refine OEnds.st st1039 ?_
  clear st1039
  have f1040 : Fld Z h1039 a1 "java/lang/Throwable" "detailMessage" "Ljava/lang/String;" (.ref a2) := Fd1038.same W1039
  have f1041 : Exa Z h1039 a1 "com/example/coracle_health/coraclehealth/oauth/TokenError" := E1038.wr W1039
  have N1039 := Fr.snoc X1039 N1038 g_a1
  have M1039 := own_bs X1039 M1038
  have KK1039 : Keep h0 h1039 [a1] := KK1038.wr W1039 (Or.inl (List.mem_of_getElem? (i := 0) rfl))
  have Z1039 := Nat.le_trans Z1038 (Keep.of_wr W1039).1
  show OEnds p.tables e below G (T1039.setTop (mkF m 33 #[.val (.ref a1), .val (.ref a2)] []))
  rw [← hG]
  refine OEnds.retV X1039 hx hlk Bd.returns (hb hby d14_33) (by decide) (by decide) ?_
  rw [e1039]
  exact ⟨rfl, N1039, KK1039, f1041⟩
theorem pn_5 : plainName "java/lang/Exception" = true := by first | (simp [plainName, overriddenIn]; done) | decide +kernel
theorem ef_exI (m : MethodId) (a1 : Addr) (a2 : Addr) : entryFrame m #[(.ref a1), (.ref a2)] 2 = mkF m 0 #[.val (.ref a1), .val (.ref a2)] [] := by first | (simp [entryFrame, mkF, argsToLocals, Value.category]; done) | rfl
def QexI (Z : State) (a1 : Addr) (a2 : Addr) (u1 : Addr) (u2 : Addr) (h0 : Heap) (n0 : Nat) (v : Option Value) (h : Heap) (L : List Loc) : Prop := v = none ∧ Fr n0 L ∧ Keep h0 h [a1] ∧ Exa Z h a1 "com/example/coracle_health/coraclehealth/oauth/TokenError"
theorem pd_7 : parseMethodDescriptor "(Ljava/lang/String;)V" = some ⟨[(.object "java/lang/String")], none⟩ := by decide +kernel
theorem d13_0 : decode jdk_59_method_2_code 0 = .ok (.aload_n 0, 1) := by decide +kernel
theorem d13_1 : decode jdk_59_method_2_code 1 = .ok (.aload_n 1, 1) := by decide +kernel
theorem d13_2 : decode jdk_59_method_2_code 2 = .ok (.invokespecial 7, 3) := by decide +kernel
theorem d13_5 : decode jdk_59_method_2_code 5 = .ok (.return_, 1) := by decide +kernel
set_option maxRecDepth 65536 in
set_option maxHeartbeats 40000000 in
theorem rmexI (l : Launch) (Z : State) (a0 : Array Value) (hw : ∀ d ∈ tables_1, d.before a0 Z = true) (ws : List Jvm.Cond) (a1 : Addr) (a2 : Addr) (u1 : Addr) (u2 : Addr) (h0 : Heap) (n0 : Nat) (Z0 : n0 ≤ h0.size) (TS : ThS Z h0) (U : Unt h0 a1) (E : Exa Z h0 a1 "com/example/coracle_health/coraclehealth/oauth/TokenError") (B1 : Fld Z h0 a1 "java/lang/Throwable" "backtrace" "Ljava/lang/Object;" .null) (B2 : Fld Z h0 a1 "java/lang/Throwable" "detailMessage" "Ljava/lang/String;" .null) (B3 : Fld Z h0 a1 "java/lang/Throwable" "cause" "Ljava/lang/Throwable;" .null) (B4 : Fld Z h0 a1 "java/lang/Throwable" "stackTrace" "[Ljava/lang/StackTraceElement;" .null) (B5 : Fld Z h0 a1 "java/lang/Throwable" "suppressedExceptions" "Ljava/util/List;" .null) (Su : Sta Z h0 "java/lang/Throwable" "UNASSIGNED_STACK" "[Ljava/lang/StackTraceElement;" (.ref u1)) (Sv : Sta Z h0 "java/lang/Throwable" "SUPPRESSED_SENTINEL" "Ljava/util/List;" (.ref u2)) (g_a1 : n0 ≤ a1) (hl : l.stackTraces = true) :
    MetFree l (⟨"java/lang/Exception", "<init>", "(Ljava/lang/String;)V"⟩ : MethodName) (head1 (Jvm.Cond.code (⟨"java/lang/Exception", "<init>", "(Ljava/lang/String;)V"⟩ : MethodName) jdk_59_method_2_code 2 none :: ws) ({ frames := 4, cells := 1, slots := 2752, locals := 55 } : Room)) (fun a U => a = #[(.ref a1), (.ref a2)] ∧ Z.Warmed39 U.vm ∧ U.heap = h0) (fun _ _ bl s _ => s.vm.MethodsKnown ∧ s.vm.FramesKnown bl) (fun _ U o U' => ∃ v L, o = .returned v ∧ QexI Z a1 a2 u1 u2 h0 n0 v U'.heap L ∧ FrameEnd U o U' L ({ frames := 4, cells := 1, slots := 2752, locals := 55 } : Room).cells ({ frames := 4, cells := 1, slots := 2752, locals := 55 } : Room).slots) := by
  refine MetFree.of_bodySF (plainFor_of_name pn_5) hisR ?_
  intro p e s m args below meth c s₁ Bd hml0 hP hK
  obtain ⟨rfl, hZ, hh⟩ := hP
  have hx := Bd.exec
  have hby := Bd.bytes
  have hml : c.maxLocals = 2 := hml0
  have hown : s.vm.findClass "java/lang/Exception" = some m.cls := findClass_of_methodNamed Bd.named
  have hnm := (name_of_methodNamed Bd.named Bd.method).1
  have hlk : meth.locks = false := BodyLoose.notSynchronized Bd
  have X0 : Stand p l e ({ frames := 4, cells := 1, slots := 2752, locals := 55 } : Room) s m #[(.ref a1), (.ref a2)] below meth c s₁ [] 0 0 := Stand.of_body Bd
  have e0 : s₁.heap = h0 := by rw [← hh, Bd.state]; rfl
  have N0 := Fr.nil n0
  show OEnds p.tables e below (OGoal (QexI Z a1 a2 u1 u2 h0 n0) s 1 2752) (s₁.setTop (entryFrame m #[(.ref a1), (.ref a2)] 2))
  refine OEnds.st (fun t k => castTop (ef_exI m a1 a2) k) ?_
  generalize hG : OGoal (QexI Z a1 a2 u1 u2 h0 n0) s 1 2752 = G
  obtain ⟨hTK, hBel⟩ := hK
  have KK0 : Keep h0 h0 [a1] := Keep.refl h0 [a1]
  show OEnds p.tables e below G (s₁.setTop (mkF m 0 #[.val (.ref a1), .val (.ref a2)] []))
  refine OEnds.st (fun _ k => XS.aloadN X0.here hx rfl (hb hby d13_0) rfl rfl k) ?_
  show OEnds p.tables e below G (s₁.setTop (mkF m 1 #[.val (.ref a1), .val (.ref a2)] [(.ref a1)]))
  refine OEnds.st (fun _ k => XS.aloadN X0.here hx rfl (hb hby d13_1) rfl rfl k) ?_
  show OEnds p.tables e below G (s₁.setTop (mkF m 2 #[.val (.ref a1), .val (.ref a2)] [(.ref a2), (.ref a1)]))
  obtain ⟨_, _, ⟨T1001, L1001, k1001c, n1001c⟩, -, X1001, ⟨Lc1001, hQ1001, l1001, y1001, z1001⟩, st1001⟩ := X0.specialBack hx (y := (⟨"java/lang/Throwable", "<init>", "(Ljava/lang/String;)V"⟩ : MethodName)) rfl hown (mvT hZ (hw _ (List.mem_of_getElem? (i := 63) rfl))) (mvT hZ (hw _ (List.mem_of_getElem? (i := 64) rfl))) (mvT hZ (hw _ (List.mem_of_getElem? (i := 68) rfl))) (by decide) (backOfKL (W := 0) (rmthI l Z a0 hw [] a1 a2 u1 u2 h0 n0 Z0 TS U E B1 B2 B3 B4 B5 Su Sv g_a1 hl) hZ (hw _ (List.mem_of_getElem? (i := 68) rfl)) (hw _ (List.mem_of_getElem? (i := 67) rfl)) (by decide) (by decide) hTK hBel) (g := (mkF m 2 #[.val (.ref a1), .val (.ref a2)] [(.ref a2), (.ref a1)])) rfl (by rw [hml]; rfl) (Steps.refl _) (a := a1) (argsL := [(.ref a2)]) (rest := []) (lenOf pd_7 rfl) rfl (by show 2 * 0 + _ ≤ _; exact Nat.le_of_eq rfl) (hb hby d13_2) (fun _ _ => ⟨rfl, e0, (by decide : 0 + 1 ≤ _), (by decide : 0 + 2752 ≤ _)⟩)
  dsimp only [Pt.U, Pt.locs, Pt.cells, Pt.slots] at X1001 l1001 y1001 z1001 st1001 hQ1001
  subst l1001 y1001 z1001
  obtain ⟨rfl, N1001q, p1002, p1003⟩ := hQ1001
  have N1001 := Fr.app N0 N1001q
  refine OEnds.st (fun _ k => st1001.trans k) ?_
  clear st1001
  have f1004 : Exa Z T1001.heap a1 "com/example/coracle_health/coraclehealth/oauth/TokenError" := E.keep p1002
  have f1010 : Sta Z T1001.heap "java/lang/Throwable" "UNASSIGNED_STACK" "[Ljava/lang/StackTraceElement;" (.ref u1) := own_Sta_keep Su p1002 (fun x hx => by cases List.mem_singleton.mp hx; exact own_exa_ns E)
  have f1011 : Sta Z T1001.heap "java/lang/Throwable" "SUPPRESSED_SENTINEL" "Ljava/util/List;" (.ref u2) := own_Sta_keep Sv p1002 (fun x hx => by cases List.mem_singleton.mp hx; exact own_exa_ns E)
  have KK1001 : Keep h0 T1001.heap [a1] := KK0.trans p1002 (fun x hx => by cases List.mem_singleton.mp hx; exact Or.inl (List.mem_of_getElem? (i := 0) rfl))
  have Z1001 := Nat.le_trans Z0 p1002.1
  show OEnds p.tables e below G (T1001.setTop (mkF m 5 #[.val (.ref a1), .val (.ref a2)] []))
  rw [← hG]
  refine OEnds.retV X1001 hx hlk Bd.returns (hb hby d13_5) (by decide) (by decide) ?_
  show _
  exact ⟨rfl, N1001, KK1001, p1003⟩
theorem pn_6 : plainName "com/example/coracle_health/coraclehealth/oauth/TokenError" = true := by first | (simp [plainName, overriddenIn]; done) | decide +kernel
theorem ef_ti0 (m : MethodId) (a1 : Addr) (a2 : Addr) (a3 : Addr) : entryFrame m #[(.ref a1), (.ref a2), (.ref a3), .null] 4 = mkF m 0 #[.val (.ref a1), .val (.ref a2), .val (.ref a3), .val .null] [] := by first | (simp [entryFrame, mkF, argsToLocals, Value.category]; done) | rfl
def Qti0 (Z : State) (a1 : Addr) (a2 : Addr) (a3 : Addr) (u1 : Addr) (u2 : Addr) (h0 : Heap) (n0 : Nat) (v : Option Value) (h : Heap) (L : List Loc) : Prop := v = none ∧ Fr n0 L ∧ Keep h0 h [a1] ∧ Exa Z h a1 "com/example/coracle_health/coraclehealth/oauth/TokenError" ∧ Fld Z h a1 "com/example/coracle_health/coraclehealth/oauth/TokenError" "challenge" "Ljava/lang/String;" .null
theorem d12_0 : decode prog_92_method_2_code 0 = .ok (.aload_n 0, 1) := by decide +kernel
theorem d12_1 : decode prog_92_method_2_code 1 = .ok (.aload_n 2, 1) := by decide +kernel
theorem d12_2 : decode prog_92_method_2_code 2 = .ok (.invokespecial 7, 3) := by decide +kernel
theorem d12_5 : decode prog_92_method_2_code 5 = .ok (.aload_n 0, 1) := by decide +kernel
theorem d12_6 : decode prog_92_method_2_code 6 = .ok (.aload_n 1, 1) := by decide +kernel
theorem d12_7 : decode prog_92_method_2_code 7 = .ok (.putfield 12, 3) := by decide +kernel
theorem d12_10 : decode prog_92_method_2_code 10 = .ok (.aload_n 0, 1) := by decide +kernel
theorem d12_11 : decode prog_92_method_2_code 11 = .ok (.aload_n 3, 1) := by decide +kernel
theorem d12_12 : decode prog_92_method_2_code 12 = .ok (.putfield 16, 3) := by decide +kernel
theorem d12_15 : decode prog_92_method_2_code 15 = .ok (.return_, 1) := by decide +kernel
set_option maxRecDepth 65536 in
set_option maxHeartbeats 40000000 in
theorem rmti0 (l : Launch) (Z : State) (a0 : Array Value) (hw : ∀ d ∈ tables_1, d.before a0 Z = true) (ws : List Jvm.Cond) (a1 : Addr) (a2 : Addr) (a3 : Addr) (u1 : Addr) (u2 : Addr) (h0 : Heap) (n0 : Nat) (Z0 : n0 ≤ h0.size) (TS : ThS Z h0) (U : Unt h0 a1) (E : Exa Z h0 a1 "com/example/coracle_health/coraclehealth/oauth/TokenError") (B1 : Fld Z h0 a1 "java/lang/Throwable" "backtrace" "Ljava/lang/Object;" .null) (B2 : Fld Z h0 a1 "java/lang/Throwable" "detailMessage" "Ljava/lang/String;" .null) (B3 : Fld Z h0 a1 "java/lang/Throwable" "cause" "Ljava/lang/Throwable;" .null) (B4 : Fld Z h0 a1 "java/lang/Throwable" "stackTrace" "[Ljava/lang/StackTraceElement;" .null) (B5 : Fld Z h0 a1 "java/lang/Throwable" "suppressedExceptions" "Ljava/util/List;" .null) (Su : Sta Z h0 "java/lang/Throwable" "UNASSIGNED_STACK" "[Ljava/lang/StackTraceElement;" (.ref u1)) (Sv : Sta Z h0 "java/lang/Throwable" "SUPPRESSED_SENTINEL" "Ljava/util/List;" (.ref u2)) (g_a1 : n0 ≤ a1) (hl : l.stackTraces = true) :
    MetFree l (⟨"com/example/coracle_health/coraclehealth/oauth/TokenError", "<init>", "(Lcom/example/coracle_health/coraclehealth/oauth/TokenError$Code;Ljava/lang/String;Ljava/lang/String;)V"⟩ : MethodName) (head1 (Jvm.Cond.code (⟨"com/example/coracle_health/coraclehealth/oauth/TokenError", "<init>", "(Lcom/example/coracle_health/coraclehealth/oauth/TokenError$Code;Ljava/lang/String;Ljava/lang/String;)V"⟩ : MethodName) prog_92_method_2_code 4 none :: ws) ({ frames := 5, cells := 1, slots := 2752, locals := 68 } : Room)) (fun a U => a = #[(.ref a1), (.ref a2), (.ref a3), .null] ∧ Z.Warmed39 U.vm ∧ U.heap = h0) (fun _ _ bl s _ => s.vm.MethodsKnown ∧ s.vm.FramesKnown bl) (fun _ U o U' => ∃ v L, o = .returned v ∧ Qti0 Z a1 a2 a3 u1 u2 h0 n0 v U'.heap L ∧ FrameEnd U o U' L ({ frames := 5, cells := 1, slots := 2752, locals := 68 } : Room).cells ({ frames := 5, cells := 1, slots := 2752, locals := 68 } : Room).slots) := by
  refine MetFree.of_bodySF (plainFor_of_name pn_6) hisR ?_
  intro p e s m args below meth c s₁ Bd hml0 hP hK
  obtain ⟨rfl, hZ, hh⟩ := hP
  have hx := Bd.exec
  have hby := Bd.bytes
  have hml : c.maxLocals = 4 := hml0
  have hown : s.vm.findClass "com/example/coracle_health/coraclehealth/oauth/TokenError" = some m.cls := findClass_of_methodNamed Bd.named
  have hnm := (name_of_methodNamed Bd.named Bd.method).1
  have hlk : meth.locks = false := BodyLoose.notSynchronized Bd
  have X0 : Stand p l e ({ frames := 5, cells := 1, slots := 2752, locals := 68 } : Room) s m #[(.ref a1), (.ref a2), (.ref a3), .null] below meth c s₁ [] 0 0 := Stand.of_body Bd
  have e0 : s₁.heap = h0 := by rw [← hh, Bd.state]; rfl
  have N0 := Fr.nil n0
  show OEnds p.tables e below (OGoal (Qti0 Z a1 a2 a3 u1 u2 h0 n0) s 1 2752) (s₁.setTop (entryFrame m #[(.ref a1), (.ref a2), (.ref a3), .null] 4))
  refine OEnds.st (fun t k => castTop (ef_ti0 m a1 a2 a3) k) ?_
  generalize hG : OGoal (Qti0 Z a1 a2 a3 u1 u2 h0 n0) s 1 2752 = G
  obtain ⟨hTK, hBel⟩ := hK
  have KK0 : Keep h0 h0 [a1] := Keep.refl h0 [a1]
  show OEnds p.tables e below G (s₁.setTop (mkF m 0 #[.val (.ref a1), .val (.ref a2), .val (.ref a3), .val .null] []))
  refine OEnds.st (fun _ k => XS.aloadN X0.here hx rfl (hb hby d12_0) rfl rfl k) ?_
  show OEnds p.tables e below G (s₁.setTop (mkF m 1 #[.val (.ref a1), .val (.ref a2), .val (.ref a3), .val .null] [(.ref a1)]))
  refine OEnds.st (fun _ k => XS.aloadN X0.here hx rfl (hb hby d12_1) rfl rfl k) ?_
  show OEnds p.tables e below G (s₁.setTop (mkF m 2 #[.val (.ref a1), .val (.ref a2), .val (.ref a3), .val .null] [(.ref a3), (.ref a1)]))
  obtain ⟨_, _, ⟨T1001, L1001, k1001c, n1001c⟩, -, X1001, ⟨Lc1001, hQ1001, l1001, y1001, z1001⟩, st1001⟩ := X0.specialBack hx (y := (⟨"java/lang/Exception", "<init>", "(Ljava/lang/String;)V"⟩ : MethodName)) rfl hown (mvT hZ (hw _ (List.mem_of_getElem? (i := 58) rfl))) (mvT hZ (hw _ (List.mem_of_getElem? (i := 59) rfl))) (mvT hZ (hw _ (List.mem_of_getElem? (i := 62) rfl))) (by decide) (backOfKL (W := 0) (rmexI l Z a0 hw [] a1 a3 u1 u2 h0 n0 Z0 TS U E B1 B2 B3 B4 B5 Su Sv g_a1 hl) hZ (hw _ (List.mem_of_getElem? (i := 62) rfl)) (hw _ (List.mem_of_getElem? (i := 61) rfl)) (by decide) (by decide) hTK hBel) (g := (mkF m 2 #[.val (.ref a1), .val (.ref a2), .val (.ref a3), .val .null] [(.ref a3), (.ref a1)])) rfl (by rw [hml]; rfl) (Steps.refl _) (a := a1) (argsL := [(.ref a3)]) (rest := []) (lenOf pd_7 rfl) rfl (by show 2 * 0 + _ ≤ _; exact Nat.le_of_eq rfl) (hb hby d12_2) (fun _ _ => ⟨rfl, e0, (by decide : 0 + 1 ≤ _), (by decide : 0 + 2752 ≤ _)⟩)
  dsimp only [Pt.U, Pt.locs, Pt.cells, Pt.slots] at X1001 l1001 y1001 z1001 st1001 hQ1001
  subst l1001 y1001 z1001
  obtain ⟨rfl, N1001q, p1002, p1003⟩ := hQ1001
  have N1001 := Fr.app N0 N1001q
  refine OEnds.st (fun _ k => st1001.trans k) ?_
  clear st1001
  have f1004 : Exa Z T1001.heap a1 "com/example/coracle_health/coraclehealth/oauth/TokenError" := E.keep p1002
  have f1010 : Sta Z T1001.heap "java/lang/Throwable" "UNASSIGNED_STACK" "[Ljava/lang/StackTraceElement;" (.ref u1) := own_Sta_keep Su p1002 (fun x hx => by cases List.mem_singleton.mp hx; exact own_exa_ns E)
  have f1011 : Sta Z T1001.heap "java/lang/Throwable" "SUPPRESSED_SENTINEL" "Ljava/util/List;" (.ref u2) := own_Sta_keep Sv p1002 (fun x hx => by cases List.mem_singleton.mp hx; exact own_exa_ns E)
  have KK1001 : Keep h0 T1001.heap [a1] := KK0.trans p1002 (fun x hx => by cases List.mem_singleton.mp hx; exact Or.inl (List.mem_of_getElem? (i := 0) rfl))
  have Z1001 := Nat.le_trans Z0 p1002.1
  have knT := own_knK KK1001 U
  obtain ⟨vk0, Fk0⟩ := fld_laid p1003 knT (hw _ (List.mem_of_getElem? (i := 53) rfl)) (Or.inr (hw _ (List.mem_of_getElem? (i := 107) rfl)))
  obtain ⟨vx0, Fx0⟩ := fld_laid p1003 knT (hw _ (List.mem_of_getElem? (i := 53) rfl)) (Or.inr (hw _ (List.mem_of_getElem? (i := 109) rfl)))
  show OEnds p.tables e below G (T1001.setTop (mkF m 5 #[.val (.ref a1), .val (.ref a2), .val (.ref a3), .val .null] []))
  refine OEnds.st (fun _ k => XS.aloadN X1001.here hx rfl (hb hby d12_5) rfl rfl k) ?_
  show OEnds p.tables e below G (T1001.setTop (mkF m 6 #[.val (.ref a1), .val (.ref a2), .val (.ref a3), .val .null] [(.ref a1)]))
  refine OEnds.st (fun _ k => XS.aloadN X1001.here hx rfl (hb hby d12_6) rfl rfl k) ?_
  show OEnds p.tables e below G (T1001.setTop (mkF m 7 #[.val (.ref a1), .val (.ref a2), .val (.ref a3), .val .null] [(.ref a2), (.ref a1)]))
  obtain ⟨T1012, h1012, X1012, e1012, W1012, st1012⟩ := putF X1001 hx hZ hown (host := "") (Or.inl (hw _ (List.mem_of_getElem? (i := 106) rfl))) Via.refl rfl Fk0 p1003 (Or.inr ⟨(hw _ (List.mem_of_getElem? (i := 107) rfl)), rfl, hnm⟩) (hw _ (List.mem_of_getElem? (i := 53) rfl)) (ty := (.object "com/example/coracle_health/coraclehealth/oauth/TokenError$Code")) (by decide) rfl rfl (g := (mkF m 7 #[.val (.ref a1), .val (.ref a2), .val (.ref a3), .val .null] [(.ref a2), (.ref a1)])) rfl rfl (hb hby d12_7)
  refine OEnds.st st1012 ?_
  clear st1012
  have f1013 : Fld Z h1012 a1 "com/example/coracle_health/coraclehealth/oauth/TokenError" "code" "Lcom/example/coracle_health/coraclehealth/oauth/TokenError$Code;" (.ref a2) := Fk0.same W1012
  have f1014 : Exa Z h1012 a1 "com/example/coracle_health/coraclehealth/oauth/TokenError" := p1003.wr W1012
  have f1015 : Sta Z h1012 "java/lang/Throwable" "UNASSIGNED_STACK" "[Ljava/lang/StackTraceElement;" (.ref u1) := f1010.wr W1012
  have f1016 : Sta Z h1012 "java/lang/Throwable" "SUPPRESSED_SENTINEL" "Ljava/util/List;" (.ref u2) := f1011.wr W1012
  have f1018 : Fld Z h1012 a1 "com/example/coracle_health/coraclehealth/oauth/TokenError" "challenge" "Ljava/lang/String;" vx0 := Fx0.other W1012 (Or.inr (slot_ne (Or.inr (hw _ (List.mem_of_getElem? (i := 109) rfl))) (Or.inr (hw _ (List.mem_of_getElem? (i := 107) rfl))) (by decide) (t := (.object "java/lang/String")) (t' := (.object "com/example/coracle_health/coraclehealth/oauth/TokenError$Code")) (by decide) (by decide)))
  have N1012 := Fr.snoc X1012 N1001 g_a1
  have KK1012 : Keep h0 h1012 [a1] := KK1001.wr W1012 (Or.inl (List.mem_of_getElem? (i := 0) rfl))
  have Z1012 := Nat.le_trans Z1001 (Keep.of_wr W1012).1
  show OEnds p.tables e below G (T1012.setTop (mkF m 10 #[.val (.ref a1), .val (.ref a2), .val (.ref a3), .val .null] []))
  refine OEnds.st (fun _ k => XS.aloadN X1012.here hx rfl (hb hby d12_10) rfl rfl k) ?_
  show OEnds p.tables e below G (T1012.setTop (mkF m 11 #[.val (.ref a1), .val (.ref a2), .val (.ref a3), .val .null] [(.ref a1)]))
  refine OEnds.st (fun _ k => XS.aloadN X1012.here hx rfl (hb hby d12_11) rfl rfl k) ?_
  show OEnds p.tables e below G (T1012.setTop (mkF m 12 #[.val (.ref a1), .val (.ref a2), .val (.ref a3), .val .null] [.null, (.ref a1)]))
  obtain ⟨T1019, h1019, X1019, e1019, W1019, st1019⟩ := putF X1012 hx hZ hown (host := "") (Or.inl (hw _ (List.mem_of_getElem? (i := 108) rfl))) Via.refl e1012 f1018 f1014 (Or.inr ⟨(hw _ (List.mem_of_getElem? (i := 109) rfl)), rfl, hnm⟩) (hw _ (List.mem_of_getElem? (i := 53) rfl)) (ty := (.object "java/lang/String")) (by decide) rfl rfl (g := (mkF m 12 #[.val (.ref a1), .val (.ref a2), .val (.ref a3), .val .null] [.null, (.ref a1)])) rfl rfl (hb hby d12_12)
  refine OEnds.st st1019 ?_
  clear st1019
  have f1020 : Fld Z h1019 a1 "com/example/coracle_health/coraclehealth/oauth/TokenError" "challenge" "Ljava/lang/String;" .null := f1018.same W1019
  have f1021 : Exa Z h1019 a1 "com/example/coracle_health/coraclehealth/oauth/TokenError" := f1014.wr W1019
  have f1022 : Sta Z h1019 "java/lang/Throwable" "UNASSIGNED_STACK" "[Ljava/lang/StackTraceElement;" (.ref u1) := f1015.wr W1019
  have f1023 : Sta Z h1019 "java/lang/Throwable" "SUPPRESSED_SENTINEL" "Ljava/util/List;" (.ref u2) := f1016.wr W1019
  have f1025 : Fld Z h1019 a1 "com/example/coracle_health/coraclehealth/oauth/TokenError" "code" "Lcom/example/coracle_health/coraclehealth/oauth/TokenError$Code;" (.ref a2) := f1013.other W1019 (Or.inr (slot_ne (Or.inr (hw _ (List.mem_of_getElem? (i := 107) rfl))) (Or.inr (hw _ (List.mem_of_getElem? (i := 109) rfl))) (by decide) (t := (.object "com/example/coracle_health/coraclehealth/oauth/TokenError$Code")) (t' := (.object "java/lang/String")) (by decide) (by decide)))
  have N1019 := Fr.snoc X1019 N1012 g_a1
  have KK1019 : Keep h0 h1019 [a1] := KK1012.wr W1019 (Or.inl (List.mem_of_getElem? (i := 0) rfl))
  have Z1019 := Nat.le_trans Z1012 (Keep.of_wr W1019).1
  show OEnds p.tables e below G (T1019.setTop (mkF m 15 #[.val (.ref a1), .val (.ref a2), .val (.ref a3), .val .null] []))
  rw [← hG]
  refine OEnds.retV X1019 hx hlk Bd.returns (hb hby d12_15) (by decide) (by decide) ?_
  rw [e1019]
  exact ⟨rfl, N1019, KK1019, f1021, f1020⟩
theorem ef_ti1 (m : MethodId) (a1 : Addr) (a2 : Addr) (a3 : Addr) (a4 : Addr) : entryFrame m #[(.ref a1), (.ref a2), (.ref a3), (.ref a4)] 4 = mkF m 0 #[.val (.ref a1), .val (.ref a2), .val (.ref a3), .val (.ref a4)] [] := by first | (simp [entryFrame, mkF, argsToLocals, Value.category]; done) | rfl
def Qti1 (Z : State) (a1 : Addr) (a2 : Addr) (a3 : Addr) (a4 : Addr) (u1 : Addr) (u2 : Addr) (h0 : Heap) (n0 : Nat) (v : Option Value) (h : Heap) (L : List Loc) : Prop := v = none ∧ Fr n0 L ∧ Keep h0 h [a1] ∧ Exa Z h a1 "com/example/coracle_health/coraclehealth/oauth/TokenError" ∧ Fld Z h a1 "com/example/coracle_health/coraclehealth/oauth/TokenError" "challenge" "Ljava/lang/String;" (.ref a4)
set_option maxRecDepth 65536 in
set_option maxHeartbeats 40000000 in
theorem rmti1 (l : Launch) (Z : State) (a0 : Array Value) (hw : ∀ d ∈ tables_1, d.before a0 Z = true) (ws : List Jvm.Cond) (a1 : Addr) (a2 : Addr) (a3 : Addr) (a4 : Addr) (u1 : Addr) (u2 : Addr) (h0 : Heap) (n0 : Nat) (Z0 : n0 ≤ h0.size) (TS : ThS Z h0) (U : Unt h0 a1) (E : Exa Z h0 a1 "com/example/coracle_health/coraclehealth/oauth/TokenError") (B1 : Fld Z h0 a1 "java/lang/Throwable" "backtrace" "Ljava/lang/Object;" .null) (B2 : Fld Z h0 a1 "java/lang/Throwable" "detailMessage" "Ljava/lang/String;" .null) (B3 : Fld Z h0 a1 "java/lang/Throwable" "cause" "Ljava/lang/Throwable;" .null) (B4 : Fld Z h0 a1 "java/lang/Throwable" "stackTrace" "[Ljava/lang/StackTraceElement;" .null) (B5 : Fld Z h0 a1 "java/lang/Throwable" "suppressedExceptions" "Ljava/util/List;" .null) (Su : Sta Z h0 "java/lang/Throwable" "UNASSIGNED_STACK" "[Ljava/lang/StackTraceElement;" (.ref u1)) (Sv : Sta Z h0 "java/lang/Throwable" "SUPPRESSED_SENTINEL" "Ljava/util/List;" (.ref u2)) (g_a1 : n0 ≤ a1) (hl : l.stackTraces = true) :
    MetFree l (⟨"com/example/coracle_health/coraclehealth/oauth/TokenError", "<init>", "(Lcom/example/coracle_health/coraclehealth/oauth/TokenError$Code;Ljava/lang/String;Ljava/lang/String;)V"⟩ : MethodName) (head1 (Jvm.Cond.code (⟨"com/example/coracle_health/coraclehealth/oauth/TokenError", "<init>", "(Lcom/example/coracle_health/coraclehealth/oauth/TokenError$Code;Ljava/lang/String;Ljava/lang/String;)V"⟩ : MethodName) prog_92_method_2_code 4 none :: ws) ({ frames := 5, cells := 1, slots := 2752, locals := 68 } : Room)) (fun a U => a = #[(.ref a1), (.ref a2), (.ref a3), (.ref a4)] ∧ Z.Warmed39 U.vm ∧ U.heap = h0) (fun _ _ bl s _ => s.vm.MethodsKnown ∧ s.vm.FramesKnown bl) (fun _ U o U' => ∃ v L, o = .returned v ∧ Qti1 Z a1 a2 a3 a4 u1 u2 h0 n0 v U'.heap L ∧ FrameEnd U o U' L ({ frames := 5, cells := 1, slots := 2752, locals := 68 } : Room).cells ({ frames := 5, cells := 1, slots := 2752, locals := 68 } : Room).slots) := by
  refine MetFree.of_bodySF (plainFor_of_name pn_6) hisR ?_
  intro p e s m args below meth c s₁ Bd hml0 hP hK
  obtain ⟨rfl, hZ, hh⟩ := hP
  have hx := Bd.exec
  have hby := Bd.bytes
  have hml : c.maxLocals = 4 := hml0
  have hown : s.vm.findClass "com/example/coracle_health/coraclehealth/oauth/TokenError" = some m.cls := findClass_of_methodNamed Bd.named
  have hnm := (name_of_methodNamed Bd.named Bd.method).1
  have hlk : meth.locks = false := BodyLoose.notSynchronized Bd
  have X0 : Stand p l e ({ frames := 5, cells := 1, slots := 2752, locals := 68 } : Room) s m #[(.ref a1), (.ref a2), (.ref a3), (.ref a4)] below meth c s₁ [] 0 0 := Stand.of_body Bd
  have e0 : s₁.heap = h0 := by rw [← hh, Bd.state]; rfl
  have N0 := Fr.nil n0
  show OEnds p.tables e below (OGoal (Qti1 Z a1 a2 a3 a4 u1 u2 h0 n0) s 1 2752) (s₁.setTop (entryFrame m #[(.ref a1), (.ref a2), (.ref a3), (.ref a4)] 4))
  refine OEnds.st (fun t k => castTop (ef_ti1 m a1 a2 a3 a4) k) ?_
  generalize hG : OGoal (Qti1 Z a1 a2 a3 a4 u1 u2 h0 n0) s 1 2752 = G
  obtain ⟨hTK, hBel⟩ := hK
  have KK0 : Keep h0 h0 [a1] := Keep.refl h0 [a1]
  show OEnds p.tables e below G (s₁.setTop (mkF m 0 #[.val (.ref a1), .val (.ref a2), .val (.ref a3), .val (.ref a4)] []))
  refine OEnds.st (fun _ k => XS.aloadN X0.here hx rfl (hb hby d12_0) rfl rfl k) ?_
  show OEnds p.tables e below G (s₁.setTop (mkF m 1 #[.val (.ref a1), .val (.ref a2), .val (.ref a3), .val (.ref a4)] [(.ref a1)]))
  refine OEnds.st (fun _ k => XS.aloadN X0.here hx rfl (hb hby d12_1) rfl rfl k) ?_
  show OEnds p.tables e below G (s₁.setTop (mkF m 2 #[.val (.ref a1), .val (.ref a2), .val (.ref a3), .val (.ref a4)] [(.ref a3), (.ref a1)]))
  obtain ⟨_, _, ⟨T1001, L1001, k1001c, n1001c⟩, -, X1001, ⟨Lc1001, hQ1001, l1001, y1001, z1001⟩, st1001⟩ := X0.specialBack hx (y := (⟨"java/lang/Exception", "<init>", "(Ljava/lang/String;)V"⟩ : MethodName)) rfl hown (mvT hZ (hw _ (List.mem_of_getElem? (i := 58) rfl))) (mvT hZ (hw _ (List.mem_of_getElem? (i := 59) rfl))) (mvT hZ (hw _ (List.mem_of_getElem? (i := 62) rfl))) (by decide) (backOfKL (W := 0) (rmexI l Z a0 hw [] a1 a3 u1 u2 h0 n0 Z0 TS U E B1 B2 B3 B4 B5 Su Sv g_a1 hl) hZ (hw _ (List.mem_of_getElem? (i := 62) rfl)) (hw _ (List.mem_of_getElem? (i := 61) rfl)) (by decide) (by decide) hTK hBel) (g := (mkF m 2 #[.val (.ref a1), .val (.ref a2), .val (.ref a3), .val (.ref a4)] [(.ref a3), (.ref a1)])) rfl (by rw [hml]; rfl) (Steps.refl _) (a := a1) (argsL := [(.ref a3)]) (rest := []) (lenOf pd_7 rfl) rfl (by show 2 * 0 + _ ≤ _; exact Nat.le_of_eq rfl) (hb hby d12_2) (fun _ _ => ⟨rfl, e0, (by decide : 0 + 1 ≤ _), (by decide : 0 + 2752 ≤ _)⟩)
  dsimp only [Pt.U, Pt.locs, Pt.cells, Pt.slots] at X1001 l1001 y1001 z1001 st1001 hQ1001
  subst l1001 y1001 z1001
  obtain ⟨rfl, N1001q, p1002, p1003⟩ := hQ1001
  have N1001 := Fr.app N0 N1001q
  refine OEnds.st (fun _ k => st1001.trans k) ?_
  clear st1001
  have f1004 : Exa Z T1001.heap a1 "com/example/coracle_health/coraclehealth/oauth/TokenError" := E.keep p1002
  have f1010 : Sta Z T1001.heap "java/lang/Throwable" "UNASSIGNED_STACK" "[Ljava/lang/StackTraceElement;" (.ref u1) := own_Sta_keep Su p1002 (fun x hx => by cases List.mem_singleton.mp hx; exact own_exa_ns E)
  have f1011 : Sta Z T1001.heap "java/lang/Throwable" "SUPPRESSED_SENTINEL" "Ljava/util/List;" (.ref u2) := own_Sta_keep Sv p1002 (fun x hx => by cases List.mem_singleton.mp hx; exact own_exa_ns E)
  have KK1001 : Keep h0 T1001.heap [a1] := KK0.trans p1002 (fun x hx => by cases List.mem_singleton.mp hx; exact Or.inl (List.mem_of_getElem? (i := 0) rfl))
  have Z1001 := Nat.le_trans Z0 p1002.1
  have knT := own_knK KK1001 U
  obtain ⟨vk0, Fk0⟩ := fld_laid p1003 knT (hw _ (List.mem_of_getElem? (i := 53) rfl)) (Or.inr (hw _ (List.mem_of_getElem? (i := 107) rfl)))
  obtain ⟨vx0, Fx0⟩ := fld_laid p1003 knT (hw _ (List.mem_of_getElem? (i := 53) rfl)) (Or.inr (hw _ (List.mem_of_getElem? (i := 109) rfl)))
  show OEnds p.tables e below G (T1001.setTop (mkF m 5 #[.val (.ref a1), .val (.ref a2), .val (.ref a3), .val (.ref a4)] []))
  refine OEnds.st (fun _ k => XS.aloadN X1001.here hx rfl (hb hby d12_5) rfl rfl k) ?_
  show OEnds p.tables e below G (T1001.setTop (mkF m 6 #[.val (.ref a1), .val (.ref a2), .val (.ref a3), .val (.ref a4)] [(.ref a1)]))
  refine OEnds.st (fun _ k => XS.aloadN X1001.here hx rfl (hb hby d12_6) rfl rfl k) ?_
  show OEnds p.tables e below G (T1001.setTop (mkF m 7 #[.val (.ref a1), .val (.ref a2), .val (.ref a3), .val (.ref a4)] [(.ref a2), (.ref a1)]))
  obtain ⟨T1012, h1012, X1012, e1012, W1012, st1012⟩ := putF X1001 hx hZ hown (host := "") (Or.inl (hw _ (List.mem_of_getElem? (i := 106) rfl))) Via.refl rfl Fk0 p1003 (Or.inr ⟨(hw _ (List.mem_of_getElem? (i := 107) rfl)), rfl, hnm⟩) (hw _ (List.mem_of_getElem? (i := 53) rfl)) (ty := (.object "com/example/coracle_health/coraclehealth/oauth/TokenError$Code")) (by decide) rfl rfl (g := (mkF m 7 #[.val (.ref a1), .val (.ref a2), .val (.ref a3), .val (.ref a4)] [(.ref a2), (.ref a1)])) rfl rfl (hb hby d12_7)
  refine OEnds.st st1012 ?_
  clear st1012
  have f1013 : Fld Z h1012 a1 "com/example/coracle_health/coraclehealth/oauth/TokenError" "code" "Lcom/example/coracle_health/coraclehealth/oauth/TokenError$Code;" (.ref a2) := Fk0.same W1012
  have f1014 : Exa Z h1012 a1 "com/example/coracle_health/coraclehealth/oauth/TokenError" := p1003.wr W1012
  have f1015 : Sta Z h1012 "java/lang/Throwable" "UNASSIGNED_STACK" "[Ljava/lang/StackTraceElement;" (.ref u1) := f1010.wr W1012
  have f1016 : Sta Z h1012 "java/lang/Throwable" "SUPPRESSED_SENTINEL" "Ljava/util/List;" (.ref u2) := f1011.wr W1012
  have f1018 : Fld Z h1012 a1 "com/example/coracle_health/coraclehealth/oauth/TokenError" "challenge" "Ljava/lang/String;" vx0 := Fx0.other W1012 (Or.inr (slot_ne (Or.inr (hw _ (List.mem_of_getElem? (i := 109) rfl))) (Or.inr (hw _ (List.mem_of_getElem? (i := 107) rfl))) (by decide) (t := (.object "java/lang/String")) (t' := (.object "com/example/coracle_health/coraclehealth/oauth/TokenError$Code")) (by decide) (by decide)))
  have N1012 := Fr.snoc X1012 N1001 g_a1
  have KK1012 : Keep h0 h1012 [a1] := KK1001.wr W1012 (Or.inl (List.mem_of_getElem? (i := 0) rfl))
  have Z1012 := Nat.le_trans Z1001 (Keep.of_wr W1012).1
  show OEnds p.tables e below G (T1012.setTop (mkF m 10 #[.val (.ref a1), .val (.ref a2), .val (.ref a3), .val (.ref a4)] []))
  refine OEnds.st (fun _ k => XS.aloadN X1012.here hx rfl (hb hby d12_10) rfl rfl k) ?_
  show OEnds p.tables e below G (T1012.setTop (mkF m 11 #[.val (.ref a1), .val (.ref a2), .val (.ref a3), .val (.ref a4)] [(.ref a1)]))
  refine OEnds.st (fun _ k => XS.aloadN X1012.here hx rfl (hb hby d12_11) rfl rfl k) ?_
  show OEnds p.tables e below G (T1012.setTop (mkF m 12 #[.val (.ref a1), .val (.ref a2), .val (.ref a3), .val (.ref a4)] [(.ref a4), (.ref a1)]))
  obtain ⟨T1019, h1019, X1019, e1019, W1019, st1019⟩ := putF X1012 hx hZ hown (host := "") (Or.inl (hw _ (List.mem_of_getElem? (i := 108) rfl))) Via.refl e1012 f1018 f1014 (Or.inr ⟨(hw _ (List.mem_of_getElem? (i := 109) rfl)), rfl, hnm⟩) (hw _ (List.mem_of_getElem? (i := 53) rfl)) (ty := (.object "java/lang/String")) (by decide) rfl rfl (g := (mkF m 12 #[.val (.ref a1), .val (.ref a2), .val (.ref a3), .val (.ref a4)] [(.ref a4), (.ref a1)])) rfl rfl (hb hby d12_12)
  refine OEnds.st st1019 ?_
  clear st1019
  have f1020 : Fld Z h1019 a1 "com/example/coracle_health/coraclehealth/oauth/TokenError" "challenge" "Ljava/lang/String;" (.ref a4) := f1018.same W1019
  have f1021 : Exa Z h1019 a1 "com/example/coracle_health/coraclehealth/oauth/TokenError" := f1014.wr W1019
  have f1022 : Sta Z h1019 "java/lang/Throwable" "UNASSIGNED_STACK" "[Ljava/lang/StackTraceElement;" (.ref u1) := f1015.wr W1019
  have f1023 : Sta Z h1019 "java/lang/Throwable" "SUPPRESSED_SENTINEL" "Ljava/util/List;" (.ref u2) := f1016.wr W1019
  have f1025 : Fld Z h1019 a1 "com/example/coracle_health/coraclehealth/oauth/TokenError" "code" "Lcom/example/coracle_health/coraclehealth/oauth/TokenError$Code;" (.ref a2) := f1013.other W1019 (Or.inr (slot_ne (Or.inr (hw _ (List.mem_of_getElem? (i := 107) rfl))) (Or.inr (hw _ (List.mem_of_getElem? (i := 109) rfl))) (by decide) (t := (.object "com/example/coracle_health/coraclehealth/oauth/TokenError$Code")) (t' := (.object "java/lang/String")) (by decide) (by decide)))
  have N1019 := Fr.snoc X1019 N1012 g_a1
  have KK1019 : Keep h0 h1019 [a1] := KK1012.wr W1019 (Or.inl (List.mem_of_getElem? (i := 0) rfl))
  have Z1019 := Nat.le_trans Z1012 (Keep.of_wr W1019).1
  show OEnds p.tables e below G (T1019.setTop (mkF m 15 #[.val (.ref a1), .val (.ref a2), .val (.ref a3), .val (.ref a4)] []))
  rw [← hG]
  refine OEnds.retV X1019 hx hlk Bd.returns (hb hby d12_15) (by decide) (by decide) ?_
  rw [e1019]
  exact ⟨rfl, N1019, KK1019, f1021, f1020⟩
theorem ef_t2 (m : MethodId) (a1 : Addr) (a2 : Addr) (a3 : Addr) : entryFrame m #[(.ref a1), (.ref a2), (.ref a3)] 3 = mkF m 0 #[.val (.ref a1), .val (.ref a2), .val (.ref a3)] [] := by first | (simp [entryFrame, mkF, argsToLocals, Value.category]; done) | rfl
def Qt2 (Z : State) (a1 : Addr) (a2 : Addr) (a3 : Addr) (u1 : Addr) (u2 : Addr) (h0 : Heap) (n0 : Nat) (v : Option Value) (h : Heap) (L : List Loc) : Prop := v = none ∧ Fr n0 L ∧ Keep h0 h [a1] ∧ Exa Z h a1 "com/example/coracle_health/coraclehealth/oauth/TokenError" ∧ Fld Z h a1 "com/example/coracle_health/coraclehealth/oauth/TokenError" "challenge" "Ljava/lang/String;" .null
theorem pd_8 : parseMethodDescriptor "(Lcom/example/coracle_health/coraclehealth/oauth/TokenError$Code;Ljava/lang/String;Ljava/lang/String;)V" = some ⟨[(.object "com/example/coracle_health/coraclehealth/oauth/TokenError$Code"), (.object "java/lang/String"), (.object "java/lang/String")], none⟩ := by decide +kernel
theorem d17_0 : decode prog_92_method_1_code 0 = .ok (.aload_n 0, 1) := by decide +kernel
theorem d17_1 : decode prog_92_method_1_code 1 = .ok (.aload_n 1, 1) := by decide +kernel
theorem d17_2 : decode prog_92_method_1_code 2 = .ok (.aload_n 2, 1) := by decide +kernel
theorem d17_3 : decode prog_92_method_1_code 3 = .ok (.aconst_null, 1) := by decide +kernel
theorem d17_4 : decode prog_92_method_1_code 4 = .ok (.invokespecial 1, 3) := by decide +kernel
theorem d17_7 : decode prog_92_method_1_code 7 = .ok (.return_, 1) := by decide +kernel
set_option maxRecDepth 65536 in
set_option maxHeartbeats 40000000 in
theorem rmt2 (l : Launch) (Z : State) (a0 : Array Value) (hw : ∀ d ∈ tables_1, d.before a0 Z = true) (ws : List Jvm.Cond) (a1 : Addr) (a2 : Addr) (a3 : Addr) (u1 : Addr) (u2 : Addr) (h0 : Heap) (n0 : Nat) (Z0 : n0 ≤ h0.size) (TS : ThS Z h0) (U : Unt h0 a1) (E : Exa Z h0 a1 "com/example/coracle_health/coraclehealth/oauth/TokenError") (B1 : Fld Z h0 a1 "java/lang/Throwable" "backtrace" "Ljava/lang/Object;" .null) (B2 : Fld Z h0 a1 "java/lang/Throwable" "detailMessage" "Ljava/lang/String;" .null) (B3 : Fld Z h0 a1 "java/lang/Throwable" "cause" "Ljava/lang/Throwable;" .null) (B4 : Fld Z h0 a1 "java/lang/Throwable" "stackTrace" "[Ljava/lang/StackTraceElement;" .null) (B5 : Fld Z h0 a1 "java/lang/Throwable" "suppressedExceptions" "Ljava/util/List;" .null) (Su : Sta Z h0 "java/lang/Throwable" "UNASSIGNED_STACK" "[Ljava/lang/StackTraceElement;" (.ref u1)) (Sv : Sta Z h0 "java/lang/Throwable" "SUPPRESSED_SENTINEL" "Ljava/util/List;" (.ref u2)) (g_a1 : n0 ≤ a1) (hl : l.stackTraces = true) :
    MetFree l (⟨"com/example/coracle_health/coraclehealth/oauth/TokenError", "<init>", "(Lcom/example/coracle_health/coraclehealth/oauth/TokenError$Code;Ljava/lang/String;)V"⟩ : MethodName) (head1 (Jvm.Cond.code (⟨"com/example/coracle_health/coraclehealth/oauth/TokenError", "<init>", "(Lcom/example/coracle_health/coraclehealth/oauth/TokenError$Code;Ljava/lang/String;)V"⟩ : MethodName) prog_92_method_1_code 3 none :: ws) ({ frames := 6, cells := 1, slots := 2752, locals := 83 } : Room)) (fun a U => a = #[(.ref a1), (.ref a2), (.ref a3)] ∧ Z.Warmed39 U.vm ∧ U.heap = h0) (fun _ _ bl s _ => s.vm.MethodsKnown ∧ s.vm.FramesKnown bl) (fun _ U o U' => ∃ v L, o = .returned v ∧ Qt2 Z a1 a2 a3 u1 u2 h0 n0 v U'.heap L ∧ FrameEnd U o U' L ({ frames := 6, cells := 1, slots := 2752, locals := 83 } : Room).cells ({ frames := 6, cells := 1, slots := 2752, locals := 83 } : Room).slots) := by
  refine MetFree.of_bodySF (plainFor_of_name pn_6) hisR ?_
  intro p e s m args below meth c s₁ Bd hml0 hP hK
  obtain ⟨rfl, hZ, hh⟩ := hP
  have hx := Bd.exec
  have hby := Bd.bytes
  have hml : c.maxLocals = 3 := hml0
  have hown : s.vm.findClass "com/example/coracle_health/coraclehealth/oauth/TokenError" = some m.cls := findClass_of_methodNamed Bd.named
  have hnm := (name_of_methodNamed Bd.named Bd.method).1
  have hlk : meth.locks = false := BodyLoose.notSynchronized Bd
  have X0 : Stand p l e ({ frames := 6, cells := 1, slots := 2752, locals := 83 } : Room) s m #[(.ref a1), (.ref a2), (.ref a3)] below meth c s₁ [] 0 0 := Stand.of_body Bd
  have e0 : s₁.heap = h0 := by rw [← hh, Bd.state]; rfl
  have N0 := Fr.nil n0
  show OEnds p.tables e below (OGoal (Qt2 Z a1 a2 a3 u1 u2 h0 n0) s 1 2752) (s₁.setTop (entryFrame m #[(.ref a1), (.ref a2), (.ref a3)] 3))
  refine OEnds.st (fun t k => castTop (ef_t2 m a1 a2 a3) k) ?_
  generalize hG : OGoal (Qt2 Z a1 a2 a3 u1 u2 h0 n0) s 1 2752 = G
  obtain ⟨hTK, hBel⟩ := hK
  have KK0 : Keep h0 h0 [a1] := Keep.refl h0 [a1]
  show OEnds p.tables e below G (s₁.setTop (mkF m 0 #[.val (.ref a1), .val (.ref a2), .val (.ref a3)] []))
  refine OEnds.st (fun _ k => XS.aloadN X0.here hx rfl (hb hby d17_0) rfl rfl k) ?_
  show OEnds p.tables e below G (s₁.setTop (mkF m 1 #[.val (.ref a1), .val (.ref a2), .val (.ref a3)] [(.ref a1)]))
  refine OEnds.st (fun _ k => XS.aloadN X0.here hx rfl (hb hby d17_1) rfl rfl k) ?_
  show OEnds p.tables e below G (s₁.setTop (mkF m 2 #[.val (.ref a1), .val (.ref a2), .val (.ref a3)] [(.ref a2), (.ref a1)]))
  refine OEnds.st (fun _ k => XS.aloadN X0.here hx rfl (hb hby d17_2) rfl rfl k) ?_
  show OEnds p.tables e below G (s₁.setTop (mkF m 3 #[.val (.ref a1), .val (.ref a2), .val (.ref a3)] [(.ref a3), (.ref a2), (.ref a1)]))
  refine OEnds.st (fun _ k => XS.aconstNull X0.here hx rfl (hb hby d17_3) k) ?_
  show OEnds p.tables e below G (s₁.setTop (mkF m 4 #[.val (.ref a1), .val (.ref a2), .val (.ref a3)] [.null, (.ref a3), (.ref a2), (.ref a1)]))
  obtain ⟨_, _, ⟨T1001, L1001, k1001c, n1001c⟩, -, X1001, ⟨Lc1001, hQ1001, l1001, y1001, z1001⟩, st1001⟩ := X0.specialBack hx (y := (⟨"com/example/coracle_health/coraclehealth/oauth/TokenError", "<init>", "(Lcom/example/coracle_health/coraclehealth/oauth/TokenError$Code;Ljava/lang/String;Ljava/lang/String;)V"⟩ : MethodName)) rfl hown (mvT hZ (hw _ (List.mem_of_getElem? (i := 113) rfl))) (mvT hZ (hw _ (List.mem_of_getElem? (i := 56) rfl))) (mvT hZ (hw _ (List.mem_of_getElem? (i := 57) rfl))) (by decide) (backOfKL (W := 0) (rmti0 l Z a0 hw [] a1 a2 a3 u1 u2 h0 n0 Z0 TS U E B1 B2 B3 B4 B5 Su Sv g_a1 hl) hZ (hw _ (List.mem_of_getElem? (i := 57) rfl)) (hw _ (List.mem_of_getElem? (i := 54) rfl)) (by decide) (by decide) hTK hBel) (g := (mkF m 4 #[.val (.ref a1), .val (.ref a2), .val (.ref a3)] [.null, (.ref a3), (.ref a2), (.ref a1)])) rfl (by rw [hml]; rfl) (Steps.refl _) (a := a1) (argsL := [(.ref a2), (.ref a3), .null]) (rest := []) (lenOf pd_8 rfl) rfl (by show 2 * 0 + _ ≤ _; exact Nat.le_of_eq rfl) (hb hby d17_4) (fun _ _ => ⟨rfl, e0, (by decide : 0 + 1 ≤ _), (by decide : 0 + 2752 ≤ _)⟩)
  dsimp only [Pt.U, Pt.locs, Pt.cells, Pt.slots] at X1001 l1001 y1001 z1001 st1001 hQ1001
  subst l1001 y1001 z1001
  obtain ⟨rfl, N1001q, p1002, p1003, p1004⟩ := hQ1001
  have N1001 := Fr.app N0 N1001q
  refine OEnds.st (fun _ k => st1001.trans k) ?_
  clear st1001
  have f1005 : Exa Z T1001.heap a1 "com/example/coracle_health/coraclehealth/oauth/TokenError" := E.keep p1002
  have f1011 : Sta Z T1001.heap "java/lang/Throwable" "UNASSIGNED_STACK" "[Ljava/lang/StackTraceElement;" (.ref u1) := own_Sta_keep Su p1002 (fun x hx => by cases List.mem_singleton.mp hx; exact own_exa_ns E)
  have f1012 : Sta Z T1001.heap "java/lang/Throwable" "SUPPRESSED_SENTINEL" "Ljava/util/List;" (.ref u2) := own_Sta_keep Sv p1002 (fun x hx => by cases List.mem_singleton.mp hx; exact own_exa_ns E)
  have KK1001 : Keep h0 T1001.heap [a1] := KK0.trans p1002 (fun x hx => by cases List.mem_singleton.mp hx; exact Or.inl (List.mem_of_getElem? (i := 0) rfl))
  have Z1001 := Nat.le_trans Z0 p1002.1
  show OEnds p.tables e below G (T1001.setTop (mkF m 7 #[.val (.ref a1), .val (.ref a2), .val (.ref a3)] []))
  rw [← hG]
  refine OEnds.retV X1001 hx hlk Bd.returns (hb hby d17_7) (by decide) (by decide) ?_
  show _
  exact ⟨rfl, N1001, KK1001, p1003, p1004⟩
theorem ef_st0 (m : MethodId) (a1 : Addr) : entryFrame m #[(.ref a1)] 1 = mkF m 0 #[.val (.ref a1)] [] := by first | (simp [entryFrame, mkF, argsToLocals, Value.category]; done) | rfl
def Qst0 (Z : State) (a1 : Addr) (h0 : Heap) (n0 : Nat) (v : Option Value) (h : Heap) (L : List Loc) : Prop := v = some (.int (400 : Int32)) ∧ Fr n0 L ∧ h = h0
theorem d18_0 : decode prog_92_method_3_code 0 = .ok (.aload_n 0, 1) := by decide +kernel
theorem d18_1 : decode prog_92_method_3_code 1 = .ok (.getfield 16, 3) := by decide +kernel
theorem d18_4 : decode prog_92_method_3_code 4 = .ok (.ifnonnull 9, 3) := by decide +kernel
theorem d18_7 : decode prog_92_method_3_code 7 = .ok (.sipush 400, 3) := by decide +kernel
theorem d18_10 : decode prog_92_method_3_code 10 = .ok (.goto 6, 3) := by decide +kernel
theorem d18_16 : decode prog_92_method_3_code 16 = .ok (.ireturn, 1) := by decide +kernel
set_option maxRecDepth 65536 in
set_option maxHeartbeats 40000000 in
theorem rmst0 (l : Launch) (Z : State) (a0 : Array Value) (hw : ∀ d ∈ tables_1, d.before a0 Z = true) (ws : List Jvm.Cond) (a1 : Addr) (h0 : Heap) (n0 : Nat) (Z0 : n0 ≤ h0.size) (F : Fld Z h0 a1 "com/example/coracle_health/coraclehealth/oauth/TokenError" "challenge" "Ljava/lang/String;" .null) :
    MetFree l (⟨"com/example/coracle_health/coraclehealth/oauth/TokenError", "status", "()I"⟩ : MethodName) (head1 (Jvm.Cond.code (⟨"com/example/coracle_health/coraclehealth/oauth/TokenError", "status", "()I"⟩ : MethodName) prog_92_method_3_code 1 (some .int) :: ws) ({ frames := 0, cells := 0, slots := 0, locals := 0 } : Room)) (fun a U => a = #[(.ref a1)] ∧ Z.Warmed39 U.vm ∧ U.heap = h0) (fun _ _ _ _ _ => True) (fun _ U o U' => ∃ v L, o = .returned v ∧ Qst0 Z a1 h0 n0 v U'.heap L ∧ FrameEnd U o U' L ({ frames := 0, cells := 0, slots := 0, locals := 0 } : Room).cells ({ frames := 0, cells := 0, slots := 0, locals := 0 } : Room).slots) := by
  refine MetFree.of_bodySF (plainFor_of_name pn_6) hisR ?_
  intro p e s m args below meth c s₁ Bd hml0 hP hK
  obtain ⟨rfl, hZ, hh⟩ := hP
  have hx := Bd.exec
  have hby := Bd.bytes
  have hml : c.maxLocals = 1 := hml0
  have hown : s.vm.findClass "com/example/coracle_health/coraclehealth/oauth/TokenError" = some m.cls := findClass_of_methodNamed Bd.named
  have hnm := (name_of_methodNamed Bd.named Bd.method).1
  have hlk : meth.locks = false := BodyLoose.notSynchronized Bd
  have X0 : Stand p l e ({ frames := 0, cells := 0, slots := 0, locals := 0 } : Room) s m #[(.ref a1)] below meth c s₁ [] 0 0 := Stand.of_body Bd
  have e0 : s₁.heap = h0 := by rw [← hh, Bd.state]; rfl
  have N0 := Fr.nil n0
  show OEnds p.tables e below (OGoal (Qst0 Z a1 h0 n0) s 0 0) (s₁.setTop (entryFrame m #[(.ref a1)] 1))
  refine OEnds.st (fun t k => castTop (ef_st0 m a1) k) ?_
  generalize hG : OGoal (Qst0 Z a1 h0 n0) s 0 0 = G
  have KK0 : Keep h0 h0 [] := Keep.refl h0 []
  show OEnds p.tables e below G (s₁.setTop (mkF m 0 #[.val (.ref a1)] []))
  refine OEnds.st (fun _ k => XS.aloadN X0.here hx rfl (hb hby d18_0) rfl rfl k) ?_
  show OEnds p.tables e below G (s₁.setTop (mkF m 1 #[.val (.ref a1)] [(.ref a1)]))
  obtain ⟨T1001, X1001, e1001, st1001⟩ := getF X0 hx hZ hown (host := "") (Or.inl (hw _ (List.mem_of_getElem? (i := 108) rfl))) Via.refl e0 F (g := (mkF m 1 #[.val (.ref a1)] [(.ref a1)])) rfl rfl (hb hby d18_1)
  refine OEnds.st st1001 ?_
  clear st1001
  show OEnds p.tables e below G (T1001.setTop (mkF m 4 #[.val (.ref a1)] [.null]))
  refine OEnds.st (fun _ k => XS.ifnonnullNo X1001.here hx rfl (hb hby d18_4) rfl k) ?_
  show OEnds p.tables e below G (T1001.setTop (mkF m 7 #[.val (.ref a1)] []))
  refine OEnds.st (fun _ k => XS.sipush X1001.here hx rfl (hb hby d18_7) k) ?_
  show OEnds p.tables e below G (T1001.setTop (mkF m 10 #[.val (.ref a1)] [(.int (400 : Int32))]))
  refine OEnds.st (fun _ k => XS.goto X1001.here hx rfl (pc0 := 10) (pc' := 16) rfl (hb hby d18_10) (by decide) (by decide) k) ?_
  show OEnds p.tables e below G (T1001.setTop (mkF m 16 #[.val (.ref a1)] [(.int (400 : Int32))]))
  rw [← hG]
  refine OEnds.retI X1001 hx hlk Bd.returns (hb hby d18_16) (by decide) (by decide) ?_
  rw [e1001]
  exact ⟨rfl, N0, rfl⟩
theorem ef_st1 (m : MethodId) (a1 : Addr) : entryFrame m #[(.ref a1)] 1 = mkF m 0 #[.val (.ref a1)] [] := by first | (simp [entryFrame, mkF, argsToLocals, Value.category]; done) | rfl
def Qst1 (Z : State) (a1 : Addr) (a2 : Addr) (h0 : Heap) (n0 : Nat) (v : Option Value) (h : Heap) (L : List Loc) : Prop := v = some (.int (401 : Int32)) ∧ Fr n0 L ∧ h = h0
theorem d18_13 : decode prog_92_method_3_code 13 = .ok (.sipush 401, 3) := by decide +kernel
set_option maxRecDepth 65536 in
set_option maxHeartbeats 40000000 in
theorem rmst1 (l : Launch) (Z : State) (a0 : Array Value) (hw : ∀ d ∈ tables_1, d.before a0 Z = true) (ws : List Jvm.Cond) (a1 : Addr) (a2 : Addr) (h0 : Heap) (n0 : Nat) (Z0 : n0 ≤ h0.size) (F : Fld Z h0 a1 "com/example/coracle_health/coraclehealth/oauth/TokenError" "challenge" "Ljava/lang/String;" (.ref a2)) :
    MetFree l (⟨"com/example/coracle_health/coraclehealth/oauth/TokenError", "status", "()I"⟩ : MethodName) (head1 (Jvm.Cond.code (⟨"com/example/coracle_health/coraclehealth/oauth/TokenError", "status", "()I"⟩ : MethodName) prog_92_method_3_code 1 (some .int) :: ws) ({ frames := 0, cells := 0, slots := 0, locals := 0 } : Room)) (fun a U => a = #[(.ref a1)] ∧ Z.Warmed39 U.vm ∧ U.heap = h0) (fun _ _ _ _ _ => True) (fun _ U o U' => ∃ v L, o = .returned v ∧ Qst1 Z a1 a2 h0 n0 v U'.heap L ∧ FrameEnd U o U' L ({ frames := 0, cells := 0, slots := 0, locals := 0 } : Room).cells ({ frames := 0, cells := 0, slots := 0, locals := 0 } : Room).slots) := by
  refine MetFree.of_bodySF (plainFor_of_name pn_6) hisR ?_
  intro p e s m args below meth c s₁ Bd hml0 hP hK
  obtain ⟨rfl, hZ, hh⟩ := hP
  have hx := Bd.exec
  have hby := Bd.bytes
  have hml : c.maxLocals = 1 := hml0
  have hown : s.vm.findClass "com/example/coracle_health/coraclehealth/oauth/TokenError" = some m.cls := findClass_of_methodNamed Bd.named
  have hnm := (name_of_methodNamed Bd.named Bd.method).1
  have hlk : meth.locks = false := BodyLoose.notSynchronized Bd
  have X0 : Stand p l e ({ frames := 0, cells := 0, slots := 0, locals := 0 } : Room) s m #[(.ref a1)] below meth c s₁ [] 0 0 := Stand.of_body Bd
  have e0 : s₁.heap = h0 := by rw [← hh, Bd.state]; rfl
  have N0 := Fr.nil n0
  show OEnds p.tables e below (OGoal (Qst1 Z a1 a2 h0 n0) s 0 0) (s₁.setTop (entryFrame m #[(.ref a1)] 1))
  refine OEnds.st (fun t k => castTop (ef_st1 m a1) k) ?_
  generalize hG : OGoal (Qst1 Z a1 a2 h0 n0) s 0 0 = G
  have KK0 : Keep h0 h0 [] := Keep.refl h0 []
  show OEnds p.tables e below G (s₁.setTop (mkF m 0 #[.val (.ref a1)] []))
  refine OEnds.st (fun _ k => XS.aloadN X0.here hx rfl (hb hby d18_0) rfl rfl k) ?_
  show OEnds p.tables e below G (s₁.setTop (mkF m 1 #[.val (.ref a1)] [(.ref a1)]))
  obtain ⟨T1001, X1001, e1001, st1001⟩ := getF X0 hx hZ hown (host := "") (Or.inl (hw _ (List.mem_of_getElem? (i := 108) rfl))) Via.refl e0 F (g := (mkF m 1 #[.val (.ref a1)] [(.ref a1)])) rfl rfl (hb hby d18_1)
  refine OEnds.st st1001 ?_
  clear st1001
  show OEnds p.tables e below G (T1001.setTop (mkF m 4 #[.val (.ref a1)] [(.ref a2)]))
  refine OEnds.st (fun _ k => XS.ifnonnullYes X1001.here hx rfl (pc0 := 4) (pc' := 13) rfl (hb hby d18_4) rfl (by decide) (by decide) k) ?_
  show OEnds p.tables e below G (T1001.setTop (mkF m 13 #[.val (.ref a1)] []))
  refine OEnds.st (fun _ k => XS.sipush X1001.here hx rfl (hb hby d18_13) k) ?_
  show OEnds p.tables e below G (T1001.setTop (mkF m 16 #[.val (.ref a1)] [(.int (401 : Int32))]))
  rw [← hG]
  refine OEnds.retI X1001 hx hlk Bd.returns (hb hby d18_16) (by decide) (by decide) ?_
  rw [e1001]
  exact ⟨rfl, N0, rfl⟩
theorem ef_0 (m : MethodId) (p1 : Int32) (p2 : Int32) (p3 : Int32) (p4 : Int32) : entryFrame m #[(.int p1), (.int p2), (.int p3), (.int p4)] maxLocals = mkF m 0 #[.val (.int p1), .val (.int p2), .val (.int p3), .val (.int p4), .unset, .unset, .unset, .unset, .unset, .unset, .unset, .unset, .unset, .unset, .unset] [] := by first | (simp [entryFrame, mkF, argsToLocals, Value.category, maxLocals]; done) | rfl
def Q0 (Z : State) (p1 : Int32) (p2 : Int32) (p3 : Int32) (p4 : Int32) (w : Int32) (o0 : Addr) (o1 : Addr) (o2 : Addr) (o3 : Addr) (o4 : Addr) (o5 : Addr) (u1 : Addr) (u2 : Addr) (h0 : Heap) (n0 : Nat) (v : Option Value) (h : Heap) (L : List Loc) : Prop := v = some (.int (1 : Int32)) ∧ Fr n0 L
theorem pd_9 : parseMethodDescriptor "(I)Lcom/example/coracle_health/coraclehealth/oauth/TokenError$Code;" = some ⟨[.int], some (.object "com/example/coracle_health/coraclehealth/oauth/TokenError$Code")⟩ := by decide +kernel
theorem pd_10 : parseMethodDescriptor "([C)V" = some ⟨[(.array .char)], none⟩ := by decide +kernel
theorem pd_11 : parseMethodDescriptor "(Lcom/example/coracle_health/coraclehealth/oauth/TokenError$Code;Ljava/lang/String;)V" = some ⟨[(.object "com/example/coracle_health/coraclehealth/oauth/TokenError$Code"), (.object "java/lang/String")], none⟩ := by decide +kernel
theorem pd_12 : parseMethodDescriptor "()I" = some ⟨[], some .int⟩ := by decide +kernel
theorem pd_13 : parseMethodDescriptor "(C)Ljava/lang/String;" = some ⟨[.char], some (.object "java/lang/String")⟩ := by decide +kernel
set_option maxRecDepth 65536 in
set_option maxHeartbeats 40000000 in
theorem rm0 (l : Launch) (Z : State) (a0 : Array Value) (hw : ∀ d ∈ tables_1, d.before a0 Z = true) (ws : List Jvm.Cond) (p1 : Int32) (p2 : Int32) (p3 : Int32) (p4 : Int32) (w : Int32) (o0 : Addr) (o1 : Addr) (o2 : Addr) (o3 : Addr) (o4 : Addr) (o5 : Addr) (u1 : Addr) (u2 : Addr) (h0 : Heap) (n0 : Nat) (Z0 : n0 ≤ h0.size) (TS : ThS Z h0) (Sc : Sta Z h0 "java/lang/String" "COMPACT_STRINGS" "Z" (.int w)) (Sk0 : Sta Z h0 "com/example/coracle_health/coraclehealth/oauth/TokenError$Code" "INVALID_REQUEST" "Lcom/example/coracle_health/coraclehealth/oauth/TokenError$Code;" (.ref o0)) (Sk1 : Sta Z h0 "com/example/coracle_health/coraclehealth/oauth/TokenError$Code" "INVALID_GRANT" "Lcom/example/coracle_health/coraclehealth/oauth/TokenError$Code;" (.ref o1)) (Sk2 : Sta Z h0 "com/example/coracle_health/coraclehealth/oauth/TokenError$Code" "INVALID_CLIENT" "Lcom/example/coracle_health/coraclehealth/oauth/TokenError$Code;" (.ref o2)) (Sk3 : Sta Z h0 "com/example/coracle_health/coraclehealth/oauth/TokenError$Code" "UNSUPPORTED_GRANT_TYPE" "Lcom/example/coracle_health/coraclehealth/oauth/TokenError$Code;" (.ref o3)) (Sk4 : Sta Z h0 "com/example/coracle_health/coraclehealth/oauth/TokenError$Code" "INVALID_SCOPE" "Lcom/example/coracle_health/coraclehealth/oauth/TokenError$Code;" (.ref o4)) (Sk5 : Sta Z h0 "com/example/coracle_health/coraclehealth/oauth/TokenError$Code" "TEMPORARILY_UNAVAILABLE" "Lcom/example/coracle_health/coraclehealth/oauth/TokenError$Code;" (.ref o5)) (Su : Sta Z h0 "java/lang/Throwable" "UNASSIGNED_STACK" "[Ljava/lang/StackTraceElement;" (.ref u1)) (Sv : Sta Z h0 "java/lang/Throwable" "SUPPRESSED_SENTINEL" "Ljava/util/List;" (.ref u2)) (hw0 : ¬ (w = (0 : Int32))) (hl : l.stackTraces = true) :
    MetFree l x (head1 (Jvm.Cond.code x code maxLocals ret :: ws) room_1) (fun a U => a = #[(.int p1), (.int p2), (.int p3), (.int p4)] ∧ Z.Warmed39 U.vm ∧ U.heap = h0 ∧ CHv Z own_EL U.vm h0) (fun _ _ _ s _ => framesKnown s = true ∧ tablesKnown s = true) (fun _ U o U' => ∃ v L, o = .returned v ∧ Q0 Z p1 p2 p3 p4 w o0 o1 o2 o3 o4 o5 u1 u2 h0 n0 v U'.heap L ∧ Jvm.ReturnedEndW U o U' L room_1.cells room_1.slots) := by
  refine MetFree.of_bodySF (plainFor_of_name pn_3) hisR ?_
  intro p e s m args below meth c s₁ Bd hml0 hP hK
  obtain ⟨rfl, hZ, hh, hCH0⟩ := hP
  have hx := Bd.exec
  have hby := Bd.bytes
  have hml : c.maxLocals = 15 := hml0
  have hown : s.vm.findClass "com/example/coracle_health/coraclehealth/oauth/TokenErrorStatusPinLaw" = some m.cls := findClass_of_methodNamed Bd.named
  have hnm := (name_of_methodNamed Bd.named Bd.method).1
  have hlk : meth.locks = false := BodyLoose.notSynchronized Bd
  have X0 : Stand p l e room_1 s m #[(.int p1), (.int p2), (.int p3), (.int p4)] below meth c s₁ [] 0 0 := Stand.of_body Bd
  have e0 : s₁.heap = h0 := by rw [← hh, Bd.state]; rfl
  have N0 := Fr.nil n0
  show OEnds p.tables e below (OGoalW (Q0 Z p1 p2 p3 p4 w o0 o1 o2 o3 o4 o5 u1 u2 h0 n0) s 32 12224) (s₁.setTop (entryFrame m #[(.int p1), (.int p2), (.int p3), (.int p4)] maxLocals))
  refine OEnds.st (fun t k => castTop (ef_0 m p1 p2 p3 p4) k) ?_
  generalize hG : OGoalW (Q0 Z p1 p2 p3 p4 w o0 o1 o2 o3 o4 o5 u1 u2 h0 n0) s 32 12224 = G
  have X0 : Stand p l e room_1 (s.setVm s.vm) m #[(.int p1), (.int p2), (.int p3), (.int p4)] below meth c s₁ [] 0 0 := X0
  have hS : s.Since s.vm 0 := (State.WarmedH.refl s).since 0
  have hkk : 0 ≤ h0.size := Nat.zero_le _
  have wS : ∀ a ∈ Bundle.stringAtoms, a.before a0 Z = true := fun a ha => hw a ((by decide +kernel : ∀ a ∈ Bundle.stringAtoms, a ∈ tables_1) a ha)
  obtain ⟨hTK, hBel⟩ := X0.known hK.2 hK.1
  have hTK0 := hTK
  have hBel0 := hBel
  have hEL : EW Z a0 own_EL := own_ew hw
  have CH0 := CHr.refl hCH0
  have KK0 : Keep h0 h0 [] := Keep.refl h0 []
  show OEnds p.tables e below G (s₁.setTop (mkF m 0 #[.val (.int p1), .val (.int p2), .val (.int p3), .val (.int p4), .unset, .unset, .unset, .unset, .unset, .unset, .unset, .unset, .unset, .unset, .unset] []))
  refine OEnds.st (fun _ k => XS.iloadN X0.here hx rfl (hb hby at_0) rfl k) ?_
  show OEnds p.tables e below G (s₁.setTop (mkF m 1 #[.val (.int p1), .val (.int p2), .val (.int p3), .val (.int p4), .unset, .unset, .unset, .unset, .unset, .unset, .unset, .unset, .unset, .unset, .unset] [(.int p1)]))
  obtain ⟨_, _, ⟨T1001, L1001, k1001c, n1001c⟩, -, X1001, ⟨Lc1001, hQ1001, l1001, y1001, z1001⟩, st1001⟩ := Jvm.LawKit.callS X0 hx (y := (⟨"com/example/coracle_health/coraclehealth/oauth/TokenErrorStatusPinLaw", "pick", "(I)Lcom/example/coracle_health/coraclehealth/oauth/TokenError$Code;"⟩ : MethodName)) hown (mvT hZ (hw _ (List.mem_of_getElem? (i := 0) rfl))) (mvT hZ (hw _ (List.mem_of_getElem? (i := 1) rfl))) (mvT hZ (hw _ (List.mem_of_getElem? (i := 2) rfl))) (mvT hZ (hw _ (List.mem_of_getElem? (i := 3) rfl))) (by decide) (backOf (W := 0) (rm1 l Z a0 hw [] p1 o0 o1 o2 o3 o4 o5 h0 n0 Z0 Sk0 Sk1 Sk2 Sk3 Sk4 Sk5) hZ (hw _ (List.mem_of_getElem? (i := 3) rfl)) (hw _ (List.mem_of_getElem? (i := 2) rfl)) (by decide) (by decide)) (g := (mkF m 1 #[.val (.int p1), .val (.int p2), .val (.int p3), .val (.int p4), .unset, .unset, .unset, .unset, .unset, .unset, .unset, .unset, .unset, .unset, .unset] [(.int p1)])) rfl (by rw [hml]; rfl) (argsL := [(.int p1)]) (rest := []) (lenOf pd_9 rfl) rfl (by show 2 * 0 + _ ≤ _; exact Nat.le_of_eq rfl) (hb hby at_1) (fun _ _ => ⟨rfl, e0, (by decide : 0 + 0 ≤ _), (by decide : 0 + 0 ≤ _)⟩)
  dsimp only [Pt.U, Pt.locs, Pt.cells, Pt.slots] at X1001 l1001 y1001 z1001 st1001 hQ1001
  subst l1001 y1001 z1001
  obtain ⟨ob_1001, rfl, N1001q, e1001⟩ := hQ1001
  have N1001 := Fr.app N0 N1001q
  refine OEnds.st st1001 ?_
  clear st1001
  show OEnds p.tables e below G (T1001.setTop (mkF m 4 #[.val (.int p1), .val (.int p2), .val (.int p3), .val (.int p4), .unset, .unset, .unset, .unset, .unset, .unset, .unset, .unset, .unset, .unset, .unset] [(.ref ob_1001)]))
  refine OEnds.st (fun _ k => XS.astore X1001.here hx rfl (hb hby at_4) rfl rfl (l' := #[.val (.int p1), .val (.int p2), .val (.int p3), .val (.int p4), .val (.ref ob_1001), .unset, .unset, .unset, .unset, .unset, .unset, .unset, .unset, .unset, .unset]) rfl k) ?_
  show OEnds p.tables e below G (T1001.setTop (mkF m 6 #[.val (.int p1), .val (.int p2), .val (.int p3), .val (.int p4), .val (.ref ob_1001), .unset, .unset, .unset, .unset, .unset, .unset, .unset, .unset, .unset, .unset] []))
  refine OEnds.st (fun _ k => XS.iloadN X1001.here hx rfl (hb hby at_6) rfl k) ?_
  show OEnds p.tables e below G (T1001.setTop (mkF m 7 #[.val (.int p1), .val (.int p2), .val (.int p3), .val (.int p4), .val (.ref ob_1001), .unset, .unset, .unset, .unset, .unset, .unset, .unset, .unset, .unset, .unset] [(.int p2)]))
  refine OEnds.st (fun _ k => XS.bipush X1001.here hx rfl (hb hby at_7) k) ?_
  show OEnds p.tables e below G (T1001.setTop (mkF m 9 #[.val (.int p1), .val (.int p2), .val (.int p3), .val (.int p4), .val (.ref ob_1001), .unset, .unset, .unset, .unset, .unset, .unset, .unset, .unset, .unset, .unset] [(.int (127 : Int32)), (.int p2)]))
  refine OEnds.st (fun _ k => XS.iand X1001.here hx rfl (hb hby at_9) rfl k) ?_
  show OEnds p.tables e below G (T1001.setTop (mkF m 10 #[.val (.int p1), .val (.int p2), .val (.int p3), .val (.int p4), .val (.ref ob_1001), .unset, .unset, .unset, .unset, .unset, .unset, .unset, .unset, .unset, .unset] [(.int (p2 &&& (127 : Int32)))]))
  refine OEnds.st (fun _ k => XS.i2c X1001.here hx rfl (hb hby at_10) rfl k) ?_
  show OEnds p.tables e below G (T1001.setTop (mkF m 11 #[.val (.int p1), .val (.int p2), .val (.int p3), .val (.int p4), .val (.ref ob_1001), .unset, .unset, .unset, .unset, .unset, .unset, .unset, .unset, .unset, .unset] [(.int ((p2 &&& (127 : Int32)).toUInt32.toUInt16.toUInt32.toInt32))]))
  refine OEnds.st (fun _ k => XS.istore X1001.here hx rfl (hb hby at_11) rfl (l' := #[.val (.int p1), .val (.int p2), .val (.int p3), .val (.int p4), .val (.ref ob_1001), .val (.int ((p2 &&& (127 : Int32)).toUInt32.toUInt16.toUInt32.toInt32)), .unset, .unset, .unset, .unset, .unset, .unset, .unset, .unset, .unset]) rfl k) ?_
  show OEnds p.tables e below G (T1001.setTop (mkF m 13 #[.val (.int p1), .val (.int p2), .val (.int p3), .val (.int p4), .val (.ref ob_1001), .val (.int ((p2 &&& (127 : Int32)).toUInt32.toUInt16.toUInt32.toInt32)), .unset, .unset, .unset, .unset, .unset, .unset, .unset, .unset, .unset] []))
  generalize hv_v1002 : ((p2 &&& (127 : Int32)).toUInt32.toUInt16.toUInt32.toInt32) = v1002
  show OEnds p.tables e below G (T1001.setTop (mkF m 13 #[.val (.int p1), .val (.int p2), .val (.int p3), .val (.int p4), .val (.ref ob_1001), .val (.int v1002), .unset, .unset, .unset, .unset, .unset, .unset, .unset, .unset, .unset] []))
  refine OEnds.st (fun _ k => XS.iloadN X1001.here hx rfl (hb hby at_13) rfl k) ?_
  show OEnds p.tables e below G (T1001.setTop (mkF m 14 #[.val (.int p1), .val (.int p2), .val (.int p3), .val (.int p4), .val (.ref ob_1001), .val (.int v1002), .unset, .unset, .unset, .unset, .unset, .unset, .unset, .unset, .unset] [(.int p2)]))
  refine OEnds.st (fun _ k => XS.bipush X1001.here hx rfl (hb hby at_14) k) ?_
  show OEnds p.tables e below G (T1001.setTop (mkF m 16 #[.val (.int p1), .val (.int p2), .val (.int p3), .val (.int p4), .val (.ref ob_1001), .val (.int v1002), .unset, .unset, .unset, .unset, .unset, .unset, .unset, .unset, .unset] [(.int (8 : Int32)), (.int p2)]))
  refine OEnds.st (fun _ k => XS.iushr X1001.here hx rfl (hb hby at_16) rfl k) ?_
  show OEnds p.tables e below G (T1001.setTop (mkF m 17 #[.val (.int p1), .val (.int p2), .val (.int p3), .val (.int p4), .val (.ref ob_1001), .val (.int v1002), .unset, .unset, .unset, .unset, .unset, .unset, .unset, .unset, .unset] [(.int ((p2.toUInt32 >>> ((8 : Int32) &&& 31).toUInt32).toInt32))]))
  refine OEnds.st (fun _ k => XS.bipush X1001.here hx rfl (hb hby at_17) k) ?_
  show OEnds p.tables e below G (T1001.setTop (mkF m 19 #[.val (.int p1), .val (.int p2), .val (.int p3), .val (.int p4), .val (.ref ob_1001), .val (.int v1002), .unset, .unset, .unset, .unset, .unset, .unset, .unset, .unset, .unset] [(.int (127 : Int32)), (.int ((p2.toUInt32 >>> ((8 : Int32) &&& 31).toUInt32).toInt32))]))
  refine OEnds.st (fun _ k => XS.iand X1001.here hx rfl (hb hby at_19) rfl k) ?_
  show OEnds p.tables e below G (T1001.setTop (mkF m 20 #[.val (.int p1), .val (.int p2), .val (.int p3), .val (.int p4), .val (.ref ob_1001), .val (.int v1002), .unset, .unset, .unset, .unset, .unset, .unset, .unset, .unset, .unset] [(.int (((p2.toUInt32 >>> ((8 : Int32) &&& 31).toUInt32).toInt32) &&& (127 : Int32)))]))
  refine OEnds.st (fun _ k => XS.i2c X1001.here hx rfl (hb hby at_20) rfl k) ?_
  show OEnds p.tables e below G (T1001.setTop (mkF m 21 #[.val (.int p1), .val (.int p2), .val (.int p3), .val (.int p4), .val (.ref ob_1001), .val (.int v1002), .unset, .unset, .unset, .unset, .unset, .unset, .unset, .unset, .unset] [(.int ((((p2.toUInt32 >>> ((8 : Int32) &&& 31).toUInt32).toInt32) &&& (127 : Int32)).toUInt32.toUInt16.toUInt32.toInt32))]))
  refine OEnds.st (fun _ k => XS.istore X1001.here hx rfl (hb hby at_21) rfl (l' := #[.val (.int p1), .val (.int p2), .val (.int p3), .val (.int p4), .val (.ref ob_1001), .val (.int v1002), .val (.int ((((p2.toUInt32 >>> ((8 : Int32) &&& 31).toUInt32).toInt32) &&& (127 : Int32)).toUInt32.toUInt16.toUInt32.toInt32)), .unset, .unset, .unset, .unset, .unset, .unset, .unset, .unset]) rfl k) ?_
  show OEnds p.tables e below G (T1001.setTop (mkF m 23 #[.val (.int p1), .val (.int p2), .val (.int p3), .val (.int p4), .val (.ref ob_1001), .val (.int v1002), .val (.int ((((p2.toUInt32 >>> ((8 : Int32) &&& 31).toUInt32).toInt32) &&& (127 : Int32)).toUInt32.toUInt16.toUInt32.toInt32)), .unset, .unset, .unset, .unset, .unset, .unset, .unset, .unset] []))
  generalize hv_v1003 : ((((p2.toUInt32 >>> ((8 : Int32) &&& 31).toUInt32).toInt32) &&& (127 : Int32)).toUInt32.toUInt16.toUInt32.toInt32) = v1003
  show OEnds p.tables e below G (T1001.setTop (mkF m 23 #[.val (.int p1), .val (.int p2), .val (.int p3), .val (.int p4), .val (.ref ob_1001), .val (.int v1002), .val (.int v1003), .unset, .unset, .unset, .unset, .unset, .unset, .unset, .unset] []))
  obtain ⟨T1004, h1004, X1004, e1004, E1004, A1004, D1004, -, st1004⟩ := newO X1001 hx hZ hown (hw _ (List.mem_of_getElem? (i := 8) rfl)) (hw _ (List.mem_of_getElem? (i := 9) rfl)) (hw _ (List.mem_of_getElem? (i := 10) rfl)) e1001 (g := (mkF m 23 #[.val (.int p1), .val (.int p2), .val (.int p3), .val (.int p4), .val (.ref ob_1001), .val (.int v1002), .val (.int v1003), .unset, .unset, .unset, .unset, .unset, .unset, .unset, .unset] [])) rfl (hb hby at_23) (by decide) (by decide)
  obtain ⟨b1004, g1004⟩ : ∃ z, z = h0.size := ⟨_, rfl⟩
  rw [← g1004] at A1004 D1004 st1004
  refine OEnds.st st1004 ?_
  clear st1004
  have ge_b1004 : n0 ≤ b1004 := Nat.le_trans Z0 (Nat.le_of_eq g1004.symm)
  have sz_b1004 : h0.size ≤ b1004 := Nat.le_trans KK0.1 (Nat.le_of_eq g1004.symm)
  have f1005 : Sta Z h1004 "java/lang/String" "COMPACT_STRINGS" "Z" (.int w) := Sc.ext E1004
  have f1006 : Sta Z h1004 "java/lang/Throwable" "UNASSIGNED_STACK" "[Ljava/lang/StackTraceElement;" (.ref u1) := Su.ext E1004
  have f1007 : Sta Z h1004 "java/lang/Throwable" "SUPPRESSED_SENTINEL" "Ljava/util/List;" (.ref u2) := Sv.ext E1004
  have KK1004 : Keep h0 h1004 [] := KK0.ext E1004
  have Z1004 := Nat.le_trans Z0 E1004.1
  have hkk := Nat.le_trans hkk E1004.1
  have ex_b1004 := A1004
  have f1008 : Fld Z h1004 b1004 "java/lang/String" "coder" "B" (.int (0 : Int32)) := D1004 (Or.inr (hw _ (List.mem_of_getElem? (i := 35) rfl))) (ty := .byte) (by decide)
  have f1009 : Fld Z h1004 b1004 "java/lang/String" "value" "[B" .null := D1004 (Or.inr (hw _ (List.mem_of_getElem? (i := 37) rfl))) (ty := (.array .byte)) (by decide)
  show OEnds p.tables e below G (T1004.setTop (mkF m 26 #[.val (.int p1), .val (.int p2), .val (.int p3), .val (.int p4), .val (.ref ob_1001), .val (.int v1002), .val (.int v1003), .unset, .unset, .unset, .unset, .unset, .unset, .unset, .unset] [(.ref b1004)]))
  refine OEnds.st (fun _ k => XS.dup X1004.here hx rfl (hb hby at_26) rfl rfl k) ?_
  show OEnds p.tables e below G (T1004.setTop (mkF m 27 #[.val (.int p1), .val (.int p2), .val (.int p3), .val (.int p4), .val (.ref ob_1001), .val (.int v1002), .val (.int v1003), .unset, .unset, .unset, .unset, .unset, .unset, .unset, .unset] [(.ref b1004), (.ref b1004)]))
  refine OEnds.st (fun _ k => XS.iconst X1004.here hx rfl (hb hby at_27) k) ?_
  show OEnds p.tables e below G (T1004.setTop (mkF m 28 #[.val (.int p1), .val (.int p2), .val (.int p3), .val (.int p4), .val (.ref ob_1001), .val (.int v1002), .val (.int v1003), .unset, .unset, .unset, .unset, .unset, .unset, .unset, .unset] [(.int (2 : Int32)), (.ref b1004), (.ref b1004)]))
  obtain ⟨T1010, h1010, k1010, X1010, e1010, E1010, A1010, st1010⟩ := newP X1004 hx hZ (hw _ (List.mem_of_getElem? (i := 11) rfl)) e1004 (g := (mkF m 28 #[.val (.int p1), .val (.int p2), .val (.int p3), .val (.int p4), .val (.ref ob_1001), .val (.int v1002), .val (.int v1003), .unset, .unset, .unset, .unset, .unset, .unset, .unset, .unset] [(.int (2 : Int32)), (.ref b1004), (.ref b1004)])) rfl (hb hby at_28) rfl (by decide) (cap := 2) (by decide) (by decide) (by decide) (by decide)
  obtain ⟨b1010, g1010⟩ : ∃ z, z = h1004.size := ⟨_, rfl⟩
  rw [← g1010] at A1010 st1010
  refine OEnds.st st1010 ?_
  clear st1010
  have ne1011 : b1004 ≠ b1010 := Nat.ne_of_lt (Nat.lt_of_lt_of_le (ex_b1004).lt (Nat.le_of_eq g1010.symm))
  have ge_b1010 : n0 ≤ b1010 := Nat.le_trans Z1004 (Nat.le_of_eq g1010.symm)
  have sz_b1010 : h0.size ≤ b1010 := Nat.le_trans KK1004.1 (Nat.le_of_eq g1010.symm)
  have f1012 : Sta Z h1010 "java/lang/String" "COMPACT_STRINGS" "Z" (.int w) := f1005.ext E1010
  have f1013 : Sta Z h1010 "java/lang/Throwable" "UNASSIGNED_STACK" "[Ljava/lang/StackTraceElement;" (.ref u1) := f1006.ext E1010
  have f1014 : Sta Z h1010 "java/lang/Throwable" "SUPPRESSED_SENTINEL" "Ljava/util/List;" (.ref u2) := f1007.ext E1010
  have f1015 : Exa Z h1010 b1004 "java/lang/String" := ex_b1004.ext E1010
  have f1016 : Fld Z h1010 b1004 "java/lang/String" "coder" "B" (.int (0 : Int32)) := f1008.ext E1010
  have f1017 : Fld Z h1010 b1004 "java/lang/String" "value" "[B" .null := f1009.ext E1010
  have KK1010 : Keep h0 h1010 [] := KK1004.ext E1010
  have Z1010 := Nat.le_trans Z1004 E1010.1
  have hkk := Nat.le_trans hkk E1010.1
  have f1018 : Arv Z h1010 b1010 k1010 .char (2 : Int32) [(.int (0 : Int32)), (.int (0 : Int32))] (.int (0 : Int32)) := (Arv.new A1010 (by decide)).pad (pad_rep [] (.int (0 : Int32)) 2)
  show OEnds p.tables e below G (T1010.setTop (mkF m 30 #[.val (.int p1), .val (.int p2), .val (.int p3), .val (.int p4), .val (.ref ob_1001), .val (.int v1002), .val (.int v1003), .unset, .unset, .unset, .unset, .unset, .unset, .unset, .unset] [(.ref b1010), (.ref b1004), (.ref b1004)]))
  refine OEnds.st (fun _ k => XS.dup X1010.here hx rfl (hb hby at_30) rfl rfl k) ?_
  show OEnds p.tables e below G (T1010.setTop (mkF m 31 #[.val (.int p1), .val (.int p2), .val (.int p3), .val (.int p4), .val (.ref ob_1001), .val (.int v1002), .val (.int v1003), .unset, .unset, .unset, .unset, .unset, .unset, .unset, .unset] [(.ref b1010), (.ref b1010), (.ref b1004), (.ref b1004)]))
  refine OEnds.st (fun _ k => XS.iconst X1010.here hx rfl (hb hby at_31) k) ?_
  show OEnds p.tables e below G (T1010.setTop (mkF m 32 #[.val (.int p1), .val (.int p2), .val (.int p3), .val (.int p4), .val (.ref ob_1001), .val (.int v1002), .val (.int v1003), .unset, .unset, .unset, .unset, .unset, .unset, .unset, .unset] [(.int (0 : Int32)), (.ref b1010), (.ref b1010), (.ref b1004), (.ref b1004)]))
  refine OEnds.st (fun _ k => XS.iload X1010.here hx rfl (hb hby at_32) rfl k) ?_
  show OEnds p.tables e below G (T1010.setTop (mkF m 34 #[.val (.int p1), .val (.int p2), .val (.int p3), .val (.int p4), .val (.ref ob_1001), .val (.int v1002), .val (.int v1003), .unset, .unset, .unset, .unset, .unset, .unset, .unset, .unset] [(.int v1002), (.int (0 : Int32)), (.ref b1010), (.ref b1010), (.ref b1004), (.ref b1004)]))
  obtain ⟨cl1019, Ar1019, q1019, S1019, N1019n, H1019, G1019⟩ := id f1018
  have hin1019 : ¬ ((0 : Int32) < 0 ∨ cl1019.slots.size ≤ ((0 : Int32)).toNatClampNeg) := inb_of S1019 ⟨by decide, by decide⟩
  obtain ⟨T1019, h1019, X1019, e1019, W1019, st1019⟩ := stC X1010 hx hZ e1010 Ar1019 (j := (0 : Int32)) hin1019 (g := (mkF m 34 #[.val (.int p1), .val (.int p2), .val (.int p3), .val (.int p4), .val (.ref ob_1001), .val (.int v1002), .val (.int v1003), .unset, .unset, .unset, .unset, .unset, .unset, .unset, .unset] [(.int v1002), (.int (0 : Int32)), (.ref b1010), (.ref b1010), (.ref b1004), (.ref b1004)])) rfl rfl (hb hby at_34)
  refine OEnds.st st1019 ?_
  clear st1019
  have f1020 : Arv Z h1019 b1010 k1010 .char (2 : Int32) [(.int (nar .char v1002)), (.int (0 : Int32))] (.int (0 : Int32)) := Arv.set Ar1019 q1019 S1019 N1019n H1019 G1019 (fits_nar_char _) W1019 0 rfl (Nat.le_of_ble_eq_true rfl)
  have f1021 : Sta Z h1019 "java/lang/String" "COMPACT_STRINGS" "Z" (.int w) := f1012.wr W1019
  have f1022 : Sta Z h1019 "java/lang/Throwable" "UNASSIGNED_STACK" "[Ljava/lang/StackTraceElement;" (.ref u1) := f1013.wr W1019
  have f1023 : Sta Z h1019 "java/lang/Throwable" "SUPPRESSED_SENTINEL" "Ljava/util/List;" (.ref u2) := f1014.wr W1019
  have f1024 : Exa Z h1019 b1004 "java/lang/String" := f1015.wr W1019
  have f1025 : Fld Z h1019 b1004 "java/lang/String" "coder" "B" (.int (0 : Int32)) := f1016.other W1019 (Or.inl ne1011)
  have f1026 : Fld Z h1019 b1004 "java/lang/String" "value" "[B" .null := f1017.other W1019 (Or.inl ne1011)
  have N1019 := Fr.snoc X1019 N1001 ge_b1010
  have KK1019 : Keep h0 h1019 [] := KK1010.wr W1019 (Or.inr sz_b1010)
  have Z1019 := Nat.le_trans Z1010 (Keep.of_wr W1019).1
  have hkk := Nat.le_trans hkk (Keep.of_wr W1019).1
  show OEnds p.tables e below G (T1019.setTop (mkF m 35 #[.val (.int p1), .val (.int p2), .val (.int p3), .val (.int p4), .val (.ref ob_1001), .val (.int v1002), .val (.int v1003), .unset, .unset, .unset, .unset, .unset, .unset, .unset, .unset] [(.ref b1010), (.ref b1004), (.ref b1004)]))
  refine OEnds.st (fun _ k => XS.dup X1019.here hx rfl (hb hby at_35) rfl rfl k) ?_
  show OEnds p.tables e below G (T1019.setTop (mkF m 36 #[.val (.int p1), .val (.int p2), .val (.int p3), .val (.int p4), .val (.ref ob_1001), .val (.int v1002), .val (.int v1003), .unset, .unset, .unset, .unset, .unset, .unset, .unset, .unset] [(.ref b1010), (.ref b1010), (.ref b1004), (.ref b1004)]))
  refine OEnds.st (fun _ k => XS.iconst X1019.here hx rfl (hb hby at_36) k) ?_
  show OEnds p.tables e below G (T1019.setTop (mkF m 37 #[.val (.int p1), .val (.int p2), .val (.int p3), .val (.int p4), .val (.ref ob_1001), .val (.int v1002), .val (.int v1003), .unset, .unset, .unset, .unset, .unset, .unset, .unset, .unset] [(.int (1 : Int32)), (.ref b1010), (.ref b1010), (.ref b1004), (.ref b1004)]))
  refine OEnds.st (fun _ k => XS.iload X1019.here hx rfl (hb hby at_37) rfl k) ?_
  show OEnds p.tables e below G (T1019.setTop (mkF m 39 #[.val (.int p1), .val (.int p2), .val (.int p3), .val (.int p4), .val (.ref ob_1001), .val (.int v1002), .val (.int v1003), .unset, .unset, .unset, .unset, .unset, .unset, .unset, .unset] [(.int v1003), (.int (1 : Int32)), (.ref b1010), (.ref b1010), (.ref b1004), (.ref b1004)]))
  obtain ⟨cl1027, Ar1027, q1027, S1027, N1027n, H1027, G1027⟩ := id f1020
  have hin1027 : ¬ ((1 : Int32) < 0 ∨ cl1027.slots.size ≤ ((1 : Int32)).toNatClampNeg) := inb_of S1027 ⟨by decide, by decide⟩
  obtain ⟨T1027, h1027, X1027, e1027, W1027, st1027⟩ := stC X1019 hx hZ e1019 Ar1027 (j := (1 : Int32)) hin1027 (g := (mkF m 39 #[.val (.int p1), .val (.int p2), .val (.int p3), .val (.int p4), .val (.ref ob_1001), .val (.int v1002), .val (.int v1003), .unset, .unset, .unset, .unset, .unset, .unset, .unset, .unset] [(.int v1003), (.int (1 : Int32)), (.ref b1010), (.ref b1010), (.ref b1004), (.ref b1004)])) rfl rfl (hb hby at_39)
  refine OEnds.st st1027 ?_
  clear st1027
  have f1028 : Arv Z h1027 b1010 k1010 .char (2 : Int32) [(.int (nar .char v1002)), (.int (nar .char v1003))] (.int (0 : Int32)) := Arv.set Ar1027 q1027 S1027 N1027n H1027 G1027 (fits_nar_char _) W1027 1 rfl (Nat.le_of_ble_eq_true rfl)
  have f1029 : Sta Z h1027 "java/lang/String" "COMPACT_STRINGS" "Z" (.int w) := f1021.wr W1027
  have f1030 : Sta Z h1027 "java/lang/Throwable" "UNASSIGNED_STACK" "[Ljava/lang/StackTraceElement;" (.ref u1) := f1022.wr W1027
  have f1031 : Sta Z h1027 "java/lang/Throwable" "SUPPRESSED_SENTINEL" "Ljava/util/List;" (.ref u2) := f1023.wr W1027
  have f1032 : Exa Z h1027 b1004 "java/lang/String" := f1024.wr W1027
  have f1033 : Fld Z h1027 b1004 "java/lang/String" "coder" "B" (.int (0 : Int32)) := f1025.other W1027 (Or.inl ne1011)
  have f1034 : Fld Z h1027 b1004 "java/lang/String" "value" "[B" .null := f1026.other W1027 (Or.inl ne1011)
  have N1027 := Fr.snoc X1027 N1019 ge_b1010
  have KK1027 : Keep h0 h1027 [] := KK1019.wr W1027 (Or.inr sz_b1010)
  have Z1027 := Nat.le_trans Z1019 (Keep.of_wr W1027).1
  have hkk := Nat.le_trans hkk (Keep.of_wr W1027).1
  show OEnds p.tables e below G (T1027.setTop (mkF m 40 #[.val (.int p1), .val (.int p2), .val (.int p3), .val (.int p4), .val (.ref ob_1001), .val (.int v1002), .val (.int v1003), .unset, .unset, .unset, .unset, .unset, .unset, .unset, .unset] [(.ref b1010), (.ref b1004), (.ref b1004)]))
  obtain ⟨_, _, ⟨T1035, L1035, k1035c, n1035c⟩, -, X1035, ⟨Lc1035, hQ1035, l1035, y1035, z1035⟩, st1035⟩ := X1027.specialBack hx (y := (⟨"java/lang/String", "<init>", "([C)V"⟩ : MethodName)) rfl hown (mvT hZ (hw _ (List.mem_of_getElem? (i := 12) rfl))) (mvT hZ (hw _ (List.mem_of_getElem? (i := 13) rfl))) (mvT hZ (hw _ (List.mem_of_getElem? (i := 14) rfl))) (by decide) (backOf (W := 1) (rm2 l Z a0 hw [] b1004 b1010 w k1010 (nar .char v1002) (nar .char v1003) h1027 n0 Z1027 f1032 f1034 f1033 f1028 f1029 ge_b1004 (Ne.symm ne1011) hw0 (by rw [← hv_v1002]; exact own_ch7 _) (by rw [← hv_v1003]; exact own_ch7 _)) hZ (hw _ (List.mem_of_getElem? (i := 14) rfl)) (hw _ (List.mem_of_getElem? (i := 10) rfl)) (by decide) (by decide)) (g := (mkF m 40 #[.val (.int p1), .val (.int p2), .val (.int p3), .val (.int p4), .val (.ref ob_1001), .val (.int v1002), .val (.int v1003), .unset, .unset, .unset, .unset, .unset, .unset, .unset, .unset] [(.ref b1010), (.ref b1004), (.ref b1004)])) rfl (by rw [hml]; rfl) (Steps.refl _) (a := b1004) (argsL := [(.ref b1010)]) (rest := [(.ref b1004)]) (lenOf pd_10 rfl) rfl (by show 2 * 0 + _ ≤ _; exact Nat.le_of_eq rfl) (hb hby at_40) (fun _ _ => ⟨rfl, e1027, (by decide : 0 + 0 + 1 + 1 + 1 ≤ _), (by decide : 0 + 0 + 4 + 2 + 2 ≤ _)⟩)
  dsimp only [Pt.U, Pt.locs, Pt.cells, Pt.slots] at X1035 l1035 y1035 z1035 st1035 hQ1035
  subst l1035 y1035 z1035
  obtain ⟨rfl, N1035q, p1036, p1037⟩ := hQ1035
  have N1035 := Fr.app N1027 N1035q
  refine OEnds.st (fun _ k => st1035.trans k) ?_
  clear st1035
  have f1038 : Sta Z T1035.heap "java/lang/String" "COMPACT_STRINGS" "Z" (.int w) := own_Sta_keep f1029 p1036 (fun x hx => by cases List.mem_singleton.mp hx; exact own_exa_ns f1032)
  have f1039 : Sta Z T1035.heap "java/lang/Throwable" "UNASSIGNED_STACK" "[Ljava/lang/StackTraceElement;" (.ref u1) := own_Sta_keep f1030 p1036 (fun x hx => by cases List.mem_singleton.mp hx; exact own_exa_ns f1032)
  have f1040 : Sta Z T1035.heap "java/lang/Throwable" "SUPPRESSED_SENTINEL" "Ljava/util/List;" (.ref u2) := own_Sta_keep f1031 p1036 (fun x hx => by cases List.mem_singleton.mp hx; exact own_exa_ns f1032)
  have f1041 : Exa Z T1035.heap b1004 "java/lang/String" := f1032.keep p1036
  have f1044 : Arv Z T1035.heap b1010 k1010 .char (2 : Int32) [(.int (nar .char v1002)), (.int (nar .char v1003))] (.int (0 : Int32)) := f1028.keep p1036 (by simp only [List.mem_cons, List.not_mem_nil, or_false, not_or]; exact (Ne.symm ne1011))
  have KK1035 : Keep h0 T1035.heap [] := KK1027.trans p1036 (fun x hx => by cases List.mem_singleton.mp hx; exact Or.inr sz_b1004)
  have Z1035 := Nat.le_trans Z1027 p1036.1
  have hkk := Nat.le_trans hkk p1036.1
  show OEnds p.tables e below G (T1035.setTop (mkF m 43 #[.val (.int p1), .val (.int p2), .val (.int p3), .val (.int p4), .val (.ref ob_1001), .val (.int v1002), .val (.int v1003), .unset, .unset, .unset, .unset, .unset, .unset, .unset, .unset] [(.ref b1004)]))
  refine OEnds.st (fun _ k => XS.astore X1035.here hx rfl (hb hby at_43) rfl rfl (l' := #[.val (.int p1), .val (.int p2), .val (.int p3), .val (.int p4), .val (.ref ob_1001), .val (.int v1002), .val (.int v1003), .val (.ref b1004), .unset, .unset, .unset, .unset, .unset, .unset, .unset]) rfl k) ?_
  show OEnds p.tables e below G (T1035.setTop (mkF m 45 #[.val (.int p1), .val (.int p2), .val (.int p3), .val (.int p4), .val (.ref ob_1001), .val (.int v1002), .val (.int v1003), .val (.ref b1004), .unset, .unset, .unset, .unset, .unset, .unset, .unset] []))
  refine OEnds.st (fun _ k => XS.iloadN X1035.here hx rfl (hb hby at_45) rfl k) ?_
  show OEnds p.tables e below G (T1035.setTop (mkF m 46 #[.val (.int p1), .val (.int p2), .val (.int p3), .val (.int p4), .val (.ref ob_1001), .val (.int v1002), .val (.int v1003), .val (.ref b1004), .unset, .unset, .unset, .unset, .unset, .unset, .unset] [(.int p3)]))
  refine OEnds.st (fun _ k => XS.iconst X1035.here hx rfl (hb hby at_46) k) ?_
  show OEnds p.tables e below G (T1035.setTop (mkF m 47 #[.val (.int p1), .val (.int p2), .val (.int p3), .val (.int p4), .val (.ref ob_1001), .val (.int v1002), .val (.int v1003), .val (.ref b1004), .unset, .unset, .unset, .unset, .unset, .unset, .unset] [(.int (3 : Int32)), (.int p3)]))
  refine OEnds.st (fun _ k => XS.iand X1035.here hx rfl (hb hby at_47) rfl k) ?_
  show OEnds p.tables e below G (T1035.setTop (mkF m 48 #[.val (.int p1), .val (.int p2), .val (.int p3), .val (.int p4), .val (.ref ob_1001), .val (.int v1002), .val (.int v1003), .val (.ref b1004), .unset, .unset, .unset, .unset, .unset, .unset, .unset] [(.int (p3 &&& (3 : Int32)))]))
  refine OEnds.st (fun _ k => XS.istore X1035.here hx rfl (hb hby at_48) rfl (l' := #[.val (.int p1), .val (.int p2), .val (.int p3), .val (.int p4), .val (.ref ob_1001), .val (.int v1002), .val (.int v1003), .val (.ref b1004), .val (.int (p3 &&& (3 : Int32))), .unset, .unset, .unset, .unset, .unset, .unset]) rfl k) ?_
  show OEnds p.tables e below G (T1035.setTop (mkF m 50 #[.val (.int p1), .val (.int p2), .val (.int p3), .val (.int p4), .val (.ref ob_1001), .val (.int v1002), .val (.int v1003), .val (.ref b1004), .val (.int (p3 &&& (3 : Int32))), .unset, .unset, .unset, .unset, .unset, .unset] []))
  generalize hv_v1045 : (p3 &&& (3 : Int32)) = v1045
  show OEnds p.tables e below G (T1035.setTop (mkF m 50 #[.val (.int p1), .val (.int p2), .val (.int p3), .val (.int p4), .val (.ref ob_1001), .val (.int v1002), .val (.int v1003), .val (.ref b1004), .val (.int v1045), .unset, .unset, .unset, .unset, .unset, .unset] []))
  refine OEnds.st (fun _ k => XS.iloadN X1035.here hx rfl (hb hby at_50) rfl k) ?_
  show OEnds p.tables e below G (T1035.setTop (mkF m 51 #[.val (.int p1), .val (.int p2), .val (.int p3), .val (.int p4), .val (.ref ob_1001), .val (.int v1002), .val (.int v1003), .val (.ref b1004), .val (.int v1045), .unset, .unset, .unset, .unset, .unset, .unset] [(.int p4)]))
  refine OEnds.st (fun _ k => XS.sipush X1035.here hx rfl (hb hby at_51) k) ?_
  show OEnds p.tables e below G (T1035.setTop (mkF m 54 #[.val (.int p1), .val (.int p2), .val (.int p3), .val (.int p4), .val (.ref ob_1001), .val (.int v1002), .val (.int v1003), .val (.ref b1004), .val (.int v1045), .unset, .unset, .unset, .unset, .unset, .unset] [(.int (255 : Int32)), (.int p4)]))
  refine OEnds.st (fun _ k => XS.iand X1035.here hx rfl (hb hby at_54) rfl k) ?_
  show OEnds p.tables e below G (T1035.setTop (mkF m 55 #[.val (.int p1), .val (.int p2), .val (.int p3), .val (.int p4), .val (.ref ob_1001), .val (.int v1002), .val (.int v1003), .val (.ref b1004), .val (.int v1045), .unset, .unset, .unset, .unset, .unset, .unset] [(.int (p4 &&& (255 : Int32)))]))
  refine OEnds.st (fun _ k => XS.i2c X1035.here hx rfl (hb hby at_55) rfl k) ?_
  show OEnds p.tables e below G (T1035.setTop (mkF m 56 #[.val (.int p1), .val (.int p2), .val (.int p3), .val (.int p4), .val (.ref ob_1001), .val (.int v1002), .val (.int v1003), .val (.ref b1004), .val (.int v1045), .unset, .unset, .unset, .unset, .unset, .unset] [(.int ((p4 &&& (255 : Int32)).toUInt32.toUInt16.toUInt32.toInt32))]))
  refine OEnds.st (fun _ k => XS.istore X1035.here hx rfl (hb hby at_56) rfl (l' := #[.val (.int p1), .val (.int p2), .val (.int p3), .val (.int p4), .val (.ref ob_1001), .val (.int v1002), .val (.int v1003), .val (.ref b1004), .val (.int v1045), .val (.int ((p4 &&& (255 : Int32)).toUInt32.toUInt16.toUInt32.toInt32)), .unset, .unset, .unset, .unset, .unset]) rfl k) ?_
  show OEnds p.tables e below G (T1035.setTop (mkF m 58 #[.val (.int p1), .val (.int p2), .val (.int p3), .val (.int p4), .val (.ref ob_1001), .val (.int v1002), .val (.int v1003), .val (.ref b1004), .val (.int v1045), .val (.int ((p4 &&& (255 : Int32)).toUInt32.toUInt16.toUInt32.toInt32)), .unset, .unset, .unset, .unset, .unset] []))
  generalize hv_v1046 : ((p4 &&& (255 : Int32)).toUInt32.toUInt16.toUInt32.toInt32) = v1046
  show OEnds p.tables e below G (T1035.setTop (mkF m 58 #[.val (.int p1), .val (.int p2), .val (.int p3), .val (.int p4), .val (.ref ob_1001), .val (.int v1002), .val (.int v1003), .val (.ref b1004), .val (.int v1045), .val (.int v1046), .unset, .unset, .unset, .unset, .unset] []))
  refine OEnds.st (fun _ k => XS.iloadN X1035.here hx rfl (hb hby at_58) rfl k) ?_
  show OEnds p.tables e below G (T1035.setTop (mkF m 59 #[.val (.int p1), .val (.int p2), .val (.int p3), .val (.int p4), .val (.ref ob_1001), .val (.int v1002), .val (.int v1003), .val (.ref b1004), .val (.int v1045), .val (.int v1046), .unset, .unset, .unset, .unset, .unset] [(.int p4)]))
  refine OEnds.st (fun _ k => XS.bipush X1035.here hx rfl (hb hby at_59) k) ?_
  show OEnds p.tables e below G (T1035.setTop (mkF m 61 #[.val (.int p1), .val (.int p2), .val (.int p3), .val (.int p4), .val (.ref ob_1001), .val (.int v1002), .val (.int v1003), .val (.ref b1004), .val (.int v1045), .val (.int v1046), .unset, .unset, .unset, .unset, .unset] [(.int (8 : Int32)), (.int p4)]))
  refine OEnds.st (fun _ k => XS.iushr X1035.here hx rfl (hb hby at_61) rfl k) ?_
  show OEnds p.tables e below G (T1035.setTop (mkF m 62 #[.val (.int p1), .val (.int p2), .val (.int p3), .val (.int p4), .val (.ref ob_1001), .val (.int v1002), .val (.int v1003), .val (.ref b1004), .val (.int v1045), .val (.int v1046), .unset, .unset, .unset, .unset, .unset] [(.int ((p4.toUInt32 >>> ((8 : Int32) &&& 31).toUInt32).toInt32))]))
  refine OEnds.st (fun _ k => XS.sipush X1035.here hx rfl (hb hby at_62) k) ?_
  show OEnds p.tables e below G (T1035.setTop (mkF m 65 #[.val (.int p1), .val (.int p2), .val (.int p3), .val (.int p4), .val (.ref ob_1001), .val (.int v1002), .val (.int v1003), .val (.ref b1004), .val (.int v1045), .val (.int v1046), .unset, .unset, .unset, .unset, .unset] [(.int (255 : Int32)), (.int ((p4.toUInt32 >>> ((8 : Int32) &&& 31).toUInt32).toInt32))]))
  refine OEnds.st (fun _ k => XS.iand X1035.here hx rfl (hb hby at_65) rfl k) ?_
  show OEnds p.tables e below G (T1035.setTop (mkF m 66 #[.val (.int p1), .val (.int p2), .val (.int p3), .val (.int p4), .val (.ref ob_1001), .val (.int v1002), .val (.int v1003), .val (.ref b1004), .val (.int v1045), .val (.int v1046), .unset, .unset, .unset, .unset, .unset] [(.int (((p4.toUInt32 >>> ((8 : Int32) &&& 31).toUInt32).toInt32) &&& (255 : Int32)))]))
  refine OEnds.st (fun _ k => XS.i2c X1035.here hx rfl (hb hby at_66) rfl k) ?_
  show OEnds p.tables e below G (T1035.setTop (mkF m 67 #[.val (.int p1), .val (.int p2), .val (.int p3), .val (.int p4), .val (.ref ob_1001), .val (.int v1002), .val (.int v1003), .val (.ref b1004), .val (.int v1045), .val (.int v1046), .unset, .unset, .unset, .unset, .unset] [(.int ((((p4.toUInt32 >>> ((8 : Int32) &&& 31).toUInt32).toInt32) &&& (255 : Int32)).toUInt32.toUInt16.toUInt32.toInt32))]))
  refine OEnds.st (fun _ k => XS.istore X1035.here hx rfl (hb hby at_67) rfl (l' := #[.val (.int p1), .val (.int p2), .val (.int p3), .val (.int p4), .val (.ref ob_1001), .val (.int v1002), .val (.int v1003), .val (.ref b1004), .val (.int v1045), .val (.int v1046), .val (.int ((((p4.toUInt32 >>> ((8 : Int32) &&& 31).toUInt32).toInt32) &&& (255 : Int32)).toUInt32.toUInt16.toUInt32.toInt32)), .unset, .unset, .unset, .unset]) rfl k) ?_
  show OEnds p.tables e below G (T1035.setTop (mkF m 69 #[.val (.int p1), .val (.int p2), .val (.int p3), .val (.int p4), .val (.ref ob_1001), .val (.int v1002), .val (.int v1003), .val (.ref b1004), .val (.int v1045), .val (.int v1046), .val (.int ((((p4.toUInt32 >>> ((8 : Int32) &&& 31).toUInt32).toInt32) &&& (255 : Int32)).toUInt32.toUInt16.toUInt32.toInt32)), .unset, .unset, .unset, .unset] []))
  generalize hv_v1047 : ((((p4.toUInt32 >>> ((8 : Int32) &&& 31).toUInt32).toInt32) &&& (255 : Int32)).toUInt32.toUInt16.toUInt32.toInt32) = v1047
  show OEnds p.tables e below G (T1035.setTop (mkF m 69 #[.val (.int p1), .val (.int p2), .val (.int p3), .val (.int p4), .val (.ref ob_1001), .val (.int v1002), .val (.int v1003), .val (.ref b1004), .val (.int v1045), .val (.int v1046), .val (.int v1047), .unset, .unset, .unset, .unset] []))
  refine OEnds.st (fun _ k => XS.iload X1035.here hx rfl (hb hby at_69) rfl k) ?_
  show OEnds p.tables e below G (T1035.setTop (mkF m 71 #[.val (.int p1), .val (.int p2), .val (.int p3), .val (.int p4), .val (.ref ob_1001), .val (.int v1002), .val (.int v1003), .val (.ref b1004), .val (.int v1045), .val (.int v1046), .val (.int v1047), .unset, .unset, .unset, .unset] [(.int v1045)]))
  by_cases hc71_1048 : v1045 = (0 : Int32)
  · -- pc 71: yes
    refine OEnds.st (fun _ k => XS.ifNo X1035.here hx rfl (hb hby at_71) rfl ((if0 _ _).trans (teq hc71_1048).2) k) ?_
    show OEnds p.tables e below G (T1035.setTop (mkF m 74 #[.val (.int p1), .val (.int p2), .val (.int p3), .val (.int p4), .val (.ref ob_1001), .val (.int v1002), .val (.int v1003), .val (.ref b1004), .val (.int v1045), .val (.int v1046), .val (.int v1047), .unset, .unset, .unset, .unset] []))
    refine OEnds.st (fun _ k => XS.aconstNull X1035.here hx rfl (hb hby at_74) k) ?_
    show OEnds p.tables e below G (T1035.setTop (mkF m 75 #[.val (.int p1), .val (.int p2), .val (.int p3), .val (.int p4), .val (.ref ob_1001), .val (.int v1002), .val (.int v1003), .val (.ref b1004), .val (.int v1045), .val (.int v1046), .val (.int v1047), .unset, .unset, .unset, .unset] [.null]))
    refine OEnds.st (fun _ k => XS.astore X1035.here hx rfl (hb hby at_75) rfl rfl (l' := #[.val (.int p1), .val (.int p2), .val (.int p3), .val (.int p4), .val (.ref ob_1001), .val (.int v1002), .val (.int v1003), .val (.ref b1004), .val (.int v1045), .val (.int v1046), .val (.int v1047), .val .null, .unset, .unset, .unset]) rfl k) ?_
    show OEnds p.tables e below G (T1035.setTop (mkF m 77 #[.val (.int p1), .val (.int p2), .val (.int p3), .val (.int p4), .val (.ref ob_1001), .val (.int v1002), .val (.int v1003), .val (.ref b1004), .val (.int v1045), .val (.int v1046), .val (.int v1047), .val .null, .unset, .unset, .unset] []))
    refine OEnds.st (fun _ k => XS.goto X1035.here hx rfl (pc0 := 77) (pc' := 139) rfl (hb hby at_77) (by decide) (by decide) k) ?_
    show OEnds p.tables e below G (T1035.setTop (mkF m 139 #[.val (.int p1), .val (.int p2), .val (.int p3), .val (.int p4), .val (.ref ob_1001), .val (.int v1002), .val (.int v1003), .val (.ref b1004), .val (.int v1045), .val (.int v1046), .val (.int v1047), .val .null, .unset, .unset, .unset] []))
    obtain ⟨T1049, h1049, X1049, e1049, E1049, A1049, D1049, U1049, st1049⟩ := newO X1035 hx hZ hown (hw _ (List.mem_of_getElem? (i := 52) rfl)) (hw _ (List.mem_of_getElem? (i := 53) rfl)) (hw _ (List.mem_of_getElem? (i := 54) rfl)) rfl (g := (mkF m 139 #[.val (.int p1), .val (.int p2), .val (.int p3), .val (.int p4), .val (.ref ob_1001), .val (.int v1002), .val (.int v1003), .val (.ref b1004), .val (.int v1045), .val (.int v1046), .val (.int v1047), .val .null, .unset, .unset, .unset] [])) rfl (hb hby at_139) (by decide) (by decide)
    obtain ⟨b1049, g1049⟩ : ∃ z, z = T1035.heap.size := ⟨_, rfl⟩
    rw [← g1049] at A1049 D1049 st1049 U1049
    refine OEnds.st st1049 ?_
    clear st1049
    have ge_b1049 : n0 ≤ b1049 := Nat.le_trans Z1035 (Nat.le_of_eq g1049.symm)
    have sz_b1049 : h0.size ≤ b1049 := Nat.le_trans KK1035.1 (Nat.le_of_eq g1049.symm)
    have f1050 : Sta Z h1049 "java/lang/String" "COMPACT_STRINGS" "Z" (.int w) := f1038.ext E1049
    have f1051 : Sta Z h1049 "java/lang/Throwable" "UNASSIGNED_STACK" "[Ljava/lang/StackTraceElement;" (.ref u1) := f1039.ext E1049
    have f1052 : Sta Z h1049 "java/lang/Throwable" "SUPPRESSED_SENTINEL" "Ljava/util/List;" (.ref u2) := f1040.ext E1049
    have KK1049 : Keep h0 h1049 [] := KK1035.ext E1049
    have Z1049 := Nat.le_trans Z1035 E1049.1
    have hkk := Nat.le_trans hkk E1049.1
    have un_b1049 : Unt h1049 b1049 := U1049
    have ex_b1049 := A1049
    have f1053 : Fld Z h1049 b1049 "java/lang/Throwable" "cause" "Ljava/lang/Throwable;" .null := D1049 (Or.inl (hw _ (List.mem_of_getElem? (i := 71) rfl))) (ty := (.object "java/lang/Throwable")) (by decide)
    have f1054 : Fld Z h1049 b1049 "java/lang/Throwable" "stackTrace" "[Ljava/lang/StackTraceElement;" .null := D1049 (Or.inl (hw _ (List.mem_of_getElem? (i := 74) rfl))) (ty := (.array (.object "java/lang/StackTraceElement"))) (by decide)
    have f1055 : Fld Z h1049 b1049 "java/lang/Throwable" "suppressedExceptions" "Ljava/util/List;" .null := D1049 (Or.inl (hw _ (List.mem_of_getElem? (i := 77) rfl))) (ty := (.object "java/util/List")) (by decide)
    have f1056 : Fld Z h1049 b1049 "java/lang/Throwable" "detailMessage" "Ljava/lang/String;" .null := D1049 (Or.inl (hw _ (List.mem_of_getElem? (i := 101) rfl))) (ty := (.object "java/lang/String")) (by decide)
    have f1057 : Fld Z h1049 b1049 "java/lang/Throwable" "backtrace" "Ljava/lang/Object;" .null := D1049 (Or.inl (hw _ (List.mem_of_getElem? (i := 102) rfl))) (ty := (.object "java/lang/Object")) (by decide)
    have f1058 : Fld Z h1049 b1049 "java/lang/Throwable" "depth" "I" (.int (0 : Int32)) := D1049 (Or.inl (hw _ (List.mem_of_getElem? (i := 103) rfl))) (ty := .int) (by decide)
    have f1059 : Fld Z h1049 b1049 "com/example/coracle_health/coraclehealth/oauth/TokenError" "code" "Lcom/example/coracle_health/coraclehealth/oauth/TokenError$Code;" .null := D1049 (Or.inr (hw _ (List.mem_of_getElem? (i := 107) rfl))) (ty := (.object "com/example/coracle_health/coraclehealth/oauth/TokenError$Code")) (by decide)
    have f1060 : Fld Z h1049 b1049 "com/example/coracle_health/coraclehealth/oauth/TokenError" "challenge" "Ljava/lang/String;" .null := D1049 (Or.inr (hw _ (List.mem_of_getElem? (i := 109) rfl))) (ty := (.object "java/lang/String")) (by decide)
    show OEnds p.tables e below G (T1049.setTop (mkF m 142 #[.val (.int p1), .val (.int p2), .val (.int p3), .val (.int p4), .val (.ref ob_1001), .val (.int v1002), .val (.int v1003), .val (.ref b1004), .val (.int v1045), .val (.int v1046), .val (.int v1047), .val .null, .unset, .unset, .unset] [(.ref b1049)]))
    refine OEnds.st (fun _ k => XS.dup X1049.here hx rfl (hb hby at_142) rfl rfl k) ?_
    show OEnds p.tables e below G (T1049.setTop (mkF m 143 #[.val (.int p1), .val (.int p2), .val (.int p3), .val (.int p4), .val (.ref ob_1001), .val (.int v1002), .val (.int v1003), .val (.ref b1004), .val (.int v1045), .val (.int v1046), .val (.int v1047), .val .null, .unset, .unset, .unset] [(.ref b1049), (.ref b1049)]))
    refine OEnds.st (fun _ k => XS.aload X1049.here hx rfl (hb hby at_143) rfl rfl k) ?_
    show OEnds p.tables e below G (T1049.setTop (mkF m 145 #[.val (.int p1), .val (.int p2), .val (.int p3), .val (.int p4), .val (.ref ob_1001), .val (.int v1002), .val (.int v1003), .val (.ref b1004), .val (.int v1045), .val (.int v1046), .val (.int v1047), .val .null, .unset, .unset, .unset] [(.ref ob_1001), (.ref b1049), (.ref b1049)]))
    refine OEnds.st (fun _ k => XS.aload X1049.here hx rfl (hb hby at_145) rfl rfl k) ?_
    show OEnds p.tables e below G (T1049.setTop (mkF m 147 #[.val (.int p1), .val (.int p2), .val (.int p3), .val (.int p4), .val (.ref ob_1001), .val (.int v1002), .val (.int v1003), .val (.ref b1004), .val (.int v1045), .val (.int v1046), .val (.int v1047), .val .null, .unset, .unset, .unset] [(.ref b1004), (.ref ob_1001), (.ref b1049), (.ref b1049)]))
    refine OEnds.st (fun _ k => XS.aload X1049.here hx rfl (hb hby at_147) rfl rfl k) ?_
    show OEnds p.tables e below G (T1049.setTop (mkF m 149 #[.val (.int p1), .val (.int p2), .val (.int p3), .val (.int p4), .val (.ref ob_1001), .val (.int v1002), .val (.int v1003), .val (.ref b1004), .val (.int v1045), .val (.int v1046), .val (.int v1047), .val .null, .unset, .unset, .unset] [.null, (.ref b1004), (.ref ob_1001), (.ref b1049), (.ref b1049)]))
    obtain ⟨_, _, ⟨T1061, L1061, k1061c, n1061c⟩, -, X1061, ⟨Lc1061, hQ1061, l1061, y1061, z1061⟩, st1061⟩ := X1049.specialBack hx (y := (⟨"com/example/coracle_health/coraclehealth/oauth/TokenError", "<init>", "(Lcom/example/coracle_health/coraclehealth/oauth/TokenError$Code;Ljava/lang/String;Ljava/lang/String;)V"⟩ : MethodName)) rfl hown (mvT hZ (hw _ (List.mem_of_getElem? (i := 55) rfl))) (mvT hZ (hw _ (List.mem_of_getElem? (i := 56) rfl))) (mvT hZ (hw _ (List.mem_of_getElem? (i := 57) rfl))) (by decide) (backOfKL (W := 1) (rmti0 l Z a0 hw [] b1049 ob_1001 b1004 u1 u2 h1049 n0 Z1049 (ThS.keep KK1049 (fun x hx => absurd hx List.not_mem_nil) TS) un_b1049 ex_b1049 f1057 f1056 f1053 f1054 f1055 f1051 f1052 ge_b1049 hl) hZ (hw _ (List.mem_of_getElem? (i := 57) rfl)) (hw _ (List.mem_of_getElem? (i := 54) rfl)) (by decide) (by decide) hTK hBel) (g := (mkF m 149 #[.val (.int p1), .val (.int p2), .val (.int p3), .val (.int p4), .val (.ref ob_1001), .val (.int v1002), .val (.int v1003), .val (.ref b1004), .val (.int v1045), .val (.int v1046), .val (.int v1047), .val .null, .unset, .unset, .unset] [.null, (.ref b1004), (.ref ob_1001), (.ref b1049), (.ref b1049)])) rfl (by rw [hml]; rfl) (Steps.refl _) (a := b1049) (argsL := [(.ref ob_1001), (.ref b1004), .null]) (rest := [(.ref b1049)]) (lenOf pd_8 rfl) rfl (by show 2 * 0 + _ ≤ _; exact Nat.le_of_eq rfl) (hb hby at_149) (fun _ _ => ⟨rfl, e1049, (by decide : 0 + 0 + 1 + 1 + 1 + 1 + 1 ≤ _), (by decide : 0 + 0 + 4 + 2 + 2 + 8 + 2752 ≤ _)⟩)
    dsimp only [Pt.U, Pt.locs, Pt.cells, Pt.slots] at X1061 l1061 y1061 z1061 st1061 hQ1061
    subst l1061 y1061 z1061
    obtain ⟨rfl, N1061q, p1062, p1063, p1064⟩ := hQ1061
    have N1061 := Fr.app N1035 N1061q
    refine OEnds.st (fun _ k => st1061.trans k) ?_
    clear st1061
    have f1065 : Sta Z T1061.heap "java/lang/String" "COMPACT_STRINGS" "Z" (.int w) := own_Sta_keep f1050 p1062 (fun x hx => by cases List.mem_singleton.mp hx; exact own_exa_ns ex_b1049)
    have f1066 : Sta Z T1061.heap "java/lang/Throwable" "UNASSIGNED_STACK" "[Ljava/lang/StackTraceElement;" (.ref u1) := own_Sta_keep f1051 p1062 (fun x hx => by cases List.mem_singleton.mp hx; exact own_exa_ns ex_b1049)
    have f1067 : Sta Z T1061.heap "java/lang/Throwable" "SUPPRESSED_SENTINEL" "Ljava/util/List;" (.ref u2) := own_Sta_keep f1052 p1062 (fun x hx => by cases List.mem_singleton.mp hx; exact own_exa_ns ex_b1049)
    have f1068 : Exa Z T1061.heap b1049 "com/example/coracle_health/coraclehealth/oauth/TokenError" := ex_b1049.keep p1062
    have KK1061 : Keep h0 T1061.heap [] := KK1049.trans p1062 (fun x hx => by cases List.mem_singleton.mp hx; exact Or.inr sz_b1049)
    have Z1061 := Nat.le_trans Z1049 p1062.1
    have hkk := Nat.le_trans hkk p1062.1
    show OEnds p.tables e below G (T1061.setTop (mkF m 152 #[.val (.int p1), .val (.int p2), .val (.int p3), .val (.int p4), .val (.ref ob_1001), .val (.int v1002), .val (.int v1003), .val (.ref b1004), .val (.int v1045), .val (.int v1046), .val (.int v1047), .val .null, .unset, .unset, .unset] [(.ref b1049)]))
    refine OEnds.st (fun _ k => XS.astore X1061.here hx rfl (hb hby at_152) rfl rfl (l' := #[.val (.int p1), .val (.int p2), .val (.int p3), .val (.int p4), .val (.ref ob_1001), .val (.int v1002), .val (.int v1003), .val (.ref b1004), .val (.int v1045), .val (.int v1046), .val (.int v1047), .val .null, .val (.ref b1049), .unset, .unset]) rfl k) ?_
    show OEnds p.tables e below G (T1061.setTop (mkF m 154 #[.val (.int p1), .val (.int p2), .val (.int p3), .val (.int p4), .val (.ref ob_1001), .val (.int v1002), .val (.int v1003), .val (.ref b1004), .val (.int v1045), .val (.int v1046), .val (.int v1047), .val .null, .val (.ref b1049), .unset, .unset] []))
    obtain ⟨T1077, h1077, X1077, e1077, E1077, A1077, D1077, U1077, st1077⟩ := newO X1061 hx hZ hown (hw _ (List.mem_of_getElem? (i := 52) rfl)) (hw _ (List.mem_of_getElem? (i := 53) rfl)) (hw _ (List.mem_of_getElem? (i := 54) rfl)) rfl (g := (mkF m 154 #[.val (.int p1), .val (.int p2), .val (.int p3), .val (.int p4), .val (.ref ob_1001), .val (.int v1002), .val (.int v1003), .val (.ref b1004), .val (.int v1045), .val (.int v1046), .val (.int v1047), .val .null, .val (.ref b1049), .unset, .unset] [])) rfl (hb hby at_154) (by decide) (by decide)
    obtain ⟨b1077, g1077⟩ : ∃ z, z = T1061.heap.size := ⟨_, rfl⟩
    rw [← g1077] at A1077 D1077 st1077 U1077
    refine OEnds.st st1077 ?_
    clear st1077
    have ne1078 : b1049 ≠ b1077 := Nat.ne_of_lt (Nat.lt_of_lt_of_le (p1063).lt (Nat.le_of_eq g1077.symm))
    have ge_b1077 : n0 ≤ b1077 := Nat.le_trans Z1061 (Nat.le_of_eq g1077.symm)
    have sz_b1077 : h0.size ≤ b1077 := Nat.le_trans KK1061.1 (Nat.le_of_eq g1077.symm)
    have f1079 : Sta Z h1077 "java/lang/String" "COMPACT_STRINGS" "Z" (.int w) := f1065.ext E1077
    have f1080 : Sta Z h1077 "java/lang/Throwable" "UNASSIGNED_STACK" "[Ljava/lang/StackTraceElement;" (.ref u1) := f1066.ext E1077
    have f1081 : Sta Z h1077 "java/lang/Throwable" "SUPPRESSED_SENTINEL" "Ljava/util/List;" (.ref u2) := f1067.ext E1077
    have f1082 : Exa Z h1077 b1049 "com/example/coracle_health/coraclehealth/oauth/TokenError" := p1063.ext E1077
    have f1083 : Fld Z h1077 b1049 "com/example/coracle_health/coraclehealth/oauth/TokenError" "challenge" "Ljava/lang/String;" .null := p1064.ext E1077
    have KK1077 : Keep h0 h1077 [] := KK1061.ext E1077
    have Z1077 := Nat.le_trans Z1061 E1077.1
    have hkk := Nat.le_trans hkk E1077.1
    have un_b1077 : Unt h1077 b1077 := U1077
    have ex_b1077 := A1077
    have f1084 : Fld Z h1077 b1077 "java/lang/Throwable" "cause" "Ljava/lang/Throwable;" .null := D1077 (Or.inl (hw _ (List.mem_of_getElem? (i := 71) rfl))) (ty := (.object "java/lang/Throwable")) (by decide)
    have f1085 : Fld Z h1077 b1077 "java/lang/Throwable" "stackTrace" "[Ljava/lang/StackTraceElement;" .null := D1077 (Or.inl (hw _ (List.mem_of_getElem? (i := 74) rfl))) (ty := (.array (.object "java/lang/StackTraceElement"))) (by decide)
    have f1086 : Fld Z h1077 b1077 "java/lang/Throwable" "suppressedExceptions" "Ljava/util/List;" .null := D1077 (Or.inl (hw _ (List.mem_of_getElem? (i := 77) rfl))) (ty := (.object "java/util/List")) (by decide)
    have f1087 : Fld Z h1077 b1077 "java/lang/Throwable" "detailMessage" "Ljava/lang/String;" .null := D1077 (Or.inl (hw _ (List.mem_of_getElem? (i := 101) rfl))) (ty := (.object "java/lang/String")) (by decide)
    have f1088 : Fld Z h1077 b1077 "java/lang/Throwable" "backtrace" "Ljava/lang/Object;" .null := D1077 (Or.inl (hw _ (List.mem_of_getElem? (i := 102) rfl))) (ty := (.object "java/lang/Object")) (by decide)
    have f1089 : Fld Z h1077 b1077 "java/lang/Throwable" "depth" "I" (.int (0 : Int32)) := D1077 (Or.inl (hw _ (List.mem_of_getElem? (i := 103) rfl))) (ty := .int) (by decide)
    have f1090 : Fld Z h1077 b1077 "com/example/coracle_health/coraclehealth/oauth/TokenError" "code" "Lcom/example/coracle_health/coraclehealth/oauth/TokenError$Code;" .null := D1077 (Or.inr (hw _ (List.mem_of_getElem? (i := 107) rfl))) (ty := (.object "com/example/coracle_health/coraclehealth/oauth/TokenError$Code")) (by decide)
    have f1091 : Fld Z h1077 b1077 "com/example/coracle_health/coraclehealth/oauth/TokenError" "challenge" "Ljava/lang/String;" .null := D1077 (Or.inr (hw _ (List.mem_of_getElem? (i := 109) rfl))) (ty := (.object "java/lang/String")) (by decide)
    show OEnds p.tables e below G (T1077.setTop (mkF m 157 #[.val (.int p1), .val (.int p2), .val (.int p3), .val (.int p4), .val (.ref ob_1001), .val (.int v1002), .val (.int v1003), .val (.ref b1004), .val (.int v1045), .val (.int v1046), .val (.int v1047), .val .null, .val (.ref b1049), .unset, .unset] [(.ref b1077)]))
    refine OEnds.st (fun _ k => XS.dup X1077.here hx rfl (hb hby at_157) rfl rfl k) ?_
    show OEnds p.tables e below G (T1077.setTop (mkF m 158 #[.val (.int p1), .val (.int p2), .val (.int p3), .val (.int p4), .val (.ref ob_1001), .val (.int v1002), .val (.int v1003), .val (.ref b1004), .val (.int v1045), .val (.int v1046), .val (.int v1047), .val .null, .val (.ref b1049), .unset, .unset] [(.ref b1077), (.ref b1077)]))
    refine OEnds.st (fun _ k => XS.aload X1077.here hx rfl (hb hby at_158) rfl rfl k) ?_
    show OEnds p.tables e below G (T1077.setTop (mkF m 160 #[.val (.int p1), .val (.int p2), .val (.int p3), .val (.int p4), .val (.ref ob_1001), .val (.int v1002), .val (.int v1003), .val (.ref b1004), .val (.int v1045), .val (.int v1046), .val (.int v1047), .val .null, .val (.ref b1049), .unset, .unset] [(.ref ob_1001), (.ref b1077), (.ref b1077)]))
    refine OEnds.st (fun _ k => XS.aload X1077.here hx rfl (hb hby at_160) rfl rfl k) ?_
    show OEnds p.tables e below G (T1077.setTop (mkF m 162 #[.val (.int p1), .val (.int p2), .val (.int p3), .val (.int p4), .val (.ref ob_1001), .val (.int v1002), .val (.int v1003), .val (.ref b1004), .val (.int v1045), .val (.int v1046), .val (.int v1047), .val .null, .val (.ref b1049), .unset, .unset] [(.ref b1004), (.ref ob_1001), (.ref b1077), (.ref b1077)]))
    obtain ⟨_, _, ⟨T1092, L1092, k1092c, n1092c⟩, -, X1092, ⟨Lc1092, hQ1092, l1092, y1092, z1092⟩, st1092⟩ := X1077.specialBack hx (y := (⟨"com/example/coracle_health/coraclehealth/oauth/TokenError", "<init>", "(Lcom/example/coracle_health/coraclehealth/oauth/TokenError$Code;Ljava/lang/String;)V"⟩ : MethodName)) rfl hown (mvT hZ (hw _ (List.mem_of_getElem? (i := 110) rfl))) (mvT hZ (hw _ (List.mem_of_getElem? (i := 111) rfl))) (mvT hZ (hw _ (List.mem_of_getElem? (i := 112) rfl))) (by decide) (backOfKL (W := 1) (rmt2 l Z a0 hw [] b1077 ob_1001 b1004 u1 u2 h1077 n0 Z1077 (ThS.keep KK1077 (fun x hx => absurd hx List.not_mem_nil) TS) un_b1077 ex_b1077 f1088 f1087 f1084 f1085 f1086 f1080 f1081 ge_b1077 hl) hZ (hw _ (List.mem_of_getElem? (i := 112) rfl)) (hw _ (List.mem_of_getElem? (i := 54) rfl)) (by decide) (by decide) hTK hBel) (g := (mkF m 162 #[.val (.int p1), .val (.int p2), .val (.int p3), .val (.int p4), .val (.ref ob_1001), .val (.int v1002), .val (.int v1003), .val (.ref b1004), .val (.int v1045), .val (.int v1046), .val (.int v1047), .val .null, .val (.ref b1049), .unset, .unset] [(.ref b1004), (.ref ob_1001), (.ref b1077), (.ref b1077)])) rfl (by rw [hml]; rfl) (Steps.refl _) (a := b1077) (argsL := [(.ref ob_1001), (.ref b1004)]) (rest := [(.ref b1077)]) (lenOf pd_11 rfl) rfl (by show 2 * 0 + _ ≤ _; exact Nat.le_of_eq rfl) (hb hby at_162) (fun _ _ => ⟨rfl, e1077, (by decide : 0 + 0 + 1 + 1 + 1 + 1 + 1 + 1 + 1 ≤ _), (by decide : 0 + 0 + 4 + 2 + 2 + 8 + 2752 + 8 + 2752 ≤ _)⟩)
    dsimp only [Pt.U, Pt.locs, Pt.cells, Pt.slots] at X1092 l1092 y1092 z1092 st1092 hQ1092
    subst l1092 y1092 z1092
    obtain ⟨rfl, N1092q, p1093, p1094, p1095⟩ := hQ1092
    have N1092 := Fr.app N1061 N1092q
    refine OEnds.st (fun _ k => st1092.trans k) ?_
    clear st1092
    have f1096 : Sta Z T1092.heap "java/lang/String" "COMPACT_STRINGS" "Z" (.int w) := own_Sta_keep f1079 p1093 (fun x hx => by cases List.mem_singleton.mp hx; exact own_exa_ns ex_b1077)
    have f1097 : Sta Z T1092.heap "java/lang/Throwable" "UNASSIGNED_STACK" "[Ljava/lang/StackTraceElement;" (.ref u1) := own_Sta_keep f1080 p1093 (fun x hx => by cases List.mem_singleton.mp hx; exact own_exa_ns ex_b1077)
    have f1098 : Sta Z T1092.heap "java/lang/Throwable" "SUPPRESSED_SENTINEL" "Ljava/util/List;" (.ref u2) := own_Sta_keep f1081 p1093 (fun x hx => by cases List.mem_singleton.mp hx; exact own_exa_ns ex_b1077)
    have f1099 : Exa Z T1092.heap b1049 "com/example/coracle_health/coraclehealth/oauth/TokenError" := f1082.keep p1093
    have f1100 : Fld Z T1092.heap b1049 "com/example/coracle_health/coraclehealth/oauth/TokenError" "challenge" "Ljava/lang/String;" .null := f1083.keep p1093 (by simp only [List.mem_cons, List.not_mem_nil, or_false, not_or]; exact ne1078)
    have f1101 : Exa Z T1092.heap b1077 "com/example/coracle_health/coraclehealth/oauth/TokenError" := ex_b1077.keep p1093
    have KK1092 : Keep h0 T1092.heap [] := KK1077.trans p1093 (fun x hx => by cases List.mem_singleton.mp hx; exact Or.inr sz_b1077)
    have Z1092 := Nat.le_trans Z1077 p1093.1
    have hkk := Nat.le_trans hkk p1093.1
    show OEnds p.tables e below G (T1092.setTop (mkF m 165 #[.val (.int p1), .val (.int p2), .val (.int p3), .val (.int p4), .val (.ref ob_1001), .val (.int v1002), .val (.int v1003), .val (.ref b1004), .val (.int v1045), .val (.int v1046), .val (.int v1047), .val .null, .val (.ref b1049), .unset, .unset] [(.ref b1077)]))
    refine OEnds.st (fun _ k => XS.astore X1092.here hx rfl (hb hby at_165) rfl rfl (l' := #[.val (.int p1), .val (.int p2), .val (.int p3), .val (.int p4), .val (.ref ob_1001), .val (.int v1002), .val (.int v1003), .val (.ref b1004), .val (.int v1045), .val (.int v1046), .val (.int v1047), .val .null, .val (.ref b1049), .val (.ref b1077), .unset]) rfl k) ?_
    show OEnds p.tables e below G (T1092.setTop (mkF m 167 #[.val (.int p1), .val (.int p2), .val (.int p3), .val (.int p4), .val (.ref ob_1001), .val (.int v1002), .val (.int v1003), .val (.ref b1004), .val (.int v1045), .val (.int v1046), .val (.int v1047), .val .null, .val (.ref b1049), .val (.ref b1077), .unset] []))
    refine OEnds.st (fun _ k => XS.iload X1092.here hx rfl (hb hby at_167) rfl k) ?_
    show OEnds p.tables e below G (T1092.setTop (mkF m 169 #[.val (.int p1), .val (.int p2), .val (.int p3), .val (.int p4), .val (.ref ob_1001), .val (.int v1002), .val (.int v1003), .val (.ref b1004), .val (.int v1045), .val (.int v1046), .val (.int v1047), .val .null, .val (.ref b1049), .val (.ref b1077), .unset] [(.int v1045)]))
    refine OEnds.st (fun _ k => XS.ifNo X1092.here hx rfl (hb hby at_169) rfl ((if0 _ _).trans (teq hc71_1048).2) k) ?_
    show OEnds p.tables e below G (T1092.setTop (mkF m 172 #[.val (.int p1), .val (.int p2), .val (.int p3), .val (.int p4), .val (.ref ob_1001), .val (.int v1002), .val (.int v1003), .val (.ref b1004), .val (.int v1045), .val (.int v1046), .val (.int v1047), .val .null, .val (.ref b1049), .val (.ref b1077), .unset] []))
    refine OEnds.st (fun _ k => XS.sipush X1092.here hx rfl (hb hby at_172) k) ?_
    show OEnds p.tables e below G (T1092.setTop (mkF m 175 #[.val (.int p1), .val (.int p2), .val (.int p3), .val (.int p4), .val (.ref ob_1001), .val (.int v1002), .val (.int v1003), .val (.ref b1004), .val (.int v1045), .val (.int v1046), .val (.int v1047), .val .null, .val (.ref b1049), .val (.ref b1077), .unset] [(.int (400 : Int32))]))
    refine OEnds.st (fun _ k => XS.istore X1092.here hx rfl (hb hby at_175) rfl (l' := #[.val (.int p1), .val (.int p2), .val (.int p3), .val (.int p4), .val (.ref ob_1001), .val (.int v1002), .val (.int v1003), .val (.ref b1004), .val (.int v1045), .val (.int v1046), .val (.int v1047), .val .null, .val (.ref b1049), .val (.ref b1077), .val (.int (400 : Int32))]) rfl k) ?_
    show OEnds p.tables e below G (T1092.setTop (mkF m 177 #[.val (.int p1), .val (.int p2), .val (.int p3), .val (.int p4), .val (.ref ob_1001), .val (.int v1002), .val (.int v1003), .val (.ref b1004), .val (.int v1045), .val (.int v1046), .val (.int v1047), .val .null, .val (.ref b1049), .val (.ref b1077), .val (.int (400 : Int32))] []))
    refine OEnds.st (fun _ k => XS.goto X1092.here hx rfl (pc0 := 177) (pc' := 185) rfl (hb hby at_177) (by decide) (by decide) k) ?_
    show OEnds p.tables e below G (T1092.setTop (mkF m 185 #[.val (.int p1), .val (.int p2), .val (.int p3), .val (.int p4), .val (.ref ob_1001), .val (.int v1002), .val (.int v1003), .val (.ref b1004), .val (.int v1045), .val (.int v1046), .val (.int v1047), .val .null, .val (.ref b1049), .val (.ref b1077), .val (.int (400 : Int32))] []))
    refine OEnds.st (fun _ k => XS.aload X1092.here hx rfl (hb hby at_185) rfl rfl k) ?_
    show OEnds p.tables e below G (T1092.setTop (mkF m 187 #[.val (.int p1), .val (.int p2), .val (.int p3), .val (.int p4), .val (.ref ob_1001), .val (.int v1002), .val (.int v1003), .val (.ref b1004), .val (.int v1045), .val (.int v1046), .val (.int v1047), .val .null, .val (.ref b1049), .val (.ref b1077), .val (.int (400 : Int32))] [(.ref b1049)]))
    obtain ⟨cq1110, kq1110, q1110a, q1110b, q1110c⟩ := isOf hZ rfl f1099
    obtain ⟨_, _, ⟨T1110, L1110, k1110c, n1110c⟩, -, X1110, ⟨Lc1110, hQ1110, l1110, y1110, z1110⟩, st1110⟩ := X1092.virtualBack hx (y := (⟨"com/example/coracle_health/coraclehealth/oauth/TokenError", "status", "()I"⟩ : MethodName)) (z := (⟨"com/example/coracle_health/coraclehealth/oauth/TokenError", "status", "()I"⟩ : MethodName)) hown (mvT hZ (hw _ (List.mem_of_getElem? (i := 114) rfl))) (mvT hZ (hw _ (List.mem_of_getElem? (i := 115) rfl))) (notFace_of_selects (args := #[]) (mvT hZ (hw _ (List.mem_of_getElem? (i := 117) rfl)))) (mvT hZ (hw _ (List.mem_of_getElem? (i := 117) rfl))) (mvT hZ (hw _ (List.mem_of_getElem? (i := 116) rfl))) (by decide) (backOf (W := 0) (rmst0 l Z a0 hw [] b1049 T1092.heap n0 Z1092 f1100) hZ (hw _ (List.mem_of_getElem? (i := 118) rfl)) (hw _ (List.mem_of_getElem? (i := 54) rfl)) (by decide) (by decide)) q1110a q1110c (g := (mkF m 187 #[.val (.int p1), .val (.int p2), .val (.int p3), .val (.int p4), .val (.ref ob_1001), .val (.int v1002), .val (.int v1003), .val (.ref b1004), .val (.int v1045), .val (.int v1046), .val (.int v1047), .val .null, .val (.ref b1049), .val (.ref b1077), .val (.int (400 : Int32))] [(.ref b1049)])) rfl (by rw [hml]; rfl) (Steps.refl _) (argsL := []) (rest := []) (lenOf pd_12 rfl) rfl (by show 2 * 0 + _ ≤ _; exact Nat.le_of_eq rfl) (hb hby at_187) (fun _ _ => ⟨rfl, rfl, (by decide : 0 + 0 + 1 + 1 + 1 + 1 + 1 + 1 + 1 + 0 ≤ _), (by decide : 0 + 0 + 4 + 2 + 2 + 8 + 2752 + 8 + 2752 + 0 ≤ _)⟩)
    dsimp only [Pt.U, Pt.locs, Pt.cells, Pt.slots] at X1110 l1110 y1110 z1110 st1110 hQ1110
    subst l1110 y1110 z1110
    obtain ⟨rfl, N1110q, e1110⟩ := hQ1110
    have N1110 := Fr.app N1092 N1110q
    refine OEnds.st (fun _ k => st1110.trans k) ?_
    clear st1110
    show OEnds p.tables e below G (T1110.setTop (mkF m 190 #[.val (.int p1), .val (.int p2), .val (.int p3), .val (.int p4), .val (.ref ob_1001), .val (.int v1002), .val (.int v1003), .val (.ref b1004), .val (.int v1045), .val (.int v1046), .val (.int v1047), .val .null, .val (.ref b1049), .val (.ref b1077), .val (.int (400 : Int32))] [(.int (400 : Int32))]))
    refine OEnds.st (fun _ k => XS.iload X1110.here hx rfl (hb hby at_190) rfl k) ?_
    show OEnds p.tables e below G (T1110.setTop (mkF m 192 #[.val (.int p1), .val (.int p2), .val (.int p3), .val (.int p4), .val (.ref ob_1001), .val (.int v1002), .val (.int v1003), .val (.ref b1004), .val (.int v1045), .val (.int v1046), .val (.int v1047), .val .null, .val (.ref b1049), .val (.ref b1077), .val (.int (400 : Int32))] [(.int (400 : Int32)), (.int (400 : Int32))]))
    refine OEnds.st (fun _ k => XS.icmpNo X1110.here hx rfl (hb hby at_192) rfl (teq (by decide : (400 : Int32) = (400 : Int32))).2 k) ?_
    show OEnds p.tables e below G (T1110.setTop (mkF m 195 #[.val (.int p1), .val (.int p2), .val (.int p3), .val (.int p4), .val (.ref ob_1001), .val (.int v1002), .val (.int v1003), .val (.ref b1004), .val (.int v1045), .val (.int v1046), .val (.int v1047), .val .null, .val (.ref b1049), .val (.ref b1077), .val (.int (400 : Int32))] []))
    refine OEnds.st (fun _ k => XS.aload X1110.here hx rfl (hb hby at_195) rfl rfl k) ?_
    show OEnds p.tables e below G (T1110.setTop (mkF m 197 #[.val (.int p1), .val (.int p2), .val (.int p3), .val (.int p4), .val (.ref ob_1001), .val (.int v1002), .val (.int v1003), .val (.ref b1004), .val (.int v1045), .val (.int v1046), .val (.int v1047), .val .null, .val (.ref b1049), .val (.ref b1077), .val (.int (400 : Int32))] [(.ref b1077)]))
    obtain ⟨cq1111, kq1111, q1111a, q1111b, q1111c⟩ := isOf hZ e1110 p1094
    obtain ⟨_, _, ⟨T1111, L1111, k1111c, n1111c⟩, -, X1111, ⟨Lc1111, hQ1111, l1111, y1111, z1111⟩, st1111⟩ := X1110.virtualBack hx (y := (⟨"com/example/coracle_health/coraclehealth/oauth/TokenError", "status", "()I"⟩ : MethodName)) (z := (⟨"com/example/coracle_health/coraclehealth/oauth/TokenError", "status", "()I"⟩ : MethodName)) hown (mvT hZ (hw _ (List.mem_of_getElem? (i := 114) rfl))) (mvT hZ (hw _ (List.mem_of_getElem? (i := 115) rfl))) (notFace_of_selects (args := #[]) (mvT hZ (hw _ (List.mem_of_getElem? (i := 117) rfl)))) (mvT hZ (hw _ (List.mem_of_getElem? (i := 117) rfl))) (mvT hZ (hw _ (List.mem_of_getElem? (i := 116) rfl))) (by decide) (backOf (W := 0) (rmst0 l Z a0 hw [] b1077 T1092.heap n0 Z1092 p1095) hZ (hw _ (List.mem_of_getElem? (i := 118) rfl)) (hw _ (List.mem_of_getElem? (i := 54) rfl)) (by decide) (by decide)) q1111a q1111c (g := (mkF m 197 #[.val (.int p1), .val (.int p2), .val (.int p3), .val (.int p4), .val (.ref ob_1001), .val (.int v1002), .val (.int v1003), .val (.ref b1004), .val (.int v1045), .val (.int v1046), .val (.int v1047), .val .null, .val (.ref b1049), .val (.ref b1077), .val (.int (400 : Int32))] [(.ref b1077)])) rfl (by rw [hml]; rfl) (Steps.refl _) (argsL := []) (rest := []) (lenOf pd_12 rfl) rfl (by show 2 * 0 + _ ≤ _; exact Nat.le_of_eq rfl) (hb hby at_197) (fun _ _ => ⟨rfl, e1110, (by decide : 0 + 0 + 1 + 1 + 1 + 1 + 1 + 1 + 1 + 0 + 0 ≤ _), (by decide : 0 + 0 + 4 + 2 + 2 + 8 + 2752 + 8 + 2752 + 0 + 0 ≤ _)⟩)
    dsimp only [Pt.U, Pt.locs, Pt.cells, Pt.slots] at X1111 l1111 y1111 z1111 st1111 hQ1111
    subst l1111 y1111 z1111
    obtain ⟨rfl, N1111q, e1111⟩ := hQ1111
    have N1111 := Fr.app N1110 N1111q
    refine OEnds.st (fun _ k => st1111.trans k) ?_
    clear st1111
    show OEnds p.tables e below G (T1111.setTop (mkF m 200 #[.val (.int p1), .val (.int p2), .val (.int p3), .val (.int p4), .val (.ref ob_1001), .val (.int v1002), .val (.int v1003), .val (.ref b1004), .val (.int v1045), .val (.int v1046), .val (.int v1047), .val .null, .val (.ref b1049), .val (.ref b1077), .val (.int (400 : Int32))] [(.int (400 : Int32))]))
    refine OEnds.st (fun _ k => XS.sipush X1111.here hx rfl (hb hby at_200) k) ?_
    show OEnds p.tables e below G (T1111.setTop (mkF m 203 #[.val (.int p1), .val (.int p2), .val (.int p3), .val (.int p4), .val (.ref ob_1001), .val (.int v1002), .val (.int v1003), .val (.ref b1004), .val (.int v1045), .val (.int v1046), .val (.int v1047), .val .null, .val (.ref b1049), .val (.ref b1077), .val (.int (400 : Int32))] [(.int (400 : Int32)), (.int (400 : Int32))]))
    refine OEnds.st (fun _ k => XS.icmpNo X1111.here hx rfl (hb hby at_203) rfl (teq (by decide : (400 : Int32) = (400 : Int32))).2 k) ?_
    show OEnds p.tables e below G (T1111.setTop (mkF m 206 #[.val (.int p1), .val (.int p2), .val (.int p3), .val (.int p4), .val (.ref ob_1001), .val (.int v1002), .val (.int v1003), .val (.ref b1004), .val (.int v1045), .val (.int v1046), .val (.int v1047), .val .null, .val (.ref b1049), .val (.ref b1077), .val (.int (400 : Int32))] []))
    refine OEnds.st (fun _ k => XS.iconst X1111.here hx rfl (hb hby at_206) k) ?_
    show OEnds p.tables e below G (T1111.setTop (mkF m 207 #[.val (.int p1), .val (.int p2), .val (.int p3), .val (.int p4), .val (.ref ob_1001), .val (.int v1002), .val (.int v1003), .val (.ref b1004), .val (.int v1045), .val (.int v1046), .val (.int v1047), .val .null, .val (.ref b1049), .val (.ref b1077), .val (.int (400 : Int32))] [(.int (1 : Int32))]))
    refine OEnds.st (fun _ k => XS.goto X1111.here hx rfl (pc0 := 207) (pc' := 211) rfl (hb hby at_207) (by decide) (by decide) k) ?_
    show OEnds p.tables e below G (T1111.setTop (mkF m 211 #[.val (.int p1), .val (.int p2), .val (.int p3), .val (.int p4), .val (.ref ob_1001), .val (.int v1002), .val (.int v1003), .val (.ref b1004), .val (.int v1045), .val (.int v1046), .val (.int v1047), .val .null, .val (.ref b1049), .val (.ref b1077), .val (.int (400 : Int32))] [(.int (1 : Int32))]))
    rw [← hG]
    refine OEnds.retZW X1111 hS (by rw [e1111]; exact hkk) hx hlk Bd.returns rfl (hb hby at_211) (by decide) (by decide) ?_
    rw [e1111]
    exact ⟨rfl, N1111⟩
  · -- pc 71: no
    refine OEnds.st (fun _ k => XS.ifYes X1035.here hx rfl (pc0 := 71) (pc' := 80) rfl (hb hby at_71) rfl ((if0 _ _).trans (feq hc71_1048).2) (by decide) (by decide) k) ?_
    show OEnds p.tables e below G (T1035.setTop (mkF m 80 #[.val (.int p1), .val (.int p2), .val (.int p3), .val (.int p4), .val (.ref ob_1001), .val (.int v1002), .val (.int v1003), .val (.ref b1004), .val (.int v1045), .val (.int v1046), .val (.int v1047), .unset, .unset, .unset, .unset] []))
    refine OEnds.st (fun _ k => XS.iload X1035.here hx rfl (hb hby at_80) rfl k) ?_
    show OEnds p.tables e below G (T1035.setTop (mkF m 82 #[.val (.int p1), .val (.int p2), .val (.int p3), .val (.int p4), .val (.ref ob_1001), .val (.int v1002), .val (.int v1003), .val (.ref b1004), .val (.int v1045), .val (.int v1046), .val (.int v1047), .unset, .unset, .unset, .unset] [(.int v1045)]))
    refine OEnds.st (fun _ k => XS.iconst X1035.here hx rfl (hb hby at_82) k) ?_
    show OEnds p.tables e below G (T1035.setTop (mkF m 83 #[.val (.int p1), .val (.int p2), .val (.int p3), .val (.int p4), .val (.ref ob_1001), .val (.int v1002), .val (.int v1003), .val (.ref b1004), .val (.int v1045), .val (.int v1046), .val (.int v1047), .unset, .unset, .unset, .unset] [(.int (1 : Int32)), (.int v1045)]))
    by_cases hc83_1112 : v1045 = (1 : Int32)
    · -- pc 83: yes
      refine OEnds.st (fun _ k => XS.icmpNo X1035.here hx rfl (hb hby at_83) rfl (teq hc83_1112).2 k) ?_
      show OEnds p.tables e below G (T1035.setTop (mkF m 86 #[.val (.int p1), .val (.int p2), .val (.int p3), .val (.int p4), .val (.ref ob_1001), .val (.int v1002), .val (.int v1003), .val (.ref b1004), .val (.int v1045), .val (.int v1046), .val (.int v1047), .unset, .unset, .unset, .unset] []))
      obtain ⟨T1113, h1113, X1113, e1113, E1113, A1113, D1113, -, st1113⟩ := newO X1035 hx hZ hown (hw _ (List.mem_of_getElem? (i := 8) rfl)) (hw _ (List.mem_of_getElem? (i := 9) rfl)) (hw _ (List.mem_of_getElem? (i := 10) rfl)) rfl (g := (mkF m 86 #[.val (.int p1), .val (.int p2), .val (.int p3), .val (.int p4), .val (.ref ob_1001), .val (.int v1002), .val (.int v1003), .val (.ref b1004), .val (.int v1045), .val (.int v1046), .val (.int v1047), .unset, .unset, .unset, .unset] [])) rfl (hb hby at_86) (by decide) (by decide)
      obtain ⟨b1113, g1113⟩ : ∃ z, z = T1035.heap.size := ⟨_, rfl⟩
      rw [← g1113] at A1113 D1113 st1113
      refine OEnds.st st1113 ?_
      clear st1113
      have ge_b1113 : n0 ≤ b1113 := Nat.le_trans Z1035 (Nat.le_of_eq g1113.symm)
      have sz_b1113 : h0.size ≤ b1113 := Nat.le_trans KK1035.1 (Nat.le_of_eq g1113.symm)
      have f1114 : Sta Z h1113 "java/lang/String" "COMPACT_STRINGS" "Z" (.int w) := f1038.ext E1113
      have f1115 : Sta Z h1113 "java/lang/Throwable" "UNASSIGNED_STACK" "[Ljava/lang/StackTraceElement;" (.ref u1) := f1039.ext E1113
      have f1116 : Sta Z h1113 "java/lang/Throwable" "SUPPRESSED_SENTINEL" "Ljava/util/List;" (.ref u2) := f1040.ext E1113
      have KK1113 : Keep h0 h1113 [] := KK1035.ext E1113
      have Z1113 := Nat.le_trans Z1035 E1113.1
      have hkk := Nat.le_trans hkk E1113.1
      have ex_b1113 := A1113
      have f1117 : Fld Z h1113 b1113 "java/lang/String" "coder" "B" (.int (0 : Int32)) := D1113 (Or.inr (hw _ (List.mem_of_getElem? (i := 35) rfl))) (ty := .byte) (by decide)
      have f1118 : Fld Z h1113 b1113 "java/lang/String" "value" "[B" .null := D1113 (Or.inr (hw _ (List.mem_of_getElem? (i := 37) rfl))) (ty := (.array .byte)) (by decide)
      show OEnds p.tables e below G (T1113.setTop (mkF m 89 #[.val (.int p1), .val (.int p2), .val (.int p3), .val (.int p4), .val (.ref ob_1001), .val (.int v1002), .val (.int v1003), .val (.ref b1004), .val (.int v1045), .val (.int v1046), .val (.int v1047), .unset, .unset, .unset, .unset] [(.ref b1113)]))
      refine OEnds.st (fun _ k => XS.dup X1113.here hx rfl (hb hby at_89) rfl rfl k) ?_
      show OEnds p.tables e below G (T1113.setTop (mkF m 90 #[.val (.int p1), .val (.int p2), .val (.int p3), .val (.int p4), .val (.ref ob_1001), .val (.int v1002), .val (.int v1003), .val (.ref b1004), .val (.int v1045), .val (.int v1046), .val (.int v1047), .unset, .unset, .unset, .unset] [(.ref b1113), (.ref b1113)]))
      refine OEnds.st (fun _ k => XS.iconst X1113.here hx rfl (hb hby at_90) k) ?_
      show OEnds p.tables e below G (T1113.setTop (mkF m 91 #[.val (.int p1), .val (.int p2), .val (.int p3), .val (.int p4), .val (.ref ob_1001), .val (.int v1002), .val (.int v1003), .val (.ref b1004), .val (.int v1045), .val (.int v1046), .val (.int v1047), .unset, .unset, .unset, .unset] [(.int (0 : Int32)), (.ref b1113), (.ref b1113)]))
      obtain ⟨T1119, h1119, k1119, X1119, e1119, E1119, A1119, st1119⟩ := newP X1113 hx hZ (hw _ (List.mem_of_getElem? (i := 11) rfl)) e1113 (g := (mkF m 91 #[.val (.int p1), .val (.int p2), .val (.int p3), .val (.int p4), .val (.ref ob_1001), .val (.int v1002), .val (.int v1003), .val (.ref b1004), .val (.int v1045), .val (.int v1046), .val (.int v1047), .unset, .unset, .unset, .unset] [(.int (0 : Int32)), (.ref b1113), (.ref b1113)])) rfl (hb hby at_91) rfl (by decide) (cap := 0) (by decide) (by decide) (by decide) (by decide)
      obtain ⟨b1119, g1119⟩ : ∃ z, z = h1113.size := ⟨_, rfl⟩
      rw [← g1119] at A1119 st1119
      refine OEnds.st st1119 ?_
      clear st1119
      have ne1120 : b1113 ≠ b1119 := Nat.ne_of_lt (Nat.lt_of_lt_of_le (ex_b1113).lt (Nat.le_of_eq g1119.symm))
      have ge_b1119 : n0 ≤ b1119 := Nat.le_trans Z1113 (Nat.le_of_eq g1119.symm)
      have sz_b1119 : h0.size ≤ b1119 := Nat.le_trans KK1113.1 (Nat.le_of_eq g1119.symm)
      have f1121 : Sta Z h1119 "java/lang/String" "COMPACT_STRINGS" "Z" (.int w) := f1114.ext E1119
      have f1122 : Sta Z h1119 "java/lang/Throwable" "UNASSIGNED_STACK" "[Ljava/lang/StackTraceElement;" (.ref u1) := f1115.ext E1119
      have f1123 : Sta Z h1119 "java/lang/Throwable" "SUPPRESSED_SENTINEL" "Ljava/util/List;" (.ref u2) := f1116.ext E1119
      have f1124 : Exa Z h1119 b1113 "java/lang/String" := ex_b1113.ext E1119
      have f1125 : Fld Z h1119 b1113 "java/lang/String" "coder" "B" (.int (0 : Int32)) := f1117.ext E1119
      have f1126 : Fld Z h1119 b1113 "java/lang/String" "value" "[B" .null := f1118.ext E1119
      have KK1119 : Keep h0 h1119 [] := KK1113.ext E1119
      have Z1119 := Nat.le_trans Z1113 E1119.1
      have hkk := Nat.le_trans hkk E1119.1
      have f1127 : Arv Z h1119 b1119 k1119 .char (0 : Int32) [] (.int (0 : Int32)) := Arv.new A1119 (by decide)
      show OEnds p.tables e below G (T1119.setTop (mkF m 93 #[.val (.int p1), .val (.int p2), .val (.int p3), .val (.int p4), .val (.ref ob_1001), .val (.int v1002), .val (.int v1003), .val (.ref b1004), .val (.int v1045), .val (.int v1046), .val (.int v1047), .unset, .unset, .unset, .unset] [(.ref b1119), (.ref b1113), (.ref b1113)]))
      obtain ⟨_, _, ⟨T1128, L1128, k1128c, n1128c⟩, -, X1128, s2_1128, g2_1128, ⟨Lc1128, hQ1128, l1128, y1128, z1128, CHr1128⟩, st1128⟩ := X1119.specialBackS hx (y := (⟨"java/lang/String", "<init>", "([C)V"⟩ : MethodName)) rfl hown (mvT hZ (hw _ (List.mem_of_getElem? (i := 12) rfl))) (mvT hZ (hw _ (List.mem_of_getElem? (i := 13) rfl))) (mvT hZ (hw _ (List.mem_of_getElem? (i := 14) rfl))) (by decide) (backOfSH (W := 1) (rme1 l Z a0 hw [] b1113 b1119 k1119 h1119 n0 Z1119 f1124 f1126 f1125 f1127 ge_b1113) hZ (hw _ (List.mem_of_getElem? (i := 14) rfl)) (hw _ (List.mem_of_getElem? (i := 10) rfl)) (by decide) (by decide) hEL (CHv.keep KK1119 (fun x hx => absurd hx List.not_mem_nil) hCH0)) (g := (mkF m 93 #[.val (.int p1), .val (.int p2), .val (.int p3), .val (.int p4), .val (.ref ob_1001), .val (.int v1002), .val (.int v1003), .val (.ref b1004), .val (.int v1045), .val (.int v1046), .val (.int v1047), .unset, .unset, .unset, .unset] [(.ref b1119), (.ref b1113), (.ref b1113)])) rfl (by rw [hml]; rfl) (Steps.refl _) (a := b1113) (argsL := [(.ref b1119)]) (rest := [(.ref b1113)]) (lenOf pd_10 rfl) rfl (by show 2 * 0 + _ ≤ _; exact Nat.le_of_eq rfl) (hb hby at_93) (fun _ _ => ⟨rfl, e1119, (by decide : 0 + 0 + 1 + 1 + 1 + 1 + 1 + 2 ≤ _), (by decide : 0 + 0 + 4 + 2 + 2 + 4 + 0 + 4 ≤ _)⟩)
      dsimp only [Pt.U, Pt.locs, Pt.cells, Pt.slots] at s2_1128 g2_1128 CHr1128
      dsimp only [Pt.U, Pt.locs, Pt.cells, Pt.slots] at X1128 l1128 y1128 z1128 st1128 hQ1128
      subst l1128 y1128 z1128
      obtain ⟨X1128, hS, hZ, hown⟩ := rebS hS (by rw [e1119]; exact hkk) X1128 s2_1128 g2_1128 hZ hown
      have hkk : T1128.heap.size ≤ T1128.heap.size := Nat.le_refl _
      have hTK := Vm.MethodsKnown.alikeC hS.1.alike hTK0
      have hBel := Vm.FramesKnown.alikeC hS.1.alike hBel0
      obtain ⟨rfl, N1128q, p1129, p1130⟩ := hQ1128
      have N1128 := Fr.app N1035 N1128q
      refine OEnds.st (fun _ k => st1128.trans k) ?_
      clear st1128
      have f1131 : Sta Z T1128.heap "java/lang/String" "COMPACT_STRINGS" "Z" (.int w) := own_Sta_keep f1121 p1129 (fun x hx => by cases List.mem_singleton.mp hx; exact own_exa_ns f1124)
      have f1132 : Sta Z T1128.heap "java/lang/Throwable" "UNASSIGNED_STACK" "[Ljava/lang/StackTraceElement;" (.ref u1) := own_Sta_keep f1122 p1129 (fun x hx => by cases List.mem_singleton.mp hx; exact own_exa_ns f1124)
      have f1133 : Sta Z T1128.heap "java/lang/Throwable" "SUPPRESSED_SENTINEL" "Ljava/util/List;" (.ref u2) := own_Sta_keep f1123 p1129 (fun x hx => by cases List.mem_singleton.mp hx; exact own_exa_ns f1124)
      have f1134 : Exa Z T1128.heap b1113 "java/lang/String" := f1124.keep p1129
      have f1137 : Arv Z T1128.heap b1119 k1119 .char (0 : Int32) [] (.int (0 : Int32)) := f1127.keep p1129 (by simp only [List.mem_cons, List.not_mem_nil, or_false, not_or]; exact (Ne.symm ne1120))
      have KK1128 : Keep h0 T1128.heap [] := KK1119.trans p1129 (fun x hx => by cases List.mem_singleton.mp hx; exact Or.inr sz_b1113)
      have Z1128 := Nat.le_trans Z1119 p1129.1
      show OEnds p.tables e below G (T1128.setTop (mkF m 96 #[.val (.int p1), .val (.int p2), .val (.int p3), .val (.int p4), .val (.ref ob_1001), .val (.int v1002), .val (.int v1003), .val (.ref b1004), .val (.int v1045), .val (.int v1046), .val (.int v1047), .unset, .unset, .unset, .unset] [(.ref b1113)]))
      refine OEnds.st (fun _ k => XS.astore X1128.here hx rfl (hb hby at_96) rfl rfl (l' := #[.val (.int p1), .val (.int p2), .val (.int p3), .val (.int p4), .val (.ref ob_1001), .val (.int v1002), .val (.int v1003), .val (.ref b1004), .val (.int v1045), .val (.int v1046), .val (.int v1047), .val (.ref b1113), .unset, .unset, .unset]) rfl k) ?_
      show OEnds p.tables e below G (T1128.setTop (mkF m 98 #[.val (.int p1), .val (.int p2), .val (.int p3), .val (.int p4), .val (.ref ob_1001), .val (.int v1002), .val (.int v1003), .val (.ref b1004), .val (.int v1045), .val (.int v1046), .val (.int v1047), .val (.ref b1113), .unset, .unset, .unset] []))
      refine OEnds.st (fun _ k => XS.goto X1128.here hx rfl (pc0 := 98) (pc' := 139) rfl (hb hby at_98) (by decide) (by decide) k) ?_
      show OEnds p.tables e below G (T1128.setTop (mkF m 139 #[.val (.int p1), .val (.int p2), .val (.int p3), .val (.int p4), .val (.ref ob_1001), .val (.int v1002), .val (.int v1003), .val (.ref b1004), .val (.int v1045), .val (.int v1046), .val (.int v1047), .val (.ref b1113), .unset, .unset, .unset] []))
      obtain ⟨T1138, h1138, X1138, e1138, E1138, A1138, D1138, U1138, st1138⟩ := newO X1128 hx hZ hown (hw _ (List.mem_of_getElem? (i := 52) rfl)) (hw _ (List.mem_of_getElem? (i := 53) rfl)) (hw _ (List.mem_of_getElem? (i := 54) rfl)) rfl (g := (mkF m 139 #[.val (.int p1), .val (.int p2), .val (.int p3), .val (.int p4), .val (.ref ob_1001), .val (.int v1002), .val (.int v1003), .val (.ref b1004), .val (.int v1045), .val (.int v1046), .val (.int v1047), .val (.ref b1113), .unset, .unset, .unset] [])) rfl (hb hby at_139) (by decide) (by decide)
      obtain ⟨b1138, g1138⟩ : ∃ z, z = T1128.heap.size := ⟨_, rfl⟩
      rw [← g1138] at A1138 D1138 st1138 U1138
      refine OEnds.st st1138 ?_
      clear st1138
      have ge_b1138 : n0 ≤ b1138 := Nat.le_trans Z1128 (Nat.le_of_eq g1138.symm)
      have sz_b1138 : h0.size ≤ b1138 := Nat.le_trans KK1128.1 (Nat.le_of_eq g1138.symm)
      have f1139 : Sta Z h1138 "java/lang/String" "COMPACT_STRINGS" "Z" (.int w) := f1131.ext E1138
      have f1140 : Sta Z h1138 "java/lang/Throwable" "UNASSIGNED_STACK" "[Ljava/lang/StackTraceElement;" (.ref u1) := f1132.ext E1138
      have f1141 : Sta Z h1138 "java/lang/Throwable" "SUPPRESSED_SENTINEL" "Ljava/util/List;" (.ref u2) := f1133.ext E1138
      have KK1138 : Keep h0 h1138 [] := KK1128.ext E1138
      have Z1138 := Nat.le_trans Z1128 E1138.1
      have hkk := Nat.le_trans hkk E1138.1
      have un_b1138 : Unt h1138 b1138 := U1138
      have ex_b1138 := A1138
      have f1142 : Fld Z h1138 b1138 "java/lang/Throwable" "cause" "Ljava/lang/Throwable;" .null := D1138 (Or.inl (hw _ (List.mem_of_getElem? (i := 71) rfl))) (ty := (.object "java/lang/Throwable")) (by decide)
      have f1143 : Fld Z h1138 b1138 "java/lang/Throwable" "stackTrace" "[Ljava/lang/StackTraceElement;" .null := D1138 (Or.inl (hw _ (List.mem_of_getElem? (i := 74) rfl))) (ty := (.array (.object "java/lang/StackTraceElement"))) (by decide)
      have f1144 : Fld Z h1138 b1138 "java/lang/Throwable" "suppressedExceptions" "Ljava/util/List;" .null := D1138 (Or.inl (hw _ (List.mem_of_getElem? (i := 77) rfl))) (ty := (.object "java/util/List")) (by decide)
      have f1145 : Fld Z h1138 b1138 "java/lang/Throwable" "detailMessage" "Ljava/lang/String;" .null := D1138 (Or.inl (hw _ (List.mem_of_getElem? (i := 101) rfl))) (ty := (.object "java/lang/String")) (by decide)
      have f1146 : Fld Z h1138 b1138 "java/lang/Throwable" "backtrace" "Ljava/lang/Object;" .null := D1138 (Or.inl (hw _ (List.mem_of_getElem? (i := 102) rfl))) (ty := (.object "java/lang/Object")) (by decide)
      have f1147 : Fld Z h1138 b1138 "java/lang/Throwable" "depth" "I" (.int (0 : Int32)) := D1138 (Or.inl (hw _ (List.mem_of_getElem? (i := 103) rfl))) (ty := .int) (by decide)
      have f1148 : Fld Z h1138 b1138 "com/example/coracle_health/coraclehealth/oauth/TokenError" "code" "Lcom/example/coracle_health/coraclehealth/oauth/TokenError$Code;" .null := D1138 (Or.inr (hw _ (List.mem_of_getElem? (i := 107) rfl))) (ty := (.object "com/example/coracle_health/coraclehealth/oauth/TokenError$Code")) (by decide)
      have f1149 : Fld Z h1138 b1138 "com/example/coracle_health/coraclehealth/oauth/TokenError" "challenge" "Ljava/lang/String;" .null := D1138 (Or.inr (hw _ (List.mem_of_getElem? (i := 109) rfl))) (ty := (.object "java/lang/String")) (by decide)
      show OEnds p.tables e below G (T1138.setTop (mkF m 142 #[.val (.int p1), .val (.int p2), .val (.int p3), .val (.int p4), .val (.ref ob_1001), .val (.int v1002), .val (.int v1003), .val (.ref b1004), .val (.int v1045), .val (.int v1046), .val (.int v1047), .val (.ref b1113), .unset, .unset, .unset] [(.ref b1138)]))
      refine OEnds.st (fun _ k => XS.dup X1138.here hx rfl (hb hby at_142) rfl rfl k) ?_
      show OEnds p.tables e below G (T1138.setTop (mkF m 143 #[.val (.int p1), .val (.int p2), .val (.int p3), .val (.int p4), .val (.ref ob_1001), .val (.int v1002), .val (.int v1003), .val (.ref b1004), .val (.int v1045), .val (.int v1046), .val (.int v1047), .val (.ref b1113), .unset, .unset, .unset] [(.ref b1138), (.ref b1138)]))
      refine OEnds.st (fun _ k => XS.aload X1138.here hx rfl (hb hby at_143) rfl rfl k) ?_
      show OEnds p.tables e below G (T1138.setTop (mkF m 145 #[.val (.int p1), .val (.int p2), .val (.int p3), .val (.int p4), .val (.ref ob_1001), .val (.int v1002), .val (.int v1003), .val (.ref b1004), .val (.int v1045), .val (.int v1046), .val (.int v1047), .val (.ref b1113), .unset, .unset, .unset] [(.ref ob_1001), (.ref b1138), (.ref b1138)]))
      refine OEnds.st (fun _ k => XS.aload X1138.here hx rfl (hb hby at_145) rfl rfl k) ?_
      show OEnds p.tables e below G (T1138.setTop (mkF m 147 #[.val (.int p1), .val (.int p2), .val (.int p3), .val (.int p4), .val (.ref ob_1001), .val (.int v1002), .val (.int v1003), .val (.ref b1004), .val (.int v1045), .val (.int v1046), .val (.int v1047), .val (.ref b1113), .unset, .unset, .unset] [(.ref b1004), (.ref ob_1001), (.ref b1138), (.ref b1138)]))
      refine OEnds.st (fun _ k => XS.aload X1138.here hx rfl (hb hby at_147) rfl rfl k) ?_
      show OEnds p.tables e below G (T1138.setTop (mkF m 149 #[.val (.int p1), .val (.int p2), .val (.int p3), .val (.int p4), .val (.ref ob_1001), .val (.int v1002), .val (.int v1003), .val (.ref b1004), .val (.int v1045), .val (.int v1046), .val (.int v1047), .val (.ref b1113), .unset, .unset, .unset] [(.ref b1113), (.ref b1004), (.ref ob_1001), (.ref b1138), (.ref b1138)]))
      obtain ⟨_, _, ⟨T1150, L1150, k1150c, n1150c⟩, -, X1150, ⟨Lc1150, hQ1150, l1150, y1150, z1150⟩, st1150⟩ := X1138.specialBack hx (y := (⟨"com/example/coracle_health/coraclehealth/oauth/TokenError", "<init>", "(Lcom/example/coracle_health/coraclehealth/oauth/TokenError$Code;Ljava/lang/String;Ljava/lang/String;)V"⟩ : MethodName)) rfl hown (mvT hZ (hw _ (List.mem_of_getElem? (i := 55) rfl))) (mvT hZ (hw _ (List.mem_of_getElem? (i := 56) rfl))) (mvT hZ (hw _ (List.mem_of_getElem? (i := 57) rfl))) (by decide) (backOfKL (W := 1) (rmti1 l Z a0 hw [] b1138 ob_1001 b1004 b1113 u1 u2 h1138 n0 Z1138 (ThS.keep KK1138 (fun x hx => absurd hx List.not_mem_nil) TS) un_b1138 ex_b1138 f1146 f1145 f1142 f1143 f1144 f1140 f1141 ge_b1138 hl) hZ (hw _ (List.mem_of_getElem? (i := 57) rfl)) (hw _ (List.mem_of_getElem? (i := 54) rfl)) (by decide) (by decide) hTK hBel) (g := (mkF m 149 #[.val (.int p1), .val (.int p2), .val (.int p3), .val (.int p4), .val (.ref ob_1001), .val (.int v1002), .val (.int v1003), .val (.ref b1004), .val (.int v1045), .val (.int v1046), .val (.int v1047), .val (.ref b1113), .unset, .unset, .unset] [(.ref b1113), (.ref b1004), (.ref ob_1001), (.ref b1138), (.ref b1138)])) rfl (by rw [hml]; rfl) (Steps.refl _) (a := b1138) (argsL := [(.ref ob_1001), (.ref b1004), (.ref b1113)]) (rest := [(.ref b1138)]) (lenOf pd_8 rfl) rfl (by show 2 * 0 + _ ≤ _; exact Nat.le_of_eq rfl) (hb hby at_149) (fun _ _ => ⟨rfl, e1138, (by decide : 0 + 0 + 1 + 1 + 1 + 1 + 1 + 2 + 1 + 1 ≤ _), (by decide : 0 + 0 + 4 + 2 + 2 + 4 + 0 + 4 + 8 + 2752 ≤ _)⟩)
      dsimp only [Pt.U, Pt.locs, Pt.cells, Pt.slots] at X1150 l1150 y1150 z1150 st1150 hQ1150
      subst l1150 y1150 z1150
      obtain ⟨rfl, N1150q, p1151, p1152, p1153⟩ := hQ1150
      have N1150 := Fr.app N1128 N1150q
      refine OEnds.st (fun _ k => st1150.trans k) ?_
      clear st1150
      have f1154 : Sta Z T1150.heap "java/lang/String" "COMPACT_STRINGS" "Z" (.int w) := own_Sta_keep f1139 p1151 (fun x hx => by cases List.mem_singleton.mp hx; exact own_exa_ns ex_b1138)
      have f1155 : Sta Z T1150.heap "java/lang/Throwable" "UNASSIGNED_STACK" "[Ljava/lang/StackTraceElement;" (.ref u1) := own_Sta_keep f1140 p1151 (fun x hx => by cases List.mem_singleton.mp hx; exact own_exa_ns ex_b1138)
      have f1156 : Sta Z T1150.heap "java/lang/Throwable" "SUPPRESSED_SENTINEL" "Ljava/util/List;" (.ref u2) := own_Sta_keep f1141 p1151 (fun x hx => by cases List.mem_singleton.mp hx; exact own_exa_ns ex_b1138)
      have f1157 : Exa Z T1150.heap b1138 "com/example/coracle_health/coraclehealth/oauth/TokenError" := ex_b1138.keep p1151
      have KK1150 : Keep h0 T1150.heap [] := KK1138.trans p1151 (fun x hx => by cases List.mem_singleton.mp hx; exact Or.inr sz_b1138)
      have Z1150 := Nat.le_trans Z1138 p1151.1
      have hkk := Nat.le_trans hkk p1151.1
      show OEnds p.tables e below G (T1150.setTop (mkF m 152 #[.val (.int p1), .val (.int p2), .val (.int p3), .val (.int p4), .val (.ref ob_1001), .val (.int v1002), .val (.int v1003), .val (.ref b1004), .val (.int v1045), .val (.int v1046), .val (.int v1047), .val (.ref b1113), .unset, .unset, .unset] [(.ref b1138)]))
      refine OEnds.st (fun _ k => XS.astore X1150.here hx rfl (hb hby at_152) rfl rfl (l' := #[.val (.int p1), .val (.int p2), .val (.int p3), .val (.int p4), .val (.ref ob_1001), .val (.int v1002), .val (.int v1003), .val (.ref b1004), .val (.int v1045), .val (.int v1046), .val (.int v1047), .val (.ref b1113), .val (.ref b1138), .unset, .unset]) rfl k) ?_
      show OEnds p.tables e below G (T1150.setTop (mkF m 154 #[.val (.int p1), .val (.int p2), .val (.int p3), .val (.int p4), .val (.ref ob_1001), .val (.int v1002), .val (.int v1003), .val (.ref b1004), .val (.int v1045), .val (.int v1046), .val (.int v1047), .val (.ref b1113), .val (.ref b1138), .unset, .unset] []))
      obtain ⟨T1166, h1166, X1166, e1166, E1166, A1166, D1166, U1166, st1166⟩ := newO X1150 hx hZ hown (hw _ (List.mem_of_getElem? (i := 52) rfl)) (hw _ (List.mem_of_getElem? (i := 53) rfl)) (hw _ (List.mem_of_getElem? (i := 54) rfl)) rfl (g := (mkF m 154 #[.val (.int p1), .val (.int p2), .val (.int p3), .val (.int p4), .val (.ref ob_1001), .val (.int v1002), .val (.int v1003), .val (.ref b1004), .val (.int v1045), .val (.int v1046), .val (.int v1047), .val (.ref b1113), .val (.ref b1138), .unset, .unset] [])) rfl (hb hby at_154) (by decide) (by decide)
      obtain ⟨b1166, g1166⟩ : ∃ z, z = T1150.heap.size := ⟨_, rfl⟩
      rw [← g1166] at A1166 D1166 st1166 U1166
      refine OEnds.st st1166 ?_
      clear st1166
      have ne1167 : b1138 ≠ b1166 := Nat.ne_of_lt (Nat.lt_of_lt_of_le (p1152).lt (Nat.le_of_eq g1166.symm))
      have ge_b1166 : n0 ≤ b1166 := Nat.le_trans Z1150 (Nat.le_of_eq g1166.symm)
      have sz_b1166 : h0.size ≤ b1166 := Nat.le_trans KK1150.1 (Nat.le_of_eq g1166.symm)
      have f1168 : Sta Z h1166 "java/lang/String" "COMPACT_STRINGS" "Z" (.int w) := f1154.ext E1166
      have f1169 : Sta Z h1166 "java/lang/Throwable" "UNASSIGNED_STACK" "[Ljava/lang/StackTraceElement;" (.ref u1) := f1155.ext E1166
      have f1170 : Sta Z h1166 "java/lang/Throwable" "SUPPRESSED_SENTINEL" "Ljava/util/List;" (.ref u2) := f1156.ext E1166
      have f1171 : Exa Z h1166 b1138 "com/example/coracle_health/coraclehealth/oauth/TokenError" := p1152.ext E1166
      have f1172 : Fld Z h1166 b1138 "com/example/coracle_health/coraclehealth/oauth/TokenError" "challenge" "Ljava/lang/String;" (.ref b1113) := p1153.ext E1166
      have KK1166 : Keep h0 h1166 [] := KK1150.ext E1166
      have Z1166 := Nat.le_trans Z1150 E1166.1
      have hkk := Nat.le_trans hkk E1166.1
      have un_b1166 : Unt h1166 b1166 := U1166
      have ex_b1166 := A1166
      have f1173 : Fld Z h1166 b1166 "java/lang/Throwable" "cause" "Ljava/lang/Throwable;" .null := D1166 (Or.inl (hw _ (List.mem_of_getElem? (i := 71) rfl))) (ty := (.object "java/lang/Throwable")) (by decide)
      have f1174 : Fld Z h1166 b1166 "java/lang/Throwable" "stackTrace" "[Ljava/lang/StackTraceElement;" .null := D1166 (Or.inl (hw _ (List.mem_of_getElem? (i := 74) rfl))) (ty := (.array (.object "java/lang/StackTraceElement"))) (by decide)
      have f1175 : Fld Z h1166 b1166 "java/lang/Throwable" "suppressedExceptions" "Ljava/util/List;" .null := D1166 (Or.inl (hw _ (List.mem_of_getElem? (i := 77) rfl))) (ty := (.object "java/util/List")) (by decide)
      have f1176 : Fld Z h1166 b1166 "java/lang/Throwable" "detailMessage" "Ljava/lang/String;" .null := D1166 (Or.inl (hw _ (List.mem_of_getElem? (i := 101) rfl))) (ty := (.object "java/lang/String")) (by decide)
      have f1177 : Fld Z h1166 b1166 "java/lang/Throwable" "backtrace" "Ljava/lang/Object;" .null := D1166 (Or.inl (hw _ (List.mem_of_getElem? (i := 102) rfl))) (ty := (.object "java/lang/Object")) (by decide)
      have f1178 : Fld Z h1166 b1166 "java/lang/Throwable" "depth" "I" (.int (0 : Int32)) := D1166 (Or.inl (hw _ (List.mem_of_getElem? (i := 103) rfl))) (ty := .int) (by decide)
      have f1179 : Fld Z h1166 b1166 "com/example/coracle_health/coraclehealth/oauth/TokenError" "code" "Lcom/example/coracle_health/coraclehealth/oauth/TokenError$Code;" .null := D1166 (Or.inr (hw _ (List.mem_of_getElem? (i := 107) rfl))) (ty := (.object "com/example/coracle_health/coraclehealth/oauth/TokenError$Code")) (by decide)
      have f1180 : Fld Z h1166 b1166 "com/example/coracle_health/coraclehealth/oauth/TokenError" "challenge" "Ljava/lang/String;" .null := D1166 (Or.inr (hw _ (List.mem_of_getElem? (i := 109) rfl))) (ty := (.object "java/lang/String")) (by decide)
      show OEnds p.tables e below G (T1166.setTop (mkF m 157 #[.val (.int p1), .val (.int p2), .val (.int p3), .val (.int p4), .val (.ref ob_1001), .val (.int v1002), .val (.int v1003), .val (.ref b1004), .val (.int v1045), .val (.int v1046), .val (.int v1047), .val (.ref b1113), .val (.ref b1138), .unset, .unset] [(.ref b1166)]))
      refine OEnds.st (fun _ k => XS.dup X1166.here hx rfl (hb hby at_157) rfl rfl k) ?_
      show OEnds p.tables e below G (T1166.setTop (mkF m 158 #[.val (.int p1), .val (.int p2), .val (.int p3), .val (.int p4), .val (.ref ob_1001), .val (.int v1002), .val (.int v1003), .val (.ref b1004), .val (.int v1045), .val (.int v1046), .val (.int v1047), .val (.ref b1113), .val (.ref b1138), .unset, .unset] [(.ref b1166), (.ref b1166)]))
      refine OEnds.st (fun _ k => XS.aload X1166.here hx rfl (hb hby at_158) rfl rfl k) ?_
      show OEnds p.tables e below G (T1166.setTop (mkF m 160 #[.val (.int p1), .val (.int p2), .val (.int p3), .val (.int p4), .val (.ref ob_1001), .val (.int v1002), .val (.int v1003), .val (.ref b1004), .val (.int v1045), .val (.int v1046), .val (.int v1047), .val (.ref b1113), .val (.ref b1138), .unset, .unset] [(.ref ob_1001), (.ref b1166), (.ref b1166)]))
      refine OEnds.st (fun _ k => XS.aload X1166.here hx rfl (hb hby at_160) rfl rfl k) ?_
      show OEnds p.tables e below G (T1166.setTop (mkF m 162 #[.val (.int p1), .val (.int p2), .val (.int p3), .val (.int p4), .val (.ref ob_1001), .val (.int v1002), .val (.int v1003), .val (.ref b1004), .val (.int v1045), .val (.int v1046), .val (.int v1047), .val (.ref b1113), .val (.ref b1138), .unset, .unset] [(.ref b1004), (.ref ob_1001), (.ref b1166), (.ref b1166)]))
      obtain ⟨_, _, ⟨T1181, L1181, k1181c, n1181c⟩, -, X1181, ⟨Lc1181, hQ1181, l1181, y1181, z1181⟩, st1181⟩ := X1166.specialBack hx (y := (⟨"com/example/coracle_health/coraclehealth/oauth/TokenError", "<init>", "(Lcom/example/coracle_health/coraclehealth/oauth/TokenError$Code;Ljava/lang/String;)V"⟩ : MethodName)) rfl hown (mvT hZ (hw _ (List.mem_of_getElem? (i := 110) rfl))) (mvT hZ (hw _ (List.mem_of_getElem? (i := 111) rfl))) (mvT hZ (hw _ (List.mem_of_getElem? (i := 112) rfl))) (by decide) (backOfKL (W := 1) (rmt2 l Z a0 hw [] b1166 ob_1001 b1004 u1 u2 h1166 n0 Z1166 (ThS.keep KK1166 (fun x hx => absurd hx List.not_mem_nil) TS) un_b1166 ex_b1166 f1177 f1176 f1173 f1174 f1175 f1169 f1170 ge_b1166 hl) hZ (hw _ (List.mem_of_getElem? (i := 112) rfl)) (hw _ (List.mem_of_getElem? (i := 54) rfl)) (by decide) (by decide) hTK hBel) (g := (mkF m 162 #[.val (.int p1), .val (.int p2), .val (.int p3), .val (.int p4), .val (.ref ob_1001), .val (.int v1002), .val (.int v1003), .val (.ref b1004), .val (.int v1045), .val (.int v1046), .val (.int v1047), .val (.ref b1113), .val (.ref b1138), .unset, .unset] [(.ref b1004), (.ref ob_1001), (.ref b1166), (.ref b1166)])) rfl (by rw [hml]; rfl) (Steps.refl _) (a := b1166) (argsL := [(.ref ob_1001), (.ref b1004)]) (rest := [(.ref b1166)]) (lenOf pd_11 rfl) rfl (by show 2 * 0 + _ ≤ _; exact Nat.le_of_eq rfl) (hb hby at_162) (fun _ _ => ⟨rfl, e1166, (by decide : 0 + 0 + 1 + 1 + 1 + 1 + 1 + 2 + 1 + 1 + 1 + 1 ≤ _), (by decide : 0 + 0 + 4 + 2 + 2 + 4 + 0 + 4 + 8 + 2752 + 8 + 2752 ≤ _)⟩)
      dsimp only [Pt.U, Pt.locs, Pt.cells, Pt.slots] at X1181 l1181 y1181 z1181 st1181 hQ1181
      subst l1181 y1181 z1181
      obtain ⟨rfl, N1181q, p1182, p1183, p1184⟩ := hQ1181
      have N1181 := Fr.app N1150 N1181q
      refine OEnds.st (fun _ k => st1181.trans k) ?_
      clear st1181
      have f1185 : Sta Z T1181.heap "java/lang/String" "COMPACT_STRINGS" "Z" (.int w) := own_Sta_keep f1168 p1182 (fun x hx => by cases List.mem_singleton.mp hx; exact own_exa_ns ex_b1166)
      have f1186 : Sta Z T1181.heap "java/lang/Throwable" "UNASSIGNED_STACK" "[Ljava/lang/StackTraceElement;" (.ref u1) := own_Sta_keep f1169 p1182 (fun x hx => by cases List.mem_singleton.mp hx; exact own_exa_ns ex_b1166)
      have f1187 : Sta Z T1181.heap "java/lang/Throwable" "SUPPRESSED_SENTINEL" "Ljava/util/List;" (.ref u2) := own_Sta_keep f1170 p1182 (fun x hx => by cases List.mem_singleton.mp hx; exact own_exa_ns ex_b1166)
      have f1188 : Exa Z T1181.heap b1138 "com/example/coracle_health/coraclehealth/oauth/TokenError" := f1171.keep p1182
      have f1189 : Fld Z T1181.heap b1138 "com/example/coracle_health/coraclehealth/oauth/TokenError" "challenge" "Ljava/lang/String;" (.ref b1113) := f1172.keep p1182 (by simp only [List.mem_cons, List.not_mem_nil, or_false, not_or]; exact ne1167)
      have f1190 : Exa Z T1181.heap b1166 "com/example/coracle_health/coraclehealth/oauth/TokenError" := ex_b1166.keep p1182
      have KK1181 : Keep h0 T1181.heap [] := KK1166.trans p1182 (fun x hx => by cases List.mem_singleton.mp hx; exact Or.inr sz_b1166)
      have Z1181 := Nat.le_trans Z1166 p1182.1
      have hkk := Nat.le_trans hkk p1182.1
      show OEnds p.tables e below G (T1181.setTop (mkF m 165 #[.val (.int p1), .val (.int p2), .val (.int p3), .val (.int p4), .val (.ref ob_1001), .val (.int v1002), .val (.int v1003), .val (.ref b1004), .val (.int v1045), .val (.int v1046), .val (.int v1047), .val (.ref b1113), .val (.ref b1138), .unset, .unset] [(.ref b1166)]))
      refine OEnds.st (fun _ k => XS.astore X1181.here hx rfl (hb hby at_165) rfl rfl (l' := #[.val (.int p1), .val (.int p2), .val (.int p3), .val (.int p4), .val (.ref ob_1001), .val (.int v1002), .val (.int v1003), .val (.ref b1004), .val (.int v1045), .val (.int v1046), .val (.int v1047), .val (.ref b1113), .val (.ref b1138), .val (.ref b1166), .unset]) rfl k) ?_
      show OEnds p.tables e below G (T1181.setTop (mkF m 167 #[.val (.int p1), .val (.int p2), .val (.int p3), .val (.int p4), .val (.ref ob_1001), .val (.int v1002), .val (.int v1003), .val (.ref b1004), .val (.int v1045), .val (.int v1046), .val (.int v1047), .val (.ref b1113), .val (.ref b1138), .val (.ref b1166), .unset] []))
      refine OEnds.st (fun _ k => XS.iload X1181.here hx rfl (hb hby at_167) rfl k) ?_
      show OEnds p.tables e below G (T1181.setTop (mkF m 169 #[.val (.int p1), .val (.int p2), .val (.int p3), .val (.int p4), .val (.ref ob_1001), .val (.int v1002), .val (.int v1003), .val (.ref b1004), .val (.int v1045), .val (.int v1046), .val (.int v1047), .val (.ref b1113), .val (.ref b1138), .val (.ref b1166), .unset] [(.int v1045)]))
      refine OEnds.st (fun _ k => XS.ifYes X1181.here hx rfl (pc0 := 169) (pc' := 180) rfl (hb hby at_169) rfl ((if0 _ _).trans (feq hc71_1048).2) (by decide) (by decide) k) ?_
      show OEnds p.tables e below G (T1181.setTop (mkF m 180 #[.val (.int p1), .val (.int p2), .val (.int p3), .val (.int p4), .val (.ref ob_1001), .val (.int v1002), .val (.int v1003), .val (.ref b1004), .val (.int v1045), .val (.int v1046), .val (.int v1047), .val (.ref b1113), .val (.ref b1138), .val (.ref b1166), .unset] []))
      refine OEnds.st (fun _ k => XS.sipush X1181.here hx rfl (hb hby at_180) k) ?_
      show OEnds p.tables e below G (T1181.setTop (mkF m 183 #[.val (.int p1), .val (.int p2), .val (.int p3), .val (.int p4), .val (.ref ob_1001), .val (.int v1002), .val (.int v1003), .val (.ref b1004), .val (.int v1045), .val (.int v1046), .val (.int v1047), .val (.ref b1113), .val (.ref b1138), .val (.ref b1166), .unset] [(.int (401 : Int32))]))
      refine OEnds.st (fun _ k => XS.istore X1181.here hx rfl (hb hby at_183) rfl (l' := #[.val (.int p1), .val (.int p2), .val (.int p3), .val (.int p4), .val (.ref ob_1001), .val (.int v1002), .val (.int v1003), .val (.ref b1004), .val (.int v1045), .val (.int v1046), .val (.int v1047), .val (.ref b1113), .val (.ref b1138), .val (.ref b1166), .val (.int (401 : Int32))]) rfl k) ?_
      show OEnds p.tables e below G (T1181.setTop (mkF m 185 #[.val (.int p1), .val (.int p2), .val (.int p3), .val (.int p4), .val (.ref ob_1001), .val (.int v1002), .val (.int v1003), .val (.ref b1004), .val (.int v1045), .val (.int v1046), .val (.int v1047), .val (.ref b1113), .val (.ref b1138), .val (.ref b1166), .val (.int (401 : Int32))] []))
      refine OEnds.st (fun _ k => XS.aload X1181.here hx rfl (hb hby at_185) rfl rfl k) ?_
      show OEnds p.tables e below G (T1181.setTop (mkF m 187 #[.val (.int p1), .val (.int p2), .val (.int p3), .val (.int p4), .val (.ref ob_1001), .val (.int v1002), .val (.int v1003), .val (.ref b1004), .val (.int v1045), .val (.int v1046), .val (.int v1047), .val (.ref b1113), .val (.ref b1138), .val (.ref b1166), .val (.int (401 : Int32))] [(.ref b1138)]))
      obtain ⟨cq1199, kq1199, q1199a, q1199b, q1199c⟩ := isOf hZ rfl f1188
      obtain ⟨_, _, ⟨T1199, L1199, k1199c, n1199c⟩, -, X1199, ⟨Lc1199, hQ1199, l1199, y1199, z1199⟩, st1199⟩ := X1181.virtualBack hx (y := (⟨"com/example/coracle_health/coraclehealth/oauth/TokenError", "status", "()I"⟩ : MethodName)) (z := (⟨"com/example/coracle_health/coraclehealth/oauth/TokenError", "status", "()I"⟩ : MethodName)) hown (mvT hZ (hw _ (List.mem_of_getElem? (i := 114) rfl))) (mvT hZ (hw _ (List.mem_of_getElem? (i := 115) rfl))) (notFace_of_selects (args := #[]) (mvT hZ (hw _ (List.mem_of_getElem? (i := 117) rfl)))) (mvT hZ (hw _ (List.mem_of_getElem? (i := 117) rfl))) (mvT hZ (hw _ (List.mem_of_getElem? (i := 116) rfl))) (by decide) (backOf (W := 0) (rmst1 l Z a0 hw [] b1138 b1113 T1181.heap n0 Z1181 f1189) hZ (hw _ (List.mem_of_getElem? (i := 118) rfl)) (hw _ (List.mem_of_getElem? (i := 54) rfl)) (by decide) (by decide)) q1199a q1199c (g := (mkF m 187 #[.val (.int p1), .val (.int p2), .val (.int p3), .val (.int p4), .val (.ref ob_1001), .val (.int v1002), .val (.int v1003), .val (.ref b1004), .val (.int v1045), .val (.int v1046), .val (.int v1047), .val (.ref b1113), .val (.ref b1138), .val (.ref b1166), .val (.int (401 : Int32))] [(.ref b1138)])) rfl (by rw [hml]; rfl) (Steps.refl _) (argsL := []) (rest := []) (lenOf pd_12 rfl) rfl (by show 2 * 0 + _ ≤ _; exact Nat.le_of_eq rfl) (hb hby at_187) (fun _ _ => ⟨rfl, rfl, (by decide : 0 + 0 + 1 + 1 + 1 + 1 + 1 + 2 + 1 + 1 + 1 + 1 + 0 ≤ _), (by decide : 0 + 0 + 4 + 2 + 2 + 4 + 0 + 4 + 8 + 2752 + 8 + 2752 + 0 ≤ _)⟩)
      dsimp only [Pt.U, Pt.locs, Pt.cells, Pt.slots] at X1199 l1199 y1199 z1199 st1199 hQ1199
      subst l1199 y1199 z1199
      obtain ⟨rfl, N1199q, e1199⟩ := hQ1199
      have N1199 := Fr.app N1181 N1199q
      refine OEnds.st (fun _ k => st1199.trans k) ?_
      clear st1199
      show OEnds p.tables e below G (T1199.setTop (mkF m 190 #[.val (.int p1), .val (.int p2), .val (.int p3), .val (.int p4), .val (.ref ob_1001), .val (.int v1002), .val (.int v1003), .val (.ref b1004), .val (.int v1045), .val (.int v1046), .val (.int v1047), .val (.ref b1113), .val (.ref b1138), .val (.ref b1166), .val (.int (401 : Int32))] [(.int (401 : Int32))]))
      refine OEnds.st (fun _ k => XS.iload X1199.here hx rfl (hb hby at_190) rfl k) ?_
      show OEnds p.tables e below G (T1199.setTop (mkF m 192 #[.val (.int p1), .val (.int p2), .val (.int p3), .val (.int p4), .val (.ref ob_1001), .val (.int v1002), .val (.int v1003), .val (.ref b1004), .val (.int v1045), .val (.int v1046), .val (.int v1047), .val (.ref b1113), .val (.ref b1138), .val (.ref b1166), .val (.int (401 : Int32))] [(.int (401 : Int32)), (.int (401 : Int32))]))
      refine OEnds.st (fun _ k => XS.icmpNo X1199.here hx rfl (hb hby at_192) rfl (teq (by decide : (401 : Int32) = (401 : Int32))).2 k) ?_
      show OEnds p.tables e below G (T1199.setTop (mkF m 195 #[.val (.int p1), .val (.int p2), .val (.int p3), .val (.int p4), .val (.ref ob_1001), .val (.int v1002), .val (.int v1003), .val (.ref b1004), .val (.int v1045), .val (.int v1046), .val (.int v1047), .val (.ref b1113), .val (.ref b1138), .val (.ref b1166), .val (.int (401 : Int32))] []))
      refine OEnds.st (fun _ k => XS.aload X1199.here hx rfl (hb hby at_195) rfl rfl k) ?_
      show OEnds p.tables e below G (T1199.setTop (mkF m 197 #[.val (.int p1), .val (.int p2), .val (.int p3), .val (.int p4), .val (.ref ob_1001), .val (.int v1002), .val (.int v1003), .val (.ref b1004), .val (.int v1045), .val (.int v1046), .val (.int v1047), .val (.ref b1113), .val (.ref b1138), .val (.ref b1166), .val (.int (401 : Int32))] [(.ref b1166)]))
      obtain ⟨cq1200, kq1200, q1200a, q1200b, q1200c⟩ := isOf hZ e1199 p1183
      obtain ⟨_, _, ⟨T1200, L1200, k1200c, n1200c⟩, -, X1200, ⟨Lc1200, hQ1200, l1200, y1200, z1200⟩, st1200⟩ := X1199.virtualBack hx (y := (⟨"com/example/coracle_health/coraclehealth/oauth/TokenError", "status", "()I"⟩ : MethodName)) (z := (⟨"com/example/coracle_health/coraclehealth/oauth/TokenError", "status", "()I"⟩ : MethodName)) hown (mvT hZ (hw _ (List.mem_of_getElem? (i := 114) rfl))) (mvT hZ (hw _ (List.mem_of_getElem? (i := 115) rfl))) (notFace_of_selects (args := #[]) (mvT hZ (hw _ (List.mem_of_getElem? (i := 117) rfl)))) (mvT hZ (hw _ (List.mem_of_getElem? (i := 117) rfl))) (mvT hZ (hw _ (List.mem_of_getElem? (i := 116) rfl))) (by decide) (backOf (W := 0) (rmst0 l Z a0 hw [] b1166 T1181.heap n0 Z1181 p1184) hZ (hw _ (List.mem_of_getElem? (i := 118) rfl)) (hw _ (List.mem_of_getElem? (i := 54) rfl)) (by decide) (by decide)) q1200a q1200c (g := (mkF m 197 #[.val (.int p1), .val (.int p2), .val (.int p3), .val (.int p4), .val (.ref ob_1001), .val (.int v1002), .val (.int v1003), .val (.ref b1004), .val (.int v1045), .val (.int v1046), .val (.int v1047), .val (.ref b1113), .val (.ref b1138), .val (.ref b1166), .val (.int (401 : Int32))] [(.ref b1166)])) rfl (by rw [hml]; rfl) (Steps.refl _) (argsL := []) (rest := []) (lenOf pd_12 rfl) rfl (by show 2 * 0 + _ ≤ _; exact Nat.le_of_eq rfl) (hb hby at_197) (fun _ _ => ⟨rfl, e1199, (by decide : 0 + 0 + 1 + 1 + 1 + 1 + 1 + 2 + 1 + 1 + 1 + 1 + 0 + 0 ≤ _), (by decide : 0 + 0 + 4 + 2 + 2 + 4 + 0 + 4 + 8 + 2752 + 8 + 2752 + 0 + 0 ≤ _)⟩)
      dsimp only [Pt.U, Pt.locs, Pt.cells, Pt.slots] at X1200 l1200 y1200 z1200 st1200 hQ1200
      subst l1200 y1200 z1200
      obtain ⟨rfl, N1200q, e1200⟩ := hQ1200
      have N1200 := Fr.app N1199 N1200q
      refine OEnds.st (fun _ k => st1200.trans k) ?_
      clear st1200
      show OEnds p.tables e below G (T1200.setTop (mkF m 200 #[.val (.int p1), .val (.int p2), .val (.int p3), .val (.int p4), .val (.ref ob_1001), .val (.int v1002), .val (.int v1003), .val (.ref b1004), .val (.int v1045), .val (.int v1046), .val (.int v1047), .val (.ref b1113), .val (.ref b1138), .val (.ref b1166), .val (.int (401 : Int32))] [(.int (400 : Int32))]))
      refine OEnds.st (fun _ k => XS.sipush X1200.here hx rfl (hb hby at_200) k) ?_
      show OEnds p.tables e below G (T1200.setTop (mkF m 203 #[.val (.int p1), .val (.int p2), .val (.int p3), .val (.int p4), .val (.ref ob_1001), .val (.int v1002), .val (.int v1003), .val (.ref b1004), .val (.int v1045), .val (.int v1046), .val (.int v1047), .val (.ref b1113), .val (.ref b1138), .val (.ref b1166), .val (.int (401 : Int32))] [(.int (400 : Int32)), (.int (400 : Int32))]))
      refine OEnds.st (fun _ k => XS.icmpNo X1200.here hx rfl (hb hby at_203) rfl (teq (by decide : (400 : Int32) = (400 : Int32))).2 k) ?_
      show OEnds p.tables e below G (T1200.setTop (mkF m 206 #[.val (.int p1), .val (.int p2), .val (.int p3), .val (.int p4), .val (.ref ob_1001), .val (.int v1002), .val (.int v1003), .val (.ref b1004), .val (.int v1045), .val (.int v1046), .val (.int v1047), .val (.ref b1113), .val (.ref b1138), .val (.ref b1166), .val (.int (401 : Int32))] []))
      refine OEnds.st (fun _ k => XS.iconst X1200.here hx rfl (hb hby at_206) k) ?_
      show OEnds p.tables e below G (T1200.setTop (mkF m 207 #[.val (.int p1), .val (.int p2), .val (.int p3), .val (.int p4), .val (.ref ob_1001), .val (.int v1002), .val (.int v1003), .val (.ref b1004), .val (.int v1045), .val (.int v1046), .val (.int v1047), .val (.ref b1113), .val (.ref b1138), .val (.ref b1166), .val (.int (401 : Int32))] [(.int (1 : Int32))]))
      refine OEnds.st (fun _ k => XS.goto X1200.here hx rfl (pc0 := 207) (pc' := 211) rfl (hb hby at_207) (by decide) (by decide) k) ?_
      show OEnds p.tables e below G (T1200.setTop (mkF m 211 #[.val (.int p1), .val (.int p2), .val (.int p3), .val (.int p4), .val (.ref ob_1001), .val (.int v1002), .val (.int v1003), .val (.ref b1004), .val (.int v1045), .val (.int v1046), .val (.int v1047), .val (.ref b1113), .val (.ref b1138), .val (.ref b1166), .val (.int (401 : Int32))] [(.int (1 : Int32))]))
      rw [← hG]
      refine OEnds.retZW X1200 hS (by rw [e1200]; exact hkk) hx hlk Bd.returns rfl (hb hby at_211) (by decide) (by decide) ?_
      rw [e1200]
      exact ⟨rfl, N1200⟩
    · -- pc 83: no
      refine OEnds.st (fun _ k => XS.icmpYes X1035.here hx rfl (pc0 := 83) (pc' := 101) rfl (hb hby at_83) rfl (feq hc83_1112).2 (by decide) (by decide) k) ?_
      show OEnds p.tables e below G (T1035.setTop (mkF m 101 #[.val (.int p1), .val (.int p2), .val (.int p3), .val (.int p4), .val (.ref ob_1001), .val (.int v1002), .val (.int v1003), .val (.ref b1004), .val (.int v1045), .val (.int v1046), .val (.int v1047), .unset, .unset, .unset, .unset] []))
      refine OEnds.st (fun _ k => XS.iload X1035.here hx rfl (hb hby at_101) rfl k) ?_
      show OEnds p.tables e below G (T1035.setTop (mkF m 103 #[.val (.int p1), .val (.int p2), .val (.int p3), .val (.int p4), .val (.ref ob_1001), .val (.int v1002), .val (.int v1003), .val (.ref b1004), .val (.int v1045), .val (.int v1046), .val (.int v1047), .unset, .unset, .unset, .unset] [(.int v1045)]))
      refine OEnds.st (fun _ k => XS.iconst X1035.here hx rfl (hb hby at_103) k) ?_
      show OEnds p.tables e below G (T1035.setTop (mkF m 104 #[.val (.int p1), .val (.int p2), .val (.int p3), .val (.int p4), .val (.ref ob_1001), .val (.int v1002), .val (.int v1003), .val (.ref b1004), .val (.int v1045), .val (.int v1046), .val (.int v1047), .unset, .unset, .unset, .unset] [(.int (2 : Int32)), (.int v1045)]))
      by_cases hc104_1201 : v1045 = (2 : Int32)
      · -- pc 104: yes
        refine OEnds.st (fun _ k => XS.icmpNo X1035.here hx rfl (hb hby at_104) rfl (teq hc104_1201).2 k) ?_
        show OEnds p.tables e below G (T1035.setTop (mkF m 107 #[.val (.int p1), .val (.int p2), .val (.int p3), .val (.int p4), .val (.ref ob_1001), .val (.int v1002), .val (.int v1003), .val (.ref b1004), .val (.int v1045), .val (.int v1046), .val (.int v1047), .unset, .unset, .unset, .unset] []))
        refine OEnds.st (fun _ k => XS.iload X1035.here hx rfl (hb hby at_107) rfl k) ?_
        show OEnds p.tables e below G (T1035.setTop (mkF m 109 #[.val (.int p1), .val (.int p2), .val (.int p3), .val (.int p4), .val (.ref ob_1001), .val (.int v1002), .val (.int v1003), .val (.ref b1004), .val (.int v1045), .val (.int v1046), .val (.int v1047), .unset, .unset, .unset, .unset] [(.int v1046)]))
        obtain ⟨_, _, ⟨T1202, L1202, k1202c, n1202c⟩, -, X1202, ⟨Lc1202, hQ1202, l1202, y1202, z1202⟩, st1202⟩ := Jvm.LawKit.callS X1035 hx (y := (⟨"java/lang/String", "valueOf", "(C)Ljava/lang/String;"⟩ : MethodName)) hown (mvT hZ (hw _ (List.mem_of_getElem? (i := 38) rfl))) (mvT hZ (hw _ (List.mem_of_getElem? (i := 39) rfl))) (mvT hZ (hw _ (List.mem_of_getElem? (i := 10) rfl))) (mvT hZ (hw _ (List.mem_of_getElem? (i := 40) rfl))) (by decide) (backOf (W := 0) (rm8 l Z a0 hw [] v1046 w T1035.heap n0 Z1035 f1038 hw0 (by rw [← hv_v1046]; exact own_ch1 _)) hZ (hw _ (List.mem_of_getElem? (i := 40) rfl)) (hw _ (List.mem_of_getElem? (i := 10) rfl)) (by decide) (by decide)) (g := (mkF m 109 #[.val (.int p1), .val (.int p2), .val (.int p3), .val (.int p4), .val (.ref ob_1001), .val (.int v1002), .val (.int v1003), .val (.ref b1004), .val (.int v1045), .val (.int v1046), .val (.int v1047), .unset, .unset, .unset, .unset] [(.int v1046)])) rfl (by rw [hml]; rfl) (argsL := [(.int v1046)]) (rest := []) (lenOf pd_13 rfl) rfl (by show 2 * 0 + _ ≤ _; exact Nat.le_of_eq rfl) (hb hby at_109) (fun _ _ => ⟨rfl, rfl, (by decide : 0 + 0 + 1 + 1 + 1 + 2 ≤ _), (by decide : 0 + 0 + 4 + 2 + 2 + 5 ≤ _)⟩)
        dsimp only [Pt.U, Pt.locs, Pt.cells, Pt.slots] at X1202 l1202 y1202 z1202 st1202 hQ1202
        subst l1202 y1202 z1202
        obtain ⟨b_1202, rfl, N1202q, p1203, p1204, p1205⟩ := hQ1202
        have N1202 := Fr.app N1035 N1202q
        refine OEnds.st st1202 ?_
        clear st1202
        have sz_b_1202 : h0.size ≤ b_1202 := Nat.le_trans KK1035.1 p1204
        have ge_b_1202 : n0 ≤ b_1202 := Nat.le_trans Z1035 p1204
        have f1206 : Sta Z T1202.heap "java/lang/String" "COMPACT_STRINGS" "Z" (.int w) := own_Sta_keep f1038 p1203 (fun x hx => absurd hx List.not_mem_nil)
        have f1207 : Sta Z T1202.heap "java/lang/Throwable" "UNASSIGNED_STACK" "[Ljava/lang/StackTraceElement;" (.ref u1) := own_Sta_keep f1039 p1203 (fun x hx => absurd hx List.not_mem_nil)
        have f1208 : Sta Z T1202.heap "java/lang/Throwable" "SUPPRESSED_SENTINEL" "Ljava/util/List;" (.ref u2) := own_Sta_keep f1040 p1203 (fun x hx => absurd hx List.not_mem_nil)
        have KK1202 : Keep h0 T1202.heap [] := KK1035.trans p1203 (fun x hx => absurd hx List.not_mem_nil)
        have Z1202 := Nat.le_trans Z1035 p1203.1
        have hkk := Nat.le_trans hkk p1203.1
        show OEnds p.tables e below G (T1202.setTop (mkF m 112 #[.val (.int p1), .val (.int p2), .val (.int p3), .val (.int p4), .val (.ref ob_1001), .val (.int v1002), .val (.int v1003), .val (.ref b1004), .val (.int v1045), .val (.int v1046), .val (.int v1047), .unset, .unset, .unset, .unset] [(.ref b_1202)]))
        refine OEnds.st (fun _ k => XS.astore X1202.here hx rfl (hb hby at_112) rfl rfl (l' := #[.val (.int p1), .val (.int p2), .val (.int p3), .val (.int p4), .val (.ref ob_1001), .val (.int v1002), .val (.int v1003), .val (.ref b1004), .val (.int v1045), .val (.int v1046), .val (.int v1047), .val (.ref b_1202), .unset, .unset, .unset]) rfl k) ?_
        show OEnds p.tables e below G (T1202.setTop (mkF m 114 #[.val (.int p1), .val (.int p2), .val (.int p3), .val (.int p4), .val (.ref ob_1001), .val (.int v1002), .val (.int v1003), .val (.ref b1004), .val (.int v1045), .val (.int v1046), .val (.int v1047), .val (.ref b_1202), .unset, .unset, .unset] []))
        refine OEnds.st (fun _ k => XS.goto X1202.here hx rfl (pc0 := 114) (pc' := 139) rfl (hb hby at_114) (by decide) (by decide) k) ?_
        show OEnds p.tables e below G (T1202.setTop (mkF m 139 #[.val (.int p1), .val (.int p2), .val (.int p3), .val (.int p4), .val (.ref ob_1001), .val (.int v1002), .val (.int v1003), .val (.ref b1004), .val (.int v1045), .val (.int v1046), .val (.int v1047), .val (.ref b_1202), .unset, .unset, .unset] []))
        obtain ⟨T1209, h1209, X1209, e1209, E1209, A1209, D1209, U1209, st1209⟩ := newO X1202 hx hZ hown (hw _ (List.mem_of_getElem? (i := 52) rfl)) (hw _ (List.mem_of_getElem? (i := 53) rfl)) (hw _ (List.mem_of_getElem? (i := 54) rfl)) rfl (g := (mkF m 139 #[.val (.int p1), .val (.int p2), .val (.int p3), .val (.int p4), .val (.ref ob_1001), .val (.int v1002), .val (.int v1003), .val (.ref b1004), .val (.int v1045), .val (.int v1046), .val (.int v1047), .val (.ref b_1202), .unset, .unset, .unset] [])) rfl (hb hby at_139) (by decide) (by decide)
        obtain ⟨b1209, g1209⟩ : ∃ z, z = T1202.heap.size := ⟨_, rfl⟩
        rw [← g1209] at A1209 D1209 st1209 U1209
        refine OEnds.st st1209 ?_
        clear st1209
        have ge_b1209 : n0 ≤ b1209 := Nat.le_trans Z1202 (Nat.le_of_eq g1209.symm)
        have sz_b1209 : h0.size ≤ b1209 := Nat.le_trans KK1202.1 (Nat.le_of_eq g1209.symm)
        have f1210 : Sta Z h1209 "java/lang/String" "COMPACT_STRINGS" "Z" (.int w) := f1206.ext E1209
        have f1211 : Sta Z h1209 "java/lang/Throwable" "UNASSIGNED_STACK" "[Ljava/lang/StackTraceElement;" (.ref u1) := f1207.ext E1209
        have f1212 : Sta Z h1209 "java/lang/Throwable" "SUPPRESSED_SENTINEL" "Ljava/util/List;" (.ref u2) := f1208.ext E1209
        have KK1209 : Keep h0 h1209 [] := KK1202.ext E1209
        have Z1209 := Nat.le_trans Z1202 E1209.1
        have hkk := Nat.le_trans hkk E1209.1
        have un_b1209 : Unt h1209 b1209 := U1209
        have ex_b1209 := A1209
        have f1213 : Fld Z h1209 b1209 "java/lang/Throwable" "cause" "Ljava/lang/Throwable;" .null := D1209 (Or.inl (hw _ (List.mem_of_getElem? (i := 71) rfl))) (ty := (.object "java/lang/Throwable")) (by decide)
        have f1214 : Fld Z h1209 b1209 "java/lang/Throwable" "stackTrace" "[Ljava/lang/StackTraceElement;" .null := D1209 (Or.inl (hw _ (List.mem_of_getElem? (i := 74) rfl))) (ty := (.array (.object "java/lang/StackTraceElement"))) (by decide)
        have f1215 : Fld Z h1209 b1209 "java/lang/Throwable" "suppressedExceptions" "Ljava/util/List;" .null := D1209 (Or.inl (hw _ (List.mem_of_getElem? (i := 77) rfl))) (ty := (.object "java/util/List")) (by decide)
        have f1216 : Fld Z h1209 b1209 "java/lang/Throwable" "detailMessage" "Ljava/lang/String;" .null := D1209 (Or.inl (hw _ (List.mem_of_getElem? (i := 101) rfl))) (ty := (.object "java/lang/String")) (by decide)
        have f1217 : Fld Z h1209 b1209 "java/lang/Throwable" "backtrace" "Ljava/lang/Object;" .null := D1209 (Or.inl (hw _ (List.mem_of_getElem? (i := 102) rfl))) (ty := (.object "java/lang/Object")) (by decide)
        have f1218 : Fld Z h1209 b1209 "java/lang/Throwable" "depth" "I" (.int (0 : Int32)) := D1209 (Or.inl (hw _ (List.mem_of_getElem? (i := 103) rfl))) (ty := .int) (by decide)
        have f1219 : Fld Z h1209 b1209 "com/example/coracle_health/coraclehealth/oauth/TokenError" "code" "Lcom/example/coracle_health/coraclehealth/oauth/TokenError$Code;" .null := D1209 (Or.inr (hw _ (List.mem_of_getElem? (i := 107) rfl))) (ty := (.object "com/example/coracle_health/coraclehealth/oauth/TokenError$Code")) (by decide)
        have f1220 : Fld Z h1209 b1209 "com/example/coracle_health/coraclehealth/oauth/TokenError" "challenge" "Ljava/lang/String;" .null := D1209 (Or.inr (hw _ (List.mem_of_getElem? (i := 109) rfl))) (ty := (.object "java/lang/String")) (by decide)
        show OEnds p.tables e below G (T1209.setTop (mkF m 142 #[.val (.int p1), .val (.int p2), .val (.int p3), .val (.int p4), .val (.ref ob_1001), .val (.int v1002), .val (.int v1003), .val (.ref b1004), .val (.int v1045), .val (.int v1046), .val (.int v1047), .val (.ref b_1202), .unset, .unset, .unset] [(.ref b1209)]))
        refine OEnds.st (fun _ k => XS.dup X1209.here hx rfl (hb hby at_142) rfl rfl k) ?_
        show OEnds p.tables e below G (T1209.setTop (mkF m 143 #[.val (.int p1), .val (.int p2), .val (.int p3), .val (.int p4), .val (.ref ob_1001), .val (.int v1002), .val (.int v1003), .val (.ref b1004), .val (.int v1045), .val (.int v1046), .val (.int v1047), .val (.ref b_1202), .unset, .unset, .unset] [(.ref b1209), (.ref b1209)]))
        refine OEnds.st (fun _ k => XS.aload X1209.here hx rfl (hb hby at_143) rfl rfl k) ?_
        show OEnds p.tables e below G (T1209.setTop (mkF m 145 #[.val (.int p1), .val (.int p2), .val (.int p3), .val (.int p4), .val (.ref ob_1001), .val (.int v1002), .val (.int v1003), .val (.ref b1004), .val (.int v1045), .val (.int v1046), .val (.int v1047), .val (.ref b_1202), .unset, .unset, .unset] [(.ref ob_1001), (.ref b1209), (.ref b1209)]))
        refine OEnds.st (fun _ k => XS.aload X1209.here hx rfl (hb hby at_145) rfl rfl k) ?_
        show OEnds p.tables e below G (T1209.setTop (mkF m 147 #[.val (.int p1), .val (.int p2), .val (.int p3), .val (.int p4), .val (.ref ob_1001), .val (.int v1002), .val (.int v1003), .val (.ref b1004), .val (.int v1045), .val (.int v1046), .val (.int v1047), .val (.ref b_1202), .unset, .unset, .unset] [(.ref b1004), (.ref ob_1001), (.ref b1209), (.ref b1209)]))
        refine OEnds.st (fun _ k => XS.aload X1209.here hx rfl (hb hby at_147) rfl rfl k) ?_
        show OEnds p.tables e below G (T1209.setTop (mkF m 149 #[.val (.int p1), .val (.int p2), .val (.int p3), .val (.int p4), .val (.ref ob_1001), .val (.int v1002), .val (.int v1003), .val (.ref b1004), .val (.int v1045), .val (.int v1046), .val (.int v1047), .val (.ref b_1202), .unset, .unset, .unset] [(.ref b_1202), (.ref b1004), (.ref ob_1001), (.ref b1209), (.ref b1209)]))
        obtain ⟨_, _, ⟨T1221, L1221, k1221c, n1221c⟩, -, X1221, ⟨Lc1221, hQ1221, l1221, y1221, z1221⟩, st1221⟩ := X1209.specialBack hx (y := (⟨"com/example/coracle_health/coraclehealth/oauth/TokenError", "<init>", "(Lcom/example/coracle_health/coraclehealth/oauth/TokenError$Code;Ljava/lang/String;Ljava/lang/String;)V"⟩ : MethodName)) rfl hown (mvT hZ (hw _ (List.mem_of_getElem? (i := 55) rfl))) (mvT hZ (hw _ (List.mem_of_getElem? (i := 56) rfl))) (mvT hZ (hw _ (List.mem_of_getElem? (i := 57) rfl))) (by decide) (backOfKL (W := 1) (rmti1 l Z a0 hw [] b1209 ob_1001 b1004 b_1202 u1 u2 h1209 n0 Z1209 (ThS.keep KK1209 (fun x hx => absurd hx List.not_mem_nil) TS) un_b1209 ex_b1209 f1217 f1216 f1213 f1214 f1215 f1211 f1212 ge_b1209 hl) hZ (hw _ (List.mem_of_getElem? (i := 57) rfl)) (hw _ (List.mem_of_getElem? (i := 54) rfl)) (by decide) (by decide) hTK hBel) (g := (mkF m 149 #[.val (.int p1), .val (.int p2), .val (.int p3), .val (.int p4), .val (.ref ob_1001), .val (.int v1002), .val (.int v1003), .val (.ref b1004), .val (.int v1045), .val (.int v1046), .val (.int v1047), .val (.ref b_1202), .unset, .unset, .unset] [(.ref b_1202), (.ref b1004), (.ref ob_1001), (.ref b1209), (.ref b1209)])) rfl (by rw [hml]; rfl) (Steps.refl _) (a := b1209) (argsL := [(.ref ob_1001), (.ref b1004), (.ref b_1202)]) (rest := [(.ref b1209)]) (lenOf pd_8 rfl) rfl (by show 2 * 0 + _ ≤ _; exact Nat.le_of_eq rfl) (hb hby at_149) (fun _ _ => ⟨rfl, e1209, (by decide : 0 + 0 + 1 + 1 + 1 + 2 + 1 + 1 ≤ _), (by decide : 0 + 0 + 4 + 2 + 2 + 5 + 8 + 2752 ≤ _)⟩)
        dsimp only [Pt.U, Pt.locs, Pt.cells, Pt.slots] at X1221 l1221 y1221 z1221 st1221 hQ1221
        subst l1221 y1221 z1221
        obtain ⟨rfl, N1221q, p1222, p1223, p1224⟩ := hQ1221
        have N1221 := Fr.app N1202 N1221q
        refine OEnds.st (fun _ k => st1221.trans k) ?_
        clear st1221
        have f1225 : Sta Z T1221.heap "java/lang/String" "COMPACT_STRINGS" "Z" (.int w) := own_Sta_keep f1210 p1222 (fun x hx => by cases List.mem_singleton.mp hx; exact own_exa_ns ex_b1209)
        have f1226 : Sta Z T1221.heap "java/lang/Throwable" "UNASSIGNED_STACK" "[Ljava/lang/StackTraceElement;" (.ref u1) := own_Sta_keep f1211 p1222 (fun x hx => by cases List.mem_singleton.mp hx; exact own_exa_ns ex_b1209)
        have f1227 : Sta Z T1221.heap "java/lang/Throwable" "SUPPRESSED_SENTINEL" "Ljava/util/List;" (.ref u2) := own_Sta_keep f1212 p1222 (fun x hx => by cases List.mem_singleton.mp hx; exact own_exa_ns ex_b1209)
        have f1228 : Exa Z T1221.heap b1209 "com/example/coracle_health/coraclehealth/oauth/TokenError" := ex_b1209.keep p1222
        have KK1221 : Keep h0 T1221.heap [] := KK1209.trans p1222 (fun x hx => by cases List.mem_singleton.mp hx; exact Or.inr sz_b1209)
        have Z1221 := Nat.le_trans Z1209 p1222.1
        have hkk := Nat.le_trans hkk p1222.1
        show OEnds p.tables e below G (T1221.setTop (mkF m 152 #[.val (.int p1), .val (.int p2), .val (.int p3), .val (.int p4), .val (.ref ob_1001), .val (.int v1002), .val (.int v1003), .val (.ref b1004), .val (.int v1045), .val (.int v1046), .val (.int v1047), .val (.ref b_1202), .unset, .unset, .unset] [(.ref b1209)]))
        refine OEnds.st (fun _ k => XS.astore X1221.here hx rfl (hb hby at_152) rfl rfl (l' := #[.val (.int p1), .val (.int p2), .val (.int p3), .val (.int p4), .val (.ref ob_1001), .val (.int v1002), .val (.int v1003), .val (.ref b1004), .val (.int v1045), .val (.int v1046), .val (.int v1047), .val (.ref b_1202), .val (.ref b1209), .unset, .unset]) rfl k) ?_
        show OEnds p.tables e below G (T1221.setTop (mkF m 154 #[.val (.int p1), .val (.int p2), .val (.int p3), .val (.int p4), .val (.ref ob_1001), .val (.int v1002), .val (.int v1003), .val (.ref b1004), .val (.int v1045), .val (.int v1046), .val (.int v1047), .val (.ref b_1202), .val (.ref b1209), .unset, .unset] []))
        obtain ⟨T1237, h1237, X1237, e1237, E1237, A1237, D1237, U1237, st1237⟩ := newO X1221 hx hZ hown (hw _ (List.mem_of_getElem? (i := 52) rfl)) (hw _ (List.mem_of_getElem? (i := 53) rfl)) (hw _ (List.mem_of_getElem? (i := 54) rfl)) rfl (g := (mkF m 154 #[.val (.int p1), .val (.int p2), .val (.int p3), .val (.int p4), .val (.ref ob_1001), .val (.int v1002), .val (.int v1003), .val (.ref b1004), .val (.int v1045), .val (.int v1046), .val (.int v1047), .val (.ref b_1202), .val (.ref b1209), .unset, .unset] [])) rfl (hb hby at_154) (by decide) (by decide)
        obtain ⟨b1237, g1237⟩ : ∃ z, z = T1221.heap.size := ⟨_, rfl⟩
        rw [← g1237] at A1237 D1237 st1237 U1237
        refine OEnds.st st1237 ?_
        clear st1237
        have ne1238 : b1209 ≠ b1237 := Nat.ne_of_lt (Nat.lt_of_lt_of_le (p1223).lt (Nat.le_of_eq g1237.symm))
        have ge_b1237 : n0 ≤ b1237 := Nat.le_trans Z1221 (Nat.le_of_eq g1237.symm)
        have sz_b1237 : h0.size ≤ b1237 := Nat.le_trans KK1221.1 (Nat.le_of_eq g1237.symm)
        have f1239 : Sta Z h1237 "java/lang/String" "COMPACT_STRINGS" "Z" (.int w) := f1225.ext E1237
        have f1240 : Sta Z h1237 "java/lang/Throwable" "UNASSIGNED_STACK" "[Ljava/lang/StackTraceElement;" (.ref u1) := f1226.ext E1237
        have f1241 : Sta Z h1237 "java/lang/Throwable" "SUPPRESSED_SENTINEL" "Ljava/util/List;" (.ref u2) := f1227.ext E1237
        have f1242 : Exa Z h1237 b1209 "com/example/coracle_health/coraclehealth/oauth/TokenError" := p1223.ext E1237
        have f1243 : Fld Z h1237 b1209 "com/example/coracle_health/coraclehealth/oauth/TokenError" "challenge" "Ljava/lang/String;" (.ref b_1202) := p1224.ext E1237
        have KK1237 : Keep h0 h1237 [] := KK1221.ext E1237
        have Z1237 := Nat.le_trans Z1221 E1237.1
        have hkk := Nat.le_trans hkk E1237.1
        have un_b1237 : Unt h1237 b1237 := U1237
        have ex_b1237 := A1237
        have f1244 : Fld Z h1237 b1237 "java/lang/Throwable" "cause" "Ljava/lang/Throwable;" .null := D1237 (Or.inl (hw _ (List.mem_of_getElem? (i := 71) rfl))) (ty := (.object "java/lang/Throwable")) (by decide)
        have f1245 : Fld Z h1237 b1237 "java/lang/Throwable" "stackTrace" "[Ljava/lang/StackTraceElement;" .null := D1237 (Or.inl (hw _ (List.mem_of_getElem? (i := 74) rfl))) (ty := (.array (.object "java/lang/StackTraceElement"))) (by decide)
        have f1246 : Fld Z h1237 b1237 "java/lang/Throwable" "suppressedExceptions" "Ljava/util/List;" .null := D1237 (Or.inl (hw _ (List.mem_of_getElem? (i := 77) rfl))) (ty := (.object "java/util/List")) (by decide)
        have f1247 : Fld Z h1237 b1237 "java/lang/Throwable" "detailMessage" "Ljava/lang/String;" .null := D1237 (Or.inl (hw _ (List.mem_of_getElem? (i := 101) rfl))) (ty := (.object "java/lang/String")) (by decide)
        have f1248 : Fld Z h1237 b1237 "java/lang/Throwable" "backtrace" "Ljava/lang/Object;" .null := D1237 (Or.inl (hw _ (List.mem_of_getElem? (i := 102) rfl))) (ty := (.object "java/lang/Object")) (by decide)
        have f1249 : Fld Z h1237 b1237 "java/lang/Throwable" "depth" "I" (.int (0 : Int32)) := D1237 (Or.inl (hw _ (List.mem_of_getElem? (i := 103) rfl))) (ty := .int) (by decide)
        have f1250 : Fld Z h1237 b1237 "com/example/coracle_health/coraclehealth/oauth/TokenError" "code" "Lcom/example/coracle_health/coraclehealth/oauth/TokenError$Code;" .null := D1237 (Or.inr (hw _ (List.mem_of_getElem? (i := 107) rfl))) (ty := (.object "com/example/coracle_health/coraclehealth/oauth/TokenError$Code")) (by decide)
        have f1251 : Fld Z h1237 b1237 "com/example/coracle_health/coraclehealth/oauth/TokenError" "challenge" "Ljava/lang/String;" .null := D1237 (Or.inr (hw _ (List.mem_of_getElem? (i := 109) rfl))) (ty := (.object "java/lang/String")) (by decide)
        show OEnds p.tables e below G (T1237.setTop (mkF m 157 #[.val (.int p1), .val (.int p2), .val (.int p3), .val (.int p4), .val (.ref ob_1001), .val (.int v1002), .val (.int v1003), .val (.ref b1004), .val (.int v1045), .val (.int v1046), .val (.int v1047), .val (.ref b_1202), .val (.ref b1209), .unset, .unset] [(.ref b1237)]))
        refine OEnds.st (fun _ k => XS.dup X1237.here hx rfl (hb hby at_157) rfl rfl k) ?_
        show OEnds p.tables e below G (T1237.setTop (mkF m 158 #[.val (.int p1), .val (.int p2), .val (.int p3), .val (.int p4), .val (.ref ob_1001), .val (.int v1002), .val (.int v1003), .val (.ref b1004), .val (.int v1045), .val (.int v1046), .val (.int v1047), .val (.ref b_1202), .val (.ref b1209), .unset, .unset] [(.ref b1237), (.ref b1237)]))
        refine OEnds.st (fun _ k => XS.aload X1237.here hx rfl (hb hby at_158) rfl rfl k) ?_
        show OEnds p.tables e below G (T1237.setTop (mkF m 160 #[.val (.int p1), .val (.int p2), .val (.int p3), .val (.int p4), .val (.ref ob_1001), .val (.int v1002), .val (.int v1003), .val (.ref b1004), .val (.int v1045), .val (.int v1046), .val (.int v1047), .val (.ref b_1202), .val (.ref b1209), .unset, .unset] [(.ref ob_1001), (.ref b1237), (.ref b1237)]))
        refine OEnds.st (fun _ k => XS.aload X1237.here hx rfl (hb hby at_160) rfl rfl k) ?_
        show OEnds p.tables e below G (T1237.setTop (mkF m 162 #[.val (.int p1), .val (.int p2), .val (.int p3), .val (.int p4), .val (.ref ob_1001), .val (.int v1002), .val (.int v1003), .val (.ref b1004), .val (.int v1045), .val (.int v1046), .val (.int v1047), .val (.ref b_1202), .val (.ref b1209), .unset, .unset] [(.ref b1004), (.ref ob_1001), (.ref b1237), (.ref b1237)]))
        obtain ⟨_, _, ⟨T1252, L1252, k1252c, n1252c⟩, -, X1252, ⟨Lc1252, hQ1252, l1252, y1252, z1252⟩, st1252⟩ := X1237.specialBack hx (y := (⟨"com/example/coracle_health/coraclehealth/oauth/TokenError", "<init>", "(Lcom/example/coracle_health/coraclehealth/oauth/TokenError$Code;Ljava/lang/String;)V"⟩ : MethodName)) rfl hown (mvT hZ (hw _ (List.mem_of_getElem? (i := 110) rfl))) (mvT hZ (hw _ (List.mem_of_getElem? (i := 111) rfl))) (mvT hZ (hw _ (List.mem_of_getElem? (i := 112) rfl))) (by decide) (backOfKL (W := 1) (rmt2 l Z a0 hw [] b1237 ob_1001 b1004 u1 u2 h1237 n0 Z1237 (ThS.keep KK1237 (fun x hx => absurd hx List.not_mem_nil) TS) un_b1237 ex_b1237 f1248 f1247 f1244 f1245 f1246 f1240 f1241 ge_b1237 hl) hZ (hw _ (List.mem_of_getElem? (i := 112) rfl)) (hw _ (List.mem_of_getElem? (i := 54) rfl)) (by decide) (by decide) hTK hBel) (g := (mkF m 162 #[.val (.int p1), .val (.int p2), .val (.int p3), .val (.int p4), .val (.ref ob_1001), .val (.int v1002), .val (.int v1003), .val (.ref b1004), .val (.int v1045), .val (.int v1046), .val (.int v1047), .val (.ref b_1202), .val (.ref b1209), .unset, .unset] [(.ref b1004), (.ref ob_1001), (.ref b1237), (.ref b1237)])) rfl (by rw [hml]; rfl) (Steps.refl _) (a := b1237) (argsL := [(.ref ob_1001), (.ref b1004)]) (rest := [(.ref b1237)]) (lenOf pd_11 rfl) rfl (by show 2 * 0 + _ ≤ _; exact Nat.le_of_eq rfl) (hb hby at_162) (fun _ _ => ⟨rfl, e1237, (by decide : 0 + 0 + 1 + 1 + 1 + 2 + 1 + 1 + 1 + 1 ≤ _), (by decide : 0 + 0 + 4 + 2 + 2 + 5 + 8 + 2752 + 8 + 2752 ≤ _)⟩)
        dsimp only [Pt.U, Pt.locs, Pt.cells, Pt.slots] at X1252 l1252 y1252 z1252 st1252 hQ1252
        subst l1252 y1252 z1252
        obtain ⟨rfl, N1252q, p1253, p1254, p1255⟩ := hQ1252
        have N1252 := Fr.app N1221 N1252q
        refine OEnds.st (fun _ k => st1252.trans k) ?_
        clear st1252
        have f1256 : Sta Z T1252.heap "java/lang/String" "COMPACT_STRINGS" "Z" (.int w) := own_Sta_keep f1239 p1253 (fun x hx => by cases List.mem_singleton.mp hx; exact own_exa_ns ex_b1237)
        have f1257 : Sta Z T1252.heap "java/lang/Throwable" "UNASSIGNED_STACK" "[Ljava/lang/StackTraceElement;" (.ref u1) := own_Sta_keep f1240 p1253 (fun x hx => by cases List.mem_singleton.mp hx; exact own_exa_ns ex_b1237)
        have f1258 : Sta Z T1252.heap "java/lang/Throwable" "SUPPRESSED_SENTINEL" "Ljava/util/List;" (.ref u2) := own_Sta_keep f1241 p1253 (fun x hx => by cases List.mem_singleton.mp hx; exact own_exa_ns ex_b1237)
        have f1259 : Exa Z T1252.heap b1209 "com/example/coracle_health/coraclehealth/oauth/TokenError" := f1242.keep p1253
        have f1260 : Fld Z T1252.heap b1209 "com/example/coracle_health/coraclehealth/oauth/TokenError" "challenge" "Ljava/lang/String;" (.ref b_1202) := f1243.keep p1253 (by simp only [List.mem_cons, List.not_mem_nil, or_false, not_or]; exact ne1238)
        have f1261 : Exa Z T1252.heap b1237 "com/example/coracle_health/coraclehealth/oauth/TokenError" := ex_b1237.keep p1253
        have KK1252 : Keep h0 T1252.heap [] := KK1237.trans p1253 (fun x hx => by cases List.mem_singleton.mp hx; exact Or.inr sz_b1237)
        have Z1252 := Nat.le_trans Z1237 p1253.1
        have hkk := Nat.le_trans hkk p1253.1
        show OEnds p.tables e below G (T1252.setTop (mkF m 165 #[.val (.int p1), .val (.int p2), .val (.int p3), .val (.int p4), .val (.ref ob_1001), .val (.int v1002), .val (.int v1003), .val (.ref b1004), .val (.int v1045), .val (.int v1046), .val (.int v1047), .val (.ref b_1202), .val (.ref b1209), .unset, .unset] [(.ref b1237)]))
        refine OEnds.st (fun _ k => XS.astore X1252.here hx rfl (hb hby at_165) rfl rfl (l' := #[.val (.int p1), .val (.int p2), .val (.int p3), .val (.int p4), .val (.ref ob_1001), .val (.int v1002), .val (.int v1003), .val (.ref b1004), .val (.int v1045), .val (.int v1046), .val (.int v1047), .val (.ref b_1202), .val (.ref b1209), .val (.ref b1237), .unset]) rfl k) ?_
        show OEnds p.tables e below G (T1252.setTop (mkF m 167 #[.val (.int p1), .val (.int p2), .val (.int p3), .val (.int p4), .val (.ref ob_1001), .val (.int v1002), .val (.int v1003), .val (.ref b1004), .val (.int v1045), .val (.int v1046), .val (.int v1047), .val (.ref b_1202), .val (.ref b1209), .val (.ref b1237), .unset] []))
        refine OEnds.st (fun _ k => XS.iload X1252.here hx rfl (hb hby at_167) rfl k) ?_
        show OEnds p.tables e below G (T1252.setTop (mkF m 169 #[.val (.int p1), .val (.int p2), .val (.int p3), .val (.int p4), .val (.ref ob_1001), .val (.int v1002), .val (.int v1003), .val (.ref b1004), .val (.int v1045), .val (.int v1046), .val (.int v1047), .val (.ref b_1202), .val (.ref b1209), .val (.ref b1237), .unset] [(.int v1045)]))
        refine OEnds.st (fun _ k => XS.ifYes X1252.here hx rfl (pc0 := 169) (pc' := 180) rfl (hb hby at_169) rfl ((if0 _ _).trans (feq hc71_1048).2) (by decide) (by decide) k) ?_
        show OEnds p.tables e below G (T1252.setTop (mkF m 180 #[.val (.int p1), .val (.int p2), .val (.int p3), .val (.int p4), .val (.ref ob_1001), .val (.int v1002), .val (.int v1003), .val (.ref b1004), .val (.int v1045), .val (.int v1046), .val (.int v1047), .val (.ref b_1202), .val (.ref b1209), .val (.ref b1237), .unset] []))
        refine OEnds.st (fun _ k => XS.sipush X1252.here hx rfl (hb hby at_180) k) ?_
        show OEnds p.tables e below G (T1252.setTop (mkF m 183 #[.val (.int p1), .val (.int p2), .val (.int p3), .val (.int p4), .val (.ref ob_1001), .val (.int v1002), .val (.int v1003), .val (.ref b1004), .val (.int v1045), .val (.int v1046), .val (.int v1047), .val (.ref b_1202), .val (.ref b1209), .val (.ref b1237), .unset] [(.int (401 : Int32))]))
        refine OEnds.st (fun _ k => XS.istore X1252.here hx rfl (hb hby at_183) rfl (l' := #[.val (.int p1), .val (.int p2), .val (.int p3), .val (.int p4), .val (.ref ob_1001), .val (.int v1002), .val (.int v1003), .val (.ref b1004), .val (.int v1045), .val (.int v1046), .val (.int v1047), .val (.ref b_1202), .val (.ref b1209), .val (.ref b1237), .val (.int (401 : Int32))]) rfl k) ?_
        show OEnds p.tables e below G (T1252.setTop (mkF m 185 #[.val (.int p1), .val (.int p2), .val (.int p3), .val (.int p4), .val (.ref ob_1001), .val (.int v1002), .val (.int v1003), .val (.ref b1004), .val (.int v1045), .val (.int v1046), .val (.int v1047), .val (.ref b_1202), .val (.ref b1209), .val (.ref b1237), .val (.int (401 : Int32))] []))
        refine OEnds.st (fun _ k => XS.aload X1252.here hx rfl (hb hby at_185) rfl rfl k) ?_
        show OEnds p.tables e below G (T1252.setTop (mkF m 187 #[.val (.int p1), .val (.int p2), .val (.int p3), .val (.int p4), .val (.ref ob_1001), .val (.int v1002), .val (.int v1003), .val (.ref b1004), .val (.int v1045), .val (.int v1046), .val (.int v1047), .val (.ref b_1202), .val (.ref b1209), .val (.ref b1237), .val (.int (401 : Int32))] [(.ref b1209)]))
        obtain ⟨cq1270, kq1270, q1270a, q1270b, q1270c⟩ := isOf hZ rfl f1259
        obtain ⟨_, _, ⟨T1270, L1270, k1270c, n1270c⟩, -, X1270, ⟨Lc1270, hQ1270, l1270, y1270, z1270⟩, st1270⟩ := X1252.virtualBack hx (y := (⟨"com/example/coracle_health/coraclehealth/oauth/TokenError", "status", "()I"⟩ : MethodName)) (z := (⟨"com/example/coracle_health/coraclehealth/oauth/TokenError", "status", "()I"⟩ : MethodName)) hown (mvT hZ (hw _ (List.mem_of_getElem? (i := 114) rfl))) (mvT hZ (hw _ (List.mem_of_getElem? (i := 115) rfl))) (notFace_of_selects (args := #[]) (mvT hZ (hw _ (List.mem_of_getElem? (i := 117) rfl)))) (mvT hZ (hw _ (List.mem_of_getElem? (i := 117) rfl))) (mvT hZ (hw _ (List.mem_of_getElem? (i := 116) rfl))) (by decide) (backOf (W := 0) (rmst1 l Z a0 hw [] b1209 b_1202 T1252.heap n0 Z1252 f1260) hZ (hw _ (List.mem_of_getElem? (i := 118) rfl)) (hw _ (List.mem_of_getElem? (i := 54) rfl)) (by decide) (by decide)) q1270a q1270c (g := (mkF m 187 #[.val (.int p1), .val (.int p2), .val (.int p3), .val (.int p4), .val (.ref ob_1001), .val (.int v1002), .val (.int v1003), .val (.ref b1004), .val (.int v1045), .val (.int v1046), .val (.int v1047), .val (.ref b_1202), .val (.ref b1209), .val (.ref b1237), .val (.int (401 : Int32))] [(.ref b1209)])) rfl (by rw [hml]; rfl) (Steps.refl _) (argsL := []) (rest := []) (lenOf pd_12 rfl) rfl (by show 2 * 0 + _ ≤ _; exact Nat.le_of_eq rfl) (hb hby at_187) (fun _ _ => ⟨rfl, rfl, (by decide : 0 + 0 + 1 + 1 + 1 + 2 + 1 + 1 + 1 + 1 + 0 ≤ _), (by decide : 0 + 0 + 4 + 2 + 2 + 5 + 8 + 2752 + 8 + 2752 + 0 ≤ _)⟩)
        dsimp only [Pt.U, Pt.locs, Pt.cells, Pt.slots] at X1270 l1270 y1270 z1270 st1270 hQ1270
        subst l1270 y1270 z1270
        obtain ⟨rfl, N1270q, e1270⟩ := hQ1270
        have N1270 := Fr.app N1252 N1270q
        refine OEnds.st (fun _ k => st1270.trans k) ?_
        clear st1270
        show OEnds p.tables e below G (T1270.setTop (mkF m 190 #[.val (.int p1), .val (.int p2), .val (.int p3), .val (.int p4), .val (.ref ob_1001), .val (.int v1002), .val (.int v1003), .val (.ref b1004), .val (.int v1045), .val (.int v1046), .val (.int v1047), .val (.ref b_1202), .val (.ref b1209), .val (.ref b1237), .val (.int (401 : Int32))] [(.int (401 : Int32))]))
        refine OEnds.st (fun _ k => XS.iload X1270.here hx rfl (hb hby at_190) rfl k) ?_
        show OEnds p.tables e below G (T1270.setTop (mkF m 192 #[.val (.int p1), .val (.int p2), .val (.int p3), .val (.int p4), .val (.ref ob_1001), .val (.int v1002), .val (.int v1003), .val (.ref b1004), .val (.int v1045), .val (.int v1046), .val (.int v1047), .val (.ref b_1202), .val (.ref b1209), .val (.ref b1237), .val (.int (401 : Int32))] [(.int (401 : Int32)), (.int (401 : Int32))]))
        refine OEnds.st (fun _ k => XS.icmpNo X1270.here hx rfl (hb hby at_192) rfl (teq (by decide : (401 : Int32) = (401 : Int32))).2 k) ?_
        show OEnds p.tables e below G (T1270.setTop (mkF m 195 #[.val (.int p1), .val (.int p2), .val (.int p3), .val (.int p4), .val (.ref ob_1001), .val (.int v1002), .val (.int v1003), .val (.ref b1004), .val (.int v1045), .val (.int v1046), .val (.int v1047), .val (.ref b_1202), .val (.ref b1209), .val (.ref b1237), .val (.int (401 : Int32))] []))
        refine OEnds.st (fun _ k => XS.aload X1270.here hx rfl (hb hby at_195) rfl rfl k) ?_
        show OEnds p.tables e below G (T1270.setTop (mkF m 197 #[.val (.int p1), .val (.int p2), .val (.int p3), .val (.int p4), .val (.ref ob_1001), .val (.int v1002), .val (.int v1003), .val (.ref b1004), .val (.int v1045), .val (.int v1046), .val (.int v1047), .val (.ref b_1202), .val (.ref b1209), .val (.ref b1237), .val (.int (401 : Int32))] [(.ref b1237)]))
        obtain ⟨cq1271, kq1271, q1271a, q1271b, q1271c⟩ := isOf hZ e1270 p1254
        obtain ⟨_, _, ⟨T1271, L1271, k1271c, n1271c⟩, -, X1271, ⟨Lc1271, hQ1271, l1271, y1271, z1271⟩, st1271⟩ := X1270.virtualBack hx (y := (⟨"com/example/coracle_health/coraclehealth/oauth/TokenError", "status", "()I"⟩ : MethodName)) (z := (⟨"com/example/coracle_health/coraclehealth/oauth/TokenError", "status", "()I"⟩ : MethodName)) hown (mvT hZ (hw _ (List.mem_of_getElem? (i := 114) rfl))) (mvT hZ (hw _ (List.mem_of_getElem? (i := 115) rfl))) (notFace_of_selects (args := #[]) (mvT hZ (hw _ (List.mem_of_getElem? (i := 117) rfl)))) (mvT hZ (hw _ (List.mem_of_getElem? (i := 117) rfl))) (mvT hZ (hw _ (List.mem_of_getElem? (i := 116) rfl))) (by decide) (backOf (W := 0) (rmst0 l Z a0 hw [] b1237 T1252.heap n0 Z1252 p1255) hZ (hw _ (List.mem_of_getElem? (i := 118) rfl)) (hw _ (List.mem_of_getElem? (i := 54) rfl)) (by decide) (by decide)) q1271a q1271c (g := (mkF m 197 #[.val (.int p1), .val (.int p2), .val (.int p3), .val (.int p4), .val (.ref ob_1001), .val (.int v1002), .val (.int v1003), .val (.ref b1004), .val (.int v1045), .val (.int v1046), .val (.int v1047), .val (.ref b_1202), .val (.ref b1209), .val (.ref b1237), .val (.int (401 : Int32))] [(.ref b1237)])) rfl (by rw [hml]; rfl) (Steps.refl _) (argsL := []) (rest := []) (lenOf pd_12 rfl) rfl (by show 2 * 0 + _ ≤ _; exact Nat.le_of_eq rfl) (hb hby at_197) (fun _ _ => ⟨rfl, e1270, (by decide : 0 + 0 + 1 + 1 + 1 + 2 + 1 + 1 + 1 + 1 + 0 + 0 ≤ _), (by decide : 0 + 0 + 4 + 2 + 2 + 5 + 8 + 2752 + 8 + 2752 + 0 + 0 ≤ _)⟩)
        dsimp only [Pt.U, Pt.locs, Pt.cells, Pt.slots] at X1271 l1271 y1271 z1271 st1271 hQ1271
        subst l1271 y1271 z1271
        obtain ⟨rfl, N1271q, e1271⟩ := hQ1271
        have N1271 := Fr.app N1270 N1271q
        refine OEnds.st (fun _ k => st1271.trans k) ?_
        clear st1271
        show OEnds p.tables e below G (T1271.setTop (mkF m 200 #[.val (.int p1), .val (.int p2), .val (.int p3), .val (.int p4), .val (.ref ob_1001), .val (.int v1002), .val (.int v1003), .val (.ref b1004), .val (.int v1045), .val (.int v1046), .val (.int v1047), .val (.ref b_1202), .val (.ref b1209), .val (.ref b1237), .val (.int (401 : Int32))] [(.int (400 : Int32))]))
        refine OEnds.st (fun _ k => XS.sipush X1271.here hx rfl (hb hby at_200) k) ?_
        show OEnds p.tables e below G (T1271.setTop (mkF m 203 #[.val (.int p1), .val (.int p2), .val (.int p3), .val (.int p4), .val (.ref ob_1001), .val (.int v1002), .val (.int v1003), .val (.ref b1004), .val (.int v1045), .val (.int v1046), .val (.int v1047), .val (.ref b_1202), .val (.ref b1209), .val (.ref b1237), .val (.int (401 : Int32))] [(.int (400 : Int32)), (.int (400 : Int32))]))
        refine OEnds.st (fun _ k => XS.icmpNo X1271.here hx rfl (hb hby at_203) rfl (teq (by decide : (400 : Int32) = (400 : Int32))).2 k) ?_
        show OEnds p.tables e below G (T1271.setTop (mkF m 206 #[.val (.int p1), .val (.int p2), .val (.int p3), .val (.int p4), .val (.ref ob_1001), .val (.int v1002), .val (.int v1003), .val (.ref b1004), .val (.int v1045), .val (.int v1046), .val (.int v1047), .val (.ref b_1202), .val (.ref b1209), .val (.ref b1237), .val (.int (401 : Int32))] []))
        refine OEnds.st (fun _ k => XS.iconst X1271.here hx rfl (hb hby at_206) k) ?_
        show OEnds p.tables e below G (T1271.setTop (mkF m 207 #[.val (.int p1), .val (.int p2), .val (.int p3), .val (.int p4), .val (.ref ob_1001), .val (.int v1002), .val (.int v1003), .val (.ref b1004), .val (.int v1045), .val (.int v1046), .val (.int v1047), .val (.ref b_1202), .val (.ref b1209), .val (.ref b1237), .val (.int (401 : Int32))] [(.int (1 : Int32))]))
        refine OEnds.st (fun _ k => XS.goto X1271.here hx rfl (pc0 := 207) (pc' := 211) rfl (hb hby at_207) (by decide) (by decide) k) ?_
        show OEnds p.tables e below G (T1271.setTop (mkF m 211 #[.val (.int p1), .val (.int p2), .val (.int p3), .val (.int p4), .val (.ref ob_1001), .val (.int v1002), .val (.int v1003), .val (.ref b1004), .val (.int v1045), .val (.int v1046), .val (.int v1047), .val (.ref b_1202), .val (.ref b1209), .val (.ref b1237), .val (.int (401 : Int32))] [(.int (1 : Int32))]))
        rw [← hG]
        refine OEnds.retZW X1271 hS (by rw [e1271]; exact hkk) hx hlk Bd.returns rfl (hb hby at_211) (by decide) (by decide) ?_
        rw [e1271]
        exact ⟨rfl, N1271⟩
      · -- pc 104: no
        refine OEnds.st (fun _ k => XS.icmpYes X1035.here hx rfl (pc0 := 104) (pc' := 117) rfl (hb hby at_104) rfl (feq hc104_1201).2 (by decide) (by decide) k) ?_
        show OEnds p.tables e below G (T1035.setTop (mkF m 117 #[.val (.int p1), .val (.int p2), .val (.int p3), .val (.int p4), .val (.ref ob_1001), .val (.int v1002), .val (.int v1003), .val (.ref b1004), .val (.int v1045), .val (.int v1046), .val (.int v1047), .unset, .unset, .unset, .unset] []))
        obtain ⟨T1272, h1272, X1272, e1272, E1272, A1272, D1272, -, st1272⟩ := newO X1035 hx hZ hown (hw _ (List.mem_of_getElem? (i := 8) rfl)) (hw _ (List.mem_of_getElem? (i := 9) rfl)) (hw _ (List.mem_of_getElem? (i := 10) rfl)) rfl (g := (mkF m 117 #[.val (.int p1), .val (.int p2), .val (.int p3), .val (.int p4), .val (.ref ob_1001), .val (.int v1002), .val (.int v1003), .val (.ref b1004), .val (.int v1045), .val (.int v1046), .val (.int v1047), .unset, .unset, .unset, .unset] [])) rfl (hb hby at_117) (by decide) (by decide)
        obtain ⟨b1272, g1272⟩ : ∃ z, z = T1035.heap.size := ⟨_, rfl⟩
        rw [← g1272] at A1272 D1272 st1272
        refine OEnds.st st1272 ?_
        clear st1272
        have ge_b1272 : n0 ≤ b1272 := Nat.le_trans Z1035 (Nat.le_of_eq g1272.symm)
        have sz_b1272 : h0.size ≤ b1272 := Nat.le_trans KK1035.1 (Nat.le_of_eq g1272.symm)
        have f1273 : Sta Z h1272 "java/lang/String" "COMPACT_STRINGS" "Z" (.int w) := f1038.ext E1272
        have f1274 : Sta Z h1272 "java/lang/Throwable" "UNASSIGNED_STACK" "[Ljava/lang/StackTraceElement;" (.ref u1) := f1039.ext E1272
        have f1275 : Sta Z h1272 "java/lang/Throwable" "SUPPRESSED_SENTINEL" "Ljava/util/List;" (.ref u2) := f1040.ext E1272
        have KK1272 : Keep h0 h1272 [] := KK1035.ext E1272
        have Z1272 := Nat.le_trans Z1035 E1272.1
        have hkk := Nat.le_trans hkk E1272.1
        have ex_b1272 := A1272
        have f1276 : Fld Z h1272 b1272 "java/lang/String" "coder" "B" (.int (0 : Int32)) := D1272 (Or.inr (hw _ (List.mem_of_getElem? (i := 35) rfl))) (ty := .byte) (by decide)
        have f1277 : Fld Z h1272 b1272 "java/lang/String" "value" "[B" .null := D1272 (Or.inr (hw _ (List.mem_of_getElem? (i := 37) rfl))) (ty := (.array .byte)) (by decide)
        show OEnds p.tables e below G (T1272.setTop (mkF m 120 #[.val (.int p1), .val (.int p2), .val (.int p3), .val (.int p4), .val (.ref ob_1001), .val (.int v1002), .val (.int v1003), .val (.ref b1004), .val (.int v1045), .val (.int v1046), .val (.int v1047), .unset, .unset, .unset, .unset] [(.ref b1272)]))
        refine OEnds.st (fun _ k => XS.dup X1272.here hx rfl (hb hby at_120) rfl rfl k) ?_
        show OEnds p.tables e below G (T1272.setTop (mkF m 121 #[.val (.int p1), .val (.int p2), .val (.int p3), .val (.int p4), .val (.ref ob_1001), .val (.int v1002), .val (.int v1003), .val (.ref b1004), .val (.int v1045), .val (.int v1046), .val (.int v1047), .unset, .unset, .unset, .unset] [(.ref b1272), (.ref b1272)]))
        refine OEnds.st (fun _ k => XS.iconst X1272.here hx rfl (hb hby at_121) k) ?_
        show OEnds p.tables e below G (T1272.setTop (mkF m 122 #[.val (.int p1), .val (.int p2), .val (.int p3), .val (.int p4), .val (.ref ob_1001), .val (.int v1002), .val (.int v1003), .val (.ref b1004), .val (.int v1045), .val (.int v1046), .val (.int v1047), .unset, .unset, .unset, .unset] [(.int (2 : Int32)), (.ref b1272), (.ref b1272)]))
        obtain ⟨T1278, h1278, k1278, X1278, e1278, E1278, A1278, st1278⟩ := newP X1272 hx hZ (hw _ (List.mem_of_getElem? (i := 11) rfl)) e1272 (g := (mkF m 122 #[.val (.int p1), .val (.int p2), .val (.int p3), .val (.int p4), .val (.ref ob_1001), .val (.int v1002), .val (.int v1003), .val (.ref b1004), .val (.int v1045), .val (.int v1046), .val (.int v1047), .unset, .unset, .unset, .unset] [(.int (2 : Int32)), (.ref b1272), (.ref b1272)])) rfl (hb hby at_122) rfl (by decide) (cap := 2) (by decide) (by decide) (by decide) (by decide)
        obtain ⟨b1278, g1278⟩ : ∃ z, z = h1272.size := ⟨_, rfl⟩
        rw [← g1278] at A1278 st1278
        refine OEnds.st st1278 ?_
        clear st1278
        have ne1279 : b1272 ≠ b1278 := Nat.ne_of_lt (Nat.lt_of_lt_of_le (ex_b1272).lt (Nat.le_of_eq g1278.symm))
        have ge_b1278 : n0 ≤ b1278 := Nat.le_trans Z1272 (Nat.le_of_eq g1278.symm)
        have sz_b1278 : h0.size ≤ b1278 := Nat.le_trans KK1272.1 (Nat.le_of_eq g1278.symm)
        have f1280 : Sta Z h1278 "java/lang/String" "COMPACT_STRINGS" "Z" (.int w) := f1273.ext E1278
        have f1281 : Sta Z h1278 "java/lang/Throwable" "UNASSIGNED_STACK" "[Ljava/lang/StackTraceElement;" (.ref u1) := f1274.ext E1278
        have f1282 : Sta Z h1278 "java/lang/Throwable" "SUPPRESSED_SENTINEL" "Ljava/util/List;" (.ref u2) := f1275.ext E1278
        have f1283 : Exa Z h1278 b1272 "java/lang/String" := ex_b1272.ext E1278
        have f1284 : Fld Z h1278 b1272 "java/lang/String" "coder" "B" (.int (0 : Int32)) := f1276.ext E1278
        have f1285 : Fld Z h1278 b1272 "java/lang/String" "value" "[B" .null := f1277.ext E1278
        have KK1278 : Keep h0 h1278 [] := KK1272.ext E1278
        have Z1278 := Nat.le_trans Z1272 E1278.1
        have hkk := Nat.le_trans hkk E1278.1
        have f1286 : Arv Z h1278 b1278 k1278 .char (2 : Int32) [(.int (0 : Int32)), (.int (0 : Int32))] (.int (0 : Int32)) := (Arv.new A1278 (by decide)).pad (pad_rep [] (.int (0 : Int32)) 2)
        show OEnds p.tables e below G (T1278.setTop (mkF m 124 #[.val (.int p1), .val (.int p2), .val (.int p3), .val (.int p4), .val (.ref ob_1001), .val (.int v1002), .val (.int v1003), .val (.ref b1004), .val (.int v1045), .val (.int v1046), .val (.int v1047), .unset, .unset, .unset, .unset] [(.ref b1278), (.ref b1272), (.ref b1272)]))
        refine OEnds.st (fun _ k => XS.dup X1278.here hx rfl (hb hby at_124) rfl rfl k) ?_
        show OEnds p.tables e below G (T1278.setTop (mkF m 125 #[.val (.int p1), .val (.int p2), .val (.int p3), .val (.int p4), .val (.ref ob_1001), .val (.int v1002), .val (.int v1003), .val (.ref b1004), .val (.int v1045), .val (.int v1046), .val (.int v1047), .unset, .unset, .unset, .unset] [(.ref b1278), (.ref b1278), (.ref b1272), (.ref b1272)]))
        refine OEnds.st (fun _ k => XS.iconst X1278.here hx rfl (hb hby at_125) k) ?_
        show OEnds p.tables e below G (T1278.setTop (mkF m 126 #[.val (.int p1), .val (.int p2), .val (.int p3), .val (.int p4), .val (.ref ob_1001), .val (.int v1002), .val (.int v1003), .val (.ref b1004), .val (.int v1045), .val (.int v1046), .val (.int v1047), .unset, .unset, .unset, .unset] [(.int (0 : Int32)), (.ref b1278), (.ref b1278), (.ref b1272), (.ref b1272)]))
        refine OEnds.st (fun _ k => XS.iload X1278.here hx rfl (hb hby at_126) rfl k) ?_
        show OEnds p.tables e below G (T1278.setTop (mkF m 128 #[.val (.int p1), .val (.int p2), .val (.int p3), .val (.int p4), .val (.ref ob_1001), .val (.int v1002), .val (.int v1003), .val (.ref b1004), .val (.int v1045), .val (.int v1046), .val (.int v1047), .unset, .unset, .unset, .unset] [(.int v1046), (.int (0 : Int32)), (.ref b1278), (.ref b1278), (.ref b1272), (.ref b1272)]))
        obtain ⟨cl1287, Ar1287, q1287, S1287, N1287n, H1287, G1287⟩ := id f1286
        have hin1287 : ¬ ((0 : Int32) < 0 ∨ cl1287.slots.size ≤ ((0 : Int32)).toNatClampNeg) := inb_of S1287 ⟨by decide, by decide⟩
        obtain ⟨T1287, h1287, X1287, e1287, W1287, st1287⟩ := stC X1278 hx hZ e1278 Ar1287 (j := (0 : Int32)) hin1287 (g := (mkF m 128 #[.val (.int p1), .val (.int p2), .val (.int p3), .val (.int p4), .val (.ref ob_1001), .val (.int v1002), .val (.int v1003), .val (.ref b1004), .val (.int v1045), .val (.int v1046), .val (.int v1047), .unset, .unset, .unset, .unset] [(.int v1046), (.int (0 : Int32)), (.ref b1278), (.ref b1278), (.ref b1272), (.ref b1272)])) rfl rfl (hb hby at_128)
        refine OEnds.st st1287 ?_
        clear st1287
        have f1288 : Arv Z h1287 b1278 k1278 .char (2 : Int32) [(.int (nar .char v1046)), (.int (0 : Int32))] (.int (0 : Int32)) := Arv.set Ar1287 q1287 S1287 N1287n H1287 G1287 (fits_nar_char _) W1287 0 rfl (Nat.le_of_ble_eq_true rfl)
        have f1289 : Sta Z h1287 "java/lang/String" "COMPACT_STRINGS" "Z" (.int w) := f1280.wr W1287
        have f1290 : Sta Z h1287 "java/lang/Throwable" "UNASSIGNED_STACK" "[Ljava/lang/StackTraceElement;" (.ref u1) := f1281.wr W1287
        have f1291 : Sta Z h1287 "java/lang/Throwable" "SUPPRESSED_SENTINEL" "Ljava/util/List;" (.ref u2) := f1282.wr W1287
        have f1292 : Exa Z h1287 b1272 "java/lang/String" := f1283.wr W1287
        have f1293 : Fld Z h1287 b1272 "java/lang/String" "coder" "B" (.int (0 : Int32)) := f1284.other W1287 (Or.inl ne1279)
        have f1294 : Fld Z h1287 b1272 "java/lang/String" "value" "[B" .null := f1285.other W1287 (Or.inl ne1279)
        have N1287 := Fr.snoc X1287 N1035 ge_b1278
        have KK1287 : Keep h0 h1287 [] := KK1278.wr W1287 (Or.inr sz_b1278)
        have Z1287 := Nat.le_trans Z1278 (Keep.of_wr W1287).1
        have hkk := Nat.le_trans hkk (Keep.of_wr W1287).1
        show OEnds p.tables e below G (T1287.setTop (mkF m 129 #[.val (.int p1), .val (.int p2), .val (.int p3), .val (.int p4), .val (.ref ob_1001), .val (.int v1002), .val (.int v1003), .val (.ref b1004), .val (.int v1045), .val (.int v1046), .val (.int v1047), .unset, .unset, .unset, .unset] [(.ref b1278), (.ref b1272), (.ref b1272)]))
        refine OEnds.st (fun _ k => XS.dup X1287.here hx rfl (hb hby at_129) rfl rfl k) ?_
        show OEnds p.tables e below G (T1287.setTop (mkF m 130 #[.val (.int p1), .val (.int p2), .val (.int p3), .val (.int p4), .val (.ref ob_1001), .val (.int v1002), .val (.int v1003), .val (.ref b1004), .val (.int v1045), .val (.int v1046), .val (.int v1047), .unset, .unset, .unset, .unset] [(.ref b1278), (.ref b1278), (.ref b1272), (.ref b1272)]))
        refine OEnds.st (fun _ k => XS.iconst X1287.here hx rfl (hb hby at_130) k) ?_
        show OEnds p.tables e below G (T1287.setTop (mkF m 131 #[.val (.int p1), .val (.int p2), .val (.int p3), .val (.int p4), .val (.ref ob_1001), .val (.int v1002), .val (.int v1003), .val (.ref b1004), .val (.int v1045), .val (.int v1046), .val (.int v1047), .unset, .unset, .unset, .unset] [(.int (1 : Int32)), (.ref b1278), (.ref b1278), (.ref b1272), (.ref b1272)]))
        refine OEnds.st (fun _ k => XS.iload X1287.here hx rfl (hb hby at_131) rfl k) ?_
        show OEnds p.tables e below G (T1287.setTop (mkF m 133 #[.val (.int p1), .val (.int p2), .val (.int p3), .val (.int p4), .val (.ref ob_1001), .val (.int v1002), .val (.int v1003), .val (.ref b1004), .val (.int v1045), .val (.int v1046), .val (.int v1047), .unset, .unset, .unset, .unset] [(.int v1047), (.int (1 : Int32)), (.ref b1278), (.ref b1278), (.ref b1272), (.ref b1272)]))
        obtain ⟨cl1295, Ar1295, q1295, S1295, N1295n, H1295, G1295⟩ := id f1288
        have hin1295 : ¬ ((1 : Int32) < 0 ∨ cl1295.slots.size ≤ ((1 : Int32)).toNatClampNeg) := inb_of S1295 ⟨by decide, by decide⟩
        obtain ⟨T1295, h1295, X1295, e1295, W1295, st1295⟩ := stC X1287 hx hZ e1287 Ar1295 (j := (1 : Int32)) hin1295 (g := (mkF m 133 #[.val (.int p1), .val (.int p2), .val (.int p3), .val (.int p4), .val (.ref ob_1001), .val (.int v1002), .val (.int v1003), .val (.ref b1004), .val (.int v1045), .val (.int v1046), .val (.int v1047), .unset, .unset, .unset, .unset] [(.int v1047), (.int (1 : Int32)), (.ref b1278), (.ref b1278), (.ref b1272), (.ref b1272)])) rfl rfl (hb hby at_133)
        refine OEnds.st st1295 ?_
        clear st1295
        have f1296 : Arv Z h1295 b1278 k1278 .char (2 : Int32) [(.int (nar .char v1046)), (.int (nar .char v1047))] (.int (0 : Int32)) := Arv.set Ar1295 q1295 S1295 N1295n H1295 G1295 (fits_nar_char _) W1295 1 rfl (Nat.le_of_ble_eq_true rfl)
        have f1297 : Sta Z h1295 "java/lang/String" "COMPACT_STRINGS" "Z" (.int w) := f1289.wr W1295
        have f1298 : Sta Z h1295 "java/lang/Throwable" "UNASSIGNED_STACK" "[Ljava/lang/StackTraceElement;" (.ref u1) := f1290.wr W1295
        have f1299 : Sta Z h1295 "java/lang/Throwable" "SUPPRESSED_SENTINEL" "Ljava/util/List;" (.ref u2) := f1291.wr W1295
        have f1300 : Exa Z h1295 b1272 "java/lang/String" := f1292.wr W1295
        have f1301 : Fld Z h1295 b1272 "java/lang/String" "coder" "B" (.int (0 : Int32)) := f1293.other W1295 (Or.inl ne1279)
        have f1302 : Fld Z h1295 b1272 "java/lang/String" "value" "[B" .null := f1294.other W1295 (Or.inl ne1279)
        have N1295 := Fr.snoc X1295 N1287 ge_b1278
        have KK1295 : Keep h0 h1295 [] := KK1287.wr W1295 (Or.inr sz_b1278)
        have Z1295 := Nat.le_trans Z1287 (Keep.of_wr W1295).1
        have hkk := Nat.le_trans hkk (Keep.of_wr W1295).1
        show OEnds p.tables e below G (T1295.setTop (mkF m 134 #[.val (.int p1), .val (.int p2), .val (.int p3), .val (.int p4), .val (.ref ob_1001), .val (.int v1002), .val (.int v1003), .val (.ref b1004), .val (.int v1045), .val (.int v1046), .val (.int v1047), .unset, .unset, .unset, .unset] [(.ref b1278), (.ref b1272), (.ref b1272)]))
        obtain ⟨_, _, ⟨T1303, L1303, k1303c, n1303c⟩, -, X1303, ⟨Lc1303, hQ1303, l1303, y1303, z1303⟩, st1303⟩ := X1295.specialBack hx (y := (⟨"java/lang/String", "<init>", "([C)V"⟩ : MethodName)) rfl hown (mvT hZ (hw _ (List.mem_of_getElem? (i := 12) rfl))) (mvT hZ (hw _ (List.mem_of_getElem? (i := 13) rfl))) (mvT hZ (hw _ (List.mem_of_getElem? (i := 14) rfl))) (by decide) (backOf (W := 1) (rm2 l Z a0 hw [] b1272 b1278 w k1278 (nar .char v1046) (nar .char v1047) h1295 n0 Z1295 f1300 f1302 f1301 f1296 f1297 ge_b1272 (Ne.symm ne1279) hw0 (by rw [← hv_v1046]; exact own_ch _) (by rw [← hv_v1047]; exact own_ch _)) hZ (hw _ (List.mem_of_getElem? (i := 14) rfl)) (hw _ (List.mem_of_getElem? (i := 10) rfl)) (by decide) (by decide)) (g := (mkF m 134 #[.val (.int p1), .val (.int p2), .val (.int p3), .val (.int p4), .val (.ref ob_1001), .val (.int v1002), .val (.int v1003), .val (.ref b1004), .val (.int v1045), .val (.int v1046), .val (.int v1047), .unset, .unset, .unset, .unset] [(.ref b1278), (.ref b1272), (.ref b1272)])) rfl (by rw [hml]; rfl) (Steps.refl _) (a := b1272) (argsL := [(.ref b1278)]) (rest := [(.ref b1272)]) (lenOf pd_10 rfl) rfl (by show 2 * 0 + _ ≤ _; exact Nat.le_of_eq rfl) (hb hby at_134) (fun _ _ => ⟨rfl, e1295, (by decide : 0 + 0 + 1 + 1 + 1 + 1 + 1 + 1 ≤ _), (by decide : 0 + 0 + 4 + 2 + 2 + 4 + 2 + 2 ≤ _)⟩)
        dsimp only [Pt.U, Pt.locs, Pt.cells, Pt.slots] at X1303 l1303 y1303 z1303 st1303 hQ1303
        subst l1303 y1303 z1303
        obtain ⟨rfl, N1303q, p1304, p1305⟩ := hQ1303
        have N1303 := Fr.app N1295 N1303q
        refine OEnds.st (fun _ k => st1303.trans k) ?_
        clear st1303
        have f1306 : Sta Z T1303.heap "java/lang/String" "COMPACT_STRINGS" "Z" (.int w) := own_Sta_keep f1297 p1304 (fun x hx => by cases List.mem_singleton.mp hx; exact own_exa_ns f1300)
        have f1307 : Sta Z T1303.heap "java/lang/Throwable" "UNASSIGNED_STACK" "[Ljava/lang/StackTraceElement;" (.ref u1) := own_Sta_keep f1298 p1304 (fun x hx => by cases List.mem_singleton.mp hx; exact own_exa_ns f1300)
        have f1308 : Sta Z T1303.heap "java/lang/Throwable" "SUPPRESSED_SENTINEL" "Ljava/util/List;" (.ref u2) := own_Sta_keep f1299 p1304 (fun x hx => by cases List.mem_singleton.mp hx; exact own_exa_ns f1300)
        have f1309 : Exa Z T1303.heap b1272 "java/lang/String" := f1300.keep p1304
        have f1312 : Arv Z T1303.heap b1278 k1278 .char (2 : Int32) [(.int (nar .char v1046)), (.int (nar .char v1047))] (.int (0 : Int32)) := f1296.keep p1304 (by simp only [List.mem_cons, List.not_mem_nil, or_false, not_or]; exact (Ne.symm ne1279))
        have KK1303 : Keep h0 T1303.heap [] := KK1295.trans p1304 (fun x hx => by cases List.mem_singleton.mp hx; exact Or.inr sz_b1272)
        have Z1303 := Nat.le_trans Z1295 p1304.1
        have hkk := Nat.le_trans hkk p1304.1
        show OEnds p.tables e below G (T1303.setTop (mkF m 137 #[.val (.int p1), .val (.int p2), .val (.int p3), .val (.int p4), .val (.ref ob_1001), .val (.int v1002), .val (.int v1003), .val (.ref b1004), .val (.int v1045), .val (.int v1046), .val (.int v1047), .unset, .unset, .unset, .unset] [(.ref b1272)]))
        refine OEnds.st (fun _ k => XS.astore X1303.here hx rfl (hb hby at_137) rfl rfl (l' := #[.val (.int p1), .val (.int p2), .val (.int p3), .val (.int p4), .val (.ref ob_1001), .val (.int v1002), .val (.int v1003), .val (.ref b1004), .val (.int v1045), .val (.int v1046), .val (.int v1047), .val (.ref b1272), .unset, .unset, .unset]) rfl k) ?_
        show OEnds p.tables e below G (T1303.setTop (mkF m 139 #[.val (.int p1), .val (.int p2), .val (.int p3), .val (.int p4), .val (.ref ob_1001), .val (.int v1002), .val (.int v1003), .val (.ref b1004), .val (.int v1045), .val (.int v1046), .val (.int v1047), .val (.ref b1272), .unset, .unset, .unset] []))
        obtain ⟨T1313, h1313, X1313, e1313, E1313, A1313, D1313, U1313, st1313⟩ := newO X1303 hx hZ hown (hw _ (List.mem_of_getElem? (i := 52) rfl)) (hw _ (List.mem_of_getElem? (i := 53) rfl)) (hw _ (List.mem_of_getElem? (i := 54) rfl)) rfl (g := (mkF m 139 #[.val (.int p1), .val (.int p2), .val (.int p3), .val (.int p4), .val (.ref ob_1001), .val (.int v1002), .val (.int v1003), .val (.ref b1004), .val (.int v1045), .val (.int v1046), .val (.int v1047), .val (.ref b1272), .unset, .unset, .unset] [])) rfl (hb hby at_139) (by decide) (by decide)
        obtain ⟨b1313, g1313⟩ : ∃ z, z = T1303.heap.size := ⟨_, rfl⟩
        rw [← g1313] at A1313 D1313 st1313 U1313
        refine OEnds.st st1313 ?_
        clear st1313
        have ge_b1313 : n0 ≤ b1313 := Nat.le_trans Z1303 (Nat.le_of_eq g1313.symm)
        have sz_b1313 : h0.size ≤ b1313 := Nat.le_trans KK1303.1 (Nat.le_of_eq g1313.symm)
        have f1314 : Sta Z h1313 "java/lang/String" "COMPACT_STRINGS" "Z" (.int w) := f1306.ext E1313
        have f1315 : Sta Z h1313 "java/lang/Throwable" "UNASSIGNED_STACK" "[Ljava/lang/StackTraceElement;" (.ref u1) := f1307.ext E1313
        have f1316 : Sta Z h1313 "java/lang/Throwable" "SUPPRESSED_SENTINEL" "Ljava/util/List;" (.ref u2) := f1308.ext E1313
        have KK1313 : Keep h0 h1313 [] := KK1303.ext E1313
        have Z1313 := Nat.le_trans Z1303 E1313.1
        have hkk := Nat.le_trans hkk E1313.1
        have un_b1313 : Unt h1313 b1313 := U1313
        have ex_b1313 := A1313
        have f1317 : Fld Z h1313 b1313 "java/lang/Throwable" "cause" "Ljava/lang/Throwable;" .null := D1313 (Or.inl (hw _ (List.mem_of_getElem? (i := 71) rfl))) (ty := (.object "java/lang/Throwable")) (by decide)
        have f1318 : Fld Z h1313 b1313 "java/lang/Throwable" "stackTrace" "[Ljava/lang/StackTraceElement;" .null := D1313 (Or.inl (hw _ (List.mem_of_getElem? (i := 74) rfl))) (ty := (.array (.object "java/lang/StackTraceElement"))) (by decide)
        have f1319 : Fld Z h1313 b1313 "java/lang/Throwable" "suppressedExceptions" "Ljava/util/List;" .null := D1313 (Or.inl (hw _ (List.mem_of_getElem? (i := 77) rfl))) (ty := (.object "java/util/List")) (by decide)
        have f1320 : Fld Z h1313 b1313 "java/lang/Throwable" "detailMessage" "Ljava/lang/String;" .null := D1313 (Or.inl (hw _ (List.mem_of_getElem? (i := 101) rfl))) (ty := (.object "java/lang/String")) (by decide)
        have f1321 : Fld Z h1313 b1313 "java/lang/Throwable" "backtrace" "Ljava/lang/Object;" .null := D1313 (Or.inl (hw _ (List.mem_of_getElem? (i := 102) rfl))) (ty := (.object "java/lang/Object")) (by decide)
        have f1322 : Fld Z h1313 b1313 "java/lang/Throwable" "depth" "I" (.int (0 : Int32)) := D1313 (Or.inl (hw _ (List.mem_of_getElem? (i := 103) rfl))) (ty := .int) (by decide)
        have f1323 : Fld Z h1313 b1313 "com/example/coracle_health/coraclehealth/oauth/TokenError" "code" "Lcom/example/coracle_health/coraclehealth/oauth/TokenError$Code;" .null := D1313 (Or.inr (hw _ (List.mem_of_getElem? (i := 107) rfl))) (ty := (.object "com/example/coracle_health/coraclehealth/oauth/TokenError$Code")) (by decide)
        have f1324 : Fld Z h1313 b1313 "com/example/coracle_health/coraclehealth/oauth/TokenError" "challenge" "Ljava/lang/String;" .null := D1313 (Or.inr (hw _ (List.mem_of_getElem? (i := 109) rfl))) (ty := (.object "java/lang/String")) (by decide)
        show OEnds p.tables e below G (T1313.setTop (mkF m 142 #[.val (.int p1), .val (.int p2), .val (.int p3), .val (.int p4), .val (.ref ob_1001), .val (.int v1002), .val (.int v1003), .val (.ref b1004), .val (.int v1045), .val (.int v1046), .val (.int v1047), .val (.ref b1272), .unset, .unset, .unset] [(.ref b1313)]))
        refine OEnds.st (fun _ k => XS.dup X1313.here hx rfl (hb hby at_142) rfl rfl k) ?_
        show OEnds p.tables e below G (T1313.setTop (mkF m 143 #[.val (.int p1), .val (.int p2), .val (.int p3), .val (.int p4), .val (.ref ob_1001), .val (.int v1002), .val (.int v1003), .val (.ref b1004), .val (.int v1045), .val (.int v1046), .val (.int v1047), .val (.ref b1272), .unset, .unset, .unset] [(.ref b1313), (.ref b1313)]))
        refine OEnds.st (fun _ k => XS.aload X1313.here hx rfl (hb hby at_143) rfl rfl k) ?_
        show OEnds p.tables e below G (T1313.setTop (mkF m 145 #[.val (.int p1), .val (.int p2), .val (.int p3), .val (.int p4), .val (.ref ob_1001), .val (.int v1002), .val (.int v1003), .val (.ref b1004), .val (.int v1045), .val (.int v1046), .val (.int v1047), .val (.ref b1272), .unset, .unset, .unset] [(.ref ob_1001), (.ref b1313), (.ref b1313)]))
        refine OEnds.st (fun _ k => XS.aload X1313.here hx rfl (hb hby at_145) rfl rfl k) ?_
        show OEnds p.tables e below G (T1313.setTop (mkF m 147 #[.val (.int p1), .val (.int p2), .val (.int p3), .val (.int p4), .val (.ref ob_1001), .val (.int v1002), .val (.int v1003), .val (.ref b1004), .val (.int v1045), .val (.int v1046), .val (.int v1047), .val (.ref b1272), .unset, .unset, .unset] [(.ref b1004), (.ref ob_1001), (.ref b1313), (.ref b1313)]))
        refine OEnds.st (fun _ k => XS.aload X1313.here hx rfl (hb hby at_147) rfl rfl k) ?_
        show OEnds p.tables e below G (T1313.setTop (mkF m 149 #[.val (.int p1), .val (.int p2), .val (.int p3), .val (.int p4), .val (.ref ob_1001), .val (.int v1002), .val (.int v1003), .val (.ref b1004), .val (.int v1045), .val (.int v1046), .val (.int v1047), .val (.ref b1272), .unset, .unset, .unset] [(.ref b1272), (.ref b1004), (.ref ob_1001), (.ref b1313), (.ref b1313)]))
        obtain ⟨_, _, ⟨T1325, L1325, k1325c, n1325c⟩, -, X1325, ⟨Lc1325, hQ1325, l1325, y1325, z1325⟩, st1325⟩ := X1313.specialBack hx (y := (⟨"com/example/coracle_health/coraclehealth/oauth/TokenError", "<init>", "(Lcom/example/coracle_health/coraclehealth/oauth/TokenError$Code;Ljava/lang/String;Ljava/lang/String;)V"⟩ : MethodName)) rfl hown (mvT hZ (hw _ (List.mem_of_getElem? (i := 55) rfl))) (mvT hZ (hw _ (List.mem_of_getElem? (i := 56) rfl))) (mvT hZ (hw _ (List.mem_of_getElem? (i := 57) rfl))) (by decide) (backOfKL (W := 1) (rmti1 l Z a0 hw [] b1313 ob_1001 b1004 b1272 u1 u2 h1313 n0 Z1313 (ThS.keep KK1313 (fun x hx => absurd hx List.not_mem_nil) TS) un_b1313 ex_b1313 f1321 f1320 f1317 f1318 f1319 f1315 f1316 ge_b1313 hl) hZ (hw _ (List.mem_of_getElem? (i := 57) rfl)) (hw _ (List.mem_of_getElem? (i := 54) rfl)) (by decide) (by decide) hTK hBel) (g := (mkF m 149 #[.val (.int p1), .val (.int p2), .val (.int p3), .val (.int p4), .val (.ref ob_1001), .val (.int v1002), .val (.int v1003), .val (.ref b1004), .val (.int v1045), .val (.int v1046), .val (.int v1047), .val (.ref b1272), .unset, .unset, .unset] [(.ref b1272), (.ref b1004), (.ref ob_1001), (.ref b1313), (.ref b1313)])) rfl (by rw [hml]; rfl) (Steps.refl _) (a := b1313) (argsL := [(.ref ob_1001), (.ref b1004), (.ref b1272)]) (rest := [(.ref b1313)]) (lenOf pd_8 rfl) rfl (by show 2 * 0 + _ ≤ _; exact Nat.le_of_eq rfl) (hb hby at_149) (fun _ _ => ⟨rfl, e1313, (by decide : 0 + 0 + 1 + 1 + 1 + 1 + 1 + 1 + 1 + 1 ≤ _), (by decide : 0 + 0 + 4 + 2 + 2 + 4 + 2 + 2 + 8 + 2752 ≤ _)⟩)
        dsimp only [Pt.U, Pt.locs, Pt.cells, Pt.slots] at X1325 l1325 y1325 z1325 st1325 hQ1325
        subst l1325 y1325 z1325
        obtain ⟨rfl, N1325q, p1326, p1327, p1328⟩ := hQ1325
        have N1325 := Fr.app N1303 N1325q
        refine OEnds.st (fun _ k => st1325.trans k) ?_
        clear st1325
        have f1329 : Sta Z T1325.heap "java/lang/String" "COMPACT_STRINGS" "Z" (.int w) := own_Sta_keep f1314 p1326 (fun x hx => by cases List.mem_singleton.mp hx; exact own_exa_ns ex_b1313)
        have f1330 : Sta Z T1325.heap "java/lang/Throwable" "UNASSIGNED_STACK" "[Ljava/lang/StackTraceElement;" (.ref u1) := own_Sta_keep f1315 p1326 (fun x hx => by cases List.mem_singleton.mp hx; exact own_exa_ns ex_b1313)
        have f1331 : Sta Z T1325.heap "java/lang/Throwable" "SUPPRESSED_SENTINEL" "Ljava/util/List;" (.ref u2) := own_Sta_keep f1316 p1326 (fun x hx => by cases List.mem_singleton.mp hx; exact own_exa_ns ex_b1313)
        have f1332 : Exa Z T1325.heap b1313 "com/example/coracle_health/coraclehealth/oauth/TokenError" := ex_b1313.keep p1326
        have KK1325 : Keep h0 T1325.heap [] := KK1313.trans p1326 (fun x hx => by cases List.mem_singleton.mp hx; exact Or.inr sz_b1313)
        have Z1325 := Nat.le_trans Z1313 p1326.1
        have hkk := Nat.le_trans hkk p1326.1
        show OEnds p.tables e below G (T1325.setTop (mkF m 152 #[.val (.int p1), .val (.int p2), .val (.int p3), .val (.int p4), .val (.ref ob_1001), .val (.int v1002), .val (.int v1003), .val (.ref b1004), .val (.int v1045), .val (.int v1046), .val (.int v1047), .val (.ref b1272), .unset, .unset, .unset] [(.ref b1313)]))
        refine OEnds.st (fun _ k => XS.astore X1325.here hx rfl (hb hby at_152) rfl rfl (l' := #[.val (.int p1), .val (.int p2), .val (.int p3), .val (.int p4), .val (.ref ob_1001), .val (.int v1002), .val (.int v1003), .val (.ref b1004), .val (.int v1045), .val (.int v1046), .val (.int v1047), .val (.ref b1272), .val (.ref b1313), .unset, .unset]) rfl k) ?_
        show OEnds p.tables e below G (T1325.setTop (mkF m 154 #[.val (.int p1), .val (.int p2), .val (.int p3), .val (.int p4), .val (.ref ob_1001), .val (.int v1002), .val (.int v1003), .val (.ref b1004), .val (.int v1045), .val (.int v1046), .val (.int v1047), .val (.ref b1272), .val (.ref b1313), .unset, .unset] []))
        obtain ⟨T1341, h1341, X1341, e1341, E1341, A1341, D1341, U1341, st1341⟩ := newO X1325 hx hZ hown (hw _ (List.mem_of_getElem? (i := 52) rfl)) (hw _ (List.mem_of_getElem? (i := 53) rfl)) (hw _ (List.mem_of_getElem? (i := 54) rfl)) rfl (g := (mkF m 154 #[.val (.int p1), .val (.int p2), .val (.int p3), .val (.int p4), .val (.ref ob_1001), .val (.int v1002), .val (.int v1003), .val (.ref b1004), .val (.int v1045), .val (.int v1046), .val (.int v1047), .val (.ref b1272), .val (.ref b1313), .unset, .unset] [])) rfl (hb hby at_154) (by decide) (by decide)
        obtain ⟨b1341, g1341⟩ : ∃ z, z = T1325.heap.size := ⟨_, rfl⟩
        rw [← g1341] at A1341 D1341 st1341 U1341
        refine OEnds.st st1341 ?_
        clear st1341
        have ne1342 : b1313 ≠ b1341 := Nat.ne_of_lt (Nat.lt_of_lt_of_le (p1327).lt (Nat.le_of_eq g1341.symm))
        have ge_b1341 : n0 ≤ b1341 := Nat.le_trans Z1325 (Nat.le_of_eq g1341.symm)
        have sz_b1341 : h0.size ≤ b1341 := Nat.le_trans KK1325.1 (Nat.le_of_eq g1341.symm)
        have f1343 : Sta Z h1341 "java/lang/String" "COMPACT_STRINGS" "Z" (.int w) := f1329.ext E1341
        have f1344 : Sta Z h1341 "java/lang/Throwable" "UNASSIGNED_STACK" "[Ljava/lang/StackTraceElement;" (.ref u1) := f1330.ext E1341
        have f1345 : Sta Z h1341 "java/lang/Throwable" "SUPPRESSED_SENTINEL" "Ljava/util/List;" (.ref u2) := f1331.ext E1341
        have f1346 : Exa Z h1341 b1313 "com/example/coracle_health/coraclehealth/oauth/TokenError" := p1327.ext E1341
        have f1347 : Fld Z h1341 b1313 "com/example/coracle_health/coraclehealth/oauth/TokenError" "challenge" "Ljava/lang/String;" (.ref b1272) := p1328.ext E1341
        have KK1341 : Keep h0 h1341 [] := KK1325.ext E1341
        have Z1341 := Nat.le_trans Z1325 E1341.1
        have hkk := Nat.le_trans hkk E1341.1
        have un_b1341 : Unt h1341 b1341 := U1341
        have ex_b1341 := A1341
        have f1348 : Fld Z h1341 b1341 "java/lang/Throwable" "cause" "Ljava/lang/Throwable;" .null := D1341 (Or.inl (hw _ (List.mem_of_getElem? (i := 71) rfl))) (ty := (.object "java/lang/Throwable")) (by decide)
        have f1349 : Fld Z h1341 b1341 "java/lang/Throwable" "stackTrace" "[Ljava/lang/StackTraceElement;" .null := D1341 (Or.inl (hw _ (List.mem_of_getElem? (i := 74) rfl))) (ty := (.array (.object "java/lang/StackTraceElement"))) (by decide)
        have f1350 : Fld Z h1341 b1341 "java/lang/Throwable" "suppressedExceptions" "Ljava/util/List;" .null := D1341 (Or.inl (hw _ (List.mem_of_getElem? (i := 77) rfl))) (ty := (.object "java/util/List")) (by decide)
        have f1351 : Fld Z h1341 b1341 "java/lang/Throwable" "detailMessage" "Ljava/lang/String;" .null := D1341 (Or.inl (hw _ (List.mem_of_getElem? (i := 101) rfl))) (ty := (.object "java/lang/String")) (by decide)
        have f1352 : Fld Z h1341 b1341 "java/lang/Throwable" "backtrace" "Ljava/lang/Object;" .null := D1341 (Or.inl (hw _ (List.mem_of_getElem? (i := 102) rfl))) (ty := (.object "java/lang/Object")) (by decide)
        have f1353 : Fld Z h1341 b1341 "java/lang/Throwable" "depth" "I" (.int (0 : Int32)) := D1341 (Or.inl (hw _ (List.mem_of_getElem? (i := 103) rfl))) (ty := .int) (by decide)
        have f1354 : Fld Z h1341 b1341 "com/example/coracle_health/coraclehealth/oauth/TokenError" "code" "Lcom/example/coracle_health/coraclehealth/oauth/TokenError$Code;" .null := D1341 (Or.inr (hw _ (List.mem_of_getElem? (i := 107) rfl))) (ty := (.object "com/example/coracle_health/coraclehealth/oauth/TokenError$Code")) (by decide)
        have f1355 : Fld Z h1341 b1341 "com/example/coracle_health/coraclehealth/oauth/TokenError" "challenge" "Ljava/lang/String;" .null := D1341 (Or.inr (hw _ (List.mem_of_getElem? (i := 109) rfl))) (ty := (.object "java/lang/String")) (by decide)
        show OEnds p.tables e below G (T1341.setTop (mkF m 157 #[.val (.int p1), .val (.int p2), .val (.int p3), .val (.int p4), .val (.ref ob_1001), .val (.int v1002), .val (.int v1003), .val (.ref b1004), .val (.int v1045), .val (.int v1046), .val (.int v1047), .val (.ref b1272), .val (.ref b1313), .unset, .unset] [(.ref b1341)]))
        refine OEnds.st (fun _ k => XS.dup X1341.here hx rfl (hb hby at_157) rfl rfl k) ?_
        show OEnds p.tables e below G (T1341.setTop (mkF m 158 #[.val (.int p1), .val (.int p2), .val (.int p3), .val (.int p4), .val (.ref ob_1001), .val (.int v1002), .val (.int v1003), .val (.ref b1004), .val (.int v1045), .val (.int v1046), .val (.int v1047), .val (.ref b1272), .val (.ref b1313), .unset, .unset] [(.ref b1341), (.ref b1341)]))
        refine OEnds.st (fun _ k => XS.aload X1341.here hx rfl (hb hby at_158) rfl rfl k) ?_
        show OEnds p.tables e below G (T1341.setTop (mkF m 160 #[.val (.int p1), .val (.int p2), .val (.int p3), .val (.int p4), .val (.ref ob_1001), .val (.int v1002), .val (.int v1003), .val (.ref b1004), .val (.int v1045), .val (.int v1046), .val (.int v1047), .val (.ref b1272), .val (.ref b1313), .unset, .unset] [(.ref ob_1001), (.ref b1341), (.ref b1341)]))
        refine OEnds.st (fun _ k => XS.aload X1341.here hx rfl (hb hby at_160) rfl rfl k) ?_
        show OEnds p.tables e below G (T1341.setTop (mkF m 162 #[.val (.int p1), .val (.int p2), .val (.int p3), .val (.int p4), .val (.ref ob_1001), .val (.int v1002), .val (.int v1003), .val (.ref b1004), .val (.int v1045), .val (.int v1046), .val (.int v1047), .val (.ref b1272), .val (.ref b1313), .unset, .unset] [(.ref b1004), (.ref ob_1001), (.ref b1341), (.ref b1341)]))
        obtain ⟨_, _, ⟨T1356, L1356, k1356c, n1356c⟩, -, X1356, ⟨Lc1356, hQ1356, l1356, y1356, z1356⟩, st1356⟩ := X1341.specialBack hx (y := (⟨"com/example/coracle_health/coraclehealth/oauth/TokenError", "<init>", "(Lcom/example/coracle_health/coraclehealth/oauth/TokenError$Code;Ljava/lang/String;)V"⟩ : MethodName)) rfl hown (mvT hZ (hw _ (List.mem_of_getElem? (i := 110) rfl))) (mvT hZ (hw _ (List.mem_of_getElem? (i := 111) rfl))) (mvT hZ (hw _ (List.mem_of_getElem? (i := 112) rfl))) (by decide) (backOfKL (W := 1) (rmt2 l Z a0 hw [] b1341 ob_1001 b1004 u1 u2 h1341 n0 Z1341 (ThS.keep KK1341 (fun x hx => absurd hx List.not_mem_nil) TS) un_b1341 ex_b1341 f1352 f1351 f1348 f1349 f1350 f1344 f1345 ge_b1341 hl) hZ (hw _ (List.mem_of_getElem? (i := 112) rfl)) (hw _ (List.mem_of_getElem? (i := 54) rfl)) (by decide) (by decide) hTK hBel) (g := (mkF m 162 #[.val (.int p1), .val (.int p2), .val (.int p3), .val (.int p4), .val (.ref ob_1001), .val (.int v1002), .val (.int v1003), .val (.ref b1004), .val (.int v1045), .val (.int v1046), .val (.int v1047), .val (.ref b1272), .val (.ref b1313), .unset, .unset] [(.ref b1004), (.ref ob_1001), (.ref b1341), (.ref b1341)])) rfl (by rw [hml]; rfl) (Steps.refl _) (a := b1341) (argsL := [(.ref ob_1001), (.ref b1004)]) (rest := [(.ref b1341)]) (lenOf pd_11 rfl) rfl (by show 2 * 0 + _ ≤ _; exact Nat.le_of_eq rfl) (hb hby at_162) (fun _ _ => ⟨rfl, e1341, (by decide : 0 + 0 + 1 + 1 + 1 + 1 + 1 + 1 + 1 + 1 + 1 + 1 ≤ _), (by decide : 0 + 0 + 4 + 2 + 2 + 4 + 2 + 2 + 8 + 2752 + 8 + 2752 ≤ _)⟩)
        dsimp only [Pt.U, Pt.locs, Pt.cells, Pt.slots] at X1356 l1356 y1356 z1356 st1356 hQ1356
        subst l1356 y1356 z1356
        obtain ⟨rfl, N1356q, p1357, p1358, p1359⟩ := hQ1356
        have N1356 := Fr.app N1325 N1356q
        refine OEnds.st (fun _ k => st1356.trans k) ?_
        clear st1356
        have f1360 : Sta Z T1356.heap "java/lang/String" "COMPACT_STRINGS" "Z" (.int w) := own_Sta_keep f1343 p1357 (fun x hx => by cases List.mem_singleton.mp hx; exact own_exa_ns ex_b1341)
        have f1361 : Sta Z T1356.heap "java/lang/Throwable" "UNASSIGNED_STACK" "[Ljava/lang/StackTraceElement;" (.ref u1) := own_Sta_keep f1344 p1357 (fun x hx => by cases List.mem_singleton.mp hx; exact own_exa_ns ex_b1341)
        have f1362 : Sta Z T1356.heap "java/lang/Throwable" "SUPPRESSED_SENTINEL" "Ljava/util/List;" (.ref u2) := own_Sta_keep f1345 p1357 (fun x hx => by cases List.mem_singleton.mp hx; exact own_exa_ns ex_b1341)
        have f1363 : Exa Z T1356.heap b1313 "com/example/coracle_health/coraclehealth/oauth/TokenError" := f1346.keep p1357
        have f1364 : Fld Z T1356.heap b1313 "com/example/coracle_health/coraclehealth/oauth/TokenError" "challenge" "Ljava/lang/String;" (.ref b1272) := f1347.keep p1357 (by simp only [List.mem_cons, List.not_mem_nil, or_false, not_or]; exact ne1342)
        have f1365 : Exa Z T1356.heap b1341 "com/example/coracle_health/coraclehealth/oauth/TokenError" := ex_b1341.keep p1357
        have KK1356 : Keep h0 T1356.heap [] := KK1341.trans p1357 (fun x hx => by cases List.mem_singleton.mp hx; exact Or.inr sz_b1341)
        have Z1356 := Nat.le_trans Z1341 p1357.1
        have hkk := Nat.le_trans hkk p1357.1
        show OEnds p.tables e below G (T1356.setTop (mkF m 165 #[.val (.int p1), .val (.int p2), .val (.int p3), .val (.int p4), .val (.ref ob_1001), .val (.int v1002), .val (.int v1003), .val (.ref b1004), .val (.int v1045), .val (.int v1046), .val (.int v1047), .val (.ref b1272), .val (.ref b1313), .unset, .unset] [(.ref b1341)]))
        refine OEnds.st (fun _ k => XS.astore X1356.here hx rfl (hb hby at_165) rfl rfl (l' := #[.val (.int p1), .val (.int p2), .val (.int p3), .val (.int p4), .val (.ref ob_1001), .val (.int v1002), .val (.int v1003), .val (.ref b1004), .val (.int v1045), .val (.int v1046), .val (.int v1047), .val (.ref b1272), .val (.ref b1313), .val (.ref b1341), .unset]) rfl k) ?_
        show OEnds p.tables e below G (T1356.setTop (mkF m 167 #[.val (.int p1), .val (.int p2), .val (.int p3), .val (.int p4), .val (.ref ob_1001), .val (.int v1002), .val (.int v1003), .val (.ref b1004), .val (.int v1045), .val (.int v1046), .val (.int v1047), .val (.ref b1272), .val (.ref b1313), .val (.ref b1341), .unset] []))
        refine OEnds.st (fun _ k => XS.iload X1356.here hx rfl (hb hby at_167) rfl k) ?_
        show OEnds p.tables e below G (T1356.setTop (mkF m 169 #[.val (.int p1), .val (.int p2), .val (.int p3), .val (.int p4), .val (.ref ob_1001), .val (.int v1002), .val (.int v1003), .val (.ref b1004), .val (.int v1045), .val (.int v1046), .val (.int v1047), .val (.ref b1272), .val (.ref b1313), .val (.ref b1341), .unset] [(.int v1045)]))
        refine OEnds.st (fun _ k => XS.ifYes X1356.here hx rfl (pc0 := 169) (pc' := 180) rfl (hb hby at_169) rfl ((if0 _ _).trans (feq hc71_1048).2) (by decide) (by decide) k) ?_
        show OEnds p.tables e below G (T1356.setTop (mkF m 180 #[.val (.int p1), .val (.int p2), .val (.int p3), .val (.int p4), .val (.ref ob_1001), .val (.int v1002), .val (.int v1003), .val (.ref b1004), .val (.int v1045), .val (.int v1046), .val (.int v1047), .val (.ref b1272), .val (.ref b1313), .val (.ref b1341), .unset] []))
        refine OEnds.st (fun _ k => XS.sipush X1356.here hx rfl (hb hby at_180) k) ?_
        show OEnds p.tables e below G (T1356.setTop (mkF m 183 #[.val (.int p1), .val (.int p2), .val (.int p3), .val (.int p4), .val (.ref ob_1001), .val (.int v1002), .val (.int v1003), .val (.ref b1004), .val (.int v1045), .val (.int v1046), .val (.int v1047), .val (.ref b1272), .val (.ref b1313), .val (.ref b1341), .unset] [(.int (401 : Int32))]))
        refine OEnds.st (fun _ k => XS.istore X1356.here hx rfl (hb hby at_183) rfl (l' := #[.val (.int p1), .val (.int p2), .val (.int p3), .val (.int p4), .val (.ref ob_1001), .val (.int v1002), .val (.int v1003), .val (.ref b1004), .val (.int v1045), .val (.int v1046), .val (.int v1047), .val (.ref b1272), .val (.ref b1313), .val (.ref b1341), .val (.int (401 : Int32))]) rfl k) ?_
        show OEnds p.tables e below G (T1356.setTop (mkF m 185 #[.val (.int p1), .val (.int p2), .val (.int p3), .val (.int p4), .val (.ref ob_1001), .val (.int v1002), .val (.int v1003), .val (.ref b1004), .val (.int v1045), .val (.int v1046), .val (.int v1047), .val (.ref b1272), .val (.ref b1313), .val (.ref b1341), .val (.int (401 : Int32))] []))
        refine OEnds.st (fun _ k => XS.aload X1356.here hx rfl (hb hby at_185) rfl rfl k) ?_
        show OEnds p.tables e below G (T1356.setTop (mkF m 187 #[.val (.int p1), .val (.int p2), .val (.int p3), .val (.int p4), .val (.ref ob_1001), .val (.int v1002), .val (.int v1003), .val (.ref b1004), .val (.int v1045), .val (.int v1046), .val (.int v1047), .val (.ref b1272), .val (.ref b1313), .val (.ref b1341), .val (.int (401 : Int32))] [(.ref b1313)]))
        obtain ⟨cq1374, kq1374, q1374a, q1374b, q1374c⟩ := isOf hZ rfl f1363
        obtain ⟨_, _, ⟨T1374, L1374, k1374c, n1374c⟩, -, X1374, ⟨Lc1374, hQ1374, l1374, y1374, z1374⟩, st1374⟩ := X1356.virtualBack hx (y := (⟨"com/example/coracle_health/coraclehealth/oauth/TokenError", "status", "()I"⟩ : MethodName)) (z := (⟨"com/example/coracle_health/coraclehealth/oauth/TokenError", "status", "()I"⟩ : MethodName)) hown (mvT hZ (hw _ (List.mem_of_getElem? (i := 114) rfl))) (mvT hZ (hw _ (List.mem_of_getElem? (i := 115) rfl))) (notFace_of_selects (args := #[]) (mvT hZ (hw _ (List.mem_of_getElem? (i := 117) rfl)))) (mvT hZ (hw _ (List.mem_of_getElem? (i := 117) rfl))) (mvT hZ (hw _ (List.mem_of_getElem? (i := 116) rfl))) (by decide) (backOf (W := 0) (rmst1 l Z a0 hw [] b1313 b1272 T1356.heap n0 Z1356 f1364) hZ (hw _ (List.mem_of_getElem? (i := 118) rfl)) (hw _ (List.mem_of_getElem? (i := 54) rfl)) (by decide) (by decide)) q1374a q1374c (g := (mkF m 187 #[.val (.int p1), .val (.int p2), .val (.int p3), .val (.int p4), .val (.ref ob_1001), .val (.int v1002), .val (.int v1003), .val (.ref b1004), .val (.int v1045), .val (.int v1046), .val (.int v1047), .val (.ref b1272), .val (.ref b1313), .val (.ref b1341), .val (.int (401 : Int32))] [(.ref b1313)])) rfl (by rw [hml]; rfl) (Steps.refl _) (argsL := []) (rest := []) (lenOf pd_12 rfl) rfl (by show 2 * 0 + _ ≤ _; exact Nat.le_of_eq rfl) (hb hby at_187) (fun _ _ => ⟨rfl, rfl, (by decide : 0 + 0 + 1 + 1 + 1 + 1 + 1 + 1 + 1 + 1 + 1 + 1 + 0 ≤ _), (by decide : 0 + 0 + 4 + 2 + 2 + 4 + 2 + 2 + 8 + 2752 + 8 + 2752 + 0 ≤ _)⟩)
        dsimp only [Pt.U, Pt.locs, Pt.cells, Pt.slots] at X1374 l1374 y1374 z1374 st1374 hQ1374
        subst l1374 y1374 z1374
        obtain ⟨rfl, N1374q, e1374⟩ := hQ1374
        have N1374 := Fr.app N1356 N1374q
        refine OEnds.st (fun _ k => st1374.trans k) ?_
        clear st1374
        show OEnds p.tables e below G (T1374.setTop (mkF m 190 #[.val (.int p1), .val (.int p2), .val (.int p3), .val (.int p4), .val (.ref ob_1001), .val (.int v1002), .val (.int v1003), .val (.ref b1004), .val (.int v1045), .val (.int v1046), .val (.int v1047), .val (.ref b1272), .val (.ref b1313), .val (.ref b1341), .val (.int (401 : Int32))] [(.int (401 : Int32))]))
        refine OEnds.st (fun _ k => XS.iload X1374.here hx rfl (hb hby at_190) rfl k) ?_
        show OEnds p.tables e below G (T1374.setTop (mkF m 192 #[.val (.int p1), .val (.int p2), .val (.int p3), .val (.int p4), .val (.ref ob_1001), .val (.int v1002), .val (.int v1003), .val (.ref b1004), .val (.int v1045), .val (.int v1046), .val (.int v1047), .val (.ref b1272), .val (.ref b1313), .val (.ref b1341), .val (.int (401 : Int32))] [(.int (401 : Int32)), (.int (401 : Int32))]))
        refine OEnds.st (fun _ k => XS.icmpNo X1374.here hx rfl (hb hby at_192) rfl (teq (by decide : (401 : Int32) = (401 : Int32))).2 k) ?_
        show OEnds p.tables e below G (T1374.setTop (mkF m 195 #[.val (.int p1), .val (.int p2), .val (.int p3), .val (.int p4), .val (.ref ob_1001), .val (.int v1002), .val (.int v1003), .val (.ref b1004), .val (.int v1045), .val (.int v1046), .val (.int v1047), .val (.ref b1272), .val (.ref b1313), .val (.ref b1341), .val (.int (401 : Int32))] []))
        refine OEnds.st (fun _ k => XS.aload X1374.here hx rfl (hb hby at_195) rfl rfl k) ?_
        show OEnds p.tables e below G (T1374.setTop (mkF m 197 #[.val (.int p1), .val (.int p2), .val (.int p3), .val (.int p4), .val (.ref ob_1001), .val (.int v1002), .val (.int v1003), .val (.ref b1004), .val (.int v1045), .val (.int v1046), .val (.int v1047), .val (.ref b1272), .val (.ref b1313), .val (.ref b1341), .val (.int (401 : Int32))] [(.ref b1341)]))
        obtain ⟨cq1375, kq1375, q1375a, q1375b, q1375c⟩ := isOf hZ e1374 p1358
        obtain ⟨_, _, ⟨T1375, L1375, k1375c, n1375c⟩, -, X1375, ⟨Lc1375, hQ1375, l1375, y1375, z1375⟩, st1375⟩ := X1374.virtualBack hx (y := (⟨"com/example/coracle_health/coraclehealth/oauth/TokenError", "status", "()I"⟩ : MethodName)) (z := (⟨"com/example/coracle_health/coraclehealth/oauth/TokenError", "status", "()I"⟩ : MethodName)) hown (mvT hZ (hw _ (List.mem_of_getElem? (i := 114) rfl))) (mvT hZ (hw _ (List.mem_of_getElem? (i := 115) rfl))) (notFace_of_selects (args := #[]) (mvT hZ (hw _ (List.mem_of_getElem? (i := 117) rfl)))) (mvT hZ (hw _ (List.mem_of_getElem? (i := 117) rfl))) (mvT hZ (hw _ (List.mem_of_getElem? (i := 116) rfl))) (by decide) (backOf (W := 0) (rmst0 l Z a0 hw [] b1341 T1356.heap n0 Z1356 p1359) hZ (hw _ (List.mem_of_getElem? (i := 118) rfl)) (hw _ (List.mem_of_getElem? (i := 54) rfl)) (by decide) (by decide)) q1375a q1375c (g := (mkF m 197 #[.val (.int p1), .val (.int p2), .val (.int p3), .val (.int p4), .val (.ref ob_1001), .val (.int v1002), .val (.int v1003), .val (.ref b1004), .val (.int v1045), .val (.int v1046), .val (.int v1047), .val (.ref b1272), .val (.ref b1313), .val (.ref b1341), .val (.int (401 : Int32))] [(.ref b1341)])) rfl (by rw [hml]; rfl) (Steps.refl _) (argsL := []) (rest := []) (lenOf pd_12 rfl) rfl (by show 2 * 0 + _ ≤ _; exact Nat.le_of_eq rfl) (hb hby at_197) (fun _ _ => ⟨rfl, e1374, (by decide : 0 + 0 + 1 + 1 + 1 + 1 + 1 + 1 + 1 + 1 + 1 + 1 + 0 + 0 ≤ _), (by decide : 0 + 0 + 4 + 2 + 2 + 4 + 2 + 2 + 8 + 2752 + 8 + 2752 + 0 + 0 ≤ _)⟩)
        dsimp only [Pt.U, Pt.locs, Pt.cells, Pt.slots] at X1375 l1375 y1375 z1375 st1375 hQ1375
        subst l1375 y1375 z1375
        obtain ⟨rfl, N1375q, e1375⟩ := hQ1375
        have N1375 := Fr.app N1374 N1375q
        refine OEnds.st (fun _ k => st1375.trans k) ?_
        clear st1375
        show OEnds p.tables e below G (T1375.setTop (mkF m 200 #[.val (.int p1), .val (.int p2), .val (.int p3), .val (.int p4), .val (.ref ob_1001), .val (.int v1002), .val (.int v1003), .val (.ref b1004), .val (.int v1045), .val (.int v1046), .val (.int v1047), .val (.ref b1272), .val (.ref b1313), .val (.ref b1341), .val (.int (401 : Int32))] [(.int (400 : Int32))]))
        refine OEnds.st (fun _ k => XS.sipush X1375.here hx rfl (hb hby at_200) k) ?_
        show OEnds p.tables e below G (T1375.setTop (mkF m 203 #[.val (.int p1), .val (.int p2), .val (.int p3), .val (.int p4), .val (.ref ob_1001), .val (.int v1002), .val (.int v1003), .val (.ref b1004), .val (.int v1045), .val (.int v1046), .val (.int v1047), .val (.ref b1272), .val (.ref b1313), .val (.ref b1341), .val (.int (401 : Int32))] [(.int (400 : Int32)), (.int (400 : Int32))]))
        refine OEnds.st (fun _ k => XS.icmpNo X1375.here hx rfl (hb hby at_203) rfl (teq (by decide : (400 : Int32) = (400 : Int32))).2 k) ?_
        show OEnds p.tables e below G (T1375.setTop (mkF m 206 #[.val (.int p1), .val (.int p2), .val (.int p3), .val (.int p4), .val (.ref ob_1001), .val (.int v1002), .val (.int v1003), .val (.ref b1004), .val (.int v1045), .val (.int v1046), .val (.int v1047), .val (.ref b1272), .val (.ref b1313), .val (.ref b1341), .val (.int (401 : Int32))] []))
        refine OEnds.st (fun _ k => XS.iconst X1375.here hx rfl (hb hby at_206) k) ?_
        show OEnds p.tables e below G (T1375.setTop (mkF m 207 #[.val (.int p1), .val (.int p2), .val (.int p3), .val (.int p4), .val (.ref ob_1001), .val (.int v1002), .val (.int v1003), .val (.ref b1004), .val (.int v1045), .val (.int v1046), .val (.int v1047), .val (.ref b1272), .val (.ref b1313), .val (.ref b1341), .val (.int (401 : Int32))] [(.int (1 : Int32))]))
        refine OEnds.st (fun _ k => XS.goto X1375.here hx rfl (pc0 := 207) (pc' := 211) rfl (hb hby at_207) (by decide) (by decide) k) ?_
        show OEnds p.tables e below G (T1375.setTop (mkF m 211 #[.val (.int p1), .val (.int p2), .val (.int p3), .val (.int p4), .val (.ref ob_1001), .val (.int v1002), .val (.int v1003), .val (.ref b1004), .val (.int v1045), .val (.int v1046), .val (.int v1047), .val (.ref b1272), .val (.ref b1313), .val (.ref b1341), .val (.int (401 : Int32))] [(.int (1 : Int32))]))
        rw [← hG]
        refine OEnds.retZW X1375 hS (by rw [e1375]; exact hkk) hx hlk Bd.returns rfl (hb hby at_211) (by decide) (by decide) ?_
        rw [e1375]
        exact ⟨rfl, N1375⟩
set_option maxRecDepth 65536 in
set_option maxHeartbeats 40000000 in
theorem comes_1 {Post : Tables → Env → Array Value → State → Outcome → State → Prop} (hpost : ∀ tb e args s v u, (limb_1_1.after args s (.returned v) u = true ∧ limb_1_2.after args s (.returned v) u = true ∧ True) → Jvm.ReturnedEndW s (.returned v) u (Jvm.fieldLocs frame_1_writes args s ++ Jvm.arrayLocs frame_1_arrays args s ++ Jvm.staticLocs frame_1_statics s) 32 12224 → Post tb e args s (.returned v) u) :
    ArmFor flags0 classFile x code maxLocals ret World_1 tables_1 room_1 Calls_1 rest_1 Pre_1 Post := by
  intro l hfl _ _ p e ha hc hk s m args below hf hA hF happ hP
  obtain ⟨hcalls, hrest, hpre⟩ := hP
  obtain ⟨-, -, -, hnamed, -, -, -, hat⟩ := (Spec.applies_iff hf).mp happ
  obtain ⟨hg, hn⟩ := and_e (Cond.before_iff.mp (show (Jvm.Cond.and given_1 narrow_1).before args s = true from hpre))
  obtain ⟨gc, gr0⟩ := and_e hg
  obtain ⟨ga0, gr1⟩ := and_e gr0
  obtain ⟨ga1, gr2⟩ := and_e gr1
  obtain ⟨ga2, gr3⟩ := and_e gr2
  obtain ⟨w0, w1, w2, w3, rfl⟩ : ∃ w0 w1 w2 w3 : Value, args = #[w0, w1, w2, w3] := by
    have hs : args.size = 4 := by simpa [Cond.value, given_1] using gc
    obtain ⟨L⟩ := args
    match L, hs with
    | [w0, w1, w2, w3], _ => exact ⟨w0, w1, w2, w3, rfl⟩
  have hw := fun d (hd : d ∈ tables_1) => atoms_spec (ws := Jvm.Cond.code x code maxLocals ret :: tables_1) hat d (List.mem_cons_of_mem _ hd)
  have hfit : Fit s := fun {y c} hc i hi => by
    obtain ⟨ha, rfl⟩ := Array.getElem?_eq_some_iff.mp hc
    have q := List.all_eq_true.mp ((Array.all_eq_true_iff_forall_mem.mp hF) _ (Array.getElem_mem ha)) i (List.mem_range.mpr hi)
    simpa [Array.getElem?_eq_getElem hi] using q
  obtain ⟨hsets, hown0⟩ := atoms_of _ (rest_1_c_eq ▸ (show rest_1_c.before _ s = true from hrest))
  have hr0 := Cond.before_iff.mp hown0
  obtain ⟨i0, ei0⟩ := is_v ga0
  obtain rfl : w0 = (.int i0) := Option.some.inj ei0
  obtain ⟨i1, ei1⟩ := is_v ga1
  obtain rfl : w1 = (.int i1) := Option.some.inj ei1
  obtain ⟨i2, ei2⟩ := is_v ga2
  obtain rfl : w2 = (.int i2) := Option.some.inj ei2
  obtain ⟨i3, ei3⟩ := is_v gr3
  obtain rfl : w3 = (.int i3) := Option.some.inj ei3
  obtain ⟨cw, ecw⟩ := is_v (Cond.before_iff.mp (hsets _ (List.mem_of_getElem? (i := 1) rfl)))
  have hcw : ¬ (cw = (0 : Int32)) := by
    have q := not_v (Cond.before_iff.mp (hsets _ (List.mem_of_getElem? (i := 2) rfl)))
    intro y
    subst y
    have q2 := eq_i (b := Term.int (0 : Int32)) ecw (Term.int_eval (0)) rfl
    rw [q2] at q
    cases q
  have hst : l.stackTraces = true := by unfold Launch.stackTraces; rw [hfl]; decide +kernel
  obtain ⟨u1, eu1⟩ := arr_v (Cond.before_iff.mp (hsets _ (List.mem_of_getElem? (i := 17) rfl)))
  obtain ⟨u2, eu2⟩ := exa_v (Cond.before_iff.mp (hsets _ (List.mem_of_getElem? (i := 22) rfl)))
  have hCHs : CHv s own_EL s.vm s.heap := CHv.start (own_ew hw) (show ∀ p ∈ own_EL, Jvm.Lit.constHeld s p.1 p.2 from hcalls.2.2.1) (hsets _ (List.mem_of_getElem? (i := 2) rfl)) (hw _ (List.mem_of_getElem? (i := 27) rfl)) (hw _ (List.mem_of_getElem? (i := 9) rfl))
  obtain ⟨nc0, hm0⟩ := and_e hn
  obtain ⟨nc1, hm1⟩ := and_e hm0
  obtain ⟨nc2, hm2⟩ := and_e hm1
  obtain ⟨nc3, hm3⟩ := and_e hm2
  obtain ⟨nc4, hm4⟩ := and_e hm3
  obtain ⟨o0, ev0⟩ := exa_v nc0
  obtain ⟨o1, ev1⟩ := exa_v nc1
  obtain ⟨o2, ev2⟩ := exa_v hm4
  obtain ⟨o3, ev3⟩ := exa_v nc3
  obtain ⟨o4, ev4⟩ := exa_v nc2
  obtain ⟨o5, ev5⟩ := exa_v nc4
  obtain ⟨n, o, h1, h2, h3, _, L, rfl, ⟨rfl, N⟩, hq⟩ := rm0 l s _ hw tables_1 i0 i1 i2 i3 cw o0 o1 o2 o3 o4 o5 u1 u2 s.heap s.heap.size (Nat.le_refl _) ThS.start (Sta.start ecw (Or.inl (hsets _ (List.mem_of_getElem? (i := 0) rfl)))) (Sta.start ev0 (Or.inr ⟨(hw _ (List.mem_of_getElem? (i := 6) rfl)), (hw _ (List.mem_of_getElem? (i := 7) rfl))⟩)) (Sta.start ev1 (Or.inr ⟨(hw _ (List.mem_of_getElem? (i := 6) rfl)), (hw _ (List.mem_of_getElem? (i := 120) rfl))⟩)) (Sta.start ev2 (Or.inr ⟨(hw _ (List.mem_of_getElem? (i := 6) rfl)), (hw _ (List.mem_of_getElem? (i := 131) rfl))⟩)) (Sta.start ev3 (Or.inr ⟨(hw _ (List.mem_of_getElem? (i := 6) rfl)), (hw _ (List.mem_of_getElem? (i := 124) rfl))⟩)) (Sta.start ev4 (Or.inr ⟨(hw _ (List.mem_of_getElem? (i := 6) rfl)), (hw _ (List.mem_of_getElem? (i := 122) rfl))⟩)) (Sta.start ev5 (Or.inr ⟨(hw _ (List.mem_of_getElem? (i := 6) rfl)), (hw _ (List.mem_of_getElem? (i := 129) rfl))⟩)) (Sta.start eu1 (Or.inr ⟨(hw _ (List.mem_of_getElem? (i := 67) rfl)), (hw _ (List.mem_of_getElem? (i := 98) rfl))⟩)) (Sta.start eu2 (Or.inr ⟨(hw _ (List.mem_of_getElem? (i := 67) rfl)), (hw _ (List.mem_of_getElem? (i := 99) rfl))⟩)) hcw hst p e ha hc hk s m _ below hf ((Spec.applies_iff_loose hf).mp happ).1 ⟨rfl, State.Warmed39.refl s, rfl, hCHs⟩ ⟨hcalls.1, hcalls.2.1⟩
  refine ⟨n, _, h1, h2, h3, hpost _ _ _ _ _ _ ⟨Cond.after_iff.mpr rfl, Cond.after_iff.mpr (eq_i res_at (Term.int_eval (1)) rfl), trivial⟩ ⟨hq.1, hq.2.1, hq.2.2.1, (hq.2.2.2.sift fun y hy => Or.inr (N y hy)).mono (by decide) (by decide)⟩⟩
theorem main_1_1 : Claimed_1_1 := comes_1 fun _ _ _ _ _ _ h hF => ⟨h.1, hF⟩
theorem main_1_2 : Claimed_1_2 := comes_1 fun _ _ _ _ _ _ h hF => ⟨h.2.1, hF⟩
end Jvm.Pilot.@@N@@
namespace Jvm.Pilot.@@N@@
open Jvm Jvm.ClassFile Sem Op Lib Jvm.Free Jvm.Stand Jvm.Pilot.@@N@@.Jvm.D
/-! MADE BY PROGRAM (witnessworld.py) out of the Statement's table words and the real class files: 37 classes; the members and pool entries that the words name. The judged class is class 1, her method 2. -/
namespace start1
open Jvm.ClassFile
def u (s : String) : CpInfo := .utf8 (stringToUtf16 s)
/-- a pool by its gaps: so many unusable entries, then the entry; so many at the end -/
def gap : Nat → List CpInfo → List CpInfo
  | 0, r => r
  | n + 1, r => .unusable :: gap n r
def poolList (es : List (Nat × CpInfo)) (last : Nat) : List CpInfo := es.foldr (fun e r => gap e.1 (e.2 :: r)) (gap last [])
def pool (es : List (Nat × CpInfo)) (last : Nat) : Array CpInfo := ⟨poolList es last⟩
def fileOf (pool : Array CpInfo) (this : Nat) (attrs : Array Attribute := #[]) (ms : Array MethodInfo := #[]) (fl : Nat := 33) (sup : Nat := 0) (ifs : Array Nat := #[]) (fds : Array FieldInfo := #[]) : ClassFile where
  minorVersion := 0
  majorVersion := 65
  constantPool := pool
  accessFlags := fl
  thisClass := this
  superClass := sup
  interfaces := ifs
  fields := fds
  methods := ms
  attributes := attrs
def plain (name : String) (sup : Option ClassId) : Class where
  name := name
  kind := .ordinary
  loader := none
  accessFlags := 33
  super := sup
  interfaces := #[]
  cf := none
  fields := #[]
  methods := #[]
  instanceTypes := #[]
  staticTypes := #[]
  resolved := #[]
  callSites := []
  init := .initialized
  statics := none
  mirror := none

def pool0 : Array CpInfo := pool [(5, u "<init>"), (0, u "()V"), (1, .class_ 10), (1, u "java/lang/Object")] 113

def k0c0 : Code := { maxStack := 0, maxLocals := 1, code := object_method_1_code, exceptionTable := #[], attributes := #[] }
def k0m0 : Method := { name := "<init>", desc := "()V", sig := { parameters := [], returnType := none }, accessFlags := 1, code := some k0c0 }
/-- java/lang/Object -/
def k0 : Class := { plain "java/lang/Object" none with
  accessFlags := 33
  interfaces := #[]
  cf := some (fileOf pool0 8 #[] #[{ accessFlags := 1, nameIndex := 5, descriptorIndex := 6, attributes := #[] }] 33 0 #[] #[])
  fields := #[]
  methods := #[k0m0]
  instanceTypes := #[]
  staticTypes := #[]
  resolved := Array.replicate 124 none
  statics := none }

def pool1 : Array CpInfo := pool [(2, .class_ 4), (1, u "java/lang/Object"), (0, u "<init>"), (0, u "()V"), (0, .integer 2147483647), (0, .fieldref 9 10), (0, .class_ 11), (0, .nameAndType 12 13), (0, u "com/example/coracle_health/coraclehealth/oauth/TokenError$Code"), (0, u "INVALID_REQUEST"), (0, u "Lcom/example/coracle_health/coraclehealth/oauth/TokenError$Code;"), (0, .fieldref 9 15), (0, .nameAndType 16 13), (0, u "INVALID_GRANT"), (0, .fieldref 9 18), (0, .nameAndType 19 13), (0, u "INVALID_CLIENT"), (0, .fieldref 9 21), (0, .nameAndType 22 13), (0, u "UNSUPPORTED_GRANT_TYPE"), (0, .fieldref 9 24), (0, .nameAndType 25 13), (0, u "INVALID_SCOPE"), (0, .fieldref 9 27), (0, .nameAndType 28 13), (0, u "TEMPORARILY_UNAVAILABLE"), (0, .methodref 30 31), (0, .class_ 32), (0, .nameAndType 33 34), (0, u "com/example/coracle_health/coraclehealth/oauth/TokenErrorStatusPinLaw"), (0, u "pick"), (0, u "(I)Lcom/example/coracle_health/coraclehealth/oauth/TokenError$Code;"), (0, .class_ 36), (0, u "java/lang/String"), (0, .methodref 35 38), (0, .nameAndType 5 39), (0, u "([C)V"), (0, .methodref 35 41), (0, .nameAndType 42 43), (0, u "valueOf"), (0, u "(C)Ljava/lang/String;"), (0, .class_ 45), (0, u "com/example/coracle_health/coraclehealth/oauth/TokenError"), (0, .methodref 44 47), (0, .nameAndType 5 48), (0, u "(Lcom/example/coracle_health/coraclehealth/oauth/TokenError$Code;Ljava/lang/String;Ljava/lang/String;)V"), (0, .methodref 44 50), (0, .nameAndType 5 51), (0, u "(Lcom/example/coracle_health/coraclehealth/oauth/TokenError$Code;Ljava/lang/String;)V"), (0, .methodref 44 53), (0, .nameAndType 54 55), (0, u "status"), (0, u "()I"), (3, u "law"), (0, u "(IIII)Z")] 3

def k1m0 : Method := { name := "<init>", desc := "()V", sig := { parameters := [], returnType := none }, accessFlags := 2, code := none }
def k1c1 : Code := { maxStack := 2, maxLocals := 2, code := method_2_code, exceptionTable := #[], attributes := #[] }
def k1m1 : Method := { name := "pick", desc := "(I)Lcom/example/coracle_health/coraclehealth/oauth/TokenError$Code;", sig := { parameters := [.int], returnType := some (.object "com/example/coracle_health/coraclehealth/oauth/TokenError$Code") }, accessFlags := 10, code := some k1c1 }
def k1c2 : Code := { maxStack := 6, maxLocals := 15, code := code, exceptionTable := #[], attributes := #[] }
def k1m2 : Method := { name := "law", desc := "(IIII)Z", sig := { parameters := [.int, .int, .int, .int], returnType := some .boolean }, accessFlags := 9, code := some k1c2 }
/-- com/example/coracle_health/coraclehealth/oauth/TokenErrorStatusPinLaw -/
def k1 : Class := { plain "com/example/coracle_health/coraclehealth/oauth/TokenErrorStatusPinLaw" (some 0) with
  accessFlags := 49
  interfaces := #[]
  cf := some (fileOf pool1 30 #[] #[{ accessFlags := 2, nameIndex := 5, descriptorIndex := 6, attributes := #[] }, { accessFlags := 10, nameIndex := 33, descriptorIndex := 34, attributes := #[] }, { accessFlags := 9, nameIndex := 59, descriptorIndex := 60, attributes := #[] }] 49 2 #[] #[])
  fields := #[]
  methods := #[k1m0, k1m1, k1m2]
  instanceTypes := #[]
  staticTypes := #[]
  resolved := Array.replicate 64 none
  statics := none }

def pool2 : Array CpInfo := pool [(1, .class_ 2), (0, u "java/lang/constant/Constable"), (0, .class_ 4), (0, u "java/lang/Object")] 6

/-- java/lang/constant/Constable -/
def k2 : Class := { plain "java/lang/constant/Constable" (some 0) with
  accessFlags := 1537
  interfaces := #[]
  cf := some (fileOf pool2 1 #[] #[] 1537 3 #[] #[])
  fields := #[]
  methods := #[]
  instanceTypes := #[]
  staticTypes := #[]
  resolved := Array.replicate 11 none
  statics := none }

def pool3 : Array CpInfo := pool [(1, .class_ 2), (0, u "java/lang/Comparable"), (0, .class_ 4), (0, u "java/lang/Object")] 7

/-- java/lang/Comparable -/
def k3 : Class := { plain "java/lang/Comparable" (some 0) with
  accessFlags := 1537
  interfaces := #[]
  cf := some (fileOf pool3 1 #[] #[] 1537 3 #[] #[])
  fields := #[]
  methods := #[]
  instanceTypes := #[]
  staticTypes := #[]
  resolved := Array.replicate 12 none
  statics := none }

def pool4 : Array CpInfo := pool [(1, .class_ 2), (0, u "java/io/Serializable"), (0, .class_ 4), (0, u "java/lang/Object")] 2

/-- java/io/Serializable -/
def k4 : Class := { plain "java/io/Serializable" (some 0) with
  accessFlags := 1537
  interfaces := #[]
  cf := some (fileOf pool4 1 #[] #[] 1537 3 #[] #[])
  fields := #[]
  methods := #[]
  instanceTypes := #[]
  staticTypes := #[]
  resolved := Array.replicate 7 none
  statics := none }

def pool5 : Array CpInfo := pool [(2, .class_ 4), (1, u "java/lang/Enum"), (0, u "name"), (0, u "Ljava/lang/String;"), (2, u "ordinal"), (0, u "I"), (1, .class_ 14), (1, u "java/lang/Object"), (4, u "hash"), (86, .class_ 108), (1, u "java/lang/Enum$EnumDesc"), (2, .class_ 112), (0, u "java/lang/constant/Constable"), (0, .class_ 114), (0, u "java/lang/Comparable"), (0, .class_ 116), (0, u "java/io/Serializable")] 87

/-- java/lang/Enum -/
def k5 : Class := { plain "java/lang/Enum" (some 0) with
  accessFlags := 1057
  interfaces := #[2, 3, 4]
  cf := some (fileOf pool5 2 #[.nestMembers #[106]] #[] 1057 12 #[111, 113, 115] #[{ accessFlags := 18, nameIndex := 5, descriptorIndex := 6, attributes := #[] }, { accessFlags := 18, nameIndex := 9, descriptorIndex := 10, attributes := #[] }, { accessFlags := 2, nameIndex := 19, descriptorIndex := 10, attributes := #[] }])
  fields := #[{ name := "name", type := (.object "java/lang/String"), accessFlags := 18, slot := 0, constantValue := 0 }, { name := "ordinal", type := .int, accessFlags := 18, slot := 1, constantValue := 0 }, { name := "hash", type := .int, accessFlags := 2, slot := 2, constantValue := 0 }]
  methods := #[]
  instanceTypes := #[(.object "java/lang/String"), .int, .int]
  staticTypes := #[]
  resolved := Array.replicate 204 none
  statics := none }

def pool6 : Array CpInfo := pool [(1, .class_ 2), (0, u "com/example/coracle_health/coraclehealth/oauth/TokenError$Code"), (2, u "INVALID_REQUEST"), (0, u "Lcom/example/coracle_health/coraclehealth/oauth/TokenError$Code;"), (2, u "INVALID_GRANT"), (2, u "INVALID_CLIENT"), (2, u "UNSUPPORTED_GRANT_TYPE"), (2, u "INVALID_SCOPE"), (2, u "TEMPORARILY_UNAVAILABLE"), (2, u "$VALUES"), (0, u "[Lcom/example/coracle_health/coraclehealth/oauth/TokenError$Code;"), (6, .class_ 34), (1, u "java/lang/Enum"), (8, u "text"), (0, u "Ljava/lang/String;"), (38, .class_ 84), (0, u "com/example/coracle_health/coraclehealth/oauth/TokenError")] 1

/-- com/example/coracle_health/coraclehealth/oauth/TokenError$Code -/
def k6 : Class := { plain "com/example/coracle_health/coraclehealth/oauth/TokenError$Code" (some 5) with
  accessFlags := 16433
  interfaces := #[]
  cf := some (fileOf pool6 1 #[.nestHost 83] #[] 16433 32 #[] #[{ accessFlags := 16409, nameIndex := 5, descriptorIndex := 6, attributes := #[] }, { accessFlags := 16409, nameIndex := 9, descriptorIndex := 6, attributes := #[] }, { accessFlags := 16409, nameIndex := 12, descriptorIndex := 6, attributes := #[] }, { accessFlags := 16409, nameIndex := 15, descriptorIndex := 6, attributes := #[] }, { accessFlags := 16409, nameIndex := 18, descriptorIndex := 6, attributes := #[] }, { accessFlags := 16409, nameIndex := 21, descriptorIndex := 6, attributes := #[] }, { accessFlags := 18, nameIndex := 43, descriptorIndex := 44, attributes := #[] }, { accessFlags := 4122, nameIndex := 24, descriptorIndex := 25, attributes := #[] }])
  fields := #[{ name := "INVALID_REQUEST", type := (.object "com/example/coracle_health/coraclehealth/oauth/TokenError$Code"), accessFlags := 16409, slot := 0, constantValue := 0 }, { name := "INVALID_GRANT", type := (.object "com/example/coracle_health/coraclehealth/oauth/TokenError$Code"), accessFlags := 16409, slot := 1, constantValue := 0 }, { name := "INVALID_CLIENT", type := (.object "com/example/coracle_health/coraclehealth/oauth/TokenError$Code"), accessFlags := 16409, slot := 2, constantValue := 0 }, { name := "UNSUPPORTED_GRANT_TYPE", type := (.object "com/example/coracle_health/coraclehealth/oauth/TokenError$Code"), accessFlags := 16409, slot := 3, constantValue := 0 }, { name := "INVALID_SCOPE", type := (.object "com/example/coracle_health/coraclehealth/oauth/TokenError$Code"), accessFlags := 16409, slot := 4, constantValue := 0 }, { name := "TEMPORARILY_UNAVAILABLE", type := (.object "com/example/coracle_health/coraclehealth/oauth/TokenError$Code"), accessFlags := 16409, slot := 5, constantValue := 0 }, { name := "text", type := (.object "java/lang/String"), accessFlags := 18, slot := 3, constantValue := 0 }, { name := "$VALUES", type := (.array (.object "com/example/coracle_health/coraclehealth/oauth/TokenError$Code")), accessFlags := 4122, slot := 6, constantValue := 0 }]
  methods := #[]
  instanceTypes := #[(.object "java/lang/String"), .int, .int, (.object "java/lang/String")]
  staticTypes := #[(.object "com/example/coracle_health/coraclehealth/oauth/TokenError$Code"), (.object "com/example/coracle_health/coraclehealth/oauth/TokenError$Code"), (.object "com/example/coracle_health/coraclehealth/oauth/TokenError$Code"), (.object "com/example/coracle_health/coraclehealth/oauth/TokenError$Code"), (.object "com/example/coracle_health/coraclehealth/oauth/TokenError$Code"), (.object "com/example/coracle_health/coraclehealth/oauth/TokenError$Code"), (.array (.object "com/example/coracle_health/coraclehealth/oauth/TokenError$Code"))]
  resolved := Array.replicate 86 none
  statics := some 0 }

def pool7 : Array CpInfo := pool [(2, .class_ 4), (1, u "java/lang/CharSequence"), (42, .class_ 48), (0, u "java/lang/CharSequence$1CodePointIterator"), (10, .class_ 60), (0, u "java/lang/CharSequence$1CharIterator"), (5, .class_ 67), (0, u "java/lang/Object")] 63

/-- java/lang/CharSequence -/
def k7 : Class := { plain "java/lang/CharSequence" (some 0) with
  accessFlags := 1537
  interfaces := #[]
  cf := some (fileOf pool7 2 #[.nestMembers #[47, 59]] #[] 1537 66 #[] #[])
  fields := #[]
  methods := #[]
  instanceTypes := #[]
  staticTypes := #[]
  resolved := Array.replicate 131 none
  statics := none }

def pool8 : Array CpInfo := pool [(1, .class_ 2), (0, u "java/lang/constant/ConstantDesc"), (0, .class_ 4), (0, u "java/lang/Object")] 32

/-- java/lang/constant/ConstantDesc -/
def k8 : Class := { plain "java/lang/constant/ConstantDesc" (some 0) with
  accessFlags := 1537
  interfaces := #[]
  cf := some (fileOf pool8 1 #[] #[] 1537 3 #[] #[])
  fields := #[]
  methods := #[]
  instanceTypes := #[]
  staticTypes := #[]
  resolved := Array.replicate 37 none
  statics := none }

def pool9 : Array CpInfo := pool [(1, .methodref 2 3), (0, .class_ 4), (0, .nameAndType 5 6), (0, u "java/lang/Object"), (0, u "<init>"), (0, u "()V"), (0, .string 8), (0, u ""), (0, .fieldref 10 11), (0, .class_ 12), (0, .nameAndType 13 14), (0, u "java/lang/String"), (0, u "value"), (0, u "[B"), (0, .fieldref 10 16), (0, .nameAndType 17 18), (0, u "coder"), (0, u "B"), (2, u "hash"), (0, u "I"), (2, u "hashIsZero"), (0, u "Z"), (0, .methodref 10 28), (0, .nameAndType 5 29), (0, u "([CIILjava/lang/Void;)V"), (8, .fieldref 10 39), (0, .nameAndType 40 26), (0, u "COMPACT_STRINGS"), (1, .class_ 44), (1, u "java/lang/StringUTF16"), (0, u "compress"), (1, .methodref 42 48), (0, .nameAndType 49 50), (0, u "coderFromArrayLen"), (0, u "([BI)B"), (2, u "toBytes"), (53, .class_ 109), (1, u "java/lang/StringLatin1"), (67, .methodref 42 178), (0, .nameAndType 45 179), (0, u "([CII)[B"), (29, .methodref 10 210), (0, .nameAndType 5 211), (0, u "([BB)V"), (157, u "(C)Z"), (205, .class_ 576), (0, u "java/lang/CharSequence"), (22, u "CASE_INSENSITIVE_ORDER"), (0, u "Ljava/util/Comparator;"), (181, u "valueOf"), (0, u "(C)Ljava/lang/String;"), (226, u "([C)V"), (4, .methodref 107 1016), (0, .nameAndType 1017 369), (0, u "canEncode"), (0, .methodref 107 1019), (0, .nameAndType 53 1020), (0, u "(C)[B"), (80, u "serialPersistentFields"), (0, u "[Ljava/io/ObjectStreamField;"), (0, .class_ 1104), (0, u "java/lang/String$CaseInsensitiveComparator"), (1, .class_ 1107), (0, u "java/io/Serializable"), (0, .class_ 1109), (0, u "java/lang/Comparable"), (0, .class_ 1111), (0, u "java/lang/constant/Constable"), (0, .class_ 1113), (0, u "java/lang/constant/ConstantDesc"), (2, u "serialVersionUID"), (0, u "J"), (3, u "REPL"), (0, u "C"), (2, u "LATIN1"), (1, u "UTF16")] 323

def k9m0 : Method := { name := "<init>", desc := "()V", sig := { parameters := [], returnType := none }, accessFlags := 1, code := none }
def k9c1 : Code := { maxStack := 5, maxLocals := 2, code := jdk_42_method_3_code, exceptionTable := #[], attributes := #[] }
def k9m1 : Method := { name := "<init>", desc := "([C)V", sig := { parameters := [(.array .char)], returnType := none }, accessFlags := 1, code := some k9c1 }
def k9c2 : Code := { maxStack := 4, maxLocals := 1, code := jdk_42_method_139_code, exceptionTable := #[], attributes := #[] }
def k9m2 : Method := { name := "valueOf", desc := "(C)Ljava/lang/String;", sig := { parameters := [.char], returnType := some (.object "java/lang/String") }, accessFlags := 9, code := some k9c2 }
def k9c3 : Code := { maxStack := 4, maxLocals := 6, code := jdk_42_method_149_code, exceptionTable := #[], attributes := #[] }
def k9m3 : Method := { name := "<init>", desc := "([CIILjava/lang/Void;)V", sig := { parameters := [(.array .char), .int, .int, (.object "java/lang/Void")], returnType := none }, accessFlags := 2, code := some k9c3 }
def k9c4 : Code := { maxStack := 2, maxLocals := 3, code := jdk_42_method_151_code, exceptionTable := #[], attributes := #[] }
def k9m4 : Method := { name := "<init>", desc := "([BB)V", sig := { parameters := [(.array .byte), .byte], returnType := none }, accessFlags := 0, code := some k9c4 }
/-- java/lang/String -/
def k9 : Class := { plain "java/lang/String" (some 0) with
  accessFlags := 49
  interfaces := #[4, 3, 7, 2, 8]
  cf := some (fileOf pool9 10 #[.nestMembers #[1103]] #[{ accessFlags := 1, nameIndex := 5, descriptorIndex := 6, attributes := #[] }, { accessFlags := 1, nameIndex := 5, descriptorIndex := 1010, attributes := #[] }, { accessFlags := 9, nameIndex := 782, descriptorIndex := 783, attributes := #[] }, { accessFlags := 2, nameIndex := 5, descriptorIndex := 29, attributes := #[] }, { accessFlags := 0, nameIndex := 5, descriptorIndex := 211, attributes := #[] }] 49 2 #[1106, 1108, 575, 1110, 1112] #[{ accessFlags := 18, nameIndex := 13, descriptorIndex := 14, attributes := #[] }, { accessFlags := 18, nameIndex := 17, descriptorIndex := 18, attributes := #[] }, { accessFlags := 2, nameIndex := 21, descriptorIndex := 22, attributes := #[] }, { accessFlags := 2, nameIndex := 25, descriptorIndex := 26, attributes := #[] }, { accessFlags := 26, nameIndex := 1116, descriptorIndex := 1117, attributes := #[] }, { accessFlags := 24, nameIndex := 40, descriptorIndex := 26, attributes := #[] }, { accessFlags := 26, nameIndex := 1101, descriptorIndex := 1102, attributes := #[] }, { accessFlags := 26, nameIndex := 1121, descriptorIndex := 1122, attributes := #[] }, { accessFlags := 25, nameIndex := 599, descriptorIndex := 600, attributes := #[] }, { accessFlags := 24, nameIndex := 1125, descriptorIndex := 18, attributes := #[] }, { accessFlags := 24, nameIndex := 1127, descriptorIndex := 18, attributes := #[] }])
  fields := #[{ name := "value", type := (.array .byte), accessFlags := 18, slot := 0, constantValue := 0 }, { name := "coder", type := .byte, accessFlags := 18, slot := 1, constantValue := 0 }, { name := "hash", type := .int, accessFlags := 2, slot := 2, constantValue := 0 }, { name := "hashIsZero", type := .boolean, accessFlags := 2, slot := 3, constantValue := 0 }, { name := "serialVersionUID", type := .long, accessFlags := 26, slot := 0, constantValue := 0 }, { name := "COMPACT_STRINGS", type := .boolean, accessFlags := 24, slot := 1, constantValue := 0 }, { name := "serialPersistentFields", type := (.array (.object "java/io/ObjectStreamField")), accessFlags := 26, slot := 2, constantValue := 0 }, { name := "REPL", type := .char, accessFlags := 26, slot := 3, constantValue := 0 }, { name := "CASE_INSENSITIVE_ORDER", type := (.object "java/util/Comparator"), accessFlags := 25, slot := 4, constantValue := 0 }, { name := "LATIN1", type := .byte, accessFlags := 24, slot := 5, constantValue := 0 }, { name := "UTF16", type := .byte, accessFlags := 24, slot := 6, constantValue := 0 }]
  methods := #[k9m0, k9m1, k9m2, k9m3, k9m4]
  instanceTypes := #[(.array .byte), .byte, .int, .boolean]
  staticTypes := #[.long, .boolean, (.array (.object "java/io/ObjectStreamField")), .char, (.object "java/util/Comparator"), .byte, .byte]
  resolved := Array.replicate 1451 none
  statics := some 1 }

def pool10 : Array CpInfo := pool [(6, .class_ 8), (1, u "java/lang/Object"), (0, u "<init>"), (0, u "()V"), (1, .class_ 14), (1, u "java/lang/StringUTF16"), (31, u "$assertionsDisabled"), (0, u "Z"), (13, u "HI_BYTE_SHIFT"), (0, u "I"), (2, u "LO_BYTE_SHIFT"), (49, .methodref 12 116), (0, .nameAndType 117 118), (0, u "compress"), (0, u "([CI[BII)I"), (3, u "([CII)[B"), (138, u "coderFromArrayLen"), (0, u "([BI)B"), (106, .class_ 371), (1, u "java/lang/StringUTF16$LinesSpliterator"), (58, u "MAX_LENGTH"), (196, .class_ 628), (0, u "java/lang/StringUTF16$CodePointsSpliterator"), (0, .class_ 630), (0, u "java/lang/StringUTF16$CharsSpliterator")] 4

def k10m0 : Method := { name := "<init>", desc := "()V", sig := { parameters := [], returnType := none }, accessFlags := 0, code := none }
def k10c1 : Code := { maxStack := 2, maxLocals := 2, code := jdk_52_method_15_code, exceptionTable := #[], attributes := #[] }
def k10m1 : Method := { name := "coderFromArrayLen", desc := "([BI)B", sig := { parameters := [(.array .byte), .int], returnType := some .byte }, accessFlags := 8, code := some k10c1 }
def k10c2 : Code := { maxStack := 5, maxLocals := 6, code := jdk_52_method_16_code, exceptionTable := #[], attributes := #[] }
def k10m2 : Method := { name := "compress", desc := "([CII)[B", sig := { parameters := [(.array .char), .int, .int], returnType := some (.array .byte) }, accessFlags := 9, code := some k10c2 }
def k10c3 : Code := { maxStack := 3, maxLocals := 7, code := jdk_52_method_21_code, exceptionTable := #[], attributes := #[] }
def k10m3 : Method := { name := "compress", desc := "([CI[BII)I", sig := { parameters := [(.array .char), .int, (.array .byte), .int, .int], returnType := some .int }, accessFlags := 9, code := some k10c3 }
/-- java/lang/StringUTF16 -/
def k10 : Class := { plain "java/lang/StringUTF16" (some 0) with
  accessFlags := 48
  interfaces := #[]
  cf := some (fileOf pool10 12 #[.nestMembers #[627, 629, 369]] #[{ accessFlags := 0, nameIndex := 9, descriptorIndex := 10, attributes := #[] }, { accessFlags := 8, nameIndex := 261, descriptorIndex := 262, attributes := #[] }, { accessFlags := 9, nameIndex := 117, descriptorIndex := 122, attributes := #[] }, { accessFlags := 9, nameIndex := 117, descriptorIndex := 118, attributes := #[] }] 48 6 #[] #[{ accessFlags := 26, nameIndex := 61, descriptorIndex := 62, attributes := #[] }, { accessFlags := 26, nameIndex := 65, descriptorIndex := 62, attributes := #[] }, { accessFlags := 24, nameIndex := 430, descriptorIndex := 62, attributes := #[] }, { accessFlags := 4120, nameIndex := 46, descriptorIndex := 47, attributes := #[] }])
  fields := #[{ name := "HI_BYTE_SHIFT", type := .int, accessFlags := 26, slot := 0, constantValue := 0 }, { name := "LO_BYTE_SHIFT", type := .int, accessFlags := 26, slot := 1, constantValue := 0 }, { name := "MAX_LENGTH", type := .int, accessFlags := 24, slot := 2, constantValue := 0 }, { name := "$assertionsDisabled", type := .boolean, accessFlags := 4120, slot := 3, constantValue := 0 }]
  methods := #[k10m0, k10m1, k10m2, k10m3]
  instanceTypes := #[]
  staticTypes := #[.int, .int, .int, .boolean]
  resolved := Array.replicate 635 none
  statics := none }

def pool11 : Array CpInfo := pool [(4, .class_ 6), (1, u "java/lang/Object"), (0, u "<init>"), (0, u "()V"), (5, .class_ 16), (1, u "java/lang/StringLatin1"), (73, u "canEncode"), (14, u "(C)Z"), (15, u "$assertionsDisabled"), (0, u "Z"), (98, .class_ 223), (1, u "java/lang/StringLatin1$LinesSpliterator"), (156, u "toBytes"), (1, u "(C)[B"), (7, .class_ 391), (0, u "java/lang/StringLatin1$CharsSpliterator")] 3

def k11m0 : Method := { name := "<init>", desc := "()V", sig := { parameters := [], returnType := none }, accessFlags := 0, code := none }
def k11c1 : Code := { maxStack := 2, maxLocals := 1, code := jdk_43_method_3_code, exceptionTable := #[], attributes := #[] }
def k11m1 : Method := { name := "canEncode", desc := "(C)Z", sig := { parameters := [.char], returnType := some .boolean }, accessFlags := 9, code := some k11c1 }
def k11c2 : Code := { maxStack := 4, maxLocals := 1, code := jdk_43_method_46_code, exceptionTable := #[], attributes := #[] }
def k11m2 : Method := { name := "toBytes", desc := "(C)[B", sig := { parameters := [.char], returnType := some (.array .byte) }, accessFlags := 9, code := some k11c2 }
/-- java/lang/StringLatin1 -/
def k11 : Class := { plain "java/lang/StringLatin1" (some 0) with
  accessFlags := 48
  interfaces := #[]
  cf := some (fileOf pool11 14 #[.nestMembers #[390, 221]] #[{ accessFlags := 0, nameIndex := 7, descriptorIndex := 8, attributes := #[] }, { accessFlags := 9, nameIndex := 90, descriptorIndex := 105, attributes := #[] }, { accessFlags := 9, nameIndex := 380, descriptorIndex := 382, attributes := #[] }] 48 4 #[] #[{ accessFlags := 4120, nameIndex := 121, descriptorIndex := 122, attributes := #[] }])
  fields := #[{ name := "$assertionsDisabled", type := .boolean, accessFlags := 4120, slot := 0, constantValue := 0 }]
  methods := #[k11m0, k11m1, k11m2]
  instanceTypes := #[]
  staticTypes := #[.boolean]
  resolved := Array.replicate 395 none
  statics := none }

def pool12 : Array CpInfo := pool [(1, .methodref 2 3), (0, .class_ 4), (0, .nameAndType 5 6), (0, u "java/lang/Object"), (0, u "<init>"), (0, u "()V"), (0, .fieldref 8 9), (0, .class_ 10), (0, .nameAndType 11 12), (0, u "java/lang/Throwable"), (0, u "cause"), (0, u "Ljava/lang/Throwable;"), (0, .fieldref 8 14), (0, .nameAndType 15 16), (0, u "UNASSIGNED_STACK"), (0, u "[Ljava/lang/StackTraceElement;"), (0, .fieldref 8 18), (0, .nameAndType 19 16), (0, u "stackTrace"), (0, .fieldref 8 21), (0, .nameAndType 22 23), (0, u "SUPPRESSED_SENTINEL"), (0, u "Ljava/util/List;"), (0, .fieldref 8 25), (0, .nameAndType 26 23), (0, u "suppressedExceptions"), (0, .methodref 8 28), (0, .nameAndType 29 30), (0, u "fillInStackTrace"), (0, u "()Ljava/lang/Throwable;"), (0, .fieldref 8 32), (0, .nameAndType 33 34), (0, u "detailMessage"), (0, u "Ljava/lang/String;"), (58, .class_ 94), (0, u "java/lang/Throwable$WrappedPrintStream"), (6, .class_ 103), (1, u "java/lang/Throwable$PrintStreamOrWriter"), (61, u "$assertionsDisabled"), (0, u "Z"), (26, .class_ 194), (0, u "java/lang/Throwable$WrappedPrintWriter"), (3, .fieldref 8 199), (0, .nameAndType 200 201), (0, u "backtrace"), (0, u "Ljava/lang/Object;"), (0, .methodref 8 203), (0, .nameAndType 29 204), (0, u "(I)Ljava/lang/Throwable;"), (6, u "depth"), (0, u "I"), (10, u "(Ljava/lang/String;)V"), (45, .class_ 271), (1, u "java/lang/Throwable$SentinelHolder"), (32, u "EMPTY_THROWABLE_ARRAY"), (0, u "[Ljava/lang/Throwable;"), (12, .class_ 319), (0, u "java/io/Serializable"), (0, u "serialVersionUID"), (0, u "J"), (5, u "NULL_CAUSE_MESSAGE"), (0, u "SELF_SUPPRESSION_MESSAGE"), (0, u "CAUSE_CAPTION"), (0, u "SUPPRESSED_CAPTION")] 73

def k12c0 : Code := { maxStack := 2, maxLocals := 1, code := jdk_78_method_1_code, exceptionTable := #[], attributes := #[] }
def k12m0 : Method := { name := "<init>", desc := "()V", sig := { parameters := [], returnType := none }, accessFlags := 1, code := some k12c0 }
def k12c1 : Code := { maxStack := 2, maxLocals := 2, code := jdk_78_method_2_code, exceptionTable := #[], attributes := #[] }
def k12m1 : Method := { name := "<init>", desc := "(Ljava/lang/String;)V", sig := { parameters := [(.object "java/lang/String")], returnType := none }, accessFlags := 1, code := some k12c1 }
def k12c2 : Code := { maxStack := 2, maxLocals := 1, code := ⟨#[0x2a, 0xb4, 0x00, 0x11, 0xc7, 0x00, 0x0a, 0x2a, 0xb4, 0x00, 0xc6, 0xc6, 0x00, 0x10, 0x2a, 0x03, 0xb6, 0x00, 0xca, 0x57, 0x2a, 0xb2, 0x00, 0x0d, 0xb5, 0x00, 0x11, 0x2a, 0xb0]⟩, exceptionTable := #[], attributes := #[] }
def k12m2 : Method := { name := "fillInStackTrace", desc := "()Ljava/lang/Throwable;", sig := { parameters := [], returnType := some (.object "java/lang/Throwable") }, accessFlags := 33, code := some k12c2 }
def k12m3 : Method := { name := "fillInStackTrace", desc := "(I)Ljava/lang/Throwable;", sig := { parameters := [.int], returnType := some (.object "java/lang/Throwable") }, accessFlags := 258, code := none }
/-- java/lang/Throwable -/
def k12 : Class := { plain "java/lang/Throwable" (some 0) with
  accessFlags := 33
  interfaces := #[4]
  cf := some (fileOf pool12 8 #[.nestMembers #[193, 93, 101, 269]] #[{ accessFlags := 1, nameIndex := 5, descriptorIndex := 6, attributes := #[] }, { accessFlags := 1, nameIndex := 5, descriptorIndex := 223, attributes := #[] }, { accessFlags := 33, nameIndex := 29, descriptorIndex := 30, attributes := #[] }, { accessFlags := 258, nameIndex := 29, descriptorIndex := 204, attributes := #[] }] 33 2 #[318] #[{ accessFlags := 26, nameIndex := 320, descriptorIndex := 321, attributes := #[] }, { accessFlags := 130, nameIndex := 200, descriptorIndex := 201, attributes := #[] }, { accessFlags := 2, nameIndex := 33, descriptorIndex := 34, attributes := #[] }, { accessFlags := 26, nameIndex := 15, descriptorIndex := 16, attributes := #[] }, { accessFlags := 2, nameIndex := 11, descriptorIndex := 12, attributes := #[] }, { accessFlags := 2, nameIndex := 19, descriptorIndex := 16, attributes := #[] }, { accessFlags := 130, nameIndex := 211, descriptorIndex := 212, attributes := #[] }, { accessFlags := 26, nameIndex := 22, descriptorIndex := 23, attributes := #[] }, { accessFlags := 2, nameIndex := 26, descriptorIndex := 23, attributes := #[] }, { accessFlags := 26, nameIndex := 327, descriptorIndex := 34, attributes := #[] }, { accessFlags := 26, nameIndex := 328, descriptorIndex := 34, attributes := #[] }, { accessFlags := 26, nameIndex := 329, descriptorIndex := 34, attributes := #[] }, { accessFlags := 26, nameIndex := 330, descriptorIndex := 34, attributes := #[] }, { accessFlags := 26, nameIndex := 304, descriptorIndex := 305, attributes := #[] }, { accessFlags := 4120, nameIndex := 165, descriptorIndex := 166, attributes := #[] }])
  fields := #[{ name := "serialVersionUID", type := .long, accessFlags := 26, slot := 0, constantValue := 0 }, { name := "backtrace", type := (.object "java/lang/Object"), accessFlags := 130, slot := 0, constantValue := 0 }, { name := "detailMessage", type := (.object "java/lang/String"), accessFlags := 2, slot := 1, constantValue := 0 }, { name := "UNASSIGNED_STACK", type := (.array (.object "java/lang/StackTraceElement")), accessFlags := 26, slot := 1, constantValue := 0 }, { name := "cause", type := (.object "java/lang/Throwable"), accessFlags := 2, slot := 2, constantValue := 0 }, { name := "stackTrace", type := (.array (.object "java/lang/StackTraceElement")), accessFlags := 2, slot := 3, constantValue := 0 }, { name := "depth", type := .int, accessFlags := 130, slot := 4, constantValue := 0 }, { name := "SUPPRESSED_SENTINEL", type := (.object "java/util/List"), accessFlags := 26, slot := 2, constantValue := 0 }, { name := "suppressedExceptions", type := (.object "java/util/List"), accessFlags := 2, slot := 5, constantValue := 0 }, { name := "NULL_CAUSE_MESSAGE", type := (.object "java/lang/String"), accessFlags := 26, slot := 3, constantValue := 0 }, { name := "SELF_SUPPRESSION_MESSAGE", type := (.object "java/lang/String"), accessFlags := 26, slot := 4, constantValue := 0 }, { name := "CAUSE_CAPTION", type := (.object "java/lang/String"), accessFlags := 26, slot := 5, constantValue := 0 }, { name := "SUPPRESSED_CAPTION", type := (.object "java/lang/String"), accessFlags := 26, slot := 6, constantValue := 0 }, { name := "EMPTY_THROWABLE_ARRAY", type := (.array (.object "java/lang/Throwable")), accessFlags := 26, slot := 7, constantValue := 0 }, { name := "$assertionsDisabled", type := .boolean, accessFlags := 4120, slot := 8, constantValue := 0 }]
  methods := #[k12m0, k12m1, k12m2, k12m3]
  instanceTypes := #[(.object "java/lang/Object"), (.object "java/lang/String"), (.object "java/lang/Throwable"), (.array (.object "java/lang/StackTraceElement")), .int, (.object "java/util/List")]
  staticTypes := #[.long, (.array (.object "java/lang/StackTraceElement")), (.object "java/util/List"), (.object "java/lang/String"), (.object "java/lang/String"), (.object "java/lang/String"), (.object "java/lang/String"), (.array (.object "java/lang/Throwable")), .boolean]
  resolved := Array.replicate 404 none
  statics := some 2 }

def pool13 : Array CpInfo := pool [(2, .class_ 4), (1, u "java/lang/Throwable"), (0, u "<init>"), (0, u "()V"), (0, .methodref 2 8), (0, .nameAndType 5 9), (0, u "(Ljava/lang/String;)V"), (9, .class_ 20), (0, u "java/lang/Exception"), (0, u "serialVersionUID"), (0, u "J")] 17

def k13m0 : Method := { name := "<init>", desc := "()V", sig := { parameters := [], returnType := none }, accessFlags := 1, code := none }
def k13c1 : Code := { maxStack := 2, maxLocals := 2, code := jdk_59_method_2_code, exceptionTable := #[], attributes := #[] }
def k13m1 : Method := { name := "<init>", desc := "(Ljava/lang/String;)V", sig := { parameters := [(.object "java/lang/String")], returnType := none }, accessFlags := 1, code := some k13c1 }
/-- java/lang/Exception -/
def k13 : Class := { plain "java/lang/Exception" (some 12) with
  accessFlags := 33
  interfaces := #[]
  cf := some (fileOf pool13 19 #[] #[{ accessFlags := 1, nameIndex := 5, descriptorIndex := 6, attributes := #[] }, { accessFlags := 1, nameIndex := 5, descriptorIndex := 9, attributes := #[] }] 33 2 #[] #[{ accessFlags := 24, nameIndex := 21, descriptorIndex := 22, attributes := #[] }])
  fields := #[{ name := "serialVersionUID", type := .long, accessFlags := 24, slot := 0, constantValue := 0 }]
  methods := #[k13m0, k13m1]
  instanceTypes := #[(.object "java/lang/Object"), (.object "java/lang/String"), (.object "java/lang/Throwable"), (.array (.object "java/lang/StackTraceElement")), .int, (.object "java/util/List")]
  staticTypes := #[.long]
  resolved := Array.replicate 40 none
  statics := none }

def pool14 : Array CpInfo := pool [(1, .methodref 2 3), (0, .class_ 4), (0, .nameAndType 5 6), (0, u "com/example/coracle_health/coraclehealth/oauth/TokenError"), (0, u "<init>"), (0, u "(Lcom/example/coracle_health/coraclehealth/oauth/TokenError$Code;Ljava/lang/String;Ljava/lang/String;)V"), (0, .methodref 8 9), (0, .class_ 10), (0, .nameAndType 5 11), (0, u "java/lang/Exception"), (0, u "(Ljava/lang/String;)V"), (0, .fieldref 2 13), (0, .nameAndType 14 15), (0, u "code"), (0, u "Lcom/example/coracle_health/coraclehealth/oauth/TokenError$Code;"), (0, .fieldref 2 17), (0, .nameAndType 18 19), (0, u "challenge"), (0, u "Ljava/lang/String;"), (16, .class_ 38), (1, u "com/example/coracle_health/coraclehealth/oauth/TokenError$Code"), (15, u "serialVersionUID"), (0, u "J"), (3, u "(Lcom/example/coracle_health/coraclehealth/oauth/TokenError$Code;Ljava/lang/String;)V"), (2, u "status"), (0, u "()I")] 9

def k14c0 : Code := { maxStack := 4, maxLocals := 3, code := prog_92_method_1_code, exceptionTable := #[], attributes := #[] }
def k14m0 : Method := { name := "<init>", desc := "(Lcom/example/coracle_health/coraclehealth/oauth/TokenError$Code;Ljava/lang/String;)V", sig := { parameters := [(.object "com/example/coracle_health/coraclehealth/oauth/TokenError$Code"), (.object "java/lang/String")], returnType := none }, accessFlags := 1, code := some k14c0 }
def k14c1 : Code := { maxStack := 2, maxLocals := 4, code := prog_92_method_2_code, exceptionTable := #[], attributes := #[] }
def k14m1 : Method := { name := "<init>", desc := "(Lcom/example/coracle_health/coraclehealth/oauth/TokenError$Code;Ljava/lang/String;Ljava/lang/String;)V", sig := { parameters := [(.object "com/example/coracle_health/coraclehealth/oauth/TokenError$Code"), (.object "java/lang/String"), (.object "java/lang/String")], returnType := none }, accessFlags := 0, code := some k14c1 }
def k14c2 : Code := { maxStack := 1, maxLocals := 1, code := prog_92_method_3_code, exceptionTable := #[], attributes := #[] }
def k14m2 : Method := { name := "status", desc := "()I", sig := { parameters := [], returnType := some .int }, accessFlags := 1, code := some k14c2 }
/-- com/example/coracle_health/coraclehealth/oauth/TokenError -/
def k14 : Class := { plain "com/example/coracle_health/coraclehealth/oauth/TokenError" (some 13) with
  accessFlags := 49
  interfaces := #[]
  cf := some (fileOf pool14 2 #[.nestMembers #[36]] #[{ accessFlags := 1, nameIndex := 5, descriptorIndex := 59, attributes := #[] }, { accessFlags := 0, nameIndex := 5, descriptorIndex := 6, attributes := #[] }, { accessFlags := 1, nameIndex := 62, descriptorIndex := 63, attributes := #[] }] 49 8 #[] #[{ accessFlags := 26, nameIndex := 54, descriptorIndex := 55, attributes := #[] }, { accessFlags := 18, nameIndex := 14, descriptorIndex := 15, attributes := #[] }, { accessFlags := 18, nameIndex := 18, descriptorIndex := 19, attributes := #[] }])
  fields := #[{ name := "serialVersionUID", type := .long, accessFlags := 26, slot := 0, constantValue := 0 }, { name := "code", type := (.object "com/example/coracle_health/coraclehealth/oauth/TokenError$Code"), accessFlags := 18, slot := 6, constantValue := 0 }, { name := "challenge", type := (.object "java/lang/String"), accessFlags := 18, slot := 7, constantValue := 0 }]
  methods := #[k14m0, k14m1, k14m2]
  instanceTypes := #[(.object "java/lang/Object"), (.object "java/lang/String"), (.object "java/lang/Throwable"), (.array (.object "java/lang/StackTraceElement")), .int, (.object "java/util/List"), (.object "com/example/coracle_health/coraclehealth/oauth/TokenError$Code"), (.object "java/lang/String")]
  staticTypes := #[.long]
  resolved := Array.replicate 73 none
  statics := none }

def pool15 : Array CpInfo := pool [(2, .class_ 4), (1, u "java/lang/Object"), (0, u "<init>"), (0, u "()V"), (17, .class_ 26), (1, u "jdk/internal/util/Preconditions"), (28, .class_ 56), (0, u "jdk/internal/util/Preconditions$4"), (57, .class_ 115), (0, u "jdk/internal/util/Preconditions$1"), (7, u "SIOOBE_FORMATTER"), (0, u "Ljava/util/function/BiFunction;"), (0, .class_ 126), (0, u "jdk/internal/util/Preconditions$2"), (3, u "AIOOBE_FORMATTER"), (0, .class_ 132), (0, u "jdk/internal/util/Preconditions$3"), (3, u "IOOBE_FORMATTER")] 57

def k15m0 : Method := { name := "<init>", desc := "()V", sig := { parameters := [], returnType := none }, accessFlags := 1, code := none }
/-- jdk/internal/util/Preconditions -/
def k15 : Class := { plain "jdk/internal/util/Preconditions" (some 0) with
  accessFlags := 33
  interfaces := #[]
  cf := some (fileOf pool15 24 #[.nestMembers #[55, 131, 125, 114]] #[{ accessFlags := 1, nameIndex := 5, descriptorIndex := 6, attributes := #[] }] 33 2 #[] #[{ accessFlags := 25, nameIndex := 123, descriptorIndex := 124, attributes := #[] }, { accessFlags := 25, nameIndex := 130, descriptorIndex := 124, attributes := #[] }, { accessFlags := 25, nameIndex := 136, descriptorIndex := 124, attributes := #[] }])
  fields := #[{ name := "SIOOBE_FORMATTER", type := (.object "java/util/function/BiFunction"), accessFlags := 25, slot := 0, constantValue := 0 }, { name := "AIOOBE_FORMATTER", type := (.object "java/util/function/BiFunction"), accessFlags := 25, slot := 1, constantValue := 0 }, { name := "IOOBE_FORMATTER", type := (.object "java/util/function/BiFunction"), accessFlags := 25, slot := 2, constantValue := 0 }]
  methods := #[k15m0]
  instanceTypes := #[]
  staticTypes := #[(.object "java/util/function/BiFunction"), (.object "java/util/function/BiFunction"), (.object "java/util/function/BiFunction")]
  resolved := Array.replicate 194 none
  statics := some 3 }

def pool16 : Array CpInfo := pool [(9, u "<init>"), (6, .class_ 18), (1, u "java/lang/Object"), (0, u "()V"), (1, .class_ 23), (1, u "jdk/internal/util/ArraysSupport"), (0, u "LOG2_ARRAY_LONG_INDEX_SCALE"), (0, u "I"), (2, u "U"), (0, u "Ljdk/internal/misc/Unsafe;"), (8, u "BIG_ENDIAN"), (0, u "Z"), (8, u "LOG2_BYTE_BIT_SIZE"), (4, u "LOG2_ARRAY_INT_INDEX_SCALE"), (54, u "JLA"), (0, u "Ljdk/internal/access/JavaLangAccess;"), (11, u "LOG2_ARRAY_BOOLEAN_INDEX_SCALE"), (9, u "LOG2_ARRAY_BYTE_INDEX_SCALE"), (5, u "LOG2_ARRAY_CHAR_INDEX_SCALE"), (5, u "LOG2_ARRAY_SHORT_INDEX_SCALE"), (18, u "LOG2_ARRAY_FLOAT_INDEX_SCALE"), (24, u "LOG2_ARRAY_DOUBLE_INDEX_SCALE"), (89, u "T_BOOLEAN"), (2, u "T_CHAR"), (1, u "T_FLOAT"), (1, u "T_DOUBLE"), (1, u "T_BYTE"), (1, u "T_SHORT"), (1, u "T_INT"), (1, u "T_LONG"), (1, u "SOFT_MAX_ARRAY_LENGTH")] 83

def k16m0 : Method := { name := "<init>", desc := "()V", sig := { parameters := [], returnType := none }, accessFlags := 2, code := none }
/-- jdk/internal/util/ArraysSupport -/
def k16 : Class := { plain "jdk/internal/util/ArraysSupport" (some 0) with
  accessFlags := 33
  interfaces := #[]
  cf := some (fileOf pool16 21 #[] #[{ accessFlags := 2, nameIndex := 9, descriptorIndex := 19, attributes := #[] }] 33 16 #[] #[{ accessFlags := 24, nameIndex := 28, descriptorIndex := 29, attributes := #[] }, { accessFlags := 26, nameIndex := 38, descriptorIndex := 39, attributes := #[] }, { accessFlags := 25, nameIndex := 121, descriptorIndex := 25, attributes := #[] }, { accessFlags := 25, nameIndex := 131, descriptorIndex := 25, attributes := #[] }, { accessFlags := 25, nameIndex := 137, descriptorIndex := 25, attributes := #[] }, { accessFlags := 25, nameIndex := 143, descriptorIndex := 25, attributes := #[] }, { accessFlags := 25, nameIndex := 53, descriptorIndex := 25, attributes := #[] }, { accessFlags := 25, nameIndex := 24, descriptorIndex := 25, attributes := #[] }, { accessFlags := 25, nameIndex := 162, descriptorIndex := 25, attributes := #[] }, { accessFlags := 25, nameIndex := 187, descriptorIndex := 25, attributes := #[] }, { accessFlags := 26, nameIndex := 48, descriptorIndex := 25, attributes := #[] }, { accessFlags := 25, nameIndex := 277, descriptorIndex := 25, attributes := #[] }, { accessFlags := 25, nameIndex := 280, descriptorIndex := 25, attributes := #[] }, { accessFlags := 25, nameIndex := 282, descriptorIndex := 25, attributes := #[] }, { accessFlags := 25, nameIndex := 284, descriptorIndex := 25, attributes := #[] }, { accessFlags := 25, nameIndex := 286, descriptorIndex := 25, attributes := #[] }, { accessFlags := 25, nameIndex := 288, descriptorIndex := 25, attributes := #[] }, { accessFlags := 25, nameIndex := 290, descriptorIndex := 25, attributes := #[] }, { accessFlags := 25, nameIndex := 292, descriptorIndex := 25, attributes := #[] }, { accessFlags := 26, nameIndex := 108, descriptorIndex := 109, attributes := #[] }, { accessFlags := 25, nameIndex := 294, descriptorIndex := 25, attributes := #[] }])
  fields := #[{ name := "U", type := (.object "jdk/internal/misc/Unsafe"), accessFlags := 24, slot := 0, constantValue := 0 }, { name := "BIG_ENDIAN", type := .boolean, accessFlags := 26, slot := 1, constantValue := 0 }, { name := "LOG2_ARRAY_BOOLEAN_INDEX_SCALE", type := .int, accessFlags := 25, slot := 2, constantValue := 0 }, { name := "LOG2_ARRAY_BYTE_INDEX_SCALE", type := .int, accessFlags := 25, slot := 3, constantValue := 0 }, { name := "LOG2_ARRAY_CHAR_INDEX_SCALE", type := .int, accessFlags := 25, slot := 4, constantValue := 0 }, { name := "LOG2_ARRAY_SHORT_INDEX_SCALE", type := .int, accessFlags := 25, slot := 5, constantValue := 0 }, { name := "LOG2_ARRAY_INT_INDEX_SCALE", type := .int, accessFlags := 25, slot := 6, constantValue := 0 }, { name := "LOG2_ARRAY_LONG_INDEX_SCALE", type := .int, accessFlags := 25, slot := 7, constantValue := 0 }, { name := "LOG2_ARRAY_FLOAT_INDEX_SCALE", type := .int, accessFlags := 25, slot := 8, constantValue := 0 }, { name := "LOG2_ARRAY_DOUBLE_INDEX_SCALE", type := .int, accessFlags := 25, slot := 9, constantValue := 0 }, { name := "LOG2_BYTE_BIT_SIZE", type := .int, accessFlags := 26, slot := 10, constantValue := 0 }, { name := "T_BOOLEAN", type := .int, accessFlags := 25, slot := 11, constantValue := 0 }, { name := "T_CHAR", type := .int, accessFlags := 25, slot := 12, constantValue := 0 }, { name := "T_FLOAT", type := .int, accessFlags := 25, slot := 13, constantValue := 0 }, { name := "T_DOUBLE", type := .int, accessFlags := 25, slot := 14, constantValue := 0 }, { name := "T_BYTE", type := .int, accessFlags := 25, slot := 15, constantValue := 0 }, { name := "T_SHORT", type := .int, accessFlags := 25, slot := 16, constantValue := 0 }, { name := "T_INT", type := .int, accessFlags := 25, slot := 17, constantValue := 0 }, { name := "T_LONG", type := .int, accessFlags := 25, slot := 18, constantValue := 0 }, { name := "JLA", type := (.object "jdk/internal/access/JavaLangAccess"), accessFlags := 26, slot := 19, constantValue := 0 }, { name := "SOFT_MAX_ARRAY_LENGTH", type := .int, accessFlags := 25, slot := 20, constantValue := 0 }]
  methods := #[k16m0]
  instanceTypes := #[]
  staticTypes := #[(.object "jdk/internal/misc/Unsafe"), .boolean, .int, .int, .int, .int, .int, .int, .int, .int, .int, .int, .int, .int, .int, .int, .int, .int, .int, (.object "jdk/internal/access/JavaLangAccess"), .int]
  resolved := Array.replicate 378 none
  statics := none }

def pool17 : Array CpInfo := pool [(2, .class_ 4), (1, u "java/lang/Object"), (0, u "<init>"), (0, u "()V"), (12, .class_ 20), (0, u "java/util/Collections"), (63, u "r"), (0, u "Ljava/util/Random;"), (80, .class_ 167), (0, u "java/util/Collections$UnmodifiableCollection"), (6, .class_ 175), (0, u "java/util/Collections$UnmodifiableSequencedCollection"), (6, .class_ 183), (0, u "java/util/Collections$UnmodifiableSet"), (6, .class_ 191), (0, u "java/util/Collections$UnmodifiableSequencedSet"), (6, .class_ 199), (0, u "java/util/Collections$UnmodifiableSortedSet"), (6, .class_ 207), (0, u "java/util/Collections$UnmodifiableNavigableSet"), (4, .class_ 213), (0, u "java/util/Collections$UnmodifiableList"), (1, .class_ 216), (0, u "java/util/Collections$UnmodifiableRandomAccessList"), (6, .class_ 224), (0, u "java/util/Collections$UnmodifiableMap"), (6, .class_ 232), (0, u "java/util/Collections$UnmodifiableSequencedMap"), (4, .class_ 238), (0, u "java/util/Collections$UnmodifiableSortedMap"), (6, .class_ 246), (0, u "java/util/Collections$UnmodifiableNavigableMap"), (3, .class_ 251), (0, u "java/util/Collections$SynchronizedCollection"), (4, .class_ 257), (0, u "java/util/Collections$SynchronizedSet"), (4, .class_ 263), (0, u "java/util/Collections$SynchronizedSortedSet"), (1, .class_ 266), (0, u "java/util/Collections$SynchronizedNavigableSet"), (1, .class_ 269), (0, u "java/util/Collections$SynchronizedRandomAccessList"), (1, .class_ 272), (0, u "java/util/Collections$SynchronizedList"), (5, .class_ 279), (0, u "java/util/Collections$SynchronizedMap"), (1, .class_ 282), (0, u "java/util/Collections$SynchronizedSortedMap"), (1, .class_ 285), (0, u "java/util/Collections$SynchronizedNavigableMap"), (1, .class_ 288), (0, u "java/util/Collections$CheckedCollection"), (11, .class_ 301), (0, u "java/util/Collections$CheckedQueue"), (3, .class_ 306), (0, u "java/util/Collections$CheckedSet"), (3, .class_ 311), (0, u "java/util/Collections$CheckedSortedSet"), (3, .class_ 316), (0, u "java/util/Collections$CheckedNavigableSet"), (3, .class_ 321), (0, u "java/util/Collections$CheckedRandomAccessList"), (3, .class_ 326), (0, u "java/util/Collections$CheckedList"), (1, .class_ 329), (0, u "java/util/Collections$CheckedMap"), (3, .class_ 334), (0, u "java/util/Collections$CheckedSortedMap"), (3, .class_ 339), (0, u "java/util/Collections$CheckedNavigableMap"), (4, .class_ 346), (1, u "java/util/Collections$EmptyIterator"), (3, .class_ 352), (1, u "java/util/Collections$EmptyListIterator"), (2, .class_ 357), (1, u "java/util/Collections$EmptyEnumeration"), (4, u "EMPTY_SET"), (0, u "Ljava/util/Set;"), (6, u "EMPTY_LIST"), (0, u "Ljava/util/List;"), (2, u "EMPTY_MAP"), (0, u "Ljava/util/Map;"), (4, .class_ 381), (0, u "java/util/Collections$SingletonSet"), (2, .class_ 385), (0, u "java/util/Collections$1"), (1, .class_ 388), (0, u "java/util/Collections$2"), (1, .class_ 391), (0, u "java/util/Collections$SingletonList"), (1, .class_ 394), (0, u "java/util/Collections$SingletonMap"), (22, .class_ 418), (0, u "java/util/Collections$CopiesList"), (4, .class_ 425), (1, u "java/util/Collections$ReverseComparator"), (8, .class_ 435), (0, u "java/util/Collections$ReverseComparator2"), (6, .class_ 443), (0, u "java/util/Collections$3"), (25, .class_ 470), (0, u "java/util/Collections$SetFromMap"), (2, .class_ 474), (0, u "java/util/Collections$SequencedSetFromMap"), (3, .class_ 479), (0, u "java/util/Collections$AsLIFOQueue"), (11, .class_ 492), (0, u "java/util/Collections$EmptySet"), (1, .class_ 495), (0, u "java/util/Collections$EmptyList"), (1, .class_ 498), (0, u "java/util/Collections$EmptyMap"), (1, u "BINARYSEARCH_THRESHOLD"), (0, u "I"), (2, u "REVERSE_THRESHOLD"), (1, u "SHUFFLE_THRESHOLD"), (1, u "FILL_THRESHOLD"), (1, u "ROTATE_THRESHOLD"), (1, u "COPY_THRESHOLD"), (1, u "REPLACEALL_THRESHOLD"), (1, u "INDEXOFSUBLIST_THRESHOLD"), (333, .class_ 851), (0, u "java/util/Collections$CheckedMap$CheckedEntrySet"), (0, .class_ 853), (0, u "java/util/Collections$CheckedMap$CheckedEntrySet$CheckedEntry"), (0, .class_ 855), (0, u "java/util/Collections$CheckedMap$CheckedEntrySet$1"), (0, .class_ 857), (0, u "java/util/Collections$CheckedList$1"), (0, .class_ 859), (0, u "java/util/Collections$CheckedCollection$1"), (0, .class_ 861), (0, u "java/util/Collections$UnmodifiableNavigableMap$EmptyNavigableMap"), (0, .class_ 863), (0, u "java/util/Collections$UnmodifiableMap$UnmodifiableEntrySet"), (0, .class_ 865), (0, u "java/util/Collections$UnmodifiableMap$UnmodifiableEntrySet$UnmodifiableEntry"), (0, .class_ 867), (0, u "java/util/Collections$UnmodifiableMap$UnmodifiableEntrySet$UnmodifiableEntrySetSpliterator"), (0, .class_ 869), (0, u "java/util/Collections$UnmodifiableMap$UnmodifiableEntrySet$1"), (0, .class_ 871), (0, u "java/util/Collections$UnmodifiableList$1"), (0, .class_ 873), (0, u "java/util/Collections$UnmodifiableNavigableSet$EmptyNavigableSet"), (0, .class_ 875), (0, u "java/util/Collections$UnmodifiableCollection$1")] 57

def k17m0 : Method := { name := "<init>", desc := "()V", sig := { parameters := [], returnType := none }, accessFlags := 2, code := none }
/-- java/util/Collections -/
def k17 : Class := { plain "java/util/Collections" (some 0) with
  accessFlags := 33
  interfaces := #[]
  cf := some (fileOf pool17 19 #[.nestMembers #[478, 473, 469, 434, 423, 417, 393, 390, 380, 497, 494, 491, 355, 350, 344, 338, 333, 328, 850, 852, 854, 320, 325, 856, 315, 310, 305, 300, 287, 858, 284, 281, 278, 268, 271, 265, 262, 256, 250, 245, 860, 237, 231, 223, 862, 864, 866, 868, 215, 212, 870, 206, 872, 198, 190, 182, 174, 166, 874, 442, 387, 384]] #[{ accessFlags := 2, nameIndex := 5, descriptorIndex := 6, attributes := #[] }] 33 2 #[] #[{ accessFlags := 26, nameIndex := 500, descriptorIndex := 501, attributes := #[] }, { accessFlags := 26, nameIndex := 504, descriptorIndex := 501, attributes := #[] }, { accessFlags := 26, nameIndex := 506, descriptorIndex := 501, attributes := #[] }, { accessFlags := 26, nameIndex := 508, descriptorIndex := 501, attributes := #[] }, { accessFlags := 26, nameIndex := 510, descriptorIndex := 501, attributes := #[] }, { accessFlags := 26, nameIndex := 512, descriptorIndex := 501, attributes := #[] }, { accessFlags := 26, nameIndex := 514, descriptorIndex := 501, attributes := #[] }, { accessFlags := 26, nameIndex := 516, descriptorIndex := 501, attributes := #[] }, { accessFlags := 10, nameIndex := 84, descriptorIndex := 85, attributes := #[] }, { accessFlags := 25, nameIndex := 362, descriptorIndex := 363, attributes := #[] }, { accessFlags := 25, nameIndex := 370, descriptorIndex := 371, attributes := #[] }, { accessFlags := 25, nameIndex := 374, descriptorIndex := 375, attributes := #[] }])
  fields := #[{ name := "BINARYSEARCH_THRESHOLD", type := .int, accessFlags := 26, slot := 0, constantValue := 0 }, { name := "REVERSE_THRESHOLD", type := .int, accessFlags := 26, slot := 1, constantValue := 0 }, { name := "SHUFFLE_THRESHOLD", type := .int, accessFlags := 26, slot := 2, constantValue := 0 }, { name := "FILL_THRESHOLD", type := .int, accessFlags := 26, slot := 3, constantValue := 0 }, { name := "ROTATE_THRESHOLD", type := .int, accessFlags := 26, slot := 4, constantValue := 0 }, { name := "COPY_THRESHOLD", type := .int, accessFlags := 26, slot := 5, constantValue := 0 }, { name := "REPLACEALL_THRESHOLD", type := .int, accessFlags := 26, slot := 6, constantValue := 0 }, { name := "INDEXOFSUBLIST_THRESHOLD", type := .int, accessFlags := 26, slot := 7, constantValue := 0 }, { name := "r", type := (.object "java/util/Random"), accessFlags := 10, slot := 8, constantValue := 0 }, { name := "EMPTY_SET", type := (.object "java/util/Set"), accessFlags := 25, slot := 9, constantValue := 0 }, { name := "EMPTY_LIST", type := (.object "java/util/List"), accessFlags := 25, slot := 10, constantValue := 0 }, { name := "EMPTY_MAP", type := (.object "java/util/Map"), accessFlags := 25, slot := 11, constantValue := 0 }]
  methods := #[k17m0]
  instanceTypes := #[]
  staticTypes := #[.int, .int, .int, .int, .int, .int, .int, .int, (.object "java/util/Random"), (.object "java/util/Set"), (.object "java/util/List"), (.object "java/util/Map")]
  resolved := Array.replicate 933 none
  statics := some 4 }

def pool18 : Array CpInfo := pool [(8, .class_ 10), (1, u "java/lang/Iterable"), (24, .class_ 36), (0, u "java/lang/Object")] 25

/-- java/lang/Iterable -/
def k18 : Class := { plain "java/lang/Iterable" (some 0) with
  accessFlags := 1537
  interfaces := #[]
  cf := some (fileOf pool18 8 #[] #[] 1537 35 #[] #[])
  fields := #[]
  methods := #[]
  instanceTypes := #[]
  staticTypes := #[]
  resolved := Array.replicate 62 none
  statics := none }

def pool19 : Array CpInfo := pool [(10, .class_ 12), (1, u "java/util/Collection"), (47, .class_ 61), (0, u "java/lang/Object"), (0, .class_ 63), (0, u "java/lang/Iterable")] 51

/-- java/util/Collection -/
def k19 : Class := { plain "java/util/Collection" (some 0) with
  accessFlags := 1537
  interfaces := #[18]
  cf := some (fileOf pool19 10 #[] #[] 1537 60 #[62] #[])
  fields := #[]
  methods := #[]
  instanceTypes := #[]
  staticTypes := #[]
  resolved := Array.replicate 115 none
  statics := none }

def pool20 : Array CpInfo := pool [(2, .class_ 4), (1, u "java/lang/Object"), (0, u "<init>"), (0, u "()V"), (1, .class_ 10), (1, u "java/util/AbstractCollection"), (66, .class_ 78), (0, u "java/util/Collection")] 81

def k20m0 : Method := { name := "<init>", desc := "()V", sig := { parameters := [], returnType := none }, accessFlags := 4, code := none }
/-- java/util/AbstractCollection -/
def k20 : Class := { plain "java/util/AbstractCollection" (some 0) with
  accessFlags := 1057
  interfaces := #[19]
  cf := some (fileOf pool20 8 #[] #[{ accessFlags := 4, nameIndex := 5, descriptorIndex := 6, attributes := #[] }] 1057 2 #[77] #[])
  fields := #[]
  methods := #[k20m0]
  instanceTypes := #[]
  staticTypes := #[]
  resolved := Array.replicate 160 none
  statics := none }

def pool21 : Array CpInfo := pool [(8, .class_ 10), (1, u "java/util/SequencedCollection"), (15, .class_ 27), (0, u "java/lang/Object"), (0, .class_ 29), (0, u "java/util/Collection")] 27

/-- java/util/SequencedCollection -/
def k21 : Class := { plain "java/util/SequencedCollection" (some 0) with
  accessFlags := 1537
  interfaces := #[19]
  cf := some (fileOf pool21 8 #[] #[] 1537 26 #[28] #[])
  fields := #[]
  methods := #[]
  instanceTypes := #[]
  staticTypes := #[]
  resolved := Array.replicate 57 none
  statics := none }

def pool22 : Array CpInfo := pool [(8, .class_ 10), (1, u "java/util/List"), (92, .class_ 104), (0, u "java/lang/Object"), (15, .class_ 121), (0, u "java/util/SequencedCollection")] 129

/-- java/util/List -/
def k22 : Class := { plain "java/util/List" (some 0) with
  accessFlags := 1537
  interfaces := #[21]
  cf := some (fileOf pool22 8 #[] #[] 1537 103 #[120] #[])
  fields := #[]
  methods := #[]
  instanceTypes := #[]
  staticTypes := #[]
  resolved := Array.replicate 251 none
  statics := none }

def pool23 : Array CpInfo := pool [(2, .class_ 4), (1, u "java/util/AbstractCollection"), (0, u "<init>"), (0, u "()V"), (1, .class_ 10), (1, u "java/util/AbstractList"), (0, u "modCount"), (0, u "I"), (64, .class_ 78), (0, u "java/util/AbstractList$Itr"), (3, .class_ 83), (0, u "java/util/AbstractList$ListItr"), (9, .class_ 94), (0, u "java/util/AbstractList$RandomAccessSubList"), (3, .class_ 99), (0, u "java/util/AbstractList$SubList"), (33, .class_ 134), (0, u "java/util/List"), (73, .class_ 209), (0, u "java/util/AbstractList$SubList$1"), (0, .class_ 211), (0, u "java/util/AbstractList$RandomAccessSpliterator")] 6

def k23m0 : Method := { name := "<init>", desc := "()V", sig := { parameters := [], returnType := none }, accessFlags := 4, code := none }
/-- java/util/AbstractList -/
def k23 : Class := { plain "java/util/AbstractList" (some 20) with
  accessFlags := 1057
  interfaces := #[22]
  cf := some (fileOf pool23 8 #[.nestMembers #[93, 98, 208, 210, 82, 77]] #[{ accessFlags := 4, nameIndex := 5, descriptorIndex := 6, attributes := #[] }] 1057 2 #[133] #[{ accessFlags := 132, nameIndex := 11, descriptorIndex := 12, attributes := #[] }])
  fields := #[{ name := "modCount", type := .int, accessFlags := 132, slot := 0, constantValue := 0 }]
  methods := #[k23m0]
  instanceTypes := #[.int]
  staticTypes := #[]
  resolved := Array.replicate 218 none
  statics := none }

def pool24 : Array CpInfo := pool [(1, .class_ 2), (0, u "java/util/RandomAccess"), (0, .class_ 4), (0, u "java/lang/Object")] 2

/-- java/util/RandomAccess -/
def k24 : Class := { plain "java/util/RandomAccess" (some 0) with
  accessFlags := 1537
  interfaces := #[]
  cf := some (fileOf pool24 1 #[] #[] 1537 3 #[] #[])
  fields := #[]
  methods := #[]
  instanceTypes := #[]
  staticTypes := #[]
  resolved := Array.replicate 7 none
  statics := none }

def pool25 : Array CpInfo := pool [(2, .class_ 4), (1, u "java/util/AbstractList"), (0, u "<init>"), (0, u "()V"), (1, .class_ 10), (1, u "java/util/Collections"), (54, .class_ 66), (0, u "java/util/Collections$EmptyList"), (0, .class_ 68), (0, u "java/util/RandomAccess"), (0, .class_ 70), (0, u "java/io/Serializable"), (0, u "serialVersionUID"), (0, u "J")] 77

def k25m0 : Method := { name := "<init>", desc := "()V", sig := { parameters := [], returnType := none }, accessFlags := 2, code := none }
/-- java/util/Collections$EmptyList -/
def k25 : Class := { plain "java/util/Collections$EmptyList" (some 23) with
  accessFlags := 32
  interfaces := #[24, 4]
  cf := some (fileOf pool25 65 #[.nestHost 8] #[{ accessFlags := 2, nameIndex := 5, descriptorIndex := 6, attributes := #[] }] 32 2 #[67, 69] #[{ accessFlags := 26, nameIndex := 71, descriptorIndex := 72, attributes := #[] }])
  fields := #[{ name := "serialVersionUID", type := .long, accessFlags := 26, slot := 0, constantValue := 0 }]
  methods := #[k25m0]
  instanceTypes := #[.int]
  staticTypes := #[.long]
  resolved := Array.replicate 150 none
  statics := none }

def pool26 : Array CpInfo := pool [(2, .class_ 4), (1, u "java/lang/StackTraceElement"), (0, u "<init>"), (2, .class_ 10), (1, u "java/lang/Object"), (0, u "()V"), (2, u "format"), (0, u "B"), (2, u "classLoaderName"), (0, u "Ljava/lang/String;"), (2, u "moduleName"), (2, u "moduleVersion"), (12, u "declaringClass"), (4, u "methodName"), (2, u "fileName"), (2, u "lineNumber"), (0, u "I"), (65, u "declaringClassObject"), (0, u "Ljava/lang/Class;"), (33, .class_ 153), (1, u "java/lang/StackTraceElement$HashedModules"), (17, .class_ 172), (0, u "java/io/Serializable"), (0, u "NATIVE_METHOD"), (1, u "UNKNOWN_SOURCE"), (2, u "BUILTIN_CLASS_LOADER"), (1, u "JDK_NON_UPGRADEABLE_MODULE"), (1, u "serialVersionUID"), (0, u "J")] 51

def k26m0 : Method := { name := "<init>", desc := "()V", sig := { parameters := [], returnType := none }, accessFlags := 2, code := none }
/-- java/lang/StackTraceElement -/
def k26 : Class := { plain "java/lang/StackTraceElement" (some 0) with
  accessFlags := 49
  interfaces := #[4]
  cf := some (fileOf pool26 2 #[.nestMembers #[151]] #[{ accessFlags := 2, nameIndex := 5, descriptorIndex := 11, attributes := #[] }] 49 8 #[171] #[{ accessFlags := 26, nameIndex := 173, descriptorIndex := 19, attributes := #[] }, { accessFlags := 26, nameIndex := 175, descriptorIndex := 19, attributes := #[] }, { accessFlags := 130, nameIndex := 116, descriptorIndex := 117, attributes := #[] }, { accessFlags := 2, nameIndex := 18, descriptorIndex := 19, attributes := #[] }, { accessFlags := 2, nameIndex := 22, descriptorIndex := 19, attributes := #[] }, { accessFlags := 2, nameIndex := 25, descriptorIndex := 19, attributes := #[] }, { accessFlags := 2, nameIndex := 38, descriptorIndex := 19, attributes := #[] }, { accessFlags := 2, nameIndex := 43, descriptorIndex := 19, attributes := #[] }, { accessFlags := 2, nameIndex := 46, descriptorIndex := 19, attributes := #[] }, { accessFlags := 2, nameIndex := 49, descriptorIndex := 50, attributes := #[] }, { accessFlags := 2, nameIndex := 14, descriptorIndex := 15, attributes := #[] }, { accessFlags := 26, nameIndex := 178, descriptorIndex := 15, attributes := #[] }, { accessFlags := 26, nameIndex := 180, descriptorIndex := 15, attributes := #[] }, { accessFlags := 26, nameIndex := 182, descriptorIndex := 183, attributes := #[] }])
  fields := #[{ name := "NATIVE_METHOD", type := (.object "java/lang/String"), accessFlags := 26, slot := 0, constantValue := 0 }, { name := "UNKNOWN_SOURCE", type := (.object "java/lang/String"), accessFlags := 26, slot := 1, constantValue := 0 }, { name := "declaringClassObject", type := (.object "java/lang/Class"), accessFlags := 130, slot := 0, constantValue := 0 }, { name := "classLoaderName", type := (.object "java/lang/String"), accessFlags := 2, slot := 1, constantValue := 0 }, { name := "moduleName", type := (.object "java/lang/String"), accessFlags := 2, slot := 2, constantValue := 0 }, { name := "moduleVersion", type := (.object "java/lang/String"), accessFlags := 2, slot := 3, constantValue := 0 }, { name := "declaringClass", type := (.object "java/lang/String"), accessFlags := 2, slot := 4, constantValue := 0 }, { name := "methodName", type := (.object "java/lang/String"), accessFlags := 2, slot := 5, constantValue := 0 }, { name := "fileName", type := (.object "java/lang/String"), accessFlags := 2, slot := 6, constantValue := 0 }, { name := "lineNumber", type := .int, accessFlags := 2, slot := 7, constantValue := 0 }, { name := "format", type := .byte, accessFlags := 2, slot := 8, constantValue := 0 }, { name := "BUILTIN_CLASS_LOADER", type := .byte, accessFlags := 26, slot := 2, constantValue := 0 }, { name := "JDK_NON_UPGRADEABLE_MODULE", type := .byte, accessFlags := 26, slot := 3, constantValue := 0 }, { name := "serialVersionUID", type := .long, accessFlags := 26, slot := 4, constantValue := 0 }]
  methods := #[k26m0]
  instanceTypes := #[(.object "java/lang/Class"), (.object "java/lang/String"), (.object "java/lang/String"), (.object "java/lang/String"), (.object "java/lang/String"), (.object "java/lang/String"), (.object "java/lang/String"), .int, .byte]
  staticTypes := #[(.object "java/lang/String"), (.object "java/lang/String"), .byte, .byte, .long]
  resolved := Array.replicate 235 none
  statics := none }

def pool27 : Array CpInfo := pool [(1, u "java/lang/Cloneable"), (0, .class_ 1), (0, u "java/lang/Object"), (0, .class_ 3)] 3

/-- java/lang/Cloneable -/
def k27 : Class := { plain "java/lang/Cloneable" (some 0) with
  accessFlags := 1537
  interfaces := #[]
  cf := some (fileOf pool27 2 #[] #[] 1537 4 #[] #[])
  fields := #[]
  methods := #[]
  instanceTypes := #[]
  staticTypes := #[]
  resolved := Array.replicate 8 none
  statics := none }

/-- the primitive byte -/
def k28 : Class := { plain "byte" none with kind := .primitive 'B', accessFlags := 0x411 }
/-- [B -/
def k29 : Class := { plain "[B" (some 0) with kind := .array 28 .byte, interfaces := #[27, 4], accessFlags := 1041 }

/-- the primitive char -/
def k30 : Class := { plain "char" none with kind := .primitive 'C', accessFlags := 0x411 }
/-- [C -/
def k31 : Class := { plain "[C" (some 0) with kind := .array 30 .char, interfaces := #[27, 4], accessFlags := 1041 }

/-- the primitive int -/
def k32 : Class := { plain "int" none with kind := .primitive 'I', accessFlags := 0x411 }
/-- [I -/
def k33 : Class := { plain "[I" (some 0) with kind := .array 32 .int, interfaces := #[27, 4], accessFlags := 1041 }

/-- [Ljava/lang/Object; -/
def k34 : Class := { plain "[Ljava/lang/Object;" (some 0) with kind := .array 0 (.object "java/lang/Object"), interfaces := #[27, 4], accessFlags := 1041 }

/-- [Ljava/lang/StackTraceElement; -/
def k35 : Class := { plain "[Ljava/lang/StackTraceElement;" (some 0) with kind := .array 26 (.object "java/lang/StackTraceElement"), interfaces := #[27, 4], accessFlags := 1041 }

/-- [Ljava/lang/Throwable; -/
def k36 : Class := { plain "[Ljava/lang/Throwable;" (some 0) with kind := .array 12 (.object "java/lang/Throwable"), interfaces := #[27, 4], accessFlags := 1041 }

def heap : Heap := #[{ cls := 6, slots := #[.ref 5, .ref 6, .ref 7, .ref 8, .ref 9, .ref 10, .null], vm := .statics 6 },
  { cls := 9, slots := #[.long 0, .int 1, .null, .int 0, .null, .int 0, .int 0], vm := .statics 9 },
  { cls := 12, slots := #[.long 0, .ref 11, .ref 12, .null, .null, .null, .null, .ref 13, .int 1], vm := .statics 12 },
  { cls := 15, slots := #[.null, .null, .null], vm := .statics 15 },
  { cls := 17, slots := #[.int 0, .int 0, .int 0, .int 0, .int 0, .int 0, .int 0, .int 0, .null, .null, .ref 12, .null], vm := .statics 17 },
  { cls := 6, slots := #[.null, .int 0, .int 0, .null], vm := .none },
  { cls := 6, slots := #[.null, .int 0, .int 0, .null], vm := .none },
  { cls := 6, slots := #[.null, .int 0, .int 0, .null], vm := .none },
  { cls := 6, slots := #[.null, .int 0, .int 0, .null], vm := .none },
  { cls := 6, slots := #[.null, .int 0, .int 0, .null], vm := .none },
  { cls := 6, slots := #[.null, .int 0, .int 0, .null], vm := .none },
  { cls := 35, slots := #[], vm := .none },
  { cls := 25, slots := #[.int 0], vm := .none },
  { cls := 36, slots := #[], vm := .none }]
def classes : Array Class := #[k0, k1, k2, k3, k4, k5, k6, k7, k8, k9, k10, k11, k12, k13, k14, k15, k16, k17, k18, k19, k20, k21, k22, k23, k24, k25, k26, k27, k28, k29, k30, k31, k32, k33, k34, k35, k36]
def interned : List (Array UInt16 × Addr) := []
def slotsUsed : Nat := 63
def theMethod : MethodId := ⟨1, 2⟩
def args0 : Array Value := #[.int 5, .int 6, .int 7, .int 8]
def aboutOver (below : List Frame) : State where
  vm := { classes := classes, interned := interned.toArray }
  heap := heap
  slotsUsed := slotsUsed
  threads := #[{ frames := .invoking theMethod args0 :: below }]
def below0 : List Frame := [.native { method := ⟨0, 0⟩, args := #[] }]
def about1 : State := aboutOver below0
def p0 : Program := .bare "" "" ""
def e0 : Env := launch0.env 0 0 0
theorem w_frames : about1.frames = Frame.invoking theMethod args0 :: below0 := rfl
set_option maxRecDepth 65536 in
theorem w_args : argsFit about1.vm theMethod args0 = true := by decide +kernel
set_option maxRecDepth 65536 in
theorem w_heap : heapFits about1 = true := by decide +kernel
set_option maxRecDepth 65536 in
theorem w_runnable : about1.curStatus? = some .runnable := by decide +kernel
set_option maxRecDepth 65536 in
theorem w_alone : about1.alone = true := by decide +kernel
set_option maxRecDepth 65536 in
theorem w_named : about1.methodNamed? x = some theMethod := by decide +kernel
set_option maxRecDepth 65536 in
theorem w_hears : about1.hears theMethod below0 = true := by decide +kernel
set_option maxRecDepth 65536 in
theorem w_ripe : about1.ripe theMethod args0 below0 = true := by decide +kernel
theorem w_running : about1.status = .running := rfl
set_option maxRecDepth 65536 in
theorem w_room : about1.hasRoom e0.platform room_1 = true :=
  launch0.hasRoom_least _ room_1 (by decide +kernel) (by decide +kernel) (by decide +kernel) (by decide +kernel) (by decide +kernel) (by decide +kernel)
theorem allAtoms_all (ts : List Jvm.Cond) (a : Array Jvm.Value) (st : Jvm.State) : (allAtoms ts).before a st = ts.all (fun c => c.before a st) := by
  induction ts with
  | nil => rfl
  | cons c t ih =>
    show (Jvm.Cond.and c (allAtoms t)).before a st = _
    rw [Jvm.Cond.before_and, ih, List.all_cons]
def words1 : List Jvm.Cond := Jvm.Cond.code x code maxLocals ret :: tables_1
/-- a 'code' word, met by the world's own term for the bytes: nothing is compared byte by byte -/
theorem code_word {y : MethodName} {bytes : ByteArray} {mx : Nat} {rt : Option FieldType} {a : Array Value} {s : State} {m : MethodId} {meth : Method} {c : Code} (h1 : s.methodNamed? y = some m) (h2 : s.vm.method? m = some meth) (h3 : meth.code = some c) (h4 : c.code = bytes)
    (h5 : (c.maxLocals == mx && c.exceptionTable.isEmpty && decide (c.maxStack ≤ mostOperands) && decide (meth.sig.returnType = rt) && !meth.locks && decide (parseMethodDescriptor y.desc = some meth.sig)) = true) : (Jvm.Cond.code y bytes mx rt).before a s = true := by
  simp only [Bool.and_eq_true, beq_iff_eq, Bool.not_eq_true', decide_eq_true_eq] at h5
  obtain ⟨⟨⟨⟨⟨g1, g2⟩, g3⟩, g4⟩, g5⟩, g6⟩ := h5
  simp [Cond.before, Cond.holds, Cond.value, h1, h2, h3, h4, g1, g2, g3, g4, g5, g6]
def isCode : Jvm.Cond → Bool
  | .code _ _ _ _ => true
  | _ => false
theorem all_split {L : List Jvm.Cond} {P : Jvm.Cond → Bool} (h1 : L.all (fun c => isCode c || P c) = true) (h2 : ∀ c ∈ L.filter isCode, P c = true) : L.all P = true := by
  refine List.all_eq_true.mpr fun c hc => ?_
  have h := List.all_eq_true.mp h1 c hc
  rcases Bool.eq_false_or_eq_true (isCode c) with hi | hi
  · exact h2 c (List.mem_filter.mpr ⟨hc, hi⟩)
  · simpa [hi] using h
set_option maxRecDepth 65536 in
theorem w_c0 : (Jvm.Cond.code x code maxLocals ret).before args0 about1 = true := code_word (m := ⟨1, 2⟩) (meth := k1m2) (c := k1c2) (by decide +kernel) rfl rfl rfl (by decide +kernel)
set_option maxRecDepth 65536 in
theorem w_c1 : (Jvm.Cond.code ({ cls := "com/example/coracle_health/coraclehealth/oauth/TokenErrorStatusPinLaw", name := "pick", desc := "(I)Lcom/example/coracle_health/coraclehealth/oauth/TokenError$Code;" } : Jvm.MethodName) method_2_code (2 : Nat) (Option.some (Jvm.ClassFile.FieldType.object "com/example/coracle_health/coraclehealth/oauth/TokenError$Code"))).before args0 about1 = true := code_word (m := ⟨1, 1⟩) (meth := k1m1) (c := k1c1) (by decide +kernel) rfl rfl rfl (by decide +kernel)
set_option maxRecDepth 65536 in
theorem w_c2 : (Jvm.Cond.code ({ cls := "java/lang/String", name := "<init>", desc := "([C)V" } : Jvm.MethodName) jdk_42_method_3_code (2 : Nat) (Option.none : Option Jvm.ClassFile.FieldType)).before args0 about1 = true := code_word (m := ⟨9, 1⟩) (meth := k9m1) (c := k9c1) (by decide +kernel) rfl rfl rfl (by decide +kernel)
set_option maxRecDepth 65536 in
theorem w_c3 : (Jvm.Cond.code ({ cls := "java/lang/String", name := "<init>", desc := "([CIILjava/lang/Void;)V" } : Jvm.MethodName) jdk_42_method_149_code (6 : Nat) (Option.none : Option Jvm.ClassFile.FieldType)).before args0 about1 = true := code_word (m := ⟨9, 3⟩) (meth := k9m3) (c := k9c3) (by decide +kernel) rfl rfl rfl (by decide +kernel)
set_option maxRecDepth 65536 in
theorem w_c4 : (Jvm.Cond.code ({ cls := "java/lang/Object", name := "<init>", desc := "()V" } : Jvm.MethodName) object_method_1_code (1 : Nat) (Option.none : Option Jvm.ClassFile.FieldType)).before args0 about1 = true := code_word (m := ⟨0, 0⟩) (meth := k0m0) (c := k0c0) (by decide +kernel) rfl rfl rfl (by decide +kernel)
set_option maxRecDepth 65536 in
theorem w_c5 : (Jvm.Cond.code ({ cls := "java/lang/StringUTF16", name := "compress", desc := "([CII)[B" } : Jvm.MethodName) jdk_52_method_16_code (6 : Nat) (Option.some (Jvm.ClassFile.FieldType.array Jvm.ClassFile.FieldType.byte))).before args0 about1 = true := code_word (m := ⟨10, 2⟩) (meth := k10m2) (c := k10c2) (by decide +kernel) rfl rfl rfl (by decide +kernel)
set_option maxRecDepth 65536 in
theorem w_c6 : (Jvm.Cond.code ({ cls := "java/lang/StringUTF16", name := "compress", desc := "([CI[BII)I" } : Jvm.MethodName) jdk_52_method_21_code (7 : Nat) (Option.some Jvm.ClassFile.FieldType.int)).before args0 about1 = true := code_word (m := ⟨10, 3⟩) (meth := k10m3) (c := k10c3) (by decide +kernel) rfl rfl rfl (by decide +kernel)
set_option maxRecDepth 65536 in
theorem w_c7 : (Jvm.Cond.code ({ cls := "java/lang/StringUTF16", name := "coderFromArrayLen", desc := "([BI)B" } : Jvm.MethodName) jdk_52_method_15_code (2 : Nat) (Option.some Jvm.ClassFile.FieldType.byte)).before args0 about1 = true := code_word (m := ⟨10, 1⟩) (meth := k10m1) (c := k10c1) (by decide +kernel) rfl rfl rfl (by decide +kernel)
set_option maxRecDepth 65536 in
theorem w_c8 : (Jvm.Cond.code ({ cls := "java/lang/String", name := "valueOf", desc := "(C)Ljava/lang/String;" } : Jvm.MethodName) jdk_42_method_139_code (1 : Nat) (Option.some (Jvm.ClassFile.FieldType.object "java/lang/String"))).before args0 about1 = true := code_word (m := ⟨9, 2⟩) (meth := k9m2) (c := k9c2) (by decide +kernel) rfl rfl rfl (by decide +kernel)
set_option maxRecDepth 65536 in
theorem w_c9 : (Jvm.Cond.code ({ cls := "java/lang/StringLatin1", name := "canEncode", desc := "(C)Z" } : Jvm.MethodName) jdk_43_method_3_code (1 : Nat) (Option.some Jvm.ClassFile.FieldType.boolean)).before args0 about1 = true := code_word (m := ⟨11, 1⟩) (meth := k11m1) (c := k11c1) (by decide +kernel) rfl rfl rfl (by decide +kernel)
set_option maxRecDepth 65536 in
theorem w_c10 : (Jvm.Cond.code ({ cls := "java/lang/StringLatin1", name := "toBytes", desc := "(C)[B" } : Jvm.MethodName) jdk_43_method_46_code (1 : Nat) (Option.some (Jvm.ClassFile.FieldType.array Jvm.ClassFile.FieldType.byte))).before args0 about1 = true := code_word (m := ⟨11, 2⟩) (meth := k11m2) (c := k11c2) (by decide +kernel) rfl rfl rfl (by decide +kernel)
set_option maxRecDepth 65536 in
theorem w_c11 : (Jvm.Cond.code ({ cls := "java/lang/String", name := "<init>", desc := "([BB)V" } : Jvm.MethodName) jdk_42_method_151_code (3 : Nat) (Option.none : Option Jvm.ClassFile.FieldType)).before args0 about1 = true := code_word (m := ⟨9, 4⟩) (meth := k9m4) (c := k9c4) (by decide +kernel) rfl rfl rfl (by decide +kernel)
set_option maxRecDepth 65536 in
theorem w_c12 : (Jvm.Cond.code ({ cls := "com/example/coracle_health/coraclehealth/oauth/TokenError", name := "<init>", desc := "(Lcom/example/coracle_health/coraclehealth/oauth/TokenError$Code;Ljava/lang/String;Ljava/lang/String;)V" } : Jvm.MethodName) prog_92_method_2_code (4 : Nat) (Option.none : Option Jvm.ClassFile.FieldType)).before args0 about1 = true := code_word (m := ⟨14, 1⟩) (meth := k14m1) (c := k14c1) (by decide +kernel) rfl rfl rfl (by decide +kernel)
set_option maxRecDepth 65536 in
theorem w_c13 : (Jvm.Cond.code ({ cls := "java/lang/Exception", name := "<init>", desc := "(Ljava/lang/String;)V" } : Jvm.MethodName) jdk_59_method_2_code (2 : Nat) (Option.none : Option Jvm.ClassFile.FieldType)).before args0 about1 = true := code_word (m := ⟨13, 1⟩) (meth := k13m1) (c := k13c1) (by decide +kernel) rfl rfl rfl (by decide +kernel)
set_option maxRecDepth 65536 in
theorem w_c14 : (Jvm.Cond.code ({ cls := "java/lang/Throwable", name := "<init>", desc := "(Ljava/lang/String;)V" } : Jvm.MethodName) jdk_78_method_2_code (2 : Nat) (Option.none : Option Jvm.ClassFile.FieldType)).before args0 about1 = true := code_word (m := ⟨12, 1⟩) (meth := k12m1) (c := k12c1) (by decide +kernel) rfl rfl rfl (by decide +kernel)
set_option maxRecDepth 65536 in
theorem w_c15 : (Jvm.Cond.code ({ cls := "java/lang/Throwable", name := "<init>", desc := "()V" } : Jvm.MethodName) jdk_78_method_1_code (1 : Nat) (Option.none : Option Jvm.ClassFile.FieldType)).before args0 about1 = true := code_word (m := ⟨12, 0⟩) (meth := k12m0) (c := k12c0) (by decide +kernel) rfl rfl rfl (by decide +kernel)
set_option maxRecDepth 65536 in
theorem w_c16 : (Jvm.Cond.code ({ cls := "com/example/coracle_health/coraclehealth/oauth/TokenError", name := "<init>", desc := "(Lcom/example/coracle_health/coraclehealth/oauth/TokenError$Code;Ljava/lang/String;)V" } : Jvm.MethodName) prog_92_method_1_code (3 : Nat) (Option.none : Option Jvm.ClassFile.FieldType)).before args0 about1 = true := code_word (m := ⟨14, 0⟩) (meth := k14m0) (c := k14c0) (by decide +kernel) rfl rfl rfl (by decide +kernel)
set_option maxRecDepth 65536 in
theorem w_c17 : (Jvm.Cond.code ({ cls := "com/example/coracle_health/coraclehealth/oauth/TokenError", name := "status", desc := "()I" } : Jvm.MethodName) prog_92_method_3_code (1 : Nat) (Option.some Jvm.ClassFile.FieldType.int)).before args0 about1 = true := code_word (m := ⟨14, 2⟩) (meth := k14m2) (c := k14c2) (by decide +kernel) rfl rfl rfl (by decide +kernel)
def codes1 : List Jvm.Cond := [Jvm.Cond.code x code maxLocals ret, Jvm.Cond.code ({ cls := "com/example/coracle_health/coraclehealth/oauth/TokenErrorStatusPinLaw", name := "pick", desc := "(I)Lcom/example/coracle_health/coraclehealth/oauth/TokenError$Code;" } : Jvm.MethodName) method_2_code (2 : Nat) (Option.some (Jvm.ClassFile.FieldType.object "com/example/coracle_health/coraclehealth/oauth/TokenError$Code")), Jvm.Cond.code ({ cls := "java/lang/String", name := "<init>", desc := "([C)V" } : Jvm.MethodName) jdk_42_method_3_code (2 : Nat) (Option.none : Option Jvm.ClassFile.FieldType), Jvm.Cond.code ({ cls := "java/lang/String", name := "<init>", desc := "([CIILjava/lang/Void;)V" } : Jvm.MethodName) jdk_42_method_149_code (6 : Nat) (Option.none : Option Jvm.ClassFile.FieldType), Jvm.Cond.code ({ cls := "java/lang/Object", name := "<init>", desc := "()V" } : Jvm.MethodName) object_method_1_code (1 : Nat) (Option.none : Option Jvm.ClassFile.FieldType), Jvm.Cond.code ({ cls := "java/lang/StringUTF16", name := "compress", desc := "([CII)[B" } : Jvm.MethodName) jdk_52_method_16_code (6 : Nat) (Option.some (Jvm.ClassFile.FieldType.array Jvm.ClassFile.FieldType.byte)), Jvm.Cond.code ({ cls := "java/lang/StringUTF16", name := "compress", desc := "([CI[BII)I" } : Jvm.MethodName) jdk_52_method_21_code (7 : Nat) (Option.some Jvm.ClassFile.FieldType.int), Jvm.Cond.code ({ cls := "java/lang/StringUTF16", name := "coderFromArrayLen", desc := "([BI)B" } : Jvm.MethodName) jdk_52_method_15_code (2 : Nat) (Option.some Jvm.ClassFile.FieldType.byte), Jvm.Cond.code ({ cls := "java/lang/String", name := "valueOf", desc := "(C)Ljava/lang/String;" } : Jvm.MethodName) jdk_42_method_139_code (1 : Nat) (Option.some (Jvm.ClassFile.FieldType.object "java/lang/String")), Jvm.Cond.code ({ cls := "java/lang/StringLatin1", name := "canEncode", desc := "(C)Z" } : Jvm.MethodName) jdk_43_method_3_code (1 : Nat) (Option.some Jvm.ClassFile.FieldType.boolean), Jvm.Cond.code ({ cls := "java/lang/StringLatin1", name := "toBytes", desc := "(C)[B" } : Jvm.MethodName) jdk_43_method_46_code (1 : Nat) (Option.some (Jvm.ClassFile.FieldType.array Jvm.ClassFile.FieldType.byte)), Jvm.Cond.code ({ cls := "java/lang/String", name := "<init>", desc := "([BB)V" } : Jvm.MethodName) jdk_42_method_151_code (3 : Nat) (Option.none : Option Jvm.ClassFile.FieldType), Jvm.Cond.code ({ cls := "com/example/coracle_health/coraclehealth/oauth/TokenError", name := "<init>", desc := "(Lcom/example/coracle_health/coraclehealth/oauth/TokenError$Code;Ljava/lang/String;Ljava/lang/String;)V" } : Jvm.MethodName) prog_92_method_2_code (4 : Nat) (Option.none : Option Jvm.ClassFile.FieldType), Jvm.Cond.code ({ cls := "java/lang/Exception", name := "<init>", desc := "(Ljava/lang/String;)V" } : Jvm.MethodName) jdk_59_method_2_code (2 : Nat) (Option.none : Option Jvm.ClassFile.FieldType), Jvm.Cond.code ({ cls := "java/lang/Throwable", name := "<init>", desc := "(Ljava/lang/String;)V" } : Jvm.MethodName) jdk_78_method_2_code (2 : Nat) (Option.none : Option Jvm.ClassFile.FieldType), Jvm.Cond.code ({ cls := "java/lang/Throwable", name := "<init>", desc := "()V" } : Jvm.MethodName) jdk_78_method_1_code (1 : Nat) (Option.none : Option Jvm.ClassFile.FieldType), Jvm.Cond.code ({ cls := "com/example/coracle_health/coraclehealth/oauth/TokenError", name := "<init>", desc := "(Lcom/example/coracle_health/coraclehealth/oauth/TokenError$Code;Ljava/lang/String;)V" } : Jvm.MethodName) prog_92_method_1_code (3 : Nat) (Option.none : Option Jvm.ClassFile.FieldType), Jvm.Cond.code ({ cls := "com/example/coracle_health/coraclehealth/oauth/TokenError", name := "status", desc := "()I" } : Jvm.MethodName) prog_92_method_3_code (1 : Nat) (Option.some Jvm.ClassFile.FieldType.int)]
set_option maxRecDepth 65536 in
theorem codes_eq : words1.filter isCode = codes1 := rfl
theorem w_codes : ∀ c ∈ words1.filter isCode, c.before args0 about1 = true := by
  rw [codes_eq]
  intro c hc
  simp only [codes1, List.mem_cons, List.not_mem_nil, or_false] at hc
  rcases hc with rfl | rfl | rfl | rfl | rfl | rfl | rfl | rfl | rfl | rfl | rfl | rfl | rfl | rfl | rfl | rfl | rfl | rfl
  · exact w_c0
  · exact w_c1
  · exact w_c2
  · exact w_c3
  · exact w_c4
  · exact w_c5
  · exact w_c6
  · exact w_c7
  · exact w_c8
  · exact w_c9
  · exact w_c10
  · exact w_c11
  · exact w_c12
  · exact w_c13
  · exact w_c14
  · exact w_c15
  · exact w_c16
  · exact w_c17
set_option maxRecDepth 65536 in
theorem w_t1 : (words1.take 24).all (fun c => isCode c || c.before args0 about1) = true := by decide +kernel
set_option maxRecDepth 65536 in
theorem w_t2 : ((words1.drop 24).take 24).all (fun c => isCode c || c.before args0 about1) = true := by decide +kernel
set_option maxRecDepth 65536 in
theorem w_t3 : (((words1.drop 24).drop 24).take 24).all (fun c => isCode c || c.before args0 about1) = true := by decide +kernel
set_option maxRecDepth 65536 in
theorem w_t4 : ((((words1.drop 24).drop 24).drop 24).take 24).all (fun c => isCode c || c.before args0 about1) = true := by decide +kernel
set_option maxRecDepth 65536 in
theorem w_t5 : (((((words1.drop 24).drop 24).drop 24).drop 24).take 24).all (fun c => isCode c || c.before args0 about1) = true := by decide +kernel
set_option maxRecDepth 65536 in
theorem w_t6 : (((((words1.drop 24).drop 24).drop 24).drop 24).drop 24).all (fun c => isCode c || c.before args0 about1) = true := by decide +kernel
theorem w_tables : (allAtoms (Jvm.Cond.code x code maxLocals ret :: tables_1)).before args0 about1 = true := by
  rw [allAtoms_all]
  show words1.all (fun c => c.before args0 about1) = true
  refine all_split ?_ w_codes
  rw [← List.take_append_drop 24 words1, List.all_append, w_t1, ← List.take_append_drop 24 (words1.drop 24), List.all_append, w_t2, ← List.take_append_drop 24 ((words1.drop 24).drop 24), List.all_append, w_t3, ← List.take_append_drop 24 (((words1.drop 24).drop 24).drop 24), List.all_append, w_t4, ← List.take_append_drop 24 ((((words1.drop 24).drop 24).drop 24).drop 24), List.all_append, w_t5, w_t6]
  rfl
set_option maxRecDepth 65536 in
theorem w_rest : rest_1_c.before args0 about1 = true := by decide +kernel
set_option maxRecDepth 65536 in
theorem w_case : (Jvm.Cond.and given_1 narrow_1).before args0 about1 = true := by decide +kernel
set_option maxRecDepth 65536 in
theorem w_consts : constsHeld consts_1 about1 := Jvm.Lit.constsHeldB_iff.mp (by decide +kernel)
theorem w_applies : (headSpec (Jvm.Cond.code x code maxLocals ret :: tables_1) room_1).applies x e0.platform about1 = true :=
  (Spec.applies_iff w_frames).mpr ⟨w_running, w_runnable, w_alone, w_named, w_hears, w_ripe, w_room, w_tables⟩
theorem atStart : AtStart classFile x code maxLocals ret World_1 tables_1 room_1 Calls_1 rest_1 Pre_1 launch0 p0 e0 about1 theMethod args0 below0 :=
  ⟨lists_1, trivial, launch0.admits_env _ _ _, launch0.least_env, fairChoices_fair.cas, fairChoices_fair.clock, w_frames, w_args, w_heap, w_applies, ⟨(by decide +kernel : framesKnown about1 = true), ⟨(by decide +kernel : tablesKnown about1 = true), ⟨w_consts, trivial⟩⟩⟩, w_rest, w_case⟩
end start1
theorem witness_1 : WitnessClaimed_1 := ⟨start1.p0, start1.e0, start1.about1, start1.theMethod, start1.args0, start1.below0, start1.atStart⟩
end Jvm.Pilot.@@N@@
