import JvmDerived
import JvmDerived.Pilot.@@N@@Statement
import JvmDerived.Pilot.@@N@@Code
set_option linter.unusedVariables false
set_option linter.unusedSimpArgs false
namespace Jvm.Pilot.@@N@@
open Jvm Jvm.ClassFile Sem Op Lib Jvm.Free Jvm.Stand Jvm.LawKit Jvm.RoadKit Bundle Jvm.Pilot.@@N@@.Jvm.D
section OwnRoad
variable {p : Program} {l : Launch} {e : Env} {R : Room} {s : State} {m : MethodId} {args : Array Value} {below : List Frame} {meth : Method} {c : Code} {T : State} {locs : List Loc} {cells slots : Nat}
/-- from A the run comes to an end of which G speaks -/
def OEnds (tb : Tables) (e : Env) (below : List Frame) (G : Outcome → State → Prop) (A : State) : Prop := ∃ s₂ o, Steps tb e below A s₂ ∧ s₂.status = .running ∧ Ended s₂ below o ∧ G o s₂
theorem OEnds.st {tb : Tables} {e : Env} {below : List Frame} {G : Outcome → State → Prop} {A B : State} (h : ∀ t, Steps tb e below B t → Steps tb e below A t) (k : OEnds tb e below G B) : OEnds tb e below G A := by
  obtain ⟨s, o, h1, h2⟩ := k
  exact ⟨s, o, h _ h1, h2⟩
def OGoal (Q : Option Value → Heap → List Loc → Prop) (s : State) (C S : Nat) (o : Outcome) (t : State) : Prop := ∃ v L, o = .returned v ∧ Q v t.heap L ∧ FrameEnd s o t L C S
theorem OEnds.out (X : Stand p l e R s m args below meth c T locs cells slots) (hlk : meth.locks = false) {v : Option Value} (hv : meth.sig.returnType = none → v = none) {Q : Option Value → Heap → List Loc → Prop} {C S : Nat} {A : State}
    (st : ∀ fs, (∀ (f : JFrame) (acts : List Action), f.method = m → f.locked = none → f.entered = [] → (doReturn e (T.setTop f) acts v).1 = T.setFrames fs) → Steps p.tables e below A (T.setFrames fs)) (hc : cells ≤ C) (hs : slots ≤ S) (hQ : Q v T.heap locs) : OEnds p.tables e below (OGoal Q s C S) A := by
  obtain ⟨fs, hr, hrun, hended, hW, hsame⟩ := X.leave (v := v) hv hlk
  exact ⟨_, _, st fs hr, hrun, hended, _, _, rfl, hQ, ⟨_, rfl⟩, hW, hsame.mono hc hs⟩
theorem OEnds.retI (X : Stand p l e R s m args below meth c T locs cells slots) (hx : p.tables.exec = Jvm.exec) (hlk : meth.locks = false) (hret : meth.sig.returnType = some .int) {pc : Nat} {Ls : Array Slot} {z : Int32} {rest : List Value} (hd : decode c.code pc = .ok (.ireturn, 1)) {Q : Option Value → Heap → List Loc → Prop} {C S : Nat} (hc : cells ≤ C) (hs : slots ≤ S) (hQ : Q (some (.int z)) T.heap locs) :
    OEnds p.tables e below (OGoal Q s C S) (T.setTop (mkF m pc Ls (.int z :: rest))) :=
  OEnds.out X hlk (fun h => by rw [hret] at h; cases h) (fun fs hr => retOut X hx hret rfl (Or.inl ⟨rfl, Or.inl rfl, _, rfl⟩) hd hr) hc hs hQ
theorem OEnds.retZ (X : Stand p l e R s m args below meth c T locs cells slots) (hx : p.tables.exec = Jvm.exec) (hlk : meth.locks = false) (hret : meth.sig.returnType = some .boolean) {pc : Nat} {Ls : Array Slot} {z : Int32} {rest : List Value} (hz : nar .boolean z = z) (hd : decode c.code pc = .ok (.ireturn, 1)) {Q : Option Value → Heap → List Loc → Prop} {C S : Nat} (hc : cells ≤ C) (hs : slots ≤ S) (hQ : Q (some (.int z)) T.heap locs) :
    OEnds p.tables e below (OGoal Q s C S) (T.setTop (mkF m pc Ls (.int z :: rest))) :=
  OEnds.out X hlk (fun h => by rw [hret] at h; cases h) (fun fs hr => retN X hx (t := .boolean) hret (Or.inl rfl) hd (by rw [hz]; exact hr)) hc hs hQ
theorem OEnds.retB (X : Stand p l e R s m args below meth c T locs cells slots) (hx : p.tables.exec = Jvm.exec) (hlk : meth.locks = false) (hret : meth.sig.returnType = some .byte) {pc : Nat} {Ls : Array Slot} {z : Int32} {rest : List Value} (hz : nar .byte z = z) (hd : decode c.code pc = .ok (.ireturn, 1)) {Q : Option Value → Heap → List Loc → Prop} {C S : Nat} (hc : cells ≤ C) (hs : slots ≤ S) (hQ : Q (some (.int z)) T.heap locs) :
    OEnds p.tables e below (OGoal Q s C S) (T.setTop (mkF m pc Ls (.int z :: rest))) :=
  OEnds.out X hlk (fun h => by rw [hret] at h; cases h) (fun fs hr => retN X hx (t := .byte) hret (Or.inr (Or.inl rfl)) hd (by rw [hz]; exact hr)) hc hs hQ
theorem OEnds.retJ (X : Stand p l e R s m args below meth c T locs cells slots) (hx : p.tables.exec = Jvm.exec) (hlk : meth.locks = false) (hret : meth.sig.returnType = some .long) {pc : Nat} {Ls : Array Slot} {z : Int64} {rest : List Value} (hd : decode c.code pc = .ok (.lreturn, 1)) {Q : Option Value → Heap → List Loc → Prop} {C S : Nat} (hc : cells ≤ C) (hs : slots ≤ S) (hQ : Q (some (.long z)) T.heap locs) :
    OEnds p.tables e below (OGoal Q s C S) (T.setTop (mkF m pc Ls (.long z :: rest))) :=
  OEnds.out X hlk (fun h => by rw [hret] at h; cases h) (fun fs hr => retOut X hx hret rfl (Or.inr (Or.inl ⟨rfl, rfl, _, rfl⟩)) hd hr) hc hs hQ
theorem OEnds.retA (X : Stand p l e R s m args below meth c T locs cells slots) (hx : p.tables.exec = Jvm.exec) (hlk : meth.locks = false) {t : FieldType} (hret : meth.sig.returnType = some t) {pc : Nat} {Ls : Array Slot} {w : Value} {rest : List Value} (hw : w.isRef = true) (ht : t.isReference = true) (hd : decode c.code pc = .ok (.areturn, 1)) {Q : Option Value → Heap → List Loc → Prop} {C S : Nat} (hc : cells ≤ C) (hs : slots ≤ S) (hQ : Q (some w) T.heap locs) :
    OEnds p.tables e below (OGoal Q s C S) (T.setTop (mkF m pc Ls (w :: rest))) :=
  OEnds.out X hlk (fun h => by rw [hret] at h; cases h) (fun fs hr => retOut X hx hret (by cases t <;> cases w <;> first | rfl | (cases ht; done) | (cases hw; done)) (Or.inr (Or.inr (Or.inr (Or.inr ⟨rfl, ht, hw⟩)))) hd hr) hc hs hQ
theorem OEnds.retV (X : Stand p l e R s m args below meth c T locs cells slots) (hx : p.tables.exec = Jvm.exec) (hlk : meth.locks = false) (hret : meth.sig.returnType = none) {pc : Nat} {Ls : Array Slot} (hd : decode c.code pc = .ok (.return_, 1)) {Q : Option Value → Heap → List Loc → Prop} {C S : Nat} (hc : cells ≤ C) (hs : slots ≤ S) (hQ : Q none T.heap locs) :
    OEnds p.tables e below (OGoal Q s C S) (T.setTop (mkF m pc Ls [])) :=
  OEnds.out X hlk (fun _ => rfl) (fun fs hr => X.returnOut hx hret hd hr) hc hs hQ
def OGoalW (Q : Option Value → Heap → List Loc → Prop) (s : State) (C S : Nat) (o : Outcome) (t : State) : Prop := ∃ v L, o = .returned v ∧ Q v t.heap L ∧ Jvm.ReturnedEndW s o t L C S
theorem own_growW {s t : State} {o : Outcome} {L : List Loc} {k n k' n' : Nat} (h : Jvm.ReturnedEndW s o t L k n) (hk : k ≤ k') (hn : n ≤ n') : Jvm.ReturnedEndW s o t L k' n' := ⟨h.1, h.2.1, h.2.2.1, h.2.2.2.mono hk hn⟩
theorem OEnds.retZW {vm0 : Vm} (X : Stand p l e R (s.setVm vm0) m args below meth c T locs cells slots) {n : Nat} (hS : s.Since vm0 n) (hn : n ≤ T.heap.size) (hx : p.tables.exec = Jvm.exec) (hlk : meth.locks = false) (hret : meth.sig.returnType = some .boolean) {pc : Nat} {Ls : Array Slot} {z : Int32} {rest : List Value} (hz : nar .boolean z = z) (hd : decode c.code pc = .ok (.ireturn, 1)) {Q : Option Value → Heap → List Loc → Prop} {C S : Nat} (hc : cells ≤ C) (hs : slots ≤ S) (hQ : Q (some (.int z)) T.heap locs) :
    OEnds p.tables e below (OGoalW Q s C S) (T.setTop (mkF m pc Ls (.int z :: rest))) := by
  obtain ⟨fs, hr, hrun, hended, hW⟩ := X.leaveW hS hn (v := some (.int z)) (fun h => by rw [hret] at h; cases h) hlk
  exact ⟨_, _, retN X hx (t := .boolean) hret (Or.inl rfl) hd (by rw [hz]; exact hr), hrun, hended, _, _, rfl, hQ, own_growW hW hc hs⟩
theorem own_b8 (x : Int32) : nar .byte (x.toInt8.toInt32) = x.toInt8.toInt32 := by
  show (x.toInt8.toInt32).toInt8.toInt32 = _
  rw [Int8.toInt8_toInt32]
theorem own_selP {s : State} {args : Array Value} {n : Nat} {y : MethodName} (hins : (Jvm.Cond.instantiable y.cls n).before args s = true) (hpriv : (Jvm.Cond.privateMethod y).before args s = true) (hinst : (Jvm.Cond.instanceMethod y).before args s = true) (hy : y.cls ≠ "java/lang/invoke/MethodHandle" ∧ y.cls ≠ "java/lang/invoke/VarHandle") :
    (Jvm.Cond.selects y.cls y y).before args s = true := by
  obtain ⟨c, k, hc, hk, -, hniab, -, -⟩ := Cond.instantiable_spec hins
  have hni : k.isInterface = false := (Bool.or_eq_false_iff.mp hniab).1
  obtain ⟨mk, methM, hnamed, hmethM, -, -⟩ := Cond.instanceMethod_spec hinst
  have hfound : s.methodFound? y.cls y.name y.desc = some mk := State.methodFound?_of_named hnamed hy
  have hcls : mk.cls = c := Option.some.inj ((findClass_of_methodNamed hnamed).symm.trans hc)
  have hsel : selectMethod {} s.vm c mk = .method mk := selectMethod_private hmethM (Cond.privateMethod_at hpriv mk methM hnamed hmethM)
  simp only [Cond.before, Cond.holds, Cond.value, hc, hfound, hnamed, hsel, hcls, hk]
  simp; exact hni
theorem own_exa_ns {Z : State} {h : Heap} {a : Addr} {C : String} (E : Exa Z h a C) : ∀ cell : Cell, h[a]? = some cell → cell.vm.isStatics = false := fun cell q => by
  obtain ⟨c, k, h1, -, -, h4, -⟩ := E
  cases h1.symm.trans q
  exact h4
theorem own_Sta_keep {Z : State} {h h' : Heap} {C n d : String} {v : Value} {ws : List Addr} (F : Sta Z h C n d v) (K : Keep h h' ws) (q : ∀ x ∈ ws, ∀ cell : Cell, h[x]? = some cell → cell.vm.isStatics = false) : Sta Z h' C n d v := by
  obtain ⟨cf, i, k, f, st, cell, h1, h2, h3, h4, h5, h6, h7⟩ := F
  refine ⟨cf, i, k, f, st, cell, h1, h2, h3, h4, K.2.1 _ _ h5 (fun hm => ?_), h6, h7⟩
  rw [q _ hm _ h5] at h6
  cases h6
theorem own_grow (X : Stand p l e R s m args below meth c T locs cells slots) {C S : Nat} (hc : cells ≤ C) (hs : slots ≤ S) : Stand p l e R s m args below meth c T locs C S :=
  ⟨X.admits, X.cas, X.clock, X.frames, X.room, X.hears, X.method, X.code, X.here, X.tail, X.warmed, X.limits, X.bytes, X.same.mono hc hs⟩
end OwnRoad
def own_cnt (l c : Int64) : Int32 := if l < (c - (1 : Int64)) then 0 else 1
def own_endN (w tw : Int64) (n : Int32) : Int32 := if w = tw then n - (1 : Int32) else n
def own_endB (w tw : Int64) (b : Int32) : Int32 := if w = tw then b else if w = (tw - (1 : Int64)) then b - (1 : Int32) else b
def own_mvN (w tw : Int64) (n : Int32) : Int32 := if w = tw then n else (own_endN w tw n) + (1 : Int32)
def own_mvB (w tw : Int64) (b : Int32) : Int32 := if w = tw then b else own_endB w tw b
def own_aS (ws q : Int64) : Int64 := if (q - ws) < (1000000 : Int64) then ws else ws + (((q - ws) / (1000000 : Int64)) * (1000000 : Int64))
def own_aW (w ws q : Int64) : Int64 := if (q - ws) < (1000000 : Int64) then w else w + ((q - ws) / (1000000 : Int64))
def own_aN (n : Int32) (ws q : Int64) : Int32 := if (q - ws) < (1000000 : Int64) then n else 0
def own_aB (n b : Int32) (ws q : Int64) : Int32 := if (q - ws) < (1000000 : Int64) then b else if ((q - ws) / (1000000 : Int64)) = (1 : Int64) then n else 0
theorem own_staL {Z : State} {args : Array Value} {t : Term} {k : Int64} (h : (Jvm.Cond.eq t (.long k)).value args Z none Z [] = some true) : t.eval args Z none [] Z = some (.long k) := by
  obtain ⟨x, y, h1, h2, h3, h4⟩ := cmp_v (Or.inl h)
  cases h2
  cases x <;> simp [Kin] at h3 h4
  rename_i z
  rw [h1, gotT (eq_L h1 (long_at k)) h]
theorem own_specialRef {p : Program} {l : Launch} {e : Env} {R : Room} {s : State} {m : MethodId} {args : Array Value} {below : List Frame} {meth : Method} {c : Code} {T : State} {locs : List Loc} {cells slots : Nat} (X : Stand p l e R s m args below meth c T locs cells slots) (hexec : p.tables.exec = Jvm.exec) {own : String} {index : Nat} {y : MethodName} (hy1 : y.name = "<init>")
    (hown : s.vm.findClass own = some m.cls) (hlink : (Jvm.Cond.methodRef own index y).before args s = true) (hinst : (Jvm.Cond.instanceMethod y).before args s = true)
    {bytes : ByteArray} {maxL : Nat} (hcode : (Jvm.Cond.code y bytes maxL none).before args s = true)
    (hy : y.cls ≠ "java/lang/invoke/MethodHandle" ∧ y.cls ≠ "java/lang/invoke/VarHandle")
    {W : Nat} {Pre : Pt → Array Value → Prop} {Post : Pt → Array Value → Option Value → Pt → Prop} (hK : Back l R p e below s args y 3 W Pre Post)
    {g : JFrame} (hg : g.method = m) (hsize : g.locals.size = c.maxLocals) {s₀ : State} (hcome : Steps p.tables e below s₀ (T.setTop g)) {a : Addr} {argsL rest : List Value}
    (hlen : ∀ sig, parseMethodDescriptor y.desc = some sig → argsL.length = sig.parameters.length) (hstack : g.stack = argsL.reverse ++ .ref a :: rest) (hW : 2 * g.monitorRoom + (rest.map fun v => v.category).sum ≤ W)
    (hdg : decode c.code g.pc = .ok (.invokespecial index, 3)) (hpre : ∀ vm₁, s.WarmedH vm₁ → Pre ⟨T.setVm vm₁, locs, cells, slots⟩ (.ref a :: argsL).toArray) :
    ∃ (v : Option Value) (vm₁ : Vm) (B : Pt), s.WarmedH vm₁ ∧ Stand p l e R s m args below meth c B.U B.locs B.cells B.slots ∧ Post ⟨T.setVm vm₁, locs, cells, slots⟩ (.ref a :: argsL).toArray v B ∧
      Steps p.tables e below s₀ (B.U.setTop { g with pc := g.pc + 3, stack := v.toList ++ rest }) := by
  obtain ⟨obj, methO, hnO, hmO, hstO, habO⟩ := Cond.instanceMethod_spec hinst
  obtain ⟨methO', cO, hmO', hcO, hbO, hlO, -, hlockO, -, hsigO⟩ := Cond.code_spec hnO hcode
  cases hmO.symm.trans hmO'
  obtain ⟨kO, hkO, hnameO⟩ := className_of_methodNamed hnO
  obtain ⟨hnameMO, hdescO⟩ := name_of_methodNamed hnO hmO
  have hW0 := X.warmed
  have hl2 := Cond.methodRef_warmed hW0 hnO hy hlink
  have hown2 : (s.setVm T.vm).vm.findClass own = some m.cls := by rw [State.vm_setVm, hW0.alike.findClass]; exact hown
  obtain ⟨m', c', hfound', hready, hfind, hnames⟩ := Cond.methodRef_named e hown2 hl2
  have hf0 : s.methodFound? y.cls y.name y.desc = some obj := State.methodFound?_of_named hnO hy
  have hf1 : (s.setVm T.vm).methodFound? y.cls y.name y.desc = some obj := by rw [State.methodFound?_setVm_of_named hW0.alike hnO hy]; exact hf0
  cases hf1.symm.trans hfound'
  have hc' : c' = obj.cls := by
    have q1 := findClass_of_methodNamed hnO
    have q2 : s.vm.findClass y.cls = some c' := by rw [← hW0.alike.findClass]; exact hfind
    exact (Option.some.inj (q1.symm.trans q2)).symm
  subst hc'
  obtain ⟨kO₂, hkO₂, heO₂⟩ := hW0.alike.2.2 _ _ hkO
  have hmO₂ : T.vm.method? obj = some methO := by rw [hW0.alike.method?]; exact hmO
  have hfound : lookupSpecial T.vm obj.cls "<init>" methO.desc = .method obj := by
    rw [hW0.alike.lookupSpecial, hdescO, ← hy1]; exact lookupSpecial_of_named hnO hmO hstO
  have hT : T.setVm T.vm = T := rfl
  have hpre' : Pre ⟨T, locs, cells, slots⟩ (Value.ref a :: argsL).toArray := by
    have q := hpre T.vm hW0
    rw [hT] at q
    exact q
  obtain ⟨v, B, X', hpost, hsteps⟩ := hK m meth c ⟨T, locs, cells, slots⟩ { g with stack := rest } (.invokespecial index) obj (Value.ref a :: argsL).toArray X hg hsize hdg hW (X.named hnO) hpre'
  refine ⟨v, T.vm, B, hW0, X', by rw [hT]; exact hpost, hcome.trans ?_⟩
  subst hg
  have h := X.here
  jvm_step h [hexec, hdg, invokespecial.wp_init (e := e) (s := T) (k := kO₂) (meth := methO) (m := obj) (a := a) (args := argsL) (rest := rest) (f := g)
      h.top hnames hready hkO₂ hmO₂ (by rw [hnameMO]; exact hy1) hstO habO hfound (hlen _ hsigO) hstack]
  intro acts
  rw [doInvoke_state]
  exact hsteps
theorem own_mvR {Z s : State} {a0 args : Array Value} {own : String} {i : Nat} {y : MethodName} (hZ : Z.Warmed39 s.vm) (w : (Jvm.Cond.methodRef own i y).before a0 Z = true) (wi : (Jvm.Cond.instanceMethod y).before a0 Z = true) (hy : y.cls ≠ "java/lang/invoke/MethodHandle" ∧ y.cls ≠ "java/lang/invoke/VarHandle") : (Jvm.Cond.methodRef own i y).before args s = true := by
  obtain ⟨mk, methM, hnamed, hmethM, -, -⟩ := Cond.instanceMethod_spec wi
  have q := Cond.methodRef_warmed39 hZ hnamed hy w
  exact q
theorem own_D (a b : Int64) : 0 ≤ (a &&& (4611686018427387903 : Int64)).toInt ∧ (a &&& (4611686018427387903 : Int64)).toInt < 4611686018427387904 ∧ 0 ≤ (b &&& (4611686018427387903 : Int64)).toInt ∧ (b &&& (4611686018427387903 : Int64)).toInt < 4611686018427387904 ∧ ((a &&& (4611686018427387903 : Int64)) / (1000000 : Int64)).toInt = (a &&& (4611686018427387903 : Int64)).toInt / 1000000 ∧ (((a &&& (4611686018427387903 : Int64)) + (b &&& (4611686018427387903 : Int64))) / (1000000 : Int64)).toInt = ((a &&& (4611686018427387903 : Int64)).toInt + (b &&& (4611686018427387903 : Int64)).toInt) / 1000000 := by
  have e1 := c_maskL a (4611686018427387903 : Int64) 62 (by decide) (by decide)
  have e2 := c_maskL b (4611686018427387903 : Int64) 62 (by decide) (by decide)
  generalize (a &&& (4611686018427387903 : Int64)) = x at *
  generalize (b &&& (4611686018427387903 : Int64)) = y at *
  have e3 := c_ladd x y
  have e4 := rng64 (x + y)
  have e5 : (x + y).toInt = x.toInt + y.toInt := by omega
  have e6 := (c_ldiv x (1000000 : Int64) 1000000 (by decide) (by decide)).1 (by omega)
  have e7 := (c_ldiv (x + y) (1000000 : Int64) 1000000 (by decide) (by decide)).1 (by omega)
  refine ⟨by omega, by omega, by omega, by omega, e6, by rw [e7, e5]⟩
def OwnD (d1 d2 w1 w2 : Int64) : Prop := 0 ≤ d1.toInt ∧ d1.toInt < 4611686018427387904 ∧ 0 ≤ d2.toInt ∧ d2.toInt < 4611686018427387904 ∧ w1.toInt = d1.toInt / 1000000 ∧ w2.toInt = (d1.toInt + d2.toInt) / 1000000
theorem own_k0 : (0 : Int64).toInt = 0 := by decide
theorem own_k1 : (1 : Int64).toInt = 1 := by decide
theorem own_k6 : (1000000 : Int64).toInt = 1000000 := by decide
/-- the first advance -/
theorem own_A1 {q1 d1 d2 w1 w2 ws1 wd1 : Int64} {nn1 bb1 : Int32} (hD : OwnD d1 d2 w1 w2) (h1 : own_aS q1 (q1 + d1) = ws1) (h2 : own_aW (0 : Int64) q1 (q1 + d1) = wd1) (h3 : own_aN ((0 : Int32) + (1 : Int32)) q1 (q1 + d1) = nn1) (h4 : own_aB ((0 : Int32) + (1 : Int32)) (0 : Int32) q1 (q1 + d1) = bb1) :
    ws1 = q1 + (w1 * (1000000 : Int64)) ∧ wd1 = w1 ∧ nn1 = (if w1 = (0 : Int64) then 1 else 0) ∧ bb1 = (if w1 = (1 : Int64) then 1 else 0) := by
  obtain ⟨a1, a2, a3, a4, a5, a6⟩ := hD
  have k0 := own_k0
  have k1 := own_k1
  have k6 := own_k6
  have e : (q1 + d1) - q1 = d1 := by
    have b1 := c_ladd q1 d1
    have b2 := c_lsub (q1 + d1) q1
    have b3 := rng64 ((q1 + d1) - q1)
    have b4 := rng64 d1
    exact Int64.toInt_inj.mp (by omega)
  have e6 := (c_ldiv d1 (1000000 : Int64) 1000000 (by decide) (by decide)).1 (by omega)
  have ew : d1 / (1000000 : Int64) = w1 := Int64.toInt_inj.mp (by omega)
  unfold own_aS at h1
  unfold own_aW at h2
  unfold own_aN at h3
  unfold own_aB at h4
  rw [e] at h1 h2 h3 h4
  rw [ew] at h1 h2 h4
  by_cases q : d1 < (1000000 : Int64)
  · rw [if_pos q] at h1 h2 h3 h4
    rw [Int64.lt_iff_toInt_lt] at q
    have w0 : w1 = (0 : Int64) := Int64.toInt_inj.mp (by omega)
    subst w0 h1 h2 h3 h4
    refine ⟨?_, rfl, by decide, by decide⟩
    have b1 : (0 : Int64) * (1000000 : Int64) = 0 := by decide
    rw [b1]
    have b2 := c_ladd q1 (0 : Int64)
    have b3 := rng64 (q1 + (0 : Int64))
    have b4 := rng64 q1
    exact Int64.toInt_inj.mp (by omega)
  · rw [if_neg q] at h1 h2 h3 h4
    rw [Int64.lt_iff_toInt_lt] at q
    have w0 : ¬ w1 = (0 : Int64) := fun y => by rw [y] at a5; omega
    subst h1 h3
    refine ⟨rfl, ?_, by rw [if_neg w0], ?_⟩
    · rw [← h2]
      have b2 := c_ladd (0 : Int64) w1
      have b3 := rng64 ((0 : Int64) + w1)
      have b4 := rng64 w1
      exact Int64.toInt_inj.mp (by omega)
    · rw [← h4]
      by_cases y : w1 = (1 : Int64)
      · rw [if_pos y, if_pos y]; decide
      · rw [if_neg y, if_neg y]
theorem own_e (q1 d1 d2 x : Int64) : ((q1 + d1) + d2) - (q1 + x) = (d1 + d2) - x := by
  apply Int64.toBitVec_inj.mp
  show (q1.toBitVec + d1.toBitVec + d2.toBitVec) - (q1.toBitVec + x.toBitVec) = (d1.toBitVec + d2.toBitVec) - x.toBitVec
  apply BitVec.eq_of_toInt_eq
  simp only [BitVec.toInt_sub, BitVec.toInt_add]
  simp only [Int.bmod_sub_bmod, Int.sub_bmod_bmod, Int.bmod_add_bmod, Int.add_bmod_bmod]
  congr 1
  omega
/-- two sums that don't wrap -/
theorem own_add (x y : Int64) (h : -9223372036854775808 ≤ x.toInt + y.toInt ∧ x.toInt + y.toInt < 9223372036854775808) : (x + y).toInt = x.toInt + y.toInt := by
  have b2 := c_ladd x y
  have b3 := rng64 (x + y)
  omega
theorem own_sub (x y : Int64) (h : -9223372036854775808 ≤ x.toInt - y.toInt ∧ x.toInt - y.toInt < 9223372036854775808) : (x - y).toInt = x.toInt - y.toInt := by
  have b2 := c_lsub x y
  have b3 := rng64 (x - y)
  omega
theorem own_mul6 (x : Int64) (h : 0 ≤ x.toInt ∧ x.toInt ≤ 9223372036854) : (x * (1000000 : Int64)).toInt = x.toInt * 1000000 := by
  have b2 := c_lmul x (1000000 : Int64)
  have b3 := rng64 (x * (1000000 : Int64))
  rw [own_k6] at b2
  omega
/-- the second advance -/
theorem own_A2 {q1 d1 d2 w1 w2 ws1 wd4 : Int64} {nn bb nn4 bb4 : Int32} (hD : OwnD d1 d2 w1 w2) (hs : ws1 = q1 + (w1 * (1000000 : Int64))) (h2 : own_aW w1 ws1 ((q1 + d1) + d2) = wd4) (h3 : own_aN nn ws1 ((q1 + d1) + d2) = nn4) (h4 : own_aB nn bb ws1 ((q1 + d1) + d2) = bb4) :
    wd4 = w2 ∧ nn4 = (if w2 = w1 then nn else 0) ∧ bb4 = (if w2 = w1 then bb else if w2 = w1 + (1 : Int64) then nn else 0) := by
  obtain ⟨a1, a2, a3, a4, a5, a6⟩ := hD
  have k1 := own_k1
  have k6 := own_k6
  have m3 : (w1 * (1000000 : Int64)).toInt = w1.toInt * 1000000 := own_mul6 w1 (by omega)
  have b4 : (d1 + d2).toInt = d1.toInt + d2.toInt := own_add d1 d2 (by omega)
  have e : ((d1 + d2) - (w1 * (1000000 : Int64))).toInt = d1.toInt + d2.toInt - w1.toInt * 1000000 := by rw [own_sub _ _ (by omega), b4, m3]
  have e0 : ((q1 + d1) + d2) - ws1 = (d1 + d2) - (w1 * (1000000 : Int64)) := by rw [hs]; exact own_e q1 d1 d2 _
  unfold own_aW at h2
  unfold own_aN at h3
  unfold own_aB at h4
  rw [e0] at h2 h3 h4
  clear m3 b4 e0 hs
  generalize ((d1 + d2) - (w1 * (1000000 : Int64))) = x at *
  have e6 := (c_ldiv x (1000000 : Int64) 1000000 (by decide) (by decide)).1 (by omega)
  have n1 : (w1 + (1 : Int64)).toInt = w1.toInt + 1 := by rw [own_add _ _ (by omega), k1]
  generalize d1.toInt = D1 at *
  generalize d2.toInt = D2 at *
  have hx : x.toInt / 1000000 = w2.toInt - w1.toInt := by omega
  have hx1 : x.toInt < 1000000 ↔ w2.toInt = w1.toInt := by omega
  rw [hx] at e6
  have n3 : (w1 + (x / (1000000 : Int64))).toInt = w2.toInt := by rw [own_add _ _ (by omega), e6]; omega
  have g1 : w2 = w1 ↔ x < (1000000 : Int64) := by rw [Int64.lt_iff_toInt_lt, k6, hx1, Int64.toInt_inj]
  have g2 : w2 = w1 + (1 : Int64) ↔ (x / (1000000 : Int64)) = (1 : Int64) := by rw [← Int64.toInt_inj, ← Int64.toInt_inj, e6, n1, k1]; omega
  have g3 : w1 + (x / (1000000 : Int64)) = w2 := Int64.toInt_inj.mp n3
  simp only [g1, g2]
  by_cases q : x < (1000000 : Int64)
  · rw [if_pos q] at h2 h3 h4
    rw [if_pos q, if_pos q]
    exact ⟨by rw [← h2]; exact (g1.mpr q).symm, h3.symm, h4.symm⟩
  · rw [if_neg q] at h2 h3 h4
    rw [if_neg q, if_neg q]
    exact ⟨by rw [← h2]; exact g3, h3.symm, h4.symm⟩
theorem own_cnt_eq (l c : Int64) (h0 : 0 ≤ l.toInt) (h1 : l.toInt ≤ c.toInt) : own_cnt l c = (if c = l then 1 else if c = l + (1 : Int64) then 1 else 0) := by
  have k1 := own_k1
  have b1 := c_lsub c (1 : Int64)
  have b2 := rng64 (c - (1 : Int64))
  have b3 := c_ladd l (1 : Int64)
  have b4 := rng64 (l + (1 : Int64))
  have b5 := rng64 c
  unfold own_cnt
  by_cases q : l < c - (1 : Int64)
  · rw [if_pos q]
    rw [Int64.lt_iff_toInt_lt] at q
    have q1 : ¬ c = l := fun y => by have := congrArg Int64.toInt y; omega
    have q2 : ¬ c = l + (1 : Int64) := fun y => by have := congrArg Int64.toInt y; omega
    rw [if_neg q1, if_neg q2]
  · rw [if_neg q]
    rw [Int64.lt_iff_toInt_lt] at q
    by_cases q1 : c = l
    · rw [if_pos q1]
    · have q0 : ¬ c.toInt = l.toInt := fun y => q1 (Int64.toInt_inj.mp y)
      have q2 : c = l + (1 : Int64) := Int64.toInt_inj.mp (by omega)
      rw [if_neg q1, if_pos q2]
/-- where the two windows can lie -/
theorem own_W {d1 d2 w1 w2 : Int64} (hD : OwnD d1 d2 w1 w2) : 0 ≤ w1.toInt ∧ w1.toInt ≤ w2.toInt ∧ w2.toInt ≤ 9223372036855 := by
  obtain ⟨a1, a2, a3, a4, a5, a6⟩ := hD
  omega
/-- nine cases -/
theorem own_nine {w1 w2 : Int64} (h : 0 ≤ w1.toInt ∧ w1.toInt ≤ w2.toInt ∧ w2.toInt ≤ 9223372036855) {P : Prop}
    (k : ∀ (z0 : Bool) (z1 : Bool) (s0 : Bool) (s1 : Bool), (w1 = (0 : Int64) ↔ z0 = true) → (w1 = (1 : Int64) ↔ z1 = true) → (w2 = w1 ↔ s0 = true) → (w2 = w1 + (1 : Int64) ↔ s1 = true) → ((0 : Int64) = w1 ↔ z0 = true) → ((0 : Int64) = w1 - (1 : Int64) ↔ z1 = true) → (w1 = w2 ↔ s0 = true) → (w1 = w2 - (1 : Int64) ↔ s1 = true) → (w2 = (0 : Int64) ↔ (z0 && s0) = true) → (w2 = (0 : Int64) + (1 : Int64) ↔ ((z0 && s1) || (z1 && s0)) = true) → (w1 = (0 : Int64) + (1 : Int64) ↔ z1 = true) → ((0 : Int64) = w2 ↔ (z0 && s0) = true) → ((0 : Int64) = w2 - (1 : Int64) ↔ ((z0 && s1) || (z1 && s0)) = true) → (z0 && z1) = false → (s0 && s1) = false → P) : P := by
  have k0 := own_k0
  have k1 := own_k1
  have b1 := c_lsub w1 (1 : Int64)
  have b2 := rng64 (w1 - (1 : Int64))
  have b3 := c_lsub w2 (1 : Int64)
  have b4 := rng64 (w2 - (1 : Int64))
  have b5 := c_ladd w1 (1 : Int64)
  have b6 := rng64 (w1 + (1 : Int64))
  have b7 : ((0 : Int64) + (1 : Int64)).toInt = 1 := by decide
  refine k (decide (w1.toInt = 0)) (decide (w1.toInt = 1)) (decide (w2.toInt = w1.toInt)) (decide (w2.toInt = w1.toInt + 1)) ?_ ?_ ?_ ?_ ?_ ?_ ?_ ?_ ?_ ?_ ?_ ?_ ?_ ?_ ?_
  all_goals try rw [← Int64.toInt_inj]
  all_goals simp only [decide_eq_true_eq, Bool.and_eq_true, Bool.or_eq_true, Bool.and_eq_false_iff, decide_eq_false_iff_not]
  all_goals omega

theorem own_F1 {d1 d2 w1 w2 : Int64} {nn1 bb1 : Int32} (hD : OwnD d1 d2 w1 w2) (h3 : nn1 = (if w1 = (0 : Int64) then 1 else 0)) (h4 : bb1 = (if w1 = (1 : Int64) then 1 else 0)) : nn1 + bb1 = own_cnt (0 : Int64) w1 := by
  have hW := own_W hD
  rw [h3, h4, own_cnt_eq _ _ (by decide) (by have := own_k0; omega)]
  refine own_nine hW fun z0 z1 s0 s1 e1 e2 e3 e4 e5 e6 e7 e8 e9 e10 e11 e12 e13 e14 e15 => ?_
  simp only [e1, e2, e3, e4, e5, e6, e7, e8, e9, e10, e11, e12, e13]
  revert e14 e15
  clear e1 e2 e3 e4 e5 e6 e7 e8 e9 e10 e11 e12 e13
  cases z0 <;> cases z1 <;> cases s0 <;> cases s1 <;> decide +kernel

theorem own_F2 {d1 d2 w1 w2 : Int64} {nn1 bb1 nn3 nn4 bb4 : Int32} (hD : OwnD d1 d2 w1 w2) (h3 : nn1 = (if w1 = (0 : Int64) then 1 else 0)) (h4 : bb1 = (if w1 = (1 : Int64) then 1 else 0)) (g3 : nn1 + (1 : Int32) = nn3) (h5 : nn4 = (if w2 = w1 then nn3 else 0)) (h6 : bb4 = (if w2 = w1 then bb1 else if w2 = w1 + (1 : Int64) then nn3 else 0)) : nn4 + bb4 = (own_cnt (0 : Int64) w2) + (own_cnt w1 w2) := by
  have hW := own_W hD
  have c1 := own_cnt_eq (0 : Int64) w2 (by decide) (by have := own_k0; omega)
  have c2 := own_cnt_eq w1 w2 hW.1 hW.2.1
  try simp only [own_mvN, own_mvB, own_endN, own_endB] at *
  subst h3 h4 g3 h5 h6
  simp only [c1, c2]
  clear c1 c2
  refine own_nine hW fun z0 z1 s0 s1 e1 e2 e3 e4 e5 e6 e7 e8 e9 e10 e11 e12 e13 e14 e15 => ?_
  simp only [e1, e2, e3, e4, e5, e6, e7, e8, e9, e10, e11, e12, e13]
  revert e14 e15
  clear e1 e2 e3 e4 e5 e6 e7 e8 e9 e10 e11 e12 e13 hW hD
  cases z0 <;> cases z1 <;> cases s0 <;> cases s1 <;> decide +kernel

theorem own_F3e {d1 d2 w1 w2 : Int64} {nn1 bb1 nn3 nn4 bb4 nn5 bb5 : Int32} (hD : OwnD d1 d2 w1 w2) (h3 : nn1 = (if w1 = (0 : Int64) then 1 else 0)) (h4 : bb1 = (if w1 = (1 : Int64) then 1 else 0)) (g3 : nn1 + (1 : Int32) = nn3) (h5 : nn4 = (if w2 = w1 then nn3 else 0)) (h6 : bb4 = (if w2 = w1 then bb1 else if w2 = w1 + (1 : Int64) then nn3 else 0)) (g5 : own_endN (0 : Int64) w2 nn4 = nn5) (g6 : own_endB (0 : Int64) w2 bb4 = bb5) : nn5 + bb5 = ((own_cnt (0 : Int64) w2) + (own_cnt w1 w2)) - (own_cnt (0 : Int64) w2) := by
  have hW := own_W hD
  have c1 := own_cnt_eq (0 : Int64) w2 (by decide) (by have := own_k0; omega)
  have c2 := own_cnt_eq w1 w2 hW.1 hW.2.1
  try simp only [own_mvN, own_mvB, own_endN, own_endB] at *
  subst h3 h4 g3 h5 h6 g5 g6
  simp only [c1, c2]
  clear c1 c2
  refine own_nine hW fun z0 z1 s0 s1 e1 e2 e3 e4 e5 e6 e7 e8 e9 e10 e11 e12 e13 e14 e15 => ?_
  simp only [e1, e2, e3, e4, e5, e6, e7, e8, e9, e10, e11, e12, e13]
  revert e14 e15
  clear e1 e2 e3 e4 e5 e6 e7 e8 e9 e10 e11 e12 e13 hW hD
  cases z0 <;> cases z1 <;> cases s0 <;> cases s1 <;> decide +kernel

theorem own_F3f {d1 d2 w1 w2 : Int64} {nn1 bb1 nn3 nn4 bb4 nn5 bb5 : Int32} (hD : OwnD d1 d2 w1 w2) (h3 : nn1 = (if w1 = (0 : Int64) then 1 else 0)) (h4 : bb1 = (if w1 = (1 : Int64) then 1 else 0)) (g3 : nn1 + (1 : Int32) = nn3) (h5 : nn4 = (if w2 = w1 then nn3 else 0)) (h6 : bb4 = (if w2 = w1 then bb1 else if w2 = w1 + (1 : Int64) then nn3 else 0)) (g5 : own_endN w1 w2 nn4 = nn5) (g6 : own_endB w1 w2 bb4 = bb5) : nn5 + bb5 = ((own_cnt (0 : Int64) w2) + (own_cnt w1 w2)) - (own_cnt w1 w2) := by
  have hW := own_W hD
  have c1 := own_cnt_eq (0 : Int64) w2 (by decide) (by have := own_k0; omega)
  have c2 := own_cnt_eq w1 w2 hW.1 hW.2.1
  try simp only [own_mvN, own_mvB, own_endN, own_endB] at *
  subst h3 h4 g3 h5 h6 g5 g6
  simp only [c1, c2]
  clear c1 c2
  refine own_nine hW fun z0 z1 s0 s1 e1 e2 e3 e4 e5 e6 e7 e8 e9 e10 e11 e12 e13 e14 e15 => ?_
  simp only [e1, e2, e3, e4, e5, e6, e7, e8, e9, e10, e11, e12, e13]
  revert e14 e15
  clear e1 e2 e3 e4 e5 e6 e7 e8 e9 e10 e11 e12 e13 hW hD
  cases z0 <;> cases z1 <;> cases s0 <;> cases s1 <;> decide +kernel

theorem own_F2m {d1 d2 w1 w2 : Int64} {nn1 bb1 nn2 bb2 nn3 nn4 bb4 : Int32} (hD : OwnD d1 d2 w1 w2) (h3 : nn1 = (if w1 = (0 : Int64) then 1 else 0)) (h4 : bb1 = (if w1 = (1 : Int64) then 1 else 0)) (g1 : own_mvN (0 : Int64) w1 nn1 = nn2) (g2 : own_mvB (0 : Int64) w1 bb1 = bb2) (g3 : nn2 + (1 : Int32) = nn3) (h5 : nn4 = (if w2 = w1 then nn3 else 0)) (h6 : bb4 = (if w2 = w1 then bb2 else if w2 = w1 + (1 : Int64) then nn3 else 0)) : nn4 + bb4 = (own_cnt w1 w2) + (own_cnt w1 w2) := by
  have hW := own_W hD
  have c1 := own_cnt_eq (0 : Int64) w2 (by decide) (by have := own_k0; omega)
  have c2 := own_cnt_eq w1 w2 hW.1 hW.2.1
  try simp only [own_mvN, own_mvB, own_endN, own_endB] at *
  subst h3 h4 g1 g2 g3 h5 h6
  simp only [c1, c2]
  clear c1 c2
  refine own_nine hW fun z0 z1 s0 s1 e1 e2 e3 e4 e5 e6 e7 e8 e9 e10 e11 e12 e13 e14 e15 => ?_
  simp only [e1, e2, e3, e4, e5, e6, e7, e8, e9, e10, e11, e12, e13]
  revert e14 e15
  clear e1 e2 e3 e4 e5 e6 e7 e8 e9 e10 e11 e12 e13 hW hD
  cases z0 <;> cases z1 <;> cases s0 <;> cases s1 <;> decide +kernel

theorem own_F3me {d1 d2 w1 w2 : Int64} {nn1 bb1 nn2 bb2 nn3 nn4 bb4 nn5 bb5 : Int32} (hD : OwnD d1 d2 w1 w2) (h3 : nn1 = (if w1 = (0 : Int64) then 1 else 0)) (h4 : bb1 = (if w1 = (1 : Int64) then 1 else 0)) (g1 : own_mvN (0 : Int64) w1 nn1 = nn2) (g2 : own_mvB (0 : Int64) w1 bb1 = bb2) (g3 : nn2 + (1 : Int32) = nn3) (h5 : nn4 = (if w2 = w1 then nn3 else 0)) (h6 : bb4 = (if w2 = w1 then bb2 else if w2 = w1 + (1 : Int64) then nn3 else 0)) (g5 : own_endN w1 w2 nn4 = nn5) (g6 : own_endB w1 w2 bb4 = bb5) : nn5 + bb5 = ((own_cnt w1 w2) + (own_cnt w1 w2)) - (own_cnt w1 w2) := by
  have hW := own_W hD
  have c1 := own_cnt_eq (0 : Int64) w2 (by decide) (by have := own_k0; omega)
  have c2 := own_cnt_eq w1 w2 hW.1 hW.2.1
  try simp only [own_mvN, own_mvB, own_endN, own_endB] at *
  subst h3 h4 g1 g2 g3 h5 h6 g5 g6
  simp only [c1, c2]
  clear c1 c2
  refine own_nine hW fun z0 z1 s0 s1 e1 e2 e3 e4 e5 e6 e7 e8 e9 e10 e11 e12 e13 e14 e15 => ?_
  simp only [e1, e2, e3, e4, e5, e6, e7, e8, e9, e10, e11, e12, e13]
  revert e14 e15
  clear e1 e2 e3 e4 e5 e6 e7 e8 e9 e10 e11 e12 e13 hW hD
  cases z0 <;> cases z1 <;> cases s0 <;> cases s1 <;> decide +kernel

theorem own_F3mf {d1 d2 w1 w2 : Int64} {nn1 bb1 nn2 bb2 nn3 nn4 bb4 nn5 bb5 : Int32} (hD : OwnD d1 d2 w1 w2) (h3 : nn1 = (if w1 = (0 : Int64) then 1 else 0)) (h4 : bb1 = (if w1 = (1 : Int64) then 1 else 0)) (g1 : own_mvN (0 : Int64) w1 nn1 = nn2) (g2 : own_mvB (0 : Int64) w1 bb1 = bb2) (g3 : nn2 + (1 : Int32) = nn3) (h5 : nn4 = (if w2 = w1 then nn3 else 0)) (h6 : bb4 = (if w2 = w1 then bb2 else if w2 = w1 + (1 : Int64) then nn3 else 0)) (g5 : own_endN w1 w2 nn4 = nn5) (g6 : own_endB w1 w2 bb4 = bb5) : nn5 + bb5 = ((own_cnt w1 w2) + (own_cnt w1 w2)) - (own_cnt w1 w2) := by
  have hW := own_W hD
  have c1 := own_cnt_eq (0 : Int64) w2 (by decide) (by have := own_k0; omega)
  have c2 := own_cnt_eq w1 w2 hW.1 hW.2.1
  try simp only [own_mvN, own_mvB, own_endN, own_endB] at *
  subst h3 h4 g1 g2 g3 h5 h6 g5 g6
  simp only [c1, c2]
  clear c1 c2
  refine own_nine hW fun z0 z1 s0 s1 e1 e2 e3 e4 e5 e6 e7 e8 e9 e10 e11 e12 e13 e14 e15 => ?_
  simp only [e1, e2, e3, e4, e5, e6, e7, e8, e9, e10, e11, e12, e13]
  revert e14 e15
  clear e1 e2 e3 e4 e5 e6 e7 e8 e9 e10 e11 e12 e13 hW hD
  cases z0 <;> cases z1 <;> cases s0 <;> cases s1 <;> decide +kernel
theorem d1_0 : decode prog_82_method_1_code 0 = .ok (.aload_n 0, 1) := by decide +kernel
theorem d1_1 : decode prog_82_method_1_code 1 = .ok (.invokespecial 1, 3) := by decide +kernel
theorem d1_4 : decode prog_82_method_1_code 4 = .ok (.aload_n 0, 1) := by decide +kernel
theorem d1_5 : decode prog_82_method_1_code 5 = .ok (.lload_n 1, 1) := by decide +kernel
theorem d1_6 : decode prog_82_method_1_code 6 = .ok (.putfield 7, 3) := by decide +kernel
theorem d1_9 : decode prog_82_method_1_code 9 = .ok (.return_, 1) := by decide +kernel
theorem pn_0 : plainName "com/example/marshalyard/marshalyard/proxy/MovingTries" = true := by first | (simp [plainName, overriddenIn]; done) | decide +kernel
theorem ef_1 (m : MethodId) (a1 : Addr) (q2 : Int64) : entryFrame m #[(.ref a1), (.long q2)] 3 = mkF m 0 #[.val (.ref a1), .val (.long q2), .second] [] := by first | (simp [entryFrame, mkF, argsToLocals, Value.category]; done) | rfl
def Q1 (Z : State) (a1 : Addr) (q2 : Int64) (h0 : Heap) (n0 : Nat) (v : Option Value) (h : Heap) (L : List Loc) : Prop := v = none ∧ Fr n0 L ∧ Keep h0 h [a1] ∧ Exa Z h a1 "com/example/marshalyard/marshalyard/proxy/MovingTries" ∧ Fld Z h a1 "com/example/marshalyard/marshalyard/proxy/MovingTries" "windowStart" "J" (.long q2) ∧ Fld Z h a1 "com/example/marshalyard/marshalyard/proxy/MovingTries" "window" "J" (.long (0 : Int64)) ∧ Fld Z h a1 "com/example/marshalyard/marshalyard/proxy/MovingTries" "movedNow" "I" (.int (0 : Int32)) ∧ Fld Z h a1 "com/example/marshalyard/marshalyard/proxy/MovingTries" "movedBefore" "I" (.int (0 : Int32))
set_option maxRecDepth 65536 in
set_option maxHeartbeats 40000000 in
theorem rm1 (l : Launch) (Z : State) (a0 : Array Value) (hw : ∀ d ∈ tables_1, d.before a0 Z = true) (ws : List Jvm.Cond) (a1 : Addr) (q2 : Int64) (h0 : Heap) (n0 : Nat) (Z0 : n0 ≤ h0.size) (Ea1 : Exa Z h0 a1 "com/example/marshalyard/marshalyard/proxy/MovingTries") (FwindowStart_a1 : Fld Z h0 a1 "com/example/marshalyard/marshalyard/proxy/MovingTries" "windowStart" "J" (.long (0 : Int64))) (Fwindow_a1 : Fld Z h0 a1 "com/example/marshalyard/marshalyard/proxy/MovingTries" "window" "J" (.long (0 : Int64))) (FmovedNow_a1 : Fld Z h0 a1 "com/example/marshalyard/marshalyard/proxy/MovingTries" "movedNow" "I" (.int (0 : Int32))) (FmovedBefore_a1 : Fld Z h0 a1 "com/example/marshalyard/marshalyard/proxy/MovingTries" "movedBefore" "I" (.int (0 : Int32))) (g_a1 : n0 ≤ a1) :
    MetFree l (⟨"com/example/marshalyard/marshalyard/proxy/MovingTries", "<init>", "(J)V"⟩ : MethodName) (head1 (Jvm.Cond.code (⟨"com/example/marshalyard/marshalyard/proxy/MovingTries", "<init>", "(J)V"⟩ : MethodName) prog_82_method_1_code 3 none :: ws) ({ frames := 1, cells := 0, slots := 0, locals := 12 } : Room)) (fun a U => a = #[(.ref a1), (.long q2)] ∧ Z.Warmed39 U.vm ∧ U.heap = h0) (fun _ _ _ _ _ => True) (fun _ U o U' => ∃ v L, o = .returned v ∧ Q1 Z a1 q2 h0 n0 v U'.heap L ∧ FrameEnd U o U' L ({ frames := 1, cells := 0, slots := 0, locals := 12 } : Room).cells ({ frames := 1, cells := 0, slots := 0, locals := 12 } : Room).slots) := by
  refine MetFree.of_bodySF (plainFor_of_name pn_0) hisR ?_
  intro p e s m args below meth c s₁ Bd hml0 hP hK
  obtain ⟨rfl, hZ, hh⟩ := hP
  have hx := Bd.exec
  have hby := Bd.bytes
  have hml : c.maxLocals = 3 := hml0
  have hown : s.vm.findClass "com/example/marshalyard/marshalyard/proxy/MovingTries" = some m.cls := findClass_of_methodNamed Bd.named
  have hnm := (name_of_methodNamed Bd.named Bd.method).1
  have hlk : meth.locks = false := BodyLoose.notSynchronized Bd
  have X0 : Stand p l e ({ frames := 1, cells := 0, slots := 0, locals := 12 } : Room) s m #[(.ref a1), (.long q2)] below meth c s₁ [] 0 0 := Stand.of_body Bd
  have e0 : s₁.heap = h0 := by rw [← hh, Bd.state]; rfl
  have N0 := Fr.nil n0
  show OEnds p.tables e below (OGoal (Q1 Z a1 q2 h0 n0) s 0 0) (s₁.setTop (entryFrame m #[(.ref a1), (.long q2)] 3))
  refine OEnds.st (fun t k => castTop (ef_1 m a1 q2) k) ?_
  generalize hG : OGoal (Q1 Z a1 q2 h0 n0) s 0 0 = G
  have KK0 : Keep h0 h0 [a1] := Keep.refl h0 [a1]
  show OEnds p.tables e below G (s₁.setTop (mkF m 0 #[.val (.ref a1), .val (.long q2), .second] []))
  refine OEnds.st (fun _ k => XS.aloadN X0.here hx rfl (hb hby d1_0) rfl rfl k) ?_
  show OEnds p.tables e below G (s₁.setTop (mkF m 1 #[.val (.ref a1), .val (.long q2), .second] [(.ref a1)]))
  obtain ⟨T1001, X1001, e1001, st1001⟩ := initO X0 hx hZ hown (hw _ (List.mem_of_getElem? (i := 8) rfl)) (hw _ (List.mem_of_getElem? (i := 9) rfl)) (hw _ (List.mem_of_getElem? (i := 10) rfl)) e0 (g := (mkF m 1 #[.val (.ref a1), .val (.long q2), .second] [(.ref a1)])) rfl (by rw [hml]; rfl) rfl (hb hby d1_1) (by decide) (W := 0) (by show 2 * 0 + _ ≤ _; exact Nat.le_of_eq rfl) (by decide)
  refine OEnds.st st1001 ?_
  clear st1001
  show OEnds p.tables e below G (T1001.setTop (mkF m 4 #[.val (.ref a1), .val (.long q2), .second] []))
  refine OEnds.st (fun _ k => XS.aloadN X1001.here hx rfl (hb hby d1_4) rfl rfl k) ?_
  show OEnds p.tables e below G (T1001.setTop (mkF m 5 #[.val (.ref a1), .val (.long q2), .second] [(.ref a1)]))
  refine OEnds.st (fun _ k => XS.lloadN X1001.here hx rfl (hb hby d1_5) rfl k) ?_
  show OEnds p.tables e below G (T1001.setTop (mkF m 6 #[.val (.ref a1), .val (.long q2), .second] [(.long q2), (.ref a1)]))
  obtain ⟨T1002, h1002, X1002, e1002, W1002, st1002⟩ := putF X1001 hx hZ hown (host := "") (Or.inl (hw _ (List.mem_of_getElem? (i := 11) rfl))) Via.refl e1001 FwindowStart_a1 Ea1 (Or.inl (hw _ (List.mem_of_getElem? (i := 12) rfl))) (hw _ (List.mem_of_getElem? (i := 3) rfl)) (ty := .long) (by decide) rfl rfl (g := (mkF m 6 #[.val (.ref a1), .val (.long q2), .second] [(.long q2), (.ref a1)])) rfl rfl (hb hby d1_6)
  refine OEnds.st st1002 ?_
  clear st1002
  have f1003 : Fld Z h1002 a1 "com/example/marshalyard/marshalyard/proxy/MovingTries" "windowStart" "J" (.long q2) := FwindowStart_a1.same W1002
  have f1004 : Exa Z h1002 a1 "com/example/marshalyard/marshalyard/proxy/MovingTries" := Ea1.wr W1002
  have f1006 : Fld Z h1002 a1 "com/example/marshalyard/marshalyard/proxy/MovingTries" "window" "J" (.long (0 : Int64)) := Fwindow_a1.other W1002 (Or.inr (slot_ne (Or.inl (hw _ (List.mem_of_getElem? (i := 40) rfl))) (Or.inl (hw _ (List.mem_of_getElem? (i := 12) rfl))) (by decide) (t := .long) (t' := .long) (by decide) (by decide)))
  have f1007 : Fld Z h1002 a1 "com/example/marshalyard/marshalyard/proxy/MovingTries" "movedNow" "I" (.int (0 : Int32)) := FmovedNow_a1.other W1002 (Or.inr (slot_ne (Or.inl (hw _ (List.mem_of_getElem? (i := 44) rfl))) (Or.inl (hw _ (List.mem_of_getElem? (i := 12) rfl))) (by decide) (t := .int) (t' := .long) (by decide) (by decide)))
  have f1008 : Fld Z h1002 a1 "com/example/marshalyard/marshalyard/proxy/MovingTries" "movedBefore" "I" (.int (0 : Int32)) := FmovedBefore_a1.other W1002 (Or.inr (slot_ne (Or.inl (hw _ (List.mem_of_getElem? (i := 59) rfl))) (Or.inl (hw _ (List.mem_of_getElem? (i := 12) rfl))) (by decide) (t := .int) (t' := .long) (by decide) (by decide)))
  have N1002 := Fr.snoc X1002 N0 g_a1
  have KK1002 : Keep h0 h1002 [a1] := KK0.wr W1002 (Or.inl (List.mem_of_getElem? (i := 0) rfl))
  have Z1002 := Nat.le_trans Z0 (Keep.of_wr W1002).1
  show OEnds p.tables e below G (T1002.setTop (mkF m 9 #[.val (.ref a1), .val (.long q2), .second] []))
  rw [← hG]
  refine OEnds.retV X1002 hx hlk Bd.returns (hb hby d1_9) (by decide) (by decide) ?_
  rw [e1002]
  exact ⟨rfl, N1002, KK1002, f1004, f1003, f1006, f1007, f1008⟩
theorem d4_0 : decode prog_83_method_1_code 0 = .ok (.aload_n 0, 1) := by decide +kernel
theorem d4_1 : decode prog_83_method_1_code 1 = .ok (.aload_n 1, 1) := by decide +kernel
theorem d4_2 : decode prog_83_method_1_code 2 = .ok (.putfield 1, 3) := by decide +kernel
theorem d4_5 : decode prog_83_method_1_code 5 = .ok (.aload_n 0, 1) := by decide +kernel
theorem d4_6 : decode prog_83_method_1_code 6 = .ok (.invokespecial 7, 3) := by decide +kernel
theorem d4_9 : decode prog_83_method_1_code 9 = .ok (.return_, 1) := by decide +kernel
theorem pn_1 : plainName "com/example/marshalyard/marshalyard/proxy/MovingTries$Flight" = true := by first | (simp [plainName, overriddenIn]; done) | decide +kernel
theorem ef_4 (m : MethodId) (a1 : Addr) (a2 : Addr) : entryFrame m #[(.ref a1), (.ref a2)] 2 = mkF m 0 #[.val (.ref a1), .val (.ref a2)] [] := by first | (simp [entryFrame, mkF, argsToLocals, Value.category]; done) | rfl
def Q4 (Z : State) (a1 : Addr) (a2 : Addr) (h0 : Heap) (n0 : Nat) (v : Option Value) (h : Heap) (L : List Loc) : Prop := v = none ∧ Fr n0 L ∧ Keep h0 h [a1] ∧ Exa Z h a1 "com/example/marshalyard/marshalyard/proxy/MovingTries$Flight" ∧ Fld Z h a1 "com/example/marshalyard/marshalyard/proxy/MovingTries$Flight" "this$0" "Lcom/example/marshalyard/marshalyard/proxy/MovingTries;" (.ref a2) ∧ Fld Z h a1 "com/example/marshalyard/marshalyard/proxy/MovingTries$Flight" "inFlight" "Z" (.int (0 : Int32)) ∧ Fld Z h a1 "com/example/marshalyard/marshalyard/proxy/MovingTries$Flight" "window" "J" (.long (0 : Int64))
set_option maxRecDepth 65536 in
set_option maxHeartbeats 40000000 in
theorem rm4 (l : Launch) (Z : State) (a0 : Array Value) (hw : ∀ d ∈ tables_1, d.before a0 Z = true) (ws : List Jvm.Cond) (a1 : Addr) (a2 : Addr) (h0 : Heap) (n0 : Nat) (Z0 : n0 ≤ h0.size) (Ea1 : Exa Z h0 a1 "com/example/marshalyard/marshalyard/proxy/MovingTries$Flight") (Gthis0_a1 : Fld Z h0 a1 "com/example/marshalyard/marshalyard/proxy/MovingTries$Flight" "this$0" "Lcom/example/marshalyard/marshalyard/proxy/MovingTries;" .null) (GinFlight_a1 : Fld Z h0 a1 "com/example/marshalyard/marshalyard/proxy/MovingTries$Flight" "inFlight" "Z" (.int (0 : Int32))) (Gwindow_a1 : Fld Z h0 a1 "com/example/marshalyard/marshalyard/proxy/MovingTries$Flight" "window" "J" (.long (0 : Int64))) (g_a1 : n0 ≤ a1) :
    MetFree l (⟨"com/example/marshalyard/marshalyard/proxy/MovingTries$Flight", "<init>", "(Lcom/example/marshalyard/marshalyard/proxy/MovingTries;)V"⟩ : MethodName) (head1 (Jvm.Cond.code (⟨"com/example/marshalyard/marshalyard/proxy/MovingTries$Flight", "<init>", "(Lcom/example/marshalyard/marshalyard/proxy/MovingTries;)V"⟩ : MethodName) prog_83_method_1_code 2 none :: ws) ({ frames := 1, cells := 0, slots := 0, locals := 12 } : Room)) (fun a U => a = #[(.ref a1), (.ref a2)] ∧ Z.Warmed39 U.vm ∧ U.heap = h0) (fun _ _ _ _ _ => True) (fun _ U o U' => ∃ v L, o = .returned v ∧ Q4 Z a1 a2 h0 n0 v U'.heap L ∧ FrameEnd U o U' L ({ frames := 1, cells := 0, slots := 0, locals := 12 } : Room).cells ({ frames := 1, cells := 0, slots := 0, locals := 12 } : Room).slots) := by
  refine MetFree.of_bodySF (plainFor_of_name pn_1) hisR ?_
  intro p e s m args below meth c s₁ Bd hml0 hP hK
  obtain ⟨rfl, hZ, hh⟩ := hP
  have hx := Bd.exec
  have hby := Bd.bytes
  have hml : c.maxLocals = 2 := hml0
  have hown : s.vm.findClass "com/example/marshalyard/marshalyard/proxy/MovingTries$Flight" = some m.cls := findClass_of_methodNamed Bd.named
  have hnm := (name_of_methodNamed Bd.named Bd.method).1
  have hlk : meth.locks = false := BodyLoose.notSynchronized Bd
  have X0 : Stand p l e ({ frames := 1, cells := 0, slots := 0, locals := 12 } : Room) s m #[(.ref a1), (.ref a2)] below meth c s₁ [] 0 0 := Stand.of_body Bd
  have e0 : s₁.heap = h0 := by rw [← hh, Bd.state]; rfl
  have N0 := Fr.nil n0
  show OEnds p.tables e below (OGoal (Q4 Z a1 a2 h0 n0) s 0 0) (s₁.setTop (entryFrame m #[(.ref a1), (.ref a2)] 2))
  refine OEnds.st (fun t k => castTop (ef_4 m a1 a2) k) ?_
  generalize hG : OGoal (Q4 Z a1 a2 h0 n0) s 0 0 = G
  have KK0 : Keep h0 h0 [a1] := Keep.refl h0 [a1]
  show OEnds p.tables e below G (s₁.setTop (mkF m 0 #[.val (.ref a1), .val (.ref a2)] []))
  refine OEnds.st (fun _ k => XS.aloadN X0.here hx rfl (hb hby d4_0) rfl rfl k) ?_
  show OEnds p.tables e below G (s₁.setTop (mkF m 1 #[.val (.ref a1), .val (.ref a2)] [(.ref a1)]))
  refine OEnds.st (fun _ k => XS.aloadN X0.here hx rfl (hb hby d4_1) rfl rfl k) ?_
  show OEnds p.tables e below G (s₁.setTop (mkF m 2 #[.val (.ref a1), .val (.ref a2)] [(.ref a2), (.ref a1)]))
  obtain ⟨T1001, h1001, X1001, e1001, W1001, st1001⟩ := putF X0 hx hZ hown (host := "") (Or.inl (hw _ (List.mem_of_getElem? (i := 24) rfl))) Via.refl e0 Gthis0_a1 Ea1 (Or.inr ⟨(hw _ (List.mem_of_getElem? (i := 25) rfl)), rfl, hnm⟩) (hw _ (List.mem_of_getElem? (i := 19) rfl)) (ty := (.object "com/example/marshalyard/marshalyard/proxy/MovingTries")) (by decide) rfl rfl (g := (mkF m 2 #[.val (.ref a1), .val (.ref a2)] [(.ref a2), (.ref a1)])) rfl rfl (hb hby d4_2)
  refine OEnds.st st1001 ?_
  clear st1001
  have f1002 : Fld Z h1001 a1 "com/example/marshalyard/marshalyard/proxy/MovingTries$Flight" "this$0" "Lcom/example/marshalyard/marshalyard/proxy/MovingTries;" (.ref a2) := Gthis0_a1.same W1001
  have f1003 : Exa Z h1001 a1 "com/example/marshalyard/marshalyard/proxy/MovingTries$Flight" := Ea1.wr W1001
  have f1005 : Fld Z h1001 a1 "com/example/marshalyard/marshalyard/proxy/MovingTries$Flight" "inFlight" "Z" (.int (0 : Int32)) := GinFlight_a1.other W1001 (Or.inr (slot_ne (Or.inl (hw _ (List.mem_of_getElem? (i := 38) rfl))) (Or.inr (hw _ (List.mem_of_getElem? (i := 25) rfl))) (by decide) (t := .boolean) (t' := (.object "com/example/marshalyard/marshalyard/proxy/MovingTries")) (by decide) (by decide)))
  have f1006 : Fld Z h1001 a1 "com/example/marshalyard/marshalyard/proxy/MovingTries$Flight" "window" "J" (.long (0 : Int64)) := Gwindow_a1.other W1001 (Or.inr (slot_ne (Or.inl (hw _ (List.mem_of_getElem? (i := 42) rfl))) (Or.inr (hw _ (List.mem_of_getElem? (i := 25) rfl))) (by decide) (t := .long) (t' := (.object "com/example/marshalyard/marshalyard/proxy/MovingTries")) (by decide) (by decide)))
  have N1001 := Fr.snoc X1001 N0 g_a1
  have KK1001 : Keep h0 h1001 [a1] := KK0.wr W1001 (Or.inl (List.mem_of_getElem? (i := 0) rfl))
  have Z1001 := Nat.le_trans Z0 (Keep.of_wr W1001).1
  show OEnds p.tables e below G (T1001.setTop (mkF m 5 #[.val (.ref a1), .val (.ref a2)] []))
  refine OEnds.st (fun _ k => XS.aloadN X1001.here hx rfl (hb hby d4_5) rfl rfl k) ?_
  show OEnds p.tables e below G (T1001.setTop (mkF m 6 #[.val (.ref a1), .val (.ref a2)] [(.ref a1)]))
  obtain ⟨T1007, X1007, e1007, st1007⟩ := initO X1001 hx hZ hown (hw _ (List.mem_of_getElem? (i := 26) rfl)) (hw _ (List.mem_of_getElem? (i := 9) rfl)) (hw _ (List.mem_of_getElem? (i := 10) rfl)) e1001 (g := (mkF m 6 #[.val (.ref a1), .val (.ref a2)] [(.ref a1)])) rfl (by rw [hml]; rfl) rfl (hb hby d4_6) (by decide) (W := 0) (by show 2 * 0 + _ ≤ _; exact Nat.le_of_eq rfl) (by decide)
  refine OEnds.st st1007 ?_
  clear st1007
  show OEnds p.tables e below G (T1007.setTop (mkF m 9 #[.val (.ref a1), .val (.ref a2)] []))
  rw [← hG]
  refine OEnds.retV X1007 hx hlk Bd.returns (hb hby d4_9) (by decide) (by decide) ?_
  rw [e1007]
  exact ⟨rfl, N1001, KK1001, f1003, f1002, f1005, f1006⟩
theorem d3_0 : decode prog_82_method_4_code 0 = .ok (.new 26, 3) := by decide +kernel
theorem d3_3 : decode prog_82_method_4_code 3 = .ok (.dup, 1) := by decide +kernel
theorem d3_4 : decode prog_82_method_4_code 4 = .ok (.aload_n 0, 1) := by decide +kernel
theorem d3_5 : decode prog_82_method_4_code 5 = .ok (.invokespecial 28, 3) := by decide +kernel
theorem d3_8 : decode prog_82_method_4_code 8 = .ok (.areturn, 1) := by decide +kernel
theorem ef_3 (m : MethodId) (a1 : Addr) : entryFrame m #[(.ref a1)] 1 = mkF m 0 #[.val (.ref a1)] [] := by first | (simp [entryFrame, mkF, argsToLocals, Value.category]; done) | rfl
def Q3 (Z : State) (a1 : Addr) (h0 : Heap) (n0 : Nat) (v : Option Value) (h : Heap) (L : List Loc) : Prop := ∃ (b : Addr), v = some (.ref b) ∧ Fr n0 L ∧ Keep h0 h [] ∧ h0.size ≤ b ∧ Exa Z h b "com/example/marshalyard/marshalyard/proxy/MovingTries$Flight" ∧ Fld Z h b "com/example/marshalyard/marshalyard/proxy/MovingTries$Flight" "this$0" "Lcom/example/marshalyard/marshalyard/proxy/MovingTries;" (.ref a1) ∧ Fld Z h b "com/example/marshalyard/marshalyard/proxy/MovingTries$Flight" "inFlight" "Z" (.int (0 : Int32)) ∧ Fld Z h b "com/example/marshalyard/marshalyard/proxy/MovingTries$Flight" "window" "J" (.long (0 : Int64))
theorem pd_0 : parseMethodDescriptor "(Lcom/example/marshalyard/marshalyard/proxy/MovingTries;)V" = some ⟨[(.object "com/example/marshalyard/marshalyard/proxy/MovingTries")], none⟩ := by decide +kernel
set_option maxRecDepth 65536 in
set_option maxHeartbeats 40000000 in
theorem rm3 (l : Launch) (Z : State) (a0 : Array Value) (hw : ∀ d ∈ tables_1, d.before a0 Z = true) (ws : List Jvm.Cond) (a1 : Addr) (h0 : Heap) (n0 : Nat) (Z0 : n0 ≤ h0.size) :
    MetFree l (⟨"com/example/marshalyard/marshalyard/proxy/MovingTries", "flight", "()Lcom/example/marshalyard/marshalyard/proxy/MovingTries$Flight;"⟩ : MethodName) (head1 (Jvm.Cond.code (⟨"com/example/marshalyard/marshalyard/proxy/MovingTries", "flight", "()Lcom/example/marshalyard/marshalyard/proxy/MovingTries$Flight;"⟩ : MethodName) prog_82_method_4_code 1 (some (.object "com/example/marshalyard/marshalyard/proxy/MovingTries$Flight")) :: ws) ({ frames := 2, cells := 1, slots := 3, locals := 26 } : Room)) (fun a U => a = #[(.ref a1)] ∧ Z.Warmed39 U.vm ∧ U.heap = h0) (fun _ _ _ _ _ => True) (fun _ U o U' => ∃ v L, o = .returned v ∧ Q3 Z a1 h0 n0 v U'.heap L ∧ FrameEnd U o U' L ({ frames := 2, cells := 1, slots := 3, locals := 26 } : Room).cells ({ frames := 2, cells := 1, slots := 3, locals := 26 } : Room).slots) := by
  refine MetFree.of_bodySF (plainFor_of_name pn_0) hisR ?_
  intro p e s m args below meth c s₁ Bd hml0 hP hK
  obtain ⟨rfl, hZ, hh⟩ := hP
  have hx := Bd.exec
  have hby := Bd.bytes
  have hml : c.maxLocals = 1 := hml0
  have hown : s.vm.findClass "com/example/marshalyard/marshalyard/proxy/MovingTries" = some m.cls := findClass_of_methodNamed Bd.named
  have hnm := (name_of_methodNamed Bd.named Bd.method).1
  have hlk : meth.locks = false := BodyLoose.notSynchronized Bd
  have X0 : Stand p l e ({ frames := 2, cells := 1, slots := 3, locals := 26 } : Room) s m #[(.ref a1)] below meth c s₁ [] 0 0 := Stand.of_body Bd
  have e0 : s₁.heap = h0 := by rw [← hh, Bd.state]; rfl
  have N0 := Fr.nil n0
  show OEnds p.tables e below (OGoal (Q3 Z a1 h0 n0) s 1 3) (s₁.setTop (entryFrame m #[(.ref a1)] 1))
  refine OEnds.st (fun t k => castTop (ef_3 m a1) k) ?_
  generalize hG : OGoal (Q3 Z a1 h0 n0) s 1 3 = G
  have KK0 : Keep h0 h0 [] := Keep.refl h0 []
  show OEnds p.tables e below G (s₁.setTop (mkF m 0 #[.val (.ref a1)] []))
  obtain ⟨T1001, h1001, X1001, e1001, E1001, A1001, D1001, -, st1001⟩ := newO X0 hx hZ hown (hw _ (List.mem_of_getElem? (i := 18) rfl)) (hw _ (List.mem_of_getElem? (i := 19) rfl)) (hw _ (List.mem_of_getElem? (i := 20) rfl)) e0 (g := (mkF m 0 #[.val (.ref a1)] [])) rfl (hb hby d3_0) (by decide) (by decide)
  obtain ⟨b1001, g1001⟩ : ∃ z, z = h0.size := ⟨_, rfl⟩
  rw [← g1001] at A1001 D1001 st1001
  refine OEnds.st st1001 ?_
  clear st1001
  have ge_b1001 : n0 ≤ b1001 := Nat.le_trans Z0 (Nat.le_of_eq g1001.symm)
  have sz_b1001 : h0.size ≤ b1001 := Nat.le_trans KK0.1 (Nat.le_of_eq g1001.symm)
  have KK1001 : Keep h0 h1001 [] := KK0.ext E1001
  have Z1001 := Nat.le_trans Z0 E1001.1
  have ex_b1001 := A1001
  have f1002 : Fld Z h1001 b1001 "com/example/marshalyard/marshalyard/proxy/MovingTries$Flight" "this$0" "Lcom/example/marshalyard/marshalyard/proxy/MovingTries;" .null := D1001 (Or.inr (hw _ (List.mem_of_getElem? (i := 25) rfl))) (ty := (.object "com/example/marshalyard/marshalyard/proxy/MovingTries")) (by decide)
  have f1003 : Fld Z h1001 b1001 "com/example/marshalyard/marshalyard/proxy/MovingTries$Flight" "inFlight" "Z" (.int (0 : Int32)) := D1001 (Or.inl (hw _ (List.mem_of_getElem? (i := 38) rfl))) (ty := .boolean) (by decide)
  have f1004 : Fld Z h1001 b1001 "com/example/marshalyard/marshalyard/proxy/MovingTries$Flight" "window" "J" (.long (0 : Int64)) := D1001 (Or.inl (hw _ (List.mem_of_getElem? (i := 42) rfl))) (ty := .long) (by decide)
  show OEnds p.tables e below G (T1001.setTop (mkF m 3 #[.val (.ref a1)] [(.ref b1001)]))
  refine OEnds.st (fun _ k => XS.dup X1001.here hx rfl (hb hby d3_3) rfl rfl k) ?_
  show OEnds p.tables e below G (T1001.setTop (mkF m 4 #[.val (.ref a1)] [(.ref b1001), (.ref b1001)]))
  refine OEnds.st (fun _ k => XS.aloadN X1001.here hx rfl (hb hby d3_4) rfl rfl k) ?_
  show OEnds p.tables e below G (T1001.setTop (mkF m 5 #[.val (.ref a1)] [(.ref a1), (.ref b1001), (.ref b1001)]))
  obtain ⟨_, _, ⟨T1005, L1005, k1005c, n1005c⟩, -, X1005, ⟨Lc1005, hQ1005, l1005, y1005, z1005⟩, st1005⟩ := own_specialRef X1001 hx (y := (⟨"com/example/marshalyard/marshalyard/proxy/MovingTries$Flight", "<init>", "(Lcom/example/marshalyard/marshalyard/proxy/MovingTries;)V"⟩ : MethodName)) rfl hown (own_mvR hZ (hw _ (List.mem_of_getElem? (i := 21) rfl)) (hw _ (List.mem_of_getElem? (i := 22) rfl)) (by decide)) (mvT hZ (hw _ (List.mem_of_getElem? (i := 22) rfl))) (mvT hZ (hw _ (List.mem_of_getElem? (i := 23) rfl))) (by decide) (backOf (W := 1) (rm4 l Z a0 hw [] b1001 a1 h1001 n0 Z1001 ex_b1001 f1002 f1003 f1004 ge_b1001) hZ (hw _ (List.mem_of_getElem? (i := 23) rfl)) (hw _ (List.mem_of_getElem? (i := 20) rfl)) (by decide) (by decide)) (g := (mkF m 5 #[.val (.ref a1)] [(.ref a1), (.ref b1001), (.ref b1001)])) rfl (by rw [hml]; rfl) (Steps.refl _) (a := b1001) (argsL := [(.ref a1)]) (rest := [(.ref b1001)]) (lenOf pd_0 rfl) rfl (by show 2 * 0 + _ ≤ _; exact Nat.le_of_eq rfl) (hb hby d3_5) (fun _ _ => ⟨rfl, e1001, (by decide : 0 + 1 + 0 ≤ _), (by decide : 0 + 3 + 0 ≤ _)⟩)
  dsimp only [Pt.U, Pt.locs, Pt.cells, Pt.slots] at X1005 l1005 y1005 z1005 st1005 hQ1005
  subst l1005 y1005 z1005
  obtain ⟨rfl, N1005q, p1006, p1007, p1008, p1009, p1010⟩ := hQ1005
  have N1005 := Fr.app N0 N1005q
  refine OEnds.st (fun _ k => st1005.trans k) ?_
  clear st1005
  have f1011 : Exa Z T1005.heap b1001 "com/example/marshalyard/marshalyard/proxy/MovingTries$Flight" := ex_b1001.keep p1006
  have KK1005 : Keep h0 T1005.heap [] := KK1001.trans p1006 (fun x hx => by cases List.mem_singleton.mp hx; exact Or.inr sz_b1001)
  have Z1005 := Nat.le_trans Z1001 p1006.1
  show OEnds p.tables e below G (T1005.setTop (mkF m 8 #[.val (.ref a1)] [(.ref b1001)]))
  rw [← hG]
  refine OEnds.retA X1005 hx hlk Bd.returns (by first | rfl | exact rfl) rfl (hb hby d3_8) (by decide) (by decide) ?_
  show _
  exact ⟨b1001, rfl, N1005, KK1005, sz_b1001, p1007, p1008, p1009, p1010⟩
theorem d6_0 : decode prog_83_method_4_code 0 = .ok (.aload_n 0, 1) := by decide +kernel
theorem d6_1 : decode prog_83_method_4_code 1 = .ok (.getfield 16, 3) := by decide +kernel
theorem d6_4 : decode prog_83_method_4_code 4 = .ok (.ifCond .ne 4, 3) := by decide +kernel
theorem d6_7 : decode prog_83_method_4_code 7 = .ok (.return_, 1) := by decide +kernel
theorem d6_8 : decode prog_83_method_4_code 8 = .ok (.aload_n 0, 1) := by decide +kernel
theorem d6_9 : decode prog_83_method_4_code 9 = .ok (.iconst 0, 1) := by decide +kernel
theorem d6_10 : decode prog_83_method_4_code 10 = .ok (.putfield 16, 3) := by decide +kernel
theorem d6_13 : decode prog_83_method_4_code 13 = .ok (.aload_n 0, 1) := by decide +kernel
theorem d6_14 : decode prog_83_method_4_code 14 = .ok (.getfield 26, 3) := by decide +kernel
theorem d6_17 : decode prog_83_method_4_code 17 = .ok (.aload_n 0, 1) := by decide +kernel
theorem d6_18 : decode prog_83_method_4_code 18 = .ok (.getfield 1, 3) := by decide +kernel
theorem d6_21 : decode prog_83_method_4_code 21 = .ok (.getfield 20, 3) := by decide +kernel
theorem d6_24 : decode prog_83_method_4_code 24 = .ok (.lcmp, 1) := by decide +kernel
theorem d6_25 : decode prog_83_method_4_code 25 = .ok (.ifCond .ne 19, 3) := by decide +kernel
theorem d6_28 : decode prog_83_method_4_code 28 = .ok (.aload_n 0, 1) := by decide +kernel
theorem d6_29 : decode prog_83_method_4_code 29 = .ok (.getfield 1, 3) := by decide +kernel
theorem d6_32 : decode prog_83_method_4_code 32 = .ok (.dup, 1) := by decide +kernel
theorem d6_33 : decode prog_83_method_4_code 33 = .ok (.getfield 27, 3) := by decide +kernel
theorem d6_36 : decode prog_83_method_4_code 36 = .ok (.iconst 1, 1) := by decide +kernel
theorem d6_37 : decode prog_83_method_4_code 37 = .ok (.isub, 1) := by decide +kernel
theorem d6_38 : decode prog_83_method_4_code 38 = .ok (.putfield 27, 3) := by decide +kernel
theorem d6_41 : decode prog_83_method_4_code 41 = .ok (.goto 33, 3) := by decide +kernel
theorem d6_44 : decode prog_83_method_4_code 44 = .ok (.aload_n 0, 1) := by decide +kernel
theorem d6_45 : decode prog_83_method_4_code 45 = .ok (.getfield 26, 3) := by decide +kernel
theorem d6_48 : decode prog_83_method_4_code 48 = .ok (.aload_n 0, 1) := by decide +kernel
theorem d6_49 : decode prog_83_method_4_code 49 = .ok (.getfield 1, 3) := by decide +kernel
theorem d6_52 : decode prog_83_method_4_code 52 = .ok (.getfield 20, 3) := by decide +kernel
theorem d6_55 : decode prog_83_method_4_code 55 = .ok (.lconst 1, 1) := by decide +kernel
theorem d6_56 : decode prog_83_method_4_code 56 = .ok (.lsub, 1) := by decide +kernel
theorem d6_57 : decode prog_83_method_4_code 57 = .ok (.lcmp, 1) := by decide +kernel
theorem d6_58 : decode prog_83_method_4_code 58 = .ok (.ifCond .ne 16, 3) := by decide +kernel
theorem d6_61 : decode prog_83_method_4_code 61 = .ok (.aload_n 0, 1) := by decide +kernel
theorem d6_62 : decode prog_83_method_4_code 62 = .ok (.getfield 1, 3) := by decide +kernel
theorem d6_65 : decode prog_83_method_4_code 65 = .ok (.dup, 1) := by decide +kernel
theorem d6_66 : decode prog_83_method_4_code 66 = .ok (.getfield 34, 3) := by decide +kernel
theorem d6_69 : decode prog_83_method_4_code 69 = .ok (.iconst 1, 1) := by decide +kernel
theorem d6_70 : decode prog_83_method_4_code 70 = .ok (.isub, 1) := by decide +kernel
theorem d6_71 : decode prog_83_method_4_code 71 = .ok (.putfield 34, 3) := by decide +kernel
theorem d6_74 : decode prog_83_method_4_code 74 = .ok (.return_, 1) := by decide +kernel
theorem ef_end0 (m : MethodId) (a1 : Addr) : entryFrame m #[(.ref a1)] 1 = mkF m 0 #[.val (.ref a1)] [] := by first | (simp [entryFrame, mkF, argsToLocals, Value.category]; done) | rfl
def Qend0 (Z : State) (a1 : Addr) (h0 : Heap) (n0 : Nat) (v : Option Value) (h : Heap) (L : List Loc) : Prop := v = none ∧ Fr n0 L ∧ h = h0
set_option maxRecDepth 65536 in
set_option maxHeartbeats 40000000 in
theorem rmend0 (l : Launch) (Z : State) (a0 : Array Value) (hw : ∀ d ∈ tables_1, d.before a0 Z = true) (ws : List Jvm.Cond) (a1 : Addr) (h0 : Heap) (n0 : Nat) (Z0 : n0 ≤ h0.size) (F1 : Fld Z h0 a1 "com/example/marshalyard/marshalyard/proxy/MovingTries$Flight" "inFlight" "Z" (.int (0 : Int32))) :
    MetFree l (⟨"com/example/marshalyard/marshalyard/proxy/MovingTries$Flight", "end", "()V"⟩ : MethodName) (head1 (Jvm.Cond.code (⟨"com/example/marshalyard/marshalyard/proxy/MovingTries$Flight", "end", "()V"⟩ : MethodName) prog_83_method_4_code 1 none :: ws) ({ frames := 0, cells := 0, slots := 0, locals := 0 } : Room)) (fun a U => a = #[(.ref a1)] ∧ Z.Warmed39 U.vm ∧ U.heap = h0) (fun _ _ _ _ _ => True) (fun _ U o U' => ∃ v L, o = .returned v ∧ Qend0 Z a1 h0 n0 v U'.heap L ∧ FrameEnd U o U' L ({ frames := 0, cells := 0, slots := 0, locals := 0 } : Room).cells ({ frames := 0, cells := 0, slots := 0, locals := 0 } : Room).slots) := by
  refine MetFree.of_bodySF (plainFor_of_name pn_1) hisR ?_
  intro p e s m args below meth c s₁ Bd hml0 hP hK
  obtain ⟨rfl, hZ, hh⟩ := hP
  have hx := Bd.exec
  have hby := Bd.bytes
  have hml : c.maxLocals = 1 := hml0
  have hown : s.vm.findClass "com/example/marshalyard/marshalyard/proxy/MovingTries$Flight" = some m.cls := findClass_of_methodNamed Bd.named
  have hnm := (name_of_methodNamed Bd.named Bd.method).1
  have hlk : meth.locks = false := BodyLoose.notSynchronized Bd
  have X0 : Stand p l e ({ frames := 0, cells := 0, slots := 0, locals := 0 } : Room) s m #[(.ref a1)] below meth c s₁ [] 0 0 := Stand.of_body Bd
  have e0 : s₁.heap = h0 := by rw [← hh, Bd.state]; rfl
  have N0 := Fr.nil n0
  show OEnds p.tables e below (OGoal (Qend0 Z a1 h0 n0) s 0 0) (s₁.setTop (entryFrame m #[(.ref a1)] 1))
  refine OEnds.st (fun t k => castTop (ef_end0 m a1) k) ?_
  generalize hG : OGoal (Qend0 Z a1 h0 n0) s 0 0 = G
  have KK0 : Keep h0 h0 [] := Keep.refl h0 []
  show OEnds p.tables e below G (s₁.setTop (mkF m 0 #[.val (.ref a1)] []))
  refine OEnds.st (fun _ k => XS.aloadN X0.here hx rfl (hb hby d6_0) rfl rfl k) ?_
  show OEnds p.tables e below G (s₁.setTop (mkF m 1 #[.val (.ref a1)] [(.ref a1)]))
  obtain ⟨T1001, X1001, e1001, st1001⟩ := getF X0 hx hZ hown (host := "") (Or.inl (hw _ (List.mem_of_getElem? (i := 37) rfl))) Via.refl e0 F1 (g := (mkF m 1 #[.val (.ref a1)] [(.ref a1)])) rfl rfl (hb hby d6_1)
  refine OEnds.st st1001 ?_
  clear st1001
  show OEnds p.tables e below G (T1001.setTop (mkF m 4 #[.val (.ref a1)] [(.int (0 : Int32))]))
  refine OEnds.st (fun _ k => XS.ifNo X1001.here hx rfl (hb hby d6_4) rfl ((if0 _ _).trans (teq (by decide : (0 : Int32) = (0 : Int32))).2) k) ?_
  show OEnds p.tables e below G (T1001.setTop (mkF m 7 #[.val (.ref a1)] []))
  rw [← hG]
  refine OEnds.retV X1001 hx hlk Bd.returns (hb hby d6_7) (by decide) (by decide) ?_
  rw [e1001]
  exact ⟨rfl, N0, rfl⟩
theorem ef_end1 (m : MethodId) (a1 : Addr) : entryFrame m #[(.ref a1)] 1 = mkF m 0 #[.val (.ref a1)] [] := by first | (simp [entryFrame, mkF, argsToLocals, Value.category]; done) | rfl
def Qend1 (Z : State) (a1 : Addr) (t : Addr) (w : Int64) (tws : Int64) (tw : Int64) (n : Int32) (b : Int32) (h0 : Heap) (n0 : Nat) (v : Option Value) (h : Heap) (L : List Loc) : Prop := v = none ∧ Fr n0 L ∧ Keep h0 h [a1, t] ∧ Exa Z h a1 "com/example/marshalyard/marshalyard/proxy/MovingTries$Flight" ∧ Fld Z h a1 "com/example/marshalyard/marshalyard/proxy/MovingTries$Flight" "this$0" "Lcom/example/marshalyard/marshalyard/proxy/MovingTries;" (.ref t) ∧ Fld Z h a1 "com/example/marshalyard/marshalyard/proxy/MovingTries$Flight" "inFlight" "Z" (.int (0 : Int32)) ∧ Fld Z h a1 "com/example/marshalyard/marshalyard/proxy/MovingTries$Flight" "window" "J" (.long w) ∧ Exa Z h t "com/example/marshalyard/marshalyard/proxy/MovingTries" ∧ Fld Z h t "com/example/marshalyard/marshalyard/proxy/MovingTries" "windowStart" "J" (.long tws) ∧ Fld Z h t "com/example/marshalyard/marshalyard/proxy/MovingTries" "window" "J" (.long tw) ∧ Fld Z h t "com/example/marshalyard/marshalyard/proxy/MovingTries" "movedNow" "I" (.int (own_endN w tw n)) ∧ Fld Z h t "com/example/marshalyard/marshalyard/proxy/MovingTries" "movedBefore" "I" (.int (own_endB w tw b))
set_option maxRecDepth 65536 in
set_option maxHeartbeats 40000000 in
theorem rmend1 (l : Launch) (Z : State) (a0 : Array Value) (hw : ∀ d ∈ tables_1, d.before a0 Z = true) (ws : List Jvm.Cond) (a1 : Addr) (t : Addr) (w : Int64) (tws : Int64) (tw : Int64) (n : Int32) (b : Int32) (h0 : Heap) (n0 : Nat) (Z0 : n0 ≤ h0.size) (Ea1 : Exa Z h0 a1 "com/example/marshalyard/marshalyard/proxy/MovingTries$Flight") (Gthis0_a1 : Fld Z h0 a1 "com/example/marshalyard/marshalyard/proxy/MovingTries$Flight" "this$0" "Lcom/example/marshalyard/marshalyard/proxy/MovingTries;" (.ref t)) (GinFlight_a1 : Fld Z h0 a1 "com/example/marshalyard/marshalyard/proxy/MovingTries$Flight" "inFlight" "Z" (.int (1 : Int32))) (Gwindow_a1 : Fld Z h0 a1 "com/example/marshalyard/marshalyard/proxy/MovingTries$Flight" "window" "J" (.long w)) (Et : Exa Z h0 t "com/example/marshalyard/marshalyard/proxy/MovingTries") (FwindowStart_t : Fld Z h0 t "com/example/marshalyard/marshalyard/proxy/MovingTries" "windowStart" "J" (.long tws)) (Fwindow_t : Fld Z h0 t "com/example/marshalyard/marshalyard/proxy/MovingTries" "window" "J" (.long tw)) (FmovedNow_t : Fld Z h0 t "com/example/marshalyard/marshalyard/proxy/MovingTries" "movedNow" "I" (.int n)) (FmovedBefore_t : Fld Z h0 t "com/example/marshalyard/marshalyard/proxy/MovingTries" "movedBefore" "I" (.int b)) (g_a1 : n0 ≤ a1) (g_t : n0 ≤ t) (nat : a1 ≠ t) :
    MetFree l (⟨"com/example/marshalyard/marshalyard/proxy/MovingTries$Flight", "end", "()V"⟩ : MethodName) (head1 (Jvm.Cond.code (⟨"com/example/marshalyard/marshalyard/proxy/MovingTries$Flight", "end", "()V"⟩ : MethodName) prog_83_method_4_code 1 none :: ws) ({ frames := 0, cells := 0, slots := 0, locals := 0 } : Room)) (fun a U => a = #[(.ref a1)] ∧ Z.Warmed39 U.vm ∧ U.heap = h0) (fun _ _ _ _ _ => True) (fun _ U o U' => ∃ v L, o = .returned v ∧ Qend1 Z a1 t w tws tw n b h0 n0 v U'.heap L ∧ FrameEnd U o U' L ({ frames := 0, cells := 0, slots := 0, locals := 0 } : Room).cells ({ frames := 0, cells := 0, slots := 0, locals := 0 } : Room).slots) := by
  refine MetFree.of_bodySF (plainFor_of_name pn_1) hisR ?_
  intro p e s m args below meth c s₁ Bd hml0 hP hK
  obtain ⟨rfl, hZ, hh⟩ := hP
  have hx := Bd.exec
  have hby := Bd.bytes
  have hml : c.maxLocals = 1 := hml0
  have hown : s.vm.findClass "com/example/marshalyard/marshalyard/proxy/MovingTries$Flight" = some m.cls := findClass_of_methodNamed Bd.named
  have hnm := (name_of_methodNamed Bd.named Bd.method).1
  have hlk : meth.locks = false := BodyLoose.notSynchronized Bd
  have X0 : Stand p l e ({ frames := 0, cells := 0, slots := 0, locals := 0 } : Room) s m #[(.ref a1)] below meth c s₁ [] 0 0 := Stand.of_body Bd
  have e0 : s₁.heap = h0 := by rw [← hh, Bd.state]; rfl
  have N0 := Fr.nil n0
  show OEnds p.tables e below (OGoal (Qend1 Z a1 t w tws tw n b h0 n0) s 0 0) (s₁.setTop (entryFrame m #[(.ref a1)] 1))
  refine OEnds.st (fun t k => castTop (ef_end1 m a1) k) ?_
  generalize hG : OGoal (Qend1 Z a1 t w tws tw n b h0 n0) s 0 0 = G
  have KK0 : Keep h0 h0 [a1, t] := Keep.refl h0 [a1, t]
  show OEnds p.tables e below G (s₁.setTop (mkF m 0 #[.val (.ref a1)] []))
  refine OEnds.st (fun _ k => XS.aloadN X0.here hx rfl (hb hby d6_0) rfl rfl k) ?_
  show OEnds p.tables e below G (s₁.setTop (mkF m 1 #[.val (.ref a1)] [(.ref a1)]))
  obtain ⟨T1001, X1001, e1001, st1001⟩ := getF X0 hx hZ hown (host := "") (Or.inl (hw _ (List.mem_of_getElem? (i := 37) rfl))) Via.refl e0 GinFlight_a1 (g := (mkF m 1 #[.val (.ref a1)] [(.ref a1)])) rfl rfl (hb hby d6_1)
  refine OEnds.st st1001 ?_
  clear st1001
  show OEnds p.tables e below G (T1001.setTop (mkF m 4 #[.val (.ref a1)] [(.int (1 : Int32))]))
  refine OEnds.st (fun _ k => XS.ifYes X1001.here hx rfl (pc0 := 4) (pc' := 8) rfl (hb hby d6_4) rfl ((if0 _ _).trans (feq (by decide : ¬ ((1 : Int32) = (0 : Int32)))).2) (by decide) (by decide) k) ?_
  show OEnds p.tables e below G (T1001.setTop (mkF m 8 #[.val (.ref a1)] []))
  refine OEnds.st (fun _ k => XS.aloadN X1001.here hx rfl (hb hby d6_8) rfl rfl k) ?_
  show OEnds p.tables e below G (T1001.setTop (mkF m 9 #[.val (.ref a1)] [(.ref a1)]))
  refine OEnds.st (fun _ k => XS.iconst X1001.here hx rfl (hb hby d6_9) k) ?_
  show OEnds p.tables e below G (T1001.setTop (mkF m 10 #[.val (.ref a1)] [(.int (0 : Int32)), (.ref a1)]))
  obtain ⟨T1002, h1002, X1002, e1002, W1002, st1002⟩ := putFN X1001 hx hZ hown (hw _ (List.mem_of_getElem? (i := 37) rfl)) Via.refl e1001 GinFlight_a1 Ea1 (Or.inl (hw _ (List.mem_of_getElem? (i := 38) rfl))) (hw _ (List.mem_of_getElem? (i := 19) rfl)) (ty := .boolean) (v' := (.int (0 : Int32))) (by decide) rfl (by decide) (g := (mkF m 10 #[.val (.ref a1)] [(.int (0 : Int32)), (.ref a1)])) rfl rfl (hb hby d6_10)
  refine OEnds.st st1002 ?_
  clear st1002
  have f1003 : Fld Z h1002 a1 "com/example/marshalyard/marshalyard/proxy/MovingTries$Flight" "inFlight" "Z" (.int (0 : Int32)) := GinFlight_a1.same W1002
  have f1004 : Exa Z h1002 a1 "com/example/marshalyard/marshalyard/proxy/MovingTries$Flight" := Ea1.wr W1002
  have f1005 : Fld Z h1002 a1 "com/example/marshalyard/marshalyard/proxy/MovingTries$Flight" "this$0" "Lcom/example/marshalyard/marshalyard/proxy/MovingTries;" (.ref t) := Gthis0_a1.other W1002 (Or.inr (slot_ne (Or.inr (hw _ (List.mem_of_getElem? (i := 25) rfl))) (Or.inl (hw _ (List.mem_of_getElem? (i := 38) rfl))) (by decide) (t := (.object "com/example/marshalyard/marshalyard/proxy/MovingTries")) (t' := .boolean) (by decide) (by decide)))
  have f1007 : Fld Z h1002 a1 "com/example/marshalyard/marshalyard/proxy/MovingTries$Flight" "window" "J" (.long w) := Gwindow_a1.other W1002 (Or.inr (slot_ne (Or.inl (hw _ (List.mem_of_getElem? (i := 42) rfl))) (Or.inl (hw _ (List.mem_of_getElem? (i := 38) rfl))) (by decide) (t := .long) (t' := .boolean) (by decide) (by decide)))
  have f1008 : Exa Z h1002 t "com/example/marshalyard/marshalyard/proxy/MovingTries" := Et.wr W1002
  have f1009 : Fld Z h1002 t "com/example/marshalyard/marshalyard/proxy/MovingTries" "windowStart" "J" (.long tws) := FwindowStart_t.other W1002 (Or.inl (Ne.symm nat))
  have f1010 : Fld Z h1002 t "com/example/marshalyard/marshalyard/proxy/MovingTries" "window" "J" (.long tw) := Fwindow_t.other W1002 (Or.inl (Ne.symm nat))
  have f1011 : Fld Z h1002 t "com/example/marshalyard/marshalyard/proxy/MovingTries" "movedNow" "I" (.int n) := FmovedNow_t.other W1002 (Or.inl (Ne.symm nat))
  have f1012 : Fld Z h1002 t "com/example/marshalyard/marshalyard/proxy/MovingTries" "movedBefore" "I" (.int b) := FmovedBefore_t.other W1002 (Or.inl (Ne.symm nat))
  have N1002 := Fr.snoc X1002 N0 g_a1
  have KK1002 : Keep h0 h1002 [a1, t] := KK0.wr W1002 (Or.inl (List.mem_of_getElem? (i := 0) rfl))
  have Z1002 := Nat.le_trans Z0 (Keep.of_wr W1002).1
  show OEnds p.tables e below G (T1002.setTop (mkF m 13 #[.val (.ref a1)] []))
  refine OEnds.st (fun _ k => XS.aloadN X1002.here hx rfl (hb hby d6_13) rfl rfl k) ?_
  show OEnds p.tables e below G (T1002.setTop (mkF m 14 #[.val (.ref a1)] [(.ref a1)]))
  obtain ⟨T1013, X1013, e1013, st1013⟩ := getF X1002 hx hZ hown (host := "") (Or.inl (hw _ (List.mem_of_getElem? (i := 41) rfl))) Via.refl e1002 f1007 (g := (mkF m 14 #[.val (.ref a1)] [(.ref a1)])) rfl rfl (hb hby d6_14)
  refine OEnds.st st1013 ?_
  clear st1013
  show OEnds p.tables e below G (T1013.setTop (mkF m 17 #[.val (.ref a1)] [(.long w)]))
  refine OEnds.st (fun _ k => XS.aloadN X1013.here hx rfl (hb hby d6_17) rfl rfl k) ?_
  show OEnds p.tables e below G (T1013.setTop (mkF m 18 #[.val (.ref a1)] [(.ref a1), (.long w)]))
  obtain ⟨T1014, X1014, e1014, st1014⟩ := getF X1013 hx hZ hown (host := "") (Or.inl (hw _ (List.mem_of_getElem? (i := 24) rfl))) Via.refl e1013 f1005 (g := (mkF m 18 #[.val (.ref a1)] [(.ref a1), (.long w)])) rfl rfl (hb hby d6_18)
  refine OEnds.st st1014 ?_
  clear st1014
  show OEnds p.tables e below G (T1014.setTop (mkF m 21 #[.val (.ref a1)] [(.ref t), (.long w)]))
  obtain ⟨T1015, X1015, e1015, st1015⟩ := getF X1014 hx hZ hown (Or.inr (hw _ (List.mem_of_getElem? (i := 39) rfl))) Via.refl e1014 f1010 (g := (mkF m 21 #[.val (.ref a1)] [(.ref t), (.long w)])) rfl rfl (hb hby d6_21)
  refine OEnds.st st1015 ?_
  clear st1015
  show OEnds p.tables e below G (T1015.setTop (mkF m 24 #[.val (.ref a1)] [(.long tw), (.long w)]))
  refine OEnds.st (fun _ k => XS.lcmp X1015.here hx rfl (hb hby d6_24) rfl k) ?_
  show OEnds p.tables e below G (T1015.setTop (mkF m 25 #[.val (.ref a1)] [(.int (lcmpW w tw))]))
  by_cases hc25_1016 : w = tw
  · -- pc 25: yes
    refine OEnds.st (fun _ k => XS.ifNo X1015.here hx rfl (hb hby d6_25) rfl ((if0 _ _).trans (teq ((lw_eq w tw).mpr hc25_1016)).2) k) ?_
    show OEnds p.tables e below G (T1015.setTop (mkF m 28 #[.val (.ref a1)] []))
    refine OEnds.st (fun _ k => XS.aloadN X1015.here hx rfl (hb hby d6_28) rfl rfl k) ?_
    show OEnds p.tables e below G (T1015.setTop (mkF m 29 #[.val (.ref a1)] [(.ref a1)]))
    obtain ⟨T1017, X1017, e1017, st1017⟩ := getF X1015 hx hZ hown (host := "") (Or.inl (hw _ (List.mem_of_getElem? (i := 24) rfl))) Via.refl e1015 f1005 (g := (mkF m 29 #[.val (.ref a1)] [(.ref a1)])) rfl rfl (hb hby d6_29)
    refine OEnds.st st1017 ?_
    clear st1017
    show OEnds p.tables e below G (T1017.setTop (mkF m 32 #[.val (.ref a1)] [(.ref t)]))
    refine OEnds.st (fun _ k => XS.dup X1017.here hx rfl (hb hby d6_32) rfl rfl k) ?_
    show OEnds p.tables e below G (T1017.setTop (mkF m 33 #[.val (.ref a1)] [(.ref t), (.ref t)]))
    obtain ⟨T1018, X1018, e1018, st1018⟩ := getF X1017 hx hZ hown (Or.inr (hw _ (List.mem_of_getElem? (i := 43) rfl))) Via.refl e1017 f1011 (g := (mkF m 33 #[.val (.ref a1)] [(.ref t), (.ref t)])) rfl rfl (hb hby d6_33)
    refine OEnds.st st1018 ?_
    clear st1018
    show OEnds p.tables e below G (T1018.setTop (mkF m 36 #[.val (.ref a1)] [(.int n), (.ref t)]))
    refine OEnds.st (fun _ k => XS.iconst X1018.here hx rfl (hb hby d6_36) k) ?_
    show OEnds p.tables e below G (T1018.setTop (mkF m 37 #[.val (.ref a1)] [(.int (1 : Int32)), (.int n), (.ref t)]))
    refine OEnds.st (fun _ k => XS.isub X1018.here hx rfl (hb hby d6_37) rfl k) ?_
    show OEnds p.tables e below G (T1018.setTop (mkF m 38 #[.val (.ref a1)] [(.int (n - (1 : Int32))), (.ref t)]))
    obtain ⟨T1019, h1019, X1019, e1019, W1019, st1019⟩ := putF X1018 hx hZ hown (Or.inr (hw _ (List.mem_of_getElem? (i := 43) rfl))) Via.refl e1018 f1011 f1008 (Or.inl (hw _ (List.mem_of_getElem? (i := 44) rfl))) (hw _ (List.mem_of_getElem? (i := 3) rfl)) (ty := .int) (by decide) rfl rfl (g := (mkF m 38 #[.val (.ref a1)] [(.int (n - (1 : Int32))), (.ref t)])) rfl rfl (hb hby d6_38)
    refine OEnds.st st1019 ?_
    clear st1019
    have f1020 : Fld Z h1019 t "com/example/marshalyard/marshalyard/proxy/MovingTries" "movedNow" "I" (.int (n - (1 : Int32))) := f1011.same W1019
    have f1021 : Exa Z h1019 a1 "com/example/marshalyard/marshalyard/proxy/MovingTries$Flight" := f1004.wr W1019
    have f1022 : Fld Z h1019 a1 "com/example/marshalyard/marshalyard/proxy/MovingTries$Flight" "this$0" "Lcom/example/marshalyard/marshalyard/proxy/MovingTries;" (.ref t) := f1005.other W1019 (Or.inl nat)
    have f1023 : Fld Z h1019 a1 "com/example/marshalyard/marshalyard/proxy/MovingTries$Flight" "window" "J" (.long w) := f1007.other W1019 (Or.inl nat)
    have f1024 : Exa Z h1019 t "com/example/marshalyard/marshalyard/proxy/MovingTries" := f1008.wr W1019
    have f1025 : Fld Z h1019 t "com/example/marshalyard/marshalyard/proxy/MovingTries" "windowStart" "J" (.long tws) := f1009.other W1019 (Or.inr (slot_ne (Or.inl (hw _ (List.mem_of_getElem? (i := 12) rfl))) (Or.inl (hw _ (List.mem_of_getElem? (i := 44) rfl))) (by decide) (t := .long) (t' := .int) (by decide) (by decide)))
    have f1026 : Fld Z h1019 t "com/example/marshalyard/marshalyard/proxy/MovingTries" "window" "J" (.long tw) := f1010.other W1019 (Or.inr (slot_ne (Or.inl (hw _ (List.mem_of_getElem? (i := 40) rfl))) (Or.inl (hw _ (List.mem_of_getElem? (i := 44) rfl))) (by decide) (t := .long) (t' := .int) (by decide) (by decide)))
    have f1028 : Fld Z h1019 t "com/example/marshalyard/marshalyard/proxy/MovingTries" "movedBefore" "I" (.int b) := f1012.other W1019 (Or.inr (slot_ne (Or.inl (hw _ (List.mem_of_getElem? (i := 59) rfl))) (Or.inl (hw _ (List.mem_of_getElem? (i := 44) rfl))) (by decide) (t := .int) (t' := .int) (by decide) (by decide)))
    have f1029 : Fld Z h1019 a1 "com/example/marshalyard/marshalyard/proxy/MovingTries$Flight" "inFlight" "Z" (.int (0 : Int32)) := f1003.other W1019 (Or.inl nat)
    have N1019 := Fr.snoc X1019 N1002 g_t
    have KK1019 : Keep h0 h1019 [a1, t] := KK1002.wr W1019 (Or.inl (List.mem_of_getElem? (i := 1) rfl))
    have Z1019 := Nat.le_trans Z1002 (Keep.of_wr W1019).1
    show OEnds p.tables e below G (T1019.setTop (mkF m 41 #[.val (.ref a1)] []))
    refine OEnds.st (fun _ k => XS.goto X1019.here hx rfl (pc0 := 41) (pc' := 74) rfl (hb hby d6_41) (by decide) (by decide) k) ?_
    show OEnds p.tables e below G (T1019.setTop (mkF m 74 #[.val (.ref a1)] []))
    rw [← hG]
    have r1030 : (own_endN w tw n) = (n - (1 : Int32)) := by first | simp only [own_endN, if_pos hc25_1016] | exact hc25_1016.symm
    have r1031 : (own_endB w tw b) = b := by first | simp only [own_endB, if_pos hc25_1016] | exact hc25_1016.symm
    refine OEnds.retV X1019 hx hlk Bd.returns (hb hby d6_74) (by decide) (by decide) ?_
    rw [e1019]
    exact ⟨rfl, N1019, KK1019, f1021, f1022, f1029, f1023, f1024, f1025, f1026, (by rw [r1030]; exact f1020), (by rw [r1031]; exact f1028)⟩
  · -- pc 25: no
    refine OEnds.st (fun _ k => XS.ifYes X1015.here hx rfl (pc0 := 25) (pc' := 44) rfl (hb hby d6_25) rfl ((if0 _ _).trans (feq (fun q => hc25_1016 ((lw_eq w tw).mp q))).2) (by decide) (by decide) k) ?_
    show OEnds p.tables e below G (T1015.setTop (mkF m 44 #[.val (.ref a1)] []))
    refine OEnds.st (fun _ k => XS.aloadN X1015.here hx rfl (hb hby d6_44) rfl rfl k) ?_
    show OEnds p.tables e below G (T1015.setTop (mkF m 45 #[.val (.ref a1)] [(.ref a1)]))
    obtain ⟨T1032, X1032, e1032, st1032⟩ := getF X1015 hx hZ hown (host := "") (Or.inl (hw _ (List.mem_of_getElem? (i := 41) rfl))) Via.refl e1015 f1007 (g := (mkF m 45 #[.val (.ref a1)] [(.ref a1)])) rfl rfl (hb hby d6_45)
    refine OEnds.st st1032 ?_
    clear st1032
    show OEnds p.tables e below G (T1032.setTop (mkF m 48 #[.val (.ref a1)] [(.long w)]))
    refine OEnds.st (fun _ k => XS.aloadN X1032.here hx rfl (hb hby d6_48) rfl rfl k) ?_
    show OEnds p.tables e below G (T1032.setTop (mkF m 49 #[.val (.ref a1)] [(.ref a1), (.long w)]))
    obtain ⟨T1033, X1033, e1033, st1033⟩ := getF X1032 hx hZ hown (host := "") (Or.inl (hw _ (List.mem_of_getElem? (i := 24) rfl))) Via.refl e1032 f1005 (g := (mkF m 49 #[.val (.ref a1)] [(.ref a1), (.long w)])) rfl rfl (hb hby d6_49)
    refine OEnds.st st1033 ?_
    clear st1033
    show OEnds p.tables e below G (T1033.setTop (mkF m 52 #[.val (.ref a1)] [(.ref t), (.long w)]))
    obtain ⟨T1034, X1034, e1034, st1034⟩ := getF X1033 hx hZ hown (Or.inr (hw _ (List.mem_of_getElem? (i := 39) rfl))) Via.refl e1033 f1010 (g := (mkF m 52 #[.val (.ref a1)] [(.ref t), (.long w)])) rfl rfl (hb hby d6_52)
    refine OEnds.st st1034 ?_
    clear st1034
    show OEnds p.tables e below G (T1034.setTop (mkF m 55 #[.val (.ref a1)] [(.long tw), (.long w)]))
    refine OEnds.st (fun _ k => XS.lconst X1034.here hx rfl (hb hby d6_55) k) ?_
    show OEnds p.tables e below G (T1034.setTop (mkF m 56 #[.val (.ref a1)] [(.long (1 : Int64)), (.long tw), (.long w)]))
    refine OEnds.st (fun _ k => XS.lsub X1034.here hx rfl (hb hby d6_56) rfl k) ?_
    show OEnds p.tables e below G (T1034.setTop (mkF m 57 #[.val (.ref a1)] [(.long (tw - (1 : Int64))), (.long w)]))
    refine OEnds.st (fun _ k => XS.lcmp X1034.here hx rfl (hb hby d6_57) rfl k) ?_
    show OEnds p.tables e below G (T1034.setTop (mkF m 58 #[.val (.ref a1)] [(.int (lcmpW w (tw - (1 : Int64))))]))
    by_cases hc58_1035 : w = (tw - (1 : Int64))
    · -- pc 58: yes
      refine OEnds.st (fun _ k => XS.ifNo X1034.here hx rfl (hb hby d6_58) rfl ((if0 _ _).trans (teq ((lw_eq w (tw - (1 : Int64))).mpr hc58_1035)).2) k) ?_
      show OEnds p.tables e below G (T1034.setTop (mkF m 61 #[.val (.ref a1)] []))
      refine OEnds.st (fun _ k => XS.aloadN X1034.here hx rfl (hb hby d6_61) rfl rfl k) ?_
      show OEnds p.tables e below G (T1034.setTop (mkF m 62 #[.val (.ref a1)] [(.ref a1)]))
      obtain ⟨T1036, X1036, e1036, st1036⟩ := getF X1034 hx hZ hown (host := "") (Or.inl (hw _ (List.mem_of_getElem? (i := 24) rfl))) Via.refl e1034 f1005 (g := (mkF m 62 #[.val (.ref a1)] [(.ref a1)])) rfl rfl (hb hby d6_62)
      refine OEnds.st st1036 ?_
      clear st1036
      show OEnds p.tables e below G (T1036.setTop (mkF m 65 #[.val (.ref a1)] [(.ref t)]))
      refine OEnds.st (fun _ k => XS.dup X1036.here hx rfl (hb hby d6_65) rfl rfl k) ?_
      show OEnds p.tables e below G (T1036.setTop (mkF m 66 #[.val (.ref a1)] [(.ref t), (.ref t)]))
      obtain ⟨T1037, X1037, e1037, st1037⟩ := getF X1036 hx hZ hown (Or.inr (hw _ (List.mem_of_getElem? (i := 72) rfl))) Via.refl e1036 f1012 (g := (mkF m 66 #[.val (.ref a1)] [(.ref t), (.ref t)])) rfl rfl (hb hby d6_66)
      refine OEnds.st st1037 ?_
      clear st1037
      show OEnds p.tables e below G (T1037.setTop (mkF m 69 #[.val (.ref a1)] [(.int b), (.ref t)]))
      refine OEnds.st (fun _ k => XS.iconst X1037.here hx rfl (hb hby d6_69) k) ?_
      show OEnds p.tables e below G (T1037.setTop (mkF m 70 #[.val (.ref a1)] [(.int (1 : Int32)), (.int b), (.ref t)]))
      refine OEnds.st (fun _ k => XS.isub X1037.here hx rfl (hb hby d6_70) rfl k) ?_
      show OEnds p.tables e below G (T1037.setTop (mkF m 71 #[.val (.ref a1)] [(.int (b - (1 : Int32))), (.ref t)]))
      obtain ⟨T1038, h1038, X1038, e1038, W1038, st1038⟩ := putF X1037 hx hZ hown (Or.inr (hw _ (List.mem_of_getElem? (i := 72) rfl))) Via.refl e1037 f1012 f1008 (Or.inl (hw _ (List.mem_of_getElem? (i := 59) rfl))) (hw _ (List.mem_of_getElem? (i := 3) rfl)) (ty := .int) (by decide) rfl rfl (g := (mkF m 71 #[.val (.ref a1)] [(.int (b - (1 : Int32))), (.ref t)])) rfl rfl (hb hby d6_71)
      refine OEnds.st st1038 ?_
      clear st1038
      have f1039 : Fld Z h1038 t "com/example/marshalyard/marshalyard/proxy/MovingTries" "movedBefore" "I" (.int (b - (1 : Int32))) := f1012.same W1038
      have f1040 : Exa Z h1038 a1 "com/example/marshalyard/marshalyard/proxy/MovingTries$Flight" := f1004.wr W1038
      have f1041 : Fld Z h1038 a1 "com/example/marshalyard/marshalyard/proxy/MovingTries$Flight" "this$0" "Lcom/example/marshalyard/marshalyard/proxy/MovingTries;" (.ref t) := f1005.other W1038 (Or.inl nat)
      have f1042 : Fld Z h1038 a1 "com/example/marshalyard/marshalyard/proxy/MovingTries$Flight" "window" "J" (.long w) := f1007.other W1038 (Or.inl nat)
      have f1043 : Exa Z h1038 t "com/example/marshalyard/marshalyard/proxy/MovingTries" := f1008.wr W1038
      have f1044 : Fld Z h1038 t "com/example/marshalyard/marshalyard/proxy/MovingTries" "windowStart" "J" (.long tws) := f1009.other W1038 (Or.inr (slot_ne (Or.inl (hw _ (List.mem_of_getElem? (i := 12) rfl))) (Or.inl (hw _ (List.mem_of_getElem? (i := 59) rfl))) (by decide) (t := .long) (t' := .int) (by decide) (by decide)))
      have f1045 : Fld Z h1038 t "com/example/marshalyard/marshalyard/proxy/MovingTries" "window" "J" (.long tw) := f1010.other W1038 (Or.inr (slot_ne (Or.inl (hw _ (List.mem_of_getElem? (i := 40) rfl))) (Or.inl (hw _ (List.mem_of_getElem? (i := 59) rfl))) (by decide) (t := .long) (t' := .int) (by decide) (by decide)))
      have f1046 : Fld Z h1038 t "com/example/marshalyard/marshalyard/proxy/MovingTries" "movedNow" "I" (.int n) := f1011.other W1038 (Or.inr (slot_ne (Or.inl (hw _ (List.mem_of_getElem? (i := 44) rfl))) (Or.inl (hw _ (List.mem_of_getElem? (i := 59) rfl))) (by decide) (t := .int) (t' := .int) (by decide) (by decide)))
      have f1048 : Fld Z h1038 a1 "com/example/marshalyard/marshalyard/proxy/MovingTries$Flight" "inFlight" "Z" (.int (0 : Int32)) := f1003.other W1038 (Or.inl nat)
      have N1038 := Fr.snoc X1038 N1002 g_t
      have KK1038 : Keep h0 h1038 [a1, t] := KK1002.wr W1038 (Or.inl (List.mem_of_getElem? (i := 1) rfl))
      have Z1038 := Nat.le_trans Z1002 (Keep.of_wr W1038).1
      show OEnds p.tables e below G (T1038.setTop (mkF m 74 #[.val (.ref a1)] []))
      rw [← hG]
      have r1049 : (own_endN w tw n) = n := by first | simp only [own_endN, if_neg hc25_1016, if_pos hc58_1035] | exact hc58_1035.symm
      have r1050 : (own_endB w tw b) = (b - (1 : Int32)) := by first | simp only [own_endB, if_neg hc25_1016, if_pos hc58_1035] | exact hc58_1035.symm
      refine OEnds.retV X1038 hx hlk Bd.returns (hb hby d6_74) (by decide) (by decide) ?_
      rw [e1038]
      exact ⟨rfl, N1038, KK1038, f1040, f1041, f1048, f1042, f1043, f1044, f1045, (by rw [r1049]; exact f1046), (by rw [r1050]; exact f1039)⟩
    · -- pc 58: no
      refine OEnds.st (fun _ k => XS.ifYes X1034.here hx rfl (pc0 := 58) (pc' := 74) rfl (hb hby d6_58) rfl ((if0 _ _).trans (feq (fun q => hc58_1035 ((lw_eq w (tw - (1 : Int64))).mp q))).2) (by decide) (by decide) k) ?_
      show OEnds p.tables e below G (T1034.setTop (mkF m 74 #[.val (.ref a1)] []))
      rw [← hG]
      have r1051 : (own_endN w tw n) = n := by first | simp only [own_endN, if_neg hc25_1016, if_neg hc58_1035]
      have r1052 : (own_endB w tw b) = b := by first | simp only [own_endB, if_neg hc25_1016, if_neg hc58_1035]
      refine OEnds.retV X1034 hx hlk Bd.returns (hb hby d6_74) (by decide) (by decide) ?_
      rw [e1034]
      exact ⟨rfl, N1002, KK1002, f1004, f1005, f1003, f1007, f1008, f1009, f1010, (by rw [r1051]; exact f1011), (by rw [r1052]; exact f1012)⟩
theorem d5_0 : decode prog_83_method_2_code 0 = .ok (.aload_n 0, 1) := by decide +kernel
theorem d5_1 : decode prog_83_method_2_code 1 = .ok (.invokevirtual 13, 3) := by decide +kernel
theorem d5_4 : decode prog_83_method_2_code 4 = .ok (.aload_n 0, 1) := by decide +kernel
theorem d5_5 : decode prog_83_method_2_code 5 = .ok (.iconst 1, 1) := by decide +kernel
theorem d5_6 : decode prog_83_method_2_code 6 = .ok (.putfield 16, 3) := by decide +kernel
theorem d5_9 : decode prog_83_method_2_code 9 = .ok (.aload_n 0, 1) := by decide +kernel
theorem d5_10 : decode prog_83_method_2_code 10 = .ok (.aload_n 0, 1) := by decide +kernel
theorem d5_11 : decode prog_83_method_2_code 11 = .ok (.getfield 1, 3) := by decide +kernel
theorem d5_14 : decode prog_83_method_2_code 14 = .ok (.getfield 20, 3) := by decide +kernel
theorem d5_17 : decode prog_83_method_2_code 17 = .ok (.putfield 26, 3) := by decide +kernel
theorem d5_20 : decode prog_83_method_2_code 20 = .ok (.aload_n 0, 1) := by decide +kernel
theorem d5_21 : decode prog_83_method_2_code 21 = .ok (.getfield 1, 3) := by decide +kernel
theorem d5_24 : decode prog_83_method_2_code 24 = .ok (.dup, 1) := by decide +kernel
theorem d5_25 : decode prog_83_method_2_code 25 = .ok (.getfield 27, 3) := by decide +kernel
theorem d5_28 : decode prog_83_method_2_code 28 = .ok (.iconst 1, 1) := by decide +kernel
theorem d5_29 : decode prog_83_method_2_code 29 = .ok (.iadd, 1) := by decide +kernel
theorem d5_30 : decode prog_83_method_2_code 30 = .ok (.putfield 27, 3) := by decide +kernel
theorem d5_33 : decode prog_83_method_2_code 33 = .ok (.return_, 1) := by decide +kernel
theorem ef_beg0 (m : MethodId) (a1 : Addr) : entryFrame m #[(.ref a1)] 1 = mkF m 0 #[.val (.ref a1)] [] := by first | (simp [entryFrame, mkF, argsToLocals, Value.category]; done) | rfl
def Qbeg0 (Z : State) (a1 : Addr) (t : Addr) (w : Int64) (tws : Int64) (tw : Int64) (n : Int32) (b : Int32) (h0 : Heap) (n0 : Nat) (v : Option Value) (h : Heap) (L : List Loc) : Prop := v = none ∧ Fr n0 L ∧ Keep h0 h [a1, t] ∧ Exa Z h a1 "com/example/marshalyard/marshalyard/proxy/MovingTries$Flight" ∧ Fld Z h a1 "com/example/marshalyard/marshalyard/proxy/MovingTries$Flight" "this$0" "Lcom/example/marshalyard/marshalyard/proxy/MovingTries;" (.ref t) ∧ Fld Z h a1 "com/example/marshalyard/marshalyard/proxy/MovingTries$Flight" "inFlight" "Z" (.int (1 : Int32)) ∧ Fld Z h a1 "com/example/marshalyard/marshalyard/proxy/MovingTries$Flight" "window" "J" (.long tw) ∧ Exa Z h t "com/example/marshalyard/marshalyard/proxy/MovingTries" ∧ Fld Z h t "com/example/marshalyard/marshalyard/proxy/MovingTries" "windowStart" "J" (.long tws) ∧ Fld Z h t "com/example/marshalyard/marshalyard/proxy/MovingTries" "window" "J" (.long tw) ∧ Fld Z h t "com/example/marshalyard/marshalyard/proxy/MovingTries" "movedNow" "I" (.int (n + (1 : Int32))) ∧ Fld Z h t "com/example/marshalyard/marshalyard/proxy/MovingTries" "movedBefore" "I" (.int b)
theorem pd_1 : parseMethodDescriptor "()V" = some ⟨[], none⟩ := by decide +kernel
set_option maxRecDepth 65536 in
set_option maxHeartbeats 40000000 in
theorem rmbeg0 (l : Launch) (Z : State) (a0 : Array Value) (hw : ∀ d ∈ tables_1, d.before a0 Z = true) (ws : List Jvm.Cond) (a1 : Addr) (t : Addr) (w : Int64) (tws : Int64) (tw : Int64) (n : Int32) (b : Int32) (h0 : Heap) (n0 : Nat) (Z0 : n0 ≤ h0.size) (Ea1 : Exa Z h0 a1 "com/example/marshalyard/marshalyard/proxy/MovingTries$Flight") (Gthis0_a1 : Fld Z h0 a1 "com/example/marshalyard/marshalyard/proxy/MovingTries$Flight" "this$0" "Lcom/example/marshalyard/marshalyard/proxy/MovingTries;" (.ref t)) (GinFlight_a1 : Fld Z h0 a1 "com/example/marshalyard/marshalyard/proxy/MovingTries$Flight" "inFlight" "Z" (.int (0 : Int32))) (Gwindow_a1 : Fld Z h0 a1 "com/example/marshalyard/marshalyard/proxy/MovingTries$Flight" "window" "J" (.long w)) (Et : Exa Z h0 t "com/example/marshalyard/marshalyard/proxy/MovingTries") (FwindowStart_t : Fld Z h0 t "com/example/marshalyard/marshalyard/proxy/MovingTries" "windowStart" "J" (.long tws)) (Fwindow_t : Fld Z h0 t "com/example/marshalyard/marshalyard/proxy/MovingTries" "window" "J" (.long tw)) (FmovedNow_t : Fld Z h0 t "com/example/marshalyard/marshalyard/proxy/MovingTries" "movedNow" "I" (.int n)) (FmovedBefore_t : Fld Z h0 t "com/example/marshalyard/marshalyard/proxy/MovingTries" "movedBefore" "I" (.int b)) (g_a1 : n0 ≤ a1) (g_t : n0 ≤ t) (nat : a1 ≠ t) :
    MetFree l (⟨"com/example/marshalyard/marshalyard/proxy/MovingTries$Flight", "begin", "()V"⟩ : MethodName) (head1 (Jvm.Cond.code (⟨"com/example/marshalyard/marshalyard/proxy/MovingTries$Flight", "begin", "()V"⟩ : MethodName) prog_83_method_2_code 1 none :: ws) ({ frames := 1, cells := 0, slots := 0, locals := 12 } : Room)) (fun a U => a = #[(.ref a1)] ∧ Z.Warmed39 U.vm ∧ U.heap = h0) (fun _ _ _ _ _ => True) (fun _ U o U' => ∃ v L, o = .returned v ∧ Qbeg0 Z a1 t w tws tw n b h0 n0 v U'.heap L ∧ FrameEnd U o U' L ({ frames := 1, cells := 0, slots := 0, locals := 12 } : Room).cells ({ frames := 1, cells := 0, slots := 0, locals := 12 } : Room).slots) := by
  refine MetFree.of_bodySF (plainFor_of_name pn_1) hisR ?_
  intro p e s m args below meth c s₁ Bd hml0 hP hK
  obtain ⟨rfl, hZ, hh⟩ := hP
  have hx := Bd.exec
  have hby := Bd.bytes
  have hml : c.maxLocals = 1 := hml0
  have hown : s.vm.findClass "com/example/marshalyard/marshalyard/proxy/MovingTries$Flight" = some m.cls := findClass_of_methodNamed Bd.named
  have hnm := (name_of_methodNamed Bd.named Bd.method).1
  have hlk : meth.locks = false := BodyLoose.notSynchronized Bd
  have X0 : Stand p l e ({ frames := 1, cells := 0, slots := 0, locals := 12 } : Room) s m #[(.ref a1)] below meth c s₁ [] 0 0 := Stand.of_body Bd
  have e0 : s₁.heap = h0 := by rw [← hh, Bd.state]; rfl
  have N0 := Fr.nil n0
  show OEnds p.tables e below (OGoal (Qbeg0 Z a1 t w tws tw n b h0 n0) s 0 0) (s₁.setTop (entryFrame m #[(.ref a1)] 1))
  refine OEnds.st (fun t k => castTop (ef_beg0 m a1) k) ?_
  generalize hG : OGoal (Qbeg0 Z a1 t w tws tw n b h0 n0) s 0 0 = G
  have KK0 : Keep h0 h0 [a1, t] := Keep.refl h0 [a1, t]
  show OEnds p.tables e below G (s₁.setTop (mkF m 0 #[.val (.ref a1)] []))
  refine OEnds.st (fun _ k => XS.aloadN X0.here hx rfl (hb hby d5_0) rfl rfl k) ?_
  show OEnds p.tables e below G (s₁.setTop (mkF m 1 #[.val (.ref a1)] [(.ref a1)]))
  obtain ⟨cq1001, kq1001, q1001a, q1001b, q1001c⟩ := isOf hZ e0 Ea1
  obtain ⟨_, _, ⟨T1001, L1001, k1001c, n1001c⟩, -, X1001, ⟨Lc1001, hQ1001, l1001, y1001, z1001⟩, st1001⟩ := X0.virtualBack hx (y := (⟨"com/example/marshalyard/marshalyard/proxy/MovingTries$Flight", "end", "()V"⟩ : MethodName)) (z := (⟨"com/example/marshalyard/marshalyard/proxy/MovingTries$Flight", "end", "()V"⟩ : MethodName)) hown (mvT hZ (hw _ (List.mem_of_getElem? (i := 32) rfl))) (mvT hZ (hw _ (List.mem_of_getElem? (i := 33) rfl))) (notFace_of_selects (args := #[]) (mvT hZ (hw _ (List.mem_of_getElem? (i := 35) rfl)))) (mvT hZ (hw _ (List.mem_of_getElem? (i := 35) rfl))) (mvT hZ (hw _ (List.mem_of_getElem? (i := 34) rfl))) (by decide) (backOf (W := 0) (rmend0 l Z a0 hw [] a1 h0 n0 Z0 GinFlight_a1) hZ (hw _ (List.mem_of_getElem? (i := 36) rfl)) (hw _ (List.mem_of_getElem? (i := 20) rfl)) (by decide) (by decide)) q1001a q1001c (g := (mkF m 1 #[.val (.ref a1)] [(.ref a1)])) rfl (by rw [hml]; rfl) (Steps.refl _) (argsL := []) (rest := []) (lenOf pd_1 rfl) rfl (by show 2 * 0 + _ ≤ _; exact Nat.le_of_eq rfl) (hb hby d5_1) (fun _ _ => ⟨rfl, e0, (by decide : 0 + 0 ≤ _), (by decide : 0 + 0 ≤ _)⟩)
  dsimp only [Pt.U, Pt.locs, Pt.cells, Pt.slots] at X1001 l1001 y1001 z1001 st1001 hQ1001
  subst l1001 y1001 z1001
  obtain ⟨rfl, N1001q, e1001⟩ := hQ1001
  have N1001 := Fr.app N0 N1001q
  refine OEnds.st (fun _ k => st1001.trans k) ?_
  clear st1001
  show OEnds p.tables e below G (T1001.setTop (mkF m 4 #[.val (.ref a1)] []))
  refine OEnds.st (fun _ k => XS.aloadN X1001.here hx rfl (hb hby d5_4) rfl rfl k) ?_
  show OEnds p.tables e below G (T1001.setTop (mkF m 5 #[.val (.ref a1)] [(.ref a1)]))
  refine OEnds.st (fun _ k => XS.iconst X1001.here hx rfl (hb hby d5_5) k) ?_
  show OEnds p.tables e below G (T1001.setTop (mkF m 6 #[.val (.ref a1)] [(.int (1 : Int32)), (.ref a1)]))
  obtain ⟨T1002, h1002, X1002, e1002, W1002, st1002⟩ := putFN X1001 hx hZ hown (hw _ (List.mem_of_getElem? (i := 37) rfl)) Via.refl e1001 GinFlight_a1 Ea1 (Or.inl (hw _ (List.mem_of_getElem? (i := 38) rfl))) (hw _ (List.mem_of_getElem? (i := 19) rfl)) (ty := .boolean) (v' := (.int (1 : Int32))) (by decide) rfl (by decide) (g := (mkF m 6 #[.val (.ref a1)] [(.int (1 : Int32)), (.ref a1)])) rfl rfl (hb hby d5_6)
  refine OEnds.st st1002 ?_
  clear st1002
  have f1003 : Fld Z h1002 a1 "com/example/marshalyard/marshalyard/proxy/MovingTries$Flight" "inFlight" "Z" (.int (1 : Int32)) := GinFlight_a1.same W1002
  have f1004 : Exa Z h1002 a1 "com/example/marshalyard/marshalyard/proxy/MovingTries$Flight" := Ea1.wr W1002
  have f1005 : Fld Z h1002 a1 "com/example/marshalyard/marshalyard/proxy/MovingTries$Flight" "this$0" "Lcom/example/marshalyard/marshalyard/proxy/MovingTries;" (.ref t) := Gthis0_a1.other W1002 (Or.inr (slot_ne (Or.inr (hw _ (List.mem_of_getElem? (i := 25) rfl))) (Or.inl (hw _ (List.mem_of_getElem? (i := 38) rfl))) (by decide) (t := (.object "com/example/marshalyard/marshalyard/proxy/MovingTries")) (t' := .boolean) (by decide) (by decide)))
  have f1007 : Fld Z h1002 a1 "com/example/marshalyard/marshalyard/proxy/MovingTries$Flight" "window" "J" (.long w) := Gwindow_a1.other W1002 (Or.inr (slot_ne (Or.inl (hw _ (List.mem_of_getElem? (i := 42) rfl))) (Or.inl (hw _ (List.mem_of_getElem? (i := 38) rfl))) (by decide) (t := .long) (t' := .boolean) (by decide) (by decide)))
  have f1008 : Exa Z h1002 t "com/example/marshalyard/marshalyard/proxy/MovingTries" := Et.wr W1002
  have f1009 : Fld Z h1002 t "com/example/marshalyard/marshalyard/proxy/MovingTries" "windowStart" "J" (.long tws) := FwindowStart_t.other W1002 (Or.inl (Ne.symm nat))
  have f1010 : Fld Z h1002 t "com/example/marshalyard/marshalyard/proxy/MovingTries" "window" "J" (.long tw) := Fwindow_t.other W1002 (Or.inl (Ne.symm nat))
  have f1011 : Fld Z h1002 t "com/example/marshalyard/marshalyard/proxy/MovingTries" "movedNow" "I" (.int n) := FmovedNow_t.other W1002 (Or.inl (Ne.symm nat))
  have f1012 : Fld Z h1002 t "com/example/marshalyard/marshalyard/proxy/MovingTries" "movedBefore" "I" (.int b) := FmovedBefore_t.other W1002 (Or.inl (Ne.symm nat))
  have N1002 := Fr.snoc X1002 N1001 g_a1
  have KK1002 : Keep h0 h1002 [a1, t] := KK0.wr W1002 (Or.inl (List.mem_of_getElem? (i := 0) rfl))
  have Z1002 := Nat.le_trans Z0 (Keep.of_wr W1002).1
  show OEnds p.tables e below G (T1002.setTop (mkF m 9 #[.val (.ref a1)] []))
  refine OEnds.st (fun _ k => XS.aloadN X1002.here hx rfl (hb hby d5_9) rfl rfl k) ?_
  show OEnds p.tables e below G (T1002.setTop (mkF m 10 #[.val (.ref a1)] [(.ref a1)]))
  refine OEnds.st (fun _ k => XS.aloadN X1002.here hx rfl (hb hby d5_10) rfl rfl k) ?_
  show OEnds p.tables e below G (T1002.setTop (mkF m 11 #[.val (.ref a1)] [(.ref a1), (.ref a1)]))
  obtain ⟨T1013, X1013, e1013, st1013⟩ := getF X1002 hx hZ hown (host := "") (Or.inl (hw _ (List.mem_of_getElem? (i := 24) rfl))) Via.refl e1002 f1005 (g := (mkF m 11 #[.val (.ref a1)] [(.ref a1), (.ref a1)])) rfl rfl (hb hby d5_11)
  refine OEnds.st st1013 ?_
  clear st1013
  show OEnds p.tables e below G (T1013.setTop (mkF m 14 #[.val (.ref a1)] [(.ref t), (.ref a1)]))
  obtain ⟨T1014, X1014, e1014, st1014⟩ := getF X1013 hx hZ hown (Or.inr (hw _ (List.mem_of_getElem? (i := 39) rfl))) Via.refl e1013 f1010 (g := (mkF m 14 #[.val (.ref a1)] [(.ref t), (.ref a1)])) rfl rfl (hb hby d5_14)
  refine OEnds.st st1014 ?_
  clear st1014
  show OEnds p.tables e below G (T1014.setTop (mkF m 17 #[.val (.ref a1)] [(.long tw), (.ref a1)]))
  obtain ⟨T1015, h1015, X1015, e1015, W1015, st1015⟩ := putF X1014 hx hZ hown (host := "") (Or.inl (hw _ (List.mem_of_getElem? (i := 41) rfl))) Via.refl e1014 f1007 f1004 (Or.inl (hw _ (List.mem_of_getElem? (i := 42) rfl))) (hw _ (List.mem_of_getElem? (i := 19) rfl)) (ty := .long) (by decide) rfl rfl (g := (mkF m 17 #[.val (.ref a1)] [(.long tw), (.ref a1)])) rfl rfl (hb hby d5_17)
  refine OEnds.st st1015 ?_
  clear st1015
  have f1016 : Fld Z h1015 a1 "com/example/marshalyard/marshalyard/proxy/MovingTries$Flight" "window" "J" (.long tw) := f1007.same W1015
  have f1017 : Exa Z h1015 a1 "com/example/marshalyard/marshalyard/proxy/MovingTries$Flight" := f1004.wr W1015
  have f1018 : Fld Z h1015 a1 "com/example/marshalyard/marshalyard/proxy/MovingTries$Flight" "this$0" "Lcom/example/marshalyard/marshalyard/proxy/MovingTries;" (.ref t) := f1005.other W1015 (Or.inr (slot_ne (Or.inr (hw _ (List.mem_of_getElem? (i := 25) rfl))) (Or.inl (hw _ (List.mem_of_getElem? (i := 42) rfl))) (by decide) (t := (.object "com/example/marshalyard/marshalyard/proxy/MovingTries")) (t' := .long) (by decide) (by decide)))
  have f1020 : Exa Z h1015 t "com/example/marshalyard/marshalyard/proxy/MovingTries" := f1008.wr W1015
  have f1021 : Fld Z h1015 t "com/example/marshalyard/marshalyard/proxy/MovingTries" "windowStart" "J" (.long tws) := f1009.other W1015 (Or.inl (Ne.symm nat))
  have f1022 : Fld Z h1015 t "com/example/marshalyard/marshalyard/proxy/MovingTries" "window" "J" (.long tw) := f1010.other W1015 (Or.inl (Ne.symm nat))
  have f1023 : Fld Z h1015 t "com/example/marshalyard/marshalyard/proxy/MovingTries" "movedNow" "I" (.int n) := f1011.other W1015 (Or.inl (Ne.symm nat))
  have f1024 : Fld Z h1015 t "com/example/marshalyard/marshalyard/proxy/MovingTries" "movedBefore" "I" (.int b) := f1012.other W1015 (Or.inl (Ne.symm nat))
  have f1025 : Fld Z h1015 a1 "com/example/marshalyard/marshalyard/proxy/MovingTries$Flight" "inFlight" "Z" (.int (1 : Int32)) := f1003.other W1015 (Or.inr (slot_ne (Or.inl (hw _ (List.mem_of_getElem? (i := 38) rfl))) (Or.inl (hw _ (List.mem_of_getElem? (i := 42) rfl))) (by decide) (t := .boolean) (t' := .long) (by decide) (by decide)))
  have N1015 := Fr.snoc X1015 N1002 g_a1
  have KK1015 : Keep h0 h1015 [a1, t] := KK1002.wr W1015 (Or.inl (List.mem_of_getElem? (i := 0) rfl))
  have Z1015 := Nat.le_trans Z1002 (Keep.of_wr W1015).1
  show OEnds p.tables e below G (T1015.setTop (mkF m 20 #[.val (.ref a1)] []))
  refine OEnds.st (fun _ k => XS.aloadN X1015.here hx rfl (hb hby d5_20) rfl rfl k) ?_
  show OEnds p.tables e below G (T1015.setTop (mkF m 21 #[.val (.ref a1)] [(.ref a1)]))
  obtain ⟨T1026, X1026, e1026, st1026⟩ := getF X1015 hx hZ hown (host := "") (Or.inl (hw _ (List.mem_of_getElem? (i := 24) rfl))) Via.refl e1015 f1018 (g := (mkF m 21 #[.val (.ref a1)] [(.ref a1)])) rfl rfl (hb hby d5_21)
  refine OEnds.st st1026 ?_
  clear st1026
  show OEnds p.tables e below G (T1026.setTop (mkF m 24 #[.val (.ref a1)] [(.ref t)]))
  refine OEnds.st (fun _ k => XS.dup X1026.here hx rfl (hb hby d5_24) rfl rfl k) ?_
  show OEnds p.tables e below G (T1026.setTop (mkF m 25 #[.val (.ref a1)] [(.ref t), (.ref t)]))
  obtain ⟨T1027, X1027, e1027, st1027⟩ := getF X1026 hx hZ hown (Or.inr (hw _ (List.mem_of_getElem? (i := 43) rfl))) Via.refl e1026 f1023 (g := (mkF m 25 #[.val (.ref a1)] [(.ref t), (.ref t)])) rfl rfl (hb hby d5_25)
  refine OEnds.st st1027 ?_
  clear st1027
  show OEnds p.tables e below G (T1027.setTop (mkF m 28 #[.val (.ref a1)] [(.int n), (.ref t)]))
  refine OEnds.st (fun _ k => XS.iconst X1027.here hx rfl (hb hby d5_28) k) ?_
  show OEnds p.tables e below G (T1027.setTop (mkF m 29 #[.val (.ref a1)] [(.int (1 : Int32)), (.int n), (.ref t)]))
  refine OEnds.st (fun _ k => XS.iadd X1027.here hx rfl (hb hby d5_29) rfl k) ?_
  show OEnds p.tables e below G (T1027.setTop (mkF m 30 #[.val (.ref a1)] [(.int (n + (1 : Int32))), (.ref t)]))
  obtain ⟨T1028, h1028, X1028, e1028, W1028, st1028⟩ := putF X1027 hx hZ hown (Or.inr (hw _ (List.mem_of_getElem? (i := 43) rfl))) Via.refl e1027 f1023 f1020 (Or.inl (hw _ (List.mem_of_getElem? (i := 44) rfl))) (hw _ (List.mem_of_getElem? (i := 3) rfl)) (ty := .int) (by decide) rfl rfl (g := (mkF m 30 #[.val (.ref a1)] [(.int (n + (1 : Int32))), (.ref t)])) rfl rfl (hb hby d5_30)
  refine OEnds.st st1028 ?_
  clear st1028
  have f1029 : Fld Z h1028 t "com/example/marshalyard/marshalyard/proxy/MovingTries" "movedNow" "I" (.int (n + (1 : Int32))) := f1023.same W1028
  have f1030 : Exa Z h1028 a1 "com/example/marshalyard/marshalyard/proxy/MovingTries$Flight" := f1017.wr W1028
  have f1031 : Fld Z h1028 a1 "com/example/marshalyard/marshalyard/proxy/MovingTries$Flight" "this$0" "Lcom/example/marshalyard/marshalyard/proxy/MovingTries;" (.ref t) := f1018.other W1028 (Or.inl nat)
  have f1032 : Exa Z h1028 t "com/example/marshalyard/marshalyard/proxy/MovingTries" := f1020.wr W1028
  have f1033 : Fld Z h1028 t "com/example/marshalyard/marshalyard/proxy/MovingTries" "windowStart" "J" (.long tws) := f1021.other W1028 (Or.inr (slot_ne (Or.inl (hw _ (List.mem_of_getElem? (i := 12) rfl))) (Or.inl (hw _ (List.mem_of_getElem? (i := 44) rfl))) (by decide) (t := .long) (t' := .int) (by decide) (by decide)))
  have f1034 : Fld Z h1028 t "com/example/marshalyard/marshalyard/proxy/MovingTries" "window" "J" (.long tw) := f1022.other W1028 (Or.inr (slot_ne (Or.inl (hw _ (List.mem_of_getElem? (i := 40) rfl))) (Or.inl (hw _ (List.mem_of_getElem? (i := 44) rfl))) (by decide) (t := .long) (t' := .int) (by decide) (by decide)))
  have f1036 : Fld Z h1028 t "com/example/marshalyard/marshalyard/proxy/MovingTries" "movedBefore" "I" (.int b) := f1024.other W1028 (Or.inr (slot_ne (Or.inl (hw _ (List.mem_of_getElem? (i := 59) rfl))) (Or.inl (hw _ (List.mem_of_getElem? (i := 44) rfl))) (by decide) (t := .int) (t' := .int) (by decide) (by decide)))
  have f1037 : Fld Z h1028 a1 "com/example/marshalyard/marshalyard/proxy/MovingTries$Flight" "inFlight" "Z" (.int (1 : Int32)) := f1025.other W1028 (Or.inl nat)
  have f1038 : Fld Z h1028 a1 "com/example/marshalyard/marshalyard/proxy/MovingTries$Flight" "window" "J" (.long tw) := f1016.other W1028 (Or.inl nat)
  have N1028 := Fr.snoc X1028 N1015 g_t
  have KK1028 : Keep h0 h1028 [a1, t] := KK1015.wr W1028 (Or.inl (List.mem_of_getElem? (i := 1) rfl))
  have Z1028 := Nat.le_trans Z1015 (Keep.of_wr W1028).1
  show OEnds p.tables e below G (T1028.setTop (mkF m 33 #[.val (.ref a1)] []))
  rw [← hG]
  refine OEnds.retV X1028 hx hlk Bd.returns (hb hby d5_33) (by decide) (by decide) ?_
  rw [e1028]
  exact ⟨rfl, N1028, KK1028, f1030, f1031, f1037, f1038, f1032, f1033, f1034, f1029, f1036⟩
theorem ef_beg1 (m : MethodId) (a1 : Addr) : entryFrame m #[(.ref a1)] 1 = mkF m 0 #[.val (.ref a1)] [] := by first | (simp [entryFrame, mkF, argsToLocals, Value.category]; done) | rfl
def Qbeg1 (Z : State) (a1 : Addr) (t : Addr) (w : Int64) (tws : Int64) (tw : Int64) (n : Int32) (b : Int32) (h0 : Heap) (n0 : Nat) (v : Option Value) (h : Heap) (L : List Loc) : Prop := v = none ∧ Fr n0 L ∧ Keep h0 h [a1, t] ∧ Exa Z h a1 "com/example/marshalyard/marshalyard/proxy/MovingTries$Flight" ∧ Fld Z h a1 "com/example/marshalyard/marshalyard/proxy/MovingTries$Flight" "this$0" "Lcom/example/marshalyard/marshalyard/proxy/MovingTries;" (.ref t) ∧ Fld Z h a1 "com/example/marshalyard/marshalyard/proxy/MovingTries$Flight" "inFlight" "Z" (.int (1 : Int32)) ∧ Fld Z h a1 "com/example/marshalyard/marshalyard/proxy/MovingTries$Flight" "window" "J" (.long tw) ∧ Exa Z h t "com/example/marshalyard/marshalyard/proxy/MovingTries" ∧ Fld Z h t "com/example/marshalyard/marshalyard/proxy/MovingTries" "windowStart" "J" (.long tws) ∧ Fld Z h t "com/example/marshalyard/marshalyard/proxy/MovingTries" "window" "J" (.long tw) ∧ Fld Z h t "com/example/marshalyard/marshalyard/proxy/MovingTries" "movedNow" "I" (.int ((own_endN w tw n) + (1 : Int32))) ∧ Fld Z h t "com/example/marshalyard/marshalyard/proxy/MovingTries" "movedBefore" "I" (.int (own_endB w tw b))
set_option maxRecDepth 65536 in
set_option maxHeartbeats 40000000 in
theorem rmbeg1 (l : Launch) (Z : State) (a0 : Array Value) (hw : ∀ d ∈ tables_1, d.before a0 Z = true) (ws : List Jvm.Cond) (a1 : Addr) (t : Addr) (w : Int64) (tws : Int64) (tw : Int64) (n : Int32) (b : Int32) (h0 : Heap) (n0 : Nat) (Z0 : n0 ≤ h0.size) (Ea1 : Exa Z h0 a1 "com/example/marshalyard/marshalyard/proxy/MovingTries$Flight") (Gthis0_a1 : Fld Z h0 a1 "com/example/marshalyard/marshalyard/proxy/MovingTries$Flight" "this$0" "Lcom/example/marshalyard/marshalyard/proxy/MovingTries;" (.ref t)) (GinFlight_a1 : Fld Z h0 a1 "com/example/marshalyard/marshalyard/proxy/MovingTries$Flight" "inFlight" "Z" (.int (1 : Int32))) (Gwindow_a1 : Fld Z h0 a1 "com/example/marshalyard/marshalyard/proxy/MovingTries$Flight" "window" "J" (.long w)) (Et : Exa Z h0 t "com/example/marshalyard/marshalyard/proxy/MovingTries") (FwindowStart_t : Fld Z h0 t "com/example/marshalyard/marshalyard/proxy/MovingTries" "windowStart" "J" (.long tws)) (Fwindow_t : Fld Z h0 t "com/example/marshalyard/marshalyard/proxy/MovingTries" "window" "J" (.long tw)) (FmovedNow_t : Fld Z h0 t "com/example/marshalyard/marshalyard/proxy/MovingTries" "movedNow" "I" (.int n)) (FmovedBefore_t : Fld Z h0 t "com/example/marshalyard/marshalyard/proxy/MovingTries" "movedBefore" "I" (.int b)) (g_a1 : n0 ≤ a1) (g_t : n0 ≤ t) (nat : a1 ≠ t) :
    MetFree l (⟨"com/example/marshalyard/marshalyard/proxy/MovingTries$Flight", "begin", "()V"⟩ : MethodName) (head1 (Jvm.Cond.code (⟨"com/example/marshalyard/marshalyard/proxy/MovingTries$Flight", "begin", "()V"⟩ : MethodName) prog_83_method_2_code 1 none :: ws) ({ frames := 1, cells := 0, slots := 0, locals := 12 } : Room)) (fun a U => a = #[(.ref a1)] ∧ Z.Warmed39 U.vm ∧ U.heap = h0) (fun _ _ _ _ _ => True) (fun _ U o U' => ∃ v L, o = .returned v ∧ Qbeg1 Z a1 t w tws tw n b h0 n0 v U'.heap L ∧ FrameEnd U o U' L ({ frames := 1, cells := 0, slots := 0, locals := 12 } : Room).cells ({ frames := 1, cells := 0, slots := 0, locals := 12 } : Room).slots) := by
  refine MetFree.of_bodySF (plainFor_of_name pn_1) hisR ?_
  intro p e s m args below meth c s₁ Bd hml0 hP hK
  obtain ⟨rfl, hZ, hh⟩ := hP
  have hx := Bd.exec
  have hby := Bd.bytes
  have hml : c.maxLocals = 1 := hml0
  have hown : s.vm.findClass "com/example/marshalyard/marshalyard/proxy/MovingTries$Flight" = some m.cls := findClass_of_methodNamed Bd.named
  have hnm := (name_of_methodNamed Bd.named Bd.method).1
  have hlk : meth.locks = false := BodyLoose.notSynchronized Bd
  have X0 : Stand p l e ({ frames := 1, cells := 0, slots := 0, locals := 12 } : Room) s m #[(.ref a1)] below meth c s₁ [] 0 0 := Stand.of_body Bd
  have e0 : s₁.heap = h0 := by rw [← hh, Bd.state]; rfl
  have N0 := Fr.nil n0
  show OEnds p.tables e below (OGoal (Qbeg1 Z a1 t w tws tw n b h0 n0) s 0 0) (s₁.setTop (entryFrame m #[(.ref a1)] 1))
  refine OEnds.st (fun t k => castTop (ef_beg1 m a1) k) ?_
  generalize hG : OGoal (Qbeg1 Z a1 t w tws tw n b h0 n0) s 0 0 = G
  have KK0 : Keep h0 h0 [a1, t] := Keep.refl h0 [a1, t]
  show OEnds p.tables e below G (s₁.setTop (mkF m 0 #[.val (.ref a1)] []))
  refine OEnds.st (fun _ k => XS.aloadN X0.here hx rfl (hb hby d5_0) rfl rfl k) ?_
  show OEnds p.tables e below G (s₁.setTop (mkF m 1 #[.val (.ref a1)] [(.ref a1)]))
  obtain ⟨cq1001, kq1001, q1001a, q1001b, q1001c⟩ := isOf hZ e0 Ea1
  obtain ⟨_, _, ⟨T1001, L1001, k1001c, n1001c⟩, -, X1001, ⟨Lc1001, hQ1001, l1001, y1001, z1001⟩, st1001⟩ := X0.virtualBack hx (y := (⟨"com/example/marshalyard/marshalyard/proxy/MovingTries$Flight", "end", "()V"⟩ : MethodName)) (z := (⟨"com/example/marshalyard/marshalyard/proxy/MovingTries$Flight", "end", "()V"⟩ : MethodName)) hown (mvT hZ (hw _ (List.mem_of_getElem? (i := 32) rfl))) (mvT hZ (hw _ (List.mem_of_getElem? (i := 33) rfl))) (notFace_of_selects (args := #[]) (mvT hZ (hw _ (List.mem_of_getElem? (i := 35) rfl)))) (mvT hZ (hw _ (List.mem_of_getElem? (i := 35) rfl))) (mvT hZ (hw _ (List.mem_of_getElem? (i := 34) rfl))) (by decide) (backOf (W := 0) (rmend1 l Z a0 hw [] a1 t w tws tw n b h0 n0 Z0 Ea1 Gthis0_a1 GinFlight_a1 Gwindow_a1 Et FwindowStart_t Fwindow_t FmovedNow_t FmovedBefore_t g_a1 g_t nat) hZ (hw _ (List.mem_of_getElem? (i := 36) rfl)) (hw _ (List.mem_of_getElem? (i := 20) rfl)) (by decide) (by decide)) q1001a q1001c (g := (mkF m 1 #[.val (.ref a1)] [(.ref a1)])) rfl (by rw [hml]; rfl) (Steps.refl _) (argsL := []) (rest := []) (lenOf pd_1 rfl) rfl (by show 2 * 0 + _ ≤ _; exact Nat.le_of_eq rfl) (hb hby d5_1) (fun _ _ => ⟨rfl, e0, (by decide : 0 + 0 ≤ _), (by decide : 0 + 0 ≤ _)⟩)
  dsimp only [Pt.U, Pt.locs, Pt.cells, Pt.slots] at X1001 l1001 y1001 z1001 st1001 hQ1001
  subst l1001 y1001 z1001
  obtain ⟨rfl, N1001q, p1002, p1003, p1004, p1005, p1006, p1007, p1008, p1009, p1010, p1011⟩ := hQ1001
  have N1001 := Fr.app N0 N1001q
  refine OEnds.st (fun _ k => st1001.trans k) ?_
  clear st1001
  have f1012 : Exa Z T1001.heap a1 "com/example/marshalyard/marshalyard/proxy/MovingTries$Flight" := Ea1.keep p1002
  have f1016 : Exa Z T1001.heap t "com/example/marshalyard/marshalyard/proxy/MovingTries" := Et.keep p1002
  have KK1001 : Keep h0 T1001.heap [a1, t] := KK0.trans p1002 (fun x hx => by rcases List.mem_cons.mp hx with rfl | hx; exact Or.inl (List.mem_of_getElem? (i := 0) rfl); cases List.mem_singleton.mp hx; exact Or.inl (List.mem_of_getElem? (i := 1) rfl))
  have Z1001 := Nat.le_trans Z0 p1002.1
  show OEnds p.tables e below G (T1001.setTop (mkF m 4 #[.val (.ref a1)] []))
  refine OEnds.st (fun _ k => XS.aloadN X1001.here hx rfl (hb hby d5_4) rfl rfl k) ?_
  show OEnds p.tables e below G (T1001.setTop (mkF m 5 #[.val (.ref a1)] [(.ref a1)]))
  refine OEnds.st (fun _ k => XS.iconst X1001.here hx rfl (hb hby d5_5) k) ?_
  show OEnds p.tables e below G (T1001.setTop (mkF m 6 #[.val (.ref a1)] [(.int (1 : Int32)), (.ref a1)]))
  obtain ⟨T1021, h1021, X1021, e1021, W1021, st1021⟩ := putFN X1001 hx hZ hown (hw _ (List.mem_of_getElem? (i := 37) rfl)) Via.refl rfl p1005 p1003 (Or.inl (hw _ (List.mem_of_getElem? (i := 38) rfl))) (hw _ (List.mem_of_getElem? (i := 19) rfl)) (ty := .boolean) (v' := (.int (1 : Int32))) (by decide) rfl (by decide) (g := (mkF m 6 #[.val (.ref a1)] [(.int (1 : Int32)), (.ref a1)])) rfl rfl (hb hby d5_6)
  refine OEnds.st st1021 ?_
  clear st1021
  have f1022 : Fld Z h1021 a1 "com/example/marshalyard/marshalyard/proxy/MovingTries$Flight" "inFlight" "Z" (.int (1 : Int32)) := p1005.same W1021
  have f1023 : Exa Z h1021 a1 "com/example/marshalyard/marshalyard/proxy/MovingTries$Flight" := p1003.wr W1021
  have f1024 : Exa Z h1021 t "com/example/marshalyard/marshalyard/proxy/MovingTries" := p1007.wr W1021
  have f1025 : Fld Z h1021 a1 "com/example/marshalyard/marshalyard/proxy/MovingTries$Flight" "this$0" "Lcom/example/marshalyard/marshalyard/proxy/MovingTries;" (.ref t) := p1004.other W1021 (Or.inr (slot_ne (Or.inr (hw _ (List.mem_of_getElem? (i := 25) rfl))) (Or.inl (hw _ (List.mem_of_getElem? (i := 38) rfl))) (by decide) (t := (.object "com/example/marshalyard/marshalyard/proxy/MovingTries")) (t' := .boolean) (by decide) (by decide)))
  have f1027 : Fld Z h1021 a1 "com/example/marshalyard/marshalyard/proxy/MovingTries$Flight" "window" "J" (.long w) := p1006.other W1021 (Or.inr (slot_ne (Or.inl (hw _ (List.mem_of_getElem? (i := 42) rfl))) (Or.inl (hw _ (List.mem_of_getElem? (i := 38) rfl))) (by decide) (t := .long) (t' := .boolean) (by decide) (by decide)))
  have f1028 : Fld Z h1021 t "com/example/marshalyard/marshalyard/proxy/MovingTries" "windowStart" "J" (.long tws) := p1008.other W1021 (Or.inl (Ne.symm nat))
  have f1029 : Fld Z h1021 t "com/example/marshalyard/marshalyard/proxy/MovingTries" "window" "J" (.long tw) := p1009.other W1021 (Or.inl (Ne.symm nat))
  have f1030 : Fld Z h1021 t "com/example/marshalyard/marshalyard/proxy/MovingTries" "movedNow" "I" (.int (own_endN w tw n)) := p1010.other W1021 (Or.inl (Ne.symm nat))
  have f1031 : Fld Z h1021 t "com/example/marshalyard/marshalyard/proxy/MovingTries" "movedBefore" "I" (.int (own_endB w tw b)) := p1011.other W1021 (Or.inl (Ne.symm nat))
  have N1021 := Fr.snoc X1021 N1001 g_a1
  have KK1021 : Keep h0 h1021 [a1, t] := KK1001.wr W1021 (Or.inl (List.mem_of_getElem? (i := 0) rfl))
  have Z1021 := Nat.le_trans Z1001 (Keep.of_wr W1021).1
  show OEnds p.tables e below G (T1021.setTop (mkF m 9 #[.val (.ref a1)] []))
  refine OEnds.st (fun _ k => XS.aloadN X1021.here hx rfl (hb hby d5_9) rfl rfl k) ?_
  show OEnds p.tables e below G (T1021.setTop (mkF m 10 #[.val (.ref a1)] [(.ref a1)]))
  refine OEnds.st (fun _ k => XS.aloadN X1021.here hx rfl (hb hby d5_10) rfl rfl k) ?_
  show OEnds p.tables e below G (T1021.setTop (mkF m 11 #[.val (.ref a1)] [(.ref a1), (.ref a1)]))
  obtain ⟨T1032, X1032, e1032, st1032⟩ := getF X1021 hx hZ hown (host := "") (Or.inl (hw _ (List.mem_of_getElem? (i := 24) rfl))) Via.refl e1021 f1025 (g := (mkF m 11 #[.val (.ref a1)] [(.ref a1), (.ref a1)])) rfl rfl (hb hby d5_11)
  refine OEnds.st st1032 ?_
  clear st1032
  show OEnds p.tables e below G (T1032.setTop (mkF m 14 #[.val (.ref a1)] [(.ref t), (.ref a1)]))
  obtain ⟨T1033, X1033, e1033, st1033⟩ := getF X1032 hx hZ hown (Or.inr (hw _ (List.mem_of_getElem? (i := 39) rfl))) Via.refl e1032 f1029 (g := (mkF m 14 #[.val (.ref a1)] [(.ref t), (.ref a1)])) rfl rfl (hb hby d5_14)
  refine OEnds.st st1033 ?_
  clear st1033
  show OEnds p.tables e below G (T1033.setTop (mkF m 17 #[.val (.ref a1)] [(.long tw), (.ref a1)]))
  obtain ⟨T1034, h1034, X1034, e1034, W1034, st1034⟩ := putF X1033 hx hZ hown (host := "") (Or.inl (hw _ (List.mem_of_getElem? (i := 41) rfl))) Via.refl e1033 f1027 f1023 (Or.inl (hw _ (List.mem_of_getElem? (i := 42) rfl))) (hw _ (List.mem_of_getElem? (i := 19) rfl)) (ty := .long) (by decide) rfl rfl (g := (mkF m 17 #[.val (.ref a1)] [(.long tw), (.ref a1)])) rfl rfl (hb hby d5_17)
  refine OEnds.st st1034 ?_
  clear st1034
  have f1035 : Fld Z h1034 a1 "com/example/marshalyard/marshalyard/proxy/MovingTries$Flight" "window" "J" (.long tw) := f1027.same W1034
  have f1036 : Exa Z h1034 a1 "com/example/marshalyard/marshalyard/proxy/MovingTries$Flight" := f1023.wr W1034
  have f1037 : Exa Z h1034 t "com/example/marshalyard/marshalyard/proxy/MovingTries" := f1024.wr W1034
  have f1038 : Fld Z h1034 a1 "com/example/marshalyard/marshalyard/proxy/MovingTries$Flight" "this$0" "Lcom/example/marshalyard/marshalyard/proxy/MovingTries;" (.ref t) := f1025.other W1034 (Or.inr (slot_ne (Or.inr (hw _ (List.mem_of_getElem? (i := 25) rfl))) (Or.inl (hw _ (List.mem_of_getElem? (i := 42) rfl))) (by decide) (t := (.object "com/example/marshalyard/marshalyard/proxy/MovingTries")) (t' := .long) (by decide) (by decide)))
  have f1040 : Fld Z h1034 t "com/example/marshalyard/marshalyard/proxy/MovingTries" "windowStart" "J" (.long tws) := f1028.other W1034 (Or.inl (Ne.symm nat))
  have f1041 : Fld Z h1034 t "com/example/marshalyard/marshalyard/proxy/MovingTries" "window" "J" (.long tw) := f1029.other W1034 (Or.inl (Ne.symm nat))
  have f1042 : Fld Z h1034 t "com/example/marshalyard/marshalyard/proxy/MovingTries" "movedNow" "I" (.int (own_endN w tw n)) := f1030.other W1034 (Or.inl (Ne.symm nat))
  have f1043 : Fld Z h1034 t "com/example/marshalyard/marshalyard/proxy/MovingTries" "movedBefore" "I" (.int (own_endB w tw b)) := f1031.other W1034 (Or.inl (Ne.symm nat))
  have f1044 : Fld Z h1034 a1 "com/example/marshalyard/marshalyard/proxy/MovingTries$Flight" "inFlight" "Z" (.int (1 : Int32)) := f1022.other W1034 (Or.inr (slot_ne (Or.inl (hw _ (List.mem_of_getElem? (i := 38) rfl))) (Or.inl (hw _ (List.mem_of_getElem? (i := 42) rfl))) (by decide) (t := .boolean) (t' := .long) (by decide) (by decide)))
  have N1034 := Fr.snoc X1034 N1021 g_a1
  have KK1034 : Keep h0 h1034 [a1, t] := KK1021.wr W1034 (Or.inl (List.mem_of_getElem? (i := 0) rfl))
  have Z1034 := Nat.le_trans Z1021 (Keep.of_wr W1034).1
  show OEnds p.tables e below G (T1034.setTop (mkF m 20 #[.val (.ref a1)] []))
  refine OEnds.st (fun _ k => XS.aloadN X1034.here hx rfl (hb hby d5_20) rfl rfl k) ?_
  show OEnds p.tables e below G (T1034.setTop (mkF m 21 #[.val (.ref a1)] [(.ref a1)]))
  obtain ⟨T1045, X1045, e1045, st1045⟩ := getF X1034 hx hZ hown (host := "") (Or.inl (hw _ (List.mem_of_getElem? (i := 24) rfl))) Via.refl e1034 f1038 (g := (mkF m 21 #[.val (.ref a1)] [(.ref a1)])) rfl rfl (hb hby d5_21)
  refine OEnds.st st1045 ?_
  clear st1045
  show OEnds p.tables e below G (T1045.setTop (mkF m 24 #[.val (.ref a1)] [(.ref t)]))
  refine OEnds.st (fun _ k => XS.dup X1045.here hx rfl (hb hby d5_24) rfl rfl k) ?_
  show OEnds p.tables e below G (T1045.setTop (mkF m 25 #[.val (.ref a1)] [(.ref t), (.ref t)]))
  obtain ⟨T1046, X1046, e1046, st1046⟩ := getF X1045 hx hZ hown (Or.inr (hw _ (List.mem_of_getElem? (i := 43) rfl))) Via.refl e1045 f1042 (g := (mkF m 25 #[.val (.ref a1)] [(.ref t), (.ref t)])) rfl rfl (hb hby d5_25)
  refine OEnds.st st1046 ?_
  clear st1046
  show OEnds p.tables e below G (T1046.setTop (mkF m 28 #[.val (.ref a1)] [(.int (own_endN w tw n)), (.ref t)]))
  refine OEnds.st (fun _ k => XS.iconst X1046.here hx rfl (hb hby d5_28) k) ?_
  show OEnds p.tables e below G (T1046.setTop (mkF m 29 #[.val (.ref a1)] [(.int (1 : Int32)), (.int (own_endN w tw n)), (.ref t)]))
  refine OEnds.st (fun _ k => XS.iadd X1046.here hx rfl (hb hby d5_29) rfl k) ?_
  show OEnds p.tables e below G (T1046.setTop (mkF m 30 #[.val (.ref a1)] [(.int ((own_endN w tw n) + (1 : Int32))), (.ref t)]))
  obtain ⟨T1047, h1047, X1047, e1047, W1047, st1047⟩ := putF X1046 hx hZ hown (Or.inr (hw _ (List.mem_of_getElem? (i := 43) rfl))) Via.refl e1046 f1042 f1037 (Or.inl (hw _ (List.mem_of_getElem? (i := 44) rfl))) (hw _ (List.mem_of_getElem? (i := 3) rfl)) (ty := .int) (by decide) rfl rfl (g := (mkF m 30 #[.val (.ref a1)] [(.int ((own_endN w tw n) + (1 : Int32))), (.ref t)])) rfl rfl (hb hby d5_30)
  refine OEnds.st st1047 ?_
  clear st1047
  have f1048 : Fld Z h1047 t "com/example/marshalyard/marshalyard/proxy/MovingTries" "movedNow" "I" (.int ((own_endN w tw n) + (1 : Int32))) := f1042.same W1047
  have f1049 : Exa Z h1047 a1 "com/example/marshalyard/marshalyard/proxy/MovingTries$Flight" := f1036.wr W1047
  have f1050 : Exa Z h1047 t "com/example/marshalyard/marshalyard/proxy/MovingTries" := f1037.wr W1047
  have f1051 : Fld Z h1047 a1 "com/example/marshalyard/marshalyard/proxy/MovingTries$Flight" "this$0" "Lcom/example/marshalyard/marshalyard/proxy/MovingTries;" (.ref t) := f1038.other W1047 (Or.inl nat)
  have f1052 : Fld Z h1047 t "com/example/marshalyard/marshalyard/proxy/MovingTries" "windowStart" "J" (.long tws) := f1040.other W1047 (Or.inr (slot_ne (Or.inl (hw _ (List.mem_of_getElem? (i := 12) rfl))) (Or.inl (hw _ (List.mem_of_getElem? (i := 44) rfl))) (by decide) (t := .long) (t' := .int) (by decide) (by decide)))
  have f1053 : Fld Z h1047 t "com/example/marshalyard/marshalyard/proxy/MovingTries" "window" "J" (.long tw) := f1041.other W1047 (Or.inr (slot_ne (Or.inl (hw _ (List.mem_of_getElem? (i := 40) rfl))) (Or.inl (hw _ (List.mem_of_getElem? (i := 44) rfl))) (by decide) (t := .long) (t' := .int) (by decide) (by decide)))
  have f1055 : Fld Z h1047 t "com/example/marshalyard/marshalyard/proxy/MovingTries" "movedBefore" "I" (.int (own_endB w tw b)) := f1043.other W1047 (Or.inr (slot_ne (Or.inl (hw _ (List.mem_of_getElem? (i := 59) rfl))) (Or.inl (hw _ (List.mem_of_getElem? (i := 44) rfl))) (by decide) (t := .int) (t' := .int) (by decide) (by decide)))
  have f1056 : Fld Z h1047 a1 "com/example/marshalyard/marshalyard/proxy/MovingTries$Flight" "inFlight" "Z" (.int (1 : Int32)) := f1044.other W1047 (Or.inl nat)
  have f1057 : Fld Z h1047 a1 "com/example/marshalyard/marshalyard/proxy/MovingTries$Flight" "window" "J" (.long tw) := f1035.other W1047 (Or.inl nat)
  have N1047 := Fr.snoc X1047 N1034 g_t
  have KK1047 : Keep h0 h1047 [a1, t] := KK1034.wr W1047 (Or.inl (List.mem_of_getElem? (i := 1) rfl))
  have Z1047 := Nat.le_trans Z1034 (Keep.of_wr W1047).1
  show OEnds p.tables e below G (T1047.setTop (mkF m 33 #[.val (.ref a1)] []))
  rw [← hG]
  refine OEnds.retV X1047 hx hlk Bd.returns (hb hby d5_33) (by decide) (by decide) ?_
  rw [e1047]
  exact ⟨rfl, N1047, KK1047, f1049, f1051, f1056, f1057, f1050, f1052, f1053, f1048, f1055⟩
theorem d10_0 : decode prog_83_method_3_code 0 = .ok (.aload_n 0, 1) := by decide +kernel
theorem d10_1 : decode prog_83_method_3_code 1 = .ok (.getfield 16, 3) := by decide +kernel
theorem d10_4 : decode prog_83_method_3_code 4 = .ok (.ifCond .eq 22, 3) := by decide +kernel
theorem d10_7 : decode prog_83_method_3_code 7 = .ok (.aload_n 0, 1) := by decide +kernel
theorem d10_8 : decode prog_83_method_3_code 8 = .ok (.getfield 26, 3) := by decide +kernel
theorem d10_11 : decode prog_83_method_3_code 11 = .ok (.aload_n 0, 1) := by decide +kernel
theorem d10_12 : decode prog_83_method_3_code 12 = .ok (.getfield 1, 3) := by decide +kernel
theorem d10_15 : decode prog_83_method_3_code 15 = .ok (.getfield 20, 3) := by decide +kernel
theorem d10_18 : decode prog_83_method_3_code 18 = .ok (.lcmp, 1) := by decide +kernel
theorem d10_19 : decode prog_83_method_3_code 19 = .ok (.ifCond .eq 7, 3) := by decide +kernel
theorem d10_22 : decode prog_83_method_3_code 22 = .ok (.aload_n 0, 1) := by decide +kernel
theorem d10_23 : decode prog_83_method_3_code 23 = .ok (.invokevirtual 31, 3) := by decide +kernel
theorem d10_26 : decode prog_83_method_3_code 26 = .ok (.return_, 1) := by decide +kernel
theorem ef_mov (m : MethodId) (a1 : Addr) : entryFrame m #[(.ref a1)] 1 = mkF m 0 #[.val (.ref a1)] [] := by first | (simp [entryFrame, mkF, argsToLocals, Value.category]; done) | rfl
def Qmov (Z : State) (a1 : Addr) (t : Addr) (w : Int64) (tws : Int64) (tw : Int64) (n : Int32) (b : Int32) (h0 : Heap) (n0 : Nat) (v : Option Value) (h : Heap) (L : List Loc) : Prop := v = none ∧ Fr n0 L ∧ Keep h0 h [a1, t] ∧ Exa Z h a1 "com/example/marshalyard/marshalyard/proxy/MovingTries$Flight" ∧ Fld Z h a1 "com/example/marshalyard/marshalyard/proxy/MovingTries$Flight" "this$0" "Lcom/example/marshalyard/marshalyard/proxy/MovingTries;" (.ref t) ∧ Fld Z h a1 "com/example/marshalyard/marshalyard/proxy/MovingTries$Flight" "inFlight" "Z" (.int (1 : Int32)) ∧ Fld Z h a1 "com/example/marshalyard/marshalyard/proxy/MovingTries$Flight" "window" "J" (.long tw) ∧ Exa Z h t "com/example/marshalyard/marshalyard/proxy/MovingTries" ∧ Fld Z h t "com/example/marshalyard/marshalyard/proxy/MovingTries" "windowStart" "J" (.long tws) ∧ Fld Z h t "com/example/marshalyard/marshalyard/proxy/MovingTries" "window" "J" (.long tw) ∧ Fld Z h t "com/example/marshalyard/marshalyard/proxy/MovingTries" "movedNow" "I" (.int (own_mvN w tw n)) ∧ Fld Z h t "com/example/marshalyard/marshalyard/proxy/MovingTries" "movedBefore" "I" (.int (own_mvB w tw b))
set_option maxRecDepth 65536 in
set_option maxHeartbeats 40000000 in
theorem rmmov (l : Launch) (Z : State) (a0 : Array Value) (hw : ∀ d ∈ tables_1, d.before a0 Z = true) (ws : List Jvm.Cond) (a1 : Addr) (t : Addr) (w : Int64) (tws : Int64) (tw : Int64) (n : Int32) (b : Int32) (h0 : Heap) (n0 : Nat) (Z0 : n0 ≤ h0.size) (Ea1 : Exa Z h0 a1 "com/example/marshalyard/marshalyard/proxy/MovingTries$Flight") (Gthis0_a1 : Fld Z h0 a1 "com/example/marshalyard/marshalyard/proxy/MovingTries$Flight" "this$0" "Lcom/example/marshalyard/marshalyard/proxy/MovingTries;" (.ref t)) (GinFlight_a1 : Fld Z h0 a1 "com/example/marshalyard/marshalyard/proxy/MovingTries$Flight" "inFlight" "Z" (.int (1 : Int32))) (Gwindow_a1 : Fld Z h0 a1 "com/example/marshalyard/marshalyard/proxy/MovingTries$Flight" "window" "J" (.long w)) (Et : Exa Z h0 t "com/example/marshalyard/marshalyard/proxy/MovingTries") (FwindowStart_t : Fld Z h0 t "com/example/marshalyard/marshalyard/proxy/MovingTries" "windowStart" "J" (.long tws)) (Fwindow_t : Fld Z h0 t "com/example/marshalyard/marshalyard/proxy/MovingTries" "window" "J" (.long tw)) (FmovedNow_t : Fld Z h0 t "com/example/marshalyard/marshalyard/proxy/MovingTries" "movedNow" "I" (.int n)) (FmovedBefore_t : Fld Z h0 t "com/example/marshalyard/marshalyard/proxy/MovingTries" "movedBefore" "I" (.int b)) (g_a1 : n0 ≤ a1) (g_t : n0 ≤ t) (nat : a1 ≠ t) :
    MetFree l (⟨"com/example/marshalyard/marshalyard/proxy/MovingTries$Flight", "moved", "()V"⟩ : MethodName) (head1 (Jvm.Cond.code (⟨"com/example/marshalyard/marshalyard/proxy/MovingTries$Flight", "moved", "()V"⟩ : MethodName) prog_83_method_3_code 1 none :: ws) ({ frames := 2, cells := 0, slots := 0, locals := 24 } : Room)) (fun a U => a = #[(.ref a1)] ∧ Z.Warmed39 U.vm ∧ U.heap = h0) (fun _ _ _ _ _ => True) (fun _ U o U' => ∃ v L, o = .returned v ∧ Qmov Z a1 t w tws tw n b h0 n0 v U'.heap L ∧ FrameEnd U o U' L ({ frames := 2, cells := 0, slots := 0, locals := 24 } : Room).cells ({ frames := 2, cells := 0, slots := 0, locals := 24 } : Room).slots) := by
  refine MetFree.of_bodySF (plainFor_of_name pn_1) hisR ?_
  intro p e s m args below meth c s₁ Bd hml0 hP hK
  obtain ⟨rfl, hZ, hh⟩ := hP
  have hx := Bd.exec
  have hby := Bd.bytes
  have hml : c.maxLocals = 1 := hml0
  have hown : s.vm.findClass "com/example/marshalyard/marshalyard/proxy/MovingTries$Flight" = some m.cls := findClass_of_methodNamed Bd.named
  have hnm := (name_of_methodNamed Bd.named Bd.method).1
  have hlk : meth.locks = false := BodyLoose.notSynchronized Bd
  have X0 : Stand p l e ({ frames := 2, cells := 0, slots := 0, locals := 24 } : Room) s m #[(.ref a1)] below meth c s₁ [] 0 0 := Stand.of_body Bd
  have e0 : s₁.heap = h0 := by rw [← hh, Bd.state]; rfl
  have N0 := Fr.nil n0
  show OEnds p.tables e below (OGoal (Qmov Z a1 t w tws tw n b h0 n0) s 0 0) (s₁.setTop (entryFrame m #[(.ref a1)] 1))
  refine OEnds.st (fun t k => castTop (ef_mov m a1) k) ?_
  generalize hG : OGoal (Qmov Z a1 t w tws tw n b h0 n0) s 0 0 = G
  have KK0 : Keep h0 h0 [a1, t] := Keep.refl h0 [a1, t]
  show OEnds p.tables e below G (s₁.setTop (mkF m 0 #[.val (.ref a1)] []))
  refine OEnds.st (fun _ k => XS.aloadN X0.here hx rfl (hb hby d10_0) rfl rfl k) ?_
  show OEnds p.tables e below G (s₁.setTop (mkF m 1 #[.val (.ref a1)] [(.ref a1)]))
  obtain ⟨T1001, X1001, e1001, st1001⟩ := getF X0 hx hZ hown (host := "") (Or.inl (hw _ (List.mem_of_getElem? (i := 37) rfl))) Via.refl e0 GinFlight_a1 (g := (mkF m 1 #[.val (.ref a1)] [(.ref a1)])) rfl rfl (hb hby d10_1)
  refine OEnds.st st1001 ?_
  clear st1001
  show OEnds p.tables e below G (T1001.setTop (mkF m 4 #[.val (.ref a1)] [(.int (1 : Int32))]))
  refine OEnds.st (fun _ k => XS.ifNo X1001.here hx rfl (hb hby d10_4) rfl ((if0 _ _).trans (feq (by decide : ¬ ((1 : Int32) = (0 : Int32)))).1) k) ?_
  show OEnds p.tables e below G (T1001.setTop (mkF m 7 #[.val (.ref a1)] []))
  refine OEnds.st (fun _ k => XS.aloadN X1001.here hx rfl (hb hby d10_7) rfl rfl k) ?_
  show OEnds p.tables e below G (T1001.setTop (mkF m 8 #[.val (.ref a1)] [(.ref a1)]))
  obtain ⟨T1002, X1002, e1002, st1002⟩ := getF X1001 hx hZ hown (host := "") (Or.inl (hw _ (List.mem_of_getElem? (i := 41) rfl))) Via.refl e1001 Gwindow_a1 (g := (mkF m 8 #[.val (.ref a1)] [(.ref a1)])) rfl rfl (hb hby d10_8)
  refine OEnds.st st1002 ?_
  clear st1002
  show OEnds p.tables e below G (T1002.setTop (mkF m 11 #[.val (.ref a1)] [(.long w)]))
  refine OEnds.st (fun _ k => XS.aloadN X1002.here hx rfl (hb hby d10_11) rfl rfl k) ?_
  show OEnds p.tables e below G (T1002.setTop (mkF m 12 #[.val (.ref a1)] [(.ref a1), (.long w)]))
  obtain ⟨T1003, X1003, e1003, st1003⟩ := getF X1002 hx hZ hown (host := "") (Or.inl (hw _ (List.mem_of_getElem? (i := 24) rfl))) Via.refl e1002 Gthis0_a1 (g := (mkF m 12 #[.val (.ref a1)] [(.ref a1), (.long w)])) rfl rfl (hb hby d10_12)
  refine OEnds.st st1003 ?_
  clear st1003
  show OEnds p.tables e below G (T1003.setTop (mkF m 15 #[.val (.ref a1)] [(.ref t), (.long w)]))
  obtain ⟨T1004, X1004, e1004, st1004⟩ := getF X1003 hx hZ hown (Or.inr (hw _ (List.mem_of_getElem? (i := 39) rfl))) Via.refl e1003 Fwindow_t (g := (mkF m 15 #[.val (.ref a1)] [(.ref t), (.long w)])) rfl rfl (hb hby d10_15)
  refine OEnds.st st1004 ?_
  clear st1004
  show OEnds p.tables e below G (T1004.setTop (mkF m 18 #[.val (.ref a1)] [(.long tw), (.long w)]))
  refine OEnds.st (fun _ k => XS.lcmp X1004.here hx rfl (hb hby d10_18) rfl k) ?_
  show OEnds p.tables e below G (T1004.setTop (mkF m 19 #[.val (.ref a1)] [(.int (lcmpW w tw))]))
  by_cases hc19_1005 : w = tw
  · -- pc 19: yes
    refine OEnds.st (fun _ k => XS.ifYes X1004.here hx rfl (pc0 := 19) (pc' := 26) rfl (hb hby d10_19) rfl ((if0 _ _).trans (teq ((lw_eq w tw).mpr hc19_1005)).1) (by decide) (by decide) k) ?_
    show OEnds p.tables e below G (T1004.setTop (mkF m 26 #[.val (.ref a1)] []))
    rw [← hG]
    have r1006 : tw = w := by first | simp only [if_pos hc19_1005] | exact hc19_1005.symm
    have r1007 : (own_mvN w tw n) = n := by first | simp only [own_mvN, if_pos hc19_1005] | exact hc19_1005.symm
    have r1008 : (own_mvB w tw b) = b := by first | simp only [own_mvB, if_pos hc19_1005] | exact hc19_1005.symm
    refine OEnds.retV X1004 hx hlk Bd.returns (hb hby d10_26) (by decide) (by decide) ?_
    rw [e1004]
    exact ⟨rfl, N0, KK0, Ea1, Gthis0_a1, GinFlight_a1, (by rw [r1006]; exact Gwindow_a1), Et, FwindowStart_t, Fwindow_t, (by rw [r1007]; exact FmovedNow_t), (by rw [r1008]; exact FmovedBefore_t)⟩
  · -- pc 19: no
    refine OEnds.st (fun _ k => XS.ifNo X1004.here hx rfl (hb hby d10_19) rfl ((if0 _ _).trans (feq (fun q => hc19_1005 ((lw_eq w tw).mp q))).1) k) ?_
    show OEnds p.tables e below G (T1004.setTop (mkF m 22 #[.val (.ref a1)] []))
    refine OEnds.st (fun _ k => XS.aloadN X1004.here hx rfl (hb hby d10_22) rfl rfl k) ?_
    show OEnds p.tables e below G (T1004.setTop (mkF m 23 #[.val (.ref a1)] [(.ref a1)]))
    obtain ⟨cq1009, kq1009, q1009a, q1009b, q1009c⟩ := isOf hZ e1004 Ea1
    obtain ⟨_, _, ⟨T1009, L1009, k1009c, n1009c⟩, -, X1009, ⟨Lc1009, hQ1009, l1009, y1009, z1009⟩, st1009⟩ := X1004.virtualBack hx (y := (⟨"com/example/marshalyard/marshalyard/proxy/MovingTries$Flight", "begin", "()V"⟩ : MethodName)) (z := (⟨"com/example/marshalyard/marshalyard/proxy/MovingTries$Flight", "begin", "()V"⟩ : MethodName)) hown (mvT hZ (hw _ (List.mem_of_getElem? (i := 71) rfl))) (mvT hZ (hw _ (List.mem_of_getElem? (i := 28) rfl))) (notFace_of_selects (args := #[]) (mvT hZ (hw _ (List.mem_of_getElem? (i := 30) rfl)))) (mvT hZ (hw _ (List.mem_of_getElem? (i := 30) rfl))) (mvT hZ (hw _ (List.mem_of_getElem? (i := 29) rfl))) (by decide) (backOf (W := 0) (rmbeg1 l Z a0 hw [] a1 t w tws tw n b h0 n0 Z0 Ea1 Gthis0_a1 GinFlight_a1 Gwindow_a1 Et FwindowStart_t Fwindow_t FmovedNow_t FmovedBefore_t g_a1 g_t nat) hZ (hw _ (List.mem_of_getElem? (i := 31) rfl)) (hw _ (List.mem_of_getElem? (i := 20) rfl)) (by decide) (by decide)) q1009a q1009c (g := (mkF m 23 #[.val (.ref a1)] [(.ref a1)])) rfl (by rw [hml]; rfl) (Steps.refl _) (argsL := []) (rest := []) (lenOf pd_1 rfl) rfl (by show 2 * 0 + _ ≤ _; exact Nat.le_of_eq rfl) (hb hby d10_23) (fun _ _ => ⟨rfl, e1004, (by decide : 0 + 0 ≤ _), (by decide : 0 + 0 ≤ _)⟩)
    dsimp only [Pt.U, Pt.locs, Pt.cells, Pt.slots] at X1009 l1009 y1009 z1009 st1009 hQ1009
    subst l1009 y1009 z1009
    obtain ⟨rfl, N1009q, p1010, p1011, p1012, p1013, p1014, p1015, p1016, p1017, p1018, p1019⟩ := hQ1009
    have N1009 := Fr.app N0 N1009q
    refine OEnds.st (fun _ k => st1009.trans k) ?_
    clear st1009
    have f1020 : Exa Z T1009.heap a1 "com/example/marshalyard/marshalyard/proxy/MovingTries$Flight" := Ea1.keep p1010
    have f1024 : Exa Z T1009.heap t "com/example/marshalyard/marshalyard/proxy/MovingTries" := Et.keep p1010
    have KK1009 : Keep h0 T1009.heap [a1, t] := KK0.trans p1010 (fun x hx => by rcases List.mem_cons.mp hx with rfl | hx; exact Or.inl (List.mem_of_getElem? (i := 0) rfl); cases List.mem_singleton.mp hx; exact Or.inl (List.mem_of_getElem? (i := 1) rfl))
    have Z1009 := Nat.le_trans Z0 p1010.1
    show OEnds p.tables e below G (T1009.setTop (mkF m 26 #[.val (.ref a1)] []))
    rw [← hG]
    have r1029 : (own_mvN w tw n) = ((own_endN w tw n) + (1 : Int32)) := by first | simp only [own_mvN, if_neg hc19_1005]
    have r1030 : (own_mvB w tw b) = (own_endB w tw b) := by first | simp only [own_mvB, if_neg hc19_1005]
    refine OEnds.retV X1009 hx hlk Bd.returns (hb hby d10_26) (by decide) (by decide) ?_
    show _
    exact ⟨rfl, N1009, KK1009, p1011, p1012, p1013, p1014, p1015, p1016, p1017, (by rw [r1029]; exact p1018), (by rw [r1030]; exact p1019)⟩
theorem d7_0 : decode prog_82_method_2_code 0 = .ok (.lload_n 1, 1) := by decide +kernel
theorem d7_1 : decode prog_82_method_2_code 1 = .ok (.aload_n 0, 1) := by decide +kernel
theorem d7_2 : decode prog_82_method_2_code 2 = .ok (.getfield 7, 3) := by decide +kernel
theorem d7_5 : decode prog_82_method_2_code 5 = .ok (.lsub, 1) := by decide +kernel
theorem d7_6 : decode prog_82_method_2_code 6 = .ok (.lstore_n 3, 1) := by decide +kernel
theorem d7_7 : decode prog_82_method_2_code 7 = .ok (.lload_n 3, 1) := by decide +kernel
theorem d7_8 : decode prog_82_method_2_code 8 = .ok (.getstatic 13, 3) := by decide +kernel
theorem d7_11 : decode prog_82_method_2_code 11 = .ok (.lcmp, 1) := by decide +kernel
theorem d7_12 : decode prog_82_method_2_code 12 = .ok (.ifCond .ge 4, 3) := by decide +kernel
theorem d7_15 : decode prog_82_method_2_code 15 = .ok (.return_, 1) := by decide +kernel
theorem d7_16 : decode prog_82_method_2_code 16 = .ok (.lload_n 3, 1) := by decide +kernel
theorem d7_17 : decode prog_82_method_2_code 17 = .ok (.getstatic 13, 3) := by decide +kernel
theorem d7_20 : decode prog_82_method_2_code 20 = .ok (.ldiv, 1) := by decide +kernel
theorem d7_21 : decode prog_82_method_2_code 21 = .ok (.lstore 5, 2) := by decide +kernel
theorem d7_23 : decode prog_82_method_2_code 23 = .ok (.aload_n 0, 1) := by decide +kernel
theorem d7_24 : decode prog_82_method_2_code 24 = .ok (.lload 5, 2) := by decide +kernel
theorem d7_26 : decode prog_82_method_2_code 26 = .ok (.lconst 1, 1) := by decide +kernel
theorem d7_27 : decode prog_82_method_2_code 27 = .ok (.lcmp, 1) := by decide +kernel
theorem d7_28 : decode prog_82_method_2_code 28 = .ok (.ifCond .ne 10, 3) := by decide +kernel
theorem d7_31 : decode prog_82_method_2_code 31 = .ok (.aload_n 0, 1) := by decide +kernel
theorem d7_32 : decode prog_82_method_2_code 32 = .ok (.getfield 16, 3) := by decide +kernel
theorem d7_35 : decode prog_82_method_2_code 35 = .ok (.goto 4, 3) := by decide +kernel
theorem d7_38 : decode prog_82_method_2_code 38 = .ok (.iconst 0, 1) := by decide +kernel
theorem d7_39 : decode prog_82_method_2_code 39 = .ok (.putfield 20, 3) := by decide +kernel
theorem d7_42 : decode prog_82_method_2_code 42 = .ok (.aload_n 0, 1) := by decide +kernel
theorem d7_43 : decode prog_82_method_2_code 43 = .ok (.iconst 0, 1) := by decide +kernel
theorem d7_44 : decode prog_82_method_2_code 44 = .ok (.putfield 16, 3) := by decide +kernel
theorem d7_47 : decode prog_82_method_2_code 47 = .ok (.aload_n 0, 1) := by decide +kernel
theorem d7_48 : decode prog_82_method_2_code 48 = .ok (.dup, 1) := by decide +kernel
theorem d7_49 : decode prog_82_method_2_code 49 = .ok (.getfield 23, 3) := by decide +kernel
theorem d7_52 : decode prog_82_method_2_code 52 = .ok (.lload 5, 2) := by decide +kernel
theorem d7_54 : decode prog_82_method_2_code 54 = .ok (.ladd, 1) := by decide +kernel
theorem d7_55 : decode prog_82_method_2_code 55 = .ok (.putfield 23, 3) := by decide +kernel
theorem d7_58 : decode prog_82_method_2_code 58 = .ok (.aload_n 0, 1) := by decide +kernel
theorem d7_59 : decode prog_82_method_2_code 59 = .ok (.dup, 1) := by decide +kernel
theorem d7_60 : decode prog_82_method_2_code 60 = .ok (.getfield 7, 3) := by decide +kernel
theorem d7_63 : decode prog_82_method_2_code 63 = .ok (.lload 5, 2) := by decide +kernel
theorem d7_65 : decode prog_82_method_2_code 65 = .ok (.getstatic 13, 3) := by decide +kernel
theorem d7_68 : decode prog_82_method_2_code 68 = .ok (.lmul, 1) := by decide +kernel
theorem d7_69 : decode prog_82_method_2_code 69 = .ok (.ladd, 1) := by decide +kernel
theorem d7_70 : decode prog_82_method_2_code 70 = .ok (.putfield 7, 3) := by decide +kernel
theorem d7_73 : decode prog_82_method_2_code 73 = .ok (.return_, 1) := by decide +kernel
theorem ef_7 (m : MethodId) (a1 : Addr) (q2 : Int64) : entryFrame m #[(.ref a1), (.long q2)] 7 = mkF m 0 #[.val (.ref a1), .val (.long q2), .second, .unset, .unset, .unset, .unset] [] := by first | (simp [entryFrame, mkF, argsToLocals, Value.category]; done) | rfl
def Q7 (Z : State) (a1 : Addr) (q2 : Int64) (ws0 : Int64) (w : Int64) (n : Int32) (b : Int32) (h0 : Heap) (n0 : Nat) (v : Option Value) (h : Heap) (L : List Loc) : Prop := v = none ∧ Fr n0 L ∧ Keep h0 h [a1] ∧ Exa Z h a1 "com/example/marshalyard/marshalyard/proxy/MovingTries" ∧ Fld Z h a1 "com/example/marshalyard/marshalyard/proxy/MovingTries" "windowStart" "J" (.long (own_aS ws0 q2)) ∧ Fld Z h a1 "com/example/marshalyard/marshalyard/proxy/MovingTries" "window" "J" (.long (own_aW w ws0 q2)) ∧ Fld Z h a1 "com/example/marshalyard/marshalyard/proxy/MovingTries" "movedNow" "I" (.int (own_aN n ws0 q2)) ∧ Fld Z h a1 "com/example/marshalyard/marshalyard/proxy/MovingTries" "movedBefore" "I" (.int (own_aB n b ws0 q2))
set_option maxRecDepth 65536 in
set_option maxHeartbeats 40000000 in
theorem rm7 (l : Launch) (Z : State) (a0 : Array Value) (hw : ∀ d ∈ tables_1, d.before a0 Z = true) (ws : List Jvm.Cond) (a1 : Addr) (q2 : Int64) (ws0 : Int64) (w : Int64) (n : Int32) (b : Int32) (h0 : Heap) (n0 : Nat) (Z0 : n0 ≤ h0.size) (Ea1 : Exa Z h0 a1 "com/example/marshalyard/marshalyard/proxy/MovingTries") (FwindowStart_a1 : Fld Z h0 a1 "com/example/marshalyard/marshalyard/proxy/MovingTries" "windowStart" "J" (.long ws0)) (Fwindow_a1 : Fld Z h0 a1 "com/example/marshalyard/marshalyard/proxy/MovingTries" "window" "J" (.long w)) (FmovedNow_a1 : Fld Z h0 a1 "com/example/marshalyard/marshalyard/proxy/MovingTries" "movedNow" "I" (.int n)) (FmovedBefore_a1 : Fld Z h0 a1 "com/example/marshalyard/marshalyard/proxy/MovingTries" "movedBefore" "I" (.int b)) (Sw : Sta Z h0 "com/example/marshalyard/marshalyard/proxy/MovingTries" "WINDOW_NANOS" "J" (.long (1000000 : Int64))) (g_a1 : n0 ≤ a1) :
    MetFree l (⟨"com/example/marshalyard/marshalyard/proxy/MovingTries", "advance", "(J)V"⟩ : MethodName) (head1 (Jvm.Cond.code (⟨"com/example/marshalyard/marshalyard/proxy/MovingTries", "advance", "(J)V"⟩ : MethodName) prog_82_method_2_code 7 none :: ws) ({ frames := 0, cells := 0, slots := 0, locals := 0 } : Room)) (fun a U => a = #[(.ref a1), (.long q2)] ∧ Z.Warmed39 U.vm ∧ U.heap = h0) (fun _ _ _ _ _ => True) (fun _ U o U' => ∃ v L, o = .returned v ∧ Q7 Z a1 q2 ws0 w n b h0 n0 v U'.heap L ∧ FrameEnd U o U' L ({ frames := 0, cells := 0, slots := 0, locals := 0 } : Room).cells ({ frames := 0, cells := 0, slots := 0, locals := 0 } : Room).slots) := by
  refine MetFree.of_bodySF (plainFor_of_name pn_0) hisR ?_
  intro p e s m args below meth c s₁ Bd hml0 hP hK
  obtain ⟨rfl, hZ, hh⟩ := hP
  have hx := Bd.exec
  have hby := Bd.bytes
  have hml : c.maxLocals = 7 := hml0
  have hown : s.vm.findClass "com/example/marshalyard/marshalyard/proxy/MovingTries" = some m.cls := findClass_of_methodNamed Bd.named
  have hnm := (name_of_methodNamed Bd.named Bd.method).1
  have hlk : meth.locks = false := BodyLoose.notSynchronized Bd
  have X0 : Stand p l e ({ frames := 0, cells := 0, slots := 0, locals := 0 } : Room) s m #[(.ref a1), (.long q2)] below meth c s₁ [] 0 0 := Stand.of_body Bd
  have e0 : s₁.heap = h0 := by rw [← hh, Bd.state]; rfl
  have N0 := Fr.nil n0
  show OEnds p.tables e below (OGoal (Q7 Z a1 q2 ws0 w n b h0 n0) s 0 0) (s₁.setTop (entryFrame m #[(.ref a1), (.long q2)] 7))
  refine OEnds.st (fun t k => castTop (ef_7 m a1 q2) k) ?_
  generalize hG : OGoal (Q7 Z a1 q2 ws0 w n b h0 n0) s 0 0 = G
  have KK0 : Keep h0 h0 [a1] := Keep.refl h0 [a1]
  show OEnds p.tables e below G (s₁.setTop (mkF m 0 #[.val (.ref a1), .val (.long q2), .second, .unset, .unset, .unset, .unset] []))
  refine OEnds.st (fun _ k => XS.lloadN X0.here hx rfl (hb hby d7_0) rfl k) ?_
  show OEnds p.tables e below G (s₁.setTop (mkF m 1 #[.val (.ref a1), .val (.long q2), .second, .unset, .unset, .unset, .unset] [(.long q2)]))
  refine OEnds.st (fun _ k => XS.aloadN X0.here hx rfl (hb hby d7_1) rfl rfl k) ?_
  show OEnds p.tables e below G (s₁.setTop (mkF m 2 #[.val (.ref a1), .val (.long q2), .second, .unset, .unset, .unset, .unset] [(.ref a1), (.long q2)]))
  obtain ⟨T1001, X1001, e1001, st1001⟩ := getF X0 hx hZ hown (host := "") (Or.inl (hw _ (List.mem_of_getElem? (i := 11) rfl))) Via.refl e0 FwindowStart_a1 (g := (mkF m 2 #[.val (.ref a1), .val (.long q2), .second, .unset, .unset, .unset, .unset] [(.ref a1), (.long q2)])) rfl rfl (hb hby d7_2)
  refine OEnds.st st1001 ?_
  clear st1001
  show OEnds p.tables e below G (T1001.setTop (mkF m 5 #[.val (.ref a1), .val (.long q2), .second, .unset, .unset, .unset, .unset] [(.long ws0), (.long q2)]))
  refine OEnds.st (fun _ k => XS.lsub X1001.here hx rfl (hb hby d7_5) rfl k) ?_
  show OEnds p.tables e below G (T1001.setTop (mkF m 6 #[.val (.ref a1), .val (.long q2), .second, .unset, .unset, .unset, .unset] [(.long (q2 - ws0))]))
  refine OEnds.st (fun _ k => XS.lstoreN X1001.here hx rfl (hb hby d7_6) rfl (l' := #[.val (.ref a1), .val (.long q2), .second, .val (.long (q2 - ws0)), .second, .unset, .unset]) rfl k) ?_
  show OEnds p.tables e below G (T1001.setTop (mkF m 7 #[.val (.ref a1), .val (.long q2), .second, .val (.long (q2 - ws0)), .second, .unset, .unset] []))
  refine OEnds.st (fun _ k => XS.lloadN X1001.here hx rfl (hb hby d7_7) rfl k) ?_
  show OEnds p.tables e below G (T1001.setTop (mkF m 8 #[.val (.ref a1), .val (.long q2), .second, .val (.long (q2 - ws0)), .second, .unset, .unset] [(.long (q2 - ws0))]))
  obtain ⟨T1002, X1002, e1002, st1002⟩ := getS2 X1001 hx hZ hown (host := "") (Or.inl (hw _ (List.mem_of_getElem? (i := 50) rfl))) Via.refl e1001 Sw (g := (mkF m 8 #[.val (.ref a1), .val (.long q2), .second, .val (.long (q2 - ws0)), .second, .unset, .unset] [(.long (q2 - ws0))])) rfl (hb hby d7_8)
  refine OEnds.st st1002 ?_
  clear st1002
  show OEnds p.tables e below G (T1002.setTop (mkF m 11 #[.val (.ref a1), .val (.long q2), .second, .val (.long (q2 - ws0)), .second, .unset, .unset] [(.long (1000000 : Int64)), (.long (q2 - ws0))]))
  refine OEnds.st (fun _ k => XS.lcmp X1002.here hx rfl (hb hby d7_11) rfl k) ?_
  show OEnds p.tables e below G (T1002.setTop (mkF m 12 #[.val (.ref a1), .val (.long q2), .second, .val (.long (q2 - ws0)), .second, .unset, .unset] [(.int (lcmpW (q2 - ws0) (1000000 : Int64)))]))
  by_cases hc12_1003 : (q2 - ws0) < (1000000 : Int64)
  · -- pc 12: yes
    refine OEnds.st (fun _ k => XS.ifNo X1002.here hx rfl (hb hby d7_12) rfl ((if0 _ _).trans (tlt ((lw_lt (q2 - ws0) (1000000 : Int64)).mpr hc12_1003)).2.1) k) ?_
    show OEnds p.tables e below G (T1002.setTop (mkF m 15 #[.val (.ref a1), .val (.long q2), .second, .val (.long (q2 - ws0)), .second, .unset, .unset] []))
    rw [← hG]
    have r1004 : (own_aS ws0 q2) = ws0 := by first | simp only [own_aS, if_pos hc12_1003] | exact hc12_1003.symm
    have r1005 : (own_aW w ws0 q2) = w := by first | simp only [own_aW, if_pos hc12_1003] | exact hc12_1003.symm
    have r1006 : (own_aN n ws0 q2) = n := by first | simp only [own_aN, if_pos hc12_1003] | exact hc12_1003.symm
    have r1007 : (own_aB n b ws0 q2) = b := by first | simp only [own_aB, if_pos hc12_1003] | exact hc12_1003.symm
    refine OEnds.retV X1002 hx hlk Bd.returns (hb hby d7_15) (by decide) (by decide) ?_
    rw [e1002]
    exact ⟨rfl, N0, KK0, Ea1, (by rw [r1004]; exact FwindowStart_a1), (by rw [r1005]; exact Fwindow_a1), (by rw [r1006]; exact FmovedNow_a1), (by rw [r1007]; exact FmovedBefore_a1)⟩
  · -- pc 12: no
    refine OEnds.st (fun _ k => XS.ifYes X1002.here hx rfl (pc0 := 12) (pc' := 16) rfl (hb hby d7_12) rfl ((if0 _ _).trans (flt (fun q => hc12_1003 ((lw_lt (q2 - ws0) (1000000 : Int64)).mp q))).2.1) (by decide) (by decide) k) ?_
    show OEnds p.tables e below G (T1002.setTop (mkF m 16 #[.val (.ref a1), .val (.long q2), .second, .val (.long (q2 - ws0)), .second, .unset, .unset] []))
    refine OEnds.st (fun _ k => XS.lloadN X1002.here hx rfl (hb hby d7_16) rfl k) ?_
    show OEnds p.tables e below G (T1002.setTop (mkF m 17 #[.val (.ref a1), .val (.long q2), .second, .val (.long (q2 - ws0)), .second, .unset, .unset] [(.long (q2 - ws0))]))
    obtain ⟨T1008, X1008, e1008, st1008⟩ := getS2 X1002 hx hZ hown (host := "") (Or.inl (hw _ (List.mem_of_getElem? (i := 50) rfl))) Via.refl e1002 Sw (g := (mkF m 17 #[.val (.ref a1), .val (.long q2), .second, .val (.long (q2 - ws0)), .second, .unset, .unset] [(.long (q2 - ws0))])) rfl (hb hby d7_17)
    refine OEnds.st st1008 ?_
    clear st1008
    show OEnds p.tables e below G (T1008.setTop (mkF m 20 #[.val (.ref a1), .val (.long q2), .second, .val (.long (q2 - ws0)), .second, .unset, .unset] [(.long (1000000 : Int64)), (.long (q2 - ws0))]))
    refine OEnds.st (fun _ k => XS.ldiv X1008.here hx rfl (hb hby d7_20) rfl (by decide) k) ?_
    show OEnds p.tables e below G (T1008.setTop (mkF m 21 #[.val (.ref a1), .val (.long q2), .second, .val (.long (q2 - ws0)), .second, .unset, .unset] [(.long ((q2 - ws0) / (1000000 : Int64)))]))
    refine OEnds.st (fun _ k => XS.lstore X1008.here hx rfl (hb hby d7_21) rfl (l' := #[.val (.ref a1), .val (.long q2), .second, .val (.long (q2 - ws0)), .second, .val (.long ((q2 - ws0) / (1000000 : Int64))), .second]) rfl k) ?_
    show OEnds p.tables e below G (T1008.setTop (mkF m 23 #[.val (.ref a1), .val (.long q2), .second, .val (.long (q2 - ws0)), .second, .val (.long ((q2 - ws0) / (1000000 : Int64))), .second] []))
    refine OEnds.st (fun _ k => XS.aloadN X1008.here hx rfl (hb hby d7_23) rfl rfl k) ?_
    show OEnds p.tables e below G (T1008.setTop (mkF m 24 #[.val (.ref a1), .val (.long q2), .second, .val (.long (q2 - ws0)), .second, .val (.long ((q2 - ws0) / (1000000 : Int64))), .second] [(.ref a1)]))
    refine OEnds.st (fun _ k => XS.lload X1008.here hx rfl (hb hby d7_24) rfl k) ?_
    show OEnds p.tables e below G (T1008.setTop (mkF m 26 #[.val (.ref a1), .val (.long q2), .second, .val (.long (q2 - ws0)), .second, .val (.long ((q2 - ws0) / (1000000 : Int64))), .second] [(.long ((q2 - ws0) / (1000000 : Int64))), (.ref a1)]))
    refine OEnds.st (fun _ k => XS.lconst X1008.here hx rfl (hb hby d7_26) k) ?_
    show OEnds p.tables e below G (T1008.setTop (mkF m 27 #[.val (.ref a1), .val (.long q2), .second, .val (.long (q2 - ws0)), .second, .val (.long ((q2 - ws0) / (1000000 : Int64))), .second] [(.long (1 : Int64)), (.long ((q2 - ws0) / (1000000 : Int64))), (.ref a1)]))
    refine OEnds.st (fun _ k => XS.lcmp X1008.here hx rfl (hb hby d7_27) rfl k) ?_
    show OEnds p.tables e below G (T1008.setTop (mkF m 28 #[.val (.ref a1), .val (.long q2), .second, .val (.long (q2 - ws0)), .second, .val (.long ((q2 - ws0) / (1000000 : Int64))), .second] [(.int (lcmpW ((q2 - ws0) / (1000000 : Int64)) (1 : Int64))), (.ref a1)]))
    by_cases hc28_1009 : ((q2 - ws0) / (1000000 : Int64)) = (1 : Int64)
    · -- pc 28: yes
      refine OEnds.st (fun _ k => XS.ifNo X1008.here hx rfl (hb hby d7_28) rfl ((if0 _ _).trans (teq ((lw_eq ((q2 - ws0) / (1000000 : Int64)) (1 : Int64)).mpr hc28_1009)).2) k) ?_
      show OEnds p.tables e below G (T1008.setTop (mkF m 31 #[.val (.ref a1), .val (.long q2), .second, .val (.long (q2 - ws0)), .second, .val (.long ((q2 - ws0) / (1000000 : Int64))), .second] [(.ref a1)]))
      refine OEnds.st (fun _ k => XS.aloadN X1008.here hx rfl (hb hby d7_31) rfl rfl k) ?_
      show OEnds p.tables e below G (T1008.setTop (mkF m 32 #[.val (.ref a1), .val (.long q2), .second, .val (.long (q2 - ws0)), .second, .val (.long ((q2 - ws0) / (1000000 : Int64))), .second] [(.ref a1), (.ref a1)]))
      obtain ⟨T1010, X1010, e1010, st1010⟩ := getF X1008 hx hZ hown (host := "") (Or.inl (hw _ (List.mem_of_getElem? (i := 57) rfl))) Via.refl e1008 FmovedNow_a1 (g := (mkF m 32 #[.val (.ref a1), .val (.long q2), .second, .val (.long (q2 - ws0)), .second, .val (.long ((q2 - ws0) / (1000000 : Int64))), .second] [(.ref a1), (.ref a1)])) rfl rfl (hb hby d7_32)
      refine OEnds.st st1010 ?_
      clear st1010
      show OEnds p.tables e below G (T1010.setTop (mkF m 35 #[.val (.ref a1), .val (.long q2), .second, .val (.long (q2 - ws0)), .second, .val (.long ((q2 - ws0) / (1000000 : Int64))), .second] [(.int n), (.ref a1)]))
      refine OEnds.st (fun _ k => XS.goto X1010.here hx rfl (pc0 := 35) (pc' := 39) rfl (hb hby d7_35) (by decide) (by decide) k) ?_
      show OEnds p.tables e below G (T1010.setTop (mkF m 39 #[.val (.ref a1), .val (.long q2), .second, .val (.long (q2 - ws0)), .second, .val (.long ((q2 - ws0) / (1000000 : Int64))), .second] [(.int n), (.ref a1)]))
      obtain ⟨T1011, h1011, X1011, e1011, W1011, st1011⟩ := putF X1010 hx hZ hown (host := "") (Or.inl (hw _ (List.mem_of_getElem? (i := 58) rfl))) Via.refl e1010 FmovedBefore_a1 Ea1 (Or.inl (hw _ (List.mem_of_getElem? (i := 59) rfl))) (hw _ (List.mem_of_getElem? (i := 3) rfl)) (ty := .int) (by decide) rfl rfl (g := (mkF m 39 #[.val (.ref a1), .val (.long q2), .second, .val (.long (q2 - ws0)), .second, .val (.long ((q2 - ws0) / (1000000 : Int64))), .second] [(.int n), (.ref a1)])) rfl rfl (hb hby d7_39)
      refine OEnds.st st1011 ?_
      clear st1011
      have f1012 : Fld Z h1011 a1 "com/example/marshalyard/marshalyard/proxy/MovingTries" "movedBefore" "I" (.int n) := FmovedBefore_a1.same W1011
      have f1013 : Exa Z h1011 a1 "com/example/marshalyard/marshalyard/proxy/MovingTries" := Ea1.wr W1011
      have f1014 : Fld Z h1011 a1 "com/example/marshalyard/marshalyard/proxy/MovingTries" "windowStart" "J" (.long ws0) := FwindowStart_a1.other W1011 (Or.inr (slot_ne (Or.inl (hw _ (List.mem_of_getElem? (i := 12) rfl))) (Or.inl (hw _ (List.mem_of_getElem? (i := 59) rfl))) (by decide) (t := .long) (t' := .int) (by decide) (by decide)))
      have f1015 : Fld Z h1011 a1 "com/example/marshalyard/marshalyard/proxy/MovingTries" "window" "J" (.long w) := Fwindow_a1.other W1011 (Or.inr (slot_ne (Or.inl (hw _ (List.mem_of_getElem? (i := 40) rfl))) (Or.inl (hw _ (List.mem_of_getElem? (i := 59) rfl))) (by decide) (t := .long) (t' := .int) (by decide) (by decide)))
      have f1016 : Fld Z h1011 a1 "com/example/marshalyard/marshalyard/proxy/MovingTries" "movedNow" "I" (.int n) := FmovedNow_a1.other W1011 (Or.inr (slot_ne (Or.inl (hw _ (List.mem_of_getElem? (i := 44) rfl))) (Or.inl (hw _ (List.mem_of_getElem? (i := 59) rfl))) (by decide) (t := .int) (t' := .int) (by decide) (by decide)))
      have f1018 : Sta Z h1011 "com/example/marshalyard/marshalyard/proxy/MovingTries" "WINDOW_NANOS" "J" (.long (1000000 : Int64)) := Sw.wr W1011
      have N1011 := Fr.snoc X1011 N0 g_a1
      have KK1011 : Keep h0 h1011 [a1] := KK0.wr W1011 (Or.inl (List.mem_of_getElem? (i := 0) rfl))
      have Z1011 := Nat.le_trans Z0 (Keep.of_wr W1011).1
      show OEnds p.tables e below G (T1011.setTop (mkF m 42 #[.val (.ref a1), .val (.long q2), .second, .val (.long (q2 - ws0)), .second, .val (.long ((q2 - ws0) / (1000000 : Int64))), .second] []))
      refine OEnds.st (fun _ k => XS.aloadN X1011.here hx rfl (hb hby d7_42) rfl rfl k) ?_
      show OEnds p.tables e below G (T1011.setTop (mkF m 43 #[.val (.ref a1), .val (.long q2), .second, .val (.long (q2 - ws0)), .second, .val (.long ((q2 - ws0) / (1000000 : Int64))), .second] [(.ref a1)]))
      refine OEnds.st (fun _ k => XS.iconst X1011.here hx rfl (hb hby d7_43) k) ?_
      show OEnds p.tables e below G (T1011.setTop (mkF m 44 #[.val (.ref a1), .val (.long q2), .second, .val (.long (q2 - ws0)), .second, .val (.long ((q2 - ws0) / (1000000 : Int64))), .second] [(.int (0 : Int32)), (.ref a1)]))
      obtain ⟨T1019, h1019, X1019, e1019, W1019, st1019⟩ := putF X1011 hx hZ hown (host := "") (Or.inl (hw _ (List.mem_of_getElem? (i := 57) rfl))) Via.refl e1011 f1016 f1013 (Or.inl (hw _ (List.mem_of_getElem? (i := 44) rfl))) (hw _ (List.mem_of_getElem? (i := 3) rfl)) (ty := .int) (by decide) rfl rfl (g := (mkF m 44 #[.val (.ref a1), .val (.long q2), .second, .val (.long (q2 - ws0)), .second, .val (.long ((q2 - ws0) / (1000000 : Int64))), .second] [(.int (0 : Int32)), (.ref a1)])) rfl rfl (hb hby d7_44)
      refine OEnds.st st1019 ?_
      clear st1019
      have f1020 : Fld Z h1019 a1 "com/example/marshalyard/marshalyard/proxy/MovingTries" "movedNow" "I" (.int (0 : Int32)) := f1016.same W1019
      have f1021 : Exa Z h1019 a1 "com/example/marshalyard/marshalyard/proxy/MovingTries" := f1013.wr W1019
      have f1022 : Fld Z h1019 a1 "com/example/marshalyard/marshalyard/proxy/MovingTries" "windowStart" "J" (.long ws0) := f1014.other W1019 (Or.inr (slot_ne (Or.inl (hw _ (List.mem_of_getElem? (i := 12) rfl))) (Or.inl (hw _ (List.mem_of_getElem? (i := 44) rfl))) (by decide) (t := .long) (t' := .int) (by decide) (by decide)))
      have f1023 : Fld Z h1019 a1 "com/example/marshalyard/marshalyard/proxy/MovingTries" "window" "J" (.long w) := f1015.other W1019 (Or.inr (slot_ne (Or.inl (hw _ (List.mem_of_getElem? (i := 40) rfl))) (Or.inl (hw _ (List.mem_of_getElem? (i := 44) rfl))) (by decide) (t := .long) (t' := .int) (by decide) (by decide)))
      have f1025 : Sta Z h1019 "com/example/marshalyard/marshalyard/proxy/MovingTries" "WINDOW_NANOS" "J" (.long (1000000 : Int64)) := f1018.wr W1019
      have f1026 : Fld Z h1019 a1 "com/example/marshalyard/marshalyard/proxy/MovingTries" "movedBefore" "I" (.int n) := f1012.other W1019 (Or.inr (slot_ne (Or.inl (hw _ (List.mem_of_getElem? (i := 59) rfl))) (Or.inl (hw _ (List.mem_of_getElem? (i := 44) rfl))) (by decide) (t := .int) (t' := .int) (by decide) (by decide)))
      have N1019 := Fr.snoc X1019 N1011 g_a1
      have KK1019 : Keep h0 h1019 [a1] := KK1011.wr W1019 (Or.inl (List.mem_of_getElem? (i := 0) rfl))
      have Z1019 := Nat.le_trans Z1011 (Keep.of_wr W1019).1
      show OEnds p.tables e below G (T1019.setTop (mkF m 47 #[.val (.ref a1), .val (.long q2), .second, .val (.long (q2 - ws0)), .second, .val (.long ((q2 - ws0) / (1000000 : Int64))), .second] []))
      refine OEnds.st (fun _ k => XS.aloadN X1019.here hx rfl (hb hby d7_47) rfl rfl k) ?_
      show OEnds p.tables e below G (T1019.setTop (mkF m 48 #[.val (.ref a1), .val (.long q2), .second, .val (.long (q2 - ws0)), .second, .val (.long ((q2 - ws0) / (1000000 : Int64))), .second] [(.ref a1)]))
      refine OEnds.st (fun _ k => XS.dup X1019.here hx rfl (hb hby d7_48) rfl rfl k) ?_
      show OEnds p.tables e below G (T1019.setTop (mkF m 49 #[.val (.ref a1), .val (.long q2), .second, .val (.long (q2 - ws0)), .second, .val (.long ((q2 - ws0) / (1000000 : Int64))), .second] [(.ref a1), (.ref a1)]))
      obtain ⟨T1027, X1027, e1027, st1027⟩ := getF X1019 hx hZ hown (host := "") (Or.inl (hw _ (List.mem_of_getElem? (i := 64) rfl))) Via.refl e1019 f1023 (g := (mkF m 49 #[.val (.ref a1), .val (.long q2), .second, .val (.long (q2 - ws0)), .second, .val (.long ((q2 - ws0) / (1000000 : Int64))), .second] [(.ref a1), (.ref a1)])) rfl rfl (hb hby d7_49)
      refine OEnds.st st1027 ?_
      clear st1027
      show OEnds p.tables e below G (T1027.setTop (mkF m 52 #[.val (.ref a1), .val (.long q2), .second, .val (.long (q2 - ws0)), .second, .val (.long ((q2 - ws0) / (1000000 : Int64))), .second] [(.long w), (.ref a1)]))
      refine OEnds.st (fun _ k => XS.lload X1027.here hx rfl (hb hby d7_52) rfl k) ?_
      show OEnds p.tables e below G (T1027.setTop (mkF m 54 #[.val (.ref a1), .val (.long q2), .second, .val (.long (q2 - ws0)), .second, .val (.long ((q2 - ws0) / (1000000 : Int64))), .second] [(.long ((q2 - ws0) / (1000000 : Int64))), (.long w), (.ref a1)]))
      refine OEnds.st (fun _ k => XS.ladd X1027.here hx rfl (hb hby d7_54) rfl k) ?_
      show OEnds p.tables e below G (T1027.setTop (mkF m 55 #[.val (.ref a1), .val (.long q2), .second, .val (.long (q2 - ws0)), .second, .val (.long ((q2 - ws0) / (1000000 : Int64))), .second] [(.long (w + ((q2 - ws0) / (1000000 : Int64)))), (.ref a1)]))
      obtain ⟨T1028, h1028, X1028, e1028, W1028, st1028⟩ := putF X1027 hx hZ hown (host := "") (Or.inl (hw _ (List.mem_of_getElem? (i := 64) rfl))) Via.refl e1027 f1023 f1021 (Or.inl (hw _ (List.mem_of_getElem? (i := 40) rfl))) (hw _ (List.mem_of_getElem? (i := 3) rfl)) (ty := .long) (by decide) rfl rfl (g := (mkF m 55 #[.val (.ref a1), .val (.long q2), .second, .val (.long (q2 - ws0)), .second, .val (.long ((q2 - ws0) / (1000000 : Int64))), .second] [(.long (w + ((q2 - ws0) / (1000000 : Int64)))), (.ref a1)])) rfl rfl (hb hby d7_55)
      refine OEnds.st st1028 ?_
      clear st1028
      have f1029 : Fld Z h1028 a1 "com/example/marshalyard/marshalyard/proxy/MovingTries" "window" "J" (.long (w + ((q2 - ws0) / (1000000 : Int64)))) := f1023.same W1028
      have f1030 : Exa Z h1028 a1 "com/example/marshalyard/marshalyard/proxy/MovingTries" := f1021.wr W1028
      have f1031 : Fld Z h1028 a1 "com/example/marshalyard/marshalyard/proxy/MovingTries" "windowStart" "J" (.long ws0) := f1022.other W1028 (Or.inr (slot_ne (Or.inl (hw _ (List.mem_of_getElem? (i := 12) rfl))) (Or.inl (hw _ (List.mem_of_getElem? (i := 40) rfl))) (by decide) (t := .long) (t' := .long) (by decide) (by decide)))
      have f1033 : Sta Z h1028 "com/example/marshalyard/marshalyard/proxy/MovingTries" "WINDOW_NANOS" "J" (.long (1000000 : Int64)) := f1025.wr W1028
      have f1034 : Fld Z h1028 a1 "com/example/marshalyard/marshalyard/proxy/MovingTries" "movedBefore" "I" (.int n) := f1026.other W1028 (Or.inr (slot_ne (Or.inl (hw _ (List.mem_of_getElem? (i := 59) rfl))) (Or.inl (hw _ (List.mem_of_getElem? (i := 40) rfl))) (by decide) (t := .int) (t' := .long) (by decide) (by decide)))
      have f1035 : Fld Z h1028 a1 "com/example/marshalyard/marshalyard/proxy/MovingTries" "movedNow" "I" (.int (0 : Int32)) := f1020.other W1028 (Or.inr (slot_ne (Or.inl (hw _ (List.mem_of_getElem? (i := 44) rfl))) (Or.inl (hw _ (List.mem_of_getElem? (i := 40) rfl))) (by decide) (t := .int) (t' := .long) (by decide) (by decide)))
      have N1028 := Fr.snoc X1028 N1019 g_a1
      have KK1028 : Keep h0 h1028 [a1] := KK1019.wr W1028 (Or.inl (List.mem_of_getElem? (i := 0) rfl))
      have Z1028 := Nat.le_trans Z1019 (Keep.of_wr W1028).1
      show OEnds p.tables e below G (T1028.setTop (mkF m 58 #[.val (.ref a1), .val (.long q2), .second, .val (.long (q2 - ws0)), .second, .val (.long ((q2 - ws0) / (1000000 : Int64))), .second] []))
      refine OEnds.st (fun _ k => XS.aloadN X1028.here hx rfl (hb hby d7_58) rfl rfl k) ?_
      show OEnds p.tables e below G (T1028.setTop (mkF m 59 #[.val (.ref a1), .val (.long q2), .second, .val (.long (q2 - ws0)), .second, .val (.long ((q2 - ws0) / (1000000 : Int64))), .second] [(.ref a1)]))
      refine OEnds.st (fun _ k => XS.dup X1028.here hx rfl (hb hby d7_59) rfl rfl k) ?_
      show OEnds p.tables e below G (T1028.setTop (mkF m 60 #[.val (.ref a1), .val (.long q2), .second, .val (.long (q2 - ws0)), .second, .val (.long ((q2 - ws0) / (1000000 : Int64))), .second] [(.ref a1), (.ref a1)]))
      obtain ⟨T1036, X1036, e1036, st1036⟩ := getF X1028 hx hZ hown (host := "") (Or.inl (hw _ (List.mem_of_getElem? (i := 11) rfl))) Via.refl e1028 f1031 (g := (mkF m 60 #[.val (.ref a1), .val (.long q2), .second, .val (.long (q2 - ws0)), .second, .val (.long ((q2 - ws0) / (1000000 : Int64))), .second] [(.ref a1), (.ref a1)])) rfl rfl (hb hby d7_60)
      refine OEnds.st st1036 ?_
      clear st1036
      show OEnds p.tables e below G (T1036.setTop (mkF m 63 #[.val (.ref a1), .val (.long q2), .second, .val (.long (q2 - ws0)), .second, .val (.long ((q2 - ws0) / (1000000 : Int64))), .second] [(.long ws0), (.ref a1)]))
      refine OEnds.st (fun _ k => XS.lload X1036.here hx rfl (hb hby d7_63) rfl k) ?_
      show OEnds p.tables e below G (T1036.setTop (mkF m 65 #[.val (.ref a1), .val (.long q2), .second, .val (.long (q2 - ws0)), .second, .val (.long ((q2 - ws0) / (1000000 : Int64))), .second] [(.long ((q2 - ws0) / (1000000 : Int64))), (.long ws0), (.ref a1)]))
      obtain ⟨T1037, X1037, e1037, st1037⟩ := getS2 X1036 hx hZ hown (host := "") (Or.inl (hw _ (List.mem_of_getElem? (i := 50) rfl))) Via.refl e1036 f1033 (g := (mkF m 65 #[.val (.ref a1), .val (.long q2), .second, .val (.long (q2 - ws0)), .second, .val (.long ((q2 - ws0) / (1000000 : Int64))), .second] [(.long ((q2 - ws0) / (1000000 : Int64))), (.long ws0), (.ref a1)])) rfl (hb hby d7_65)
      refine OEnds.st st1037 ?_
      clear st1037
      show OEnds p.tables e below G (T1037.setTop (mkF m 68 #[.val (.ref a1), .val (.long q2), .second, .val (.long (q2 - ws0)), .second, .val (.long ((q2 - ws0) / (1000000 : Int64))), .second] [(.long (1000000 : Int64)), (.long ((q2 - ws0) / (1000000 : Int64))), (.long ws0), (.ref a1)]))
      refine OEnds.st (fun _ k => XS.lmul X1037.here hx rfl (hb hby d7_68) rfl k) ?_
      show OEnds p.tables e below G (T1037.setTop (mkF m 69 #[.val (.ref a1), .val (.long q2), .second, .val (.long (q2 - ws0)), .second, .val (.long ((q2 - ws0) / (1000000 : Int64))), .second] [(.long (((q2 - ws0) / (1000000 : Int64)) * (1000000 : Int64))), (.long ws0), (.ref a1)]))
      refine OEnds.st (fun _ k => XS.ladd X1037.here hx rfl (hb hby d7_69) rfl k) ?_
      show OEnds p.tables e below G (T1037.setTop (mkF m 70 #[.val (.ref a1), .val (.long q2), .second, .val (.long (q2 - ws0)), .second, .val (.long ((q2 - ws0) / (1000000 : Int64))), .second] [(.long (ws0 + (((q2 - ws0) / (1000000 : Int64)) * (1000000 : Int64)))), (.ref a1)]))
      obtain ⟨T1038, h1038, X1038, e1038, W1038, st1038⟩ := putF X1037 hx hZ hown (host := "") (Or.inl (hw _ (List.mem_of_getElem? (i := 11) rfl))) Via.refl e1037 f1031 f1030 (Or.inl (hw _ (List.mem_of_getElem? (i := 12) rfl))) (hw _ (List.mem_of_getElem? (i := 3) rfl)) (ty := .long) (by decide) rfl rfl (g := (mkF m 70 #[.val (.ref a1), .val (.long q2), .second, .val (.long (q2 - ws0)), .second, .val (.long ((q2 - ws0) / (1000000 : Int64))), .second] [(.long (ws0 + (((q2 - ws0) / (1000000 : Int64)) * (1000000 : Int64)))), (.ref a1)])) rfl rfl (hb hby d7_70)
      refine OEnds.st st1038 ?_
      clear st1038
      have f1039 : Fld Z h1038 a1 "com/example/marshalyard/marshalyard/proxy/MovingTries" "windowStart" "J" (.long (ws0 + (((q2 - ws0) / (1000000 : Int64)) * (1000000 : Int64)))) := f1031.same W1038
      have f1040 : Exa Z h1038 a1 "com/example/marshalyard/marshalyard/proxy/MovingTries" := f1030.wr W1038
      have f1042 : Sta Z h1038 "com/example/marshalyard/marshalyard/proxy/MovingTries" "WINDOW_NANOS" "J" (.long (1000000 : Int64)) := f1033.wr W1038
      have f1043 : Fld Z h1038 a1 "com/example/marshalyard/marshalyard/proxy/MovingTries" "movedBefore" "I" (.int n) := f1034.other W1038 (Or.inr (slot_ne (Or.inl (hw _ (List.mem_of_getElem? (i := 59) rfl))) (Or.inl (hw _ (List.mem_of_getElem? (i := 12) rfl))) (by decide) (t := .int) (t' := .long) (by decide) (by decide)))
      have f1044 : Fld Z h1038 a1 "com/example/marshalyard/marshalyard/proxy/MovingTries" "movedNow" "I" (.int (0 : Int32)) := f1035.other W1038 (Or.inr (slot_ne (Or.inl (hw _ (List.mem_of_getElem? (i := 44) rfl))) (Or.inl (hw _ (List.mem_of_getElem? (i := 12) rfl))) (by decide) (t := .int) (t' := .long) (by decide) (by decide)))
      have f1045 : Fld Z h1038 a1 "com/example/marshalyard/marshalyard/proxy/MovingTries" "window" "J" (.long (w + ((q2 - ws0) / (1000000 : Int64)))) := f1029.other W1038 (Or.inr (slot_ne (Or.inl (hw _ (List.mem_of_getElem? (i := 40) rfl))) (Or.inl (hw _ (List.mem_of_getElem? (i := 12) rfl))) (by decide) (t := .long) (t' := .long) (by decide) (by decide)))
      have N1038 := Fr.snoc X1038 N1028 g_a1
      have KK1038 : Keep h0 h1038 [a1] := KK1028.wr W1038 (Or.inl (List.mem_of_getElem? (i := 0) rfl))
      have Z1038 := Nat.le_trans Z1028 (Keep.of_wr W1038).1
      show OEnds p.tables e below G (T1038.setTop (mkF m 73 #[.val (.ref a1), .val (.long q2), .second, .val (.long (q2 - ws0)), .second, .val (.long ((q2 - ws0) / (1000000 : Int64))), .second] []))
      rw [← hG]
      have r1046 : (own_aS ws0 q2) = (ws0 + (((q2 - ws0) / (1000000 : Int64)) * (1000000 : Int64))) := by first | simp only [own_aS, if_neg hc12_1003, if_pos hc28_1009] | exact hc28_1009.symm
      have r1047 : (own_aW w ws0 q2) = (w + ((q2 - ws0) / (1000000 : Int64))) := by first | simp only [own_aW, if_neg hc12_1003, if_pos hc28_1009] | exact hc28_1009.symm
      have r1048 : (own_aN n ws0 q2) = (0 : Int32) := by first | simp only [own_aN, if_neg hc12_1003, if_pos hc28_1009] | exact hc28_1009.symm
      have r1049 : (own_aB n b ws0 q2) = n := by first | simp only [own_aB, if_neg hc12_1003, if_pos hc28_1009] | exact hc28_1009.symm
      refine OEnds.retV X1038 hx hlk Bd.returns (hb hby d7_73) (by decide) (by decide) ?_
      rw [e1038]
      exact ⟨rfl, N1038, KK1038, f1040, (by rw [r1046]; exact f1039), (by rw [r1047]; exact f1045), (by rw [r1048]; exact f1044), (by rw [r1049]; exact f1043)⟩
    · -- pc 28: no
      refine OEnds.st (fun _ k => XS.ifYes X1008.here hx rfl (pc0 := 28) (pc' := 38) rfl (hb hby d7_28) rfl ((if0 _ _).trans (feq (fun q => hc28_1009 ((lw_eq ((q2 - ws0) / (1000000 : Int64)) (1 : Int64)).mp q))).2) (by decide) (by decide) k) ?_
      show OEnds p.tables e below G (T1008.setTop (mkF m 38 #[.val (.ref a1), .val (.long q2), .second, .val (.long (q2 - ws0)), .second, .val (.long ((q2 - ws0) / (1000000 : Int64))), .second] [(.ref a1)]))
      refine OEnds.st (fun _ k => XS.iconst X1008.here hx rfl (hb hby d7_38) k) ?_
      show OEnds p.tables e below G (T1008.setTop (mkF m 39 #[.val (.ref a1), .val (.long q2), .second, .val (.long (q2 - ws0)), .second, .val (.long ((q2 - ws0) / (1000000 : Int64))), .second] [(.int (0 : Int32)), (.ref a1)]))
      obtain ⟨T1050, h1050, X1050, e1050, W1050, st1050⟩ := putF X1008 hx hZ hown (host := "") (Or.inl (hw _ (List.mem_of_getElem? (i := 58) rfl))) Via.refl e1008 FmovedBefore_a1 Ea1 (Or.inl (hw _ (List.mem_of_getElem? (i := 59) rfl))) (hw _ (List.mem_of_getElem? (i := 3) rfl)) (ty := .int) (by decide) rfl rfl (g := (mkF m 39 #[.val (.ref a1), .val (.long q2), .second, .val (.long (q2 - ws0)), .second, .val (.long ((q2 - ws0) / (1000000 : Int64))), .second] [(.int (0 : Int32)), (.ref a1)])) rfl rfl (hb hby d7_39)
      refine OEnds.st st1050 ?_
      clear st1050
      have f1051 : Fld Z h1050 a1 "com/example/marshalyard/marshalyard/proxy/MovingTries" "movedBefore" "I" (.int (0 : Int32)) := FmovedBefore_a1.same W1050
      have f1052 : Exa Z h1050 a1 "com/example/marshalyard/marshalyard/proxy/MovingTries" := Ea1.wr W1050
      have f1053 : Fld Z h1050 a1 "com/example/marshalyard/marshalyard/proxy/MovingTries" "windowStart" "J" (.long ws0) := FwindowStart_a1.other W1050 (Or.inr (slot_ne (Or.inl (hw _ (List.mem_of_getElem? (i := 12) rfl))) (Or.inl (hw _ (List.mem_of_getElem? (i := 59) rfl))) (by decide) (t := .long) (t' := .int) (by decide) (by decide)))
      have f1054 : Fld Z h1050 a1 "com/example/marshalyard/marshalyard/proxy/MovingTries" "window" "J" (.long w) := Fwindow_a1.other W1050 (Or.inr (slot_ne (Or.inl (hw _ (List.mem_of_getElem? (i := 40) rfl))) (Or.inl (hw _ (List.mem_of_getElem? (i := 59) rfl))) (by decide) (t := .long) (t' := .int) (by decide) (by decide)))
      have f1055 : Fld Z h1050 a1 "com/example/marshalyard/marshalyard/proxy/MovingTries" "movedNow" "I" (.int n) := FmovedNow_a1.other W1050 (Or.inr (slot_ne (Or.inl (hw _ (List.mem_of_getElem? (i := 44) rfl))) (Or.inl (hw _ (List.mem_of_getElem? (i := 59) rfl))) (by decide) (t := .int) (t' := .int) (by decide) (by decide)))
      have f1057 : Sta Z h1050 "com/example/marshalyard/marshalyard/proxy/MovingTries" "WINDOW_NANOS" "J" (.long (1000000 : Int64)) := Sw.wr W1050
      have N1050 := Fr.snoc X1050 N0 g_a1
      have KK1050 : Keep h0 h1050 [a1] := KK0.wr W1050 (Or.inl (List.mem_of_getElem? (i := 0) rfl))
      have Z1050 := Nat.le_trans Z0 (Keep.of_wr W1050).1
      show OEnds p.tables e below G (T1050.setTop (mkF m 42 #[.val (.ref a1), .val (.long q2), .second, .val (.long (q2 - ws0)), .second, .val (.long ((q2 - ws0) / (1000000 : Int64))), .second] []))
      refine OEnds.st (fun _ k => XS.aloadN X1050.here hx rfl (hb hby d7_42) rfl rfl k) ?_
      show OEnds p.tables e below G (T1050.setTop (mkF m 43 #[.val (.ref a1), .val (.long q2), .second, .val (.long (q2 - ws0)), .second, .val (.long ((q2 - ws0) / (1000000 : Int64))), .second] [(.ref a1)]))
      refine OEnds.st (fun _ k => XS.iconst X1050.here hx rfl (hb hby d7_43) k) ?_
      show OEnds p.tables e below G (T1050.setTop (mkF m 44 #[.val (.ref a1), .val (.long q2), .second, .val (.long (q2 - ws0)), .second, .val (.long ((q2 - ws0) / (1000000 : Int64))), .second] [(.int (0 : Int32)), (.ref a1)]))
      obtain ⟨T1058, h1058, X1058, e1058, W1058, st1058⟩ := putF X1050 hx hZ hown (host := "") (Or.inl (hw _ (List.mem_of_getElem? (i := 57) rfl))) Via.refl e1050 f1055 f1052 (Or.inl (hw _ (List.mem_of_getElem? (i := 44) rfl))) (hw _ (List.mem_of_getElem? (i := 3) rfl)) (ty := .int) (by decide) rfl rfl (g := (mkF m 44 #[.val (.ref a1), .val (.long q2), .second, .val (.long (q2 - ws0)), .second, .val (.long ((q2 - ws0) / (1000000 : Int64))), .second] [(.int (0 : Int32)), (.ref a1)])) rfl rfl (hb hby d7_44)
      refine OEnds.st st1058 ?_
      clear st1058
      have f1059 : Fld Z h1058 a1 "com/example/marshalyard/marshalyard/proxy/MovingTries" "movedNow" "I" (.int (0 : Int32)) := f1055.same W1058
      have f1060 : Exa Z h1058 a1 "com/example/marshalyard/marshalyard/proxy/MovingTries" := f1052.wr W1058
      have f1061 : Fld Z h1058 a1 "com/example/marshalyard/marshalyard/proxy/MovingTries" "windowStart" "J" (.long ws0) := f1053.other W1058 (Or.inr (slot_ne (Or.inl (hw _ (List.mem_of_getElem? (i := 12) rfl))) (Or.inl (hw _ (List.mem_of_getElem? (i := 44) rfl))) (by decide) (t := .long) (t' := .int) (by decide) (by decide)))
      have f1062 : Fld Z h1058 a1 "com/example/marshalyard/marshalyard/proxy/MovingTries" "window" "J" (.long w) := f1054.other W1058 (Or.inr (slot_ne (Or.inl (hw _ (List.mem_of_getElem? (i := 40) rfl))) (Or.inl (hw _ (List.mem_of_getElem? (i := 44) rfl))) (by decide) (t := .long) (t' := .int) (by decide) (by decide)))
      have f1064 : Sta Z h1058 "com/example/marshalyard/marshalyard/proxy/MovingTries" "WINDOW_NANOS" "J" (.long (1000000 : Int64)) := f1057.wr W1058
      have f1065 : Fld Z h1058 a1 "com/example/marshalyard/marshalyard/proxy/MovingTries" "movedBefore" "I" (.int (0 : Int32)) := f1051.other W1058 (Or.inr (slot_ne (Or.inl (hw _ (List.mem_of_getElem? (i := 59) rfl))) (Or.inl (hw _ (List.mem_of_getElem? (i := 44) rfl))) (by decide) (t := .int) (t' := .int) (by decide) (by decide)))
      have N1058 := Fr.snoc X1058 N1050 g_a1
      have KK1058 : Keep h0 h1058 [a1] := KK1050.wr W1058 (Or.inl (List.mem_of_getElem? (i := 0) rfl))
      have Z1058 := Nat.le_trans Z1050 (Keep.of_wr W1058).1
      show OEnds p.tables e below G (T1058.setTop (mkF m 47 #[.val (.ref a1), .val (.long q2), .second, .val (.long (q2 - ws0)), .second, .val (.long ((q2 - ws0) / (1000000 : Int64))), .second] []))
      refine OEnds.st (fun _ k => XS.aloadN X1058.here hx rfl (hb hby d7_47) rfl rfl k) ?_
      show OEnds p.tables e below G (T1058.setTop (mkF m 48 #[.val (.ref a1), .val (.long q2), .second, .val (.long (q2 - ws0)), .second, .val (.long ((q2 - ws0) / (1000000 : Int64))), .second] [(.ref a1)]))
      refine OEnds.st (fun _ k => XS.dup X1058.here hx rfl (hb hby d7_48) rfl rfl k) ?_
      show OEnds p.tables e below G (T1058.setTop (mkF m 49 #[.val (.ref a1), .val (.long q2), .second, .val (.long (q2 - ws0)), .second, .val (.long ((q2 - ws0) / (1000000 : Int64))), .second] [(.ref a1), (.ref a1)]))
      obtain ⟨T1066, X1066, e1066, st1066⟩ := getF X1058 hx hZ hown (host := "") (Or.inl (hw _ (List.mem_of_getElem? (i := 64) rfl))) Via.refl e1058 f1062 (g := (mkF m 49 #[.val (.ref a1), .val (.long q2), .second, .val (.long (q2 - ws0)), .second, .val (.long ((q2 - ws0) / (1000000 : Int64))), .second] [(.ref a1), (.ref a1)])) rfl rfl (hb hby d7_49)
      refine OEnds.st st1066 ?_
      clear st1066
      show OEnds p.tables e below G (T1066.setTop (mkF m 52 #[.val (.ref a1), .val (.long q2), .second, .val (.long (q2 - ws0)), .second, .val (.long ((q2 - ws0) / (1000000 : Int64))), .second] [(.long w), (.ref a1)]))
      refine OEnds.st (fun _ k => XS.lload X1066.here hx rfl (hb hby d7_52) rfl k) ?_
      show OEnds p.tables e below G (T1066.setTop (mkF m 54 #[.val (.ref a1), .val (.long q2), .second, .val (.long (q2 - ws0)), .second, .val (.long ((q2 - ws0) / (1000000 : Int64))), .second] [(.long ((q2 - ws0) / (1000000 : Int64))), (.long w), (.ref a1)]))
      refine OEnds.st (fun _ k => XS.ladd X1066.here hx rfl (hb hby d7_54) rfl k) ?_
      show OEnds p.tables e below G (T1066.setTop (mkF m 55 #[.val (.ref a1), .val (.long q2), .second, .val (.long (q2 - ws0)), .second, .val (.long ((q2 - ws0) / (1000000 : Int64))), .second] [(.long (w + ((q2 - ws0) / (1000000 : Int64)))), (.ref a1)]))
      obtain ⟨T1067, h1067, X1067, e1067, W1067, st1067⟩ := putF X1066 hx hZ hown (host := "") (Or.inl (hw _ (List.mem_of_getElem? (i := 64) rfl))) Via.refl e1066 f1062 f1060 (Or.inl (hw _ (List.mem_of_getElem? (i := 40) rfl))) (hw _ (List.mem_of_getElem? (i := 3) rfl)) (ty := .long) (by decide) rfl rfl (g := (mkF m 55 #[.val (.ref a1), .val (.long q2), .second, .val (.long (q2 - ws0)), .second, .val (.long ((q2 - ws0) / (1000000 : Int64))), .second] [(.long (w + ((q2 - ws0) / (1000000 : Int64)))), (.ref a1)])) rfl rfl (hb hby d7_55)
      refine OEnds.st st1067 ?_
      clear st1067
      have f1068 : Fld Z h1067 a1 "com/example/marshalyard/marshalyard/proxy/MovingTries" "window" "J" (.long (w + ((q2 - ws0) / (1000000 : Int64)))) := f1062.same W1067
      have f1069 : Exa Z h1067 a1 "com/example/marshalyard/marshalyard/proxy/MovingTries" := f1060.wr W1067
      have f1070 : Fld Z h1067 a1 "com/example/marshalyard/marshalyard/proxy/MovingTries" "windowStart" "J" (.long ws0) := f1061.other W1067 (Or.inr (slot_ne (Or.inl (hw _ (List.mem_of_getElem? (i := 12) rfl))) (Or.inl (hw _ (List.mem_of_getElem? (i := 40) rfl))) (by decide) (t := .long) (t' := .long) (by decide) (by decide)))
      have f1072 : Sta Z h1067 "com/example/marshalyard/marshalyard/proxy/MovingTries" "WINDOW_NANOS" "J" (.long (1000000 : Int64)) := f1064.wr W1067
      have f1073 : Fld Z h1067 a1 "com/example/marshalyard/marshalyard/proxy/MovingTries" "movedBefore" "I" (.int (0 : Int32)) := f1065.other W1067 (Or.inr (slot_ne (Or.inl (hw _ (List.mem_of_getElem? (i := 59) rfl))) (Or.inl (hw _ (List.mem_of_getElem? (i := 40) rfl))) (by decide) (t := .int) (t' := .long) (by decide) (by decide)))
      have f1074 : Fld Z h1067 a1 "com/example/marshalyard/marshalyard/proxy/MovingTries" "movedNow" "I" (.int (0 : Int32)) := f1059.other W1067 (Or.inr (slot_ne (Or.inl (hw _ (List.mem_of_getElem? (i := 44) rfl))) (Or.inl (hw _ (List.mem_of_getElem? (i := 40) rfl))) (by decide) (t := .int) (t' := .long) (by decide) (by decide)))
      have N1067 := Fr.snoc X1067 N1058 g_a1
      have KK1067 : Keep h0 h1067 [a1] := KK1058.wr W1067 (Or.inl (List.mem_of_getElem? (i := 0) rfl))
      have Z1067 := Nat.le_trans Z1058 (Keep.of_wr W1067).1
      show OEnds p.tables e below G (T1067.setTop (mkF m 58 #[.val (.ref a1), .val (.long q2), .second, .val (.long (q2 - ws0)), .second, .val (.long ((q2 - ws0) / (1000000 : Int64))), .second] []))
      refine OEnds.st (fun _ k => XS.aloadN X1067.here hx rfl (hb hby d7_58) rfl rfl k) ?_
      show OEnds p.tables e below G (T1067.setTop (mkF m 59 #[.val (.ref a1), .val (.long q2), .second, .val (.long (q2 - ws0)), .second, .val (.long ((q2 - ws0) / (1000000 : Int64))), .second] [(.ref a1)]))
      refine OEnds.st (fun _ k => XS.dup X1067.here hx rfl (hb hby d7_59) rfl rfl k) ?_
      show OEnds p.tables e below G (T1067.setTop (mkF m 60 #[.val (.ref a1), .val (.long q2), .second, .val (.long (q2 - ws0)), .second, .val (.long ((q2 - ws0) / (1000000 : Int64))), .second] [(.ref a1), (.ref a1)]))
      obtain ⟨T1075, X1075, e1075, st1075⟩ := getF X1067 hx hZ hown (host := "") (Or.inl (hw _ (List.mem_of_getElem? (i := 11) rfl))) Via.refl e1067 f1070 (g := (mkF m 60 #[.val (.ref a1), .val (.long q2), .second, .val (.long (q2 - ws0)), .second, .val (.long ((q2 - ws0) / (1000000 : Int64))), .second] [(.ref a1), (.ref a1)])) rfl rfl (hb hby d7_60)
      refine OEnds.st st1075 ?_
      clear st1075
      show OEnds p.tables e below G (T1075.setTop (mkF m 63 #[.val (.ref a1), .val (.long q2), .second, .val (.long (q2 - ws0)), .second, .val (.long ((q2 - ws0) / (1000000 : Int64))), .second] [(.long ws0), (.ref a1)]))
      refine OEnds.st (fun _ k => XS.lload X1075.here hx rfl (hb hby d7_63) rfl k) ?_
      show OEnds p.tables e below G (T1075.setTop (mkF m 65 #[.val (.ref a1), .val (.long q2), .second, .val (.long (q2 - ws0)), .second, .val (.long ((q2 - ws0) / (1000000 : Int64))), .second] [(.long ((q2 - ws0) / (1000000 : Int64))), (.long ws0), (.ref a1)]))
      obtain ⟨T1076, X1076, e1076, st1076⟩ := getS2 X1075 hx hZ hown (host := "") (Or.inl (hw _ (List.mem_of_getElem? (i := 50) rfl))) Via.refl e1075 f1072 (g := (mkF m 65 #[.val (.ref a1), .val (.long q2), .second, .val (.long (q2 - ws0)), .second, .val (.long ((q2 - ws0) / (1000000 : Int64))), .second] [(.long ((q2 - ws0) / (1000000 : Int64))), (.long ws0), (.ref a1)])) rfl (hb hby d7_65)
      refine OEnds.st st1076 ?_
      clear st1076
      show OEnds p.tables e below G (T1076.setTop (mkF m 68 #[.val (.ref a1), .val (.long q2), .second, .val (.long (q2 - ws0)), .second, .val (.long ((q2 - ws0) / (1000000 : Int64))), .second] [(.long (1000000 : Int64)), (.long ((q2 - ws0) / (1000000 : Int64))), (.long ws0), (.ref a1)]))
      refine OEnds.st (fun _ k => XS.lmul X1076.here hx rfl (hb hby d7_68) rfl k) ?_
      show OEnds p.tables e below G (T1076.setTop (mkF m 69 #[.val (.ref a1), .val (.long q2), .second, .val (.long (q2 - ws0)), .second, .val (.long ((q2 - ws0) / (1000000 : Int64))), .second] [(.long (((q2 - ws0) / (1000000 : Int64)) * (1000000 : Int64))), (.long ws0), (.ref a1)]))
      refine OEnds.st (fun _ k => XS.ladd X1076.here hx rfl (hb hby d7_69) rfl k) ?_
      show OEnds p.tables e below G (T1076.setTop (mkF m 70 #[.val (.ref a1), .val (.long q2), .second, .val (.long (q2 - ws0)), .second, .val (.long ((q2 - ws0) / (1000000 : Int64))), .second] [(.long (ws0 + (((q2 - ws0) / (1000000 : Int64)) * (1000000 : Int64)))), (.ref a1)]))
      obtain ⟨T1077, h1077, X1077, e1077, W1077, st1077⟩ := putF X1076 hx hZ hown (host := "") (Or.inl (hw _ (List.mem_of_getElem? (i := 11) rfl))) Via.refl e1076 f1070 f1069 (Or.inl (hw _ (List.mem_of_getElem? (i := 12) rfl))) (hw _ (List.mem_of_getElem? (i := 3) rfl)) (ty := .long) (by decide) rfl rfl (g := (mkF m 70 #[.val (.ref a1), .val (.long q2), .second, .val (.long (q2 - ws0)), .second, .val (.long ((q2 - ws0) / (1000000 : Int64))), .second] [(.long (ws0 + (((q2 - ws0) / (1000000 : Int64)) * (1000000 : Int64)))), (.ref a1)])) rfl rfl (hb hby d7_70)
      refine OEnds.st st1077 ?_
      clear st1077
      have f1078 : Fld Z h1077 a1 "com/example/marshalyard/marshalyard/proxy/MovingTries" "windowStart" "J" (.long (ws0 + (((q2 - ws0) / (1000000 : Int64)) * (1000000 : Int64)))) := f1070.same W1077
      have f1079 : Exa Z h1077 a1 "com/example/marshalyard/marshalyard/proxy/MovingTries" := f1069.wr W1077
      have f1081 : Sta Z h1077 "com/example/marshalyard/marshalyard/proxy/MovingTries" "WINDOW_NANOS" "J" (.long (1000000 : Int64)) := f1072.wr W1077
      have f1082 : Fld Z h1077 a1 "com/example/marshalyard/marshalyard/proxy/MovingTries" "movedBefore" "I" (.int (0 : Int32)) := f1073.other W1077 (Or.inr (slot_ne (Or.inl (hw _ (List.mem_of_getElem? (i := 59) rfl))) (Or.inl (hw _ (List.mem_of_getElem? (i := 12) rfl))) (by decide) (t := .int) (t' := .long) (by decide) (by decide)))
      have f1083 : Fld Z h1077 a1 "com/example/marshalyard/marshalyard/proxy/MovingTries" "movedNow" "I" (.int (0 : Int32)) := f1074.other W1077 (Or.inr (slot_ne (Or.inl (hw _ (List.mem_of_getElem? (i := 44) rfl))) (Or.inl (hw _ (List.mem_of_getElem? (i := 12) rfl))) (by decide) (t := .int) (t' := .long) (by decide) (by decide)))
      have f1084 : Fld Z h1077 a1 "com/example/marshalyard/marshalyard/proxy/MovingTries" "window" "J" (.long (w + ((q2 - ws0) / (1000000 : Int64)))) := f1068.other W1077 (Or.inr (slot_ne (Or.inl (hw _ (List.mem_of_getElem? (i := 40) rfl))) (Or.inl (hw _ (List.mem_of_getElem? (i := 12) rfl))) (by decide) (t := .long) (t' := .long) (by decide) (by decide)))
      have N1077 := Fr.snoc X1077 N1067 g_a1
      have KK1077 : Keep h0 h1077 [a1] := KK1067.wr W1077 (Or.inl (List.mem_of_getElem? (i := 0) rfl))
      have Z1077 := Nat.le_trans Z1067 (Keep.of_wr W1077).1
      show OEnds p.tables e below G (T1077.setTop (mkF m 73 #[.val (.ref a1), .val (.long q2), .second, .val (.long (q2 - ws0)), .second, .val (.long ((q2 - ws0) / (1000000 : Int64))), .second] []))
      rw [← hG]
      have r1085 : (own_aS ws0 q2) = (ws0 + (((q2 - ws0) / (1000000 : Int64)) * (1000000 : Int64))) := by first | simp only [own_aS, if_neg hc12_1003, if_neg hc28_1009]
      have r1086 : (own_aW w ws0 q2) = (w + ((q2 - ws0) / (1000000 : Int64))) := by first | simp only [own_aW, if_neg hc12_1003, if_neg hc28_1009]
      have r1087 : (own_aN n ws0 q2) = (0 : Int32) := by first | simp only [own_aN, if_neg hc12_1003, if_neg hc28_1009]
      have r1088 : (own_aB n b ws0 q2) = (0 : Int32) := by first | simp only [own_aB, if_neg hc12_1003, if_neg hc28_1009]
      refine OEnds.retV X1077 hx hlk Bd.returns (hb hby d7_73) (by decide) (by decide) ?_
      rw [e1077]
      exact ⟨rfl, N1077, KK1077, f1079, (by rw [r1085]; exact f1078), (by rw [r1086]; exact f1084), (by rw [r1087]; exact f1083), (by rw [r1088]; exact f1082)⟩
theorem d8_0 : decode prog_82_method_3_code 0 = .ok (.aload_n 0, 1) := by decide +kernel
theorem d8_1 : decode prog_82_method_3_code 1 = .ok (.getfield 16, 3) := by decide +kernel
theorem d8_4 : decode prog_82_method_3_code 4 = .ok (.aload_n 0, 1) := by decide +kernel
theorem d8_5 : decode prog_82_method_3_code 5 = .ok (.getfield 20, 3) := by decide +kernel
theorem d8_8 : decode prog_82_method_3_code 8 = .ok (.iadd, 1) := by decide +kernel
theorem d8_9 : decode prog_82_method_3_code 9 = .ok (.ireturn, 1) := by decide +kernel
theorem ef_8 (m : MethodId) (a1 : Addr) : entryFrame m #[(.ref a1)] 1 = mkF m 0 #[.val (.ref a1)] [] := by first | (simp [entryFrame, mkF, argsToLocals, Value.category]; done) | rfl
def Q8 (Z : State) (a1 : Addr) (n : Int32) (b : Int32) (h0 : Heap) (n0 : Nat) (v : Option Value) (h : Heap) (L : List Loc) : Prop := v = some (.int (n + b)) ∧ Fr n0 L ∧ h = h0
set_option maxRecDepth 65536 in
set_option maxHeartbeats 40000000 in
theorem rm8 (l : Launch) (Z : State) (a0 : Array Value) (hw : ∀ d ∈ tables_1, d.before a0 Z = true) (ws : List Jvm.Cond) (a1 : Addr) (n : Int32) (b : Int32) (h0 : Heap) (n0 : Nat) (Z0 : n0 ≤ h0.size) (FmovedNow_a1 : Fld Z h0 a1 "com/example/marshalyard/marshalyard/proxy/MovingTries" "movedNow" "I" (.int n)) (FmovedBefore_a1 : Fld Z h0 a1 "com/example/marshalyard/marshalyard/proxy/MovingTries" "movedBefore" "I" (.int b)) :
    MetFree l (⟨"com/example/marshalyard/marshalyard/proxy/MovingTries", "count", "()I"⟩ : MethodName) (head1 (Jvm.Cond.code (⟨"com/example/marshalyard/marshalyard/proxy/MovingTries", "count", "()I"⟩ : MethodName) prog_82_method_3_code 1 (some .int) :: ws) ({ frames := 0, cells := 0, slots := 0, locals := 0 } : Room)) (fun a U => a = #[(.ref a1)] ∧ Z.Warmed39 U.vm ∧ U.heap = h0) (fun _ _ _ _ _ => True) (fun _ U o U' => ∃ v L, o = .returned v ∧ Q8 Z a1 n b h0 n0 v U'.heap L ∧ FrameEnd U o U' L ({ frames := 0, cells := 0, slots := 0, locals := 0 } : Room).cells ({ frames := 0, cells := 0, slots := 0, locals := 0 } : Room).slots) := by
  refine MetFree.of_bodySF (plainFor_of_name pn_0) hisR ?_
  intro p e s m args below meth c s₁ Bd hml0 hP hK
  obtain ⟨rfl, hZ, hh⟩ := hP
  have hx := Bd.exec
  have hby := Bd.bytes
  have hml : c.maxLocals = 1 := hml0
  have hown : s.vm.findClass "com/example/marshalyard/marshalyard/proxy/MovingTries" = some m.cls := findClass_of_methodNamed Bd.named
  have hnm := (name_of_methodNamed Bd.named Bd.method).1
  have hlk : meth.locks = false := BodyLoose.notSynchronized Bd
  have X0 : Stand p l e ({ frames := 0, cells := 0, slots := 0, locals := 0 } : Room) s m #[(.ref a1)] below meth c s₁ [] 0 0 := Stand.of_body Bd
  have e0 : s₁.heap = h0 := by rw [← hh, Bd.state]; rfl
  have N0 := Fr.nil n0
  show OEnds p.tables e below (OGoal (Q8 Z a1 n b h0 n0) s 0 0) (s₁.setTop (entryFrame m #[(.ref a1)] 1))
  refine OEnds.st (fun t k => castTop (ef_8 m a1) k) ?_
  generalize hG : OGoal (Q8 Z a1 n b h0 n0) s 0 0 = G
  have KK0 : Keep h0 h0 [] := Keep.refl h0 []
  show OEnds p.tables e below G (s₁.setTop (mkF m 0 #[.val (.ref a1)] []))
  refine OEnds.st (fun _ k => XS.aloadN X0.here hx rfl (hb hby d8_0) rfl rfl k) ?_
  show OEnds p.tables e below G (s₁.setTop (mkF m 1 #[.val (.ref a1)] [(.ref a1)]))
  obtain ⟨T1001, X1001, e1001, st1001⟩ := getF X0 hx hZ hown (host := "") (Or.inl (hw _ (List.mem_of_getElem? (i := 57) rfl))) Via.refl e0 FmovedNow_a1 (g := (mkF m 1 #[.val (.ref a1)] [(.ref a1)])) rfl rfl (hb hby d8_1)
  refine OEnds.st st1001 ?_
  clear st1001
  show OEnds p.tables e below G (T1001.setTop (mkF m 4 #[.val (.ref a1)] [(.int n)]))
  refine OEnds.st (fun _ k => XS.aloadN X1001.here hx rfl (hb hby d8_4) rfl rfl k) ?_
  show OEnds p.tables e below G (T1001.setTop (mkF m 5 #[.val (.ref a1)] [(.ref a1), (.int n)]))
  obtain ⟨T1002, X1002, e1002, st1002⟩ := getF X1001 hx hZ hown (host := "") (Or.inl (hw _ (List.mem_of_getElem? (i := 58) rfl))) Via.refl e1001 FmovedBefore_a1 (g := (mkF m 5 #[.val (.ref a1)] [(.ref a1), (.int n)])) rfl rfl (hb hby d8_5)
  refine OEnds.st st1002 ?_
  clear st1002
  show OEnds p.tables e below G (T1002.setTop (mkF m 8 #[.val (.ref a1)] [(.int b), (.int n)]))
  refine OEnds.st (fun _ k => XS.iadd X1002.here hx rfl (hb hby d8_8) rfl k) ?_
  show OEnds p.tables e below G (T1002.setTop (mkF m 9 #[.val (.ref a1)] [(.int (n + b))]))
  rw [← hG]
  refine OEnds.retI X1002 hx hlk Bd.returns (hb hby d8_9) (by decide) (by decide) ?_
  rw [e1002]
  exact ⟨rfl, N0, rfl⟩
theorem d9_0 : decode method_2_code 0 = .ok (.lload_n 0, 1) := by decide +kernel
theorem d9_1 : decode method_2_code 1 = .ok (.lload_n 2, 1) := by decide +kernel
theorem d9_2 : decode method_2_code 2 = .ok (.lconst 1, 1) := by decide +kernel
theorem d9_3 : decode method_2_code 3 = .ok (.lsub, 1) := by decide +kernel
theorem d9_4 : decode method_2_code 4 = .ok (.lcmp, 1) := by decide +kernel
theorem d9_5 : decode method_2_code 5 = .ok (.ifCond .lt 7, 3) := by decide +kernel
theorem d9_8 : decode method_2_code 8 = .ok (.iconst 1, 1) := by decide +kernel
theorem d9_9 : decode method_2_code 9 = .ok (.goto 4, 3) := by decide +kernel
theorem d9_12 : decode method_2_code 12 = .ok (.iconst 0, 1) := by decide +kernel
theorem d9_13 : decode method_2_code 13 = .ok (.ireturn, 1) := by decide +kernel
theorem pn_2 : plainName "com/example/marshalyard/marshalyard/proxy/MovingTriesAdvancePinLaw" = true := by first | (simp [plainName, overriddenIn]; done) | decide +kernel
theorem ef_9 (m : MethodId) (q1 : Int64) (q2 : Int64) : entryFrame m #[(.long q1), (.long q2)] 4 = mkF m 0 #[.val (.long q1), .second, .val (.long q2), .second] [] := by first | (simp [entryFrame, mkF, argsToLocals, Value.category]; done) | rfl
def Q9 (Z : State) (q1 : Int64) (q2 : Int64) (h0 : Heap) (n0 : Nat) (v : Option Value) (h : Heap) (L : List Loc) : Prop := v = some (.int (own_cnt q1 q2)) ∧ Fr n0 L ∧ h = h0
set_option maxRecDepth 65536 in
set_option maxHeartbeats 40000000 in
theorem rm9 (l : Launch) (Z : State) (a0 : Array Value) (hw : ∀ d ∈ tables_1, d.before a0 Z = true) (ws : List Jvm.Cond) (q1 : Int64) (q2 : Int64) (h0 : Heap) (n0 : Nat) (Z0 : n0 ≤ h0.size) :
    MetFree l (⟨"com/example/marshalyard/marshalyard/proxy/MovingTriesAdvancePinLaw", "counted", "(JJ)I"⟩ : MethodName) (head1 (Jvm.Cond.code (⟨"com/example/marshalyard/marshalyard/proxy/MovingTriesAdvancePinLaw", "counted", "(JJ)I"⟩ : MethodName) method_2_code 4 (some .int) :: ws) ({ frames := 0, cells := 0, slots := 0, locals := 0 } : Room)) (fun a U => a = #[(.long q1), (.long q2)] ∧ Z.Warmed39 U.vm ∧ U.heap = h0) (fun _ _ _ _ _ => True) (fun _ U o U' => ∃ v L, o = .returned v ∧ Q9 Z q1 q2 h0 n0 v U'.heap L ∧ FrameEnd U o U' L ({ frames := 0, cells := 0, slots := 0, locals := 0 } : Room).cells ({ frames := 0, cells := 0, slots := 0, locals := 0 } : Room).slots) := by
  refine MetFree.of_bodySF (plainFor_of_name pn_2) hisR ?_
  intro p e s m args below meth c s₁ Bd hml0 hP hK
  obtain ⟨rfl, hZ, hh⟩ := hP
  have hx := Bd.exec
  have hby := Bd.bytes
  have hml : c.maxLocals = 4 := hml0
  have hown : s.vm.findClass "com/example/marshalyard/marshalyard/proxy/MovingTriesAdvancePinLaw" = some m.cls := findClass_of_methodNamed Bd.named
  have hnm := (name_of_methodNamed Bd.named Bd.method).1
  have hlk : meth.locks = false := BodyLoose.notSynchronized Bd
  have X0 : Stand p l e ({ frames := 0, cells := 0, slots := 0, locals := 0 } : Room) s m #[(.long q1), (.long q2)] below meth c s₁ [] 0 0 := Stand.of_body Bd
  have e0 : s₁.heap = h0 := by rw [← hh, Bd.state]; rfl
  have N0 := Fr.nil n0
  show OEnds p.tables e below (OGoal (Q9 Z q1 q2 h0 n0) s 0 0) (s₁.setTop (entryFrame m #[(.long q1), (.long q2)] 4))
  refine OEnds.st (fun t k => castTop (ef_9 m q1 q2) k) ?_
  generalize hG : OGoal (Q9 Z q1 q2 h0 n0) s 0 0 = G
  have KK0 : Keep h0 h0 [] := Keep.refl h0 []
  show OEnds p.tables e below G (s₁.setTop (mkF m 0 #[.val (.long q1), .second, .val (.long q2), .second] []))
  refine OEnds.st (fun _ k => XS.lloadN X0.here hx rfl (hb hby d9_0) rfl k) ?_
  show OEnds p.tables e below G (s₁.setTop (mkF m 1 #[.val (.long q1), .second, .val (.long q2), .second] [(.long q1)]))
  refine OEnds.st (fun _ k => XS.lloadN X0.here hx rfl (hb hby d9_1) rfl k) ?_
  show OEnds p.tables e below G (s₁.setTop (mkF m 2 #[.val (.long q1), .second, .val (.long q2), .second] [(.long q2), (.long q1)]))
  refine OEnds.st (fun _ k => XS.lconst X0.here hx rfl (hb hby d9_2) k) ?_
  show OEnds p.tables e below G (s₁.setTop (mkF m 3 #[.val (.long q1), .second, .val (.long q2), .second] [(.long (1 : Int64)), (.long q2), (.long q1)]))
  refine OEnds.st (fun _ k => XS.lsub X0.here hx rfl (hb hby d9_3) rfl k) ?_
  show OEnds p.tables e below G (s₁.setTop (mkF m 4 #[.val (.long q1), .second, .val (.long q2), .second] [(.long (q2 - (1 : Int64))), (.long q1)]))
  refine OEnds.st (fun _ k => XS.lcmp X0.here hx rfl (hb hby d9_4) rfl k) ?_
  show OEnds p.tables e below G (s₁.setTop (mkF m 5 #[.val (.long q1), .second, .val (.long q2), .second] [(.int (lcmpW q1 (q2 - (1 : Int64))))]))
  by_cases hc5_1001 : q1 < (q2 - (1 : Int64))
  · -- pc 5: yes
    refine OEnds.st (fun _ k => XS.ifYes X0.here hx rfl (pc0 := 5) (pc' := 12) rfl (hb hby d9_5) rfl ((if0 _ _).trans (tlt ((lw_lt q1 (q2 - (1 : Int64))).mpr hc5_1001)).1) (by decide) (by decide) k) ?_
    show OEnds p.tables e below G (s₁.setTop (mkF m 12 #[.val (.long q1), .second, .val (.long q2), .second] []))
    refine OEnds.st (fun _ k => XS.iconst X0.here hx rfl (hb hby d9_12) k) ?_
    show OEnds p.tables e below G (s₁.setTop (mkF m 13 #[.val (.long q1), .second, .val (.long q2), .second] [(.int (0 : Int32))]))
    rw [← hG]
    refine OEnds.retI X0 hx hlk Bd.returns (hb hby d9_13) (by decide) (by decide) ?_
    rw [e0]
    exact ⟨by simp [own_cnt, hc5_1001], N0, rfl⟩
  · -- pc 5: no
    refine OEnds.st (fun _ k => XS.ifNo X0.here hx rfl (hb hby d9_5) rfl ((if0 _ _).trans (flt (fun q => hc5_1001 ((lw_lt q1 (q2 - (1 : Int64))).mp q))).1) k) ?_
    show OEnds p.tables e below G (s₁.setTop (mkF m 8 #[.val (.long q1), .second, .val (.long q2), .second] []))
    refine OEnds.st (fun _ k => XS.iconst X0.here hx rfl (hb hby d9_8) k) ?_
    show OEnds p.tables e below G (s₁.setTop (mkF m 9 #[.val (.long q1), .second, .val (.long q2), .second] [(.int (1 : Int32))]))
    refine OEnds.st (fun _ k => XS.goto X0.here hx rfl (pc0 := 9) (pc' := 13) rfl (hb hby d9_9) (by decide) (by decide) k) ?_
    show OEnds p.tables e below G (s₁.setTop (mkF m 13 #[.val (.long q1), .second, .val (.long q2), .second] [(.int (1 : Int32))]))
    rw [← hG]
    refine OEnds.retI X0 hx hlk Bd.returns (hb hby d9_13) (by decide) (by decide) ?_
    rw [e0]
    exact ⟨by simp [own_cnt, hc5_1001], N0, rfl⟩
theorem ef_0 (m : MethodId) (q1 : Int64) (q2 : Int64) (q3 : Int64) (p4 : Int32) : entryFrame m #[(.long q1), (.long q2), (.long q3), (.int p4)] maxLocals = mkF m 0 #[.val (.long q1), .second, .val (.long q2), .second, .val (.long q3), .second, .val (.int p4), .unset, .unset, .unset, .unset, .unset, .unset, .unset, .unset, .unset, .unset, .unset, .unset, .unset, .unset, .unset, .unset, .unset, .unset, .unset, .unset, .unset, .unset, .unset, .unset, .unset] [] := by first | (simp [entryFrame, mkF, argsToLocals, Value.category, maxLocals]; done) | rfl
def Q0 (Z : State) (q1 : Int64) (q2 : Int64) (q3 : Int64) (p4 : Int32) (h0 : Heap) (n0 : Nat) (v : Option Value) (h : Heap) (L : List Loc) : Prop := v = some (.int (1 : Int32)) ∧ Fr n0 L
theorem pd_2 : parseMethodDescriptor "(J)V" = some ⟨[.long], none⟩ := by decide +kernel
theorem pd_3 : parseMethodDescriptor "()Lcom/example/marshalyard/marshalyard/proxy/MovingTries$Flight;" = some ⟨[], some (.object "com/example/marshalyard/marshalyard/proxy/MovingTries$Flight")⟩ := by decide +kernel
theorem pd_4 : parseMethodDescriptor "()I" = some ⟨[], some .int⟩ := by decide +kernel
theorem pd_5 : parseMethodDescriptor "(JJ)I" = some ⟨[.long, .long], some .int⟩ := by decide +kernel
set_option maxRecDepth 65536 in
set_option maxHeartbeats 40000000 in
theorem rm0 (l : Launch) (Z : State) (a0 : Array Value) (hw : ∀ d ∈ tables_1, d.before a0 Z = true) (ws : List Jvm.Cond) (q1 : Int64) (q2 : Int64) (q3 : Int64) (p4 : Int32) (h0 : Heap) (n0 : Nat) (Z0 : n0 ≤ h0.size) (Sw : Sta Z h0 "com/example/marshalyard/marshalyard/proxy/MovingTries" "WINDOW_NANOS" "J" (.long (1000000 : Int64))) :
    MetFree l x (head1 (Jvm.Cond.code x code maxLocals ret :: ws) room_1) (fun a U => a = #[(.long q1), (.long q2), (.long q3), (.int p4)] ∧ Z.Warmed39 U.vm ∧ U.heap = h0) (fun _ _ _ _ _ => True) (fun _ U o U' => ∃ v L, o = .returned v ∧ Q0 Z q1 q2 q3 p4 h0 n0 v U'.heap L ∧ FrameEnd U o U' L room_1.cells room_1.slots) := by
  refine MetFree.of_bodySF (plainFor_of_name pn_2) hisR ?_
  intro p e s m args below meth c s₁ Bd hml0 hP hK
  obtain ⟨rfl, hZ, hh⟩ := hP
  have hx := Bd.exec
  have hby := Bd.bytes
  have hml : c.maxLocals = 32 := hml0
  have hown : s.vm.findClass "com/example/marshalyard/marshalyard/proxy/MovingTriesAdvancePinLaw" = some m.cls := findClass_of_methodNamed Bd.named
  have hnm := (name_of_methodNamed Bd.named Bd.method).1
  have hlk : meth.locks = false := BodyLoose.notSynchronized Bd
  have X0 : Stand p l e room_1 s m #[(.long q1), (.long q2), (.long q3), (.int p4)] below meth c s₁ [] 0 0 := Stand.of_body Bd
  have e0 : s₁.heap = h0 := by rw [← hh, Bd.state]; rfl
  have N0 := Fr.nil n0
  show OEnds p.tables e below (OGoal (Q0 Z q1 q2 q3 p4 h0 n0) s 16 128) (s₁.setTop (entryFrame m #[(.long q1), (.long q2), (.long q3), (.int p4)] maxLocals))
  refine OEnds.st (fun t k => castTop (ef_0 m q1 q2 q3 p4) k) ?_
  generalize hG : OGoal (Q0 Z q1 q2 q3 p4 h0 n0) s 16 128 = G
  have KK0 : Keep h0 h0 [] := Keep.refl h0 []
  show OEnds p.tables e below G (s₁.setTop (mkF m 0 #[.val (.long q1), .second, .val (.long q2), .second, .val (.long q3), .second, .val (.int p4), .unset, .unset, .unset, .unset, .unset, .unset, .unset, .unset, .unset, .unset, .unset, .unset, .unset, .unset, .unset, .unset, .unset, .unset, .unset, .unset, .unset, .unset, .unset, .unset, .unset] []))
  refine OEnds.st (X0.ldc2Long hx hown (mvT hZ (hw _ (List.mem_of_getElem? (i := 0) rfl))) (g := (mkF m 0 #[.val (.long q1), .second, .val (.long q2), .second, .val (.long q3), .second, .val (.int p4), .unset, .unset, .unset, .unset, .unset, .unset, .unset, .unset, .unset, .unset, .unset, .unset, .unset, .unset, .unset, .unset, .unset, .unset, .unset, .unset, .unset, .unset, .unset, .unset, .unset] [])) rfl (hb hby at_0)) ?_
  show OEnds p.tables e below G (s₁.setTop (mkF m 3 #[.val (.long q1), .second, .val (.long q2), .second, .val (.long q3), .second, .val (.int p4), .unset, .unset, .unset, .unset, .unset, .unset, .unset, .unset, .unset, .unset, .unset, .unset, .unset, .unset, .unset, .unset, .unset, .unset, .unset, .unset, .unset, .unset, .unset, .unset, .unset] [(.long (1000000 : Int64))]))
  refine OEnds.st (fun _ k => XS.lstore X0.here hx rfl (hb hby at_3) rfl (l' := #[.val (.long q1), .second, .val (.long q2), .second, .val (.long q3), .second, .val (.int p4), .val (.long (1000000 : Int64)), .second, .unset, .unset, .unset, .unset, .unset, .unset, .unset, .unset, .unset, .unset, .unset, .unset, .unset, .unset, .unset, .unset, .unset, .unset, .unset, .unset, .unset, .unset, .unset]) rfl k) ?_
  show OEnds p.tables e below G (s₁.setTop (mkF m 5 #[.val (.long q1), .second, .val (.long q2), .second, .val (.long q3), .second, .val (.int p4), .val (.long (1000000 : Int64)), .second, .unset, .unset, .unset, .unset, .unset, .unset, .unset, .unset, .unset, .unset, .unset, .unset, .unset, .unset, .unset, .unset, .unset, .unset, .unset, .unset, .unset, .unset, .unset] []))
  refine OEnds.st (fun _ k => XS.lloadN X0.here hx rfl (hb hby at_5) rfl k) ?_
  show OEnds p.tables e below G (s₁.setTop (mkF m 6 #[.val (.long q1), .second, .val (.long q2), .second, .val (.long q3), .second, .val (.int p4), .val (.long (1000000 : Int64)), .second, .unset, .unset, .unset, .unset, .unset, .unset, .unset, .unset, .unset, .unset, .unset, .unset, .unset, .unset, .unset, .unset, .unset, .unset, .unset, .unset, .unset, .unset, .unset] [(.long q2)]))
  refine OEnds.st (X0.ldc2Long hx hown (mvT hZ (hw _ (List.mem_of_getElem? (i := 1) rfl))) (g := (mkF m 6 #[.val (.long q1), .second, .val (.long q2), .second, .val (.long q3), .second, .val (.int p4), .val (.long (1000000 : Int64)), .second, .unset, .unset, .unset, .unset, .unset, .unset, .unset, .unset, .unset, .unset, .unset, .unset, .unset, .unset, .unset, .unset, .unset, .unset, .unset, .unset, .unset, .unset, .unset] [(.long q2)])) rfl (hb hby at_6)) ?_
  show OEnds p.tables e below G (s₁.setTop (mkF m 9 #[.val (.long q1), .second, .val (.long q2), .second, .val (.long q3), .second, .val (.int p4), .val (.long (1000000 : Int64)), .second, .unset, .unset, .unset, .unset, .unset, .unset, .unset, .unset, .unset, .unset, .unset, .unset, .unset, .unset, .unset, .unset, .unset, .unset, .unset, .unset, .unset, .unset, .unset] [(.long (4611686018427387903 : Int64)), (.long q2)]))
  refine OEnds.st (fun _ k => XS.land X0.here hx rfl (hb hby at_9) rfl k) ?_
  show OEnds p.tables e below G (s₁.setTop (mkF m 10 #[.val (.long q1), .second, .val (.long q2), .second, .val (.long q3), .second, .val (.int p4), .val (.long (1000000 : Int64)), .second, .unset, .unset, .unset, .unset, .unset, .unset, .unset, .unset, .unset, .unset, .unset, .unset, .unset, .unset, .unset, .unset, .unset, .unset, .unset, .unset, .unset, .unset, .unset] [(.long (q2 &&& (4611686018427387903 : Int64)))]))
  refine OEnds.st (fun _ k => XS.lstore X0.here hx rfl (hb hby at_10) rfl (l' := #[.val (.long q1), .second, .val (.long q2), .second, .val (.long q3), .second, .val (.int p4), .val (.long (1000000 : Int64)), .second, .val (.long (q2 &&& (4611686018427387903 : Int64))), .second, .unset, .unset, .unset, .unset, .unset, .unset, .unset, .unset, .unset, .unset, .unset, .unset, .unset, .unset, .unset, .unset, .unset, .unset, .unset, .unset, .unset]) rfl k) ?_
  show OEnds p.tables e below G (s₁.setTop (mkF m 12 #[.val (.long q1), .second, .val (.long q2), .second, .val (.long q3), .second, .val (.int p4), .val (.long (1000000 : Int64)), .second, .val (.long (q2 &&& (4611686018427387903 : Int64))), .second, .unset, .unset, .unset, .unset, .unset, .unset, .unset, .unset, .unset, .unset, .unset, .unset, .unset, .unset, .unset, .unset, .unset, .unset, .unset, .unset, .unset] []))
  generalize hv_v1001 : (q2 &&& (4611686018427387903 : Int64)) = v1001
  show OEnds p.tables e below G (s₁.setTop (mkF m 12 #[.val (.long q1), .second, .val (.long q2), .second, .val (.long q3), .second, .val (.int p4), .val (.long (1000000 : Int64)), .second, .val (.long v1001), .second, .unset, .unset, .unset, .unset, .unset, .unset, .unset, .unset, .unset, .unset, .unset, .unset, .unset, .unset, .unset, .unset, .unset, .unset, .unset, .unset, .unset] []))
  refine OEnds.st (fun _ k => XS.lload X0.here hx rfl (hb hby at_12) rfl k) ?_
  show OEnds p.tables e below G (s₁.setTop (mkF m 14 #[.val (.long q1), .second, .val (.long q2), .second, .val (.long q3), .second, .val (.int p4), .val (.long (1000000 : Int64)), .second, .val (.long v1001), .second, .unset, .unset, .unset, .unset, .unset, .unset, .unset, .unset, .unset, .unset, .unset, .unset, .unset, .unset, .unset, .unset, .unset, .unset, .unset, .unset, .unset] [(.long q3)]))
  refine OEnds.st (X0.ldc2Long hx hown (mvT hZ (hw _ (List.mem_of_getElem? (i := 1) rfl))) (g := (mkF m 14 #[.val (.long q1), .second, .val (.long q2), .second, .val (.long q3), .second, .val (.int p4), .val (.long (1000000 : Int64)), .second, .val (.long v1001), .second, .unset, .unset, .unset, .unset, .unset, .unset, .unset, .unset, .unset, .unset, .unset, .unset, .unset, .unset, .unset, .unset, .unset, .unset, .unset, .unset, .unset] [(.long q3)])) rfl (hb hby at_14)) ?_
  show OEnds p.tables e below G (s₁.setTop (mkF m 17 #[.val (.long q1), .second, .val (.long q2), .second, .val (.long q3), .second, .val (.int p4), .val (.long (1000000 : Int64)), .second, .val (.long v1001), .second, .unset, .unset, .unset, .unset, .unset, .unset, .unset, .unset, .unset, .unset, .unset, .unset, .unset, .unset, .unset, .unset, .unset, .unset, .unset, .unset, .unset] [(.long (4611686018427387903 : Int64)), (.long q3)]))
  refine OEnds.st (fun _ k => XS.land X0.here hx rfl (hb hby at_17) rfl k) ?_
  show OEnds p.tables e below G (s₁.setTop (mkF m 18 #[.val (.long q1), .second, .val (.long q2), .second, .val (.long q3), .second, .val (.int p4), .val (.long (1000000 : Int64)), .second, .val (.long v1001), .second, .unset, .unset, .unset, .unset, .unset, .unset, .unset, .unset, .unset, .unset, .unset, .unset, .unset, .unset, .unset, .unset, .unset, .unset, .unset, .unset, .unset] [(.long (q3 &&& (4611686018427387903 : Int64)))]))
  refine OEnds.st (fun _ k => XS.lstore X0.here hx rfl (hb hby at_18) rfl (l' := #[.val (.long q1), .second, .val (.long q2), .second, .val (.long q3), .second, .val (.int p4), .val (.long (1000000 : Int64)), .second, .val (.long v1001), .second, .val (.long (q3 &&& (4611686018427387903 : Int64))), .second, .unset, .unset, .unset, .unset, .unset, .unset, .unset, .unset, .unset, .unset, .unset, .unset, .unset, .unset, .unset, .unset, .unset, .unset, .unset]) rfl k) ?_
  show OEnds p.tables e below G (s₁.setTop (mkF m 20 #[.val (.long q1), .second, .val (.long q2), .second, .val (.long q3), .second, .val (.int p4), .val (.long (1000000 : Int64)), .second, .val (.long v1001), .second, .val (.long (q3 &&& (4611686018427387903 : Int64))), .second, .unset, .unset, .unset, .unset, .unset, .unset, .unset, .unset, .unset, .unset, .unset, .unset, .unset, .unset, .unset, .unset, .unset, .unset, .unset] []))
  generalize hv_v1002 : (q3 &&& (4611686018427387903 : Int64)) = v1002
  show OEnds p.tables e below G (s₁.setTop (mkF m 20 #[.val (.long q1), .second, .val (.long q2), .second, .val (.long q3), .second, .val (.int p4), .val (.long (1000000 : Int64)), .second, .val (.long v1001), .second, .val (.long v1002), .second, .unset, .unset, .unset, .unset, .unset, .unset, .unset, .unset, .unset, .unset, .unset, .unset, .unset, .unset, .unset, .unset, .unset, .unset, .unset] []))
  refine OEnds.st (fun _ k => XS.lload X0.here hx rfl (hb hby at_20) rfl k) ?_
  show OEnds p.tables e below G (s₁.setTop (mkF m 22 #[.val (.long q1), .second, .val (.long q2), .second, .val (.long q3), .second, .val (.int p4), .val (.long (1000000 : Int64)), .second, .val (.long v1001), .second, .val (.long v1002), .second, .unset, .unset, .unset, .unset, .unset, .unset, .unset, .unset, .unset, .unset, .unset, .unset, .unset, .unset, .unset, .unset, .unset, .unset, .unset] [(.long v1001)]))
  refine OEnds.st (fun _ k => XS.lload X0.here hx rfl (hb hby at_22) rfl k) ?_
  show OEnds p.tables e below G (s₁.setTop (mkF m 24 #[.val (.long q1), .second, .val (.long q2), .second, .val (.long q3), .second, .val (.int p4), .val (.long (1000000 : Int64)), .second, .val (.long v1001), .second, .val (.long v1002), .second, .unset, .unset, .unset, .unset, .unset, .unset, .unset, .unset, .unset, .unset, .unset, .unset, .unset, .unset, .unset, .unset, .unset, .unset, .unset] [(.long (1000000 : Int64)), (.long v1001)]))
  refine OEnds.st (fun _ k => XS.ldiv X0.here hx rfl (hb hby at_24) rfl (by decide) k) ?_
  show OEnds p.tables e below G (s₁.setTop (mkF m 25 #[.val (.long q1), .second, .val (.long q2), .second, .val (.long q3), .second, .val (.int p4), .val (.long (1000000 : Int64)), .second, .val (.long v1001), .second, .val (.long v1002), .second, .unset, .unset, .unset, .unset, .unset, .unset, .unset, .unset, .unset, .unset, .unset, .unset, .unset, .unset, .unset, .unset, .unset, .unset, .unset] [(.long (v1001 / (1000000 : Int64)))]))
  refine OEnds.st (fun _ k => XS.lstore X0.here hx rfl (hb hby at_25) rfl (l' := #[.val (.long q1), .second, .val (.long q2), .second, .val (.long q3), .second, .val (.int p4), .val (.long (1000000 : Int64)), .second, .val (.long v1001), .second, .val (.long v1002), .second, .val (.long (v1001 / (1000000 : Int64))), .second, .unset, .unset, .unset, .unset, .unset, .unset, .unset, .unset, .unset, .unset, .unset, .unset, .unset, .unset, .unset, .unset, .unset]) rfl k) ?_
  show OEnds p.tables e below G (s₁.setTop (mkF m 27 #[.val (.long q1), .second, .val (.long q2), .second, .val (.long q3), .second, .val (.int p4), .val (.long (1000000 : Int64)), .second, .val (.long v1001), .second, .val (.long v1002), .second, .val (.long (v1001 / (1000000 : Int64))), .second, .unset, .unset, .unset, .unset, .unset, .unset, .unset, .unset, .unset, .unset, .unset, .unset, .unset, .unset, .unset, .unset, .unset] []))
  generalize hv_v1003 : (v1001 / (1000000 : Int64)) = v1003
  show OEnds p.tables e below G (s₁.setTop (mkF m 27 #[.val (.long q1), .second, .val (.long q2), .second, .val (.long q3), .second, .val (.int p4), .val (.long (1000000 : Int64)), .second, .val (.long v1001), .second, .val (.long v1002), .second, .val (.long v1003), .second, .unset, .unset, .unset, .unset, .unset, .unset, .unset, .unset, .unset, .unset, .unset, .unset, .unset, .unset, .unset, .unset, .unset] []))
  refine OEnds.st (fun _ k => XS.lload X0.here hx rfl (hb hby at_27) rfl k) ?_
  show OEnds p.tables e below G (s₁.setTop (mkF m 29 #[.val (.long q1), .second, .val (.long q2), .second, .val (.long q3), .second, .val (.int p4), .val (.long (1000000 : Int64)), .second, .val (.long v1001), .second, .val (.long v1002), .second, .val (.long v1003), .second, .unset, .unset, .unset, .unset, .unset, .unset, .unset, .unset, .unset, .unset, .unset, .unset, .unset, .unset, .unset, .unset, .unset] [(.long v1001)]))
  refine OEnds.st (fun _ k => XS.lload X0.here hx rfl (hb hby at_29) rfl k) ?_
  show OEnds p.tables e below G (s₁.setTop (mkF m 31 #[.val (.long q1), .second, .val (.long q2), .second, .val (.long q3), .second, .val (.int p4), .val (.long (1000000 : Int64)), .second, .val (.long v1001), .second, .val (.long v1002), .second, .val (.long v1003), .second, .unset, .unset, .unset, .unset, .unset, .unset, .unset, .unset, .unset, .unset, .unset, .unset, .unset, .unset, .unset, .unset, .unset] [(.long v1002), (.long v1001)]))
  refine OEnds.st (fun _ k => XS.ladd X0.here hx rfl (hb hby at_31) rfl k) ?_
  show OEnds p.tables e below G (s₁.setTop (mkF m 32 #[.val (.long q1), .second, .val (.long q2), .second, .val (.long q3), .second, .val (.int p4), .val (.long (1000000 : Int64)), .second, .val (.long v1001), .second, .val (.long v1002), .second, .val (.long v1003), .second, .unset, .unset, .unset, .unset, .unset, .unset, .unset, .unset, .unset, .unset, .unset, .unset, .unset, .unset, .unset, .unset, .unset] [(.long (v1001 + v1002))]))
  refine OEnds.st (fun _ k => XS.lload X0.here hx rfl (hb hby at_32) rfl k) ?_
  show OEnds p.tables e below G (s₁.setTop (mkF m 34 #[.val (.long q1), .second, .val (.long q2), .second, .val (.long q3), .second, .val (.int p4), .val (.long (1000000 : Int64)), .second, .val (.long v1001), .second, .val (.long v1002), .second, .val (.long v1003), .second, .unset, .unset, .unset, .unset, .unset, .unset, .unset, .unset, .unset, .unset, .unset, .unset, .unset, .unset, .unset, .unset, .unset] [(.long (1000000 : Int64)), (.long (v1001 + v1002))]))
  refine OEnds.st (fun _ k => XS.ldiv X0.here hx rfl (hb hby at_34) rfl (by decide) k) ?_
  show OEnds p.tables e below G (s₁.setTop (mkF m 35 #[.val (.long q1), .second, .val (.long q2), .second, .val (.long q3), .second, .val (.int p4), .val (.long (1000000 : Int64)), .second, .val (.long v1001), .second, .val (.long v1002), .second, .val (.long v1003), .second, .unset, .unset, .unset, .unset, .unset, .unset, .unset, .unset, .unset, .unset, .unset, .unset, .unset, .unset, .unset, .unset, .unset] [(.long ((v1001 + v1002) / (1000000 : Int64)))]))
  refine OEnds.st (fun _ k => XS.lstore X0.here hx rfl (hb hby at_35) rfl (l' := #[.val (.long q1), .second, .val (.long q2), .second, .val (.long q3), .second, .val (.int p4), .val (.long (1000000 : Int64)), .second, .val (.long v1001), .second, .val (.long v1002), .second, .val (.long v1003), .second, .val (.long ((v1001 + v1002) / (1000000 : Int64))), .second, .unset, .unset, .unset, .unset, .unset, .unset, .unset, .unset, .unset, .unset, .unset, .unset, .unset, .unset, .unset]) rfl k) ?_
  show OEnds p.tables e below G (s₁.setTop (mkF m 37 #[.val (.long q1), .second, .val (.long q2), .second, .val (.long q3), .second, .val (.int p4), .val (.long (1000000 : Int64)), .second, .val (.long v1001), .second, .val (.long v1002), .second, .val (.long v1003), .second, .val (.long ((v1001 + v1002) / (1000000 : Int64))), .second, .unset, .unset, .unset, .unset, .unset, .unset, .unset, .unset, .unset, .unset, .unset, .unset, .unset, .unset, .unset] []))
  generalize hv_v1004 : ((v1001 + v1002) / (1000000 : Int64)) = v1004
  have hD : OwnD v1001 v1002 v1003 v1004 := by
    have q := own_D q2 q3
    rw [hv_v1001, hv_v1002, hv_v1003, hv_v1004] at q
    exact q
  have rest51_1005 : ∀ (mv : Int32), OEnds p.tables e below G (s₁.setTop (mkF m 51 #[.val (.long q1), .second, .val (.long q2), .second, .val (.long q3), .second, .val (.int p4), .val (.long (1000000 : Int64)), .second, .val (.long v1001), .second, .val (.long v1002), .second, .val (.long v1003), .second, .val (.long v1004), .second, .val (.int mv), .unset, .unset, .unset, .unset, .unset, .unset, .unset, .unset, .unset, .unset, .unset, .unset, .unset, .unset] [])) := by
    intro mv
    have rest65_1006 : ∀ (ef : Int32), OEnds p.tables e below G (s₁.setTop (mkF m 65 #[.val (.long q1), .second, .val (.long q2), .second, .val (.long q3), .second, .val (.int p4), .val (.long (1000000 : Int64)), .second, .val (.long v1001), .second, .val (.long v1002), .second, .val (.long v1003), .second, .val (.long v1004), .second, .val (.int mv), .val (.int ef), .unset, .unset, .unset, .unset, .unset, .unset, .unset, .unset, .unset, .unset, .unset, .unset, .unset] [])) := by
      intro ef
      show OEnds p.tables e below G (s₁.setTop (mkF m 65 #[.val (.long q1), .second, .val (.long q2), .second, .val (.long q3), .second, .val (.int p4), .val (.long (1000000 : Int64)), .second, .val (.long v1001), .second, .val (.long v1002), .second, .val (.long v1003), .second, .val (.long v1004), .second, .val (.int mv), .val (.int ef), .unset, .unset, .unset, .unset, .unset, .unset, .unset, .unset, .unset, .unset, .unset, .unset, .unset] []))
      obtain ⟨T1007, h1007, X1007, e1007, E1007, A1007, D1007, -, st1007⟩ := newO X0 hx hZ hown (hw _ (List.mem_of_getElem? (i := 2) rfl)) (hw _ (List.mem_of_getElem? (i := 3) rfl)) (hw _ (List.mem_of_getElem? (i := 4) rfl)) e0 (g := (mkF m 65 #[.val (.long q1), .second, .val (.long q2), .second, .val (.long q3), .second, .val (.int p4), .val (.long (1000000 : Int64)), .second, .val (.long v1001), .second, .val (.long v1002), .second, .val (.long v1003), .second, .val (.long v1004), .second, .val (.int mv), .val (.int ef), .unset, .unset, .unset, .unset, .unset, .unset, .unset, .unset, .unset, .unset, .unset, .unset, .unset] [])) rfl (hb hby at_65) (by decide) (by decide)
      obtain ⟨b1007, g1007⟩ : ∃ z, z = h0.size := ⟨_, rfl⟩
      rw [← g1007] at A1007 D1007 st1007
      refine OEnds.st st1007 ?_
      clear st1007
      have ge_b1007 : n0 ≤ b1007 := Nat.le_trans Z0 (Nat.le_of_eq g1007.symm)
      have sz_b1007 : h0.size ≤ b1007 := Nat.le_trans KK0.1 (Nat.le_of_eq g1007.symm)
      have f1008 : Sta Z h1007 "com/example/marshalyard/marshalyard/proxy/MovingTries" "WINDOW_NANOS" "J" (.long (1000000 : Int64)) := Sw.ext E1007
      have KK1007 : Keep h0 h1007 [] := KK0.ext E1007
      have Z1007 := Nat.le_trans Z0 E1007.1
      have ex_b1007 := A1007
      have f1009 : Fld Z h1007 b1007 "com/example/marshalyard/marshalyard/proxy/MovingTries" "windowStart" "J" (.long (0 : Int64)) := D1007 (Or.inl (hw _ (List.mem_of_getElem? (i := 12) rfl))) (ty := .long) (by decide)
      have f1010 : Fld Z h1007 b1007 "com/example/marshalyard/marshalyard/proxy/MovingTries" "window" "J" (.long (0 : Int64)) := D1007 (Or.inl (hw _ (List.mem_of_getElem? (i := 40) rfl))) (ty := .long) (by decide)
      have f1011 : Fld Z h1007 b1007 "com/example/marshalyard/marshalyard/proxy/MovingTries" "movedNow" "I" (.int (0 : Int32)) := D1007 (Or.inl (hw _ (List.mem_of_getElem? (i := 44) rfl))) (ty := .int) (by decide)
      have f1012 : Fld Z h1007 b1007 "com/example/marshalyard/marshalyard/proxy/MovingTries" "movedBefore" "I" (.int (0 : Int32)) := D1007 (Or.inl (hw _ (List.mem_of_getElem? (i := 59) rfl))) (ty := .int) (by decide)
      show OEnds p.tables e below G (T1007.setTop (mkF m 68 #[.val (.long q1), .second, .val (.long q2), .second, .val (.long q3), .second, .val (.int p4), .val (.long (1000000 : Int64)), .second, .val (.long v1001), .second, .val (.long v1002), .second, .val (.long v1003), .second, .val (.long v1004), .second, .val (.int mv), .val (.int ef), .unset, .unset, .unset, .unset, .unset, .unset, .unset, .unset, .unset, .unset, .unset, .unset, .unset] [(.ref b1007)]))
      refine OEnds.st (fun _ k => XS.dup X1007.here hx rfl (hb hby at_68) rfl rfl k) ?_
      show OEnds p.tables e below G (T1007.setTop (mkF m 69 #[.val (.long q1), .second, .val (.long q2), .second, .val (.long q3), .second, .val (.int p4), .val (.long (1000000 : Int64)), .second, .val (.long v1001), .second, .val (.long v1002), .second, .val (.long v1003), .second, .val (.long v1004), .second, .val (.int mv), .val (.int ef), .unset, .unset, .unset, .unset, .unset, .unset, .unset, .unset, .unset, .unset, .unset, .unset, .unset] [(.ref b1007), (.ref b1007)]))
      refine OEnds.st (fun _ k => XS.lloadN X1007.here hx rfl (hb hby at_69) rfl k) ?_
      show OEnds p.tables e below G (T1007.setTop (mkF m 70 #[.val (.long q1), .second, .val (.long q2), .second, .val (.long q3), .second, .val (.int p4), .val (.long (1000000 : Int64)), .second, .val (.long v1001), .second, .val (.long v1002), .second, .val (.long v1003), .second, .val (.long v1004), .second, .val (.int mv), .val (.int ef), .unset, .unset, .unset, .unset, .unset, .unset, .unset, .unset, .unset, .unset, .unset, .unset, .unset] [(.long q1), (.ref b1007), (.ref b1007)]))
      obtain ⟨_, _, ⟨T1013, L1013, k1013c, n1013c⟩, -, X1013, ⟨Lc1013, hQ1013, l1013, y1013, z1013⟩, st1013⟩ := X1007.specialBack hx (y := (⟨"com/example/marshalyard/marshalyard/proxy/MovingTries", "<init>", "(J)V"⟩ : MethodName)) rfl hown (mvT hZ (hw _ (List.mem_of_getElem? (i := 5) rfl))) (mvT hZ (hw _ (List.mem_of_getElem? (i := 6) rfl))) (mvT hZ (hw _ (List.mem_of_getElem? (i := 7) rfl))) (by decide) (backOf (W := 1) (rm1 l Z a0 hw [] b1007 q1 h1007 n0 Z1007 ex_b1007 f1009 f1010 f1011 f1012 ge_b1007) hZ (hw _ (List.mem_of_getElem? (i := 7) rfl)) (hw _ (List.mem_of_getElem? (i := 4) rfl)) (by decide) (by decide)) (g := (mkF m 70 #[.val (.long q1), .second, .val (.long q2), .second, .val (.long q3), .second, .val (.int p4), .val (.long (1000000 : Int64)), .second, .val (.long v1001), .second, .val (.long v1002), .second, .val (.long v1003), .second, .val (.long v1004), .second, .val (.int mv), .val (.int ef), .unset, .unset, .unset, .unset, .unset, .unset, .unset, .unset, .unset, .unset, .unset, .unset, .unset] [(.long q1), (.ref b1007), (.ref b1007)])) rfl (by rw [hml]; rfl) (Steps.refl _) (a := b1007) (argsL := [(.long q1)]) (rest := [(.ref b1007)]) (lenOf pd_2 rfl) rfl (by show 2 * 0 + _ ≤ _; exact Nat.le_of_eq rfl) (hb hby at_70) (fun _ _ => ⟨rfl, e1007, (by decide : 0 + 1 + 0 ≤ _), (by decide : 0 + 4 + 0 ≤ _)⟩)
      dsimp only [Pt.U, Pt.locs, Pt.cells, Pt.slots] at X1013 l1013 y1013 z1013 st1013 hQ1013
      subst l1013 y1013 z1013
      obtain ⟨rfl, N1013q, p1014, p1015, p1016, p1017, p1018, p1019⟩ := hQ1013
      have N1013 := Fr.app N0 N1013q
      refine OEnds.st (fun _ k => st1013.trans k) ?_
      clear st1013
      have f1020 : Sta Z T1013.heap "com/example/marshalyard/marshalyard/proxy/MovingTries" "WINDOW_NANOS" "J" (.long (1000000 : Int64)) := own_Sta_keep f1008 p1014 (fun x hx => by cases List.mem_singleton.mp hx; exact own_exa_ns ex_b1007)
      have f1021 : Exa Z T1013.heap b1007 "com/example/marshalyard/marshalyard/proxy/MovingTries" := ex_b1007.keep p1014
      have KK1013 : Keep h0 T1013.heap [] := KK1007.trans p1014 (fun x hx => by cases List.mem_singleton.mp hx; exact Or.inr sz_b1007)
      have Z1013 := Nat.le_trans Z1007 p1014.1
      show OEnds p.tables e below G (T1013.setTop (mkF m 73 #[.val (.long q1), .second, .val (.long q2), .second, .val (.long q3), .second, .val (.int p4), .val (.long (1000000 : Int64)), .second, .val (.long v1001), .second, .val (.long v1002), .second, .val (.long v1003), .second, .val (.long v1004), .second, .val (.int mv), .val (.int ef), .unset, .unset, .unset, .unset, .unset, .unset, .unset, .unset, .unset, .unset, .unset, .unset, .unset] [(.ref b1007)]))
      refine OEnds.st (fun _ k => XS.astore X1013.here hx rfl (hb hby at_73) rfl rfl (l' := #[.val (.long q1), .second, .val (.long q2), .second, .val (.long q3), .second, .val (.int p4), .val (.long (1000000 : Int64)), .second, .val (.long v1001), .second, .val (.long v1002), .second, .val (.long v1003), .second, .val (.long v1004), .second, .val (.int mv), .val (.int ef), .val (.ref b1007), .unset, .unset, .unset, .unset, .unset, .unset, .unset, .unset, .unset, .unset, .unset, .unset]) rfl k) ?_
      show OEnds p.tables e below G (T1013.setTop (mkF m 75 #[.val (.long q1), .second, .val (.long q2), .second, .val (.long q3), .second, .val (.int p4), .val (.long (1000000 : Int64)), .second, .val (.long v1001), .second, .val (.long v1002), .second, .val (.long v1003), .second, .val (.long v1004), .second, .val (.int mv), .val (.int ef), .val (.ref b1007), .unset, .unset, .unset, .unset, .unset, .unset, .unset, .unset, .unset, .unset, .unset, .unset] []))
      refine OEnds.st (fun _ k => XS.aload X1013.here hx rfl (hb hby at_75) rfl rfl k) ?_
      show OEnds p.tables e below G (T1013.setTop (mkF m 77 #[.val (.long q1), .second, .val (.long q2), .second, .val (.long q3), .second, .val (.int p4), .val (.long (1000000 : Int64)), .second, .val (.long v1001), .second, .val (.long v1002), .second, .val (.long v1003), .second, .val (.long v1004), .second, .val (.int mv), .val (.int ef), .val (.ref b1007), .unset, .unset, .unset, .unset, .unset, .unset, .unset, .unset, .unset, .unset, .unset, .unset] [(.ref b1007)]))
      obtain ⟨cq1026, kq1026, q1026a, q1026b, q1026c⟩ := isOf hZ rfl p1015
      obtain ⟨_, _, ⟨T1026, L1026, k1026c, n1026c⟩, -, X1026, ⟨Lc1026, hQ1026, l1026, y1026, z1026⟩, st1026⟩ := X1013.virtualBack hx (y := (⟨"com/example/marshalyard/marshalyard/proxy/MovingTries", "flight", "()Lcom/example/marshalyard/marshalyard/proxy/MovingTries$Flight;"⟩ : MethodName)) (z := (⟨"com/example/marshalyard/marshalyard/proxy/MovingTries", "flight", "()Lcom/example/marshalyard/marshalyard/proxy/MovingTries$Flight;"⟩ : MethodName)) hown (mvT hZ (hw _ (List.mem_of_getElem? (i := 13) rfl))) (mvT hZ (hw _ (List.mem_of_getElem? (i := 14) rfl))) (notFace_of_selects (args := #[]) (mvT hZ (hw _ (List.mem_of_getElem? (i := 16) rfl)))) (mvT hZ (hw _ (List.mem_of_getElem? (i := 16) rfl))) (mvT hZ (hw _ (List.mem_of_getElem? (i := 15) rfl))) (by decide) (backOf (W := 0) (rm3 l Z a0 hw [] b1007 T1013.heap n0 Z1013 ) hZ (hw _ (List.mem_of_getElem? (i := 17) rfl)) (hw _ (List.mem_of_getElem? (i := 4) rfl)) (by decide) (by decide)) q1026a q1026c (g := (mkF m 77 #[.val (.long q1), .second, .val (.long q2), .second, .val (.long q3), .second, .val (.int p4), .val (.long (1000000 : Int64)), .second, .val (.long v1001), .second, .val (.long v1002), .second, .val (.long v1003), .second, .val (.long v1004), .second, .val (.int mv), .val (.int ef), .val (.ref b1007), .unset, .unset, .unset, .unset, .unset, .unset, .unset, .unset, .unset, .unset, .unset, .unset] [(.ref b1007)])) rfl (by rw [hml]; rfl) (Steps.refl _) (argsL := []) (rest := []) (lenOf pd_3 rfl) rfl (by show 2 * 0 + _ ≤ _; exact Nat.le_of_eq rfl) (hb hby at_77) (fun _ _ => ⟨rfl, rfl, (by decide : 0 + 1 + 0 + 1 ≤ _), (by decide : 0 + 4 + 0 + 3 ≤ _)⟩)
      dsimp only [Pt.U, Pt.locs, Pt.cells, Pt.slots] at X1026 l1026 y1026 z1026 st1026 hQ1026
      subst l1026 y1026 z1026
      obtain ⟨b_1026, rfl, N1026q, p1027, p1028, p1029, p1030, p1031, p1032⟩ := hQ1026
      have N1026 := Fr.app N1013 N1026q
      refine OEnds.st (fun _ k => st1026.trans k) ?_
      clear st1026
      have ne1033 : b1007 ≠ b_1026 := Nat.ne_of_lt (Nat.lt_of_lt_of_le (p1015).lt p1028)
      have sz_b_1026 : h0.size ≤ b_1026 := Nat.le_trans KK1013.1 p1028
      have ge_b_1026 : n0 ≤ b_1026 := Nat.le_trans Z1013 p1028
      have f1034 : Sta Z T1026.heap "com/example/marshalyard/marshalyard/proxy/MovingTries" "WINDOW_NANOS" "J" (.long (1000000 : Int64)) := own_Sta_keep f1020 p1027 (fun x hx => absurd hx List.not_mem_nil)
      have f1035 : Exa Z T1026.heap b1007 "com/example/marshalyard/marshalyard/proxy/MovingTries" := p1015.keep p1027
      have f1036 : Fld Z T1026.heap b1007 "com/example/marshalyard/marshalyard/proxy/MovingTries" "windowStart" "J" (.long q1) := p1016.keep p1027 (List.not_mem_nil)
      have f1037 : Fld Z T1026.heap b1007 "com/example/marshalyard/marshalyard/proxy/MovingTries" "window" "J" (.long (0 : Int64)) := p1017.keep p1027 (List.not_mem_nil)
      have f1038 : Fld Z T1026.heap b1007 "com/example/marshalyard/marshalyard/proxy/MovingTries" "movedNow" "I" (.int (0 : Int32)) := p1018.keep p1027 (List.not_mem_nil)
      have f1039 : Fld Z T1026.heap b1007 "com/example/marshalyard/marshalyard/proxy/MovingTries" "movedBefore" "I" (.int (0 : Int32)) := p1019.keep p1027 (List.not_mem_nil)
      have KK1026 : Keep h0 T1026.heap [] := KK1013.trans p1027 (fun x hx => absurd hx List.not_mem_nil)
      have Z1026 := Nat.le_trans Z1013 p1027.1
      show OEnds p.tables e below G (T1026.setTop (mkF m 80 #[.val (.long q1), .second, .val (.long q2), .second, .val (.long q3), .second, .val (.int p4), .val (.long (1000000 : Int64)), .second, .val (.long v1001), .second, .val (.long v1002), .second, .val (.long v1003), .second, .val (.long v1004), .second, .val (.int mv), .val (.int ef), .val (.ref b1007), .unset, .unset, .unset, .unset, .unset, .unset, .unset, .unset, .unset, .unset, .unset, .unset] [(.ref b_1026)]))
      refine OEnds.st (fun _ k => XS.astore X1026.here hx rfl (hb hby at_80) rfl rfl (l' := #[.val (.long q1), .second, .val (.long q2), .second, .val (.long q3), .second, .val (.int p4), .val (.long (1000000 : Int64)), .second, .val (.long v1001), .second, .val (.long v1002), .second, .val (.long v1003), .second, .val (.long v1004), .second, .val (.int mv), .val (.int ef), .val (.ref b1007), .val (.ref b_1026), .unset, .unset, .unset, .unset, .unset, .unset, .unset, .unset, .unset, .unset, .unset]) rfl k) ?_
      show OEnds p.tables e below G (T1026.setTop (mkF m 82 #[.val (.long q1), .second, .val (.long q2), .second, .val (.long q3), .second, .val (.int p4), .val (.long (1000000 : Int64)), .second, .val (.long v1001), .second, .val (.long v1002), .second, .val (.long v1003), .second, .val (.long v1004), .second, .val (.int mv), .val (.int ef), .val (.ref b1007), .val (.ref b_1026), .unset, .unset, .unset, .unset, .unset, .unset, .unset, .unset, .unset, .unset, .unset] []))
      refine OEnds.st (fun _ k => XS.aload X1026.here hx rfl (hb hby at_82) rfl rfl k) ?_
      show OEnds p.tables e below G (T1026.setTop (mkF m 84 #[.val (.long q1), .second, .val (.long q2), .second, .val (.long q3), .second, .val (.int p4), .val (.long (1000000 : Int64)), .second, .val (.long v1001), .second, .val (.long v1002), .second, .val (.long v1003), .second, .val (.long v1004), .second, .val (.int mv), .val (.int ef), .val (.ref b1007), .val (.ref b_1026), .unset, .unset, .unset, .unset, .unset, .unset, .unset, .unset, .unset, .unset, .unset] [(.ref b1007)]))
      obtain ⟨cq1040, kq1040, q1040a, q1040b, q1040c⟩ := isOf hZ rfl f1035
      obtain ⟨_, _, ⟨T1040, L1040, k1040c, n1040c⟩, -, X1040, ⟨Lc1040, hQ1040, l1040, y1040, z1040⟩, st1040⟩ := X1026.virtualBack hx (y := (⟨"com/example/marshalyard/marshalyard/proxy/MovingTries", "flight", "()Lcom/example/marshalyard/marshalyard/proxy/MovingTries$Flight;"⟩ : MethodName)) (z := (⟨"com/example/marshalyard/marshalyard/proxy/MovingTries", "flight", "()Lcom/example/marshalyard/marshalyard/proxy/MovingTries$Flight;"⟩ : MethodName)) hown (mvT hZ (hw _ (List.mem_of_getElem? (i := 13) rfl))) (mvT hZ (hw _ (List.mem_of_getElem? (i := 14) rfl))) (notFace_of_selects (args := #[]) (mvT hZ (hw _ (List.mem_of_getElem? (i := 16) rfl)))) (mvT hZ (hw _ (List.mem_of_getElem? (i := 16) rfl))) (mvT hZ (hw _ (List.mem_of_getElem? (i := 15) rfl))) (by decide) (backOf (W := 0) (rm3 l Z a0 hw [] b1007 T1026.heap n0 Z1026 ) hZ (hw _ (List.mem_of_getElem? (i := 17) rfl)) (hw _ (List.mem_of_getElem? (i := 4) rfl)) (by decide) (by decide)) q1040a q1040c (g := (mkF m 84 #[.val (.long q1), .second, .val (.long q2), .second, .val (.long q3), .second, .val (.int p4), .val (.long (1000000 : Int64)), .second, .val (.long v1001), .second, .val (.long v1002), .second, .val (.long v1003), .second, .val (.long v1004), .second, .val (.int mv), .val (.int ef), .val (.ref b1007), .val (.ref b_1026), .unset, .unset, .unset, .unset, .unset, .unset, .unset, .unset, .unset, .unset, .unset] [(.ref b1007)])) rfl (by rw [hml]; rfl) (Steps.refl _) (argsL := []) (rest := []) (lenOf pd_3 rfl) rfl (by show 2 * 0 + _ ≤ _; exact Nat.le_of_eq rfl) (hb hby at_84) (fun _ _ => ⟨rfl, rfl, (by decide : 0 + 1 + 0 + 1 + 1 ≤ _), (by decide : 0 + 4 + 0 + 3 + 3 ≤ _)⟩)
      dsimp only [Pt.U, Pt.locs, Pt.cells, Pt.slots] at X1040 l1040 y1040 z1040 st1040 hQ1040
      subst l1040 y1040 z1040
      obtain ⟨b_1040, rfl, N1040q, p1041, p1042, p1043, p1044, p1045, p1046⟩ := hQ1040
      have N1040 := Fr.app N1026 N1040q
      refine OEnds.st (fun _ k => st1040.trans k) ?_
      clear st1040
      have ne1047 : b1007 ≠ b_1040 := Nat.ne_of_lt (Nat.lt_of_lt_of_le (f1035).lt p1042)
      have ne1048 : b_1026 ≠ b_1040 := Nat.ne_of_lt (Nat.lt_of_lt_of_le (p1029).lt p1042)
      have sz_b_1040 : h0.size ≤ b_1040 := Nat.le_trans KK1026.1 p1042
      have ge_b_1040 : n0 ≤ b_1040 := Nat.le_trans Z1026 p1042
      have f1049 : Sta Z T1040.heap "com/example/marshalyard/marshalyard/proxy/MovingTries" "WINDOW_NANOS" "J" (.long (1000000 : Int64)) := own_Sta_keep f1034 p1041 (fun x hx => absurd hx List.not_mem_nil)
      have f1050 : Exa Z T1040.heap b1007 "com/example/marshalyard/marshalyard/proxy/MovingTries" := f1035.keep p1041
      have f1051 : Fld Z T1040.heap b1007 "com/example/marshalyard/marshalyard/proxy/MovingTries" "windowStart" "J" (.long q1) := f1036.keep p1041 (List.not_mem_nil)
      have f1052 : Fld Z T1040.heap b1007 "com/example/marshalyard/marshalyard/proxy/MovingTries" "window" "J" (.long (0 : Int64)) := f1037.keep p1041 (List.not_mem_nil)
      have f1053 : Fld Z T1040.heap b1007 "com/example/marshalyard/marshalyard/proxy/MovingTries" "movedNow" "I" (.int (0 : Int32)) := f1038.keep p1041 (List.not_mem_nil)
      have f1054 : Fld Z T1040.heap b1007 "com/example/marshalyard/marshalyard/proxy/MovingTries" "movedBefore" "I" (.int (0 : Int32)) := f1039.keep p1041 (List.not_mem_nil)
      have f1055 : Exa Z T1040.heap b_1026 "com/example/marshalyard/marshalyard/proxy/MovingTries$Flight" := p1029.keep p1041
      have f1056 : Fld Z T1040.heap b_1026 "com/example/marshalyard/marshalyard/proxy/MovingTries$Flight" "this$0" "Lcom/example/marshalyard/marshalyard/proxy/MovingTries;" (.ref b1007) := p1030.keep p1041 (List.not_mem_nil)
      have f1057 : Fld Z T1040.heap b_1026 "com/example/marshalyard/marshalyard/proxy/MovingTries$Flight" "inFlight" "Z" (.int (0 : Int32)) := p1031.keep p1041 (List.not_mem_nil)
      have f1058 : Fld Z T1040.heap b_1026 "com/example/marshalyard/marshalyard/proxy/MovingTries$Flight" "window" "J" (.long (0 : Int64)) := p1032.keep p1041 (List.not_mem_nil)
      have KK1040 : Keep h0 T1040.heap [] := KK1026.trans p1041 (fun x hx => absurd hx List.not_mem_nil)
      have Z1040 := Nat.le_trans Z1026 p1041.1
      show OEnds p.tables e below G (T1040.setTop (mkF m 87 #[.val (.long q1), .second, .val (.long q2), .second, .val (.long q3), .second, .val (.int p4), .val (.long (1000000 : Int64)), .second, .val (.long v1001), .second, .val (.long v1002), .second, .val (.long v1003), .second, .val (.long v1004), .second, .val (.int mv), .val (.int ef), .val (.ref b1007), .val (.ref b_1026), .unset, .unset, .unset, .unset, .unset, .unset, .unset, .unset, .unset, .unset, .unset] [(.ref b_1040)]))
      refine OEnds.st (fun _ k => XS.astore X1040.here hx rfl (hb hby at_87) rfl rfl (l' := #[.val (.long q1), .second, .val (.long q2), .second, .val (.long q3), .second, .val (.int p4), .val (.long (1000000 : Int64)), .second, .val (.long v1001), .second, .val (.long v1002), .second, .val (.long v1003), .second, .val (.long v1004), .second, .val (.int mv), .val (.int ef), .val (.ref b1007), .val (.ref b_1026), .val (.ref b_1040), .unset, .unset, .unset, .unset, .unset, .unset, .unset, .unset, .unset, .unset]) rfl k) ?_
      show OEnds p.tables e below G (T1040.setTop (mkF m 89 #[.val (.long q1), .second, .val (.long q2), .second, .val (.long q3), .second, .val (.int p4), .val (.long (1000000 : Int64)), .second, .val (.long v1001), .second, .val (.long v1002), .second, .val (.long v1003), .second, .val (.long v1004), .second, .val (.int mv), .val (.int ef), .val (.ref b1007), .val (.ref b_1026), .val (.ref b_1040), .unset, .unset, .unset, .unset, .unset, .unset, .unset, .unset, .unset, .unset] []))
      refine OEnds.st (fun _ k => XS.aload X1040.here hx rfl (hb hby at_89) rfl rfl k) ?_
      show OEnds p.tables e below G (T1040.setTop (mkF m 91 #[.val (.long q1), .second, .val (.long q2), .second, .val (.long q3), .second, .val (.int p4), .val (.long (1000000 : Int64)), .second, .val (.long v1001), .second, .val (.long v1002), .second, .val (.long v1003), .second, .val (.long v1004), .second, .val (.int mv), .val (.int ef), .val (.ref b1007), .val (.ref b_1026), .val (.ref b_1040), .unset, .unset, .unset, .unset, .unset, .unset, .unset, .unset, .unset, .unset] [(.ref b_1026)]))
      obtain ⟨cq1059, kq1059, q1059a, q1059b, q1059c⟩ := isOf hZ rfl f1055
      obtain ⟨_, _, ⟨T1059, L1059, k1059c, n1059c⟩, -, X1059, ⟨Lc1059, hQ1059, l1059, y1059, z1059⟩, st1059⟩ := X1040.virtualBack hx (y := (⟨"com/example/marshalyard/marshalyard/proxy/MovingTries$Flight", "begin", "()V"⟩ : MethodName)) (z := (⟨"com/example/marshalyard/marshalyard/proxy/MovingTries$Flight", "begin", "()V"⟩ : MethodName)) hown (mvT hZ (hw _ (List.mem_of_getElem? (i := 27) rfl))) (mvT hZ (hw _ (List.mem_of_getElem? (i := 28) rfl))) (notFace_of_selects (args := #[]) (mvT hZ (hw _ (List.mem_of_getElem? (i := 30) rfl)))) (mvT hZ (hw _ (List.mem_of_getElem? (i := 30) rfl))) (mvT hZ (hw _ (List.mem_of_getElem? (i := 29) rfl))) (by decide) (backOf (W := 0) (rmbeg0 l Z a0 hw [] b_1026 b1007 (0 : Int64) q1 (0 : Int64) (0 : Int32) (0 : Int32) T1040.heap n0 Z1040 f1055 f1056 f1057 f1058 f1050 f1051 f1052 f1053 f1054 ge_b_1026 ge_b1007 (Ne.symm ne1033)) hZ (hw _ (List.mem_of_getElem? (i := 31) rfl)) (hw _ (List.mem_of_getElem? (i := 20) rfl)) (by decide) (by decide)) q1059a q1059c (g := (mkF m 91 #[.val (.long q1), .second, .val (.long q2), .second, .val (.long q3), .second, .val (.int p4), .val (.long (1000000 : Int64)), .second, .val (.long v1001), .second, .val (.long v1002), .second, .val (.long v1003), .second, .val (.long v1004), .second, .val (.int mv), .val (.int ef), .val (.ref b1007), .val (.ref b_1026), .val (.ref b_1040), .unset, .unset, .unset, .unset, .unset, .unset, .unset, .unset, .unset, .unset] [(.ref b_1026)])) rfl (by rw [hml]; rfl) (Steps.refl _) (argsL := []) (rest := []) (lenOf pd_1 rfl) rfl (by show 2 * 0 + _ ≤ _; exact Nat.le_of_eq rfl) (hb hby at_91) (fun _ _ => ⟨rfl, rfl, (by decide : 0 + 1 + 0 + 1 + 1 + 0 ≤ _), (by decide : 0 + 4 + 0 + 3 + 3 + 0 ≤ _)⟩)
      dsimp only [Pt.U, Pt.locs, Pt.cells, Pt.slots] at X1059 l1059 y1059 z1059 st1059 hQ1059
      subst l1059 y1059 z1059
      obtain ⟨rfl, N1059q, p1060, p1061, p1062, p1063, p1064, p1065, p1066, p1067, p1068, p1069⟩ := hQ1059
      have N1059 := Fr.app N1040 N1059q
      refine OEnds.st (fun _ k => st1059.trans k) ?_
      clear st1059
      have f1070 : Sta Z T1059.heap "com/example/marshalyard/marshalyard/proxy/MovingTries" "WINDOW_NANOS" "J" (.long (1000000 : Int64)) := own_Sta_keep f1049 p1060 (fun x hx => by rcases List.mem_cons.mp hx with rfl | hx; exact own_exa_ns f1055; cases List.mem_singleton.mp hx; exact own_exa_ns f1050)
      have f1071 : Exa Z T1059.heap b1007 "com/example/marshalyard/marshalyard/proxy/MovingTries" := f1050.keep p1060
      have f1076 : Exa Z T1059.heap b_1026 "com/example/marshalyard/marshalyard/proxy/MovingTries$Flight" := f1055.keep p1060
      have f1080 : Exa Z T1059.heap b_1040 "com/example/marshalyard/marshalyard/proxy/MovingTries$Flight" := p1043.keep p1060
      have f1081 : Fld Z T1059.heap b_1040 "com/example/marshalyard/marshalyard/proxy/MovingTries$Flight" "this$0" "Lcom/example/marshalyard/marshalyard/proxy/MovingTries;" (.ref b1007) := p1044.keep p1060 (by simp only [List.mem_cons, List.not_mem_nil, or_false, not_or]; exact ⟨(Ne.symm ne1048), (Ne.symm ne1047)⟩)
      have f1082 : Fld Z T1059.heap b_1040 "com/example/marshalyard/marshalyard/proxy/MovingTries$Flight" "inFlight" "Z" (.int (0 : Int32)) := p1045.keep p1060 (by simp only [List.mem_cons, List.not_mem_nil, or_false, not_or]; exact ⟨(Ne.symm ne1048), (Ne.symm ne1047)⟩)
      have f1083 : Fld Z T1059.heap b_1040 "com/example/marshalyard/marshalyard/proxy/MovingTries$Flight" "window" "J" (.long (0 : Int64)) := p1046.keep p1060 (by simp only [List.mem_cons, List.not_mem_nil, or_false, not_or]; exact ⟨(Ne.symm ne1048), (Ne.symm ne1047)⟩)
      have KK1059 : Keep h0 T1059.heap [] := KK1040.trans p1060 (fun x hx => by rcases List.mem_cons.mp hx with rfl | hx; exact Or.inr sz_b_1026; cases List.mem_singleton.mp hx; exact Or.inr sz_b1007)
      have Z1059 := Nat.le_trans Z1040 p1060.1
      show OEnds p.tables e below G (T1059.setTop (mkF m 94 #[.val (.long q1), .second, .val (.long q2), .second, .val (.long q3), .second, .val (.int p4), .val (.long (1000000 : Int64)), .second, .val (.long v1001), .second, .val (.long v1002), .second, .val (.long v1003), .second, .val (.long v1004), .second, .val (.int mv), .val (.int ef), .val (.ref b1007), .val (.ref b_1026), .val (.ref b_1040), .unset, .unset, .unset, .unset, .unset, .unset, .unset, .unset, .unset, .unset] []))
      refine OEnds.st (fun _ k => XS.aload X1059.here hx rfl (hb hby at_94) rfl rfl k) ?_
      show OEnds p.tables e below G (T1059.setTop (mkF m 96 #[.val (.long q1), .second, .val (.long q2), .second, .val (.long q3), .second, .val (.int p4), .val (.long (1000000 : Int64)), .second, .val (.long v1001), .second, .val (.long v1002), .second, .val (.long v1003), .second, .val (.long v1004), .second, .val (.int mv), .val (.int ef), .val (.ref b1007), .val (.ref b_1026), .val (.ref b_1040), .unset, .unset, .unset, .unset, .unset, .unset, .unset, .unset, .unset, .unset] [(.ref b1007)]))
      refine OEnds.st (fun _ k => XS.lloadN X1059.here hx rfl (hb hby at_96) rfl k) ?_
      show OEnds p.tables e below G (T1059.setTop (mkF m 97 #[.val (.long q1), .second, .val (.long q2), .second, .val (.long q3), .second, .val (.int p4), .val (.long (1000000 : Int64)), .second, .val (.long v1001), .second, .val (.long v1002), .second, .val (.long v1003), .second, .val (.long v1004), .second, .val (.int mv), .val (.int ef), .val (.ref b1007), .val (.ref b_1026), .val (.ref b_1040), .unset, .unset, .unset, .unset, .unset, .unset, .unset, .unset, .unset, .unset] [(.long q1), (.ref b1007)]))
      refine OEnds.st (fun _ k => XS.lload X1059.here hx rfl (hb hby at_97) rfl k) ?_
      show OEnds p.tables e below G (T1059.setTop (mkF m 99 #[.val (.long q1), .second, .val (.long q2), .second, .val (.long q3), .second, .val (.int p4), .val (.long (1000000 : Int64)), .second, .val (.long v1001), .second, .val (.long v1002), .second, .val (.long v1003), .second, .val (.long v1004), .second, .val (.int mv), .val (.int ef), .val (.ref b1007), .val (.ref b_1026), .val (.ref b_1040), .unset, .unset, .unset, .unset, .unset, .unset, .unset, .unset, .unset, .unset] [(.long v1001), (.long q1), (.ref b1007)]))
      refine OEnds.st (fun _ k => XS.ladd X1059.here hx rfl (hb hby at_99) rfl k) ?_
      show OEnds p.tables e below G (T1059.setTop (mkF m 100 #[.val (.long q1), .second, .val (.long q2), .second, .val (.long q3), .second, .val (.int p4), .val (.long (1000000 : Int64)), .second, .val (.long v1001), .second, .val (.long v1002), .second, .val (.long v1003), .second, .val (.long v1004), .second, .val (.int mv), .val (.int ef), .val (.ref b1007), .val (.ref b_1026), .val (.ref b_1040), .unset, .unset, .unset, .unset, .unset, .unset, .unset, .unset, .unset, .unset] [(.long (q1 + v1001)), (.ref b1007)]))
      obtain ⟨cq1084, kq1084, q1084a, q1084b, q1084c⟩ := isOf hZ rfl p1065
      obtain ⟨_, _, ⟨T1084, L1084, k1084c, n1084c⟩, -, X1084, ⟨Lc1084, hQ1084, l1084, y1084, z1084⟩, st1084⟩ := X1059.virtualBack hx (y := (⟨"com/example/marshalyard/marshalyard/proxy/MovingTries", "advance", "(J)V"⟩ : MethodName)) (z := (⟨"com/example/marshalyard/marshalyard/proxy/MovingTries", "advance", "(J)V"⟩ : MethodName)) hown (mvT hZ (hw _ (List.mem_of_getElem? (i := 45) rfl))) (mvT hZ (hw _ (List.mem_of_getElem? (i := 46) rfl))) (notFace_of_selects (args := #[]) (mvT hZ (hw _ (List.mem_of_getElem? (i := 48) rfl)))) (mvT hZ (hw _ (List.mem_of_getElem? (i := 48) rfl))) (mvT hZ (hw _ (List.mem_of_getElem? (i := 47) rfl))) (by decide) (backOf (W := 0) (rm7 l Z a0 hw [] b1007 (q1 + v1001) q1 (0 : Int64) ((0 : Int32) + (1 : Int32)) (0 : Int32) T1059.heap n0 Z1059 p1065 p1066 p1067 p1068 p1069 f1070 ge_b1007) hZ (hw _ (List.mem_of_getElem? (i := 49) rfl)) (hw _ (List.mem_of_getElem? (i := 4) rfl)) (by decide) (by decide)) q1084a q1084c (g := (mkF m 100 #[.val (.long q1), .second, .val (.long q2), .second, .val (.long q3), .second, .val (.int p4), .val (.long (1000000 : Int64)), .second, .val (.long v1001), .second, .val (.long v1002), .second, .val (.long v1003), .second, .val (.long v1004), .second, .val (.int mv), .val (.int ef), .val (.ref b1007), .val (.ref b_1026), .val (.ref b_1040), .unset, .unset, .unset, .unset, .unset, .unset, .unset, .unset, .unset, .unset] [(.long (q1 + v1001)), (.ref b1007)])) rfl (by rw [hml]; rfl) (Steps.refl _) (argsL := [(.long (q1 + v1001))]) (rest := []) (lenOf pd_2 rfl) rfl (by show 2 * 0 + _ ≤ _; exact Nat.le_of_eq rfl) (hb hby at_100) (fun _ _ => ⟨rfl, rfl, (by decide : 0 + 1 + 0 + 1 + 1 + 0 + 0 ≤ _), (by decide : 0 + 4 + 0 + 3 + 3 + 0 + 0 ≤ _)⟩)
      dsimp only [Pt.U, Pt.locs, Pt.cells, Pt.slots] at X1084 l1084 y1084 z1084 st1084 hQ1084
      subst l1084 y1084 z1084
      obtain ⟨rfl, N1084q, p1085, p1086, p1087, p1088, p1089, p1090⟩ := hQ1084
      have N1084 := Fr.app N1059 N1084q
      refine OEnds.st (fun _ k => st1084.trans k) ?_
      clear st1084
      have f1091 : Sta Z T1084.heap "com/example/marshalyard/marshalyard/proxy/MovingTries" "WINDOW_NANOS" "J" (.long (1000000 : Int64)) := own_Sta_keep f1070 p1085 (fun x hx => by cases List.mem_singleton.mp hx; exact own_exa_ns p1065)
      have f1092 : Exa Z T1084.heap b1007 "com/example/marshalyard/marshalyard/proxy/MovingTries" := p1065.keep p1085
      have f1093 : Exa Z T1084.heap b_1026 "com/example/marshalyard/marshalyard/proxy/MovingTries$Flight" := p1061.keep p1085
      have f1094 : Exa Z T1084.heap b_1040 "com/example/marshalyard/marshalyard/proxy/MovingTries$Flight" := f1080.keep p1085
      have f1095 : Fld Z T1084.heap b_1040 "com/example/marshalyard/marshalyard/proxy/MovingTries$Flight" "this$0" "Lcom/example/marshalyard/marshalyard/proxy/MovingTries;" (.ref b1007) := f1081.keep p1085 (by simp only [List.mem_cons, List.not_mem_nil, or_false, not_or]; exact (Ne.symm ne1047))
      have f1096 : Fld Z T1084.heap b_1040 "com/example/marshalyard/marshalyard/proxy/MovingTries$Flight" "inFlight" "Z" (.int (0 : Int32)) := f1082.keep p1085 (by simp only [List.mem_cons, List.not_mem_nil, or_false, not_or]; exact (Ne.symm ne1047))
      have f1097 : Fld Z T1084.heap b_1040 "com/example/marshalyard/marshalyard/proxy/MovingTries$Flight" "window" "J" (.long (0 : Int64)) := f1083.keep p1085 (by simp only [List.mem_cons, List.not_mem_nil, or_false, not_or]; exact (Ne.symm ne1047))
      have f1098 : Fld Z T1084.heap b_1026 "com/example/marshalyard/marshalyard/proxy/MovingTries$Flight" "this$0" "Lcom/example/marshalyard/marshalyard/proxy/MovingTries;" (.ref b1007) := p1062.keep p1085 (by simp only [List.mem_cons, List.not_mem_nil, or_false, not_or]; exact (Ne.symm ne1033))
      have f1099 : Fld Z T1084.heap b_1026 "com/example/marshalyard/marshalyard/proxy/MovingTries$Flight" "inFlight" "Z" (.int (1 : Int32)) := p1063.keep p1085 (by simp only [List.mem_cons, List.not_mem_nil, or_false, not_or]; exact (Ne.symm ne1033))
      have f1100 : Fld Z T1084.heap b_1026 "com/example/marshalyard/marshalyard/proxy/MovingTries$Flight" "window" "J" (.long (0 : Int64)) := p1064.keep p1085 (by simp only [List.mem_cons, List.not_mem_nil, or_false, not_or]; exact (Ne.symm ne1033))
      have KK1084 : Keep h0 T1084.heap [] := KK1059.trans p1085 (fun x hx => by cases List.mem_singleton.mp hx; exact Or.inr sz_b1007)
      have Z1084 := Nat.le_trans Z1059 p1085.1
      generalize h_ws1 : (own_aS q1 (q1 + v1001)) = ws1 at p1087
      generalize h_wd1 : (own_aW (0 : Int64) q1 (q1 + v1001)) = wd1 at p1088
      generalize h_nn1 : (own_aN ((0 : Int32) + (1 : Int32)) q1 (q1 + v1001)) = nn1 at p1089
      generalize h_bb1 : (own_aB ((0 : Int32) + (1 : Int32)) (0 : Int32) q1 (q1 + v1001)) = bb1 at p1090
      obtain ⟨hs1, hw1, hn1, hb1⟩ := own_A1 hD h_ws1 h_wd1 h_nn1 h_bb1
      have hw1' := hw1.symm
      subst hw1'
      show OEnds p.tables e below G (T1084.setTop (mkF m 103 #[.val (.long q1), .second, .val (.long q2), .second, .val (.long q3), .second, .val (.int p4), .val (.long (1000000 : Int64)), .second, .val (.long v1001), .second, .val (.long v1002), .second, .val (.long v1003), .second, .val (.long v1004), .second, .val (.int mv), .val (.int ef), .val (.ref b1007), .val (.ref b_1026), .val (.ref b_1040), .unset, .unset, .unset, .unset, .unset, .unset, .unset, .unset, .unset, .unset] []))
      refine OEnds.st (fun _ k => XS.aload X1084.here hx rfl (hb hby at_103) rfl rfl k) ?_
      show OEnds p.tables e below G (T1084.setTop (mkF m 105 #[.val (.long q1), .second, .val (.long q2), .second, .val (.long q3), .second, .val (.int p4), .val (.long (1000000 : Int64)), .second, .val (.long v1001), .second, .val (.long v1002), .second, .val (.long v1003), .second, .val (.long v1004), .second, .val (.int mv), .val (.int ef), .val (.ref b1007), .val (.ref b_1026), .val (.ref b_1040), .unset, .unset, .unset, .unset, .unset, .unset, .unset, .unset, .unset, .unset] [(.ref b1007)]))
      obtain ⟨cq1105, kq1105, q1105a, q1105b, q1105c⟩ := isOf hZ rfl p1086
      obtain ⟨_, _, ⟨T1105, L1105, k1105c, n1105c⟩, -, X1105, ⟨Lc1105, hQ1105, l1105, y1105, z1105⟩, st1105⟩ := X1084.virtualBack hx (y := (⟨"com/example/marshalyard/marshalyard/proxy/MovingTries", "count", "()I"⟩ : MethodName)) (z := (⟨"com/example/marshalyard/marshalyard/proxy/MovingTries", "count", "()I"⟩ : MethodName)) hown (mvT hZ (hw _ (List.mem_of_getElem? (i := 52) rfl))) (mvT hZ (hw _ (List.mem_of_getElem? (i := 53) rfl))) (notFace_of_selects (args := #[]) (mvT hZ (hw _ (List.mem_of_getElem? (i := 55) rfl)))) (mvT hZ (hw _ (List.mem_of_getElem? (i := 55) rfl))) (mvT hZ (hw _ (List.mem_of_getElem? (i := 54) rfl))) (by decide) (backOf (W := 0) (rm8 l Z a0 hw [] b1007 nn1 bb1 T1084.heap n0 Z1084 p1089 p1090) hZ (hw _ (List.mem_of_getElem? (i := 56) rfl)) (hw _ (List.mem_of_getElem? (i := 4) rfl)) (by decide) (by decide)) q1105a q1105c (g := (mkF m 105 #[.val (.long q1), .second, .val (.long q2), .second, .val (.long q3), .second, .val (.int p4), .val (.long (1000000 : Int64)), .second, .val (.long v1001), .second, .val (.long v1002), .second, .val (.long v1003), .second, .val (.long v1004), .second, .val (.int mv), .val (.int ef), .val (.ref b1007), .val (.ref b_1026), .val (.ref b_1040), .unset, .unset, .unset, .unset, .unset, .unset, .unset, .unset, .unset, .unset] [(.ref b1007)])) rfl (by rw [hml]; rfl) (Steps.refl _) (argsL := []) (rest := []) (lenOf pd_4 rfl) rfl (by show 2 * 0 + _ ≤ _; exact Nat.le_of_eq rfl) (hb hby at_105) (fun _ _ => ⟨rfl, rfl, (by decide : 0 + 1 + 0 + 1 + 1 + 0 + 0 + 0 ≤ _), (by decide : 0 + 4 + 0 + 3 + 3 + 0 + 0 + 0 ≤ _)⟩)
      dsimp only [Pt.U, Pt.locs, Pt.cells, Pt.slots] at X1105 l1105 y1105 z1105 st1105 hQ1105
      subst l1105 y1105 z1105
      obtain ⟨rfl, N1105q, e1105⟩ := hQ1105
      have N1105 := Fr.app N1084 N1105q
      refine OEnds.st (fun _ k => st1105.trans k) ?_
      clear st1105
      show OEnds p.tables e below G (T1105.setTop (mkF m 108 #[.val (.long q1), .second, .val (.long q2), .second, .val (.long q3), .second, .val (.int p4), .val (.long (1000000 : Int64)), .second, .val (.long v1001), .second, .val (.long v1002), .second, .val (.long v1003), .second, .val (.long v1004), .second, .val (.int mv), .val (.int ef), .val (.ref b1007), .val (.ref b_1026), .val (.ref b_1040), .unset, .unset, .unset, .unset, .unset, .unset, .unset, .unset, .unset, .unset] [(.int (nn1 + bb1))]))
      refine OEnds.st (fun _ k => XS.istore X1105.here hx rfl (hb hby at_108) rfl (l' := #[.val (.long q1), .second, .val (.long q2), .second, .val (.long q3), .second, .val (.int p4), .val (.long (1000000 : Int64)), .second, .val (.long v1001), .second, .val (.long v1002), .second, .val (.long v1003), .second, .val (.long v1004), .second, .val (.int mv), .val (.int ef), .val (.ref b1007), .val (.ref b_1026), .val (.ref b_1040), .val (.int (nn1 + bb1)), .unset, .unset, .unset, .unset, .unset, .unset, .unset, .unset, .unset]) rfl k) ?_
      show OEnds p.tables e below G (T1105.setTop (mkF m 110 #[.val (.long q1), .second, .val (.long q2), .second, .val (.long q3), .second, .val (.int p4), .val (.long (1000000 : Int64)), .second, .val (.long v1001), .second, .val (.long v1002), .second, .val (.long v1003), .second, .val (.long v1004), .second, .val (.int mv), .val (.int ef), .val (.ref b1007), .val (.ref b_1026), .val (.ref b_1040), .val (.int (nn1 + bb1)), .unset, .unset, .unset, .unset, .unset, .unset, .unset, .unset, .unset] []))
      generalize hv_v1106 : (nn1 + bb1) = v1106
      show OEnds p.tables e below G (T1105.setTop (mkF m 110 #[.val (.long q1), .second, .val (.long q2), .second, .val (.long q3), .second, .val (.int p4), .val (.long (1000000 : Int64)), .second, .val (.long v1001), .second, .val (.long v1002), .second, .val (.long v1003), .second, .val (.long v1004), .second, .val (.int mv), .val (.int ef), .val (.ref b1007), .val (.ref b_1026), .val (.ref b_1040), .val (.int v1106), .unset, .unset, .unset, .unset, .unset, .unset, .unset, .unset, .unset] []))
      refine OEnds.st (fun _ k => XS.lconst X1105.here hx rfl (hb hby at_110) k) ?_
      show OEnds p.tables e below G (T1105.setTop (mkF m 111 #[.val (.long q1), .second, .val (.long q2), .second, .val (.long q3), .second, .val (.int p4), .val (.long (1000000 : Int64)), .second, .val (.long v1001), .second, .val (.long v1002), .second, .val (.long v1003), .second, .val (.long v1004), .second, .val (.int mv), .val (.int ef), .val (.ref b1007), .val (.ref b_1026), .val (.ref b_1040), .val (.int v1106), .unset, .unset, .unset, .unset, .unset, .unset, .unset, .unset, .unset] [(.long (0 : Int64))]))
      refine OEnds.st (fun _ k => XS.lload X1105.here hx rfl (hb hby at_111) rfl k) ?_
      show OEnds p.tables e below G (T1105.setTop (mkF m 113 #[.val (.long q1), .second, .val (.long q2), .second, .val (.long q3), .second, .val (.int p4), .val (.long (1000000 : Int64)), .second, .val (.long v1001), .second, .val (.long v1002), .second, .val (.long v1003), .second, .val (.long v1004), .second, .val (.int mv), .val (.int ef), .val (.ref b1007), .val (.ref b_1026), .val (.ref b_1040), .val (.int v1106), .unset, .unset, .unset, .unset, .unset, .unset, .unset, .unset, .unset] [(.long v1003), (.long (0 : Int64))]))
      obtain ⟨_, _, ⟨T1107, L1107, k1107c, n1107c⟩, -, X1107, ⟨Lc1107, hQ1107, l1107, y1107, z1107⟩, st1107⟩ := Jvm.LawKit.callS X1105 hx (y := (⟨"com/example/marshalyard/marshalyard/proxy/MovingTriesAdvancePinLaw", "counted", "(JJ)I"⟩ : MethodName)) hown (mvT hZ (hw _ (List.mem_of_getElem? (i := 60) rfl))) (mvT hZ (hw _ (List.mem_of_getElem? (i := 61) rfl))) (mvT hZ (hw _ (List.mem_of_getElem? (i := 62) rfl))) (mvT hZ (hw _ (List.mem_of_getElem? (i := 63) rfl))) (by decide) (backOf (W := 0) (rm9 l Z a0 hw [] (0 : Int64) v1003 T1084.heap n0 Z1084 ) hZ (hw _ (List.mem_of_getElem? (i := 63) rfl)) (hw _ (List.mem_of_getElem? (i := 62) rfl)) (by decide) (by decide)) (g := (mkF m 113 #[.val (.long q1), .second, .val (.long q2), .second, .val (.long q3), .second, .val (.int p4), .val (.long (1000000 : Int64)), .second, .val (.long v1001), .second, .val (.long v1002), .second, .val (.long v1003), .second, .val (.long v1004), .second, .val (.int mv), .val (.int ef), .val (.ref b1007), .val (.ref b_1026), .val (.ref b_1040), .val (.int v1106), .unset, .unset, .unset, .unset, .unset, .unset, .unset, .unset, .unset] [(.long v1003), (.long (0 : Int64))])) rfl (by rw [hml]; rfl) (argsL := [(.long (0 : Int64)), (.long v1003)]) (rest := []) (lenOf pd_5 rfl) rfl (by show 2 * 0 + _ ≤ _; exact Nat.le_of_eq rfl) (hb hby at_113) (fun _ _ => ⟨rfl, e1105, (by decide : 0 + 1 + 0 + 1 + 1 + 0 + 0 + 0 + 0 ≤ _), (by decide : 0 + 4 + 0 + 3 + 3 + 0 + 0 + 0 + 0 ≤ _)⟩)
      dsimp only [Pt.U, Pt.locs, Pt.cells, Pt.slots] at X1107 l1107 y1107 z1107 st1107 hQ1107
      subst l1107 y1107 z1107
      obtain ⟨rfl, N1107q, e1107⟩ := hQ1107
      have N1107 := Fr.app N1105 N1107q
      refine OEnds.st st1107 ?_
      clear st1107
      show OEnds p.tables e below G (T1107.setTop (mkF m 116 #[.val (.long q1), .second, .val (.long q2), .second, .val (.long q3), .second, .val (.int p4), .val (.long (1000000 : Int64)), .second, .val (.long v1001), .second, .val (.long v1002), .second, .val (.long v1003), .second, .val (.long v1004), .second, .val (.int mv), .val (.int ef), .val (.ref b1007), .val (.ref b_1026), .val (.ref b_1040), .val (.int v1106), .unset, .unset, .unset, .unset, .unset, .unset, .unset, .unset, .unset] [(.int (own_cnt (0 : Int64) v1003))]))
      refine OEnds.st (fun _ k => XS.istore X1107.here hx rfl (hb hby at_116) rfl (l' := #[.val (.long q1), .second, .val (.long q2), .second, .val (.long q3), .second, .val (.int p4), .val (.long (1000000 : Int64)), .second, .val (.long v1001), .second, .val (.long v1002), .second, .val (.long v1003), .second, .val (.long v1004), .second, .val (.int mv), .val (.int ef), .val (.ref b1007), .val (.ref b_1026), .val (.ref b_1040), .val (.int v1106), .val (.int (own_cnt (0 : Int64) v1003)), .unset, .unset, .unset, .unset, .unset, .unset, .unset, .unset]) rfl k) ?_
      show OEnds p.tables e below G (T1107.setTop (mkF m 118 #[.val (.long q1), .second, .val (.long q2), .second, .val (.long q3), .second, .val (.int p4), .val (.long (1000000 : Int64)), .second, .val (.long v1001), .second, .val (.long v1002), .second, .val (.long v1003), .second, .val (.long v1004), .second, .val (.int mv), .val (.int ef), .val (.ref b1007), .val (.ref b_1026), .val (.ref b_1040), .val (.int v1106), .val (.int (own_cnt (0 : Int64) v1003)), .unset, .unset, .unset, .unset, .unset, .unset, .unset, .unset] []))
      generalize hv_v1108 : (own_cnt (0 : Int64) v1003) = v1108
      show OEnds p.tables e below G (T1107.setTop (mkF m 118 #[.val (.long q1), .second, .val (.long q2), .second, .val (.long q3), .second, .val (.int p4), .val (.long (1000000 : Int64)), .second, .val (.long v1001), .second, .val (.long v1002), .second, .val (.long v1003), .second, .val (.long v1004), .second, .val (.int mv), .val (.int ef), .val (.ref b1007), .val (.ref b_1026), .val (.ref b_1040), .val (.int v1106), .val (.int v1108), .unset, .unset, .unset, .unset, .unset, .unset, .unset, .unset] []))
      refine OEnds.st (fun _ k => XS.iload X1107.here hx rfl (hb hby at_118) rfl k) ?_
      show OEnds p.tables e below G (T1107.setTop (mkF m 120 #[.val (.long q1), .second, .val (.long q2), .second, .val (.long q3), .second, .val (.int p4), .val (.long (1000000 : Int64)), .second, .val (.long v1001), .second, .val (.long v1002), .second, .val (.long v1003), .second, .val (.long v1004), .second, .val (.int mv), .val (.int ef), .val (.ref b1007), .val (.ref b_1026), .val (.ref b_1040), .val (.int v1106), .val (.int v1108), .unset, .unset, .unset, .unset, .unset, .unset, .unset, .unset] [(.int mv)]))
      by_cases hc120_1109 : mv = (0 : Int32)
      · -- pc 120: yes
        refine OEnds.st (fun _ k => XS.ifYes X1107.here hx rfl (pc0 := 120) (pc' := 128) rfl (hb hby at_120) rfl ((if0 _ _).trans (teq hc120_1109).1) (by decide) (by decide) k) ?_
        show OEnds p.tables e below G (T1107.setTop (mkF m 128 #[.val (.long q1), .second, .val (.long q2), .second, .val (.long q3), .second, .val (.int p4), .val (.long (1000000 : Int64)), .second, .val (.long v1001), .second, .val (.long v1002), .second, .val (.long v1003), .second, .val (.long v1004), .second, .val (.int mv), .val (.int ef), .val (.ref b1007), .val (.ref b_1026), .val (.ref b_1040), .val (.int v1106), .val (.int v1108), .unset, .unset, .unset, .unset, .unset, .unset, .unset, .unset] []))
        refine OEnds.st (fun _ k => XS.iload X1107.here hx rfl (hb hby at_128) rfl k) ?_
        show OEnds p.tables e below G (T1107.setTop (mkF m 130 #[.val (.long q1), .second, .val (.long q2), .second, .val (.long q3), .second, .val (.int p4), .val (.long (1000000 : Int64)), .second, .val (.long v1001), .second, .val (.long v1002), .second, .val (.long v1003), .second, .val (.long v1004), .second, .val (.int mv), .val (.int ef), .val (.ref b1007), .val (.ref b_1026), .val (.ref b_1040), .val (.int v1106), .val (.int v1108), .unset, .unset, .unset, .unset, .unset, .unset, .unset, .unset] [(.int mv)]))
        refine OEnds.st (fun _ k => XS.ifYes X1107.here hx rfl (pc0 := 130) (pc' := 138) rfl (hb hby at_130) rfl ((if0 _ _).trans (teq hc120_1109).1) (by decide) (by decide) k) ?_
        show OEnds p.tables e below G (T1107.setTop (mkF m 138 #[.val (.long q1), .second, .val (.long q2), .second, .val (.long q3), .second, .val (.int p4), .val (.long (1000000 : Int64)), .second, .val (.long v1001), .second, .val (.long v1002), .second, .val (.long v1003), .second, .val (.long v1004), .second, .val (.int mv), .val (.int ef), .val (.ref b1007), .val (.ref b_1026), .val (.ref b_1040), .val (.int v1106), .val (.int v1108), .unset, .unset, .unset, .unset, .unset, .unset, .unset, .unset] []))
        refine OEnds.st (fun _ k => XS.lconst X1107.here hx rfl (hb hby at_138) k) ?_
        show OEnds p.tables e below G (T1107.setTop (mkF m 139 #[.val (.long q1), .second, .val (.long q2), .second, .val (.long q3), .second, .val (.int p4), .val (.long (1000000 : Int64)), .second, .val (.long v1001), .second, .val (.long v1002), .second, .val (.long v1003), .second, .val (.long v1004), .second, .val (.int mv), .val (.int ef), .val (.ref b1007), .val (.ref b_1026), .val (.ref b_1040), .val (.int v1106), .val (.int v1108), .unset, .unset, .unset, .unset, .unset, .unset, .unset, .unset] [(.long (0 : Int64))]))
        refine OEnds.st (fun _ k => XS.lstore X1107.here hx rfl (hb hby at_139) rfl (l' := #[.val (.long q1), .second, .val (.long q2), .second, .val (.long q3), .second, .val (.int p4), .val (.long (1000000 : Int64)), .second, .val (.long v1001), .second, .val (.long v1002), .second, .val (.long v1003), .second, .val (.long v1004), .second, .val (.int mv), .val (.int ef), .val (.ref b1007), .val (.ref b_1026), .val (.ref b_1040), .val (.int v1106), .val (.int v1108), .val (.long (0 : Int64)), .second, .unset, .unset, .unset, .unset, .unset, .unset]) rfl k) ?_
        show OEnds p.tables e below G (T1107.setTop (mkF m 141 #[.val (.long q1), .second, .val (.long q2), .second, .val (.long q3), .second, .val (.int p4), .val (.long (1000000 : Int64)), .second, .val (.long v1001), .second, .val (.long v1002), .second, .val (.long v1003), .second, .val (.long v1004), .second, .val (.int mv), .val (.int ef), .val (.ref b1007), .val (.ref b_1026), .val (.ref b_1040), .val (.int v1106), .val (.int v1108), .val (.long (0 : Int64)), .second, .unset, .unset, .unset, .unset, .unset, .unset] []))
        refine OEnds.st (fun _ k => XS.aload X1107.here hx rfl (hb hby at_141) rfl rfl k) ?_
        show OEnds p.tables e below G (T1107.setTop (mkF m 143 #[.val (.long q1), .second, .val (.long q2), .second, .val (.long q3), .second, .val (.int p4), .val (.long (1000000 : Int64)), .second, .val (.long v1001), .second, .val (.long v1002), .second, .val (.long v1003), .second, .val (.long v1004), .second, .val (.int mv), .val (.int ef), .val (.ref b1007), .val (.ref b_1026), .val (.ref b_1040), .val (.int v1106), .val (.int v1108), .val (.long (0 : Int64)), .second, .unset, .unset, .unset, .unset, .unset, .unset] [(.ref b_1040)]))
        obtain ⟨cq1110, kq1110, q1110a, q1110b, q1110c⟩ := isOf hZ e1107 f1094
        obtain ⟨_, _, ⟨T1110, L1110, k1110c, n1110c⟩, -, X1110, ⟨Lc1110, hQ1110, l1110, y1110, z1110⟩, st1110⟩ := X1107.virtualBack hx (y := (⟨"com/example/marshalyard/marshalyard/proxy/MovingTries$Flight", "begin", "()V"⟩ : MethodName)) (z := (⟨"com/example/marshalyard/marshalyard/proxy/MovingTries$Flight", "begin", "()V"⟩ : MethodName)) hown (mvT hZ (hw _ (List.mem_of_getElem? (i := 27) rfl))) (mvT hZ (hw _ (List.mem_of_getElem? (i := 28) rfl))) (notFace_of_selects (args := #[]) (mvT hZ (hw _ (List.mem_of_getElem? (i := 30) rfl)))) (mvT hZ (hw _ (List.mem_of_getElem? (i := 30) rfl))) (mvT hZ (hw _ (List.mem_of_getElem? (i := 29) rfl))) (by decide) (backOf (W := 0) (rmbeg0 l Z a0 hw [] b_1040 b1007 (0 : Int64) ws1 v1003 nn1 bb1 T1084.heap n0 Z1084 f1094 f1095 f1096 f1097 p1086 p1087 p1088 p1089 p1090 ge_b_1040 ge_b1007 (Ne.symm ne1047)) hZ (hw _ (List.mem_of_getElem? (i := 31) rfl)) (hw _ (List.mem_of_getElem? (i := 20) rfl)) (by decide) (by decide)) q1110a q1110c (g := (mkF m 143 #[.val (.long q1), .second, .val (.long q2), .second, .val (.long q3), .second, .val (.int p4), .val (.long (1000000 : Int64)), .second, .val (.long v1001), .second, .val (.long v1002), .second, .val (.long v1003), .second, .val (.long v1004), .second, .val (.int mv), .val (.int ef), .val (.ref b1007), .val (.ref b_1026), .val (.ref b_1040), .val (.int v1106), .val (.int v1108), .val (.long (0 : Int64)), .second, .unset, .unset, .unset, .unset, .unset, .unset] [(.ref b_1040)])) rfl (by rw [hml]; rfl) (Steps.refl _) (argsL := []) (rest := []) (lenOf pd_1 rfl) rfl (by show 2 * 0 + _ ≤ _; exact Nat.le_of_eq rfl) (hb hby at_143) (fun _ _ => ⟨rfl, e1107, (by decide : 0 + 1 + 0 + 1 + 1 + 0 + 0 + 0 + 0 + 0 ≤ _), (by decide : 0 + 4 + 0 + 3 + 3 + 0 + 0 + 0 + 0 + 0 ≤ _)⟩)
        dsimp only [Pt.U, Pt.locs, Pt.cells, Pt.slots] at X1110 l1110 y1110 z1110 st1110 hQ1110
        subst l1110 y1110 z1110
        obtain ⟨rfl, N1110q, p1111, p1112, p1113, p1114, p1115, p1116, p1117, p1118, p1119, p1120⟩ := hQ1110
        have N1110 := Fr.app N1107 N1110q
        refine OEnds.st (fun _ k => st1110.trans k) ?_
        clear st1110
        have f1121 : Sta Z T1110.heap "com/example/marshalyard/marshalyard/proxy/MovingTries" "WINDOW_NANOS" "J" (.long (1000000 : Int64)) := own_Sta_keep f1091 p1111 (fun x hx => by rcases List.mem_cons.mp hx with rfl | hx; exact own_exa_ns f1094; cases List.mem_singleton.mp hx; exact own_exa_ns p1086)
        have f1122 : Exa Z T1110.heap b1007 "com/example/marshalyard/marshalyard/proxy/MovingTries" := p1086.keep p1111
        have f1123 : Exa Z T1110.heap b_1026 "com/example/marshalyard/marshalyard/proxy/MovingTries$Flight" := f1093.keep p1111
        have f1124 : Exa Z T1110.heap b_1040 "com/example/marshalyard/marshalyard/proxy/MovingTries$Flight" := f1094.keep p1111
        have f1128 : Fld Z T1110.heap b_1026 "com/example/marshalyard/marshalyard/proxy/MovingTries$Flight" "this$0" "Lcom/example/marshalyard/marshalyard/proxy/MovingTries;" (.ref b1007) := f1098.keep p1111 (by simp only [List.mem_cons, List.not_mem_nil, or_false, not_or]; exact ⟨ne1048, (Ne.symm ne1033)⟩)
        have f1129 : Fld Z T1110.heap b_1026 "com/example/marshalyard/marshalyard/proxy/MovingTries$Flight" "inFlight" "Z" (.int (1 : Int32)) := f1099.keep p1111 (by simp only [List.mem_cons, List.not_mem_nil, or_false, not_or]; exact ⟨ne1048, (Ne.symm ne1033)⟩)
        have f1130 : Fld Z T1110.heap b_1026 "com/example/marshalyard/marshalyard/proxy/MovingTries$Flight" "window" "J" (.long (0 : Int64)) := f1100.keep p1111 (by simp only [List.mem_cons, List.not_mem_nil, or_false, not_or]; exact ⟨ne1048, (Ne.symm ne1033)⟩)
        have KK1110 : Keep h0 T1110.heap [] := KK1084.trans p1111 (fun x hx => by rcases List.mem_cons.mp hx with rfl | hx; exact Or.inr sz_b_1040; cases List.mem_singleton.mp hx; exact Or.inr sz_b1007)
        have Z1110 := Nat.le_trans Z1084 p1111.1
        generalize h_nn3 : (nn1 + (1 : Int32)) = nn3 at p1119
        show OEnds p.tables e below G (T1110.setTop (mkF m 146 #[.val (.long q1), .second, .val (.long q2), .second, .val (.long q3), .second, .val (.int p4), .val (.long (1000000 : Int64)), .second, .val (.long v1001), .second, .val (.long v1002), .second, .val (.long v1003), .second, .val (.long v1004), .second, .val (.int mv), .val (.int ef), .val (.ref b1007), .val (.ref b_1026), .val (.ref b_1040), .val (.int v1106), .val (.int v1108), .val (.long (0 : Int64)), .second, .unset, .unset, .unset, .unset, .unset, .unset] []))
        refine OEnds.st (fun _ k => XS.lload X1110.here hx rfl (hb hby at_146) rfl k) ?_
        show OEnds p.tables e below G (T1110.setTop (mkF m 148 #[.val (.long q1), .second, .val (.long q2), .second, .val (.long q3), .second, .val (.int p4), .val (.long (1000000 : Int64)), .second, .val (.long v1001), .second, .val (.long v1002), .second, .val (.long v1003), .second, .val (.long v1004), .second, .val (.int mv), .val (.int ef), .val (.ref b1007), .val (.ref b_1026), .val (.ref b_1040), .val (.int v1106), .val (.int v1108), .val (.long (0 : Int64)), .second, .unset, .unset, .unset, .unset, .unset, .unset] [(.long v1003)]))
        refine OEnds.st (fun _ k => XS.lstore X1110.here hx rfl (hb hby at_148) rfl (l' := #[.val (.long q1), .second, .val (.long q2), .second, .val (.long q3), .second, .val (.int p4), .val (.long (1000000 : Int64)), .second, .val (.long v1001), .second, .val (.long v1002), .second, .val (.long v1003), .second, .val (.long v1004), .second, .val (.int mv), .val (.int ef), .val (.ref b1007), .val (.ref b_1026), .val (.ref b_1040), .val (.int v1106), .val (.int v1108), .val (.long (0 : Int64)), .second, .val (.long v1003), .second, .unset, .unset, .unset, .unset]) rfl k) ?_
        show OEnds p.tables e below G (T1110.setTop (mkF m 150 #[.val (.long q1), .second, .val (.long q2), .second, .val (.long q3), .second, .val (.int p4), .val (.long (1000000 : Int64)), .second, .val (.long v1001), .second, .val (.long v1002), .second, .val (.long v1003), .second, .val (.long v1004), .second, .val (.int mv), .val (.int ef), .val (.ref b1007), .val (.ref b_1026), .val (.ref b_1040), .val (.int v1106), .val (.int v1108), .val (.long (0 : Int64)), .second, .val (.long v1003), .second, .unset, .unset, .unset, .unset] []))
        refine OEnds.st (fun _ k => XS.aload X1110.here hx rfl (hb hby at_150) rfl rfl k) ?_
        show OEnds p.tables e below G (T1110.setTop (mkF m 152 #[.val (.long q1), .second, .val (.long q2), .second, .val (.long q3), .second, .val (.int p4), .val (.long (1000000 : Int64)), .second, .val (.long v1001), .second, .val (.long v1002), .second, .val (.long v1003), .second, .val (.long v1004), .second, .val (.int mv), .val (.int ef), .val (.ref b1007), .val (.ref b_1026), .val (.ref b_1040), .val (.int v1106), .val (.int v1108), .val (.long (0 : Int64)), .second, .val (.long v1003), .second, .unset, .unset, .unset, .unset] [(.ref b1007)]))
        refine OEnds.st (fun _ k => XS.lloadN X1110.here hx rfl (hb hby at_152) rfl k) ?_
        show OEnds p.tables e below G (T1110.setTop (mkF m 153 #[.val (.long q1), .second, .val (.long q2), .second, .val (.long q3), .second, .val (.int p4), .val (.long (1000000 : Int64)), .second, .val (.long v1001), .second, .val (.long v1002), .second, .val (.long v1003), .second, .val (.long v1004), .second, .val (.int mv), .val (.int ef), .val (.ref b1007), .val (.ref b_1026), .val (.ref b_1040), .val (.int v1106), .val (.int v1108), .val (.long (0 : Int64)), .second, .val (.long v1003), .second, .unset, .unset, .unset, .unset] [(.long q1), (.ref b1007)]))
        refine OEnds.st (fun _ k => XS.lload X1110.here hx rfl (hb hby at_153) rfl k) ?_
        show OEnds p.tables e below G (T1110.setTop (mkF m 155 #[.val (.long q1), .second, .val (.long q2), .second, .val (.long q3), .second, .val (.int p4), .val (.long (1000000 : Int64)), .second, .val (.long v1001), .second, .val (.long v1002), .second, .val (.long v1003), .second, .val (.long v1004), .second, .val (.int mv), .val (.int ef), .val (.ref b1007), .val (.ref b_1026), .val (.ref b_1040), .val (.int v1106), .val (.int v1108), .val (.long (0 : Int64)), .second, .val (.long v1003), .second, .unset, .unset, .unset, .unset] [(.long v1001), (.long q1), (.ref b1007)]))
        refine OEnds.st (fun _ k => XS.ladd X1110.here hx rfl (hb hby at_155) rfl k) ?_
        show OEnds p.tables e below G (T1110.setTop (mkF m 156 #[.val (.long q1), .second, .val (.long q2), .second, .val (.long q3), .second, .val (.int p4), .val (.long (1000000 : Int64)), .second, .val (.long v1001), .second, .val (.long v1002), .second, .val (.long v1003), .second, .val (.long v1004), .second, .val (.int mv), .val (.int ef), .val (.ref b1007), .val (.ref b_1026), .val (.ref b_1040), .val (.int v1106), .val (.int v1108), .val (.long (0 : Int64)), .second, .val (.long v1003), .second, .unset, .unset, .unset, .unset] [(.long (q1 + v1001)), (.ref b1007)]))
        refine OEnds.st (fun _ k => XS.lload X1110.here hx rfl (hb hby at_156) rfl k) ?_
        show OEnds p.tables e below G (T1110.setTop (mkF m 158 #[.val (.long q1), .second, .val (.long q2), .second, .val (.long q3), .second, .val (.int p4), .val (.long (1000000 : Int64)), .second, .val (.long v1001), .second, .val (.long v1002), .second, .val (.long v1003), .second, .val (.long v1004), .second, .val (.int mv), .val (.int ef), .val (.ref b1007), .val (.ref b_1026), .val (.ref b_1040), .val (.int v1106), .val (.int v1108), .val (.long (0 : Int64)), .second, .val (.long v1003), .second, .unset, .unset, .unset, .unset] [(.long v1002), (.long (q1 + v1001)), (.ref b1007)]))
        refine OEnds.st (fun _ k => XS.ladd X1110.here hx rfl (hb hby at_158) rfl k) ?_
        show OEnds p.tables e below G (T1110.setTop (mkF m 159 #[.val (.long q1), .second, .val (.long q2), .second, .val (.long q3), .second, .val (.int p4), .val (.long (1000000 : Int64)), .second, .val (.long v1001), .second, .val (.long v1002), .second, .val (.long v1003), .second, .val (.long v1004), .second, .val (.int mv), .val (.int ef), .val (.ref b1007), .val (.ref b_1026), .val (.ref b_1040), .val (.int v1106), .val (.int v1108), .val (.long (0 : Int64)), .second, .val (.long v1003), .second, .unset, .unset, .unset, .unset] [(.long ((q1 + v1001) + v1002)), (.ref b1007)]))
        obtain ⟨cq1135, kq1135, q1135a, q1135b, q1135c⟩ := isOf hZ rfl p1116
        obtain ⟨_, _, ⟨T1135, L1135, k1135c, n1135c⟩, -, X1135, ⟨Lc1135, hQ1135, l1135, y1135, z1135⟩, st1135⟩ := X1110.virtualBack hx (y := (⟨"com/example/marshalyard/marshalyard/proxy/MovingTries", "advance", "(J)V"⟩ : MethodName)) (z := (⟨"com/example/marshalyard/marshalyard/proxy/MovingTries", "advance", "(J)V"⟩ : MethodName)) hown (mvT hZ (hw _ (List.mem_of_getElem? (i := 45) rfl))) (mvT hZ (hw _ (List.mem_of_getElem? (i := 46) rfl))) (notFace_of_selects (args := #[]) (mvT hZ (hw _ (List.mem_of_getElem? (i := 48) rfl)))) (mvT hZ (hw _ (List.mem_of_getElem? (i := 48) rfl))) (mvT hZ (hw _ (List.mem_of_getElem? (i := 47) rfl))) (by decide) (backOf (W := 0) (rm7 l Z a0 hw [] b1007 ((q1 + v1001) + v1002) ws1 v1003 nn3 bb1 T1110.heap n0 Z1110 p1116 p1117 p1118 p1119 p1120 f1121 ge_b1007) hZ (hw _ (List.mem_of_getElem? (i := 49) rfl)) (hw _ (List.mem_of_getElem? (i := 4) rfl)) (by decide) (by decide)) q1135a q1135c (g := (mkF m 159 #[.val (.long q1), .second, .val (.long q2), .second, .val (.long q3), .second, .val (.int p4), .val (.long (1000000 : Int64)), .second, .val (.long v1001), .second, .val (.long v1002), .second, .val (.long v1003), .second, .val (.long v1004), .second, .val (.int mv), .val (.int ef), .val (.ref b1007), .val (.ref b_1026), .val (.ref b_1040), .val (.int v1106), .val (.int v1108), .val (.long (0 : Int64)), .second, .val (.long v1003), .second, .unset, .unset, .unset, .unset] [(.long ((q1 + v1001) + v1002)), (.ref b1007)])) rfl (by rw [hml]; rfl) (Steps.refl _) (argsL := [(.long ((q1 + v1001) + v1002))]) (rest := []) (lenOf pd_2 rfl) rfl (by show 2 * 0 + _ ≤ _; exact Nat.le_of_eq rfl) (hb hby at_159) (fun _ _ => ⟨rfl, rfl, (by decide : 0 + 1 + 0 + 1 + 1 + 0 + 0 + 0 + 0 + 0 + 0 ≤ _), (by decide : 0 + 4 + 0 + 3 + 3 + 0 + 0 + 0 + 0 + 0 + 0 ≤ _)⟩)
        dsimp only [Pt.U, Pt.locs, Pt.cells, Pt.slots] at X1135 l1135 y1135 z1135 st1135 hQ1135
        subst l1135 y1135 z1135
        obtain ⟨rfl, N1135q, p1136, p1137, p1138, p1139, p1140, p1141⟩ := hQ1135
        have N1135 := Fr.app N1110 N1135q
        refine OEnds.st (fun _ k => st1135.trans k) ?_
        clear st1135
        have f1142 : Sta Z T1135.heap "com/example/marshalyard/marshalyard/proxy/MovingTries" "WINDOW_NANOS" "J" (.long (1000000 : Int64)) := own_Sta_keep f1121 p1136 (fun x hx => by cases List.mem_singleton.mp hx; exact own_exa_ns p1116)
        have f1143 : Exa Z T1135.heap b1007 "com/example/marshalyard/marshalyard/proxy/MovingTries" := p1116.keep p1136
        have f1144 : Exa Z T1135.heap b_1026 "com/example/marshalyard/marshalyard/proxy/MovingTries$Flight" := f1123.keep p1136
        have f1145 : Exa Z T1135.heap b_1040 "com/example/marshalyard/marshalyard/proxy/MovingTries$Flight" := p1112.keep p1136
        have f1146 : Fld Z T1135.heap b_1026 "com/example/marshalyard/marshalyard/proxy/MovingTries$Flight" "this$0" "Lcom/example/marshalyard/marshalyard/proxy/MovingTries;" (.ref b1007) := f1128.keep p1136 (by simp only [List.mem_cons, List.not_mem_nil, or_false, not_or]; exact (Ne.symm ne1033))
        have f1147 : Fld Z T1135.heap b_1026 "com/example/marshalyard/marshalyard/proxy/MovingTries$Flight" "inFlight" "Z" (.int (1 : Int32)) := f1129.keep p1136 (by simp only [List.mem_cons, List.not_mem_nil, or_false, not_or]; exact (Ne.symm ne1033))
        have f1148 : Fld Z T1135.heap b_1026 "com/example/marshalyard/marshalyard/proxy/MovingTries$Flight" "window" "J" (.long (0 : Int64)) := f1130.keep p1136 (by simp only [List.mem_cons, List.not_mem_nil, or_false, not_or]; exact (Ne.symm ne1033))
        have f1149 : Fld Z T1135.heap b_1040 "com/example/marshalyard/marshalyard/proxy/MovingTries$Flight" "this$0" "Lcom/example/marshalyard/marshalyard/proxy/MovingTries;" (.ref b1007) := p1113.keep p1136 (by simp only [List.mem_cons, List.not_mem_nil, or_false, not_or]; exact (Ne.symm ne1047))
        have f1150 : Fld Z T1135.heap b_1040 "com/example/marshalyard/marshalyard/proxy/MovingTries$Flight" "inFlight" "Z" (.int (1 : Int32)) := p1114.keep p1136 (by simp only [List.mem_cons, List.not_mem_nil, or_false, not_or]; exact (Ne.symm ne1047))
        have f1151 : Fld Z T1135.heap b_1040 "com/example/marshalyard/marshalyard/proxy/MovingTries$Flight" "window" "J" (.long v1003) := p1115.keep p1136 (by simp only [List.mem_cons, List.not_mem_nil, or_false, not_or]; exact (Ne.symm ne1047))
        have KK1135 : Keep h0 T1135.heap [] := KK1110.trans p1136 (fun x hx => by cases List.mem_singleton.mp hx; exact Or.inr sz_b1007)
        have Z1135 := Nat.le_trans Z1110 p1136.1
        generalize h_ws4 : (own_aS ws1 ((q1 + v1001) + v1002)) = ws4 at p1138
        generalize h_wd4 : (own_aW v1003 ws1 ((q1 + v1001) + v1002)) = wd4 at p1139
        generalize h_nn4 : (own_aN nn3 ws1 ((q1 + v1001) + v1002)) = nn4 at p1140
        generalize h_bb4 : (own_aB nn3 bb1 ws1 ((q1 + v1001) + v1002)) = bb4 at p1141
        obtain ⟨hw4, hn4, hb4⟩ := own_A2 hD hs1 h_wd4 h_nn4 h_bb4
        have hw4' := hw4.symm
        subst hw4'
        show OEnds p.tables e below G (T1135.setTop (mkF m 162 #[.val (.long q1), .second, .val (.long q2), .second, .val (.long q3), .second, .val (.int p4), .val (.long (1000000 : Int64)), .second, .val (.long v1001), .second, .val (.long v1002), .second, .val (.long v1003), .second, .val (.long v1004), .second, .val (.int mv), .val (.int ef), .val (.ref b1007), .val (.ref b_1026), .val (.ref b_1040), .val (.int v1106), .val (.int v1108), .val (.long (0 : Int64)), .second, .val (.long v1003), .second, .unset, .unset, .unset, .unset] []))
        refine OEnds.st (fun _ k => XS.aload X1135.here hx rfl (hb hby at_162) rfl rfl k) ?_
        show OEnds p.tables e below G (T1135.setTop (mkF m 164 #[.val (.long q1), .second, .val (.long q2), .second, .val (.long q3), .second, .val (.int p4), .val (.long (1000000 : Int64)), .second, .val (.long v1001), .second, .val (.long v1002), .second, .val (.long v1003), .second, .val (.long v1004), .second, .val (.int mv), .val (.int ef), .val (.ref b1007), .val (.ref b_1026), .val (.ref b_1040), .val (.int v1106), .val (.int v1108), .val (.long (0 : Int64)), .second, .val (.long v1003), .second, .unset, .unset, .unset, .unset] [(.ref b1007)]))
        obtain ⟨cq1156, kq1156, q1156a, q1156b, q1156c⟩ := isOf hZ rfl p1137
        obtain ⟨_, _, ⟨T1156, L1156, k1156c, n1156c⟩, -, X1156, ⟨Lc1156, hQ1156, l1156, y1156, z1156⟩, st1156⟩ := X1135.virtualBack hx (y := (⟨"com/example/marshalyard/marshalyard/proxy/MovingTries", "count", "()I"⟩ : MethodName)) (z := (⟨"com/example/marshalyard/marshalyard/proxy/MovingTries", "count", "()I"⟩ : MethodName)) hown (mvT hZ (hw _ (List.mem_of_getElem? (i := 52) rfl))) (mvT hZ (hw _ (List.mem_of_getElem? (i := 53) rfl))) (notFace_of_selects (args := #[]) (mvT hZ (hw _ (List.mem_of_getElem? (i := 55) rfl)))) (mvT hZ (hw _ (List.mem_of_getElem? (i := 55) rfl))) (mvT hZ (hw _ (List.mem_of_getElem? (i := 54) rfl))) (by decide) (backOf (W := 0) (rm8 l Z a0 hw [] b1007 nn4 bb4 T1135.heap n0 Z1135 p1140 p1141) hZ (hw _ (List.mem_of_getElem? (i := 56) rfl)) (hw _ (List.mem_of_getElem? (i := 4) rfl)) (by decide) (by decide)) q1156a q1156c (g := (mkF m 164 #[.val (.long q1), .second, .val (.long q2), .second, .val (.long q3), .second, .val (.int p4), .val (.long (1000000 : Int64)), .second, .val (.long v1001), .second, .val (.long v1002), .second, .val (.long v1003), .second, .val (.long v1004), .second, .val (.int mv), .val (.int ef), .val (.ref b1007), .val (.ref b_1026), .val (.ref b_1040), .val (.int v1106), .val (.int v1108), .val (.long (0 : Int64)), .second, .val (.long v1003), .second, .unset, .unset, .unset, .unset] [(.ref b1007)])) rfl (by rw [hml]; rfl) (Steps.refl _) (argsL := []) (rest := []) (lenOf pd_4 rfl) rfl (by show 2 * 0 + _ ≤ _; exact Nat.le_of_eq rfl) (hb hby at_164) (fun _ _ => ⟨rfl, rfl, (by decide : 0 + 1 + 0 + 1 + 1 + 0 + 0 + 0 + 0 + 0 + 0 + 0 ≤ _), (by decide : 0 + 4 + 0 + 3 + 3 + 0 + 0 + 0 + 0 + 0 + 0 + 0 ≤ _)⟩)
        dsimp only [Pt.U, Pt.locs, Pt.cells, Pt.slots] at X1156 l1156 y1156 z1156 st1156 hQ1156
        subst l1156 y1156 z1156
        obtain ⟨rfl, N1156q, e1156⟩ := hQ1156
        have N1156 := Fr.app N1135 N1156q
        refine OEnds.st (fun _ k => st1156.trans k) ?_
        clear st1156
        show OEnds p.tables e below G (T1156.setTop (mkF m 167 #[.val (.long q1), .second, .val (.long q2), .second, .val (.long q3), .second, .val (.int p4), .val (.long (1000000 : Int64)), .second, .val (.long v1001), .second, .val (.long v1002), .second, .val (.long v1003), .second, .val (.long v1004), .second, .val (.int mv), .val (.int ef), .val (.ref b1007), .val (.ref b_1026), .val (.ref b_1040), .val (.int v1106), .val (.int v1108), .val (.long (0 : Int64)), .second, .val (.long v1003), .second, .unset, .unset, .unset, .unset] [(.int (nn4 + bb4))]))
        refine OEnds.st (fun _ k => XS.istore X1156.here hx rfl (hb hby at_167) rfl (l' := #[.val (.long q1), .second, .val (.long q2), .second, .val (.long q3), .second, .val (.int p4), .val (.long (1000000 : Int64)), .second, .val (.long v1001), .second, .val (.long v1002), .second, .val (.long v1003), .second, .val (.long v1004), .second, .val (.int mv), .val (.int ef), .val (.ref b1007), .val (.ref b_1026), .val (.ref b_1040), .val (.int v1106), .val (.int v1108), .val (.long (0 : Int64)), .second, .val (.long v1003), .second, .val (.int (nn4 + bb4)), .unset, .unset, .unset]) rfl k) ?_
        show OEnds p.tables e below G (T1156.setTop (mkF m 169 #[.val (.long q1), .second, .val (.long q2), .second, .val (.long q3), .second, .val (.int p4), .val (.long (1000000 : Int64)), .second, .val (.long v1001), .second, .val (.long v1002), .second, .val (.long v1003), .second, .val (.long v1004), .second, .val (.int mv), .val (.int ef), .val (.ref b1007), .val (.ref b_1026), .val (.ref b_1040), .val (.int v1106), .val (.int v1108), .val (.long (0 : Int64)), .second, .val (.long v1003), .second, .val (.int (nn4 + bb4)), .unset, .unset, .unset] []))
        generalize hv_v1157 : (nn4 + bb4) = v1157
        show OEnds p.tables e below G (T1156.setTop (mkF m 169 #[.val (.long q1), .second, .val (.long q2), .second, .val (.long q3), .second, .val (.int p4), .val (.long (1000000 : Int64)), .second, .val (.long v1001), .second, .val (.long v1002), .second, .val (.long v1003), .second, .val (.long v1004), .second, .val (.int mv), .val (.int ef), .val (.ref b1007), .val (.ref b_1026), .val (.ref b_1040), .val (.int v1106), .val (.int v1108), .val (.long (0 : Int64)), .second, .val (.long v1003), .second, .val (.int v1157), .unset, .unset, .unset] []))
        refine OEnds.st (fun _ k => XS.lload X1156.here hx rfl (hb hby at_169) rfl k) ?_
        show OEnds p.tables e below G (T1156.setTop (mkF m 171 #[.val (.long q1), .second, .val (.long q2), .second, .val (.long q3), .second, .val (.int p4), .val (.long (1000000 : Int64)), .second, .val (.long v1001), .second, .val (.long v1002), .second, .val (.long v1003), .second, .val (.long v1004), .second, .val (.int mv), .val (.int ef), .val (.ref b1007), .val (.ref b_1026), .val (.ref b_1040), .val (.int v1106), .val (.int v1108), .val (.long (0 : Int64)), .second, .val (.long v1003), .second, .val (.int v1157), .unset, .unset, .unset] [(.long (0 : Int64))]))
        refine OEnds.st (fun _ k => XS.lload X1156.here hx rfl (hb hby at_171) rfl k) ?_
        show OEnds p.tables e below G (T1156.setTop (mkF m 173 #[.val (.long q1), .second, .val (.long q2), .second, .val (.long q3), .second, .val (.int p4), .val (.long (1000000 : Int64)), .second, .val (.long v1001), .second, .val (.long v1002), .second, .val (.long v1003), .second, .val (.long v1004), .second, .val (.int mv), .val (.int ef), .val (.ref b1007), .val (.ref b_1026), .val (.ref b_1040), .val (.int v1106), .val (.int v1108), .val (.long (0 : Int64)), .second, .val (.long v1003), .second, .val (.int v1157), .unset, .unset, .unset] [(.long v1004), (.long (0 : Int64))]))
        obtain ⟨_, _, ⟨T1158, L1158, k1158c, n1158c⟩, -, X1158, ⟨Lc1158, hQ1158, l1158, y1158, z1158⟩, st1158⟩ := Jvm.LawKit.callS X1156 hx (y := (⟨"com/example/marshalyard/marshalyard/proxy/MovingTriesAdvancePinLaw", "counted", "(JJ)I"⟩ : MethodName)) hown (mvT hZ (hw _ (List.mem_of_getElem? (i := 60) rfl))) (mvT hZ (hw _ (List.mem_of_getElem? (i := 61) rfl))) (mvT hZ (hw _ (List.mem_of_getElem? (i := 62) rfl))) (mvT hZ (hw _ (List.mem_of_getElem? (i := 63) rfl))) (by decide) (backOf (W := 0) (rm9 l Z a0 hw [] (0 : Int64) v1004 T1135.heap n0 Z1135 ) hZ (hw _ (List.mem_of_getElem? (i := 63) rfl)) (hw _ (List.mem_of_getElem? (i := 62) rfl)) (by decide) (by decide)) (g := (mkF m 173 #[.val (.long q1), .second, .val (.long q2), .second, .val (.long q3), .second, .val (.int p4), .val (.long (1000000 : Int64)), .second, .val (.long v1001), .second, .val (.long v1002), .second, .val (.long v1003), .second, .val (.long v1004), .second, .val (.int mv), .val (.int ef), .val (.ref b1007), .val (.ref b_1026), .val (.ref b_1040), .val (.int v1106), .val (.int v1108), .val (.long (0 : Int64)), .second, .val (.long v1003), .second, .val (.int v1157), .unset, .unset, .unset] [(.long v1004), (.long (0 : Int64))])) rfl (by rw [hml]; rfl) (argsL := [(.long (0 : Int64)), (.long v1004)]) (rest := []) (lenOf pd_5 rfl) rfl (by show 2 * 0 + _ ≤ _; exact Nat.le_of_eq rfl) (hb hby at_173) (fun _ _ => ⟨rfl, e1156, (by decide : 0 + 1 + 0 + 1 + 1 + 0 + 0 + 0 + 0 + 0 + 0 + 0 + 0 ≤ _), (by decide : 0 + 4 + 0 + 3 + 3 + 0 + 0 + 0 + 0 + 0 + 0 + 0 + 0 ≤ _)⟩)
        dsimp only [Pt.U, Pt.locs, Pt.cells, Pt.slots] at X1158 l1158 y1158 z1158 st1158 hQ1158
        subst l1158 y1158 z1158
        obtain ⟨rfl, N1158q, e1158⟩ := hQ1158
        have N1158 := Fr.app N1156 N1158q
        refine OEnds.st st1158 ?_
        clear st1158
        show OEnds p.tables e below G (T1158.setTop (mkF m 176 #[.val (.long q1), .second, .val (.long q2), .second, .val (.long q3), .second, .val (.int p4), .val (.long (1000000 : Int64)), .second, .val (.long v1001), .second, .val (.long v1002), .second, .val (.long v1003), .second, .val (.long v1004), .second, .val (.int mv), .val (.int ef), .val (.ref b1007), .val (.ref b_1026), .val (.ref b_1040), .val (.int v1106), .val (.int v1108), .val (.long (0 : Int64)), .second, .val (.long v1003), .second, .val (.int v1157), .unset, .unset, .unset] [(.int (own_cnt (0 : Int64) v1004))]))
        refine OEnds.st (fun _ k => XS.lload X1158.here hx rfl (hb hby at_176) rfl k) ?_
        show OEnds p.tables e below G (T1158.setTop (mkF m 178 #[.val (.long q1), .second, .val (.long q2), .second, .val (.long q3), .second, .val (.int p4), .val (.long (1000000 : Int64)), .second, .val (.long v1001), .second, .val (.long v1002), .second, .val (.long v1003), .second, .val (.long v1004), .second, .val (.int mv), .val (.int ef), .val (.ref b1007), .val (.ref b_1026), .val (.ref b_1040), .val (.int v1106), .val (.int v1108), .val (.long (0 : Int64)), .second, .val (.long v1003), .second, .val (.int v1157), .unset, .unset, .unset] [(.long v1003), (.int (own_cnt (0 : Int64) v1004))]))
        refine OEnds.st (fun _ k => XS.lload X1158.here hx rfl (hb hby at_178) rfl k) ?_
        show OEnds p.tables e below G (T1158.setTop (mkF m 180 #[.val (.long q1), .second, .val (.long q2), .second, .val (.long q3), .second, .val (.int p4), .val (.long (1000000 : Int64)), .second, .val (.long v1001), .second, .val (.long v1002), .second, .val (.long v1003), .second, .val (.long v1004), .second, .val (.int mv), .val (.int ef), .val (.ref b1007), .val (.ref b_1026), .val (.ref b_1040), .val (.int v1106), .val (.int v1108), .val (.long (0 : Int64)), .second, .val (.long v1003), .second, .val (.int v1157), .unset, .unset, .unset] [(.long v1004), (.long v1003), (.int (own_cnt (0 : Int64) v1004))]))
        obtain ⟨_, _, ⟨T1159, L1159, k1159c, n1159c⟩, -, X1159, ⟨Lc1159, hQ1159, l1159, y1159, z1159⟩, st1159⟩ := Jvm.LawKit.callS X1158 hx (y := (⟨"com/example/marshalyard/marshalyard/proxy/MovingTriesAdvancePinLaw", "counted", "(JJ)I"⟩ : MethodName)) hown (mvT hZ (hw _ (List.mem_of_getElem? (i := 60) rfl))) (mvT hZ (hw _ (List.mem_of_getElem? (i := 61) rfl))) (mvT hZ (hw _ (List.mem_of_getElem? (i := 62) rfl))) (mvT hZ (hw _ (List.mem_of_getElem? (i := 63) rfl))) (by decide) (backOf (W := 1) (rm9 l Z a0 hw [] v1003 v1004 T1135.heap n0 Z1135 ) hZ (hw _ (List.mem_of_getElem? (i := 63) rfl)) (hw _ (List.mem_of_getElem? (i := 62) rfl)) (by decide) (by decide)) (g := (mkF m 180 #[.val (.long q1), .second, .val (.long q2), .second, .val (.long q3), .second, .val (.int p4), .val (.long (1000000 : Int64)), .second, .val (.long v1001), .second, .val (.long v1002), .second, .val (.long v1003), .second, .val (.long v1004), .second, .val (.int mv), .val (.int ef), .val (.ref b1007), .val (.ref b_1026), .val (.ref b_1040), .val (.int v1106), .val (.int v1108), .val (.long (0 : Int64)), .second, .val (.long v1003), .second, .val (.int v1157), .unset, .unset, .unset] [(.long v1004), (.long v1003), (.int (own_cnt (0 : Int64) v1004))])) rfl (by rw [hml]; rfl) (argsL := [(.long v1003), (.long v1004)]) (rest := [(.int (own_cnt (0 : Int64) v1004))]) (lenOf pd_5 rfl) rfl (by show 2 * 0 + _ ≤ _; exact Nat.le_of_eq rfl) (hb hby at_180) (fun _ _ => ⟨rfl, e1158, (by decide : 0 + 1 + 0 + 1 + 1 + 0 + 0 + 0 + 0 + 0 + 0 + 0 + 0 + 0 ≤ _), (by decide : 0 + 4 + 0 + 3 + 3 + 0 + 0 + 0 + 0 + 0 + 0 + 0 + 0 + 0 ≤ _)⟩)
        dsimp only [Pt.U, Pt.locs, Pt.cells, Pt.slots] at X1159 l1159 y1159 z1159 st1159 hQ1159
        subst l1159 y1159 z1159
        obtain ⟨rfl, N1159q, e1159⟩ := hQ1159
        have N1159 := Fr.app N1158 N1159q
        refine OEnds.st st1159 ?_
        clear st1159
        show OEnds p.tables e below G (T1159.setTop (mkF m 183 #[.val (.long q1), .second, .val (.long q2), .second, .val (.long q3), .second, .val (.int p4), .val (.long (1000000 : Int64)), .second, .val (.long v1001), .second, .val (.long v1002), .second, .val (.long v1003), .second, .val (.long v1004), .second, .val (.int mv), .val (.int ef), .val (.ref b1007), .val (.ref b_1026), .val (.ref b_1040), .val (.int v1106), .val (.int v1108), .val (.long (0 : Int64)), .second, .val (.long v1003), .second, .val (.int v1157), .unset, .unset, .unset] [(.int (own_cnt v1003 v1004)), (.int (own_cnt (0 : Int64) v1004))]))
        refine OEnds.st (fun _ k => XS.iadd X1159.here hx rfl (hb hby at_183) rfl k) ?_
        show OEnds p.tables e below G (T1159.setTop (mkF m 184 #[.val (.long q1), .second, .val (.long q2), .second, .val (.long q3), .second, .val (.int p4), .val (.long (1000000 : Int64)), .second, .val (.long v1001), .second, .val (.long v1002), .second, .val (.long v1003), .second, .val (.long v1004), .second, .val (.int mv), .val (.int ef), .val (.ref b1007), .val (.ref b_1026), .val (.ref b_1040), .val (.int v1106), .val (.int v1108), .val (.long (0 : Int64)), .second, .val (.long v1003), .second, .val (.int v1157), .unset, .unset, .unset] [(.int ((own_cnt (0 : Int64) v1004) + (own_cnt v1003 v1004)))]))
        refine OEnds.st (fun _ k => XS.istore X1159.here hx rfl (hb hby at_184) rfl (l' := #[.val (.long q1), .second, .val (.long q2), .second, .val (.long q3), .second, .val (.int p4), .val (.long (1000000 : Int64)), .second, .val (.long v1001), .second, .val (.long v1002), .second, .val (.long v1003), .second, .val (.long v1004), .second, .val (.int mv), .val (.int ef), .val (.ref b1007), .val (.ref b_1026), .val (.ref b_1040), .val (.int v1106), .val (.int v1108), .val (.long (0 : Int64)), .second, .val (.long v1003), .second, .val (.int v1157), .val (.int ((own_cnt (0 : Int64) v1004) + (own_cnt v1003 v1004))), .unset, .unset]) rfl k) ?_
        show OEnds p.tables e below G (T1159.setTop (mkF m 186 #[.val (.long q1), .second, .val (.long q2), .second, .val (.long q3), .second, .val (.int p4), .val (.long (1000000 : Int64)), .second, .val (.long v1001), .second, .val (.long v1002), .second, .val (.long v1003), .second, .val (.long v1004), .second, .val (.int mv), .val (.int ef), .val (.ref b1007), .val (.ref b_1026), .val (.ref b_1040), .val (.int v1106), .val (.int v1108), .val (.long (0 : Int64)), .second, .val (.long v1003), .second, .val (.int v1157), .val (.int ((own_cnt (0 : Int64) v1004) + (own_cnt v1003 v1004))), .unset, .unset] []))
        generalize hv_v1160 : ((own_cnt (0 : Int64) v1004) + (own_cnt v1003 v1004)) = v1160
        show OEnds p.tables e below G (T1159.setTop (mkF m 186 #[.val (.long q1), .second, .val (.long q2), .second, .val (.long q3), .second, .val (.int p4), .val (.long (1000000 : Int64)), .second, .val (.long v1001), .second, .val (.long v1002), .second, .val (.long v1003), .second, .val (.long v1004), .second, .val (.int mv), .val (.int ef), .val (.ref b1007), .val (.ref b_1026), .val (.ref b_1040), .val (.int v1106), .val (.int v1108), .val (.long (0 : Int64)), .second, .val (.long v1003), .second, .val (.int v1157), .val (.int v1160), .unset, .unset] []))
        refine OEnds.st (fun _ k => XS.iload X1159.here hx rfl (hb hby at_186) rfl k) ?_
        show OEnds p.tables e below G (T1159.setTop (mkF m 188 #[.val (.long q1), .second, .val (.long q2), .second, .val (.long q3), .second, .val (.int p4), .val (.long (1000000 : Int64)), .second, .val (.long v1001), .second, .val (.long v1002), .second, .val (.long v1003), .second, .val (.long v1004), .second, .val (.int mv), .val (.int ef), .val (.ref b1007), .val (.ref b_1026), .val (.ref b_1040), .val (.int v1106), .val (.int v1108), .val (.long (0 : Int64)), .second, .val (.long v1003), .second, .val (.int v1157), .val (.int v1160), .unset, .unset] [(.int ef)]))
        by_cases hc188_1161 : ef = (0 : Int32)
        · -- pc 188: yes
          refine OEnds.st (fun _ k => XS.ifYes X1159.here hx rfl (pc0 := 188) (pc' := 211) rfl (hb hby at_188) rfl ((if0 _ _).trans (teq hc188_1161).1) (by decide) (by decide) k) ?_
          show OEnds p.tables e below G (T1159.setTop (mkF m 211 #[.val (.long q1), .second, .val (.long q2), .second, .val (.long q3), .second, .val (.int p4), .val (.long (1000000 : Int64)), .second, .val (.long v1001), .second, .val (.long v1002), .second, .val (.long v1003), .second, .val (.long v1004), .second, .val (.int mv), .val (.int ef), .val (.ref b1007), .val (.ref b_1026), .val (.ref b_1040), .val (.int v1106), .val (.int v1108), .val (.long (0 : Int64)), .second, .val (.long v1003), .second, .val (.int v1157), .val (.int v1160), .unset, .unset] []))
          refine OEnds.st (fun _ k => XS.aload X1159.here hx rfl (hb hby at_211) rfl rfl k) ?_
          show OEnds p.tables e below G (T1159.setTop (mkF m 213 #[.val (.long q1), .second, .val (.long q2), .second, .val (.long q3), .second, .val (.int p4), .val (.long (1000000 : Int64)), .second, .val (.long v1001), .second, .val (.long v1002), .second, .val (.long v1003), .second, .val (.long v1004), .second, .val (.int mv), .val (.int ef), .val (.ref b1007), .val (.ref b_1026), .val (.ref b_1040), .val (.int v1106), .val (.int v1108), .val (.long (0 : Int64)), .second, .val (.long v1003), .second, .val (.int v1157), .val (.int v1160), .unset, .unset] [(.ref b_1040)]))
          obtain ⟨cq1162, kq1162, q1162a, q1162b, q1162c⟩ := isOf hZ e1159 f1145
          obtain ⟨_, _, ⟨T1162, L1162, k1162c, n1162c⟩, -, X1162, ⟨Lc1162, hQ1162, l1162, y1162, z1162⟩, st1162⟩ := X1159.virtualBack hx (y := (⟨"com/example/marshalyard/marshalyard/proxy/MovingTries$Flight", "end", "()V"⟩ : MethodName)) (z := (⟨"com/example/marshalyard/marshalyard/proxy/MovingTries$Flight", "end", "()V"⟩ : MethodName)) hown (mvT hZ (hw _ (List.mem_of_getElem? (i := 65) rfl))) (mvT hZ (hw _ (List.mem_of_getElem? (i := 33) rfl))) (notFace_of_selects (args := #[]) (mvT hZ (hw _ (List.mem_of_getElem? (i := 35) rfl)))) (mvT hZ (hw _ (List.mem_of_getElem? (i := 35) rfl))) (mvT hZ (hw _ (List.mem_of_getElem? (i := 34) rfl))) (by decide) (backOf (W := 0) (rmend1 l Z a0 hw [] b_1040 b1007 v1003 ws4 v1004 nn4 bb4 T1135.heap n0 Z1135 f1145 f1149 f1150 f1151 p1137 p1138 p1139 p1140 p1141 ge_b_1040 ge_b1007 (Ne.symm ne1047)) hZ (hw _ (List.mem_of_getElem? (i := 36) rfl)) (hw _ (List.mem_of_getElem? (i := 20) rfl)) (by decide) (by decide)) q1162a q1162c (g := (mkF m 213 #[.val (.long q1), .second, .val (.long q2), .second, .val (.long q3), .second, .val (.int p4), .val (.long (1000000 : Int64)), .second, .val (.long v1001), .second, .val (.long v1002), .second, .val (.long v1003), .second, .val (.long v1004), .second, .val (.int mv), .val (.int ef), .val (.ref b1007), .val (.ref b_1026), .val (.ref b_1040), .val (.int v1106), .val (.int v1108), .val (.long (0 : Int64)), .second, .val (.long v1003), .second, .val (.int v1157), .val (.int v1160), .unset, .unset] [(.ref b_1040)])) rfl (by rw [hml]; rfl) (Steps.refl _) (argsL := []) (rest := []) (lenOf pd_1 rfl) rfl (by show 2 * 0 + _ ≤ _; exact Nat.le_of_eq rfl) (hb hby at_213) (fun _ _ => ⟨rfl, e1159, (by decide : 0 + 1 + 0 + 1 + 1 + 0 + 0 + 0 + 0 + 0 + 0 + 0 + 0 + 0 + 0 ≤ _), (by decide : 0 + 4 + 0 + 3 + 3 + 0 + 0 + 0 + 0 + 0 + 0 + 0 + 0 + 0 + 0 ≤ _)⟩)
          dsimp only [Pt.U, Pt.locs, Pt.cells, Pt.slots] at X1162 l1162 y1162 z1162 st1162 hQ1162
          subst l1162 y1162 z1162
          obtain ⟨rfl, N1162q, p1163, p1164, p1165, p1166, p1167, p1168, p1169, p1170, p1171, p1172⟩ := hQ1162
          have N1162 := Fr.app N1159 N1162q
          refine OEnds.st (fun _ k => st1162.trans k) ?_
          clear st1162
          have f1173 : Sta Z T1162.heap "com/example/marshalyard/marshalyard/proxy/MovingTries" "WINDOW_NANOS" "J" (.long (1000000 : Int64)) := own_Sta_keep f1142 p1163 (fun x hx => by rcases List.mem_cons.mp hx with rfl | hx; exact own_exa_ns f1145; cases List.mem_singleton.mp hx; exact own_exa_ns p1137)
          have f1174 : Exa Z T1162.heap b1007 "com/example/marshalyard/marshalyard/proxy/MovingTries" := p1137.keep p1163
          have f1175 : Exa Z T1162.heap b_1026 "com/example/marshalyard/marshalyard/proxy/MovingTries$Flight" := f1144.keep p1163
          have f1176 : Exa Z T1162.heap b_1040 "com/example/marshalyard/marshalyard/proxy/MovingTries$Flight" := f1145.keep p1163
          have f1177 : Fld Z T1162.heap b_1026 "com/example/marshalyard/marshalyard/proxy/MovingTries$Flight" "this$0" "Lcom/example/marshalyard/marshalyard/proxy/MovingTries;" (.ref b1007) := f1146.keep p1163 (by simp only [List.mem_cons, List.not_mem_nil, or_false, not_or]; exact ⟨ne1048, (Ne.symm ne1033)⟩)
          have f1178 : Fld Z T1162.heap b_1026 "com/example/marshalyard/marshalyard/proxy/MovingTries$Flight" "inFlight" "Z" (.int (1 : Int32)) := f1147.keep p1163 (by simp only [List.mem_cons, List.not_mem_nil, or_false, not_or]; exact ⟨ne1048, (Ne.symm ne1033)⟩)
          have f1179 : Fld Z T1162.heap b_1026 "com/example/marshalyard/marshalyard/proxy/MovingTries$Flight" "window" "J" (.long (0 : Int64)) := f1148.keep p1163 (by simp only [List.mem_cons, List.not_mem_nil, or_false, not_or]; exact ⟨ne1048, (Ne.symm ne1033)⟩)
          have KK1162 : Keep h0 T1162.heap [] := KK1135.trans p1163 (fun x hx => by rcases List.mem_cons.mp hx with rfl | hx; exact Or.inr sz_b_1040; cases List.mem_singleton.mp hx; exact Or.inr sz_b1007)
          have Z1162 := Nat.le_trans Z1135 p1163.1
          generalize h_nn5 : (own_endN v1003 v1004 nn4) = nn5 at p1171
          generalize h_bb5 : (own_endB v1003 v1004 bb4) = bb5 at p1172
          show OEnds p.tables e below G (T1162.setTop (mkF m 216 #[.val (.long q1), .second, .val (.long q2), .second, .val (.long q3), .second, .val (.int p4), .val (.long (1000000 : Int64)), .second, .val (.long v1001), .second, .val (.long v1002), .second, .val (.long v1003), .second, .val (.long v1004), .second, .val (.int mv), .val (.int ef), .val (.ref b1007), .val (.ref b_1026), .val (.ref b_1040), .val (.int v1106), .val (.int v1108), .val (.long (0 : Int64)), .second, .val (.long v1003), .second, .val (.int v1157), .val (.int v1160), .unset, .unset] []))
          refine OEnds.st (fun _ k => XS.iload X1162.here hx rfl (hb hby at_216) rfl k) ?_
          show OEnds p.tables e below G (T1162.setTop (mkF m 218 #[.val (.long q1), .second, .val (.long q2), .second, .val (.long q3), .second, .val (.int p4), .val (.long (1000000 : Int64)), .second, .val (.long v1001), .second, .val (.long v1002), .second, .val (.long v1003), .second, .val (.long v1004), .second, .val (.int mv), .val (.int ef), .val (.ref b1007), .val (.ref b_1026), .val (.ref b_1040), .val (.int v1106), .val (.int v1108), .val (.long (0 : Int64)), .second, .val (.long v1003), .second, .val (.int v1157), .val (.int v1160), .unset, .unset] [(.int v1160)]))
          refine OEnds.st (fun _ k => XS.lload X1162.here hx rfl (hb hby at_218) rfl k) ?_
          show OEnds p.tables e below G (T1162.setTop (mkF m 220 #[.val (.long q1), .second, .val (.long q2), .second, .val (.long q3), .second, .val (.int p4), .val (.long (1000000 : Int64)), .second, .val (.long v1001), .second, .val (.long v1002), .second, .val (.long v1003), .second, .val (.long v1004), .second, .val (.int mv), .val (.int ef), .val (.ref b1007), .val (.ref b_1026), .val (.ref b_1040), .val (.int v1106), .val (.int v1108), .val (.long (0 : Int64)), .second, .val (.long v1003), .second, .val (.int v1157), .val (.int v1160), .unset, .unset] [(.long v1003), (.int v1160)]))
          refine OEnds.st (fun _ k => XS.lload X1162.here hx rfl (hb hby at_220) rfl k) ?_
          show OEnds p.tables e below G (T1162.setTop (mkF m 222 #[.val (.long q1), .second, .val (.long q2), .second, .val (.long q3), .second, .val (.int p4), .val (.long (1000000 : Int64)), .second, .val (.long v1001), .second, .val (.long v1002), .second, .val (.long v1003), .second, .val (.long v1004), .second, .val (.int mv), .val (.int ef), .val (.ref b1007), .val (.ref b_1026), .val (.ref b_1040), .val (.int v1106), .val (.int v1108), .val (.long (0 : Int64)), .second, .val (.long v1003), .second, .val (.int v1157), .val (.int v1160), .unset, .unset] [(.long v1004), (.long v1003), (.int v1160)]))
          obtain ⟨_, _, ⟨T1187, L1187, k1187c, n1187c⟩, -, X1187, ⟨Lc1187, hQ1187, l1187, y1187, z1187⟩, st1187⟩ := Jvm.LawKit.callS X1162 hx (y := (⟨"com/example/marshalyard/marshalyard/proxy/MovingTriesAdvancePinLaw", "counted", "(JJ)I"⟩ : MethodName)) hown (mvT hZ (hw _ (List.mem_of_getElem? (i := 60) rfl))) (mvT hZ (hw _ (List.mem_of_getElem? (i := 61) rfl))) (mvT hZ (hw _ (List.mem_of_getElem? (i := 62) rfl))) (mvT hZ (hw _ (List.mem_of_getElem? (i := 63) rfl))) (by decide) (backOf (W := 1) (rm9 l Z a0 hw [] v1003 v1004 T1162.heap n0 Z1162 ) hZ (hw _ (List.mem_of_getElem? (i := 63) rfl)) (hw _ (List.mem_of_getElem? (i := 62) rfl)) (by decide) (by decide)) (g := (mkF m 222 #[.val (.long q1), .second, .val (.long q2), .second, .val (.long q3), .second, .val (.int p4), .val (.long (1000000 : Int64)), .second, .val (.long v1001), .second, .val (.long v1002), .second, .val (.long v1003), .second, .val (.long v1004), .second, .val (.int mv), .val (.int ef), .val (.ref b1007), .val (.ref b_1026), .val (.ref b_1040), .val (.int v1106), .val (.int v1108), .val (.long (0 : Int64)), .second, .val (.long v1003), .second, .val (.int v1157), .val (.int v1160), .unset, .unset] [(.long v1004), (.long v1003), (.int v1160)])) rfl (by rw [hml]; rfl) (argsL := [(.long v1003), (.long v1004)]) (rest := [(.int v1160)]) (lenOf pd_5 rfl) rfl (by show 2 * 0 + _ ≤ _; exact Nat.le_of_eq rfl) (hb hby at_222) (fun _ _ => ⟨rfl, rfl, (by decide : 0 + 1 + 0 + 1 + 1 + 0 + 0 + 0 + 0 + 0 + 0 + 0 + 0 + 0 + 0 + 0 ≤ _), (by decide : 0 + 4 + 0 + 3 + 3 + 0 + 0 + 0 + 0 + 0 + 0 + 0 + 0 + 0 + 0 + 0 ≤ _)⟩)
          dsimp only [Pt.U, Pt.locs, Pt.cells, Pt.slots] at X1187 l1187 y1187 z1187 st1187 hQ1187
          subst l1187 y1187 z1187
          obtain ⟨rfl, N1187q, e1187⟩ := hQ1187
          have N1187 := Fr.app N1162 N1187q
          refine OEnds.st st1187 ?_
          clear st1187
          show OEnds p.tables e below G (T1187.setTop (mkF m 225 #[.val (.long q1), .second, .val (.long q2), .second, .val (.long q3), .second, .val (.int p4), .val (.long (1000000 : Int64)), .second, .val (.long v1001), .second, .val (.long v1002), .second, .val (.long v1003), .second, .val (.long v1004), .second, .val (.int mv), .val (.int ef), .val (.ref b1007), .val (.ref b_1026), .val (.ref b_1040), .val (.int v1106), .val (.int v1108), .val (.long (0 : Int64)), .second, .val (.long v1003), .second, .val (.int v1157), .val (.int v1160), .unset, .unset] [(.int (own_cnt v1003 v1004)), (.int v1160)]))
          refine OEnds.st (fun _ k => XS.isub X1187.here hx rfl (hb hby at_225) rfl k) ?_
          show OEnds p.tables e below G (T1187.setTop (mkF m 226 #[.val (.long q1), .second, .val (.long q2), .second, .val (.long q3), .second, .val (.int p4), .val (.long (1000000 : Int64)), .second, .val (.long v1001), .second, .val (.long v1002), .second, .val (.long v1003), .second, .val (.long v1004), .second, .val (.int mv), .val (.int ef), .val (.ref b1007), .val (.ref b_1026), .val (.ref b_1040), .val (.int v1106), .val (.int v1108), .val (.long (0 : Int64)), .second, .val (.long v1003), .second, .val (.int v1157), .val (.int v1160), .unset, .unset] [(.int (v1160 - (own_cnt v1003 v1004)))]))
          refine OEnds.st (fun _ k => XS.istore X1187.here hx rfl (hb hby at_226) rfl (l' := #[.val (.long q1), .second, .val (.long q2), .second, .val (.long q3), .second, .val (.int p4), .val (.long (1000000 : Int64)), .second, .val (.long v1001), .second, .val (.long v1002), .second, .val (.long v1003), .second, .val (.long v1004), .second, .val (.int mv), .val (.int ef), .val (.ref b1007), .val (.ref b_1026), .val (.ref b_1040), .val (.int v1106), .val (.int v1108), .val (.long (0 : Int64)), .second, .val (.long v1003), .second, .val (.int v1157), .val (.int v1160), .val (.int (v1160 - (own_cnt v1003 v1004))), .unset]) rfl k) ?_
          show OEnds p.tables e below G (T1187.setTop (mkF m 228 #[.val (.long q1), .second, .val (.long q2), .second, .val (.long q3), .second, .val (.int p4), .val (.long (1000000 : Int64)), .second, .val (.long v1001), .second, .val (.long v1002), .second, .val (.long v1003), .second, .val (.long v1004), .second, .val (.int mv), .val (.int ef), .val (.ref b1007), .val (.ref b_1026), .val (.ref b_1040), .val (.int v1106), .val (.int v1108), .val (.long (0 : Int64)), .second, .val (.long v1003), .second, .val (.int v1157), .val (.int v1160), .val (.int (v1160 - (own_cnt v1003 v1004))), .unset] []))
          generalize hv_v1188 : (v1160 - (own_cnt v1003 v1004)) = v1188
          show OEnds p.tables e below G (T1187.setTop (mkF m 228 #[.val (.long q1), .second, .val (.long q2), .second, .val (.long q3), .second, .val (.int p4), .val (.long (1000000 : Int64)), .second, .val (.long v1001), .second, .val (.long v1002), .second, .val (.long v1003), .second, .val (.long v1004), .second, .val (.int mv), .val (.int ef), .val (.ref b1007), .val (.ref b_1026), .val (.ref b_1040), .val (.int v1106), .val (.int v1108), .val (.long (0 : Int64)), .second, .val (.long v1003), .second, .val (.int v1157), .val (.int v1160), .val (.int v1188), .unset] []))
          refine OEnds.st (fun _ k => XS.aload X1187.here hx rfl (hb hby at_228) rfl rfl k) ?_
          show OEnds p.tables e below G (T1187.setTop (mkF m 230 #[.val (.long q1), .second, .val (.long q2), .second, .val (.long q3), .second, .val (.int p4), .val (.long (1000000 : Int64)), .second, .val (.long v1001), .second, .val (.long v1002), .second, .val (.long v1003), .second, .val (.long v1004), .second, .val (.int mv), .val (.int ef), .val (.ref b1007), .val (.ref b_1026), .val (.ref b_1040), .val (.int v1106), .val (.int v1108), .val (.long (0 : Int64)), .second, .val (.long v1003), .second, .val (.int v1157), .val (.int v1160), .val (.int v1188), .unset] [(.ref b1007)]))
          obtain ⟨cq1189, kq1189, q1189a, q1189b, q1189c⟩ := isOf hZ e1187 p1168
          obtain ⟨_, _, ⟨T1189, L1189, k1189c, n1189c⟩, -, X1189, ⟨Lc1189, hQ1189, l1189, y1189, z1189⟩, st1189⟩ := X1187.virtualBack hx (y := (⟨"com/example/marshalyard/marshalyard/proxy/MovingTries", "count", "()I"⟩ : MethodName)) (z := (⟨"com/example/marshalyard/marshalyard/proxy/MovingTries", "count", "()I"⟩ : MethodName)) hown (mvT hZ (hw _ (List.mem_of_getElem? (i := 52) rfl))) (mvT hZ (hw _ (List.mem_of_getElem? (i := 53) rfl))) (notFace_of_selects (args := #[]) (mvT hZ (hw _ (List.mem_of_getElem? (i := 55) rfl)))) (mvT hZ (hw _ (List.mem_of_getElem? (i := 55) rfl))) (mvT hZ (hw _ (List.mem_of_getElem? (i := 54) rfl))) (by decide) (backOf (W := 0) (rm8 l Z a0 hw [] b1007 nn5 bb5 T1162.heap n0 Z1162 p1171 p1172) hZ (hw _ (List.mem_of_getElem? (i := 56) rfl)) (hw _ (List.mem_of_getElem? (i := 4) rfl)) (by decide) (by decide)) q1189a q1189c (g := (mkF m 230 #[.val (.long q1), .second, .val (.long q2), .second, .val (.long q3), .second, .val (.int p4), .val (.long (1000000 : Int64)), .second, .val (.long v1001), .second, .val (.long v1002), .second, .val (.long v1003), .second, .val (.long v1004), .second, .val (.int mv), .val (.int ef), .val (.ref b1007), .val (.ref b_1026), .val (.ref b_1040), .val (.int v1106), .val (.int v1108), .val (.long (0 : Int64)), .second, .val (.long v1003), .second, .val (.int v1157), .val (.int v1160), .val (.int v1188), .unset] [(.ref b1007)])) rfl (by rw [hml]; rfl) (Steps.refl _) (argsL := []) (rest := []) (lenOf pd_4 rfl) rfl (by show 2 * 0 + _ ≤ _; exact Nat.le_of_eq rfl) (hb hby at_230) (fun _ _ => ⟨rfl, e1187, (by decide : 0 + 1 + 0 + 1 + 1 + 0 + 0 + 0 + 0 + 0 + 0 + 0 + 0 + 0 + 0 + 0 + 0 ≤ _), (by decide : 0 + 4 + 0 + 3 + 3 + 0 + 0 + 0 + 0 + 0 + 0 + 0 + 0 + 0 + 0 + 0 + 0 ≤ _)⟩)
          dsimp only [Pt.U, Pt.locs, Pt.cells, Pt.slots] at X1189 l1189 y1189 z1189 st1189 hQ1189
          subst l1189 y1189 z1189
          obtain ⟨rfl, N1189q, e1189⟩ := hQ1189
          have N1189 := Fr.app N1187 N1189q
          refine OEnds.st (fun _ k => st1189.trans k) ?_
          clear st1189
          show OEnds p.tables e below G (T1189.setTop (mkF m 233 #[.val (.long q1), .second, .val (.long q2), .second, .val (.long q3), .second, .val (.int p4), .val (.long (1000000 : Int64)), .second, .val (.long v1001), .second, .val (.long v1002), .second, .val (.long v1003), .second, .val (.long v1004), .second, .val (.int mv), .val (.int ef), .val (.ref b1007), .val (.ref b_1026), .val (.ref b_1040), .val (.int v1106), .val (.int v1108), .val (.long (0 : Int64)), .second, .val (.long v1003), .second, .val (.int v1157), .val (.int v1160), .val (.int v1188), .unset] [(.int (nn5 + bb5))]))
          refine OEnds.st (fun _ k => XS.istore X1189.here hx rfl (hb hby at_233) rfl (l' := #[.val (.long q1), .second, .val (.long q2), .second, .val (.long q3), .second, .val (.int p4), .val (.long (1000000 : Int64)), .second, .val (.long v1001), .second, .val (.long v1002), .second, .val (.long v1003), .second, .val (.long v1004), .second, .val (.int mv), .val (.int ef), .val (.ref b1007), .val (.ref b_1026), .val (.ref b_1040), .val (.int v1106), .val (.int v1108), .val (.long (0 : Int64)), .second, .val (.long v1003), .second, .val (.int v1157), .val (.int v1160), .val (.int v1188), .val (.int (nn5 + bb5))]) rfl k) ?_
          show OEnds p.tables e below G (T1189.setTop (mkF m 235 #[.val (.long q1), .second, .val (.long q2), .second, .val (.long q3), .second, .val (.int p4), .val (.long (1000000 : Int64)), .second, .val (.long v1001), .second, .val (.long v1002), .second, .val (.long v1003), .second, .val (.long v1004), .second, .val (.int mv), .val (.int ef), .val (.ref b1007), .val (.ref b_1026), .val (.ref b_1040), .val (.int v1106), .val (.int v1108), .val (.long (0 : Int64)), .second, .val (.long v1003), .second, .val (.int v1157), .val (.int v1160), .val (.int v1188), .val (.int (nn5 + bb5))] []))
          generalize hv_v1190 : (nn5 + bb5) = v1190
          show OEnds p.tables e below G (T1189.setTop (mkF m 235 #[.val (.long q1), .second, .val (.long q2), .second, .val (.long q3), .second, .val (.int p4), .val (.long (1000000 : Int64)), .second, .val (.long v1001), .second, .val (.long v1002), .second, .val (.long v1003), .second, .val (.long v1004), .second, .val (.int mv), .val (.int ef), .val (.ref b1007), .val (.ref b_1026), .val (.ref b_1040), .val (.int v1106), .val (.int v1108), .val (.long (0 : Int64)), .second, .val (.long v1003), .second, .val (.int v1157), .val (.int v1160), .val (.int v1188), .val (.int v1190)] []))
          refine OEnds.st (fun _ k => XS.iload X1189.here hx rfl (hb hby at_235) rfl k) ?_
          show OEnds p.tables e below G (T1189.setTop (mkF m 237 #[.val (.long q1), .second, .val (.long q2), .second, .val (.long q3), .second, .val (.int p4), .val (.long (1000000 : Int64)), .second, .val (.long v1001), .second, .val (.long v1002), .second, .val (.long v1003), .second, .val (.long v1004), .second, .val (.int mv), .val (.int ef), .val (.ref b1007), .val (.ref b_1026), .val (.ref b_1040), .val (.int v1106), .val (.int v1108), .val (.long (0 : Int64)), .second, .val (.long v1003), .second, .val (.int v1157), .val (.int v1160), .val (.int v1188), .val (.int v1190)] [(.int v1106)]))
          refine OEnds.st (fun _ k => XS.iload X1189.here hx rfl (hb hby at_237) rfl k) ?_
          show OEnds p.tables e below G (T1189.setTop (mkF m 239 #[.val (.long q1), .second, .val (.long q2), .second, .val (.long q3), .second, .val (.int p4), .val (.long (1000000 : Int64)), .second, .val (.long v1001), .second, .val (.long v1002), .second, .val (.long v1003), .second, .val (.long v1004), .second, .val (.int mv), .val (.int ef), .val (.ref b1007), .val (.ref b_1026), .val (.ref b_1040), .val (.int v1106), .val (.int v1108), .val (.long (0 : Int64)), .second, .val (.long v1003), .second, .val (.int v1157), .val (.int v1160), .val (.int v1188), .val (.int v1190)] [(.int v1108), (.int v1106)]))
          have hc239_1191 : v1106 = v1108 := by rw [← hv_v1106, ← hv_v1108]; exact own_F1 hD hn1 hb1
          refine OEnds.st (fun _ k => XS.icmpNo X1189.here hx rfl (hb hby at_239) rfl (teq hc239_1191).2 k) ?_
          show OEnds p.tables e below G (T1189.setTop (mkF m 242 #[.val (.long q1), .second, .val (.long q2), .second, .val (.long q3), .second, .val (.int p4), .val (.long (1000000 : Int64)), .second, .val (.long v1001), .second, .val (.long v1002), .second, .val (.long v1003), .second, .val (.long v1004), .second, .val (.int mv), .val (.int ef), .val (.ref b1007), .val (.ref b_1026), .val (.ref b_1040), .val (.int v1106), .val (.int v1108), .val (.long (0 : Int64)), .second, .val (.long v1003), .second, .val (.int v1157), .val (.int v1160), .val (.int v1188), .val (.int v1190)] []))
          refine OEnds.st (fun _ k => XS.iload X1189.here hx rfl (hb hby at_242) rfl k) ?_
          show OEnds p.tables e below G (T1189.setTop (mkF m 244 #[.val (.long q1), .second, .val (.long q2), .second, .val (.long q3), .second, .val (.int p4), .val (.long (1000000 : Int64)), .second, .val (.long v1001), .second, .val (.long v1002), .second, .val (.long v1003), .second, .val (.long v1004), .second, .val (.int mv), .val (.int ef), .val (.ref b1007), .val (.ref b_1026), .val (.ref b_1040), .val (.int v1106), .val (.int v1108), .val (.long (0 : Int64)), .second, .val (.long v1003), .second, .val (.int v1157), .val (.int v1160), .val (.int v1188), .val (.int v1190)] [(.int v1157)]))
          refine OEnds.st (fun _ k => XS.iload X1189.here hx rfl (hb hby at_244) rfl k) ?_
          show OEnds p.tables e below G (T1189.setTop (mkF m 246 #[.val (.long q1), .second, .val (.long q2), .second, .val (.long q3), .second, .val (.int p4), .val (.long (1000000 : Int64)), .second, .val (.long v1001), .second, .val (.long v1002), .second, .val (.long v1003), .second, .val (.long v1004), .second, .val (.int mv), .val (.int ef), .val (.ref b1007), .val (.ref b_1026), .val (.ref b_1040), .val (.int v1106), .val (.int v1108), .val (.long (0 : Int64)), .second, .val (.long v1003), .second, .val (.int v1157), .val (.int v1160), .val (.int v1188), .val (.int v1190)] [(.int v1160), (.int v1157)]))
          have hc246_1192 : v1157 = v1160 := by rw [← hv_v1157, ← hv_v1160]; exact own_F2 hD hn1 hb1 h_nn3 hn4 hb4
          refine OEnds.st (fun _ k => XS.icmpNo X1189.here hx rfl (hb hby at_246) rfl (teq hc246_1192).2 k) ?_
          show OEnds p.tables e below G (T1189.setTop (mkF m 249 #[.val (.long q1), .second, .val (.long q2), .second, .val (.long q3), .second, .val (.int p4), .val (.long (1000000 : Int64)), .second, .val (.long v1001), .second, .val (.long v1002), .second, .val (.long v1003), .second, .val (.long v1004), .second, .val (.int mv), .val (.int ef), .val (.ref b1007), .val (.ref b_1026), .val (.ref b_1040), .val (.int v1106), .val (.int v1108), .val (.long (0 : Int64)), .second, .val (.long v1003), .second, .val (.int v1157), .val (.int v1160), .val (.int v1188), .val (.int v1190)] []))
          refine OEnds.st (fun _ k => XS.iload X1189.here hx rfl (hb hby at_249) rfl k) ?_
          show OEnds p.tables e below G (T1189.setTop (mkF m 251 #[.val (.long q1), .second, .val (.long q2), .second, .val (.long q3), .second, .val (.int p4), .val (.long (1000000 : Int64)), .second, .val (.long v1001), .second, .val (.long v1002), .second, .val (.long v1003), .second, .val (.long v1004), .second, .val (.int mv), .val (.int ef), .val (.ref b1007), .val (.ref b_1026), .val (.ref b_1040), .val (.int v1106), .val (.int v1108), .val (.long (0 : Int64)), .second, .val (.long v1003), .second, .val (.int v1157), .val (.int v1160), .val (.int v1188), .val (.int v1190)] [(.int v1190)]))
          refine OEnds.st (fun _ k => XS.iload X1189.here hx rfl (hb hby at_251) rfl k) ?_
          show OEnds p.tables e below G (T1189.setTop (mkF m 253 #[.val (.long q1), .second, .val (.long q2), .second, .val (.long q3), .second, .val (.int p4), .val (.long (1000000 : Int64)), .second, .val (.long v1001), .second, .val (.long v1002), .second, .val (.long v1003), .second, .val (.long v1004), .second, .val (.int mv), .val (.int ef), .val (.ref b1007), .val (.ref b_1026), .val (.ref b_1040), .val (.int v1106), .val (.int v1108), .val (.long (0 : Int64)), .second, .val (.long v1003), .second, .val (.int v1157), .val (.int v1160), .val (.int v1188), .val (.int v1190)] [(.int v1188), (.int v1190)]))
          have hc253_1193 : v1190 = v1188 := by rw [← hv_v1190, ← hv_v1188, ← hv_v1160]; exact own_F3f hD hn1 hb1 h_nn3 hn4 hb4 h_nn5 h_bb5
          refine OEnds.st (fun _ k => XS.icmpNo X1189.here hx rfl (hb hby at_253) rfl (teq hc253_1193).2 k) ?_
          show OEnds p.tables e below G (T1189.setTop (mkF m 256 #[.val (.long q1), .second, .val (.long q2), .second, .val (.long q3), .second, .val (.int p4), .val (.long (1000000 : Int64)), .second, .val (.long v1001), .second, .val (.long v1002), .second, .val (.long v1003), .second, .val (.long v1004), .second, .val (.int mv), .val (.int ef), .val (.ref b1007), .val (.ref b_1026), .val (.ref b_1040), .val (.int v1106), .val (.int v1108), .val (.long (0 : Int64)), .second, .val (.long v1003), .second, .val (.int v1157), .val (.int v1160), .val (.int v1188), .val (.int v1190)] []))
          refine OEnds.st (fun _ k => XS.iconst X1189.here hx rfl (hb hby at_256) k) ?_
          show OEnds p.tables e below G (T1189.setTop (mkF m 257 #[.val (.long q1), .second, .val (.long q2), .second, .val (.long q3), .second, .val (.int p4), .val (.long (1000000 : Int64)), .second, .val (.long v1001), .second, .val (.long v1002), .second, .val (.long v1003), .second, .val (.long v1004), .second, .val (.int mv), .val (.int ef), .val (.ref b1007), .val (.ref b_1026), .val (.ref b_1040), .val (.int v1106), .val (.int v1108), .val (.long (0 : Int64)), .second, .val (.long v1003), .second, .val (.int v1157), .val (.int v1160), .val (.int v1188), .val (.int v1190)] [(.int (1 : Int32))]))
          refine OEnds.st (fun _ k => XS.goto X1189.here hx rfl (pc0 := 257) (pc' := 261) rfl (hb hby at_257) (by decide) (by decide) k) ?_
          show OEnds p.tables e below G (T1189.setTop (mkF m 261 #[.val (.long q1), .second, .val (.long q2), .second, .val (.long q3), .second, .val (.int p4), .val (.long (1000000 : Int64)), .second, .val (.long v1001), .second, .val (.long v1002), .second, .val (.long v1003), .second, .val (.long v1004), .second, .val (.int mv), .val (.int ef), .val (.ref b1007), .val (.ref b_1026), .val (.ref b_1040), .val (.int v1106), .val (.int v1108), .val (.long (0 : Int64)), .second, .val (.long v1003), .second, .val (.int v1157), .val (.int v1160), .val (.int v1188), .val (.int v1190)] [(.int (1 : Int32))]))
          rw [← hG]
          refine OEnds.retZ X1189 hx hlk Bd.returns rfl (hb hby at_261) (by decide) (by decide) ?_
          rw [e1189]
          exact ⟨rfl, N1189⟩
        · -- pc 188: no
          refine OEnds.st (fun _ k => XS.ifNo X1159.here hx rfl (hb hby at_188) rfl ((if0 _ _).trans (feq hc188_1161).1) k) ?_
          show OEnds p.tables e below G (T1159.setTop (mkF m 191 #[.val (.long q1), .second, .val (.long q2), .second, .val (.long q3), .second, .val (.int p4), .val (.long (1000000 : Int64)), .second, .val (.long v1001), .second, .val (.long v1002), .second, .val (.long v1003), .second, .val (.long v1004), .second, .val (.int mv), .val (.int ef), .val (.ref b1007), .val (.ref b_1026), .val (.ref b_1040), .val (.int v1106), .val (.int v1108), .val (.long (0 : Int64)), .second, .val (.long v1003), .second, .val (.int v1157), .val (.int v1160), .unset, .unset] []))
          refine OEnds.st (fun _ k => XS.aload X1159.here hx rfl (hb hby at_191) rfl rfl k) ?_
          show OEnds p.tables e below G (T1159.setTop (mkF m 193 #[.val (.long q1), .second, .val (.long q2), .second, .val (.long q3), .second, .val (.int p4), .val (.long (1000000 : Int64)), .second, .val (.long v1001), .second, .val (.long v1002), .second, .val (.long v1003), .second, .val (.long v1004), .second, .val (.int mv), .val (.int ef), .val (.ref b1007), .val (.ref b_1026), .val (.ref b_1040), .val (.int v1106), .val (.int v1108), .val (.long (0 : Int64)), .second, .val (.long v1003), .second, .val (.int v1157), .val (.int v1160), .unset, .unset] [(.ref b_1026)]))
          obtain ⟨cq1194, kq1194, q1194a, q1194b, q1194c⟩ := isOf hZ e1159 f1144
          obtain ⟨_, _, ⟨T1194, L1194, k1194c, n1194c⟩, -, X1194, ⟨Lc1194, hQ1194, l1194, y1194, z1194⟩, st1194⟩ := X1159.virtualBack hx (y := (⟨"com/example/marshalyard/marshalyard/proxy/MovingTries$Flight", "end", "()V"⟩ : MethodName)) (z := (⟨"com/example/marshalyard/marshalyard/proxy/MovingTries$Flight", "end", "()V"⟩ : MethodName)) hown (mvT hZ (hw _ (List.mem_of_getElem? (i := 65) rfl))) (mvT hZ (hw _ (List.mem_of_getElem? (i := 33) rfl))) (notFace_of_selects (args := #[]) (mvT hZ (hw _ (List.mem_of_getElem? (i := 35) rfl)))) (mvT hZ (hw _ (List.mem_of_getElem? (i := 35) rfl))) (mvT hZ (hw _ (List.mem_of_getElem? (i := 34) rfl))) (by decide) (backOf (W := 0) (rmend1 l Z a0 hw [] b_1026 b1007 (0 : Int64) ws4 v1004 nn4 bb4 T1135.heap n0 Z1135 f1144 f1146 f1147 f1148 p1137 p1138 p1139 p1140 p1141 ge_b_1026 ge_b1007 (Ne.symm ne1033)) hZ (hw _ (List.mem_of_getElem? (i := 36) rfl)) (hw _ (List.mem_of_getElem? (i := 20) rfl)) (by decide) (by decide)) q1194a q1194c (g := (mkF m 193 #[.val (.long q1), .second, .val (.long q2), .second, .val (.long q3), .second, .val (.int p4), .val (.long (1000000 : Int64)), .second, .val (.long v1001), .second, .val (.long v1002), .second, .val (.long v1003), .second, .val (.long v1004), .second, .val (.int mv), .val (.int ef), .val (.ref b1007), .val (.ref b_1026), .val (.ref b_1040), .val (.int v1106), .val (.int v1108), .val (.long (0 : Int64)), .second, .val (.long v1003), .second, .val (.int v1157), .val (.int v1160), .unset, .unset] [(.ref b_1026)])) rfl (by rw [hml]; rfl) (Steps.refl _) (argsL := []) (rest := []) (lenOf pd_1 rfl) rfl (by show 2 * 0 + _ ≤ _; exact Nat.le_of_eq rfl) (hb hby at_193) (fun _ _ => ⟨rfl, e1159, (by decide : 0 + 1 + 0 + 1 + 1 + 0 + 0 + 0 + 0 + 0 + 0 + 0 + 0 + 0 + 0 ≤ _), (by decide : 0 + 4 + 0 + 3 + 3 + 0 + 0 + 0 + 0 + 0 + 0 + 0 + 0 + 0 + 0 ≤ _)⟩)
          dsimp only [Pt.U, Pt.locs, Pt.cells, Pt.slots] at X1194 l1194 y1194 z1194 st1194 hQ1194
          subst l1194 y1194 z1194
          obtain ⟨rfl, N1194q, p1195, p1196, p1197, p1198, p1199, p1200, p1201, p1202, p1203, p1204⟩ := hQ1194
          have N1194 := Fr.app N1159 N1194q
          refine OEnds.st (fun _ k => st1194.trans k) ?_
          clear st1194
          have f1205 : Sta Z T1194.heap "com/example/marshalyard/marshalyard/proxy/MovingTries" "WINDOW_NANOS" "J" (.long (1000000 : Int64)) := own_Sta_keep f1142 p1195 (fun x hx => by rcases List.mem_cons.mp hx with rfl | hx; exact own_exa_ns f1144; cases List.mem_singleton.mp hx; exact own_exa_ns p1137)
          have f1206 : Exa Z T1194.heap b1007 "com/example/marshalyard/marshalyard/proxy/MovingTries" := p1137.keep p1195
          have f1207 : Exa Z T1194.heap b_1026 "com/example/marshalyard/marshalyard/proxy/MovingTries$Flight" := f1144.keep p1195
          have f1208 : Exa Z T1194.heap b_1040 "com/example/marshalyard/marshalyard/proxy/MovingTries$Flight" := f1145.keep p1195
          have f1212 : Fld Z T1194.heap b_1040 "com/example/marshalyard/marshalyard/proxy/MovingTries$Flight" "this$0" "Lcom/example/marshalyard/marshalyard/proxy/MovingTries;" (.ref b1007) := f1149.keep p1195 (by simp only [List.mem_cons, List.not_mem_nil, or_false, not_or]; exact ⟨(Ne.symm ne1048), (Ne.symm ne1047)⟩)
          have f1213 : Fld Z T1194.heap b_1040 "com/example/marshalyard/marshalyard/proxy/MovingTries$Flight" "inFlight" "Z" (.int (1 : Int32)) := f1150.keep p1195 (by simp only [List.mem_cons, List.not_mem_nil, or_false, not_or]; exact ⟨(Ne.symm ne1048), (Ne.symm ne1047)⟩)
          have f1214 : Fld Z T1194.heap b_1040 "com/example/marshalyard/marshalyard/proxy/MovingTries$Flight" "window" "J" (.long v1003) := f1151.keep p1195 (by simp only [List.mem_cons, List.not_mem_nil, or_false, not_or]; exact ⟨(Ne.symm ne1048), (Ne.symm ne1047)⟩)
          have KK1194 : Keep h0 T1194.heap [] := KK1135.trans p1195 (fun x hx => by rcases List.mem_cons.mp hx with rfl | hx; exact Or.inr sz_b_1026; cases List.mem_singleton.mp hx; exact Or.inr sz_b1007)
          have Z1194 := Nat.le_trans Z1135 p1195.1
          generalize h_nn5 : (own_endN (0 : Int64) v1004 nn4) = nn5 at p1203
          generalize h_bb5 : (own_endB (0 : Int64) v1004 bb4) = bb5 at p1204
          show OEnds p.tables e below G (T1194.setTop (mkF m 196 #[.val (.long q1), .second, .val (.long q2), .second, .val (.long q3), .second, .val (.int p4), .val (.long (1000000 : Int64)), .second, .val (.long v1001), .second, .val (.long v1002), .second, .val (.long v1003), .second, .val (.long v1004), .second, .val (.int mv), .val (.int ef), .val (.ref b1007), .val (.ref b_1026), .val (.ref b_1040), .val (.int v1106), .val (.int v1108), .val (.long (0 : Int64)), .second, .val (.long v1003), .second, .val (.int v1157), .val (.int v1160), .unset, .unset] []))
          refine OEnds.st (fun _ k => XS.iload X1194.here hx rfl (hb hby at_196) rfl k) ?_
          show OEnds p.tables e below G (T1194.setTop (mkF m 198 #[.val (.long q1), .second, .val (.long q2), .second, .val (.long q3), .second, .val (.int p4), .val (.long (1000000 : Int64)), .second, .val (.long v1001), .second, .val (.long v1002), .second, .val (.long v1003), .second, .val (.long v1004), .second, .val (.int mv), .val (.int ef), .val (.ref b1007), .val (.ref b_1026), .val (.ref b_1040), .val (.int v1106), .val (.int v1108), .val (.long (0 : Int64)), .second, .val (.long v1003), .second, .val (.int v1157), .val (.int v1160), .unset, .unset] [(.int v1160)]))
          refine OEnds.st (fun _ k => XS.lload X1194.here hx rfl (hb hby at_198) rfl k) ?_
          show OEnds p.tables e below G (T1194.setTop (mkF m 200 #[.val (.long q1), .second, .val (.long q2), .second, .val (.long q3), .second, .val (.int p4), .val (.long (1000000 : Int64)), .second, .val (.long v1001), .second, .val (.long v1002), .second, .val (.long v1003), .second, .val (.long v1004), .second, .val (.int mv), .val (.int ef), .val (.ref b1007), .val (.ref b_1026), .val (.ref b_1040), .val (.int v1106), .val (.int v1108), .val (.long (0 : Int64)), .second, .val (.long v1003), .second, .val (.int v1157), .val (.int v1160), .unset, .unset] [(.long (0 : Int64)), (.int v1160)]))
          refine OEnds.st (fun _ k => XS.lload X1194.here hx rfl (hb hby at_200) rfl k) ?_
          show OEnds p.tables e below G (T1194.setTop (mkF m 202 #[.val (.long q1), .second, .val (.long q2), .second, .val (.long q3), .second, .val (.int p4), .val (.long (1000000 : Int64)), .second, .val (.long v1001), .second, .val (.long v1002), .second, .val (.long v1003), .second, .val (.long v1004), .second, .val (.int mv), .val (.int ef), .val (.ref b1007), .val (.ref b_1026), .val (.ref b_1040), .val (.int v1106), .val (.int v1108), .val (.long (0 : Int64)), .second, .val (.long v1003), .second, .val (.int v1157), .val (.int v1160), .unset, .unset] [(.long v1004), (.long (0 : Int64)), (.int v1160)]))
          obtain ⟨_, _, ⟨T1219, L1219, k1219c, n1219c⟩, -, X1219, ⟨Lc1219, hQ1219, l1219, y1219, z1219⟩, st1219⟩ := Jvm.LawKit.callS X1194 hx (y := (⟨"com/example/marshalyard/marshalyard/proxy/MovingTriesAdvancePinLaw", "counted", "(JJ)I"⟩ : MethodName)) hown (mvT hZ (hw _ (List.mem_of_getElem? (i := 60) rfl))) (mvT hZ (hw _ (List.mem_of_getElem? (i := 61) rfl))) (mvT hZ (hw _ (List.mem_of_getElem? (i := 62) rfl))) (mvT hZ (hw _ (List.mem_of_getElem? (i := 63) rfl))) (by decide) (backOf (W := 1) (rm9 l Z a0 hw [] (0 : Int64) v1004 T1194.heap n0 Z1194 ) hZ (hw _ (List.mem_of_getElem? (i := 63) rfl)) (hw _ (List.mem_of_getElem? (i := 62) rfl)) (by decide) (by decide)) (g := (mkF m 202 #[.val (.long q1), .second, .val (.long q2), .second, .val (.long q3), .second, .val (.int p4), .val (.long (1000000 : Int64)), .second, .val (.long v1001), .second, .val (.long v1002), .second, .val (.long v1003), .second, .val (.long v1004), .second, .val (.int mv), .val (.int ef), .val (.ref b1007), .val (.ref b_1026), .val (.ref b_1040), .val (.int v1106), .val (.int v1108), .val (.long (0 : Int64)), .second, .val (.long v1003), .second, .val (.int v1157), .val (.int v1160), .unset, .unset] [(.long v1004), (.long (0 : Int64)), (.int v1160)])) rfl (by rw [hml]; rfl) (argsL := [(.long (0 : Int64)), (.long v1004)]) (rest := [(.int v1160)]) (lenOf pd_5 rfl) rfl (by show 2 * 0 + _ ≤ _; exact Nat.le_of_eq rfl) (hb hby at_202) (fun _ _ => ⟨rfl, rfl, (by decide : 0 + 1 + 0 + 1 + 1 + 0 + 0 + 0 + 0 + 0 + 0 + 0 + 0 + 0 + 0 + 0 ≤ _), (by decide : 0 + 4 + 0 + 3 + 3 + 0 + 0 + 0 + 0 + 0 + 0 + 0 + 0 + 0 + 0 + 0 ≤ _)⟩)
          dsimp only [Pt.U, Pt.locs, Pt.cells, Pt.slots] at X1219 l1219 y1219 z1219 st1219 hQ1219
          subst l1219 y1219 z1219
          obtain ⟨rfl, N1219q, e1219⟩ := hQ1219
          have N1219 := Fr.app N1194 N1219q
          refine OEnds.st st1219 ?_
          clear st1219
          show OEnds p.tables e below G (T1219.setTop (mkF m 205 #[.val (.long q1), .second, .val (.long q2), .second, .val (.long q3), .second, .val (.int p4), .val (.long (1000000 : Int64)), .second, .val (.long v1001), .second, .val (.long v1002), .second, .val (.long v1003), .second, .val (.long v1004), .second, .val (.int mv), .val (.int ef), .val (.ref b1007), .val (.ref b_1026), .val (.ref b_1040), .val (.int v1106), .val (.int v1108), .val (.long (0 : Int64)), .second, .val (.long v1003), .second, .val (.int v1157), .val (.int v1160), .unset, .unset] [(.int (own_cnt (0 : Int64) v1004)), (.int v1160)]))
          refine OEnds.st (fun _ k => XS.isub X1219.here hx rfl (hb hby at_205) rfl k) ?_
          show OEnds p.tables e below G (T1219.setTop (mkF m 206 #[.val (.long q1), .second, .val (.long q2), .second, .val (.long q3), .second, .val (.int p4), .val (.long (1000000 : Int64)), .second, .val (.long v1001), .second, .val (.long v1002), .second, .val (.long v1003), .second, .val (.long v1004), .second, .val (.int mv), .val (.int ef), .val (.ref b1007), .val (.ref b_1026), .val (.ref b_1040), .val (.int v1106), .val (.int v1108), .val (.long (0 : Int64)), .second, .val (.long v1003), .second, .val (.int v1157), .val (.int v1160), .unset, .unset] [(.int (v1160 - (own_cnt (0 : Int64) v1004)))]))
          refine OEnds.st (fun _ k => XS.istore X1219.here hx rfl (hb hby at_206) rfl (l' := #[.val (.long q1), .second, .val (.long q2), .second, .val (.long q3), .second, .val (.int p4), .val (.long (1000000 : Int64)), .second, .val (.long v1001), .second, .val (.long v1002), .second, .val (.long v1003), .second, .val (.long v1004), .second, .val (.int mv), .val (.int ef), .val (.ref b1007), .val (.ref b_1026), .val (.ref b_1040), .val (.int v1106), .val (.int v1108), .val (.long (0 : Int64)), .second, .val (.long v1003), .second, .val (.int v1157), .val (.int v1160), .val (.int (v1160 - (own_cnt (0 : Int64) v1004))), .unset]) rfl k) ?_
          show OEnds p.tables e below G (T1219.setTop (mkF m 208 #[.val (.long q1), .second, .val (.long q2), .second, .val (.long q3), .second, .val (.int p4), .val (.long (1000000 : Int64)), .second, .val (.long v1001), .second, .val (.long v1002), .second, .val (.long v1003), .second, .val (.long v1004), .second, .val (.int mv), .val (.int ef), .val (.ref b1007), .val (.ref b_1026), .val (.ref b_1040), .val (.int v1106), .val (.int v1108), .val (.long (0 : Int64)), .second, .val (.long v1003), .second, .val (.int v1157), .val (.int v1160), .val (.int (v1160 - (own_cnt (0 : Int64) v1004))), .unset] []))
          generalize hv_v1220 : (v1160 - (own_cnt (0 : Int64) v1004)) = v1220
          show OEnds p.tables e below G (T1219.setTop (mkF m 208 #[.val (.long q1), .second, .val (.long q2), .second, .val (.long q3), .second, .val (.int p4), .val (.long (1000000 : Int64)), .second, .val (.long v1001), .second, .val (.long v1002), .second, .val (.long v1003), .second, .val (.long v1004), .second, .val (.int mv), .val (.int ef), .val (.ref b1007), .val (.ref b_1026), .val (.ref b_1040), .val (.int v1106), .val (.int v1108), .val (.long (0 : Int64)), .second, .val (.long v1003), .second, .val (.int v1157), .val (.int v1160), .val (.int v1220), .unset] []))
          refine OEnds.st (fun _ k => XS.goto X1219.here hx rfl (pc0 := 208) (pc' := 228) rfl (hb hby at_208) (by decide) (by decide) k) ?_
          show OEnds p.tables e below G (T1219.setTop (mkF m 228 #[.val (.long q1), .second, .val (.long q2), .second, .val (.long q3), .second, .val (.int p4), .val (.long (1000000 : Int64)), .second, .val (.long v1001), .second, .val (.long v1002), .second, .val (.long v1003), .second, .val (.long v1004), .second, .val (.int mv), .val (.int ef), .val (.ref b1007), .val (.ref b_1026), .val (.ref b_1040), .val (.int v1106), .val (.int v1108), .val (.long (0 : Int64)), .second, .val (.long v1003), .second, .val (.int v1157), .val (.int v1160), .val (.int v1220), .unset] []))
          refine OEnds.st (fun _ k => XS.aload X1219.here hx rfl (hb hby at_228) rfl rfl k) ?_
          show OEnds p.tables e below G (T1219.setTop (mkF m 230 #[.val (.long q1), .second, .val (.long q2), .second, .val (.long q3), .second, .val (.int p4), .val (.long (1000000 : Int64)), .second, .val (.long v1001), .second, .val (.long v1002), .second, .val (.long v1003), .second, .val (.long v1004), .second, .val (.int mv), .val (.int ef), .val (.ref b1007), .val (.ref b_1026), .val (.ref b_1040), .val (.int v1106), .val (.int v1108), .val (.long (0 : Int64)), .second, .val (.long v1003), .second, .val (.int v1157), .val (.int v1160), .val (.int v1220), .unset] [(.ref b1007)]))
          obtain ⟨cq1221, kq1221, q1221a, q1221b, q1221c⟩ := isOf hZ e1219 p1200
          obtain ⟨_, _, ⟨T1221, L1221, k1221c, n1221c⟩, -, X1221, ⟨Lc1221, hQ1221, l1221, y1221, z1221⟩, st1221⟩ := X1219.virtualBack hx (y := (⟨"com/example/marshalyard/marshalyard/proxy/MovingTries", "count", "()I"⟩ : MethodName)) (z := (⟨"com/example/marshalyard/marshalyard/proxy/MovingTries", "count", "()I"⟩ : MethodName)) hown (mvT hZ (hw _ (List.mem_of_getElem? (i := 52) rfl))) (mvT hZ (hw _ (List.mem_of_getElem? (i := 53) rfl))) (notFace_of_selects (args := #[]) (mvT hZ (hw _ (List.mem_of_getElem? (i := 55) rfl)))) (mvT hZ (hw _ (List.mem_of_getElem? (i := 55) rfl))) (mvT hZ (hw _ (List.mem_of_getElem? (i := 54) rfl))) (by decide) (backOf (W := 0) (rm8 l Z a0 hw [] b1007 nn5 bb5 T1194.heap n0 Z1194 p1203 p1204) hZ (hw _ (List.mem_of_getElem? (i := 56) rfl)) (hw _ (List.mem_of_getElem? (i := 4) rfl)) (by decide) (by decide)) q1221a q1221c (g := (mkF m 230 #[.val (.long q1), .second, .val (.long q2), .second, .val (.long q3), .second, .val (.int p4), .val (.long (1000000 : Int64)), .second, .val (.long v1001), .second, .val (.long v1002), .second, .val (.long v1003), .second, .val (.long v1004), .second, .val (.int mv), .val (.int ef), .val (.ref b1007), .val (.ref b_1026), .val (.ref b_1040), .val (.int v1106), .val (.int v1108), .val (.long (0 : Int64)), .second, .val (.long v1003), .second, .val (.int v1157), .val (.int v1160), .val (.int v1220), .unset] [(.ref b1007)])) rfl (by rw [hml]; rfl) (Steps.refl _) (argsL := []) (rest := []) (lenOf pd_4 rfl) rfl (by show 2 * 0 + _ ≤ _; exact Nat.le_of_eq rfl) (hb hby at_230) (fun _ _ => ⟨rfl, e1219, (by decide : 0 + 1 + 0 + 1 + 1 + 0 + 0 + 0 + 0 + 0 + 0 + 0 + 0 + 0 + 0 + 0 + 0 ≤ _), (by decide : 0 + 4 + 0 + 3 + 3 + 0 + 0 + 0 + 0 + 0 + 0 + 0 + 0 + 0 + 0 + 0 + 0 ≤ _)⟩)
          dsimp only [Pt.U, Pt.locs, Pt.cells, Pt.slots] at X1221 l1221 y1221 z1221 st1221 hQ1221
          subst l1221 y1221 z1221
          obtain ⟨rfl, N1221q, e1221⟩ := hQ1221
          have N1221 := Fr.app N1219 N1221q
          refine OEnds.st (fun _ k => st1221.trans k) ?_
          clear st1221
          show OEnds p.tables e below G (T1221.setTop (mkF m 233 #[.val (.long q1), .second, .val (.long q2), .second, .val (.long q3), .second, .val (.int p4), .val (.long (1000000 : Int64)), .second, .val (.long v1001), .second, .val (.long v1002), .second, .val (.long v1003), .second, .val (.long v1004), .second, .val (.int mv), .val (.int ef), .val (.ref b1007), .val (.ref b_1026), .val (.ref b_1040), .val (.int v1106), .val (.int v1108), .val (.long (0 : Int64)), .second, .val (.long v1003), .second, .val (.int v1157), .val (.int v1160), .val (.int v1220), .unset] [(.int (nn5 + bb5))]))
          refine OEnds.st (fun _ k => XS.istore X1221.here hx rfl (hb hby at_233) rfl (l' := #[.val (.long q1), .second, .val (.long q2), .second, .val (.long q3), .second, .val (.int p4), .val (.long (1000000 : Int64)), .second, .val (.long v1001), .second, .val (.long v1002), .second, .val (.long v1003), .second, .val (.long v1004), .second, .val (.int mv), .val (.int ef), .val (.ref b1007), .val (.ref b_1026), .val (.ref b_1040), .val (.int v1106), .val (.int v1108), .val (.long (0 : Int64)), .second, .val (.long v1003), .second, .val (.int v1157), .val (.int v1160), .val (.int v1220), .val (.int (nn5 + bb5))]) rfl k) ?_
          show OEnds p.tables e below G (T1221.setTop (mkF m 235 #[.val (.long q1), .second, .val (.long q2), .second, .val (.long q3), .second, .val (.int p4), .val (.long (1000000 : Int64)), .second, .val (.long v1001), .second, .val (.long v1002), .second, .val (.long v1003), .second, .val (.long v1004), .second, .val (.int mv), .val (.int ef), .val (.ref b1007), .val (.ref b_1026), .val (.ref b_1040), .val (.int v1106), .val (.int v1108), .val (.long (0 : Int64)), .second, .val (.long v1003), .second, .val (.int v1157), .val (.int v1160), .val (.int v1220), .val (.int (nn5 + bb5))] []))
          generalize hv_v1222 : (nn5 + bb5) = v1222
          show OEnds p.tables e below G (T1221.setTop (mkF m 235 #[.val (.long q1), .second, .val (.long q2), .second, .val (.long q3), .second, .val (.int p4), .val (.long (1000000 : Int64)), .second, .val (.long v1001), .second, .val (.long v1002), .second, .val (.long v1003), .second, .val (.long v1004), .second, .val (.int mv), .val (.int ef), .val (.ref b1007), .val (.ref b_1026), .val (.ref b_1040), .val (.int v1106), .val (.int v1108), .val (.long (0 : Int64)), .second, .val (.long v1003), .second, .val (.int v1157), .val (.int v1160), .val (.int v1220), .val (.int v1222)] []))
          refine OEnds.st (fun _ k => XS.iload X1221.here hx rfl (hb hby at_235) rfl k) ?_
          show OEnds p.tables e below G (T1221.setTop (mkF m 237 #[.val (.long q1), .second, .val (.long q2), .second, .val (.long q3), .second, .val (.int p4), .val (.long (1000000 : Int64)), .second, .val (.long v1001), .second, .val (.long v1002), .second, .val (.long v1003), .second, .val (.long v1004), .second, .val (.int mv), .val (.int ef), .val (.ref b1007), .val (.ref b_1026), .val (.ref b_1040), .val (.int v1106), .val (.int v1108), .val (.long (0 : Int64)), .second, .val (.long v1003), .second, .val (.int v1157), .val (.int v1160), .val (.int v1220), .val (.int v1222)] [(.int v1106)]))
          refine OEnds.st (fun _ k => XS.iload X1221.here hx rfl (hb hby at_237) rfl k) ?_
          show OEnds p.tables e below G (T1221.setTop (mkF m 239 #[.val (.long q1), .second, .val (.long q2), .second, .val (.long q3), .second, .val (.int p4), .val (.long (1000000 : Int64)), .second, .val (.long v1001), .second, .val (.long v1002), .second, .val (.long v1003), .second, .val (.long v1004), .second, .val (.int mv), .val (.int ef), .val (.ref b1007), .val (.ref b_1026), .val (.ref b_1040), .val (.int v1106), .val (.int v1108), .val (.long (0 : Int64)), .second, .val (.long v1003), .second, .val (.int v1157), .val (.int v1160), .val (.int v1220), .val (.int v1222)] [(.int v1108), (.int v1106)]))
          have hc239_1223 : v1106 = v1108 := by rw [← hv_v1106, ← hv_v1108]; exact own_F1 hD hn1 hb1
          refine OEnds.st (fun _ k => XS.icmpNo X1221.here hx rfl (hb hby at_239) rfl (teq hc239_1223).2 k) ?_
          show OEnds p.tables e below G (T1221.setTop (mkF m 242 #[.val (.long q1), .second, .val (.long q2), .second, .val (.long q3), .second, .val (.int p4), .val (.long (1000000 : Int64)), .second, .val (.long v1001), .second, .val (.long v1002), .second, .val (.long v1003), .second, .val (.long v1004), .second, .val (.int mv), .val (.int ef), .val (.ref b1007), .val (.ref b_1026), .val (.ref b_1040), .val (.int v1106), .val (.int v1108), .val (.long (0 : Int64)), .second, .val (.long v1003), .second, .val (.int v1157), .val (.int v1160), .val (.int v1220), .val (.int v1222)] []))
          refine OEnds.st (fun _ k => XS.iload X1221.here hx rfl (hb hby at_242) rfl k) ?_
          show OEnds p.tables e below G (T1221.setTop (mkF m 244 #[.val (.long q1), .second, .val (.long q2), .second, .val (.long q3), .second, .val (.int p4), .val (.long (1000000 : Int64)), .second, .val (.long v1001), .second, .val (.long v1002), .second, .val (.long v1003), .second, .val (.long v1004), .second, .val (.int mv), .val (.int ef), .val (.ref b1007), .val (.ref b_1026), .val (.ref b_1040), .val (.int v1106), .val (.int v1108), .val (.long (0 : Int64)), .second, .val (.long v1003), .second, .val (.int v1157), .val (.int v1160), .val (.int v1220), .val (.int v1222)] [(.int v1157)]))
          refine OEnds.st (fun _ k => XS.iload X1221.here hx rfl (hb hby at_244) rfl k) ?_
          show OEnds p.tables e below G (T1221.setTop (mkF m 246 #[.val (.long q1), .second, .val (.long q2), .second, .val (.long q3), .second, .val (.int p4), .val (.long (1000000 : Int64)), .second, .val (.long v1001), .second, .val (.long v1002), .second, .val (.long v1003), .second, .val (.long v1004), .second, .val (.int mv), .val (.int ef), .val (.ref b1007), .val (.ref b_1026), .val (.ref b_1040), .val (.int v1106), .val (.int v1108), .val (.long (0 : Int64)), .second, .val (.long v1003), .second, .val (.int v1157), .val (.int v1160), .val (.int v1220), .val (.int v1222)] [(.int v1160), (.int v1157)]))
          have hc246_1224 : v1157 = v1160 := by rw [← hv_v1157, ← hv_v1160]; exact own_F2 hD hn1 hb1 h_nn3 hn4 hb4
          refine OEnds.st (fun _ k => XS.icmpNo X1221.here hx rfl (hb hby at_246) rfl (teq hc246_1224).2 k) ?_
          show OEnds p.tables e below G (T1221.setTop (mkF m 249 #[.val (.long q1), .second, .val (.long q2), .second, .val (.long q3), .second, .val (.int p4), .val (.long (1000000 : Int64)), .second, .val (.long v1001), .second, .val (.long v1002), .second, .val (.long v1003), .second, .val (.long v1004), .second, .val (.int mv), .val (.int ef), .val (.ref b1007), .val (.ref b_1026), .val (.ref b_1040), .val (.int v1106), .val (.int v1108), .val (.long (0 : Int64)), .second, .val (.long v1003), .second, .val (.int v1157), .val (.int v1160), .val (.int v1220), .val (.int v1222)] []))
          refine OEnds.st (fun _ k => XS.iload X1221.here hx rfl (hb hby at_249) rfl k) ?_
          show OEnds p.tables e below G (T1221.setTop (mkF m 251 #[.val (.long q1), .second, .val (.long q2), .second, .val (.long q3), .second, .val (.int p4), .val (.long (1000000 : Int64)), .second, .val (.long v1001), .second, .val (.long v1002), .second, .val (.long v1003), .second, .val (.long v1004), .second, .val (.int mv), .val (.int ef), .val (.ref b1007), .val (.ref b_1026), .val (.ref b_1040), .val (.int v1106), .val (.int v1108), .val (.long (0 : Int64)), .second, .val (.long v1003), .second, .val (.int v1157), .val (.int v1160), .val (.int v1220), .val (.int v1222)] [(.int v1222)]))
          refine OEnds.st (fun _ k => XS.iload X1221.here hx rfl (hb hby at_251) rfl k) ?_
          show OEnds p.tables e below G (T1221.setTop (mkF m 253 #[.val (.long q1), .second, .val (.long q2), .second, .val (.long q3), .second, .val (.int p4), .val (.long (1000000 : Int64)), .second, .val (.long v1001), .second, .val (.long v1002), .second, .val (.long v1003), .second, .val (.long v1004), .second, .val (.int mv), .val (.int ef), .val (.ref b1007), .val (.ref b_1026), .val (.ref b_1040), .val (.int v1106), .val (.int v1108), .val (.long (0 : Int64)), .second, .val (.long v1003), .second, .val (.int v1157), .val (.int v1160), .val (.int v1220), .val (.int v1222)] [(.int v1220), (.int v1222)]))
          have hc253_1225 : v1222 = v1220 := by rw [← hv_v1222, ← hv_v1220, ← hv_v1160]; exact own_F3e hD hn1 hb1 h_nn3 hn4 hb4 h_nn5 h_bb5
          refine OEnds.st (fun _ k => XS.icmpNo X1221.here hx rfl (hb hby at_253) rfl (teq hc253_1225).2 k) ?_
          show OEnds p.tables e below G (T1221.setTop (mkF m 256 #[.val (.long q1), .second, .val (.long q2), .second, .val (.long q3), .second, .val (.int p4), .val (.long (1000000 : Int64)), .second, .val (.long v1001), .second, .val (.long v1002), .second, .val (.long v1003), .second, .val (.long v1004), .second, .val (.int mv), .val (.int ef), .val (.ref b1007), .val (.ref b_1026), .val (.ref b_1040), .val (.int v1106), .val (.int v1108), .val (.long (0 : Int64)), .second, .val (.long v1003), .second, .val (.int v1157), .val (.int v1160), .val (.int v1220), .val (.int v1222)] []))
          refine OEnds.st (fun _ k => XS.iconst X1221.here hx rfl (hb hby at_256) k) ?_
          show OEnds p.tables e below G (T1221.setTop (mkF m 257 #[.val (.long q1), .second, .val (.long q2), .second, .val (.long q3), .second, .val (.int p4), .val (.long (1000000 : Int64)), .second, .val (.long v1001), .second, .val (.long v1002), .second, .val (.long v1003), .second, .val (.long v1004), .second, .val (.int mv), .val (.int ef), .val (.ref b1007), .val (.ref b_1026), .val (.ref b_1040), .val (.int v1106), .val (.int v1108), .val (.long (0 : Int64)), .second, .val (.long v1003), .second, .val (.int v1157), .val (.int v1160), .val (.int v1220), .val (.int v1222)] [(.int (1 : Int32))]))
          refine OEnds.st (fun _ k => XS.goto X1221.here hx rfl (pc0 := 257) (pc' := 261) rfl (hb hby at_257) (by decide) (by decide) k) ?_
          show OEnds p.tables e below G (T1221.setTop (mkF m 261 #[.val (.long q1), .second, .val (.long q2), .second, .val (.long q3), .second, .val (.int p4), .val (.long (1000000 : Int64)), .second, .val (.long v1001), .second, .val (.long v1002), .second, .val (.long v1003), .second, .val (.long v1004), .second, .val (.int mv), .val (.int ef), .val (.ref b1007), .val (.ref b_1026), .val (.ref b_1040), .val (.int v1106), .val (.int v1108), .val (.long (0 : Int64)), .second, .val (.long v1003), .second, .val (.int v1157), .val (.int v1160), .val (.int v1220), .val (.int v1222)] [(.int (1 : Int32))]))
          rw [← hG]
          refine OEnds.retZ X1221 hx hlk Bd.returns rfl (hb hby at_261) (by decide) (by decide) ?_
          rw [e1221]
          exact ⟨rfl, N1221⟩
      · -- pc 120: no
        refine OEnds.st (fun _ k => XS.ifNo X1107.here hx rfl (hb hby at_120) rfl ((if0 _ _).trans (feq hc120_1109).1) k) ?_
        show OEnds p.tables e below G (T1107.setTop (mkF m 123 #[.val (.long q1), .second, .val (.long q2), .second, .val (.long q3), .second, .val (.int p4), .val (.long (1000000 : Int64)), .second, .val (.long v1001), .second, .val (.long v1002), .second, .val (.long v1003), .second, .val (.long v1004), .second, .val (.int mv), .val (.int ef), .val (.ref b1007), .val (.ref b_1026), .val (.ref b_1040), .val (.int v1106), .val (.int v1108), .unset, .unset, .unset, .unset, .unset, .unset, .unset, .unset] []))
        refine OEnds.st (fun _ k => XS.aload X1107.here hx rfl (hb hby at_123) rfl rfl k) ?_
        show OEnds p.tables e below G (T1107.setTop (mkF m 125 #[.val (.long q1), .second, .val (.long q2), .second, .val (.long q3), .second, .val (.int p4), .val (.long (1000000 : Int64)), .second, .val (.long v1001), .second, .val (.long v1002), .second, .val (.long v1003), .second, .val (.long v1004), .second, .val (.int mv), .val (.int ef), .val (.ref b1007), .val (.ref b_1026), .val (.ref b_1040), .val (.int v1106), .val (.int v1108), .unset, .unset, .unset, .unset, .unset, .unset, .unset, .unset] [(.ref b_1026)]))
        obtain ⟨cq1226, kq1226, q1226a, q1226b, q1226c⟩ := isOf hZ e1107 f1093
        obtain ⟨_, _, ⟨T1226, L1226, k1226c, n1226c⟩, -, X1226, ⟨Lc1226, hQ1226, l1226, y1226, z1226⟩, st1226⟩ := X1107.virtualBack hx (y := (⟨"com/example/marshalyard/marshalyard/proxy/MovingTries$Flight", "moved", "()V"⟩ : MethodName)) (z := (⟨"com/example/marshalyard/marshalyard/proxy/MovingTries$Flight", "moved", "()V"⟩ : MethodName)) hown (mvT hZ (hw _ (List.mem_of_getElem? (i := 66) rfl))) (mvT hZ (hw _ (List.mem_of_getElem? (i := 67) rfl))) (notFace_of_selects (args := #[]) (mvT hZ (hw _ (List.mem_of_getElem? (i := 69) rfl)))) (mvT hZ (hw _ (List.mem_of_getElem? (i := 69) rfl))) (mvT hZ (hw _ (List.mem_of_getElem? (i := 68) rfl))) (by decide) (backOf (W := 0) (rmmov l Z a0 hw [] b_1026 b1007 (0 : Int64) ws1 v1003 nn1 bb1 T1084.heap n0 Z1084 f1093 f1098 f1099 f1100 p1086 p1087 p1088 p1089 p1090 ge_b_1026 ge_b1007 (Ne.symm ne1033)) hZ (hw _ (List.mem_of_getElem? (i := 70) rfl)) (hw _ (List.mem_of_getElem? (i := 20) rfl)) (by decide) (by decide)) q1226a q1226c (g := (mkF m 125 #[.val (.long q1), .second, .val (.long q2), .second, .val (.long q3), .second, .val (.int p4), .val (.long (1000000 : Int64)), .second, .val (.long v1001), .second, .val (.long v1002), .second, .val (.long v1003), .second, .val (.long v1004), .second, .val (.int mv), .val (.int ef), .val (.ref b1007), .val (.ref b_1026), .val (.ref b_1040), .val (.int v1106), .val (.int v1108), .unset, .unset, .unset, .unset, .unset, .unset, .unset, .unset] [(.ref b_1026)])) rfl (by rw [hml]; rfl) (Steps.refl _) (argsL := []) (rest := []) (lenOf pd_1 rfl) rfl (by show 2 * 0 + _ ≤ _; exact Nat.le_of_eq rfl) (hb hby at_125) (fun _ _ => ⟨rfl, e1107, (by decide : 0 + 1 + 0 + 1 + 1 + 0 + 0 + 0 + 0 + 0 ≤ _), (by decide : 0 + 4 + 0 + 3 + 3 + 0 + 0 + 0 + 0 + 0 ≤ _)⟩)
        dsimp only [Pt.U, Pt.locs, Pt.cells, Pt.slots] at X1226 l1226 y1226 z1226 st1226 hQ1226
        subst l1226 y1226 z1226
        obtain ⟨rfl, N1226q, p1227, p1228, p1229, p1230, p1231, p1232, p1233, p1234, p1235, p1236⟩ := hQ1226
        have N1226 := Fr.app N1107 N1226q
        refine OEnds.st (fun _ k => st1226.trans k) ?_
        clear st1226
        have f1237 : Sta Z T1226.heap "com/example/marshalyard/marshalyard/proxy/MovingTries" "WINDOW_NANOS" "J" (.long (1000000 : Int64)) := own_Sta_keep f1091 p1227 (fun x hx => by rcases List.mem_cons.mp hx with rfl | hx; exact own_exa_ns f1093; cases List.mem_singleton.mp hx; exact own_exa_ns p1086)
        have f1238 : Exa Z T1226.heap b1007 "com/example/marshalyard/marshalyard/proxy/MovingTries" := p1086.keep p1227
        have f1239 : Exa Z T1226.heap b_1026 "com/example/marshalyard/marshalyard/proxy/MovingTries$Flight" := f1093.keep p1227
        have f1240 : Exa Z T1226.heap b_1040 "com/example/marshalyard/marshalyard/proxy/MovingTries$Flight" := f1094.keep p1227
        have f1241 : Fld Z T1226.heap b_1040 "com/example/marshalyard/marshalyard/proxy/MovingTries$Flight" "this$0" "Lcom/example/marshalyard/marshalyard/proxy/MovingTries;" (.ref b1007) := f1095.keep p1227 (by simp only [List.mem_cons, List.not_mem_nil, or_false, not_or]; exact ⟨(Ne.symm ne1048), (Ne.symm ne1047)⟩)
        have f1242 : Fld Z T1226.heap b_1040 "com/example/marshalyard/marshalyard/proxy/MovingTries$Flight" "inFlight" "Z" (.int (0 : Int32)) := f1096.keep p1227 (by simp only [List.mem_cons, List.not_mem_nil, or_false, not_or]; exact ⟨(Ne.symm ne1048), (Ne.symm ne1047)⟩)
        have f1243 : Fld Z T1226.heap b_1040 "com/example/marshalyard/marshalyard/proxy/MovingTries$Flight" "window" "J" (.long (0 : Int64)) := f1097.keep p1227 (by simp only [List.mem_cons, List.not_mem_nil, or_false, not_or]; exact ⟨(Ne.symm ne1048), (Ne.symm ne1047)⟩)
        have KK1226 : Keep h0 T1226.heap [] := KK1084.trans p1227 (fun x hx => by rcases List.mem_cons.mp hx with rfl | hx; exact Or.inr sz_b_1026; cases List.mem_singleton.mp hx; exact Or.inr sz_b1007)
        have Z1226 := Nat.le_trans Z1084 p1227.1
        generalize h_nn2 : (own_mvN (0 : Int64) v1003 nn1) = nn2 at p1235
        generalize h_bb2 : (own_mvB (0 : Int64) v1003 bb1) = bb2 at p1236
        show OEnds p.tables e below G (T1226.setTop (mkF m 128 #[.val (.long q1), .second, .val (.long q2), .second, .val (.long q3), .second, .val (.int p4), .val (.long (1000000 : Int64)), .second, .val (.long v1001), .second, .val (.long v1002), .second, .val (.long v1003), .second, .val (.long v1004), .second, .val (.int mv), .val (.int ef), .val (.ref b1007), .val (.ref b_1026), .val (.ref b_1040), .val (.int v1106), .val (.int v1108), .unset, .unset, .unset, .unset, .unset, .unset, .unset, .unset] []))
        refine OEnds.st (fun _ k => XS.iload X1226.here hx rfl (hb hby at_128) rfl k) ?_
        show OEnds p.tables e below G (T1226.setTop (mkF m 130 #[.val (.long q1), .second, .val (.long q2), .second, .val (.long q3), .second, .val (.int p4), .val (.long (1000000 : Int64)), .second, .val (.long v1001), .second, .val (.long v1002), .second, .val (.long v1003), .second, .val (.long v1004), .second, .val (.int mv), .val (.int ef), .val (.ref b1007), .val (.ref b_1026), .val (.ref b_1040), .val (.int v1106), .val (.int v1108), .unset, .unset, .unset, .unset, .unset, .unset, .unset, .unset] [(.int mv)]))
        refine OEnds.st (fun _ k => XS.ifNo X1226.here hx rfl (hb hby at_130) rfl ((if0 _ _).trans (feq hc120_1109).1) k) ?_
        show OEnds p.tables e below G (T1226.setTop (mkF m 133 #[.val (.long q1), .second, .val (.long q2), .second, .val (.long q3), .second, .val (.int p4), .val (.long (1000000 : Int64)), .second, .val (.long v1001), .second, .val (.long v1002), .second, .val (.long v1003), .second, .val (.long v1004), .second, .val (.int mv), .val (.int ef), .val (.ref b1007), .val (.ref b_1026), .val (.ref b_1040), .val (.int v1106), .val (.int v1108), .unset, .unset, .unset, .unset, .unset, .unset, .unset, .unset] []))
        refine OEnds.st (fun _ k => XS.lload X1226.here hx rfl (hb hby at_133) rfl k) ?_
        show OEnds p.tables e below G (T1226.setTop (mkF m 135 #[.val (.long q1), .second, .val (.long q2), .second, .val (.long q3), .second, .val (.int p4), .val (.long (1000000 : Int64)), .second, .val (.long v1001), .second, .val (.long v1002), .second, .val (.long v1003), .second, .val (.long v1004), .second, .val (.int mv), .val (.int ef), .val (.ref b1007), .val (.ref b_1026), .val (.ref b_1040), .val (.int v1106), .val (.int v1108), .unset, .unset, .unset, .unset, .unset, .unset, .unset, .unset] [(.long v1003)]))
        refine OEnds.st (fun _ k => XS.goto X1226.here hx rfl (pc0 := 135) (pc' := 139) rfl (hb hby at_135) (by decide) (by decide) k) ?_
        show OEnds p.tables e below G (T1226.setTop (mkF m 139 #[.val (.long q1), .second, .val (.long q2), .second, .val (.long q3), .second, .val (.int p4), .val (.long (1000000 : Int64)), .second, .val (.long v1001), .second, .val (.long v1002), .second, .val (.long v1003), .second, .val (.long v1004), .second, .val (.int mv), .val (.int ef), .val (.ref b1007), .val (.ref b_1026), .val (.ref b_1040), .val (.int v1106), .val (.int v1108), .unset, .unset, .unset, .unset, .unset, .unset, .unset, .unset] [(.long v1003)]))
        refine OEnds.st (fun _ k => XS.lstore X1226.here hx rfl (hb hby at_139) rfl (l' := #[.val (.long q1), .second, .val (.long q2), .second, .val (.long q3), .second, .val (.int p4), .val (.long (1000000 : Int64)), .second, .val (.long v1001), .second, .val (.long v1002), .second, .val (.long v1003), .second, .val (.long v1004), .second, .val (.int mv), .val (.int ef), .val (.ref b1007), .val (.ref b_1026), .val (.ref b_1040), .val (.int v1106), .val (.int v1108), .val (.long v1003), .second, .unset, .unset, .unset, .unset, .unset, .unset]) rfl k) ?_
        show OEnds p.tables e below G (T1226.setTop (mkF m 141 #[.val (.long q1), .second, .val (.long q2), .second, .val (.long q3), .second, .val (.int p4), .val (.long (1000000 : Int64)), .second, .val (.long v1001), .second, .val (.long v1002), .second, .val (.long v1003), .second, .val (.long v1004), .second, .val (.int mv), .val (.int ef), .val (.ref b1007), .val (.ref b_1026), .val (.ref b_1040), .val (.int v1106), .val (.int v1108), .val (.long v1003), .second, .unset, .unset, .unset, .unset, .unset, .unset] []))
        refine OEnds.st (fun _ k => XS.aload X1226.here hx rfl (hb hby at_141) rfl rfl k) ?_
        show OEnds p.tables e below G (T1226.setTop (mkF m 143 #[.val (.long q1), .second, .val (.long q2), .second, .val (.long q3), .second, .val (.int p4), .val (.long (1000000 : Int64)), .second, .val (.long v1001), .second, .val (.long v1002), .second, .val (.long v1003), .second, .val (.long v1004), .second, .val (.int mv), .val (.int ef), .val (.ref b1007), .val (.ref b_1026), .val (.ref b_1040), .val (.int v1106), .val (.int v1108), .val (.long v1003), .second, .unset, .unset, .unset, .unset, .unset, .unset] [(.ref b_1040)]))
        obtain ⟨cq1251, kq1251, q1251a, q1251b, q1251c⟩ := isOf hZ rfl f1240
        obtain ⟨_, _, ⟨T1251, L1251, k1251c, n1251c⟩, -, X1251, ⟨Lc1251, hQ1251, l1251, y1251, z1251⟩, st1251⟩ := X1226.virtualBack hx (y := (⟨"com/example/marshalyard/marshalyard/proxy/MovingTries$Flight", "begin", "()V"⟩ : MethodName)) (z := (⟨"com/example/marshalyard/marshalyard/proxy/MovingTries$Flight", "begin", "()V"⟩ : MethodName)) hown (mvT hZ (hw _ (List.mem_of_getElem? (i := 27) rfl))) (mvT hZ (hw _ (List.mem_of_getElem? (i := 28) rfl))) (notFace_of_selects (args := #[]) (mvT hZ (hw _ (List.mem_of_getElem? (i := 30) rfl)))) (mvT hZ (hw _ (List.mem_of_getElem? (i := 30) rfl))) (mvT hZ (hw _ (List.mem_of_getElem? (i := 29) rfl))) (by decide) (backOf (W := 0) (rmbeg0 l Z a0 hw [] b_1040 b1007 (0 : Int64) ws1 v1003 nn2 bb2 T1226.heap n0 Z1226 f1240 f1241 f1242 f1243 p1232 p1233 p1234 p1235 p1236 ge_b_1040 ge_b1007 (Ne.symm ne1047)) hZ (hw _ (List.mem_of_getElem? (i := 31) rfl)) (hw _ (List.mem_of_getElem? (i := 20) rfl)) (by decide) (by decide)) q1251a q1251c (g := (mkF m 143 #[.val (.long q1), .second, .val (.long q2), .second, .val (.long q3), .second, .val (.int p4), .val (.long (1000000 : Int64)), .second, .val (.long v1001), .second, .val (.long v1002), .second, .val (.long v1003), .second, .val (.long v1004), .second, .val (.int mv), .val (.int ef), .val (.ref b1007), .val (.ref b_1026), .val (.ref b_1040), .val (.int v1106), .val (.int v1108), .val (.long v1003), .second, .unset, .unset, .unset, .unset, .unset, .unset] [(.ref b_1040)])) rfl (by rw [hml]; rfl) (Steps.refl _) (argsL := []) (rest := []) (lenOf pd_1 rfl) rfl (by show 2 * 0 + _ ≤ _; exact Nat.le_of_eq rfl) (hb hby at_143) (fun _ _ => ⟨rfl, rfl, (by decide : 0 + 1 + 0 + 1 + 1 + 0 + 0 + 0 + 0 + 0 + 0 ≤ _), (by decide : 0 + 4 + 0 + 3 + 3 + 0 + 0 + 0 + 0 + 0 + 0 ≤ _)⟩)
        dsimp only [Pt.U, Pt.locs, Pt.cells, Pt.slots] at X1251 l1251 y1251 z1251 st1251 hQ1251
        subst l1251 y1251 z1251
        obtain ⟨rfl, N1251q, p1252, p1253, p1254, p1255, p1256, p1257, p1258, p1259, p1260, p1261⟩ := hQ1251
        have N1251 := Fr.app N1226 N1251q
        refine OEnds.st (fun _ k => st1251.trans k) ?_
        clear st1251
        have f1262 : Sta Z T1251.heap "com/example/marshalyard/marshalyard/proxy/MovingTries" "WINDOW_NANOS" "J" (.long (1000000 : Int64)) := own_Sta_keep f1237 p1252 (fun x hx => by rcases List.mem_cons.mp hx with rfl | hx; exact own_exa_ns f1240; cases List.mem_singleton.mp hx; exact own_exa_ns p1232)
        have f1263 : Exa Z T1251.heap b1007 "com/example/marshalyard/marshalyard/proxy/MovingTries" := p1232.keep p1252
        have f1264 : Exa Z T1251.heap b_1026 "com/example/marshalyard/marshalyard/proxy/MovingTries$Flight" := p1228.keep p1252
        have f1265 : Exa Z T1251.heap b_1040 "com/example/marshalyard/marshalyard/proxy/MovingTries$Flight" := f1240.keep p1252
        have f1269 : Fld Z T1251.heap b_1026 "com/example/marshalyard/marshalyard/proxy/MovingTries$Flight" "this$0" "Lcom/example/marshalyard/marshalyard/proxy/MovingTries;" (.ref b1007) := p1229.keep p1252 (by simp only [List.mem_cons, List.not_mem_nil, or_false, not_or]; exact ⟨ne1048, (Ne.symm ne1033)⟩)
        have f1270 : Fld Z T1251.heap b_1026 "com/example/marshalyard/marshalyard/proxy/MovingTries$Flight" "inFlight" "Z" (.int (1 : Int32)) := p1230.keep p1252 (by simp only [List.mem_cons, List.not_mem_nil, or_false, not_or]; exact ⟨ne1048, (Ne.symm ne1033)⟩)
        have f1271 : Fld Z T1251.heap b_1026 "com/example/marshalyard/marshalyard/proxy/MovingTries$Flight" "window" "J" (.long v1003) := p1231.keep p1252 (by simp only [List.mem_cons, List.not_mem_nil, or_false, not_or]; exact ⟨ne1048, (Ne.symm ne1033)⟩)
        have KK1251 : Keep h0 T1251.heap [] := KK1226.trans p1252 (fun x hx => by rcases List.mem_cons.mp hx with rfl | hx; exact Or.inr sz_b_1040; cases List.mem_singleton.mp hx; exact Or.inr sz_b1007)
        have Z1251 := Nat.le_trans Z1226 p1252.1
        generalize h_nn3 : (nn2 + (1 : Int32)) = nn3 at p1260
        show OEnds p.tables e below G (T1251.setTop (mkF m 146 #[.val (.long q1), .second, .val (.long q2), .second, .val (.long q3), .second, .val (.int p4), .val (.long (1000000 : Int64)), .second, .val (.long v1001), .second, .val (.long v1002), .second, .val (.long v1003), .second, .val (.long v1004), .second, .val (.int mv), .val (.int ef), .val (.ref b1007), .val (.ref b_1026), .val (.ref b_1040), .val (.int v1106), .val (.int v1108), .val (.long v1003), .second, .unset, .unset, .unset, .unset, .unset, .unset] []))
        refine OEnds.st (fun _ k => XS.lload X1251.here hx rfl (hb hby at_146) rfl k) ?_
        show OEnds p.tables e below G (T1251.setTop (mkF m 148 #[.val (.long q1), .second, .val (.long q2), .second, .val (.long q3), .second, .val (.int p4), .val (.long (1000000 : Int64)), .second, .val (.long v1001), .second, .val (.long v1002), .second, .val (.long v1003), .second, .val (.long v1004), .second, .val (.int mv), .val (.int ef), .val (.ref b1007), .val (.ref b_1026), .val (.ref b_1040), .val (.int v1106), .val (.int v1108), .val (.long v1003), .second, .unset, .unset, .unset, .unset, .unset, .unset] [(.long v1003)]))
        refine OEnds.st (fun _ k => XS.lstore X1251.here hx rfl (hb hby at_148) rfl (l' := #[.val (.long q1), .second, .val (.long q2), .second, .val (.long q3), .second, .val (.int p4), .val (.long (1000000 : Int64)), .second, .val (.long v1001), .second, .val (.long v1002), .second, .val (.long v1003), .second, .val (.long v1004), .second, .val (.int mv), .val (.int ef), .val (.ref b1007), .val (.ref b_1026), .val (.ref b_1040), .val (.int v1106), .val (.int v1108), .val (.long v1003), .second, .val (.long v1003), .second, .unset, .unset, .unset, .unset]) rfl k) ?_
        show OEnds p.tables e below G (T1251.setTop (mkF m 150 #[.val (.long q1), .second, .val (.long q2), .second, .val (.long q3), .second, .val (.int p4), .val (.long (1000000 : Int64)), .second, .val (.long v1001), .second, .val (.long v1002), .second, .val (.long v1003), .second, .val (.long v1004), .second, .val (.int mv), .val (.int ef), .val (.ref b1007), .val (.ref b_1026), .val (.ref b_1040), .val (.int v1106), .val (.int v1108), .val (.long v1003), .second, .val (.long v1003), .second, .unset, .unset, .unset, .unset] []))
        refine OEnds.st (fun _ k => XS.aload X1251.here hx rfl (hb hby at_150) rfl rfl k) ?_
        show OEnds p.tables e below G (T1251.setTop (mkF m 152 #[.val (.long q1), .second, .val (.long q2), .second, .val (.long q3), .second, .val (.int p4), .val (.long (1000000 : Int64)), .second, .val (.long v1001), .second, .val (.long v1002), .second, .val (.long v1003), .second, .val (.long v1004), .second, .val (.int mv), .val (.int ef), .val (.ref b1007), .val (.ref b_1026), .val (.ref b_1040), .val (.int v1106), .val (.int v1108), .val (.long v1003), .second, .val (.long v1003), .second, .unset, .unset, .unset, .unset] [(.ref b1007)]))
        refine OEnds.st (fun _ k => XS.lloadN X1251.here hx rfl (hb hby at_152) rfl k) ?_
        show OEnds p.tables e below G (T1251.setTop (mkF m 153 #[.val (.long q1), .second, .val (.long q2), .second, .val (.long q3), .second, .val (.int p4), .val (.long (1000000 : Int64)), .second, .val (.long v1001), .second, .val (.long v1002), .second, .val (.long v1003), .second, .val (.long v1004), .second, .val (.int mv), .val (.int ef), .val (.ref b1007), .val (.ref b_1026), .val (.ref b_1040), .val (.int v1106), .val (.int v1108), .val (.long v1003), .second, .val (.long v1003), .second, .unset, .unset, .unset, .unset] [(.long q1), (.ref b1007)]))
        refine OEnds.st (fun _ k => XS.lload X1251.here hx rfl (hb hby at_153) rfl k) ?_
        show OEnds p.tables e below G (T1251.setTop (mkF m 155 #[.val (.long q1), .second, .val (.long q2), .second, .val (.long q3), .second, .val (.int p4), .val (.long (1000000 : Int64)), .second, .val (.long v1001), .second, .val (.long v1002), .second, .val (.long v1003), .second, .val (.long v1004), .second, .val (.int mv), .val (.int ef), .val (.ref b1007), .val (.ref b_1026), .val (.ref b_1040), .val (.int v1106), .val (.int v1108), .val (.long v1003), .second, .val (.long v1003), .second, .unset, .unset, .unset, .unset] [(.long v1001), (.long q1), (.ref b1007)]))
        refine OEnds.st (fun _ k => XS.ladd X1251.here hx rfl (hb hby at_155) rfl k) ?_
        show OEnds p.tables e below G (T1251.setTop (mkF m 156 #[.val (.long q1), .second, .val (.long q2), .second, .val (.long q3), .second, .val (.int p4), .val (.long (1000000 : Int64)), .second, .val (.long v1001), .second, .val (.long v1002), .second, .val (.long v1003), .second, .val (.long v1004), .second, .val (.int mv), .val (.int ef), .val (.ref b1007), .val (.ref b_1026), .val (.ref b_1040), .val (.int v1106), .val (.int v1108), .val (.long v1003), .second, .val (.long v1003), .second, .unset, .unset, .unset, .unset] [(.long (q1 + v1001)), (.ref b1007)]))
        refine OEnds.st (fun _ k => XS.lload X1251.here hx rfl (hb hby at_156) rfl k) ?_
        show OEnds p.tables e below G (T1251.setTop (mkF m 158 #[.val (.long q1), .second, .val (.long q2), .second, .val (.long q3), .second, .val (.int p4), .val (.long (1000000 : Int64)), .second, .val (.long v1001), .second, .val (.long v1002), .second, .val (.long v1003), .second, .val (.long v1004), .second, .val (.int mv), .val (.int ef), .val (.ref b1007), .val (.ref b_1026), .val (.ref b_1040), .val (.int v1106), .val (.int v1108), .val (.long v1003), .second, .val (.long v1003), .second, .unset, .unset, .unset, .unset] [(.long v1002), (.long (q1 + v1001)), (.ref b1007)]))
        refine OEnds.st (fun _ k => XS.ladd X1251.here hx rfl (hb hby at_158) rfl k) ?_
        show OEnds p.tables e below G (T1251.setTop (mkF m 159 #[.val (.long q1), .second, .val (.long q2), .second, .val (.long q3), .second, .val (.int p4), .val (.long (1000000 : Int64)), .second, .val (.long v1001), .second, .val (.long v1002), .second, .val (.long v1003), .second, .val (.long v1004), .second, .val (.int mv), .val (.int ef), .val (.ref b1007), .val (.ref b_1026), .val (.ref b_1040), .val (.int v1106), .val (.int v1108), .val (.long v1003), .second, .val (.long v1003), .second, .unset, .unset, .unset, .unset] [(.long ((q1 + v1001) + v1002)), (.ref b1007)]))
        obtain ⟨cq1276, kq1276, q1276a, q1276b, q1276c⟩ := isOf hZ rfl p1257
        obtain ⟨_, _, ⟨T1276, L1276, k1276c, n1276c⟩, -, X1276, ⟨Lc1276, hQ1276, l1276, y1276, z1276⟩, st1276⟩ := X1251.virtualBack hx (y := (⟨"com/example/marshalyard/marshalyard/proxy/MovingTries", "advance", "(J)V"⟩ : MethodName)) (z := (⟨"com/example/marshalyard/marshalyard/proxy/MovingTries", "advance", "(J)V"⟩ : MethodName)) hown (mvT hZ (hw _ (List.mem_of_getElem? (i := 45) rfl))) (mvT hZ (hw _ (List.mem_of_getElem? (i := 46) rfl))) (notFace_of_selects (args := #[]) (mvT hZ (hw _ (List.mem_of_getElem? (i := 48) rfl)))) (mvT hZ (hw _ (List.mem_of_getElem? (i := 48) rfl))) (mvT hZ (hw _ (List.mem_of_getElem? (i := 47) rfl))) (by decide) (backOf (W := 0) (rm7 l Z a0 hw [] b1007 ((q1 + v1001) + v1002) ws1 v1003 nn3 bb2 T1251.heap n0 Z1251 p1257 p1258 p1259 p1260 p1261 f1262 ge_b1007) hZ (hw _ (List.mem_of_getElem? (i := 49) rfl)) (hw _ (List.mem_of_getElem? (i := 4) rfl)) (by decide) (by decide)) q1276a q1276c (g := (mkF m 159 #[.val (.long q1), .second, .val (.long q2), .second, .val (.long q3), .second, .val (.int p4), .val (.long (1000000 : Int64)), .second, .val (.long v1001), .second, .val (.long v1002), .second, .val (.long v1003), .second, .val (.long v1004), .second, .val (.int mv), .val (.int ef), .val (.ref b1007), .val (.ref b_1026), .val (.ref b_1040), .val (.int v1106), .val (.int v1108), .val (.long v1003), .second, .val (.long v1003), .second, .unset, .unset, .unset, .unset] [(.long ((q1 + v1001) + v1002)), (.ref b1007)])) rfl (by rw [hml]; rfl) (Steps.refl _) (argsL := [(.long ((q1 + v1001) + v1002))]) (rest := []) (lenOf pd_2 rfl) rfl (by show 2 * 0 + _ ≤ _; exact Nat.le_of_eq rfl) (hb hby at_159) (fun _ _ => ⟨rfl, rfl, (by decide : 0 + 1 + 0 + 1 + 1 + 0 + 0 + 0 + 0 + 0 + 0 + 0 ≤ _), (by decide : 0 + 4 + 0 + 3 + 3 + 0 + 0 + 0 + 0 + 0 + 0 + 0 ≤ _)⟩)
        dsimp only [Pt.U, Pt.locs, Pt.cells, Pt.slots] at X1276 l1276 y1276 z1276 st1276 hQ1276
        subst l1276 y1276 z1276
        obtain ⟨rfl, N1276q, p1277, p1278, p1279, p1280, p1281, p1282⟩ := hQ1276
        have N1276 := Fr.app N1251 N1276q
        refine OEnds.st (fun _ k => st1276.trans k) ?_
        clear st1276
        have f1283 : Sta Z T1276.heap "com/example/marshalyard/marshalyard/proxy/MovingTries" "WINDOW_NANOS" "J" (.long (1000000 : Int64)) := own_Sta_keep f1262 p1277 (fun x hx => by cases List.mem_singleton.mp hx; exact own_exa_ns p1257)
        have f1284 : Exa Z T1276.heap b1007 "com/example/marshalyard/marshalyard/proxy/MovingTries" := p1257.keep p1277
        have f1285 : Exa Z T1276.heap b_1026 "com/example/marshalyard/marshalyard/proxy/MovingTries$Flight" := f1264.keep p1277
        have f1286 : Exa Z T1276.heap b_1040 "com/example/marshalyard/marshalyard/proxy/MovingTries$Flight" := p1253.keep p1277
        have f1287 : Fld Z T1276.heap b_1026 "com/example/marshalyard/marshalyard/proxy/MovingTries$Flight" "this$0" "Lcom/example/marshalyard/marshalyard/proxy/MovingTries;" (.ref b1007) := f1269.keep p1277 (by simp only [List.mem_cons, List.not_mem_nil, or_false, not_or]; exact (Ne.symm ne1033))
        have f1288 : Fld Z T1276.heap b_1026 "com/example/marshalyard/marshalyard/proxy/MovingTries$Flight" "inFlight" "Z" (.int (1 : Int32)) := f1270.keep p1277 (by simp only [List.mem_cons, List.not_mem_nil, or_false, not_or]; exact (Ne.symm ne1033))
        have f1289 : Fld Z T1276.heap b_1026 "com/example/marshalyard/marshalyard/proxy/MovingTries$Flight" "window" "J" (.long v1003) := f1271.keep p1277 (by simp only [List.mem_cons, List.not_mem_nil, or_false, not_or]; exact (Ne.symm ne1033))
        have f1290 : Fld Z T1276.heap b_1040 "com/example/marshalyard/marshalyard/proxy/MovingTries$Flight" "this$0" "Lcom/example/marshalyard/marshalyard/proxy/MovingTries;" (.ref b1007) := p1254.keep p1277 (by simp only [List.mem_cons, List.not_mem_nil, or_false, not_or]; exact (Ne.symm ne1047))
        have f1291 : Fld Z T1276.heap b_1040 "com/example/marshalyard/marshalyard/proxy/MovingTries$Flight" "inFlight" "Z" (.int (1 : Int32)) := p1255.keep p1277 (by simp only [List.mem_cons, List.not_mem_nil, or_false, not_or]; exact (Ne.symm ne1047))
        have f1292 : Fld Z T1276.heap b_1040 "com/example/marshalyard/marshalyard/proxy/MovingTries$Flight" "window" "J" (.long v1003) := p1256.keep p1277 (by simp only [List.mem_cons, List.not_mem_nil, or_false, not_or]; exact (Ne.symm ne1047))
        have KK1276 : Keep h0 T1276.heap [] := KK1251.trans p1277 (fun x hx => by cases List.mem_singleton.mp hx; exact Or.inr sz_b1007)
        have Z1276 := Nat.le_trans Z1251 p1277.1
        generalize h_ws4 : (own_aS ws1 ((q1 + v1001) + v1002)) = ws4 at p1279
        generalize h_wd4 : (own_aW v1003 ws1 ((q1 + v1001) + v1002)) = wd4 at p1280
        generalize h_nn4 : (own_aN nn3 ws1 ((q1 + v1001) + v1002)) = nn4 at p1281
        generalize h_bb4 : (own_aB nn3 bb2 ws1 ((q1 + v1001) + v1002)) = bb4 at p1282
        obtain ⟨hw4, hn4, hb4⟩ := own_A2 hD hs1 h_wd4 h_nn4 h_bb4
        have hw4' := hw4.symm
        subst hw4'
        show OEnds p.tables e below G (T1276.setTop (mkF m 162 #[.val (.long q1), .second, .val (.long q2), .second, .val (.long q3), .second, .val (.int p4), .val (.long (1000000 : Int64)), .second, .val (.long v1001), .second, .val (.long v1002), .second, .val (.long v1003), .second, .val (.long v1004), .second, .val (.int mv), .val (.int ef), .val (.ref b1007), .val (.ref b_1026), .val (.ref b_1040), .val (.int v1106), .val (.int v1108), .val (.long v1003), .second, .val (.long v1003), .second, .unset, .unset, .unset, .unset] []))
        refine OEnds.st (fun _ k => XS.aload X1276.here hx rfl (hb hby at_162) rfl rfl k) ?_
        show OEnds p.tables e below G (T1276.setTop (mkF m 164 #[.val (.long q1), .second, .val (.long q2), .second, .val (.long q3), .second, .val (.int p4), .val (.long (1000000 : Int64)), .second, .val (.long v1001), .second, .val (.long v1002), .second, .val (.long v1003), .second, .val (.long v1004), .second, .val (.int mv), .val (.int ef), .val (.ref b1007), .val (.ref b_1026), .val (.ref b_1040), .val (.int v1106), .val (.int v1108), .val (.long v1003), .second, .val (.long v1003), .second, .unset, .unset, .unset, .unset] [(.ref b1007)]))
        obtain ⟨cq1297, kq1297, q1297a, q1297b, q1297c⟩ := isOf hZ rfl p1278
        obtain ⟨_, _, ⟨T1297, L1297, k1297c, n1297c⟩, -, X1297, ⟨Lc1297, hQ1297, l1297, y1297, z1297⟩, st1297⟩ := X1276.virtualBack hx (y := (⟨"com/example/marshalyard/marshalyard/proxy/MovingTries", "count", "()I"⟩ : MethodName)) (z := (⟨"com/example/marshalyard/marshalyard/proxy/MovingTries", "count", "()I"⟩ : MethodName)) hown (mvT hZ (hw _ (List.mem_of_getElem? (i := 52) rfl))) (mvT hZ (hw _ (List.mem_of_getElem? (i := 53) rfl))) (notFace_of_selects (args := #[]) (mvT hZ (hw _ (List.mem_of_getElem? (i := 55) rfl)))) (mvT hZ (hw _ (List.mem_of_getElem? (i := 55) rfl))) (mvT hZ (hw _ (List.mem_of_getElem? (i := 54) rfl))) (by decide) (backOf (W := 0) (rm8 l Z a0 hw [] b1007 nn4 bb4 T1276.heap n0 Z1276 p1281 p1282) hZ (hw _ (List.mem_of_getElem? (i := 56) rfl)) (hw _ (List.mem_of_getElem? (i := 4) rfl)) (by decide) (by decide)) q1297a q1297c (g := (mkF m 164 #[.val (.long q1), .second, .val (.long q2), .second, .val (.long q3), .second, .val (.int p4), .val (.long (1000000 : Int64)), .second, .val (.long v1001), .second, .val (.long v1002), .second, .val (.long v1003), .second, .val (.long v1004), .second, .val (.int mv), .val (.int ef), .val (.ref b1007), .val (.ref b_1026), .val (.ref b_1040), .val (.int v1106), .val (.int v1108), .val (.long v1003), .second, .val (.long v1003), .second, .unset, .unset, .unset, .unset] [(.ref b1007)])) rfl (by rw [hml]; rfl) (Steps.refl _) (argsL := []) (rest := []) (lenOf pd_4 rfl) rfl (by show 2 * 0 + _ ≤ _; exact Nat.le_of_eq rfl) (hb hby at_164) (fun _ _ => ⟨rfl, rfl, (by decide : 0 + 1 + 0 + 1 + 1 + 0 + 0 + 0 + 0 + 0 + 0 + 0 + 0 ≤ _), (by decide : 0 + 4 + 0 + 3 + 3 + 0 + 0 + 0 + 0 + 0 + 0 + 0 + 0 ≤ _)⟩)
        dsimp only [Pt.U, Pt.locs, Pt.cells, Pt.slots] at X1297 l1297 y1297 z1297 st1297 hQ1297
        subst l1297 y1297 z1297
        obtain ⟨rfl, N1297q, e1297⟩ := hQ1297
        have N1297 := Fr.app N1276 N1297q
        refine OEnds.st (fun _ k => st1297.trans k) ?_
        clear st1297
        show OEnds p.tables e below G (T1297.setTop (mkF m 167 #[.val (.long q1), .second, .val (.long q2), .second, .val (.long q3), .second, .val (.int p4), .val (.long (1000000 : Int64)), .second, .val (.long v1001), .second, .val (.long v1002), .second, .val (.long v1003), .second, .val (.long v1004), .second, .val (.int mv), .val (.int ef), .val (.ref b1007), .val (.ref b_1026), .val (.ref b_1040), .val (.int v1106), .val (.int v1108), .val (.long v1003), .second, .val (.long v1003), .second, .unset, .unset, .unset, .unset] [(.int (nn4 + bb4))]))
        refine OEnds.st (fun _ k => XS.istore X1297.here hx rfl (hb hby at_167) rfl (l' := #[.val (.long q1), .second, .val (.long q2), .second, .val (.long q3), .second, .val (.int p4), .val (.long (1000000 : Int64)), .second, .val (.long v1001), .second, .val (.long v1002), .second, .val (.long v1003), .second, .val (.long v1004), .second, .val (.int mv), .val (.int ef), .val (.ref b1007), .val (.ref b_1026), .val (.ref b_1040), .val (.int v1106), .val (.int v1108), .val (.long v1003), .second, .val (.long v1003), .second, .val (.int (nn4 + bb4)), .unset, .unset, .unset]) rfl k) ?_
        show OEnds p.tables e below G (T1297.setTop (mkF m 169 #[.val (.long q1), .second, .val (.long q2), .second, .val (.long q3), .second, .val (.int p4), .val (.long (1000000 : Int64)), .second, .val (.long v1001), .second, .val (.long v1002), .second, .val (.long v1003), .second, .val (.long v1004), .second, .val (.int mv), .val (.int ef), .val (.ref b1007), .val (.ref b_1026), .val (.ref b_1040), .val (.int v1106), .val (.int v1108), .val (.long v1003), .second, .val (.long v1003), .second, .val (.int (nn4 + bb4)), .unset, .unset, .unset] []))
        generalize hv_v1298 : (nn4 + bb4) = v1298
        show OEnds p.tables e below G (T1297.setTop (mkF m 169 #[.val (.long q1), .second, .val (.long q2), .second, .val (.long q3), .second, .val (.int p4), .val (.long (1000000 : Int64)), .second, .val (.long v1001), .second, .val (.long v1002), .second, .val (.long v1003), .second, .val (.long v1004), .second, .val (.int mv), .val (.int ef), .val (.ref b1007), .val (.ref b_1026), .val (.ref b_1040), .val (.int v1106), .val (.int v1108), .val (.long v1003), .second, .val (.long v1003), .second, .val (.int v1298), .unset, .unset, .unset] []))
        refine OEnds.st (fun _ k => XS.lload X1297.here hx rfl (hb hby at_169) rfl k) ?_
        show OEnds p.tables e below G (T1297.setTop (mkF m 171 #[.val (.long q1), .second, .val (.long q2), .second, .val (.long q3), .second, .val (.int p4), .val (.long (1000000 : Int64)), .second, .val (.long v1001), .second, .val (.long v1002), .second, .val (.long v1003), .second, .val (.long v1004), .second, .val (.int mv), .val (.int ef), .val (.ref b1007), .val (.ref b_1026), .val (.ref b_1040), .val (.int v1106), .val (.int v1108), .val (.long v1003), .second, .val (.long v1003), .second, .val (.int v1298), .unset, .unset, .unset] [(.long v1003)]))
        refine OEnds.st (fun _ k => XS.lload X1297.here hx rfl (hb hby at_171) rfl k) ?_
        show OEnds p.tables e below G (T1297.setTop (mkF m 173 #[.val (.long q1), .second, .val (.long q2), .second, .val (.long q3), .second, .val (.int p4), .val (.long (1000000 : Int64)), .second, .val (.long v1001), .second, .val (.long v1002), .second, .val (.long v1003), .second, .val (.long v1004), .second, .val (.int mv), .val (.int ef), .val (.ref b1007), .val (.ref b_1026), .val (.ref b_1040), .val (.int v1106), .val (.int v1108), .val (.long v1003), .second, .val (.long v1003), .second, .val (.int v1298), .unset, .unset, .unset] [(.long v1004), (.long v1003)]))
        obtain ⟨_, _, ⟨T1299, L1299, k1299c, n1299c⟩, -, X1299, ⟨Lc1299, hQ1299, l1299, y1299, z1299⟩, st1299⟩ := Jvm.LawKit.callS X1297 hx (y := (⟨"com/example/marshalyard/marshalyard/proxy/MovingTriesAdvancePinLaw", "counted", "(JJ)I"⟩ : MethodName)) hown (mvT hZ (hw _ (List.mem_of_getElem? (i := 60) rfl))) (mvT hZ (hw _ (List.mem_of_getElem? (i := 61) rfl))) (mvT hZ (hw _ (List.mem_of_getElem? (i := 62) rfl))) (mvT hZ (hw _ (List.mem_of_getElem? (i := 63) rfl))) (by decide) (backOf (W := 0) (rm9 l Z a0 hw [] v1003 v1004 T1276.heap n0 Z1276 ) hZ (hw _ (List.mem_of_getElem? (i := 63) rfl)) (hw _ (List.mem_of_getElem? (i := 62) rfl)) (by decide) (by decide)) (g := (mkF m 173 #[.val (.long q1), .second, .val (.long q2), .second, .val (.long q3), .second, .val (.int p4), .val (.long (1000000 : Int64)), .second, .val (.long v1001), .second, .val (.long v1002), .second, .val (.long v1003), .second, .val (.long v1004), .second, .val (.int mv), .val (.int ef), .val (.ref b1007), .val (.ref b_1026), .val (.ref b_1040), .val (.int v1106), .val (.int v1108), .val (.long v1003), .second, .val (.long v1003), .second, .val (.int v1298), .unset, .unset, .unset] [(.long v1004), (.long v1003)])) rfl (by rw [hml]; rfl) (argsL := [(.long v1003), (.long v1004)]) (rest := []) (lenOf pd_5 rfl) rfl (by show 2 * 0 + _ ≤ _; exact Nat.le_of_eq rfl) (hb hby at_173) (fun _ _ => ⟨rfl, e1297, (by decide : 0 + 1 + 0 + 1 + 1 + 0 + 0 + 0 + 0 + 0 + 0 + 0 + 0 + 0 ≤ _), (by decide : 0 + 4 + 0 + 3 + 3 + 0 + 0 + 0 + 0 + 0 + 0 + 0 + 0 + 0 ≤ _)⟩)
        dsimp only [Pt.U, Pt.locs, Pt.cells, Pt.slots] at X1299 l1299 y1299 z1299 st1299 hQ1299
        subst l1299 y1299 z1299
        obtain ⟨rfl, N1299q, e1299⟩ := hQ1299
        have N1299 := Fr.app N1297 N1299q
        refine OEnds.st st1299 ?_
        clear st1299
        show OEnds p.tables e below G (T1299.setTop (mkF m 176 #[.val (.long q1), .second, .val (.long q2), .second, .val (.long q3), .second, .val (.int p4), .val (.long (1000000 : Int64)), .second, .val (.long v1001), .second, .val (.long v1002), .second, .val (.long v1003), .second, .val (.long v1004), .second, .val (.int mv), .val (.int ef), .val (.ref b1007), .val (.ref b_1026), .val (.ref b_1040), .val (.int v1106), .val (.int v1108), .val (.long v1003), .second, .val (.long v1003), .second, .val (.int v1298), .unset, .unset, .unset] [(.int (own_cnt v1003 v1004))]))
        refine OEnds.st (fun _ k => XS.lload X1299.here hx rfl (hb hby at_176) rfl k) ?_
        show OEnds p.tables e below G (T1299.setTop (mkF m 178 #[.val (.long q1), .second, .val (.long q2), .second, .val (.long q3), .second, .val (.int p4), .val (.long (1000000 : Int64)), .second, .val (.long v1001), .second, .val (.long v1002), .second, .val (.long v1003), .second, .val (.long v1004), .second, .val (.int mv), .val (.int ef), .val (.ref b1007), .val (.ref b_1026), .val (.ref b_1040), .val (.int v1106), .val (.int v1108), .val (.long v1003), .second, .val (.long v1003), .second, .val (.int v1298), .unset, .unset, .unset] [(.long v1003), (.int (own_cnt v1003 v1004))]))
        refine OEnds.st (fun _ k => XS.lload X1299.here hx rfl (hb hby at_178) rfl k) ?_
        show OEnds p.tables e below G (T1299.setTop (mkF m 180 #[.val (.long q1), .second, .val (.long q2), .second, .val (.long q3), .second, .val (.int p4), .val (.long (1000000 : Int64)), .second, .val (.long v1001), .second, .val (.long v1002), .second, .val (.long v1003), .second, .val (.long v1004), .second, .val (.int mv), .val (.int ef), .val (.ref b1007), .val (.ref b_1026), .val (.ref b_1040), .val (.int v1106), .val (.int v1108), .val (.long v1003), .second, .val (.long v1003), .second, .val (.int v1298), .unset, .unset, .unset] [(.long v1004), (.long v1003), (.int (own_cnt v1003 v1004))]))
        obtain ⟨_, _, ⟨T1300, L1300, k1300c, n1300c⟩, -, X1300, ⟨Lc1300, hQ1300, l1300, y1300, z1300⟩, st1300⟩ := Jvm.LawKit.callS X1299 hx (y := (⟨"com/example/marshalyard/marshalyard/proxy/MovingTriesAdvancePinLaw", "counted", "(JJ)I"⟩ : MethodName)) hown (mvT hZ (hw _ (List.mem_of_getElem? (i := 60) rfl))) (mvT hZ (hw _ (List.mem_of_getElem? (i := 61) rfl))) (mvT hZ (hw _ (List.mem_of_getElem? (i := 62) rfl))) (mvT hZ (hw _ (List.mem_of_getElem? (i := 63) rfl))) (by decide) (backOf (W := 1) (rm9 l Z a0 hw [] v1003 v1004 T1276.heap n0 Z1276 ) hZ (hw _ (List.mem_of_getElem? (i := 63) rfl)) (hw _ (List.mem_of_getElem? (i := 62) rfl)) (by decide) (by decide)) (g := (mkF m 180 #[.val (.long q1), .second, .val (.long q2), .second, .val (.long q3), .second, .val (.int p4), .val (.long (1000000 : Int64)), .second, .val (.long v1001), .second, .val (.long v1002), .second, .val (.long v1003), .second, .val (.long v1004), .second, .val (.int mv), .val (.int ef), .val (.ref b1007), .val (.ref b_1026), .val (.ref b_1040), .val (.int v1106), .val (.int v1108), .val (.long v1003), .second, .val (.long v1003), .second, .val (.int v1298), .unset, .unset, .unset] [(.long v1004), (.long v1003), (.int (own_cnt v1003 v1004))])) rfl (by rw [hml]; rfl) (argsL := [(.long v1003), (.long v1004)]) (rest := [(.int (own_cnt v1003 v1004))]) (lenOf pd_5 rfl) rfl (by show 2 * 0 + _ ≤ _; exact Nat.le_of_eq rfl) (hb hby at_180) (fun _ _ => ⟨rfl, e1299, (by decide : 0 + 1 + 0 + 1 + 1 + 0 + 0 + 0 + 0 + 0 + 0 + 0 + 0 + 0 + 0 ≤ _), (by decide : 0 + 4 + 0 + 3 + 3 + 0 + 0 + 0 + 0 + 0 + 0 + 0 + 0 + 0 + 0 ≤ _)⟩)
        dsimp only [Pt.U, Pt.locs, Pt.cells, Pt.slots] at X1300 l1300 y1300 z1300 st1300 hQ1300
        subst l1300 y1300 z1300
        obtain ⟨rfl, N1300q, e1300⟩ := hQ1300
        have N1300 := Fr.app N1299 N1300q
        refine OEnds.st st1300 ?_
        clear st1300
        show OEnds p.tables e below G (T1300.setTop (mkF m 183 #[.val (.long q1), .second, .val (.long q2), .second, .val (.long q3), .second, .val (.int p4), .val (.long (1000000 : Int64)), .second, .val (.long v1001), .second, .val (.long v1002), .second, .val (.long v1003), .second, .val (.long v1004), .second, .val (.int mv), .val (.int ef), .val (.ref b1007), .val (.ref b_1026), .val (.ref b_1040), .val (.int v1106), .val (.int v1108), .val (.long v1003), .second, .val (.long v1003), .second, .val (.int v1298), .unset, .unset, .unset] [(.int (own_cnt v1003 v1004)), (.int (own_cnt v1003 v1004))]))
        refine OEnds.st (fun _ k => XS.iadd X1300.here hx rfl (hb hby at_183) rfl k) ?_
        show OEnds p.tables e below G (T1300.setTop (mkF m 184 #[.val (.long q1), .second, .val (.long q2), .second, .val (.long q3), .second, .val (.int p4), .val (.long (1000000 : Int64)), .second, .val (.long v1001), .second, .val (.long v1002), .second, .val (.long v1003), .second, .val (.long v1004), .second, .val (.int mv), .val (.int ef), .val (.ref b1007), .val (.ref b_1026), .val (.ref b_1040), .val (.int v1106), .val (.int v1108), .val (.long v1003), .second, .val (.long v1003), .second, .val (.int v1298), .unset, .unset, .unset] [(.int ((own_cnt v1003 v1004) + (own_cnt v1003 v1004)))]))
        refine OEnds.st (fun _ k => XS.istore X1300.here hx rfl (hb hby at_184) rfl (l' := #[.val (.long q1), .second, .val (.long q2), .second, .val (.long q3), .second, .val (.int p4), .val (.long (1000000 : Int64)), .second, .val (.long v1001), .second, .val (.long v1002), .second, .val (.long v1003), .second, .val (.long v1004), .second, .val (.int mv), .val (.int ef), .val (.ref b1007), .val (.ref b_1026), .val (.ref b_1040), .val (.int v1106), .val (.int v1108), .val (.long v1003), .second, .val (.long v1003), .second, .val (.int v1298), .val (.int ((own_cnt v1003 v1004) + (own_cnt v1003 v1004))), .unset, .unset]) rfl k) ?_
        show OEnds p.tables e below G (T1300.setTop (mkF m 186 #[.val (.long q1), .second, .val (.long q2), .second, .val (.long q3), .second, .val (.int p4), .val (.long (1000000 : Int64)), .second, .val (.long v1001), .second, .val (.long v1002), .second, .val (.long v1003), .second, .val (.long v1004), .second, .val (.int mv), .val (.int ef), .val (.ref b1007), .val (.ref b_1026), .val (.ref b_1040), .val (.int v1106), .val (.int v1108), .val (.long v1003), .second, .val (.long v1003), .second, .val (.int v1298), .val (.int ((own_cnt v1003 v1004) + (own_cnt v1003 v1004))), .unset, .unset] []))
        generalize hv_v1301 : ((own_cnt v1003 v1004) + (own_cnt v1003 v1004)) = v1301
        show OEnds p.tables e below G (T1300.setTop (mkF m 186 #[.val (.long q1), .second, .val (.long q2), .second, .val (.long q3), .second, .val (.int p4), .val (.long (1000000 : Int64)), .second, .val (.long v1001), .second, .val (.long v1002), .second, .val (.long v1003), .second, .val (.long v1004), .second, .val (.int mv), .val (.int ef), .val (.ref b1007), .val (.ref b_1026), .val (.ref b_1040), .val (.int v1106), .val (.int v1108), .val (.long v1003), .second, .val (.long v1003), .second, .val (.int v1298), .val (.int v1301), .unset, .unset] []))
        refine OEnds.st (fun _ k => XS.iload X1300.here hx rfl (hb hby at_186) rfl k) ?_
        show OEnds p.tables e below G (T1300.setTop (mkF m 188 #[.val (.long q1), .second, .val (.long q2), .second, .val (.long q3), .second, .val (.int p4), .val (.long (1000000 : Int64)), .second, .val (.long v1001), .second, .val (.long v1002), .second, .val (.long v1003), .second, .val (.long v1004), .second, .val (.int mv), .val (.int ef), .val (.ref b1007), .val (.ref b_1026), .val (.ref b_1040), .val (.int v1106), .val (.int v1108), .val (.long v1003), .second, .val (.long v1003), .second, .val (.int v1298), .val (.int v1301), .unset, .unset] [(.int ef)]))
        by_cases hc188_1302 : ef = (0 : Int32)
        · -- pc 188: yes
          refine OEnds.st (fun _ k => XS.ifYes X1300.here hx rfl (pc0 := 188) (pc' := 211) rfl (hb hby at_188) rfl ((if0 _ _).trans (teq hc188_1302).1) (by decide) (by decide) k) ?_
          show OEnds p.tables e below G (T1300.setTop (mkF m 211 #[.val (.long q1), .second, .val (.long q2), .second, .val (.long q3), .second, .val (.int p4), .val (.long (1000000 : Int64)), .second, .val (.long v1001), .second, .val (.long v1002), .second, .val (.long v1003), .second, .val (.long v1004), .second, .val (.int mv), .val (.int ef), .val (.ref b1007), .val (.ref b_1026), .val (.ref b_1040), .val (.int v1106), .val (.int v1108), .val (.long v1003), .second, .val (.long v1003), .second, .val (.int v1298), .val (.int v1301), .unset, .unset] []))
          refine OEnds.st (fun _ k => XS.aload X1300.here hx rfl (hb hby at_211) rfl rfl k) ?_
          show OEnds p.tables e below G (T1300.setTop (mkF m 213 #[.val (.long q1), .second, .val (.long q2), .second, .val (.long q3), .second, .val (.int p4), .val (.long (1000000 : Int64)), .second, .val (.long v1001), .second, .val (.long v1002), .second, .val (.long v1003), .second, .val (.long v1004), .second, .val (.int mv), .val (.int ef), .val (.ref b1007), .val (.ref b_1026), .val (.ref b_1040), .val (.int v1106), .val (.int v1108), .val (.long v1003), .second, .val (.long v1003), .second, .val (.int v1298), .val (.int v1301), .unset, .unset] [(.ref b_1040)]))
          obtain ⟨cq1303, kq1303, q1303a, q1303b, q1303c⟩ := isOf hZ e1300 f1286
          obtain ⟨_, _, ⟨T1303, L1303, k1303c, n1303c⟩, -, X1303, ⟨Lc1303, hQ1303, l1303, y1303, z1303⟩, st1303⟩ := X1300.virtualBack hx (y := (⟨"com/example/marshalyard/marshalyard/proxy/MovingTries$Flight", "end", "()V"⟩ : MethodName)) (z := (⟨"com/example/marshalyard/marshalyard/proxy/MovingTries$Flight", "end", "()V"⟩ : MethodName)) hown (mvT hZ (hw _ (List.mem_of_getElem? (i := 65) rfl))) (mvT hZ (hw _ (List.mem_of_getElem? (i := 33) rfl))) (notFace_of_selects (args := #[]) (mvT hZ (hw _ (List.mem_of_getElem? (i := 35) rfl)))) (mvT hZ (hw _ (List.mem_of_getElem? (i := 35) rfl))) (mvT hZ (hw _ (List.mem_of_getElem? (i := 34) rfl))) (by decide) (backOf (W := 0) (rmend1 l Z a0 hw [] b_1040 b1007 v1003 ws4 v1004 nn4 bb4 T1276.heap n0 Z1276 f1286 f1290 f1291 f1292 p1278 p1279 p1280 p1281 p1282 ge_b_1040 ge_b1007 (Ne.symm ne1047)) hZ (hw _ (List.mem_of_getElem? (i := 36) rfl)) (hw _ (List.mem_of_getElem? (i := 20) rfl)) (by decide) (by decide)) q1303a q1303c (g := (mkF m 213 #[.val (.long q1), .second, .val (.long q2), .second, .val (.long q3), .second, .val (.int p4), .val (.long (1000000 : Int64)), .second, .val (.long v1001), .second, .val (.long v1002), .second, .val (.long v1003), .second, .val (.long v1004), .second, .val (.int mv), .val (.int ef), .val (.ref b1007), .val (.ref b_1026), .val (.ref b_1040), .val (.int v1106), .val (.int v1108), .val (.long v1003), .second, .val (.long v1003), .second, .val (.int v1298), .val (.int v1301), .unset, .unset] [(.ref b_1040)])) rfl (by rw [hml]; rfl) (Steps.refl _) (argsL := []) (rest := []) (lenOf pd_1 rfl) rfl (by show 2 * 0 + _ ≤ _; exact Nat.le_of_eq rfl) (hb hby at_213) (fun _ _ => ⟨rfl, e1300, (by decide : 0 + 1 + 0 + 1 + 1 + 0 + 0 + 0 + 0 + 0 + 0 + 0 + 0 + 0 + 0 + 0 ≤ _), (by decide : 0 + 4 + 0 + 3 + 3 + 0 + 0 + 0 + 0 + 0 + 0 + 0 + 0 + 0 + 0 + 0 ≤ _)⟩)
          dsimp only [Pt.U, Pt.locs, Pt.cells, Pt.slots] at X1303 l1303 y1303 z1303 st1303 hQ1303
          subst l1303 y1303 z1303
          obtain ⟨rfl, N1303q, p1304, p1305, p1306, p1307, p1308, p1309, p1310, p1311, p1312, p1313⟩ := hQ1303
          have N1303 := Fr.app N1300 N1303q
          refine OEnds.st (fun _ k => st1303.trans k) ?_
          clear st1303
          have f1314 : Sta Z T1303.heap "com/example/marshalyard/marshalyard/proxy/MovingTries" "WINDOW_NANOS" "J" (.long (1000000 : Int64)) := own_Sta_keep f1283 p1304 (fun x hx => by rcases List.mem_cons.mp hx with rfl | hx; exact own_exa_ns f1286; cases List.mem_singleton.mp hx; exact own_exa_ns p1278)
          have f1315 : Exa Z T1303.heap b1007 "com/example/marshalyard/marshalyard/proxy/MovingTries" := p1278.keep p1304
          have f1316 : Exa Z T1303.heap b_1026 "com/example/marshalyard/marshalyard/proxy/MovingTries$Flight" := f1285.keep p1304
          have f1317 : Exa Z T1303.heap b_1040 "com/example/marshalyard/marshalyard/proxy/MovingTries$Flight" := f1286.keep p1304
          have f1318 : Fld Z T1303.heap b_1026 "com/example/marshalyard/marshalyard/proxy/MovingTries$Flight" "this$0" "Lcom/example/marshalyard/marshalyard/proxy/MovingTries;" (.ref b1007) := f1287.keep p1304 (by simp only [List.mem_cons, List.not_mem_nil, or_false, not_or]; exact ⟨ne1048, (Ne.symm ne1033)⟩)
          have f1319 : Fld Z T1303.heap b_1026 "com/example/marshalyard/marshalyard/proxy/MovingTries$Flight" "inFlight" "Z" (.int (1 : Int32)) := f1288.keep p1304 (by simp only [List.mem_cons, List.not_mem_nil, or_false, not_or]; exact ⟨ne1048, (Ne.symm ne1033)⟩)
          have f1320 : Fld Z T1303.heap b_1026 "com/example/marshalyard/marshalyard/proxy/MovingTries$Flight" "window" "J" (.long v1003) := f1289.keep p1304 (by simp only [List.mem_cons, List.not_mem_nil, or_false, not_or]; exact ⟨ne1048, (Ne.symm ne1033)⟩)
          have KK1303 : Keep h0 T1303.heap [] := KK1276.trans p1304 (fun x hx => by rcases List.mem_cons.mp hx with rfl | hx; exact Or.inr sz_b_1040; cases List.mem_singleton.mp hx; exact Or.inr sz_b1007)
          have Z1303 := Nat.le_trans Z1276 p1304.1
          generalize h_nn5 : (own_endN v1003 v1004 nn4) = nn5 at p1312
          generalize h_bb5 : (own_endB v1003 v1004 bb4) = bb5 at p1313
          show OEnds p.tables e below G (T1303.setTop (mkF m 216 #[.val (.long q1), .second, .val (.long q2), .second, .val (.long q3), .second, .val (.int p4), .val (.long (1000000 : Int64)), .second, .val (.long v1001), .second, .val (.long v1002), .second, .val (.long v1003), .second, .val (.long v1004), .second, .val (.int mv), .val (.int ef), .val (.ref b1007), .val (.ref b_1026), .val (.ref b_1040), .val (.int v1106), .val (.int v1108), .val (.long v1003), .second, .val (.long v1003), .second, .val (.int v1298), .val (.int v1301), .unset, .unset] []))
          refine OEnds.st (fun _ k => XS.iload X1303.here hx rfl (hb hby at_216) rfl k) ?_
          show OEnds p.tables e below G (T1303.setTop (mkF m 218 #[.val (.long q1), .second, .val (.long q2), .second, .val (.long q3), .second, .val (.int p4), .val (.long (1000000 : Int64)), .second, .val (.long v1001), .second, .val (.long v1002), .second, .val (.long v1003), .second, .val (.long v1004), .second, .val (.int mv), .val (.int ef), .val (.ref b1007), .val (.ref b_1026), .val (.ref b_1040), .val (.int v1106), .val (.int v1108), .val (.long v1003), .second, .val (.long v1003), .second, .val (.int v1298), .val (.int v1301), .unset, .unset] [(.int v1301)]))
          refine OEnds.st (fun _ k => XS.lload X1303.here hx rfl (hb hby at_218) rfl k) ?_
          show OEnds p.tables e below G (T1303.setTop (mkF m 220 #[.val (.long q1), .second, .val (.long q2), .second, .val (.long q3), .second, .val (.int p4), .val (.long (1000000 : Int64)), .second, .val (.long v1001), .second, .val (.long v1002), .second, .val (.long v1003), .second, .val (.long v1004), .second, .val (.int mv), .val (.int ef), .val (.ref b1007), .val (.ref b_1026), .val (.ref b_1040), .val (.int v1106), .val (.int v1108), .val (.long v1003), .second, .val (.long v1003), .second, .val (.int v1298), .val (.int v1301), .unset, .unset] [(.long v1003), (.int v1301)]))
          refine OEnds.st (fun _ k => XS.lload X1303.here hx rfl (hb hby at_220) rfl k) ?_
          show OEnds p.tables e below G (T1303.setTop (mkF m 222 #[.val (.long q1), .second, .val (.long q2), .second, .val (.long q3), .second, .val (.int p4), .val (.long (1000000 : Int64)), .second, .val (.long v1001), .second, .val (.long v1002), .second, .val (.long v1003), .second, .val (.long v1004), .second, .val (.int mv), .val (.int ef), .val (.ref b1007), .val (.ref b_1026), .val (.ref b_1040), .val (.int v1106), .val (.int v1108), .val (.long v1003), .second, .val (.long v1003), .second, .val (.int v1298), .val (.int v1301), .unset, .unset] [(.long v1004), (.long v1003), (.int v1301)]))
          obtain ⟨_, _, ⟨T1328, L1328, k1328c, n1328c⟩, -, X1328, ⟨Lc1328, hQ1328, l1328, y1328, z1328⟩, st1328⟩ := Jvm.LawKit.callS X1303 hx (y := (⟨"com/example/marshalyard/marshalyard/proxy/MovingTriesAdvancePinLaw", "counted", "(JJ)I"⟩ : MethodName)) hown (mvT hZ (hw _ (List.mem_of_getElem? (i := 60) rfl))) (mvT hZ (hw _ (List.mem_of_getElem? (i := 61) rfl))) (mvT hZ (hw _ (List.mem_of_getElem? (i := 62) rfl))) (mvT hZ (hw _ (List.mem_of_getElem? (i := 63) rfl))) (by decide) (backOf (W := 1) (rm9 l Z a0 hw [] v1003 v1004 T1303.heap n0 Z1303 ) hZ (hw _ (List.mem_of_getElem? (i := 63) rfl)) (hw _ (List.mem_of_getElem? (i := 62) rfl)) (by decide) (by decide)) (g := (mkF m 222 #[.val (.long q1), .second, .val (.long q2), .second, .val (.long q3), .second, .val (.int p4), .val (.long (1000000 : Int64)), .second, .val (.long v1001), .second, .val (.long v1002), .second, .val (.long v1003), .second, .val (.long v1004), .second, .val (.int mv), .val (.int ef), .val (.ref b1007), .val (.ref b_1026), .val (.ref b_1040), .val (.int v1106), .val (.int v1108), .val (.long v1003), .second, .val (.long v1003), .second, .val (.int v1298), .val (.int v1301), .unset, .unset] [(.long v1004), (.long v1003), (.int v1301)])) rfl (by rw [hml]; rfl) (argsL := [(.long v1003), (.long v1004)]) (rest := [(.int v1301)]) (lenOf pd_5 rfl) rfl (by show 2 * 0 + _ ≤ _; exact Nat.le_of_eq rfl) (hb hby at_222) (fun _ _ => ⟨rfl, rfl, (by decide : 0 + 1 + 0 + 1 + 1 + 0 + 0 + 0 + 0 + 0 + 0 + 0 + 0 + 0 + 0 + 0 + 0 ≤ _), (by decide : 0 + 4 + 0 + 3 + 3 + 0 + 0 + 0 + 0 + 0 + 0 + 0 + 0 + 0 + 0 + 0 + 0 ≤ _)⟩)
          dsimp only [Pt.U, Pt.locs, Pt.cells, Pt.slots] at X1328 l1328 y1328 z1328 st1328 hQ1328
          subst l1328 y1328 z1328
          obtain ⟨rfl, N1328q, e1328⟩ := hQ1328
          have N1328 := Fr.app N1303 N1328q
          refine OEnds.st st1328 ?_
          clear st1328
          show OEnds p.tables e below G (T1328.setTop (mkF m 225 #[.val (.long q1), .second, .val (.long q2), .second, .val (.long q3), .second, .val (.int p4), .val (.long (1000000 : Int64)), .second, .val (.long v1001), .second, .val (.long v1002), .second, .val (.long v1003), .second, .val (.long v1004), .second, .val (.int mv), .val (.int ef), .val (.ref b1007), .val (.ref b_1026), .val (.ref b_1040), .val (.int v1106), .val (.int v1108), .val (.long v1003), .second, .val (.long v1003), .second, .val (.int v1298), .val (.int v1301), .unset, .unset] [(.int (own_cnt v1003 v1004)), (.int v1301)]))
          refine OEnds.st (fun _ k => XS.isub X1328.here hx rfl (hb hby at_225) rfl k) ?_
          show OEnds p.tables e below G (T1328.setTop (mkF m 226 #[.val (.long q1), .second, .val (.long q2), .second, .val (.long q3), .second, .val (.int p4), .val (.long (1000000 : Int64)), .second, .val (.long v1001), .second, .val (.long v1002), .second, .val (.long v1003), .second, .val (.long v1004), .second, .val (.int mv), .val (.int ef), .val (.ref b1007), .val (.ref b_1026), .val (.ref b_1040), .val (.int v1106), .val (.int v1108), .val (.long v1003), .second, .val (.long v1003), .second, .val (.int v1298), .val (.int v1301), .unset, .unset] [(.int (v1301 - (own_cnt v1003 v1004)))]))
          refine OEnds.st (fun _ k => XS.istore X1328.here hx rfl (hb hby at_226) rfl (l' := #[.val (.long q1), .second, .val (.long q2), .second, .val (.long q3), .second, .val (.int p4), .val (.long (1000000 : Int64)), .second, .val (.long v1001), .second, .val (.long v1002), .second, .val (.long v1003), .second, .val (.long v1004), .second, .val (.int mv), .val (.int ef), .val (.ref b1007), .val (.ref b_1026), .val (.ref b_1040), .val (.int v1106), .val (.int v1108), .val (.long v1003), .second, .val (.long v1003), .second, .val (.int v1298), .val (.int v1301), .val (.int (v1301 - (own_cnt v1003 v1004))), .unset]) rfl k) ?_
          show OEnds p.tables e below G (T1328.setTop (mkF m 228 #[.val (.long q1), .second, .val (.long q2), .second, .val (.long q3), .second, .val (.int p4), .val (.long (1000000 : Int64)), .second, .val (.long v1001), .second, .val (.long v1002), .second, .val (.long v1003), .second, .val (.long v1004), .second, .val (.int mv), .val (.int ef), .val (.ref b1007), .val (.ref b_1026), .val (.ref b_1040), .val (.int v1106), .val (.int v1108), .val (.long v1003), .second, .val (.long v1003), .second, .val (.int v1298), .val (.int v1301), .val (.int (v1301 - (own_cnt v1003 v1004))), .unset] []))
          generalize hv_v1329 : (v1301 - (own_cnt v1003 v1004)) = v1329
          show OEnds p.tables e below G (T1328.setTop (mkF m 228 #[.val (.long q1), .second, .val (.long q2), .second, .val (.long q3), .second, .val (.int p4), .val (.long (1000000 : Int64)), .second, .val (.long v1001), .second, .val (.long v1002), .second, .val (.long v1003), .second, .val (.long v1004), .second, .val (.int mv), .val (.int ef), .val (.ref b1007), .val (.ref b_1026), .val (.ref b_1040), .val (.int v1106), .val (.int v1108), .val (.long v1003), .second, .val (.long v1003), .second, .val (.int v1298), .val (.int v1301), .val (.int v1329), .unset] []))
          refine OEnds.st (fun _ k => XS.aload X1328.here hx rfl (hb hby at_228) rfl rfl k) ?_
          show OEnds p.tables e below G (T1328.setTop (mkF m 230 #[.val (.long q1), .second, .val (.long q2), .second, .val (.long q3), .second, .val (.int p4), .val (.long (1000000 : Int64)), .second, .val (.long v1001), .second, .val (.long v1002), .second, .val (.long v1003), .second, .val (.long v1004), .second, .val (.int mv), .val (.int ef), .val (.ref b1007), .val (.ref b_1026), .val (.ref b_1040), .val (.int v1106), .val (.int v1108), .val (.long v1003), .second, .val (.long v1003), .second, .val (.int v1298), .val (.int v1301), .val (.int v1329), .unset] [(.ref b1007)]))
          obtain ⟨cq1330, kq1330, q1330a, q1330b, q1330c⟩ := isOf hZ e1328 p1309
          obtain ⟨_, _, ⟨T1330, L1330, k1330c, n1330c⟩, -, X1330, ⟨Lc1330, hQ1330, l1330, y1330, z1330⟩, st1330⟩ := X1328.virtualBack hx (y := (⟨"com/example/marshalyard/marshalyard/proxy/MovingTries", "count", "()I"⟩ : MethodName)) (z := (⟨"com/example/marshalyard/marshalyard/proxy/MovingTries", "count", "()I"⟩ : MethodName)) hown (mvT hZ (hw _ (List.mem_of_getElem? (i := 52) rfl))) (mvT hZ (hw _ (List.mem_of_getElem? (i := 53) rfl))) (notFace_of_selects (args := #[]) (mvT hZ (hw _ (List.mem_of_getElem? (i := 55) rfl)))) (mvT hZ (hw _ (List.mem_of_getElem? (i := 55) rfl))) (mvT hZ (hw _ (List.mem_of_getElem? (i := 54) rfl))) (by decide) (backOf (W := 0) (rm8 l Z a0 hw [] b1007 nn5 bb5 T1303.heap n0 Z1303 p1312 p1313) hZ (hw _ (List.mem_of_getElem? (i := 56) rfl)) (hw _ (List.mem_of_getElem? (i := 4) rfl)) (by decide) (by decide)) q1330a q1330c (g := (mkF m 230 #[.val (.long q1), .second, .val (.long q2), .second, .val (.long q3), .second, .val (.int p4), .val (.long (1000000 : Int64)), .second, .val (.long v1001), .second, .val (.long v1002), .second, .val (.long v1003), .second, .val (.long v1004), .second, .val (.int mv), .val (.int ef), .val (.ref b1007), .val (.ref b_1026), .val (.ref b_1040), .val (.int v1106), .val (.int v1108), .val (.long v1003), .second, .val (.long v1003), .second, .val (.int v1298), .val (.int v1301), .val (.int v1329), .unset] [(.ref b1007)])) rfl (by rw [hml]; rfl) (Steps.refl _) (argsL := []) (rest := []) (lenOf pd_4 rfl) rfl (by show 2 * 0 + _ ≤ _; exact Nat.le_of_eq rfl) (hb hby at_230) (fun _ _ => ⟨rfl, e1328, (by decide : 0 + 1 + 0 + 1 + 1 + 0 + 0 + 0 + 0 + 0 + 0 + 0 + 0 + 0 + 0 + 0 + 0 + 0 ≤ _), (by decide : 0 + 4 + 0 + 3 + 3 + 0 + 0 + 0 + 0 + 0 + 0 + 0 + 0 + 0 + 0 + 0 + 0 + 0 ≤ _)⟩)
          dsimp only [Pt.U, Pt.locs, Pt.cells, Pt.slots] at X1330 l1330 y1330 z1330 st1330 hQ1330
          subst l1330 y1330 z1330
          obtain ⟨rfl, N1330q, e1330⟩ := hQ1330
          have N1330 := Fr.app N1328 N1330q
          refine OEnds.st (fun _ k => st1330.trans k) ?_
          clear st1330
          show OEnds p.tables e below G (T1330.setTop (mkF m 233 #[.val (.long q1), .second, .val (.long q2), .second, .val (.long q3), .second, .val (.int p4), .val (.long (1000000 : Int64)), .second, .val (.long v1001), .second, .val (.long v1002), .second, .val (.long v1003), .second, .val (.long v1004), .second, .val (.int mv), .val (.int ef), .val (.ref b1007), .val (.ref b_1026), .val (.ref b_1040), .val (.int v1106), .val (.int v1108), .val (.long v1003), .second, .val (.long v1003), .second, .val (.int v1298), .val (.int v1301), .val (.int v1329), .unset] [(.int (nn5 + bb5))]))
          refine OEnds.st (fun _ k => XS.istore X1330.here hx rfl (hb hby at_233) rfl (l' := #[.val (.long q1), .second, .val (.long q2), .second, .val (.long q3), .second, .val (.int p4), .val (.long (1000000 : Int64)), .second, .val (.long v1001), .second, .val (.long v1002), .second, .val (.long v1003), .second, .val (.long v1004), .second, .val (.int mv), .val (.int ef), .val (.ref b1007), .val (.ref b_1026), .val (.ref b_1040), .val (.int v1106), .val (.int v1108), .val (.long v1003), .second, .val (.long v1003), .second, .val (.int v1298), .val (.int v1301), .val (.int v1329), .val (.int (nn5 + bb5))]) rfl k) ?_
          show OEnds p.tables e below G (T1330.setTop (mkF m 235 #[.val (.long q1), .second, .val (.long q2), .second, .val (.long q3), .second, .val (.int p4), .val (.long (1000000 : Int64)), .second, .val (.long v1001), .second, .val (.long v1002), .second, .val (.long v1003), .second, .val (.long v1004), .second, .val (.int mv), .val (.int ef), .val (.ref b1007), .val (.ref b_1026), .val (.ref b_1040), .val (.int v1106), .val (.int v1108), .val (.long v1003), .second, .val (.long v1003), .second, .val (.int v1298), .val (.int v1301), .val (.int v1329), .val (.int (nn5 + bb5))] []))
          generalize hv_v1331 : (nn5 + bb5) = v1331
          show OEnds p.tables e below G (T1330.setTop (mkF m 235 #[.val (.long q1), .second, .val (.long q2), .second, .val (.long q3), .second, .val (.int p4), .val (.long (1000000 : Int64)), .second, .val (.long v1001), .second, .val (.long v1002), .second, .val (.long v1003), .second, .val (.long v1004), .second, .val (.int mv), .val (.int ef), .val (.ref b1007), .val (.ref b_1026), .val (.ref b_1040), .val (.int v1106), .val (.int v1108), .val (.long v1003), .second, .val (.long v1003), .second, .val (.int v1298), .val (.int v1301), .val (.int v1329), .val (.int v1331)] []))
          refine OEnds.st (fun _ k => XS.iload X1330.here hx rfl (hb hby at_235) rfl k) ?_
          show OEnds p.tables e below G (T1330.setTop (mkF m 237 #[.val (.long q1), .second, .val (.long q2), .second, .val (.long q3), .second, .val (.int p4), .val (.long (1000000 : Int64)), .second, .val (.long v1001), .second, .val (.long v1002), .second, .val (.long v1003), .second, .val (.long v1004), .second, .val (.int mv), .val (.int ef), .val (.ref b1007), .val (.ref b_1026), .val (.ref b_1040), .val (.int v1106), .val (.int v1108), .val (.long v1003), .second, .val (.long v1003), .second, .val (.int v1298), .val (.int v1301), .val (.int v1329), .val (.int v1331)] [(.int v1106)]))
          refine OEnds.st (fun _ k => XS.iload X1330.here hx rfl (hb hby at_237) rfl k) ?_
          show OEnds p.tables e below G (T1330.setTop (mkF m 239 #[.val (.long q1), .second, .val (.long q2), .second, .val (.long q3), .second, .val (.int p4), .val (.long (1000000 : Int64)), .second, .val (.long v1001), .second, .val (.long v1002), .second, .val (.long v1003), .second, .val (.long v1004), .second, .val (.int mv), .val (.int ef), .val (.ref b1007), .val (.ref b_1026), .val (.ref b_1040), .val (.int v1106), .val (.int v1108), .val (.long v1003), .second, .val (.long v1003), .second, .val (.int v1298), .val (.int v1301), .val (.int v1329), .val (.int v1331)] [(.int v1108), (.int v1106)]))
          have hc239_1332 : v1106 = v1108 := by rw [← hv_v1106, ← hv_v1108]; exact own_F1 hD hn1 hb1
          refine OEnds.st (fun _ k => XS.icmpNo X1330.here hx rfl (hb hby at_239) rfl (teq hc239_1332).2 k) ?_
          show OEnds p.tables e below G (T1330.setTop (mkF m 242 #[.val (.long q1), .second, .val (.long q2), .second, .val (.long q3), .second, .val (.int p4), .val (.long (1000000 : Int64)), .second, .val (.long v1001), .second, .val (.long v1002), .second, .val (.long v1003), .second, .val (.long v1004), .second, .val (.int mv), .val (.int ef), .val (.ref b1007), .val (.ref b_1026), .val (.ref b_1040), .val (.int v1106), .val (.int v1108), .val (.long v1003), .second, .val (.long v1003), .second, .val (.int v1298), .val (.int v1301), .val (.int v1329), .val (.int v1331)] []))
          refine OEnds.st (fun _ k => XS.iload X1330.here hx rfl (hb hby at_242) rfl k) ?_
          show OEnds p.tables e below G (T1330.setTop (mkF m 244 #[.val (.long q1), .second, .val (.long q2), .second, .val (.long q3), .second, .val (.int p4), .val (.long (1000000 : Int64)), .second, .val (.long v1001), .second, .val (.long v1002), .second, .val (.long v1003), .second, .val (.long v1004), .second, .val (.int mv), .val (.int ef), .val (.ref b1007), .val (.ref b_1026), .val (.ref b_1040), .val (.int v1106), .val (.int v1108), .val (.long v1003), .second, .val (.long v1003), .second, .val (.int v1298), .val (.int v1301), .val (.int v1329), .val (.int v1331)] [(.int v1298)]))
          refine OEnds.st (fun _ k => XS.iload X1330.here hx rfl (hb hby at_244) rfl k) ?_
          show OEnds p.tables e below G (T1330.setTop (mkF m 246 #[.val (.long q1), .second, .val (.long q2), .second, .val (.long q3), .second, .val (.int p4), .val (.long (1000000 : Int64)), .second, .val (.long v1001), .second, .val (.long v1002), .second, .val (.long v1003), .second, .val (.long v1004), .second, .val (.int mv), .val (.int ef), .val (.ref b1007), .val (.ref b_1026), .val (.ref b_1040), .val (.int v1106), .val (.int v1108), .val (.long v1003), .second, .val (.long v1003), .second, .val (.int v1298), .val (.int v1301), .val (.int v1329), .val (.int v1331)] [(.int v1301), (.int v1298)]))
          have hc246_1333 : v1298 = v1301 := by rw [← hv_v1298, ← hv_v1301]; exact own_F2m hD hn1 hb1 h_nn2 h_bb2 h_nn3 hn4 hb4
          refine OEnds.st (fun _ k => XS.icmpNo X1330.here hx rfl (hb hby at_246) rfl (teq hc246_1333).2 k) ?_
          show OEnds p.tables e below G (T1330.setTop (mkF m 249 #[.val (.long q1), .second, .val (.long q2), .second, .val (.long q3), .second, .val (.int p4), .val (.long (1000000 : Int64)), .second, .val (.long v1001), .second, .val (.long v1002), .second, .val (.long v1003), .second, .val (.long v1004), .second, .val (.int mv), .val (.int ef), .val (.ref b1007), .val (.ref b_1026), .val (.ref b_1040), .val (.int v1106), .val (.int v1108), .val (.long v1003), .second, .val (.long v1003), .second, .val (.int v1298), .val (.int v1301), .val (.int v1329), .val (.int v1331)] []))
          refine OEnds.st (fun _ k => XS.iload X1330.here hx rfl (hb hby at_249) rfl k) ?_
          show OEnds p.tables e below G (T1330.setTop (mkF m 251 #[.val (.long q1), .second, .val (.long q2), .second, .val (.long q3), .second, .val (.int p4), .val (.long (1000000 : Int64)), .second, .val (.long v1001), .second, .val (.long v1002), .second, .val (.long v1003), .second, .val (.long v1004), .second, .val (.int mv), .val (.int ef), .val (.ref b1007), .val (.ref b_1026), .val (.ref b_1040), .val (.int v1106), .val (.int v1108), .val (.long v1003), .second, .val (.long v1003), .second, .val (.int v1298), .val (.int v1301), .val (.int v1329), .val (.int v1331)] [(.int v1331)]))
          refine OEnds.st (fun _ k => XS.iload X1330.here hx rfl (hb hby at_251) rfl k) ?_
          show OEnds p.tables e below G (T1330.setTop (mkF m 253 #[.val (.long q1), .second, .val (.long q2), .second, .val (.long q3), .second, .val (.int p4), .val (.long (1000000 : Int64)), .second, .val (.long v1001), .second, .val (.long v1002), .second, .val (.long v1003), .second, .val (.long v1004), .second, .val (.int mv), .val (.int ef), .val (.ref b1007), .val (.ref b_1026), .val (.ref b_1040), .val (.int v1106), .val (.int v1108), .val (.long v1003), .second, .val (.long v1003), .second, .val (.int v1298), .val (.int v1301), .val (.int v1329), .val (.int v1331)] [(.int v1329), (.int v1331)]))
          have hc253_1334 : v1331 = v1329 := by rw [← hv_v1331, ← hv_v1329, ← hv_v1301]; exact own_F3mf hD hn1 hb1 h_nn2 h_bb2 h_nn3 hn4 hb4 h_nn5 h_bb5
          refine OEnds.st (fun _ k => XS.icmpNo X1330.here hx rfl (hb hby at_253) rfl (teq hc253_1334).2 k) ?_
          show OEnds p.tables e below G (T1330.setTop (mkF m 256 #[.val (.long q1), .second, .val (.long q2), .second, .val (.long q3), .second, .val (.int p4), .val (.long (1000000 : Int64)), .second, .val (.long v1001), .second, .val (.long v1002), .second, .val (.long v1003), .second, .val (.long v1004), .second, .val (.int mv), .val (.int ef), .val (.ref b1007), .val (.ref b_1026), .val (.ref b_1040), .val (.int v1106), .val (.int v1108), .val (.long v1003), .second, .val (.long v1003), .second, .val (.int v1298), .val (.int v1301), .val (.int v1329), .val (.int v1331)] []))
          refine OEnds.st (fun _ k => XS.iconst X1330.here hx rfl (hb hby at_256) k) ?_
          show OEnds p.tables e below G (T1330.setTop (mkF m 257 #[.val (.long q1), .second, .val (.long q2), .second, .val (.long q3), .second, .val (.int p4), .val (.long (1000000 : Int64)), .second, .val (.long v1001), .second, .val (.long v1002), .second, .val (.long v1003), .second, .val (.long v1004), .second, .val (.int mv), .val (.int ef), .val (.ref b1007), .val (.ref b_1026), .val (.ref b_1040), .val (.int v1106), .val (.int v1108), .val (.long v1003), .second, .val (.long v1003), .second, .val (.int v1298), .val (.int v1301), .val (.int v1329), .val (.int v1331)] [(.int (1 : Int32))]))
          refine OEnds.st (fun _ k => XS.goto X1330.here hx rfl (pc0 := 257) (pc' := 261) rfl (hb hby at_257) (by decide) (by decide) k) ?_
          show OEnds p.tables e below G (T1330.setTop (mkF m 261 #[.val (.long q1), .second, .val (.long q2), .second, .val (.long q3), .second, .val (.int p4), .val (.long (1000000 : Int64)), .second, .val (.long v1001), .second, .val (.long v1002), .second, .val (.long v1003), .second, .val (.long v1004), .second, .val (.int mv), .val (.int ef), .val (.ref b1007), .val (.ref b_1026), .val (.ref b_1040), .val (.int v1106), .val (.int v1108), .val (.long v1003), .second, .val (.long v1003), .second, .val (.int v1298), .val (.int v1301), .val (.int v1329), .val (.int v1331)] [(.int (1 : Int32))]))
          rw [← hG]
          refine OEnds.retZ X1330 hx hlk Bd.returns rfl (hb hby at_261) (by decide) (by decide) ?_
          rw [e1330]
          exact ⟨rfl, N1330⟩
        · -- pc 188: no
          refine OEnds.st (fun _ k => XS.ifNo X1300.here hx rfl (hb hby at_188) rfl ((if0 _ _).trans (feq hc188_1302).1) k) ?_
          show OEnds p.tables e below G (T1300.setTop (mkF m 191 #[.val (.long q1), .second, .val (.long q2), .second, .val (.long q3), .second, .val (.int p4), .val (.long (1000000 : Int64)), .second, .val (.long v1001), .second, .val (.long v1002), .second, .val (.long v1003), .second, .val (.long v1004), .second, .val (.int mv), .val (.int ef), .val (.ref b1007), .val (.ref b_1026), .val (.ref b_1040), .val (.int v1106), .val (.int v1108), .val (.long v1003), .second, .val (.long v1003), .second, .val (.int v1298), .val (.int v1301), .unset, .unset] []))
          refine OEnds.st (fun _ k => XS.aload X1300.here hx rfl (hb hby at_191) rfl rfl k) ?_
          show OEnds p.tables e below G (T1300.setTop (mkF m 193 #[.val (.long q1), .second, .val (.long q2), .second, .val (.long q3), .second, .val (.int p4), .val (.long (1000000 : Int64)), .second, .val (.long v1001), .second, .val (.long v1002), .second, .val (.long v1003), .second, .val (.long v1004), .second, .val (.int mv), .val (.int ef), .val (.ref b1007), .val (.ref b_1026), .val (.ref b_1040), .val (.int v1106), .val (.int v1108), .val (.long v1003), .second, .val (.long v1003), .second, .val (.int v1298), .val (.int v1301), .unset, .unset] [(.ref b_1026)]))
          obtain ⟨cq1335, kq1335, q1335a, q1335b, q1335c⟩ := isOf hZ e1300 f1285
          obtain ⟨_, _, ⟨T1335, L1335, k1335c, n1335c⟩, -, X1335, ⟨Lc1335, hQ1335, l1335, y1335, z1335⟩, st1335⟩ := X1300.virtualBack hx (y := (⟨"com/example/marshalyard/marshalyard/proxy/MovingTries$Flight", "end", "()V"⟩ : MethodName)) (z := (⟨"com/example/marshalyard/marshalyard/proxy/MovingTries$Flight", "end", "()V"⟩ : MethodName)) hown (mvT hZ (hw _ (List.mem_of_getElem? (i := 65) rfl))) (mvT hZ (hw _ (List.mem_of_getElem? (i := 33) rfl))) (notFace_of_selects (args := #[]) (mvT hZ (hw _ (List.mem_of_getElem? (i := 35) rfl)))) (mvT hZ (hw _ (List.mem_of_getElem? (i := 35) rfl))) (mvT hZ (hw _ (List.mem_of_getElem? (i := 34) rfl))) (by decide) (backOf (W := 0) (rmend1 l Z a0 hw [] b_1026 b1007 v1003 ws4 v1004 nn4 bb4 T1276.heap n0 Z1276 f1285 f1287 f1288 f1289 p1278 p1279 p1280 p1281 p1282 ge_b_1026 ge_b1007 (Ne.symm ne1033)) hZ (hw _ (List.mem_of_getElem? (i := 36) rfl)) (hw _ (List.mem_of_getElem? (i := 20) rfl)) (by decide) (by decide)) q1335a q1335c (g := (mkF m 193 #[.val (.long q1), .second, .val (.long q2), .second, .val (.long q3), .second, .val (.int p4), .val (.long (1000000 : Int64)), .second, .val (.long v1001), .second, .val (.long v1002), .second, .val (.long v1003), .second, .val (.long v1004), .second, .val (.int mv), .val (.int ef), .val (.ref b1007), .val (.ref b_1026), .val (.ref b_1040), .val (.int v1106), .val (.int v1108), .val (.long v1003), .second, .val (.long v1003), .second, .val (.int v1298), .val (.int v1301), .unset, .unset] [(.ref b_1026)])) rfl (by rw [hml]; rfl) (Steps.refl _) (argsL := []) (rest := []) (lenOf pd_1 rfl) rfl (by show 2 * 0 + _ ≤ _; exact Nat.le_of_eq rfl) (hb hby at_193) (fun _ _ => ⟨rfl, e1300, (by decide : 0 + 1 + 0 + 1 + 1 + 0 + 0 + 0 + 0 + 0 + 0 + 0 + 0 + 0 + 0 + 0 ≤ _), (by decide : 0 + 4 + 0 + 3 + 3 + 0 + 0 + 0 + 0 + 0 + 0 + 0 + 0 + 0 + 0 + 0 ≤ _)⟩)
          dsimp only [Pt.U, Pt.locs, Pt.cells, Pt.slots] at X1335 l1335 y1335 z1335 st1335 hQ1335
          subst l1335 y1335 z1335
          obtain ⟨rfl, N1335q, p1336, p1337, p1338, p1339, p1340, p1341, p1342, p1343, p1344, p1345⟩ := hQ1335
          have N1335 := Fr.app N1300 N1335q
          refine OEnds.st (fun _ k => st1335.trans k) ?_
          clear st1335
          have f1346 : Sta Z T1335.heap "com/example/marshalyard/marshalyard/proxy/MovingTries" "WINDOW_NANOS" "J" (.long (1000000 : Int64)) := own_Sta_keep f1283 p1336 (fun x hx => by rcases List.mem_cons.mp hx with rfl | hx; exact own_exa_ns f1285; cases List.mem_singleton.mp hx; exact own_exa_ns p1278)
          have f1347 : Exa Z T1335.heap b1007 "com/example/marshalyard/marshalyard/proxy/MovingTries" := p1278.keep p1336
          have f1348 : Exa Z T1335.heap b_1026 "com/example/marshalyard/marshalyard/proxy/MovingTries$Flight" := f1285.keep p1336
          have f1349 : Exa Z T1335.heap b_1040 "com/example/marshalyard/marshalyard/proxy/MovingTries$Flight" := f1286.keep p1336
          have f1353 : Fld Z T1335.heap b_1040 "com/example/marshalyard/marshalyard/proxy/MovingTries$Flight" "this$0" "Lcom/example/marshalyard/marshalyard/proxy/MovingTries;" (.ref b1007) := f1290.keep p1336 (by simp only [List.mem_cons, List.not_mem_nil, or_false, not_or]; exact ⟨(Ne.symm ne1048), (Ne.symm ne1047)⟩)
          have f1354 : Fld Z T1335.heap b_1040 "com/example/marshalyard/marshalyard/proxy/MovingTries$Flight" "inFlight" "Z" (.int (1 : Int32)) := f1291.keep p1336 (by simp only [List.mem_cons, List.not_mem_nil, or_false, not_or]; exact ⟨(Ne.symm ne1048), (Ne.symm ne1047)⟩)
          have f1355 : Fld Z T1335.heap b_1040 "com/example/marshalyard/marshalyard/proxy/MovingTries$Flight" "window" "J" (.long v1003) := f1292.keep p1336 (by simp only [List.mem_cons, List.not_mem_nil, or_false, not_or]; exact ⟨(Ne.symm ne1048), (Ne.symm ne1047)⟩)
          have KK1335 : Keep h0 T1335.heap [] := KK1276.trans p1336 (fun x hx => by rcases List.mem_cons.mp hx with rfl | hx; exact Or.inr sz_b_1026; cases List.mem_singleton.mp hx; exact Or.inr sz_b1007)
          have Z1335 := Nat.le_trans Z1276 p1336.1
          generalize h_nn5 : (own_endN v1003 v1004 nn4) = nn5 at p1344
          generalize h_bb5 : (own_endB v1003 v1004 bb4) = bb5 at p1345
          show OEnds p.tables e below G (T1335.setTop (mkF m 196 #[.val (.long q1), .second, .val (.long q2), .second, .val (.long q3), .second, .val (.int p4), .val (.long (1000000 : Int64)), .second, .val (.long v1001), .second, .val (.long v1002), .second, .val (.long v1003), .second, .val (.long v1004), .second, .val (.int mv), .val (.int ef), .val (.ref b1007), .val (.ref b_1026), .val (.ref b_1040), .val (.int v1106), .val (.int v1108), .val (.long v1003), .second, .val (.long v1003), .second, .val (.int v1298), .val (.int v1301), .unset, .unset] []))
          refine OEnds.st (fun _ k => XS.iload X1335.here hx rfl (hb hby at_196) rfl k) ?_
          show OEnds p.tables e below G (T1335.setTop (mkF m 198 #[.val (.long q1), .second, .val (.long q2), .second, .val (.long q3), .second, .val (.int p4), .val (.long (1000000 : Int64)), .second, .val (.long v1001), .second, .val (.long v1002), .second, .val (.long v1003), .second, .val (.long v1004), .second, .val (.int mv), .val (.int ef), .val (.ref b1007), .val (.ref b_1026), .val (.ref b_1040), .val (.int v1106), .val (.int v1108), .val (.long v1003), .second, .val (.long v1003), .second, .val (.int v1298), .val (.int v1301), .unset, .unset] [(.int v1301)]))
          refine OEnds.st (fun _ k => XS.lload X1335.here hx rfl (hb hby at_198) rfl k) ?_
          show OEnds p.tables e below G (T1335.setTop (mkF m 200 #[.val (.long q1), .second, .val (.long q2), .second, .val (.long q3), .second, .val (.int p4), .val (.long (1000000 : Int64)), .second, .val (.long v1001), .second, .val (.long v1002), .second, .val (.long v1003), .second, .val (.long v1004), .second, .val (.int mv), .val (.int ef), .val (.ref b1007), .val (.ref b_1026), .val (.ref b_1040), .val (.int v1106), .val (.int v1108), .val (.long v1003), .second, .val (.long v1003), .second, .val (.int v1298), .val (.int v1301), .unset, .unset] [(.long v1003), (.int v1301)]))
          refine OEnds.st (fun _ k => XS.lload X1335.here hx rfl (hb hby at_200) rfl k) ?_
          show OEnds p.tables e below G (T1335.setTop (mkF m 202 #[.val (.long q1), .second, .val (.long q2), .second, .val (.long q3), .second, .val (.int p4), .val (.long (1000000 : Int64)), .second, .val (.long v1001), .second, .val (.long v1002), .second, .val (.long v1003), .second, .val (.long v1004), .second, .val (.int mv), .val (.int ef), .val (.ref b1007), .val (.ref b_1026), .val (.ref b_1040), .val (.int v1106), .val (.int v1108), .val (.long v1003), .second, .val (.long v1003), .second, .val (.int v1298), .val (.int v1301), .unset, .unset] [(.long v1004), (.long v1003), (.int v1301)]))
          obtain ⟨_, _, ⟨T1360, L1360, k1360c, n1360c⟩, -, X1360, ⟨Lc1360, hQ1360, l1360, y1360, z1360⟩, st1360⟩ := Jvm.LawKit.callS X1335 hx (y := (⟨"com/example/marshalyard/marshalyard/proxy/MovingTriesAdvancePinLaw", "counted", "(JJ)I"⟩ : MethodName)) hown (mvT hZ (hw _ (List.mem_of_getElem? (i := 60) rfl))) (mvT hZ (hw _ (List.mem_of_getElem? (i := 61) rfl))) (mvT hZ (hw _ (List.mem_of_getElem? (i := 62) rfl))) (mvT hZ (hw _ (List.mem_of_getElem? (i := 63) rfl))) (by decide) (backOf (W := 1) (rm9 l Z a0 hw [] v1003 v1004 T1335.heap n0 Z1335 ) hZ (hw _ (List.mem_of_getElem? (i := 63) rfl)) (hw _ (List.mem_of_getElem? (i := 62) rfl)) (by decide) (by decide)) (g := (mkF m 202 #[.val (.long q1), .second, .val (.long q2), .second, .val (.long q3), .second, .val (.int p4), .val (.long (1000000 : Int64)), .second, .val (.long v1001), .second, .val (.long v1002), .second, .val (.long v1003), .second, .val (.long v1004), .second, .val (.int mv), .val (.int ef), .val (.ref b1007), .val (.ref b_1026), .val (.ref b_1040), .val (.int v1106), .val (.int v1108), .val (.long v1003), .second, .val (.long v1003), .second, .val (.int v1298), .val (.int v1301), .unset, .unset] [(.long v1004), (.long v1003), (.int v1301)])) rfl (by rw [hml]; rfl) (argsL := [(.long v1003), (.long v1004)]) (rest := [(.int v1301)]) (lenOf pd_5 rfl) rfl (by show 2 * 0 + _ ≤ _; exact Nat.le_of_eq rfl) (hb hby at_202) (fun _ _ => ⟨rfl, rfl, (by decide : 0 + 1 + 0 + 1 + 1 + 0 + 0 + 0 + 0 + 0 + 0 + 0 + 0 + 0 + 0 + 0 + 0 ≤ _), (by decide : 0 + 4 + 0 + 3 + 3 + 0 + 0 + 0 + 0 + 0 + 0 + 0 + 0 + 0 + 0 + 0 + 0 ≤ _)⟩)
          dsimp only [Pt.U, Pt.locs, Pt.cells, Pt.slots] at X1360 l1360 y1360 z1360 st1360 hQ1360
          subst l1360 y1360 z1360
          obtain ⟨rfl, N1360q, e1360⟩ := hQ1360
          have N1360 := Fr.app N1335 N1360q
          refine OEnds.st st1360 ?_
          clear st1360
          show OEnds p.tables e below G (T1360.setTop (mkF m 205 #[.val (.long q1), .second, .val (.long q2), .second, .val (.long q3), .second, .val (.int p4), .val (.long (1000000 : Int64)), .second, .val (.long v1001), .second, .val (.long v1002), .second, .val (.long v1003), .second, .val (.long v1004), .second, .val (.int mv), .val (.int ef), .val (.ref b1007), .val (.ref b_1026), .val (.ref b_1040), .val (.int v1106), .val (.int v1108), .val (.long v1003), .second, .val (.long v1003), .second, .val (.int v1298), .val (.int v1301), .unset, .unset] [(.int (own_cnt v1003 v1004)), (.int v1301)]))
          refine OEnds.st (fun _ k => XS.isub X1360.here hx rfl (hb hby at_205) rfl k) ?_
          show OEnds p.tables e below G (T1360.setTop (mkF m 206 #[.val (.long q1), .second, .val (.long q2), .second, .val (.long q3), .second, .val (.int p4), .val (.long (1000000 : Int64)), .second, .val (.long v1001), .second, .val (.long v1002), .second, .val (.long v1003), .second, .val (.long v1004), .second, .val (.int mv), .val (.int ef), .val (.ref b1007), .val (.ref b_1026), .val (.ref b_1040), .val (.int v1106), .val (.int v1108), .val (.long v1003), .second, .val (.long v1003), .second, .val (.int v1298), .val (.int v1301), .unset, .unset] [(.int (v1301 - (own_cnt v1003 v1004)))]))
          refine OEnds.st (fun _ k => XS.istore X1360.here hx rfl (hb hby at_206) rfl (l' := #[.val (.long q1), .second, .val (.long q2), .second, .val (.long q3), .second, .val (.int p4), .val (.long (1000000 : Int64)), .second, .val (.long v1001), .second, .val (.long v1002), .second, .val (.long v1003), .second, .val (.long v1004), .second, .val (.int mv), .val (.int ef), .val (.ref b1007), .val (.ref b_1026), .val (.ref b_1040), .val (.int v1106), .val (.int v1108), .val (.long v1003), .second, .val (.long v1003), .second, .val (.int v1298), .val (.int v1301), .val (.int (v1301 - (own_cnt v1003 v1004))), .unset]) rfl k) ?_
          show OEnds p.tables e below G (T1360.setTop (mkF m 208 #[.val (.long q1), .second, .val (.long q2), .second, .val (.long q3), .second, .val (.int p4), .val (.long (1000000 : Int64)), .second, .val (.long v1001), .second, .val (.long v1002), .second, .val (.long v1003), .second, .val (.long v1004), .second, .val (.int mv), .val (.int ef), .val (.ref b1007), .val (.ref b_1026), .val (.ref b_1040), .val (.int v1106), .val (.int v1108), .val (.long v1003), .second, .val (.long v1003), .second, .val (.int v1298), .val (.int v1301), .val (.int (v1301 - (own_cnt v1003 v1004))), .unset] []))
          generalize hv_v1361 : (v1301 - (own_cnt v1003 v1004)) = v1361
          show OEnds p.tables e below G (T1360.setTop (mkF m 208 #[.val (.long q1), .second, .val (.long q2), .second, .val (.long q3), .second, .val (.int p4), .val (.long (1000000 : Int64)), .second, .val (.long v1001), .second, .val (.long v1002), .second, .val (.long v1003), .second, .val (.long v1004), .second, .val (.int mv), .val (.int ef), .val (.ref b1007), .val (.ref b_1026), .val (.ref b_1040), .val (.int v1106), .val (.int v1108), .val (.long v1003), .second, .val (.long v1003), .second, .val (.int v1298), .val (.int v1301), .val (.int v1361), .unset] []))
          refine OEnds.st (fun _ k => XS.goto X1360.here hx rfl (pc0 := 208) (pc' := 228) rfl (hb hby at_208) (by decide) (by decide) k) ?_
          show OEnds p.tables e below G (T1360.setTop (mkF m 228 #[.val (.long q1), .second, .val (.long q2), .second, .val (.long q3), .second, .val (.int p4), .val (.long (1000000 : Int64)), .second, .val (.long v1001), .second, .val (.long v1002), .second, .val (.long v1003), .second, .val (.long v1004), .second, .val (.int mv), .val (.int ef), .val (.ref b1007), .val (.ref b_1026), .val (.ref b_1040), .val (.int v1106), .val (.int v1108), .val (.long v1003), .second, .val (.long v1003), .second, .val (.int v1298), .val (.int v1301), .val (.int v1361), .unset] []))
          refine OEnds.st (fun _ k => XS.aload X1360.here hx rfl (hb hby at_228) rfl rfl k) ?_
          show OEnds p.tables e below G (T1360.setTop (mkF m 230 #[.val (.long q1), .second, .val (.long q2), .second, .val (.long q3), .second, .val (.int p4), .val (.long (1000000 : Int64)), .second, .val (.long v1001), .second, .val (.long v1002), .second, .val (.long v1003), .second, .val (.long v1004), .second, .val (.int mv), .val (.int ef), .val (.ref b1007), .val (.ref b_1026), .val (.ref b_1040), .val (.int v1106), .val (.int v1108), .val (.long v1003), .second, .val (.long v1003), .second, .val (.int v1298), .val (.int v1301), .val (.int v1361), .unset] [(.ref b1007)]))
          obtain ⟨cq1362, kq1362, q1362a, q1362b, q1362c⟩ := isOf hZ e1360 p1341
          obtain ⟨_, _, ⟨T1362, L1362, k1362c, n1362c⟩, -, X1362, ⟨Lc1362, hQ1362, l1362, y1362, z1362⟩, st1362⟩ := X1360.virtualBack hx (y := (⟨"com/example/marshalyard/marshalyard/proxy/MovingTries", "count", "()I"⟩ : MethodName)) (z := (⟨"com/example/marshalyard/marshalyard/proxy/MovingTries", "count", "()I"⟩ : MethodName)) hown (mvT hZ (hw _ (List.mem_of_getElem? (i := 52) rfl))) (mvT hZ (hw _ (List.mem_of_getElem? (i := 53) rfl))) (notFace_of_selects (args := #[]) (mvT hZ (hw _ (List.mem_of_getElem? (i := 55) rfl)))) (mvT hZ (hw _ (List.mem_of_getElem? (i := 55) rfl))) (mvT hZ (hw _ (List.mem_of_getElem? (i := 54) rfl))) (by decide) (backOf (W := 0) (rm8 l Z a0 hw [] b1007 nn5 bb5 T1335.heap n0 Z1335 p1344 p1345) hZ (hw _ (List.mem_of_getElem? (i := 56) rfl)) (hw _ (List.mem_of_getElem? (i := 4) rfl)) (by decide) (by decide)) q1362a q1362c (g := (mkF m 230 #[.val (.long q1), .second, .val (.long q2), .second, .val (.long q3), .second, .val (.int p4), .val (.long (1000000 : Int64)), .second, .val (.long v1001), .second, .val (.long v1002), .second, .val (.long v1003), .second, .val (.long v1004), .second, .val (.int mv), .val (.int ef), .val (.ref b1007), .val (.ref b_1026), .val (.ref b_1040), .val (.int v1106), .val (.int v1108), .val (.long v1003), .second, .val (.long v1003), .second, .val (.int v1298), .val (.int v1301), .val (.int v1361), .unset] [(.ref b1007)])) rfl (by rw [hml]; rfl) (Steps.refl _) (argsL := []) (rest := []) (lenOf pd_4 rfl) rfl (by show 2 * 0 + _ ≤ _; exact Nat.le_of_eq rfl) (hb hby at_230) (fun _ _ => ⟨rfl, e1360, (by decide : 0 + 1 + 0 + 1 + 1 + 0 + 0 + 0 + 0 + 0 + 0 + 0 + 0 + 0 + 0 + 0 + 0 + 0 ≤ _), (by decide : 0 + 4 + 0 + 3 + 3 + 0 + 0 + 0 + 0 + 0 + 0 + 0 + 0 + 0 + 0 + 0 + 0 + 0 ≤ _)⟩)
          dsimp only [Pt.U, Pt.locs, Pt.cells, Pt.slots] at X1362 l1362 y1362 z1362 st1362 hQ1362
          subst l1362 y1362 z1362
          obtain ⟨rfl, N1362q, e1362⟩ := hQ1362
          have N1362 := Fr.app N1360 N1362q
          refine OEnds.st (fun _ k => st1362.trans k) ?_
          clear st1362
          show OEnds p.tables e below G (T1362.setTop (mkF m 233 #[.val (.long q1), .second, .val (.long q2), .second, .val (.long q3), .second, .val (.int p4), .val (.long (1000000 : Int64)), .second, .val (.long v1001), .second, .val (.long v1002), .second, .val (.long v1003), .second, .val (.long v1004), .second, .val (.int mv), .val (.int ef), .val (.ref b1007), .val (.ref b_1026), .val (.ref b_1040), .val (.int v1106), .val (.int v1108), .val (.long v1003), .second, .val (.long v1003), .second, .val (.int v1298), .val (.int v1301), .val (.int v1361), .unset] [(.int (nn5 + bb5))]))
          refine OEnds.st (fun _ k => XS.istore X1362.here hx rfl (hb hby at_233) rfl (l' := #[.val (.long q1), .second, .val (.long q2), .second, .val (.long q3), .second, .val (.int p4), .val (.long (1000000 : Int64)), .second, .val (.long v1001), .second, .val (.long v1002), .second, .val (.long v1003), .second, .val (.long v1004), .second, .val (.int mv), .val (.int ef), .val (.ref b1007), .val (.ref b_1026), .val (.ref b_1040), .val (.int v1106), .val (.int v1108), .val (.long v1003), .second, .val (.long v1003), .second, .val (.int v1298), .val (.int v1301), .val (.int v1361), .val (.int (nn5 + bb5))]) rfl k) ?_
          show OEnds p.tables e below G (T1362.setTop (mkF m 235 #[.val (.long q1), .second, .val (.long q2), .second, .val (.long q3), .second, .val (.int p4), .val (.long (1000000 : Int64)), .second, .val (.long v1001), .second, .val (.long v1002), .second, .val (.long v1003), .second, .val (.long v1004), .second, .val (.int mv), .val (.int ef), .val (.ref b1007), .val (.ref b_1026), .val (.ref b_1040), .val (.int v1106), .val (.int v1108), .val (.long v1003), .second, .val (.long v1003), .second, .val (.int v1298), .val (.int v1301), .val (.int v1361), .val (.int (nn5 + bb5))] []))
          generalize hv_v1363 : (nn5 + bb5) = v1363
          show OEnds p.tables e below G (T1362.setTop (mkF m 235 #[.val (.long q1), .second, .val (.long q2), .second, .val (.long q3), .second, .val (.int p4), .val (.long (1000000 : Int64)), .second, .val (.long v1001), .second, .val (.long v1002), .second, .val (.long v1003), .second, .val (.long v1004), .second, .val (.int mv), .val (.int ef), .val (.ref b1007), .val (.ref b_1026), .val (.ref b_1040), .val (.int v1106), .val (.int v1108), .val (.long v1003), .second, .val (.long v1003), .second, .val (.int v1298), .val (.int v1301), .val (.int v1361), .val (.int v1363)] []))
          refine OEnds.st (fun _ k => XS.iload X1362.here hx rfl (hb hby at_235) rfl k) ?_
          show OEnds p.tables e below G (T1362.setTop (mkF m 237 #[.val (.long q1), .second, .val (.long q2), .second, .val (.long q3), .second, .val (.int p4), .val (.long (1000000 : Int64)), .second, .val (.long v1001), .second, .val (.long v1002), .second, .val (.long v1003), .second, .val (.long v1004), .second, .val (.int mv), .val (.int ef), .val (.ref b1007), .val (.ref b_1026), .val (.ref b_1040), .val (.int v1106), .val (.int v1108), .val (.long v1003), .second, .val (.long v1003), .second, .val (.int v1298), .val (.int v1301), .val (.int v1361), .val (.int v1363)] [(.int v1106)]))
          refine OEnds.st (fun _ k => XS.iload X1362.here hx rfl (hb hby at_237) rfl k) ?_
          show OEnds p.tables e below G (T1362.setTop (mkF m 239 #[.val (.long q1), .second, .val (.long q2), .second, .val (.long q3), .second, .val (.int p4), .val (.long (1000000 : Int64)), .second, .val (.long v1001), .second, .val (.long v1002), .second, .val (.long v1003), .second, .val (.long v1004), .second, .val (.int mv), .val (.int ef), .val (.ref b1007), .val (.ref b_1026), .val (.ref b_1040), .val (.int v1106), .val (.int v1108), .val (.long v1003), .second, .val (.long v1003), .second, .val (.int v1298), .val (.int v1301), .val (.int v1361), .val (.int v1363)] [(.int v1108), (.int v1106)]))
          have hc239_1364 : v1106 = v1108 := by rw [← hv_v1106, ← hv_v1108]; exact own_F1 hD hn1 hb1
          refine OEnds.st (fun _ k => XS.icmpNo X1362.here hx rfl (hb hby at_239) rfl (teq hc239_1364).2 k) ?_
          show OEnds p.tables e below G (T1362.setTop (mkF m 242 #[.val (.long q1), .second, .val (.long q2), .second, .val (.long q3), .second, .val (.int p4), .val (.long (1000000 : Int64)), .second, .val (.long v1001), .second, .val (.long v1002), .second, .val (.long v1003), .second, .val (.long v1004), .second, .val (.int mv), .val (.int ef), .val (.ref b1007), .val (.ref b_1026), .val (.ref b_1040), .val (.int v1106), .val (.int v1108), .val (.long v1003), .second, .val (.long v1003), .second, .val (.int v1298), .val (.int v1301), .val (.int v1361), .val (.int v1363)] []))
          refine OEnds.st (fun _ k => XS.iload X1362.here hx rfl (hb hby at_242) rfl k) ?_
          show OEnds p.tables e below G (T1362.setTop (mkF m 244 #[.val (.long q1), .second, .val (.long q2), .second, .val (.long q3), .second, .val (.int p4), .val (.long (1000000 : Int64)), .second, .val (.long v1001), .second, .val (.long v1002), .second, .val (.long v1003), .second, .val (.long v1004), .second, .val (.int mv), .val (.int ef), .val (.ref b1007), .val (.ref b_1026), .val (.ref b_1040), .val (.int v1106), .val (.int v1108), .val (.long v1003), .second, .val (.long v1003), .second, .val (.int v1298), .val (.int v1301), .val (.int v1361), .val (.int v1363)] [(.int v1298)]))
          refine OEnds.st (fun _ k => XS.iload X1362.here hx rfl (hb hby at_244) rfl k) ?_
          show OEnds p.tables e below G (T1362.setTop (mkF m 246 #[.val (.long q1), .second, .val (.long q2), .second, .val (.long q3), .second, .val (.int p4), .val (.long (1000000 : Int64)), .second, .val (.long v1001), .second, .val (.long v1002), .second, .val (.long v1003), .second, .val (.long v1004), .second, .val (.int mv), .val (.int ef), .val (.ref b1007), .val (.ref b_1026), .val (.ref b_1040), .val (.int v1106), .val (.int v1108), .val (.long v1003), .second, .val (.long v1003), .second, .val (.int v1298), .val (.int v1301), .val (.int v1361), .val (.int v1363)] [(.int v1301), (.int v1298)]))
          have hc246_1365 : v1298 = v1301 := by rw [← hv_v1298, ← hv_v1301]; exact own_F2m hD hn1 hb1 h_nn2 h_bb2 h_nn3 hn4 hb4
          refine OEnds.st (fun _ k => XS.icmpNo X1362.here hx rfl (hb hby at_246) rfl (teq hc246_1365).2 k) ?_
          show OEnds p.tables e below G (T1362.setTop (mkF m 249 #[.val (.long q1), .second, .val (.long q2), .second, .val (.long q3), .second, .val (.int p4), .val (.long (1000000 : Int64)), .second, .val (.long v1001), .second, .val (.long v1002), .second, .val (.long v1003), .second, .val (.long v1004), .second, .val (.int mv), .val (.int ef), .val (.ref b1007), .val (.ref b_1026), .val (.ref b_1040), .val (.int v1106), .val (.int v1108), .val (.long v1003), .second, .val (.long v1003), .second, .val (.int v1298), .val (.int v1301), .val (.int v1361), .val (.int v1363)] []))
          refine OEnds.st (fun _ k => XS.iload X1362.here hx rfl (hb hby at_249) rfl k) ?_
          show OEnds p.tables e below G (T1362.setTop (mkF m 251 #[.val (.long q1), .second, .val (.long q2), .second, .val (.long q3), .second, .val (.int p4), .val (.long (1000000 : Int64)), .second, .val (.long v1001), .second, .val (.long v1002), .second, .val (.long v1003), .second, .val (.long v1004), .second, .val (.int mv), .val (.int ef), .val (.ref b1007), .val (.ref b_1026), .val (.ref b_1040), .val (.int v1106), .val (.int v1108), .val (.long v1003), .second, .val (.long v1003), .second, .val (.int v1298), .val (.int v1301), .val (.int v1361), .val (.int v1363)] [(.int v1363)]))
          refine OEnds.st (fun _ k => XS.iload X1362.here hx rfl (hb hby at_251) rfl k) ?_
          show OEnds p.tables e below G (T1362.setTop (mkF m 253 #[.val (.long q1), .second, .val (.long q2), .second, .val (.long q3), .second, .val (.int p4), .val (.long (1000000 : Int64)), .second, .val (.long v1001), .second, .val (.long v1002), .second, .val (.long v1003), .second, .val (.long v1004), .second, .val (.int mv), .val (.int ef), .val (.ref b1007), .val (.ref b_1026), .val (.ref b_1040), .val (.int v1106), .val (.int v1108), .val (.long v1003), .second, .val (.long v1003), .second, .val (.int v1298), .val (.int v1301), .val (.int v1361), .val (.int v1363)] [(.int v1361), (.int v1363)]))
          have hc253_1366 : v1363 = v1361 := by rw [← hv_v1363, ← hv_v1361, ← hv_v1301]; exact own_F3me hD hn1 hb1 h_nn2 h_bb2 h_nn3 hn4 hb4 h_nn5 h_bb5
          refine OEnds.st (fun _ k => XS.icmpNo X1362.here hx rfl (hb hby at_253) rfl (teq hc253_1366).2 k) ?_
          show OEnds p.tables e below G (T1362.setTop (mkF m 256 #[.val (.long q1), .second, .val (.long q2), .second, .val (.long q3), .second, .val (.int p4), .val (.long (1000000 : Int64)), .second, .val (.long v1001), .second, .val (.long v1002), .second, .val (.long v1003), .second, .val (.long v1004), .second, .val (.int mv), .val (.int ef), .val (.ref b1007), .val (.ref b_1026), .val (.ref b_1040), .val (.int v1106), .val (.int v1108), .val (.long v1003), .second, .val (.long v1003), .second, .val (.int v1298), .val (.int v1301), .val (.int v1361), .val (.int v1363)] []))
          refine OEnds.st (fun _ k => XS.iconst X1362.here hx rfl (hb hby at_256) k) ?_
          show OEnds p.tables e below G (T1362.setTop (mkF m 257 #[.val (.long q1), .second, .val (.long q2), .second, .val (.long q3), .second, .val (.int p4), .val (.long (1000000 : Int64)), .second, .val (.long v1001), .second, .val (.long v1002), .second, .val (.long v1003), .second, .val (.long v1004), .second, .val (.int mv), .val (.int ef), .val (.ref b1007), .val (.ref b_1026), .val (.ref b_1040), .val (.int v1106), .val (.int v1108), .val (.long v1003), .second, .val (.long v1003), .second, .val (.int v1298), .val (.int v1301), .val (.int v1361), .val (.int v1363)] [(.int (1 : Int32))]))
          refine OEnds.st (fun _ k => XS.goto X1362.here hx rfl (pc0 := 257) (pc' := 261) rfl (hb hby at_257) (by decide) (by decide) k) ?_
          show OEnds p.tables e below G (T1362.setTop (mkF m 261 #[.val (.long q1), .second, .val (.long q2), .second, .val (.long q3), .second, .val (.int p4), .val (.long (1000000 : Int64)), .second, .val (.long v1001), .second, .val (.long v1002), .second, .val (.long v1003), .second, .val (.long v1004), .second, .val (.int mv), .val (.int ef), .val (.ref b1007), .val (.ref b_1026), .val (.ref b_1040), .val (.int v1106), .val (.int v1108), .val (.long v1003), .second, .val (.long v1003), .second, .val (.int v1298), .val (.int v1301), .val (.int v1361), .val (.int v1363)] [(.int (1 : Int32))]))
          rw [← hG]
          refine OEnds.retZ X1362 hx hlk Bd.returns rfl (hb hby at_261) (by decide) (by decide) ?_
          rw [e1362]
          exact ⟨rfl, N1362⟩
    show OEnds p.tables e below G (s₁.setTop (mkF m 51 #[.val (.long q1), .second, .val (.long q2), .second, .val (.long q3), .second, .val (.int p4), .val (.long (1000000 : Int64)), .second, .val (.long v1001), .second, .val (.long v1002), .second, .val (.long v1003), .second, .val (.long v1004), .second, .val (.int mv), .unset, .unset, .unset, .unset, .unset, .unset, .unset, .unset, .unset, .unset, .unset, .unset, .unset, .unset] []))
    refine OEnds.st (fun _ k => XS.iload X0.here hx rfl (hb hby at_51) rfl k) ?_
    show OEnds p.tables e below G (s₁.setTop (mkF m 53 #[.val (.long q1), .second, .val (.long q2), .second, .val (.long q3), .second, .val (.int p4), .val (.long (1000000 : Int64)), .second, .val (.long v1001), .second, .val (.long v1002), .second, .val (.long v1003), .second, .val (.long v1004), .second, .val (.int mv), .unset, .unset, .unset, .unset, .unset, .unset, .unset, .unset, .unset, .unset, .unset, .unset, .unset, .unset] [(.int p4)]))
    refine OEnds.st (fun _ k => XS.iconst X0.here hx rfl (hb hby at_53) k) ?_
    show OEnds p.tables e below G (s₁.setTop (mkF m 54 #[.val (.long q1), .second, .val (.long q2), .second, .val (.long q3), .second, .val (.int p4), .val (.long (1000000 : Int64)), .second, .val (.long v1001), .second, .val (.long v1002), .second, .val (.long v1003), .second, .val (.long v1004), .second, .val (.int mv), .unset, .unset, .unset, .unset, .unset, .unset, .unset, .unset, .unset, .unset, .unset, .unset, .unset, .unset] [(.int (2 : Int32)), (.int p4)]))
    refine OEnds.st (fun _ k => XS.iand X0.here hx rfl (hb hby at_54) rfl k) ?_
    show OEnds p.tables e below G (s₁.setTop (mkF m 55 #[.val (.long q1), .second, .val (.long q2), .second, .val (.long q3), .second, .val (.int p4), .val (.long (1000000 : Int64)), .second, .val (.long v1001), .second, .val (.long v1002), .second, .val (.long v1003), .second, .val (.long v1004), .second, .val (.int mv), .unset, .unset, .unset, .unset, .unset, .unset, .unset, .unset, .unset, .unset, .unset, .unset, .unset, .unset] [(.int (p4 &&& (2 : Int32)))]))
    by_cases hc55_1367 : (p4 &&& (2 : Int32)) = (0 : Int32)
    · -- pc 55: yes
      refine OEnds.st (fun _ k => XS.ifYes X0.here hx rfl (pc0 := 55) (pc' := 62) rfl (hb hby at_55) rfl ((if0 _ _).trans (teq hc55_1367).1) (by decide) (by decide) k) ?_
      show OEnds p.tables e below G (s₁.setTop (mkF m 62 #[.val (.long q1), .second, .val (.long q2), .second, .val (.long q3), .second, .val (.int p4), .val (.long (1000000 : Int64)), .second, .val (.long v1001), .second, .val (.long v1002), .second, .val (.long v1003), .second, .val (.long v1004), .second, .val (.int mv), .unset, .unset, .unset, .unset, .unset, .unset, .unset, .unset, .unset, .unset, .unset, .unset, .unset, .unset] []))
      refine OEnds.st (fun _ k => XS.iconst X0.here hx rfl (hb hby at_62) k) ?_
      show OEnds p.tables e below G (s₁.setTop (mkF m 63 #[.val (.long q1), .second, .val (.long q2), .second, .val (.long q3), .second, .val (.int p4), .val (.long (1000000 : Int64)), .second, .val (.long v1001), .second, .val (.long v1002), .second, .val (.long v1003), .second, .val (.long v1004), .second, .val (.int mv), .unset, .unset, .unset, .unset, .unset, .unset, .unset, .unset, .unset, .unset, .unset, .unset, .unset, .unset] [(.int (0 : Int32))]))
      refine OEnds.st (fun _ k => XS.istore X0.here hx rfl (hb hby at_63) rfl (l' := #[.val (.long q1), .second, .val (.long q2), .second, .val (.long q3), .second, .val (.int p4), .val (.long (1000000 : Int64)), .second, .val (.long v1001), .second, .val (.long v1002), .second, .val (.long v1003), .second, .val (.long v1004), .second, .val (.int mv), .val (.int (0 : Int32)), .unset, .unset, .unset, .unset, .unset, .unset, .unset, .unset, .unset, .unset, .unset, .unset, .unset]) rfl k) ?_
      exact rest65_1006 (0 : Int32) 
    · -- pc 55: no
      refine OEnds.st (fun _ k => XS.ifNo X0.here hx rfl (hb hby at_55) rfl ((if0 _ _).trans (feq hc55_1367).1) k) ?_
      show OEnds p.tables e below G (s₁.setTop (mkF m 58 #[.val (.long q1), .second, .val (.long q2), .second, .val (.long q3), .second, .val (.int p4), .val (.long (1000000 : Int64)), .second, .val (.long v1001), .second, .val (.long v1002), .second, .val (.long v1003), .second, .val (.long v1004), .second, .val (.int mv), .unset, .unset, .unset, .unset, .unset, .unset, .unset, .unset, .unset, .unset, .unset, .unset, .unset, .unset] []))
      refine OEnds.st (fun _ k => XS.iconst X0.here hx rfl (hb hby at_58) k) ?_
      show OEnds p.tables e below G (s₁.setTop (mkF m 59 #[.val (.long q1), .second, .val (.long q2), .second, .val (.long q3), .second, .val (.int p4), .val (.long (1000000 : Int64)), .second, .val (.long v1001), .second, .val (.long v1002), .second, .val (.long v1003), .second, .val (.long v1004), .second, .val (.int mv), .unset, .unset, .unset, .unset, .unset, .unset, .unset, .unset, .unset, .unset, .unset, .unset, .unset, .unset] [(.int (1 : Int32))]))
      refine OEnds.st (fun _ k => XS.goto X0.here hx rfl (pc0 := 59) (pc' := 63) rfl (hb hby at_59) (by decide) (by decide) k) ?_
      show OEnds p.tables e below G (s₁.setTop (mkF m 63 #[.val (.long q1), .second, .val (.long q2), .second, .val (.long q3), .second, .val (.int p4), .val (.long (1000000 : Int64)), .second, .val (.long v1001), .second, .val (.long v1002), .second, .val (.long v1003), .second, .val (.long v1004), .second, .val (.int mv), .unset, .unset, .unset, .unset, .unset, .unset, .unset, .unset, .unset, .unset, .unset, .unset, .unset, .unset] [(.int (1 : Int32))]))
      refine OEnds.st (fun _ k => XS.istore X0.here hx rfl (hb hby at_63) rfl (l' := #[.val (.long q1), .second, .val (.long q2), .second, .val (.long q3), .second, .val (.int p4), .val (.long (1000000 : Int64)), .second, .val (.long v1001), .second, .val (.long v1002), .second, .val (.long v1003), .second, .val (.long v1004), .second, .val (.int mv), .val (.int (1 : Int32)), .unset, .unset, .unset, .unset, .unset, .unset, .unset, .unset, .unset, .unset, .unset, .unset, .unset]) rfl k) ?_
      exact rest65_1006 (1 : Int32) 
  show OEnds p.tables e below G (s₁.setTop (mkF m 37 #[.val (.long q1), .second, .val (.long q2), .second, .val (.long q3), .second, .val (.int p4), .val (.long (1000000 : Int64)), .second, .val (.long v1001), .second, .val (.long v1002), .second, .val (.long v1003), .second, .val (.long v1004), .second, .unset, .unset, .unset, .unset, .unset, .unset, .unset, .unset, .unset, .unset, .unset, .unset, .unset, .unset, .unset] []))
  refine OEnds.st (fun _ k => XS.iload X0.here hx rfl (hb hby at_37) rfl k) ?_
  show OEnds p.tables e below G (s₁.setTop (mkF m 39 #[.val (.long q1), .second, .val (.long q2), .second, .val (.long q3), .second, .val (.int p4), .val (.long (1000000 : Int64)), .second, .val (.long v1001), .second, .val (.long v1002), .second, .val (.long v1003), .second, .val (.long v1004), .second, .unset, .unset, .unset, .unset, .unset, .unset, .unset, .unset, .unset, .unset, .unset, .unset, .unset, .unset, .unset] [(.int p4)]))
  refine OEnds.st (fun _ k => XS.iconst X0.here hx rfl (hb hby at_39) k) ?_
  show OEnds p.tables e below G (s₁.setTop (mkF m 40 #[.val (.long q1), .second, .val (.long q2), .second, .val (.long q3), .second, .val (.int p4), .val (.long (1000000 : Int64)), .second, .val (.long v1001), .second, .val (.long v1002), .second, .val (.long v1003), .second, .val (.long v1004), .second, .unset, .unset, .unset, .unset, .unset, .unset, .unset, .unset, .unset, .unset, .unset, .unset, .unset, .unset, .unset] [(.int (1 : Int32)), (.int p4)]))
  refine OEnds.st (fun _ k => XS.iand X0.here hx rfl (hb hby at_40) rfl k) ?_
  show OEnds p.tables e below G (s₁.setTop (mkF m 41 #[.val (.long q1), .second, .val (.long q2), .second, .val (.long q3), .second, .val (.int p4), .val (.long (1000000 : Int64)), .second, .val (.long v1001), .second, .val (.long v1002), .second, .val (.long v1003), .second, .val (.long v1004), .second, .unset, .unset, .unset, .unset, .unset, .unset, .unset, .unset, .unset, .unset, .unset, .unset, .unset, .unset, .unset] [(.int (p4 &&& (1 : Int32)))]))
  by_cases hc41_1368 : (p4 &&& (1 : Int32)) = (0 : Int32)
  · -- pc 41: yes
    refine OEnds.st (fun _ k => XS.ifYes X0.here hx rfl (pc0 := 41) (pc' := 48) rfl (hb hby at_41) rfl ((if0 _ _).trans (teq hc41_1368).1) (by decide) (by decide) k) ?_
    show OEnds p.tables e below G (s₁.setTop (mkF m 48 #[.val (.long q1), .second, .val (.long q2), .second, .val (.long q3), .second, .val (.int p4), .val (.long (1000000 : Int64)), .second, .val (.long v1001), .second, .val (.long v1002), .second, .val (.long v1003), .second, .val (.long v1004), .second, .unset, .unset, .unset, .unset, .unset, .unset, .unset, .unset, .unset, .unset, .unset, .unset, .unset, .unset, .unset] []))
    refine OEnds.st (fun _ k => XS.iconst X0.here hx rfl (hb hby at_48) k) ?_
    show OEnds p.tables e below G (s₁.setTop (mkF m 49 #[.val (.long q1), .second, .val (.long q2), .second, .val (.long q3), .second, .val (.int p4), .val (.long (1000000 : Int64)), .second, .val (.long v1001), .second, .val (.long v1002), .second, .val (.long v1003), .second, .val (.long v1004), .second, .unset, .unset, .unset, .unset, .unset, .unset, .unset, .unset, .unset, .unset, .unset, .unset, .unset, .unset, .unset] [(.int (0 : Int32))]))
    refine OEnds.st (fun _ k => XS.istore X0.here hx rfl (hb hby at_49) rfl (l' := #[.val (.long q1), .second, .val (.long q2), .second, .val (.long q3), .second, .val (.int p4), .val (.long (1000000 : Int64)), .second, .val (.long v1001), .second, .val (.long v1002), .second, .val (.long v1003), .second, .val (.long v1004), .second, .val (.int (0 : Int32)), .unset, .unset, .unset, .unset, .unset, .unset, .unset, .unset, .unset, .unset, .unset, .unset, .unset, .unset]) rfl k) ?_
    exact rest51_1005 (0 : Int32) 
  · -- pc 41: no
    refine OEnds.st (fun _ k => XS.ifNo X0.here hx rfl (hb hby at_41) rfl ((if0 _ _).trans (feq hc41_1368).1) k) ?_
    show OEnds p.tables e below G (s₁.setTop (mkF m 44 #[.val (.long q1), .second, .val (.long q2), .second, .val (.long q3), .second, .val (.int p4), .val (.long (1000000 : Int64)), .second, .val (.long v1001), .second, .val (.long v1002), .second, .val (.long v1003), .second, .val (.long v1004), .second, .unset, .unset, .unset, .unset, .unset, .unset, .unset, .unset, .unset, .unset, .unset, .unset, .unset, .unset, .unset] []))
    refine OEnds.st (fun _ k => XS.iconst X0.here hx rfl (hb hby at_44) k) ?_
    show OEnds p.tables e below G (s₁.setTop (mkF m 45 #[.val (.long q1), .second, .val (.long q2), .second, .val (.long q3), .second, .val (.int p4), .val (.long (1000000 : Int64)), .second, .val (.long v1001), .second, .val (.long v1002), .second, .val (.long v1003), .second, .val (.long v1004), .second, .unset, .unset, .unset, .unset, .unset, .unset, .unset, .unset, .unset, .unset, .unset, .unset, .unset, .unset, .unset] [(.int (1 : Int32))]))
    refine OEnds.st (fun _ k => XS.goto X0.here hx rfl (pc0 := 45) (pc' := 49) rfl (hb hby at_45) (by decide) (by decide) k) ?_
    show OEnds p.tables e below G (s₁.setTop (mkF m 49 #[.val (.long q1), .second, .val (.long q2), .second, .val (.long q3), .second, .val (.int p4), .val (.long (1000000 : Int64)), .second, .val (.long v1001), .second, .val (.long v1002), .second, .val (.long v1003), .second, .val (.long v1004), .second, .unset, .unset, .unset, .unset, .unset, .unset, .unset, .unset, .unset, .unset, .unset, .unset, .unset, .unset, .unset] [(.int (1 : Int32))]))
    refine OEnds.st (fun _ k => XS.istore X0.here hx rfl (hb hby at_49) rfl (l' := #[.val (.long q1), .second, .val (.long q2), .second, .val (.long q3), .second, .val (.int p4), .val (.long (1000000 : Int64)), .second, .val (.long v1001), .second, .val (.long v1002), .second, .val (.long v1003), .second, .val (.long v1004), .second, .val (.int (1 : Int32)), .unset, .unset, .unset, .unset, .unset, .unset, .unset, .unset, .unset, .unset, .unset, .unset, .unset, .unset]) rfl k) ?_
    exact rest51_1005 (1 : Int32) 
set_option maxRecDepth 65536 in
set_option maxHeartbeats 40000000 in
theorem comes_1 {Post : Tables → Env → Array Value → State → Outcome → State → Prop} (hpost : ∀ tb e args s v u, (limb_1_1.after args s (.returned v) u = true ∧ limb_1_2.after args s (.returned v) u = true ∧ True) → FrameEnd s (.returned v) u (Jvm.fieldLocs frame_1_writes args s ++ Jvm.arrayLocs frame_1_arrays args s ++ Jvm.staticLocs frame_1_statics s) 16 128 → Post tb e args s (.returned v) u) :
    ArmFor flags0 classFile x code maxLocals ret World_1 tables_1 room_1 Calls_1 rest_1 Pre_1 Post := by
  intro l hfl _ _ p e ha hc hk s m args below hf hA hF happ hP
  obtain ⟨hcalls, hrest, hpre⟩ := hP
  obtain ⟨-, -, -, hnamed, -, -, -, hat⟩ := (Spec.applies_iff hf).mp happ
  obtain ⟨hg, hn⟩ := and_e (Cond.before_iff.mp (show (Jvm.Cond.and given_1 narrow_1).before args s = true from hpre))
  obtain ⟨gc, gr0⟩ := and_e hg
  obtain ⟨ga0, gr1⟩ := and_e gr0
  obtain ⟨ga1, gr2⟩ := and_e gr1
  obtain ⟨ga2, gr3⟩ := and_e gr2
  obtain ⟨w0, w1, w2, w3, rfl⟩ : ∃ w0 w1 w2 w3 : Value, args = #[w0, w1, w2, w3] := by
    have hs : args.size = 4 := by simpa [Cond.value, given_1] using gc
    obtain ⟨L⟩ := args
    match L, hs with
    | [w0, w1, w2, w3], _ => exact ⟨w0, w1, w2, w3, rfl⟩
  have hw := fun d (hd : d ∈ tables_1) => atoms_spec (ws := Jvm.Cond.code x code maxLocals ret :: tables_1) hat d (List.mem_cons_of_mem _ hd)
  have hfit : Fit s := fun {y c} hc i hi => by
    obtain ⟨ha, rfl⟩ := Array.getElem?_eq_some_iff.mp hc
    have q := List.all_eq_true.mp ((Array.all_eq_true_iff_forall_mem.mp hF) _ (Array.getElem_mem ha)) i (List.mem_range.mpr hi)
    simpa [Array.getElem?_eq_getElem hi] using q
  obtain ⟨i0, ei0⟩ := isL_v ga0
  obtain rfl : w0 = (.long i0) := Option.some.inj ei0
  obtain ⟨i1, ei1⟩ := isL_v ga1
  obtain rfl : w1 = (.long i1) := Option.some.inj ei1
  obtain ⟨i2, ei2⟩ := isL_v ga2
  obtain rfl : w2 = (.long i2) := Option.some.inj ei2
  obtain ⟨i3, ei3⟩ := is_v gr3
  obtain rfl : w3 = (.int i3) := Option.some.inj ei3
  obtain ⟨n, o, h1, h2, h3, _, L, rfl, ⟨rfl, N⟩, hq⟩ := rm0 l s _ hw tables_1 i0 i1 i2 i3  s.heap s.heap.size (Nat.le_refl _) (Sta.start (own_staL hn) (Or.inr ⟨(hw _ (List.mem_of_getElem? (i := 4) rfl)), (hw _ (List.mem_of_getElem? (i := 51) rfl))⟩)) p e ha hc hk s m _ below hf ((Spec.applies_iff_loose hf).mp happ).1 ⟨rfl, State.Warmed39.refl s, rfl⟩ trivial
  refine ⟨n, _, h1, h2, h3, hpost _ _ _ _ _ _ ⟨Cond.after_iff.mpr rfl, Cond.after_iff.mpr (eq_i res_at (Term.int_eval (1)) rfl), trivial⟩ ⟨hq.1, hq.2.1, (hq.2.2.sift fun y hy => Or.inr (N y hy)).mono (by decide) (by decide)⟩⟩
theorem main_1_1 : Claimed_1_1 := comes_1 fun _ _ _ _ _ _ h hF => ⟨h.1, hF⟩
theorem main_1_2 : Claimed_1_2 := comes_1 fun _ _ _ _ _ _ h hF => ⟨h.2.1, hF⟩
end Jvm.Pilot.@@N@@
namespace Jvm.Pilot.@@N@@
open Jvm Jvm.ClassFile Sem Op Lib Jvm.Free Jvm.Stand Jvm.Pilot.@@N@@.Jvm.D
/-! MADE BY PROGRAM (witnessworld.py) out of the Statement's table words and the real class files: 10 classes; the members and pool entries that the words name. The judged class is class 1, her method 2. -/
namespace start1
open Jvm.ClassFile
def u (s : String) : CpInfo := .utf8 (stringToUtf16 s)
/-- a pool by its gaps: so many unusable entries, then the entry; so many at the end -/
def gap : Nat → List CpInfo → List CpInfo
  | 0, r => r
  | n + 1, r => .unusable :: gap n r
def poolList (es : List (Nat × CpInfo)) (last : Nat) : List CpInfo := es.foldr (fun e r => gap e.1 (e.2 :: r)) (gap last [])
def pool (es : List (Nat × CpInfo)) (last : Nat) : Array CpInfo := ⟨poolList es last⟩
def fileOf (pool : Array CpInfo) (this : Nat) (attrs : Array Attribute := #[]) (ms : Array MethodInfo := #[]) (fl : Nat := 33) (sup : Nat := 0) (ifs : Array Nat := #[]) (fds : Array FieldInfo := #[]) : ClassFile where
  minorVersion := 0
  majorVersion := 65
  constantPool := pool
  accessFlags := fl
  thisClass := this
  superClass := sup
  interfaces := ifs
  fields := fds
  methods := ms
  attributes := attrs
def plain (name : String) (sup : Option ClassId) : Class where
  name := name
  kind := .ordinary
  loader := none
  accessFlags := 33
  super := sup
  interfaces := #[]
  cf := none
  fields := #[]
  methods := #[]
  instanceTypes := #[]
  staticTypes := #[]
  resolved := #[]
  callSites := []
  init := .initialized
  statics := none
  mirror := none

def pool0 : Array CpInfo := pool [(5, u "<init>"), (0, u "()V"), (1, .class_ 10), (1, u "java/lang/Object")] 113

def k0c0 : Code := { maxStack := 0, maxLocals := 1, code := object_method_1_code, exceptionTable := #[], attributes := #[] }
def k0m0 : Method := { name := "<init>", desc := "()V", sig := { parameters := [], returnType := none }, accessFlags := 1, code := some k0c0 }
/-- java/lang/Object -/
def k0 : Class := { plain "java/lang/Object" none with
  accessFlags := 33
  interfaces := #[]
  cf := some (fileOf pool0 8 #[] #[{ accessFlags := 1, nameIndex := 5, descriptorIndex := 6, attributes := #[] }] 33 0 #[] #[])
  fields := #[]
  methods := #[k0m0]
  instanceTypes := #[]
  staticTypes := #[]
  resolved := Array.replicate 124 none
  statics := none }

def pool1 : Array CpInfo := pool [(2, .class_ 4), (1, u "java/lang/Object"), (0, u "<init>"), (0, u "()V"), (0, .long 1000000), (1, .long 4611686018427387903), (1, .class_ 12), (0, u "com/example/marshalyard/marshalyard/proxy/MovingTries"), (0, .methodref 11 14), (0, .nameAndType 5 15), (0, u "(J)V"), (0, .methodref 11 17), (0, .nameAndType 18 19), (0, u "flight"), (0, u "()Lcom/example/marshalyard/marshalyard/proxy/MovingTries$Flight;"), (0, .methodref 21 22), (0, .class_ 23), (0, .nameAndType 24 6), (0, u "com/example/marshalyard/marshalyard/proxy/MovingTries$Flight"), (0, u "begin"), (0, .methodref 11 26), (0, .nameAndType 27 15), (0, u "advance"), (0, .methodref 11 29), (0, .nameAndType 30 31), (0, u "count"), (0, u "()I"), (0, .methodref 33 34), (0, .class_ 35), (0, .nameAndType 36 37), (0, u "com/example/marshalyard/marshalyard/proxy/MovingTriesAdvancePinLaw"), (0, u "counted"), (0, u "(JJ)I"), (0, .methodref 21 39), (0, .nameAndType 40 6), (0, u "moved"), (0, .methodref 21 42), (0, .nameAndType 43 6), (0, u "end"), (3, u "law"), (0, u "(JJJI)Z")] 4

def k1m0 : Method := { name := "<init>", desc := "()V", sig := { parameters := [], returnType := none }, accessFlags := 1, code := none }
def k1c1 : Code := { maxStack := 6, maxLocals := 4, code := method_2_code, exceptionTable := #[], attributes := #[] }
def k1m1 : Method := { name := "counted", desc := "(JJ)I", sig := { parameters := [.long, .long], returnType := some .int }, accessFlags := 10, code := some k1c1 }
def k1c2 : Code := { maxStack := 5, maxLocals := 32, code := code, exceptionTable := #[], attributes := #[] }
def k1m2 : Method := { name := "law", desc := "(JJJI)Z", sig := { parameters := [.long, .long, .long, .int], returnType := some .boolean }, accessFlags := 9, code := some k1c2 }
/-- com/example/marshalyard/marshalyard/proxy/MovingTriesAdvancePinLaw -/
def k1 : Class := { plain "com/example/marshalyard/marshalyard/proxy/MovingTriesAdvancePinLaw" (some 0) with
  accessFlags := 49
  interfaces := #[]
  cf := some (fileOf pool1 33 #[] #[{ accessFlags := 1, nameIndex := 5, descriptorIndex := 6, attributes := #[] }, { accessFlags := 10, nameIndex := 36, descriptorIndex := 37, attributes := #[] }, { accessFlags := 9, nameIndex := 47, descriptorIndex := 48, attributes := #[] }] 49 2 #[] #[])
  fields := #[]
  methods := #[k1m0, k1m1, k1m2]
  instanceTypes := #[]
  staticTypes := #[]
  resolved := Array.replicate 53 none
  statics := none }

def pool2 : Array CpInfo := pool [(1, .methodref 2 3), (0, .class_ 4), (0, .nameAndType 5 6), (0, u "java/lang/Object"), (0, u "<init>"), (0, u "()V"), (0, .fieldref 8 9), (0, .class_ 10), (0, .nameAndType 11 12), (0, u "com/example/marshalyard/marshalyard/proxy/MovingTries"), (0, u "windowStart"), (0, u "J"), (0, .fieldref 8 14), (0, .nameAndType 15 12), (0, u "WINDOW_NANOS"), (0, .fieldref 8 17), (0, .nameAndType 18 19), (0, u "movedNow"), (0, u "I"), (0, .fieldref 8 21), (0, .nameAndType 22 19), (0, u "movedBefore"), (0, .fieldref 8 24), (0, .nameAndType 25 12), (0, u "window"), (0, .class_ 27), (0, u "com/example/marshalyard/marshalyard/proxy/MovingTries$Flight"), (0, .methodref 26 29), (0, .nameAndType 5 30), (0, u "(Lcom/example/marshalyard/marshalyard/proxy/MovingTries;)V"), (10, u "(J)V"), (2, u "advance"), (1, u "count"), (0, u "()I"), (0, u "flight"), (0, u "()Lcom/example/marshalyard/marshalyard/proxy/MovingTries$Flight;")] 6

def k2c0 : Code := { maxStack := 3, maxLocals := 3, code := prog_82_method_1_code, exceptionTable := #[], attributes := #[] }
def k2m0 : Method := { name := "<init>", desc := "(J)V", sig := { parameters := [.long], returnType := none }, accessFlags := 0, code := some k2c0 }
def k2c1 : Code := { maxStack := 7, maxLocals := 7, code := prog_82_method_2_code, exceptionTable := #[], attributes := #[] }
def k2m1 : Method := { name := "advance", desc := "(J)V", sig := { parameters := [.long], returnType := none }, accessFlags := 0, code := some k2c1 }
def k2c2 : Code := { maxStack := 2, maxLocals := 1, code := prog_82_method_3_code, exceptionTable := #[], attributes := #[] }
def k2m2 : Method := { name := "count", desc := "()I", sig := { parameters := [], returnType := some .int }, accessFlags := 0, code := some k2c2 }
def k2c3 : Code := { maxStack := 3, maxLocals := 1, code := prog_82_method_4_code, exceptionTable := #[], attributes := #[] }
def k2m3 : Method := { name := "flight", desc := "()Lcom/example/marshalyard/marshalyard/proxy/MovingTries$Flight;", sig := { parameters := [], returnType := some (.object "com/example/marshalyard/marshalyard/proxy/MovingTries$Flight") }, accessFlags := 0, code := some k2c3 }
/-- com/example/marshalyard/marshalyard/proxy/MovingTries -/
def k2 : Class := { plain "com/example/marshalyard/marshalyard/proxy/MovingTries" (some 0) with
  accessFlags := 48
  interfaces := #[]
  cf := some (fileOf pool2 8 #[.nestMembers #[26]] #[{ accessFlags := 0, nameIndex := 5, descriptorIndex := 41, attributes := #[] }, { accessFlags := 0, nameIndex := 44, descriptorIndex := 41, attributes := #[] }, { accessFlags := 0, nameIndex := 46, descriptorIndex := 47, attributes := #[] }, { accessFlags := 0, nameIndex := 48, descriptorIndex := 49, attributes := #[] }] 48 2 #[] #[{ accessFlags := 24, nameIndex := 15, descriptorIndex := 12, attributes := #[] }, { accessFlags := 2, nameIndex := 25, descriptorIndex := 12, attributes := #[] }, { accessFlags := 2, nameIndex := 11, descriptorIndex := 12, attributes := #[] }, { accessFlags := 2, nameIndex := 18, descriptorIndex := 19, attributes := #[] }, { accessFlags := 2, nameIndex := 22, descriptorIndex := 19, attributes := #[] }])
  fields := #[{ name := "WINDOW_NANOS", type := .long, accessFlags := 24, slot := 0, constantValue := 0 }, { name := "window", type := .long, accessFlags := 2, slot := 0, constantValue := 0 }, { name := "windowStart", type := .long, accessFlags := 2, slot := 1, constantValue := 0 }, { name := "movedNow", type := .int, accessFlags := 2, slot := 2, constantValue := 0 }, { name := "movedBefore", type := .int, accessFlags := 2, slot := 3, constantValue := 0 }]
  methods := #[k2m0, k2m1, k2m2, k2m3]
  instanceTypes := #[.long, .long, .int, .int]
  staticTypes := #[.long]
  resolved := ((Array.replicate 56 none).setIfInBounds 26 (some (.cls 3))).setIfInBounds 28 (some (.method ⟨3, 0⟩))
  statics := some 0 }

def pool3 : Array CpInfo := pool [(1, .fieldref 2 3), (0, .class_ 4), (0, .nameAndType 5 6), (0, u "com/example/marshalyard/marshalyard/proxy/MovingTries$Flight"), (0, u "this$0"), (0, u "Lcom/example/marshalyard/marshalyard/proxy/MovingTries;"), (0, .methodref 8 9), (0, .class_ 10), (0, .nameAndType 11 12), (0, u "java/lang/Object"), (0, u "<init>"), (0, u "()V"), (0, .methodref 2 14), (0, .nameAndType 15 12), (0, u "end"), (0, .fieldref 2 17), (0, .nameAndType 18 19), (0, u "inFlight"), (0, u "Z"), (0, .fieldref 21 22), (0, .class_ 23), (0, .nameAndType 24 25), (0, u "com/example/marshalyard/marshalyard/proxy/MovingTries"), (0, u "window"), (0, u "J"), (0, .fieldref 2 22), (0, .fieldref 21 28), (0, .nameAndType 29 30), (0, u "movedNow"), (0, u "I"), (0, .methodref 2 32), (0, .nameAndType 33 12), (0, u "begin"), (0, .fieldref 21 35), (0, .nameAndType 36 30), (0, u "movedBefore"), (0, u "(Lcom/example/marshalyard/marshalyard/proxy/MovingTries;)V"), (3, u "moved")] 6

def k3c0 : Code := { maxStack := 2, maxLocals := 2, code := prog_83_method_1_code, exceptionTable := #[], attributes := #[] }
def k3m0 : Method := { name := "<init>", desc := "(Lcom/example/marshalyard/marshalyard/proxy/MovingTries;)V", sig := { parameters := [(.object "com/example/marshalyard/marshalyard/proxy/MovingTries")], returnType := none }, accessFlags := 2, code := some k3c0 }
def k3c1 : Code := { maxStack := 3, maxLocals := 1, code := prog_83_method_2_code, exceptionTable := #[], attributes := #[] }
def k3m1 : Method := { name := "begin", desc := "()V", sig := { parameters := [], returnType := none }, accessFlags := 0, code := some k3c1 }
def k3c2 : Code := { maxStack := 4, maxLocals := 1, code := prog_83_method_3_code, exceptionTable := #[], attributes := #[] }
def k3m2 : Method := { name := "moved", desc := "()V", sig := { parameters := [], returnType := none }, accessFlags := 0, code := some k3c2 }
def k3c3 : Code := { maxStack := 6, maxLocals := 1, code := prog_83_method_4_code, exceptionTable := #[], attributes := #[] }
def k3m3 : Method := { name := "end", desc := "()V", sig := { parameters := [], returnType := none }, accessFlags := 0, code := some k3c3 }
/-- com/example/marshalyard/marshalyard/proxy/MovingTries$Flight -/
def k3 : Class := { plain "com/example/marshalyard/marshalyard/proxy/MovingTries$Flight" (some 0) with
  accessFlags := 48
  interfaces := #[]
  cf := some (fileOf pool3 2 #[.nestHost 21] #[{ accessFlags := 2, nameIndex := 11, descriptorIndex := 37, attributes := #[] }, { accessFlags := 0, nameIndex := 33, descriptorIndex := 12, attributes := #[] }, { accessFlags := 0, nameIndex := 41, descriptorIndex := 12, attributes := #[] }, { accessFlags := 0, nameIndex := 15, descriptorIndex := 12, attributes := #[] }] 48 8 #[] #[{ accessFlags := 2, nameIndex := 18, descriptorIndex := 19, attributes := #[] }, { accessFlags := 2, nameIndex := 24, descriptorIndex := 25, attributes := #[] }, { accessFlags := 4112, nameIndex := 5, descriptorIndex := 6, attributes := #[] }])
  fields := #[{ name := "inFlight", type := .boolean, accessFlags := 2, slot := 0, constantValue := 0 }, { name := "window", type := .long, accessFlags := 2, slot := 1, constantValue := 0 }, { name := "this$0", type := (.object "com/example/marshalyard/marshalyard/proxy/MovingTries"), accessFlags := 4112, slot := 2, constantValue := 0 }]
  methods := #[k3m0, k3m1, k3m2, k3m3]
  instanceTypes := #[.boolean, .long, (.object "com/example/marshalyard/marshalyard/proxy/MovingTries")]
  staticTypes := #[]
  resolved := Array.replicate 48 none
  statics := none }

def pool4 : Array CpInfo := pool [(1, u "java/lang/Cloneable"), (0, .class_ 1), (0, u "java/lang/Object"), (0, .class_ 3)] 3

/-- java/lang/Cloneable -/
def k4 : Class := { plain "java/lang/Cloneable" (some 0) with
  accessFlags := 1537
  interfaces := #[]
  cf := some (fileOf pool4 2 #[] #[] 1537 4 #[] #[])
  fields := #[]
  methods := #[]
  instanceTypes := #[]
  staticTypes := #[]
  resolved := Array.replicate 8 none
  statics := none }

def pool5 : Array CpInfo := pool [(1, u "java/io/Serializable"), (0, .class_ 1), (0, u "java/lang/Object"), (0, .class_ 3)] 3

/-- java/io/Serializable -/
def k5 : Class := { plain "java/io/Serializable" (some 0) with
  accessFlags := 1537
  interfaces := #[]
  cf := some (fileOf pool5 2 #[] #[] 1537 4 #[] #[])
  fields := #[]
  methods := #[]
  instanceTypes := #[]
  staticTypes := #[]
  resolved := Array.replicate 8 none
  statics := none }

/-- the primitive byte -/
def k6 : Class := { plain "byte" none with kind := .primitive 'B', accessFlags := 0x411 }
/-- [B -/
def k7 : Class := { plain "[B" (some 0) with kind := .array 6 .byte, interfaces := #[4, 5], accessFlags := 1041 }

/-- the primitive int -/
def k8 : Class := { plain "int" none with kind := .primitive 'I', accessFlags := 0x411 }
/-- [I -/
def k9 : Class := { plain "[I" (some 0) with kind := .array 8 .int, interfaces := #[4, 5], accessFlags := 1041 }

def heap : Heap := #[{ cls := 2, slots := #[.long 1000000], vm := .statics 2 }]
def classes : Array Class := #[k0, k1, k2, k3, k4, k5, k6, k7, k8, k9]
def interned : List (Array UInt16 × Addr) := []
def slotsUsed : Nat := 1
def theMethod : MethodId := ⟨1, 2⟩
def args0 : Array Value := #[.long 5, .long 6, .long 7, .int 1]
def aboutOver (below : List Frame) : State where
  vm := { classes := classes, interned := interned.toArray }
  heap := heap
  slotsUsed := slotsUsed
  threads := #[{ frames := .invoking theMethod args0 :: below }]
def below0 : List Frame := [.native { method := ⟨0, 0⟩, args := #[] }]
def about1 : State := aboutOver below0
def p0 : Program := .bare "" "" ""
def e0 : Env := launch0.env 0 0 0
theorem w_frames : about1.frames = Frame.invoking theMethod args0 :: below0 := rfl
set_option maxRecDepth 65536 in
theorem w_args : argsFit about1.vm theMethod args0 = true := by decide +kernel
set_option maxRecDepth 65536 in
theorem w_heap : heapFits about1 = true := by decide +kernel
set_option maxRecDepth 65536 in
theorem w_runnable : about1.curStatus? = some .runnable := by decide +kernel
set_option maxRecDepth 65536 in
theorem w_alone : about1.alone = true := by decide +kernel
set_option maxRecDepth 65536 in
theorem w_named : about1.methodNamed? x = some theMethod := by decide +kernel
set_option maxRecDepth 65536 in
theorem w_hears : about1.hears theMethod below0 = true := by decide +kernel
set_option maxRecDepth 65536 in
theorem w_ripe : about1.ripe theMethod args0 below0 = true := by decide +kernel
theorem w_running : about1.status = .running := rfl
set_option maxRecDepth 65536 in
theorem w_room : about1.hasRoom e0.platform room_1 = true :=
  launch0.hasRoom_least _ room_1 (by decide +kernel) (by decide +kernel) (by decide +kernel) (by decide +kernel) (by decide +kernel) (by decide +kernel)
theorem allAtoms_all (ts : List Jvm.Cond) (a : Array Jvm.Value) (st : Jvm.State) : (allAtoms ts).before a st = ts.all (fun c => c.before a st) := by
  induction ts with
  | nil => rfl
  | cons c t ih =>
    show (Jvm.Cond.and c (allAtoms t)).before a st = _
    rw [Jvm.Cond.before_and, ih, List.all_cons]
def words1 : List Jvm.Cond := Jvm.Cond.code x code maxLocals ret :: tables_1
/-- a 'code' word, met by the world's own term for the bytes: nothing is compared byte by byte -/
theorem code_word {y : MethodName} {bytes : ByteArray} {mx : Nat} {rt : Option FieldType} {a : Array Value} {s : State} {m : MethodId} {meth : Method} {c : Code} (h1 : s.methodNamed? y = some m) (h2 : s.vm.method? m = some meth) (h3 : meth.code = some c) (h4 : c.code = bytes)
    (h5 : (c.maxLocals == mx && c.exceptionTable.isEmpty && decide (c.maxStack ≤ mostOperands) && decide (meth.sig.returnType = rt) && !meth.locks && decide (parseMethodDescriptor y.desc = some meth.sig)) = true) : (Jvm.Cond.code y bytes mx rt).before a s = true := by
  simp only [Bool.and_eq_true, beq_iff_eq, Bool.not_eq_true', decide_eq_true_eq] at h5
  obtain ⟨⟨⟨⟨⟨g1, g2⟩, g3⟩, g4⟩, g5⟩, g6⟩ := h5
  simp [Cond.before, Cond.holds, Cond.value, h1, h2, h3, h4, g1, g2, g3, g4, g5, g6]
def isCode : Jvm.Cond → Bool
  | .code _ _ _ _ => true
  | _ => false
theorem all_split {L : List Jvm.Cond} {P : Jvm.Cond → Bool} (h1 : L.all (fun c => isCode c || P c) = true) (h2 : ∀ c ∈ L.filter isCode, P c = true) : L.all P = true := by
  refine List.all_eq_true.mpr fun c hc => ?_
  have h := List.all_eq_true.mp h1 c hc
  rcases Bool.eq_false_or_eq_true (isCode c) with hi | hi
  · exact h2 c (List.mem_filter.mpr ⟨hc, hi⟩)
  · simpa [hi] using h
set_option maxRecDepth 65536 in
theorem w_c0 : (Jvm.Cond.code x code maxLocals ret).before args0 about1 = true := code_word (m := ⟨1, 2⟩) (meth := k1m2) (c := k1c2) (by decide +kernel) rfl rfl rfl (by decide +kernel)
set_option maxRecDepth 65536 in
theorem w_c1 : (Jvm.Cond.code ({ cls := "com/example/marshalyard/marshalyard/proxy/MovingTries", name := "<init>", desc := "(J)V" } : Jvm.MethodName) prog_82_method_1_code (3 : Nat) (Option.none : Option Jvm.ClassFile.FieldType)).before args0 about1 = true := code_word (m := ⟨2, 0⟩) (meth := k2m0) (c := k2c0) (by decide +kernel) rfl rfl rfl (by decide +kernel)
set_option maxRecDepth 65536 in
theorem w_c2 : (Jvm.Cond.code ({ cls := "java/lang/Object", name := "<init>", desc := "()V" } : Jvm.MethodName) object_method_1_code (1 : Nat) (Option.none : Option Jvm.ClassFile.FieldType)).before args0 about1 = true := code_word (m := ⟨0, 0⟩) (meth := k0m0) (c := k0c0) (by decide +kernel) rfl rfl rfl (by decide +kernel)
set_option maxRecDepth 65536 in
theorem w_c3 : (Jvm.Cond.code ({ cls := "com/example/marshalyard/marshalyard/proxy/MovingTries", name := "flight", desc := "()Lcom/example/marshalyard/marshalyard/proxy/MovingTries$Flight;" } : Jvm.MethodName) prog_82_method_4_code (1 : Nat) (Option.some (Jvm.ClassFile.FieldType.object "com/example/marshalyard/marshalyard/proxy/MovingTries$Flight"))).before args0 about1 = true := code_word (m := ⟨2, 3⟩) (meth := k2m3) (c := k2c3) (by decide +kernel) rfl rfl rfl (by decide +kernel)
set_option maxRecDepth 65536 in
theorem w_c4 : (Jvm.Cond.code ({ cls := "com/example/marshalyard/marshalyard/proxy/MovingTries$Flight", name := "<init>", desc := "(Lcom/example/marshalyard/marshalyard/proxy/MovingTries;)V" } : Jvm.MethodName) prog_83_method_1_code (2 : Nat) (Option.none : Option Jvm.ClassFile.FieldType)).before args0 about1 = true := code_word (m := ⟨3, 0⟩) (meth := k3m0) (c := k3c0) (by decide +kernel) rfl rfl rfl (by decide +kernel)
set_option maxRecDepth 65536 in
theorem w_c5 : (Jvm.Cond.code ({ cls := "com/example/marshalyard/marshalyard/proxy/MovingTries$Flight", name := "begin", desc := "()V" } : Jvm.MethodName) prog_83_method_2_code (1 : Nat) (Option.none : Option Jvm.ClassFile.FieldType)).before args0 about1 = true := code_word (m := ⟨3, 1⟩) (meth := k3m1) (c := k3c1) (by decide +kernel) rfl rfl rfl (by decide +kernel)
set_option maxRecDepth 65536 in
theorem w_c6 : (Jvm.Cond.code ({ cls := "com/example/marshalyard/marshalyard/proxy/MovingTries$Flight", name := "end", desc := "()V" } : Jvm.MethodName) prog_83_method_4_code (1 : Nat) (Option.none : Option Jvm.ClassFile.FieldType)).before args0 about1 = true := code_word (m := ⟨3, 3⟩) (meth := k3m3) (c := k3c3) (by decide +kernel) rfl rfl rfl (by decide +kernel)
set_option maxRecDepth 65536 in
theorem w_c7 : (Jvm.Cond.code ({ cls := "com/example/marshalyard/marshalyard/proxy/MovingTries", name := "advance", desc := "(J)V" } : Jvm.MethodName) prog_82_method_2_code (7 : Nat) (Option.none : Option Jvm.ClassFile.FieldType)).before args0 about1 = true := code_word (m := ⟨2, 1⟩) (meth := k2m1) (c := k2c1) (by decide +kernel) rfl rfl rfl (by decide +kernel)
set_option maxRecDepth 65536 in
theorem w_c8 : (Jvm.Cond.code ({ cls := "com/example/marshalyard/marshalyard/proxy/MovingTries", name := "count", desc := "()I" } : Jvm.MethodName) prog_82_method_3_code (1 : Nat) (Option.some Jvm.ClassFile.FieldType.int)).before args0 about1 = true := code_word (m := ⟨2, 2⟩) (meth := k2m2) (c := k2c2) (by decide +kernel) rfl rfl rfl (by decide +kernel)
set_option maxRecDepth 65536 in
theorem w_c9 : (Jvm.Cond.code ({ cls := "com/example/marshalyard/marshalyard/proxy/MovingTriesAdvancePinLaw", name := "counted", desc := "(JJ)I" } : Jvm.MethodName) method_2_code (4 : Nat) (Option.some Jvm.ClassFile.FieldType.int)).before args0 about1 = true := code_word (m := ⟨1, 1⟩) (meth := k1m1) (c := k1c1) (by decide +kernel) rfl rfl rfl (by decide +kernel)
set_option maxRecDepth 65536 in
theorem w_c10 : (Jvm.Cond.code ({ cls := "com/example/marshalyard/marshalyard/proxy/MovingTries$Flight", name := "moved", desc := "()V" } : Jvm.MethodName) prog_83_method_3_code (1 : Nat) (Option.none : Option Jvm.ClassFile.FieldType)).before args0 about1 = true := code_word (m := ⟨3, 2⟩) (meth := k3m2) (c := k3c2) (by decide +kernel) rfl rfl rfl (by decide +kernel)
def codes1 : List Jvm.Cond := [Jvm.Cond.code x code maxLocals ret, Jvm.Cond.code ({ cls := "com/example/marshalyard/marshalyard/proxy/MovingTries", name := "<init>", desc := "(J)V" } : Jvm.MethodName) prog_82_method_1_code (3 : Nat) (Option.none : Option Jvm.ClassFile.FieldType), Jvm.Cond.code ({ cls := "java/lang/Object", name := "<init>", desc := "()V" } : Jvm.MethodName) object_method_1_code (1 : Nat) (Option.none : Option Jvm.ClassFile.FieldType), Jvm.Cond.code ({ cls := "com/example/marshalyard/marshalyard/proxy/MovingTries", name := "flight", desc := "()Lcom/example/marshalyard/marshalyard/proxy/MovingTries$Flight;" } : Jvm.MethodName) prog_82_method_4_code (1 : Nat) (Option.some (Jvm.ClassFile.FieldType.object "com/example/marshalyard/marshalyard/proxy/MovingTries$Flight")), Jvm.Cond.code ({ cls := "com/example/marshalyard/marshalyard/proxy/MovingTries$Flight", name := "<init>", desc := "(Lcom/example/marshalyard/marshalyard/proxy/MovingTries;)V" } : Jvm.MethodName) prog_83_method_1_code (2 : Nat) (Option.none : Option Jvm.ClassFile.FieldType), Jvm.Cond.code ({ cls := "com/example/marshalyard/marshalyard/proxy/MovingTries$Flight", name := "begin", desc := "()V" } : Jvm.MethodName) prog_83_method_2_code (1 : Nat) (Option.none : Option Jvm.ClassFile.FieldType), Jvm.Cond.code ({ cls := "com/example/marshalyard/marshalyard/proxy/MovingTries$Flight", name := "end", desc := "()V" } : Jvm.MethodName) prog_83_method_4_code (1 : Nat) (Option.none : Option Jvm.ClassFile.FieldType), Jvm.Cond.code ({ cls := "com/example/marshalyard/marshalyard/proxy/MovingTries", name := "advance", desc := "(J)V" } : Jvm.MethodName) prog_82_method_2_code (7 : Nat) (Option.none : Option Jvm.ClassFile.FieldType), Jvm.Cond.code ({ cls := "com/example/marshalyard/marshalyard/proxy/MovingTries", name := "count", desc := "()I" } : Jvm.MethodName) prog_82_method_3_code (1 : Nat) (Option.some Jvm.ClassFile.FieldType.int), Jvm.Cond.code ({ cls := "com/example/marshalyard/marshalyard/proxy/MovingTriesAdvancePinLaw", name := "counted", desc := "(JJ)I" } : Jvm.MethodName) method_2_code (4 : Nat) (Option.some Jvm.ClassFile.FieldType.int), Jvm.Cond.code ({ cls := "com/example/marshalyard/marshalyard/proxy/MovingTries$Flight", name := "moved", desc := "()V" } : Jvm.MethodName) prog_83_method_3_code (1 : Nat) (Option.none : Option Jvm.ClassFile.FieldType)]
set_option maxRecDepth 65536 in
theorem codes_eq : words1.filter isCode = codes1 := rfl
theorem w_codes : ∀ c ∈ words1.filter isCode, c.before args0 about1 = true := by
  rw [codes_eq]
  intro c hc
  simp only [codes1, List.mem_cons, List.not_mem_nil, or_false] at hc
  rcases hc with rfl | rfl | rfl | rfl | rfl | rfl | rfl | rfl | rfl | rfl | rfl
  · exact w_c0
  · exact w_c1
  · exact w_c2
  · exact w_c3
  · exact w_c4
  · exact w_c5
  · exact w_c6
  · exact w_c7
  · exact w_c8
  · exact w_c9
  · exact w_c10
set_option maxRecDepth 65536 in
theorem w_t1 : (words1.take 24).all (fun c => isCode c || c.before args0 about1) = true := by decide +kernel
set_option maxRecDepth 65536 in
theorem w_t2 : ((words1.drop 24).take 24).all (fun c => isCode c || c.before args0 about1) = true := by decide +kernel
set_option maxRecDepth 65536 in
theorem w_t3 : (((words1.drop 24).drop 24).take 24).all (fun c => isCode c || c.before args0 about1) = true := by decide +kernel
set_option maxRecDepth 65536 in
theorem w_t4 : (((words1.drop 24).drop 24).drop 24).all (fun c => isCode c || c.before args0 about1) = true := by decide +kernel
theorem w_tables : (allAtoms (Jvm.Cond.code x code maxLocals ret :: tables_1)).before args0 about1 = true := by
  rw [allAtoms_all]
  show words1.all (fun c => c.before args0 about1) = true
  refine all_split ?_ w_codes
  rw [← List.take_append_drop 24 words1, List.all_append, w_t1, ← List.take_append_drop 24 (words1.drop 24), List.all_append, w_t2, ← List.take_append_drop 24 ((words1.drop 24).drop 24), List.all_append, w_t3, w_t4]
  rfl
set_option maxRecDepth 65536 in
theorem w_case : (Jvm.Cond.and given_1 narrow_1).before args0 about1 = true := by decide +kernel
theorem w_applies : (headSpec (Jvm.Cond.code x code maxLocals ret :: tables_1) room_1).applies x e0.platform about1 = true :=
  (Spec.applies_iff w_frames).mpr ⟨w_running, w_runnable, w_alone, w_named, w_hears, w_ripe, w_room, w_tables⟩
theorem atStart : AtStart classFile x code maxLocals ret World_1 tables_1 room_1 Calls_1 rest_1 Pre_1 launch0 p0 e0 about1 theMethod args0 below0 :=
  ⟨lists_1, trivial, launch0.admits_env _ _ _, launch0.least_env, fairChoices_fair.cas, fairChoices_fair.clock, w_frames, w_args, w_heap, w_applies, trivial, trivial, w_case⟩
end start1
theorem witness_1 : WitnessClaimed_1 := ⟨start1.p0, start1.e0, start1.about1, start1.theMethod, start1.args0, start1.below0, start1.atStart⟩
end Jvm.Pilot.@@N@@
