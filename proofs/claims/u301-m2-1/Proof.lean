import JvmDerived
import JvmDerived.Pilot.@@N@@Statement
import JvmDerived.Pilot.@@N@@Code
set_option linter.unusedVariables false
set_option linter.unusedSimpArgs false
namespace Jvm.Pilot.@@N@@
open Jvm Jvm.ClassFile Sem Op Lib Jvm.Free Jvm.Stand Jvm.LawKit Jvm.RoadKit Bundle Jvm.Pilot.@@N@@.Jvm.D
section OwnRoad
variable {p : Program} {l : Launch} {e : Env} {R : Room} {s : State} {m : MethodId} {args : Array Value} {below : List Frame} {meth : Method} {c : Code} {T : State} {locs : List Loc} {cells slots : Nat}
/-- from A the run comes to an end of which G speaks -/
def OEnds (tb : Tables) (e : Env) (below : List Frame) (G : Outcome → State → Prop) (A : State) : Prop := ∃ s₂ o, Steps tb e below A s₂ ∧ s₂.status = .running ∧ Ended s₂ below o ∧ G o s₂
theorem OEnds.st {tb : Tables} {e : Env} {below : List Frame} {G : Outcome → State → Prop} {A B : State} (h : ∀ t, Steps tb e below B t → Steps tb e below A t) (k : OEnds tb e below G B) : OEnds tb e below G A := by
  obtain ⟨s, o, h1, h2⟩ := k
  exact ⟨s, o, h _ h1, h2⟩
def OGoal (Q : Option Value → Heap → List Loc → Prop) (s : State) (C S : Nat) (o : Outcome) (t : State) : Prop := ∃ v L, o = .returned v ∧ Q v t.heap L ∧ FrameEnd s o t L C S
theorem OEnds.out (X : Stand p l e R s m args below meth c T locs cells slots) (hlk : meth.locks = false) {v : Option Value} (hv : meth.sig.returnType = none → v = none) {Q : Option Value → Heap → List Loc → Prop} {C S : Nat} {A : State}
    (st : ∀ fs, (∀ (f : JFrame) (acts : List Action), f.method = m → f.locked = none → f.entered = [] → (doReturn e (T.setTop f) acts v).1 = T.setFrames fs) → Steps p.tables e below A (T.setFrames fs)) (hc : cells ≤ C) (hs : slots ≤ S) (hQ : Q v T.heap locs) : OEnds p.tables e below (OGoal Q s C S) A := by
  obtain ⟨fs, hr, hrun, hended, hW, hsame⟩ := X.leave (v := v) hv hlk
  exact ⟨_, _, st fs hr, hrun, hended, _, _, rfl, hQ, ⟨_, rfl⟩, hW, hsame.mono hc hs⟩
theorem OEnds.retI (X : Stand p l e R s m args below meth c T locs cells slots) (hx : p.tables.exec = Jvm.exec) (hlk : meth.locks = false) (hret : meth.sig.returnType = some .int) {pc : Nat} {Ls : Array Slot} {z : Int32} {rest : List Value} (hd : decode c.code pc = .ok (.ireturn, 1)) {Q : Option Value → Heap → List Loc → Prop} {C S : Nat} (hc : cells ≤ C) (hs : slots ≤ S) (hQ : Q (some (.int z)) T.heap locs) :
    OEnds p.tables e below (OGoal Q s C S) (T.setTop (mkF m pc Ls (.int z :: rest))) :=
  OEnds.out X hlk (fun h => by rw [hret] at h; cases h) (fun fs hr => retOut X hx hret rfl (Or.inl ⟨rfl, Or.inl rfl, _, rfl⟩) hd hr) hc hs hQ
theorem OEnds.retZ (X : Stand p l e R s m args below meth c T locs cells slots) (hx : p.tables.exec = Jvm.exec) (hlk : meth.locks = false) (hret : meth.sig.returnType = some .boolean) {pc : Nat} {Ls : Array Slot} {z : Int32} {rest : List Value} (hz : nar .boolean z = z) (hd : decode c.code pc = .ok (.ireturn, 1)) {Q : Option Value → Heap → List Loc → Prop} {C S : Nat} (hc : cells ≤ C) (hs : slots ≤ S) (hQ : Q (some (.int z)) T.heap locs) :
    OEnds p.tables e below (OGoal Q s C S) (T.setTop (mkF m pc Ls (.int z :: rest))) :=
  OEnds.out X hlk (fun h => by rw [hret] at h; cases h) (fun fs hr => retN X hx (t := .boolean) hret (Or.inl rfl) hd (by rw [hz]; exact hr)) hc hs hQ
theorem OEnds.retB (X : Stand p l e R s m args below meth c T locs cells slots) (hx : p.tables.exec = Jvm.exec) (hlk : meth.locks = false) (hret : meth.sig.returnType = some .byte) {pc : Nat} {Ls : Array Slot} {z : Int32} {rest : List Value} (hz : nar .byte z = z) (hd : decode c.code pc = .ok (.ireturn, 1)) {Q : Option Value → Heap → List Loc → Prop} {C S : Nat} (hc : cells ≤ C) (hs : slots ≤ S) (hQ : Q (some (.int z)) T.heap locs) :
    OEnds p.tables e below (OGoal Q s C S) (T.setTop (mkF m pc Ls (.int z :: rest))) :=
  OEnds.out X hlk (fun h => by rw [hret] at h; cases h) (fun fs hr => retN X hx (t := .byte) hret (Or.inr (Or.inl rfl)) hd (by rw [hz]; exact hr)) hc hs hQ
theorem OEnds.retJ (X : Stand p l e R s m args below meth c T locs cells slots) (hx : p.tables.exec = Jvm.exec) (hlk : meth.locks = false) (hret : meth.sig.returnType = some .long) {pc : Nat} {Ls : Array Slot} {z : Int64} {rest : List Value} (hd : decode c.code pc = .ok (.lreturn, 1)) {Q : Option Value → Heap → List Loc → Prop} {C S : Nat} (hc : cells ≤ C) (hs : slots ≤ S) (hQ : Q (some (.long z)) T.heap locs) :
    OEnds p.tables e below (OGoal Q s C S) (T.setTop (mkF m pc Ls (.long z :: rest))) :=
  OEnds.out X hlk (fun h => by rw [hret] at h; cases h) (fun fs hr => retOut X hx hret rfl (Or.inr (Or.inl ⟨rfl, rfl, _, rfl⟩)) hd hr) hc hs hQ
theorem OEnds.retA (X : Stand p l e R s m args below meth c T locs cells slots) (hx : p.tables.exec = Jvm.exec) (hlk : meth.locks = false) {t : FieldType} (hret : meth.sig.returnType = some t) {pc : Nat} {Ls : Array Slot} {w : Value} {rest : List Value} (hw : w.isRef = true) (ht : t.isReference = true) (hd : decode c.code pc = .ok (.areturn, 1)) {Q : Option Value → Heap → List Loc → Prop} {C S : Nat} (hc : cells ≤ C) (hs : slots ≤ S) (hQ : Q (some w) T.heap locs) :
    OEnds p.tables e below (OGoal Q s C S) (T.setTop (mkF m pc Ls (w :: rest))) :=
  OEnds.out X hlk (fun h => by rw [hret] at h; cases h) (fun fs hr => retOut X hx hret (by cases t <;> cases w <;> first | rfl | (cases ht; done) | (cases hw; done)) (Or.inr (Or.inr (Or.inr (Or.inr ⟨rfl, ht, hw⟩)))) hd hr) hc hs hQ
theorem OEnds.retV (X : Stand p l e R s m args below meth c T locs cells slots) (hx : p.tables.exec = Jvm.exec) (hlk : meth.locks = false) (hret : meth.sig.returnType = none) {pc : Nat} {Ls : Array Slot} (hd : decode c.code pc = .ok (.return_, 1)) {Q : Option Value → Heap → List Loc → Prop} {C S : Nat} (hc : cells ≤ C) (hs : slots ≤ S) (hQ : Q none T.heap locs) :
    OEnds p.tables e below (OGoal Q s C S) (T.setTop (mkF m pc Ls [])) :=
  OEnds.out X hlk (fun _ => rfl) (fun fs hr => X.returnOut hx hret hd hr) hc hs hQ
def OGoalW (Q : Option Value → Heap → List Loc → Prop) (s : State) (C S : Nat) (o : Outcome) (t : State) : Prop := ∃ v L, o = .returned v ∧ Q v t.heap L ∧ Jvm.ReturnedEndW s o t L C S
theorem own_growW {s t : State} {o : Outcome} {L : List Loc} {k n k' n' : Nat} (h : Jvm.ReturnedEndW s o t L k n) (hk : k ≤ k') (hn : n ≤ n') : Jvm.ReturnedEndW s o t L k' n' := ⟨h.1, h.2.1, h.2.2.1, h.2.2.2.mono hk hn⟩
theorem OEnds.retZW {vm0 : Vm} (X : Stand p l e R (s.setVm vm0) m args below meth c T locs cells slots) {n : Nat} (hS : s.Since vm0 n) (hn : n ≤ T.heap.size) (hx : p.tables.exec = Jvm.exec) (hlk : meth.locks = false) (hret : meth.sig.returnType = some .boolean) {pc : Nat} {Ls : Array Slot} {z : Int32} {rest : List Value} (hz : nar .boolean z = z) (hd : decode c.code pc = .ok (.ireturn, 1)) {Q : Option Value → Heap → List Loc → Prop} {C S : Nat} (hc : cells ≤ C) (hs : slots ≤ S) (hQ : Q (some (.int z)) T.heap locs) :
    OEnds p.tables e below (OGoalW Q s C S) (T.setTop (mkF m pc Ls (.int z :: rest))) := by
  obtain ⟨fs, hr, hrun, hended, hW⟩ := X.leaveW hS hn (v := some (.int z)) (fun h => by rw [hret] at h; cases h) hlk
  exact ⟨_, _, retN X hx (t := .boolean) hret (Or.inl rfl) hd (by rw [hz]; exact hr), hrun, hended, _, _, rfl, hQ, own_growW hW hc hs⟩
theorem own_b8 (x : Int32) : nar .byte (x.toInt8.toInt32) = x.toInt8.toInt32 := by
  show (x.toInt8.toInt32).toInt8.toInt32 = _
  rw [Int8.toInt8_toInt32]
theorem own_selP {s : State} {args : Array Value} {n : Nat} {y : MethodName} (hins : (Jvm.Cond.instantiable y.cls n).before args s = true) (hpriv : (Jvm.Cond.privateMethod y).before args s = true) (hinst : (Jvm.Cond.instanceMethod y).before args s = true) (hy : y.cls ≠ "java/lang/invoke/MethodHandle" ∧ y.cls ≠ "java/lang/invoke/VarHandle") :
    (Jvm.Cond.selects y.cls y y).before args s = true := by
  obtain ⟨c, k, hc, hk, -, hniab, -, -⟩ := Cond.instantiable_spec hins
  have hni : k.isInterface = false := (Bool.or_eq_false_iff.mp hniab).1
  obtain ⟨mk, methM, hnamed, hmethM, -, -⟩ := Cond.instanceMethod_spec hinst
  have hfound : s.methodFound? y.cls y.name y.desc = some mk := State.methodFound?_of_named hnamed hy
  have hcls : mk.cls = c := Option.some.inj ((findClass_of_methodNamed hnamed).symm.trans hc)
  have hsel : selectMethod {} s.vm c mk = .method mk := selectMethod_private hmethM (Cond.privateMethod_at hpriv mk methM hnamed hmethM)
  simp only [Cond.before, Cond.holds, Cond.value, hc, hfound, hnamed, hsel, hcls, hk]
  simp; exact hni
theorem own_exa_ns {Z : State} {h : Heap} {a : Addr} {C : String} (E : Exa Z h a C) : ∀ cell : Cell, h[a]? = some cell → cell.vm.isStatics = false := fun cell q => by
  obtain ⟨c, k, h1, -, -, h4, -⟩ := E
  cases h1.symm.trans q
  exact h4
theorem own_Sta_keep {Z : State} {h h' : Heap} {C n d : String} {v : Value} {ws : List Addr} (F : Sta Z h C n d v) (K : Keep h h' ws) (q : ∀ x ∈ ws, ∀ cell : Cell, h[x]? = some cell → cell.vm.isStatics = false) : Sta Z h' C n d v := by
  obtain ⟨cf, i, k, f, st, cell, h1, h2, h3, h4, h5, h6, h7⟩ := F
  refine ⟨cf, i, k, f, st, cell, h1, h2, h3, h4, K.2.1 _ _ h5 (fun hm => ?_), h6, h7⟩
  rw [q _ hm _ h5] at h6
  cases h6
theorem own_grow (X : Stand p l e R s m args below meth c T locs cells slots) {C S : Nat} (hc : cells ≤ C) (hs : slots ≤ S) : Stand p l e R s m args below meth c T locs C S :=
  ⟨X.admits, X.cas, X.clock, X.frames, X.room, X.hears, X.method, X.code, X.here, X.tail, X.warmed, X.limits, X.bytes, X.same.mono hc hs⟩
end OwnRoad
def own_packed (w : Int32) : Int32 := if w = (2 : Int32) then 0 else 1
theorem own_ten (k : Int32) : ((k &&& (2147483647 : Int32)) % (10 : Int32)) = (0 : Int32) ∨ ((k &&& (2147483647 : Int32)) % (10 : Int32)) = (1 : Int32) ∨ ((k &&& (2147483647 : Int32)) % (10 : Int32)) = (2 : Int32) ∨ ((k &&& (2147483647 : Int32)) % (10 : Int32)) = (3 : Int32) ∨ ((k &&& (2147483647 : Int32)) % (10 : Int32)) = (4 : Int32) ∨ ((k &&& (2147483647 : Int32)) % (10 : Int32)) = (5 : Int32) ∨ ((k &&& (2147483647 : Int32)) % (10 : Int32)) = (6 : Int32) ∨ ((k &&& (2147483647 : Int32)) % (10 : Int32)) = (7 : Int32) ∨ ((k &&& (2147483647 : Int32)) % (10 : Int32)) = (8 : Int32) ∨ ((k &&& (2147483647 : Int32)) % (10 : Int32)) = (9 : Int32) := by
  have e1 := c_mask k (2147483647 : Int32) 31 (by decide) (by decide)
  have e2 := (c_irem (k &&& (2147483647 : Int32)) (10 : Int32) 10 (by decide)).1 (by omega)
  generalize ((k &&& (2147483647 : Int32)) % (10 : Int32)) = v at *
  have z : ∀ n : Int32, v.toInt = n.toInt → v = n := fun n h => Int32.toInt_inj.mp h
  have b : v.toInt = 0 ∨ v.toInt = 1 ∨ v.toInt = 2 ∨ v.toInt = 3 ∨ v.toInt = 4 ∨ v.toInt = 5 ∨ v.toInt = 6 ∨ v.toInt = 7 ∨ v.toInt = 8 ∨ v.toInt = 9 := by omega
  rcases b with b | b | b | b | b | b | b | b | b | b
  · exact Or.inl (z 0 b)
  · exact Or.inr (Or.inl (z 1 b))
  · exact Or.inr (Or.inr (Or.inl (z 2 b)))
  · exact Or.inr (Or.inr (Or.inr (Or.inl (z 3 b))))
  · exact Or.inr (Or.inr (Or.inr (Or.inr (Or.inl (z 4 b)))))
  · exact Or.inr (Or.inr (Or.inr (Or.inr (Or.inr (Or.inl (z 5 b))))))
  · exact Or.inr (Or.inr (Or.inr (Or.inr (Or.inr (Or.inr (Or.inl (z 6 b)))))))
  · exact Or.inr (Or.inr (Or.inr (Or.inr (Or.inr (Or.inr (Or.inr (Or.inl (z 7 b))))))))
  · exact Or.inr (Or.inr (Or.inr (Or.inr (Or.inr (Or.inr (Or.inr (Or.inr (Or.inl (z 8 b)))))))))
  · exact Or.inr (Or.inr (Or.inr (Or.inr (Or.inr (Or.inr (Or.inr (Or.inr (Or.inr ((z 9 b))))))))))
theorem own_fld {Z : State} {args : Array Value} {t : Term} {a : Addr} {C n d : String} {k : Int32} (ev : t.eval args Z none [] Z = some (.ref a)) (h : (Jvm.Cond.eq (.field t C n d) (.int k)).value args Z none Z [] = some true) : Fld Z Z.heap a C n d (.int k) := by
  obtain ⟨x, y, h1, h2, h3, h4⟩ := cmp_v (Or.inl h)
  rw [fld_at ev] at h1
  refine Fld.start ?_
  rw [h1]
  cases h2
  cases x <;> simp [Kin] at h3 h4
  rename_i z
  have q : (Jvm.Cond.eq (.field t C n d) (.int k)).value args Z none Z [] = some (decide (z = k)) := by
    simp [Jvm.Cond.value, Term.eval, ev, h1]
  rw [gotT q h]
theorem d1_0 : decode prog_50_method_7_code 0 = .ok (.aload_n 0, 1) := by decide +kernel
theorem d1_1 : decode prog_50_method_7_code 1 = .ok (.getfield 57, 3) := by decide +kernel
theorem d1_4 : decode prog_50_method_7_code 4 = .ok (.iconst 2, 1) := by decide +kernel
theorem d1_5 : decode prog_50_method_7_code 5 = .ok (.if_icmp .eq 7, 3) := by decide +kernel
theorem d1_8 : decode prog_50_method_7_code 8 = .ok (.iconst 1, 1) := by decide +kernel
theorem d1_9 : decode prog_50_method_7_code 9 = .ok (.goto 4, 3) := by decide +kernel
theorem d1_12 : decode prog_50_method_7_code 12 = .ok (.iconst 0, 1) := by decide +kernel
theorem d1_13 : decode prog_50_method_7_code 13 = .ok (.ireturn, 1) := by decide +kernel
theorem pn_0 : plainName "com/example/nearfar/nearfar/StoredType" = true := by first | (simp [plainName, overriddenIn]; done) | decide +kernel
theorem ef_1 (m : MethodId) (a1 : Addr) : entryFrame m #[(.ref a1)] 1 = mkF m 0 #[.val (.ref a1)] [] := by first | (simp [entryFrame, mkF, argsToLocals, Value.category]; done) | rfl
def Q1 (Z : State) (a1 : Addr) (w : Int32) (h0 : Heap) (n0 : Nat) (v : Option Value) (h : Heap) (L : List Loc) : Prop := v = some (.int (own_packed w)) ∧ Fr n0 L ∧ h = h0
set_option maxRecDepth 65536 in
set_option maxHeartbeats 40000000 in
theorem rm1 (l : Launch) (Z : State) (a0 : Array Value) (hw : ∀ d ∈ tables_1, d.before a0 Z = true) (ws : List Jvm.Cond) (a1 : Addr) (w : Int32) (h0 : Heap) (n0 : Nat) (Z0 : n0 ≤ h0.size) (F1 : Fld Z h0 a1 "com/example/nearfar/nearfar/StoredType" "wireType" "I" (.int w)) :
    MetFree l (⟨"com/example/nearfar/nearfar/StoredType", "packed", "()Z"⟩ : MethodName) (head1 (Jvm.Cond.code (⟨"com/example/nearfar/nearfar/StoredType", "packed", "()Z"⟩ : MethodName) prog_50_method_7_code 1 (some .boolean) :: ws) ({ frames := 0, cells := 0, slots := 0, locals := 0 } : Room)) (fun a U => a = #[(.ref a1)] ∧ Z.Warmed39 U.vm ∧ U.heap = h0) (fun _ _ _ _ _ => True) (fun _ U o U' => ∃ v L, o = .returned v ∧ Q1 Z a1 w h0 n0 v U'.heap L ∧ FrameEnd U o U' L ({ frames := 0, cells := 0, slots := 0, locals := 0 } : Room).cells ({ frames := 0, cells := 0, slots := 0, locals := 0 } : Room).slots) := by
  refine MetFree.of_bodySF (plainFor_of_name pn_0) hisR ?_
  intro p e s m args below meth c s₁ Bd hml0 hP hK
  obtain ⟨rfl, hZ, hh⟩ := hP
  have hx := Bd.exec
  have hby := Bd.bytes
  have hml : c.maxLocals = 1 := hml0
  have hown : s.vm.findClass "com/example/nearfar/nearfar/StoredType" = some m.cls := findClass_of_methodNamed Bd.named
  have hnm := (name_of_methodNamed Bd.named Bd.method).1
  have hlk : meth.locks = false := BodyLoose.notSynchronized Bd
  have X0 : Stand p l e ({ frames := 0, cells := 0, slots := 0, locals := 0 } : Room) s m #[(.ref a1)] below meth c s₁ [] 0 0 := Stand.of_body Bd
  have e0 : s₁.heap = h0 := by rw [← hh, Bd.state]; rfl
  have N0 := Fr.nil n0
  show OEnds p.tables e below (OGoal (Q1 Z a1 w h0 n0) s 0 0) (s₁.setTop (entryFrame m #[(.ref a1)] 1))
  refine OEnds.st (fun t k => castTop (ef_1 m a1) k) ?_
  generalize hG : OGoal (Q1 Z a1 w h0 n0) s 0 0 = G
  have KK0 : Keep h0 h0 [] := Keep.refl h0 []
  show OEnds p.tables e below G (s₁.setTop (mkF m 0 #[.val (.ref a1)] []))
  refine OEnds.st (fun _ k => XS.aloadN X0.here hx rfl (hb hby d1_0) rfl rfl k) ?_
  show OEnds p.tables e below G (s₁.setTop (mkF m 1 #[.val (.ref a1)] [(.ref a1)]))
  obtain ⟨T1001, X1001, e1001, st1001⟩ := getF X0 hx hZ hown (host := "") (Or.inl (hw _ (List.mem_of_getElem? (i := 39) rfl))) Via.refl e0 F1 (g := (mkF m 1 #[.val (.ref a1)] [(.ref a1)])) rfl rfl (hb hby d1_1)
  refine OEnds.st st1001 ?_
  show OEnds p.tables e below G (T1001.setTop (mkF m 4 #[.val (.ref a1)] [(.int w)]))
  refine OEnds.st (fun _ k => XS.iconst X1001.here hx rfl (hb hby d1_4) k) ?_
  show OEnds p.tables e below G (T1001.setTop (mkF m 5 #[.val (.ref a1)] [(.int (2 : Int32)), (.int w)]))
  by_cases hc5_1002 : w = (2 : Int32)
  · -- pc 5: yes
    refine OEnds.st (fun _ k => XS.icmpYes X1001.here hx rfl (pc0 := 5) (pc' := 12) rfl (hb hby d1_5) rfl (teq hc5_1002).1 (by decide) (by decide) k) ?_
    show OEnds p.tables e below G (T1001.setTop (mkF m 12 #[.val (.ref a1)] []))
    refine OEnds.st (fun _ k => XS.iconst X1001.here hx rfl (hb hby d1_12) k) ?_
    show OEnds p.tables e below G (T1001.setTop (mkF m 13 #[.val (.ref a1)] [(.int (0 : Int32))]))
    rw [← hG]
    refine OEnds.retZ X1001 hx hlk Bd.returns rfl (hb hby d1_13) (by decide) (by decide) ?_
    rw [e1001]
    exact ⟨by unfold own_packed; simp [hc5_1002], N0, rfl⟩
  · -- pc 5: no
    refine OEnds.st (fun _ k => XS.icmpNo X1001.here hx rfl (hb hby d1_5) rfl (feq hc5_1002).1 k) ?_
    show OEnds p.tables e below G (T1001.setTop (mkF m 8 #[.val (.ref a1)] []))
    refine OEnds.st (fun _ k => XS.iconst X1001.here hx rfl (hb hby d1_8) k) ?_
    show OEnds p.tables e below G (T1001.setTop (mkF m 9 #[.val (.ref a1)] [(.int (1 : Int32))]))
    refine OEnds.st (fun _ k => XS.goto X1001.here hx rfl (pc0 := 9) (pc' := 13) rfl (hb hby d1_9) (by decide) (by decide) k) ?_
    show OEnds p.tables e below G (T1001.setTop (mkF m 13 #[.val (.ref a1)] [(.int (1 : Int32))]))
    rw [← hG]
    refine OEnds.retZ X1001 hx hlk Bd.returns rfl (hb hby d1_13) (by decide) (by decide) ?_
    rw [e1001]
    exact ⟨by unfold own_packed; simp [hc5_1002], N0, rfl⟩
theorem pn_1 : plainName "com/example/nearfar/nearfar/StoredTypePackedPinLaw" = true := by first | (simp [plainName, overriddenIn]; done) | decide +kernel
theorem ef_0 (m : MethodId) (p1 : Int32) : entryFrame m #[(.int p1)] maxLocals = mkF m 0 #[.val (.int p1), .unset, .unset, .unset] [] := by first | (simp [entryFrame, mkF, argsToLocals, Value.category, maxLocals]; done) | rfl
def Q0 (Z : State) (p1 : Int32) (o0 : Addr) (o1 : Addr) (o2 : Addr) (o3 : Addr) (o4 : Addr) (o5 : Addr) (o6 : Addr) (o7 : Addr) (o8 : Addr) (o9 : Addr) (h0 : Heap) (n0 : Nat) (v : Option Value) (h : Heap) (L : List Loc) : Prop := v = some (.int (1 : Int32)) ∧ Fr n0 L
theorem pd_0 : parseMethodDescriptor "()Z" = some ⟨[], some .boolean⟩ := by decide +kernel
set_option maxRecDepth 65536 in
set_option maxHeartbeats 40000000 in
theorem rm0 (l : Launch) (Z : State) (a0 : Array Value) (hw : ∀ d ∈ tables_1, d.before a0 Z = true) (ws : List Jvm.Cond) (p1 : Int32) (o0 : Addr) (o1 : Addr) (o2 : Addr) (o3 : Addr) (o4 : Addr) (o5 : Addr) (o6 : Addr) (o7 : Addr) (o8 : Addr) (o9 : Addr) (h0 : Heap) (n0 : Nat) (Z0 : n0 ≤ h0.size) (St0 : Sta Z h0 "com/example/nearfar/nearfar/StoredType" "STRING" "Lcom/example/nearfar/nearfar/StoredType;" (.ref o0)) (Ex0 : Exa Z h0 o0 "com/example/nearfar/nearfar/StoredType$1") (Fl0 : Fld Z h0 o0 "com/example/nearfar/nearfar/StoredType" "wireType" "I" (.int (2 : Int32))) (St1 : Sta Z h0 "com/example/nearfar/nearfar/StoredType" "BYTES" "Lcom/example/nearfar/nearfar/StoredType;" (.ref o1)) (Ex1 : Exa Z h0 o1 "com/example/nearfar/nearfar/StoredType$2") (Fl1 : Fld Z h0 o1 "com/example/nearfar/nearfar/StoredType" "wireType" "I" (.int (2 : Int32))) (St2 : Sta Z h0 "com/example/nearfar/nearfar/StoredType" "SINT32" "Lcom/example/nearfar/nearfar/StoredType;" (.ref o2)) (Ex2 : Exa Z h0 o2 "com/example/nearfar/nearfar/StoredType$3") (Fl2 : Fld Z h0 o2 "com/example/nearfar/nearfar/StoredType" "wireType" "I" (.int (0 : Int32))) (St3 : Sta Z h0 "com/example/nearfar/nearfar/StoredType" "SINT64" "Lcom/example/nearfar/nearfar/StoredType;" (.ref o3)) (Ex3 : Exa Z h0 o3 "com/example/nearfar/nearfar/StoredType$4") (Fl3 : Fld Z h0 o3 "com/example/nearfar/nearfar/StoredType" "wireType" "I" (.int (0 : Int32))) (St4 : Sta Z h0 "com/example/nearfar/nearfar/StoredType" "DOUBLE" "Lcom/example/nearfar/nearfar/StoredType;" (.ref o4)) (Ex4 : Exa Z h0 o4 "com/example/nearfar/nearfar/StoredType$5") (Fl4 : Fld Z h0 o4 "com/example/nearfar/nearfar/StoredType" "wireType" "I" (.int (1 : Int32))) (St5 : Sta Z h0 "com/example/nearfar/nearfar/StoredType" "FLOAT" "Lcom/example/nearfar/nearfar/StoredType;" (.ref o5)) (Ex5 : Exa Z h0 o5 "com/example/nearfar/nearfar/StoredType$6") (Fl5 : Fld Z h0 o5 "com/example/nearfar/nearfar/StoredType" "wireType" "I" (.int (5 : Int32))) (St6 : Sta Z h0 "com/example/nearfar/nearfar/StoredType" "BOOL" "Lcom/example/nearfar/nearfar/StoredType;" (.ref o6)) (Ex6 : Exa Z h0 o6 "com/example/nearfar/nearfar/StoredType$7") (Fl6 : Fld Z h0 o6 "com/example/nearfar/nearfar/StoredType" "wireType" "I" (.int (0 : Int32))) (St7 : Sta Z h0 "com/example/nearfar/nearfar/StoredType" "ENUM" "Lcom/example/nearfar/nearfar/StoredType;" (.ref o7)) (Ex7 : Exa Z h0 o7 "com/example/nearfar/nearfar/StoredType$8") (Fl7 : Fld Z h0 o7 "com/example/nearfar/nearfar/StoredType" "wireType" "I" (.int (0 : Int32))) (St8 : Sta Z h0 "com/example/nearfar/nearfar/StoredType" "TIMESTAMP" "Lcom/example/nearfar/nearfar/StoredType;" (.ref o8)) (Ex8 : Exa Z h0 o8 "com/example/nearfar/nearfar/StoredType$9") (Fl8 : Fld Z h0 o8 "com/example/nearfar/nearfar/StoredType" "wireType" "I" (.int (2 : Int32))) (St9 : Sta Z h0 "com/example/nearfar/nearfar/StoredType" "DURATION" "Lcom/example/nearfar/nearfar/StoredType;" (.ref o9)) (Ex9 : Exa Z h0 o9 "com/example/nearfar/nearfar/StoredType$10") (Fl9 : Fld Z h0 o9 "com/example/nearfar/nearfar/StoredType" "wireType" "I" (.int (2 : Int32))) :
    MetFree l x (head1 (Jvm.Cond.code x code maxLocals ret :: ws) room_1) (fun a U => a = #[(.int p1)] ∧ Z.Warmed39 U.vm ∧ U.heap = h0) (fun _ _ _ _ _ => True) (fun _ U o U' => ∃ v L, o = .returned v ∧ Q0 Z p1 o0 o1 o2 o3 o4 o5 o6 o7 o8 o9 h0 n0 v U'.heap L ∧ FrameEnd U o U' L room_1.cells room_1.slots) := by
  refine MetFree.of_bodySF (plainFor_of_name pn_1) hisR ?_
  intro p e s m args below meth c s₁ Bd hml0 hP hK
  obtain ⟨rfl, hZ, hh⟩ := hP
  have hx := Bd.exec
  have hby := Bd.bytes
  have hml : c.maxLocals = 4 := hml0
  have hown : s.vm.findClass "com/example/nearfar/nearfar/StoredTypePackedPinLaw" = some m.cls := findClass_of_methodNamed Bd.named
  have hnm := (name_of_methodNamed Bd.named Bd.method).1
  have hlk : meth.locks = false := BodyLoose.notSynchronized Bd
  have X0 : Stand p l e room_1 s m #[(.int p1)] below meth c s₁ [] 0 0 := Stand.of_body Bd
  have e0 : s₁.heap = h0 := by rw [← hh, Bd.state]; rfl
  have N0 := Fr.nil n0
  show OEnds p.tables e below (OGoal (Q0 Z p1 o0 o1 o2 o3 o4 o5 o6 o7 o8 o9 h0 n0) s 16 128) (s₁.setTop (entryFrame m #[(.int p1)] maxLocals))
  refine OEnds.st (fun t k => castTop (ef_0 m p1) k) ?_
  generalize hG : OGoal (Q0 Z p1 o0 o1 o2 o3 o4 o5 o6 o7 o8 o9 h0 n0) s 16 128 = G
  have KK0 : Keep h0 h0 [] := Keep.refl h0 []
  show OEnds p.tables e below G (s₁.setTop (mkF m 0 #[.val (.int p1), .unset, .unset, .unset] []))
  refine OEnds.st (fun _ k => XS.bipush X0.here hx rfl (hb hby at_0) k) ?_
  show OEnds p.tables e below G (s₁.setTop (mkF m 2 #[.val (.int p1), .unset, .unset, .unset] [(.int (10 : Int32))]))
  obtain ⟨T1001, h1001, k1001, X1001, e1001, E1001, A1001, O1001, st1001⟩ := newR X0 hx hZ hown (hw _ (List.mem_of_getElem? (i := 0) rfl)) (hw _ (List.mem_of_getElem? (i := 1) rfl)) e0 (g := (mkF m 2 #[.val (.int p1), .unset, .unset, .unset] [(.int (10 : Int32))])) rfl (hb hby at_2) rfl (by decide) (cap := 10) (by decide) (by decide) (by decide) (by decide)
  obtain ⟨b1001, g1001⟩ : ∃ z, z = h0.size := ⟨_, rfl⟩
  rw [← g1001] at A1001 st1001
  refine OEnds.st st1001 ?_
  have ne1002 : o0 ≠ b1001 := Nat.ne_of_lt (Nat.lt_of_lt_of_le (Ex0).lt (Nat.le_of_eq g1001.symm))
  have ne1003 : o1 ≠ b1001 := Nat.ne_of_lt (Nat.lt_of_lt_of_le (Ex1).lt (Nat.le_of_eq g1001.symm))
  have ne1004 : o2 ≠ b1001 := Nat.ne_of_lt (Nat.lt_of_lt_of_le (Ex2).lt (Nat.le_of_eq g1001.symm))
  have ne1005 : o3 ≠ b1001 := Nat.ne_of_lt (Nat.lt_of_lt_of_le (Ex3).lt (Nat.le_of_eq g1001.symm))
  have ne1006 : o4 ≠ b1001 := Nat.ne_of_lt (Nat.lt_of_lt_of_le (Ex4).lt (Nat.le_of_eq g1001.symm))
  have ne1007 : o5 ≠ b1001 := Nat.ne_of_lt (Nat.lt_of_lt_of_le (Ex5).lt (Nat.le_of_eq g1001.symm))
  have ne1008 : o6 ≠ b1001 := Nat.ne_of_lt (Nat.lt_of_lt_of_le (Ex6).lt (Nat.le_of_eq g1001.symm))
  have ne1009 : o7 ≠ b1001 := Nat.ne_of_lt (Nat.lt_of_lt_of_le (Ex7).lt (Nat.le_of_eq g1001.symm))
  have ne1010 : o8 ≠ b1001 := Nat.ne_of_lt (Nat.lt_of_lt_of_le (Ex8).lt (Nat.le_of_eq g1001.symm))
  have ne1011 : o9 ≠ b1001 := Nat.ne_of_lt (Nat.lt_of_lt_of_le (Ex9).lt (Nat.le_of_eq g1001.symm))
  have ge_b1001 : n0 ≤ b1001 := Nat.le_trans Z0 (Nat.le_of_eq g1001.symm)
  have sz_b1001 : h0.size ≤ b1001 := Nat.le_trans KK0.1 (Nat.le_of_eq g1001.symm)
  have f1012 : Sta Z h1001 "com/example/nearfar/nearfar/StoredType" "STRING" "Lcom/example/nearfar/nearfar/StoredType;" (.ref o0) := St0.ext E1001
  have f1013 : Exa Z h1001 o0 "com/example/nearfar/nearfar/StoredType$1" := Ex0.ext E1001
  have f1014 : Fld Z h1001 o0 "com/example/nearfar/nearfar/StoredType" "wireType" "I" (.int (2 : Int32)) := Fl0.ext E1001
  have f1015 : Sta Z h1001 "com/example/nearfar/nearfar/StoredType" "BYTES" "Lcom/example/nearfar/nearfar/StoredType;" (.ref o1) := St1.ext E1001
  have f1016 : Exa Z h1001 o1 "com/example/nearfar/nearfar/StoredType$2" := Ex1.ext E1001
  have f1017 : Fld Z h1001 o1 "com/example/nearfar/nearfar/StoredType" "wireType" "I" (.int (2 : Int32)) := Fl1.ext E1001
  have f1018 : Sta Z h1001 "com/example/nearfar/nearfar/StoredType" "SINT32" "Lcom/example/nearfar/nearfar/StoredType;" (.ref o2) := St2.ext E1001
  have f1019 : Exa Z h1001 o2 "com/example/nearfar/nearfar/StoredType$3" := Ex2.ext E1001
  have f1020 : Fld Z h1001 o2 "com/example/nearfar/nearfar/StoredType" "wireType" "I" (.int (0 : Int32)) := Fl2.ext E1001
  have f1021 : Sta Z h1001 "com/example/nearfar/nearfar/StoredType" "SINT64" "Lcom/example/nearfar/nearfar/StoredType;" (.ref o3) := St3.ext E1001
  have f1022 : Exa Z h1001 o3 "com/example/nearfar/nearfar/StoredType$4" := Ex3.ext E1001
  have f1023 : Fld Z h1001 o3 "com/example/nearfar/nearfar/StoredType" "wireType" "I" (.int (0 : Int32)) := Fl3.ext E1001
  have f1024 : Sta Z h1001 "com/example/nearfar/nearfar/StoredType" "DOUBLE" "Lcom/example/nearfar/nearfar/StoredType;" (.ref o4) := St4.ext E1001
  have f1025 : Exa Z h1001 o4 "com/example/nearfar/nearfar/StoredType$5" := Ex4.ext E1001
  have f1026 : Fld Z h1001 o4 "com/example/nearfar/nearfar/StoredType" "wireType" "I" (.int (1 : Int32)) := Fl4.ext E1001
  have f1027 : Sta Z h1001 "com/example/nearfar/nearfar/StoredType" "FLOAT" "Lcom/example/nearfar/nearfar/StoredType;" (.ref o5) := St5.ext E1001
  have f1028 : Exa Z h1001 o5 "com/example/nearfar/nearfar/StoredType$6" := Ex5.ext E1001
  have f1029 : Fld Z h1001 o5 "com/example/nearfar/nearfar/StoredType" "wireType" "I" (.int (5 : Int32)) := Fl5.ext E1001
  have f1030 : Sta Z h1001 "com/example/nearfar/nearfar/StoredType" "BOOL" "Lcom/example/nearfar/nearfar/StoredType;" (.ref o6) := St6.ext E1001
  have f1031 : Exa Z h1001 o6 "com/example/nearfar/nearfar/StoredType$7" := Ex6.ext E1001
  have f1032 : Fld Z h1001 o6 "com/example/nearfar/nearfar/StoredType" "wireType" "I" (.int (0 : Int32)) := Fl6.ext E1001
  have f1033 : Sta Z h1001 "com/example/nearfar/nearfar/StoredType" "ENUM" "Lcom/example/nearfar/nearfar/StoredType;" (.ref o7) := St7.ext E1001
  have f1034 : Exa Z h1001 o7 "com/example/nearfar/nearfar/StoredType$8" := Ex7.ext E1001
  have f1035 : Fld Z h1001 o7 "com/example/nearfar/nearfar/StoredType" "wireType" "I" (.int (0 : Int32)) := Fl7.ext E1001
  have f1036 : Sta Z h1001 "com/example/nearfar/nearfar/StoredType" "TIMESTAMP" "Lcom/example/nearfar/nearfar/StoredType;" (.ref o8) := St8.ext E1001
  have f1037 : Exa Z h1001 o8 "com/example/nearfar/nearfar/StoredType$9" := Ex8.ext E1001
  have f1038 : Fld Z h1001 o8 "com/example/nearfar/nearfar/StoredType" "wireType" "I" (.int (2 : Int32)) := Fl8.ext E1001
  have f1039 : Sta Z h1001 "com/example/nearfar/nearfar/StoredType" "DURATION" "Lcom/example/nearfar/nearfar/StoredType;" (.ref o9) := St9.ext E1001
  have f1040 : Exa Z h1001 o9 "com/example/nearfar/nearfar/StoredType$10" := Ex9.ext E1001
  have f1041 : Fld Z h1001 o9 "com/example/nearfar/nearfar/StoredType" "wireType" "I" (.int (2 : Int32)) := Fl9.ext E1001
  have KK1001 : Keep h0 h1001 [] := KK0.ext E1001
  have Z1001 := Nat.le_trans Z0 E1001.1
  have f1042 : Arv Z h1001 b1001 k1001 (.object "com/example/nearfar/nearfar/StoredType") (10 : Int32) [.null, .null, .null, .null, .null, .null, .null, .null, .null, .null] .null := (Arv.new A1001 (by decide)).pad (pad_rep [] .null 10)
  show OEnds p.tables e below G (T1001.setTop (mkF m 5 #[.val (.int p1), .unset, .unset, .unset] [(.ref b1001)]))
  refine OEnds.st (fun _ k => XS.dup X1001.here hx rfl (hb hby at_5) rfl rfl k) ?_
  show OEnds p.tables e below G (T1001.setTop (mkF m 6 #[.val (.int p1), .unset, .unset, .unset] [(.ref b1001), (.ref b1001)]))
  refine OEnds.st (fun _ k => XS.iconst X1001.here hx rfl (hb hby at_6) k) ?_
  show OEnds p.tables e below G (T1001.setTop (mkF m 7 #[.val (.int p1), .unset, .unset, .unset] [(.int (0 : Int32)), (.ref b1001), (.ref b1001)]))
  obtain ⟨T1043, X1043, e1043, st1043⟩ := getS2 X1001 hx hZ hown (host := "") (Or.inl (hw _ (List.mem_of_getElem? (i := 2) rfl))) Via.refl e1001 f1012 (g := (mkF m 7 #[.val (.int p1), .unset, .unset, .unset] [(.int (0 : Int32)), (.ref b1001), (.ref b1001)])) rfl (hb hby at_7)
  refine OEnds.st st1043 ?_
  show OEnds p.tables e below G (T1043.setTop (mkF m 10 #[.val (.int p1), .unset, .unset, .unset] [(.ref o0), (.int (0 : Int32)), (.ref b1001), (.ref b1001)]))
  obtain ⟨cl1044, Ar1044, q1044, S1044, N1044n, H1044, G1044⟩ := id f1042
  have hin1044 : ¬ ((0 : Int32) < 0 ∨ cl1044.slots.size ≤ ((0 : Int32)).toNatClampNeg) := inb_of S1044 ⟨by decide, by decide⟩
  obtain ⟨T1044, h1044, X1044, e1044, W1044, st1044⟩ := stR X1043 hx hZ e1043 Ar1044 (j := (0 : Int32)) hin1044 rfl (Sto.ofV Ar1044 q1044 O1001 (Ins.of_exa f1013 (hw _ (List.mem_of_getElem? (i := 5) rfl)))) (g := (mkF m 10 #[.val (.int p1), .unset, .unset, .unset] [(.ref o0), (.int (0 : Int32)), (.ref b1001), (.ref b1001)])) rfl rfl (hb hby at_10)
  refine OEnds.st st1044 ?_
  have f1045 : Arv Z h1044 b1001 k1001 (.object "com/example/nearfar/nearfar/StoredType") (10 : Int32) [(.ref o0), .null, .null, .null, .null, .null, .null, .null, .null, .null] .null := Arv.set Ar1044 q1044 S1044 N1044n H1044 G1044 rfl W1044 0 rfl (Nat.le_of_ble_eq_true rfl)
  have f1046 : Sta Z h1044 "com/example/nearfar/nearfar/StoredType" "STRING" "Lcom/example/nearfar/nearfar/StoredType;" (.ref o0) := f1012.wr W1044
  have f1047 : Exa Z h1044 o0 "com/example/nearfar/nearfar/StoredType$1" := f1013.wr W1044
  have f1048 : Fld Z h1044 o0 "com/example/nearfar/nearfar/StoredType" "wireType" "I" (.int (2 : Int32)) := f1014.other W1044 (Or.inl ne1002)
  have f1049 : Sta Z h1044 "com/example/nearfar/nearfar/StoredType" "BYTES" "Lcom/example/nearfar/nearfar/StoredType;" (.ref o1) := f1015.wr W1044
  have f1050 : Exa Z h1044 o1 "com/example/nearfar/nearfar/StoredType$2" := f1016.wr W1044
  have f1051 : Fld Z h1044 o1 "com/example/nearfar/nearfar/StoredType" "wireType" "I" (.int (2 : Int32)) := f1017.other W1044 (Or.inl ne1003)
  have f1052 : Sta Z h1044 "com/example/nearfar/nearfar/StoredType" "SINT32" "Lcom/example/nearfar/nearfar/StoredType;" (.ref o2) := f1018.wr W1044
  have f1053 : Exa Z h1044 o2 "com/example/nearfar/nearfar/StoredType$3" := f1019.wr W1044
  have f1054 : Fld Z h1044 o2 "com/example/nearfar/nearfar/StoredType" "wireType" "I" (.int (0 : Int32)) := f1020.other W1044 (Or.inl ne1004)
  have f1055 : Sta Z h1044 "com/example/nearfar/nearfar/StoredType" "SINT64" "Lcom/example/nearfar/nearfar/StoredType;" (.ref o3) := f1021.wr W1044
  have f1056 : Exa Z h1044 o3 "com/example/nearfar/nearfar/StoredType$4" := f1022.wr W1044
  have f1057 : Fld Z h1044 o3 "com/example/nearfar/nearfar/StoredType" "wireType" "I" (.int (0 : Int32)) := f1023.other W1044 (Or.inl ne1005)
  have f1058 : Sta Z h1044 "com/example/nearfar/nearfar/StoredType" "DOUBLE" "Lcom/example/nearfar/nearfar/StoredType;" (.ref o4) := f1024.wr W1044
  have f1059 : Exa Z h1044 o4 "com/example/nearfar/nearfar/StoredType$5" := f1025.wr W1044
  have f1060 : Fld Z h1044 o4 "com/example/nearfar/nearfar/StoredType" "wireType" "I" (.int (1 : Int32)) := f1026.other W1044 (Or.inl ne1006)
  have f1061 : Sta Z h1044 "com/example/nearfar/nearfar/StoredType" "FLOAT" "Lcom/example/nearfar/nearfar/StoredType;" (.ref o5) := f1027.wr W1044
  have f1062 : Exa Z h1044 o5 "com/example/nearfar/nearfar/StoredType$6" := f1028.wr W1044
  have f1063 : Fld Z h1044 o5 "com/example/nearfar/nearfar/StoredType" "wireType" "I" (.int (5 : Int32)) := f1029.other W1044 (Or.inl ne1007)
  have f1064 : Sta Z h1044 "com/example/nearfar/nearfar/StoredType" "BOOL" "Lcom/example/nearfar/nearfar/StoredType;" (.ref o6) := f1030.wr W1044
  have f1065 : Exa Z h1044 o6 "com/example/nearfar/nearfar/StoredType$7" := f1031.wr W1044
  have f1066 : Fld Z h1044 o6 "com/example/nearfar/nearfar/StoredType" "wireType" "I" (.int (0 : Int32)) := f1032.other W1044 (Or.inl ne1008)
  have f1067 : Sta Z h1044 "com/example/nearfar/nearfar/StoredType" "ENUM" "Lcom/example/nearfar/nearfar/StoredType;" (.ref o7) := f1033.wr W1044
  have f1068 : Exa Z h1044 o7 "com/example/nearfar/nearfar/StoredType$8" := f1034.wr W1044
  have f1069 : Fld Z h1044 o7 "com/example/nearfar/nearfar/StoredType" "wireType" "I" (.int (0 : Int32)) := f1035.other W1044 (Or.inl ne1009)
  have f1070 : Sta Z h1044 "com/example/nearfar/nearfar/StoredType" "TIMESTAMP" "Lcom/example/nearfar/nearfar/StoredType;" (.ref o8) := f1036.wr W1044
  have f1071 : Exa Z h1044 o8 "com/example/nearfar/nearfar/StoredType$9" := f1037.wr W1044
  have f1072 : Fld Z h1044 o8 "com/example/nearfar/nearfar/StoredType" "wireType" "I" (.int (2 : Int32)) := f1038.other W1044 (Or.inl ne1010)
  have f1073 : Sta Z h1044 "com/example/nearfar/nearfar/StoredType" "DURATION" "Lcom/example/nearfar/nearfar/StoredType;" (.ref o9) := f1039.wr W1044
  have f1074 : Exa Z h1044 o9 "com/example/nearfar/nearfar/StoredType$10" := f1040.wr W1044
  have f1075 : Fld Z h1044 o9 "com/example/nearfar/nearfar/StoredType" "wireType" "I" (.int (2 : Int32)) := f1041.other W1044 (Or.inl ne1011)
  have N1044 := Fr.snoc X1044 N0 ge_b1001
  have KK1044 : Keep h0 h1044 [] := KK1001.wr W1044 (Or.inr sz_b1001)
  have Z1044 := Nat.le_trans Z1001 (Keep.of_wr W1044).1
  show OEnds p.tables e below G (T1044.setTop (mkF m 11 #[.val (.int p1), .unset, .unset, .unset] [(.ref b1001)]))
  refine OEnds.st (fun _ k => XS.dup X1044.here hx rfl (hb hby at_11) rfl rfl k) ?_
  show OEnds p.tables e below G (T1044.setTop (mkF m 12 #[.val (.int p1), .unset, .unset, .unset] [(.ref b1001), (.ref b1001)]))
  refine OEnds.st (fun _ k => XS.iconst X1044.here hx rfl (hb hby at_12) k) ?_
  show OEnds p.tables e below G (T1044.setTop (mkF m 13 #[.val (.int p1), .unset, .unset, .unset] [(.int (1 : Int32)), (.ref b1001), (.ref b1001)]))
  obtain ⟨T1076, X1076, e1076, st1076⟩ := getS2 X1044 hx hZ hown (host := "") (Or.inl (hw _ (List.mem_of_getElem? (i := 6) rfl))) Via.refl e1044 f1049 (g := (mkF m 13 #[.val (.int p1), .unset, .unset, .unset] [(.int (1 : Int32)), (.ref b1001), (.ref b1001)])) rfl (hb hby at_13)
  refine OEnds.st st1076 ?_
  show OEnds p.tables e below G (T1076.setTop (mkF m 16 #[.val (.int p1), .unset, .unset, .unset] [(.ref o1), (.int (1 : Int32)), (.ref b1001), (.ref b1001)]))
  obtain ⟨cl1077, Ar1077, q1077, S1077, N1077n, H1077, G1077⟩ := id f1045
  have hin1077 : ¬ ((1 : Int32) < 0 ∨ cl1077.slots.size ≤ ((1 : Int32)).toNatClampNeg) := inb_of S1077 ⟨by decide, by decide⟩
  obtain ⟨T1077, h1077, X1077, e1077, W1077, st1077⟩ := stR X1076 hx hZ e1076 Ar1077 (j := (1 : Int32)) hin1077 rfl (Sto.ofV Ar1077 q1077 O1001 (Ins.of_exa f1050 (hw _ (List.mem_of_getElem? (i := 8) rfl)))) (g := (mkF m 16 #[.val (.int p1), .unset, .unset, .unset] [(.ref o1), (.int (1 : Int32)), (.ref b1001), (.ref b1001)])) rfl rfl (hb hby at_16)
  refine OEnds.st st1077 ?_
  have f1078 : Arv Z h1077 b1001 k1001 (.object "com/example/nearfar/nearfar/StoredType") (10 : Int32) [(.ref o0), (.ref o1), .null, .null, .null, .null, .null, .null, .null, .null] .null := Arv.set Ar1077 q1077 S1077 N1077n H1077 G1077 rfl W1077 1 rfl (Nat.le_of_ble_eq_true rfl)
  have f1079 : Sta Z h1077 "com/example/nearfar/nearfar/StoredType" "STRING" "Lcom/example/nearfar/nearfar/StoredType;" (.ref o0) := f1046.wr W1077
  have f1080 : Exa Z h1077 o0 "com/example/nearfar/nearfar/StoredType$1" := f1047.wr W1077
  have f1081 : Fld Z h1077 o0 "com/example/nearfar/nearfar/StoredType" "wireType" "I" (.int (2 : Int32)) := f1048.other W1077 (Or.inl ne1002)
  have f1082 : Sta Z h1077 "com/example/nearfar/nearfar/StoredType" "BYTES" "Lcom/example/nearfar/nearfar/StoredType;" (.ref o1) := f1049.wr W1077
  have f1083 : Exa Z h1077 o1 "com/example/nearfar/nearfar/StoredType$2" := f1050.wr W1077
  have f1084 : Fld Z h1077 o1 "com/example/nearfar/nearfar/StoredType" "wireType" "I" (.int (2 : Int32)) := f1051.other W1077 (Or.inl ne1003)
  have f1085 : Sta Z h1077 "com/example/nearfar/nearfar/StoredType" "SINT32" "Lcom/example/nearfar/nearfar/StoredType;" (.ref o2) := f1052.wr W1077
  have f1086 : Exa Z h1077 o2 "com/example/nearfar/nearfar/StoredType$3" := f1053.wr W1077
  have f1087 : Fld Z h1077 o2 "com/example/nearfar/nearfar/StoredType" "wireType" "I" (.int (0 : Int32)) := f1054.other W1077 (Or.inl ne1004)
  have f1088 : Sta Z h1077 "com/example/nearfar/nearfar/StoredType" "SINT64" "Lcom/example/nearfar/nearfar/StoredType;" (.ref o3) := f1055.wr W1077
  have f1089 : Exa Z h1077 o3 "com/example/nearfar/nearfar/StoredType$4" := f1056.wr W1077
  have f1090 : Fld Z h1077 o3 "com/example/nearfar/nearfar/StoredType" "wireType" "I" (.int (0 : Int32)) := f1057.other W1077 (Or.inl ne1005)
  have f1091 : Sta Z h1077 "com/example/nearfar/nearfar/StoredType" "DOUBLE" "Lcom/example/nearfar/nearfar/StoredType;" (.ref o4) := f1058.wr W1077
  have f1092 : Exa Z h1077 o4 "com/example/nearfar/nearfar/StoredType$5" := f1059.wr W1077
  have f1093 : Fld Z h1077 o4 "com/example/nearfar/nearfar/StoredType" "wireType" "I" (.int (1 : Int32)) := f1060.other W1077 (Or.inl ne1006)
  have f1094 : Sta Z h1077 "com/example/nearfar/nearfar/StoredType" "FLOAT" "Lcom/example/nearfar/nearfar/StoredType;" (.ref o5) := f1061.wr W1077
  have f1095 : Exa Z h1077 o5 "com/example/nearfar/nearfar/StoredType$6" := f1062.wr W1077
  have f1096 : Fld Z h1077 o5 "com/example/nearfar/nearfar/StoredType" "wireType" "I" (.int (5 : Int32)) := f1063.other W1077 (Or.inl ne1007)
  have f1097 : Sta Z h1077 "com/example/nearfar/nearfar/StoredType" "BOOL" "Lcom/example/nearfar/nearfar/StoredType;" (.ref o6) := f1064.wr W1077
  have f1098 : Exa Z h1077 o6 "com/example/nearfar/nearfar/StoredType$7" := f1065.wr W1077
  have f1099 : Fld Z h1077 o6 "com/example/nearfar/nearfar/StoredType" "wireType" "I" (.int (0 : Int32)) := f1066.other W1077 (Or.inl ne1008)
  have f1100 : Sta Z h1077 "com/example/nearfar/nearfar/StoredType" "ENUM" "Lcom/example/nearfar/nearfar/StoredType;" (.ref o7) := f1067.wr W1077
  have f1101 : Exa Z h1077 o7 "com/example/nearfar/nearfar/StoredType$8" := f1068.wr W1077
  have f1102 : Fld Z h1077 o7 "com/example/nearfar/nearfar/StoredType" "wireType" "I" (.int (0 : Int32)) := f1069.other W1077 (Or.inl ne1009)
  have f1103 : Sta Z h1077 "com/example/nearfar/nearfar/StoredType" "TIMESTAMP" "Lcom/example/nearfar/nearfar/StoredType;" (.ref o8) := f1070.wr W1077
  have f1104 : Exa Z h1077 o8 "com/example/nearfar/nearfar/StoredType$9" := f1071.wr W1077
  have f1105 : Fld Z h1077 o8 "com/example/nearfar/nearfar/StoredType" "wireType" "I" (.int (2 : Int32)) := f1072.other W1077 (Or.inl ne1010)
  have f1106 : Sta Z h1077 "com/example/nearfar/nearfar/StoredType" "DURATION" "Lcom/example/nearfar/nearfar/StoredType;" (.ref o9) := f1073.wr W1077
  have f1107 : Exa Z h1077 o9 "com/example/nearfar/nearfar/StoredType$10" := f1074.wr W1077
  have f1108 : Fld Z h1077 o9 "com/example/nearfar/nearfar/StoredType" "wireType" "I" (.int (2 : Int32)) := f1075.other W1077 (Or.inl ne1011)
  have N1077 := Fr.snoc X1077 N1044 ge_b1001
  have KK1077 : Keep h0 h1077 [] := KK1044.wr W1077 (Or.inr sz_b1001)
  have Z1077 := Nat.le_trans Z1044 (Keep.of_wr W1077).1
  show OEnds p.tables e below G (T1077.setTop (mkF m 17 #[.val (.int p1), .unset, .unset, .unset] [(.ref b1001)]))
  refine OEnds.st (fun _ k => XS.dup X1077.here hx rfl (hb hby at_17) rfl rfl k) ?_
  show OEnds p.tables e below G (T1077.setTop (mkF m 18 #[.val (.int p1), .unset, .unset, .unset] [(.ref b1001), (.ref b1001)]))
  refine OEnds.st (fun _ k => XS.iconst X1077.here hx rfl (hb hby at_18) k) ?_
  show OEnds p.tables e below G (T1077.setTop (mkF m 19 #[.val (.int p1), .unset, .unset, .unset] [(.int (2 : Int32)), (.ref b1001), (.ref b1001)]))
  obtain ⟨T1109, X1109, e1109, st1109⟩ := getS2 X1077 hx hZ hown (host := "") (Or.inl (hw _ (List.mem_of_getElem? (i := 9) rfl))) Via.refl e1077 f1085 (g := (mkF m 19 #[.val (.int p1), .unset, .unset, .unset] [(.int (2 : Int32)), (.ref b1001), (.ref b1001)])) rfl (hb hby at_19)
  refine OEnds.st st1109 ?_
  show OEnds p.tables e below G (T1109.setTop (mkF m 22 #[.val (.int p1), .unset, .unset, .unset] [(.ref o2), (.int (2 : Int32)), (.ref b1001), (.ref b1001)]))
  obtain ⟨cl1110, Ar1110, q1110, S1110, N1110n, H1110, G1110⟩ := id f1078
  have hin1110 : ¬ ((2 : Int32) < 0 ∨ cl1110.slots.size ≤ ((2 : Int32)).toNatClampNeg) := inb_of S1110 ⟨by decide, by decide⟩
  obtain ⟨T1110, h1110, X1110, e1110, W1110, st1110⟩ := stR X1109 hx hZ e1109 Ar1110 (j := (2 : Int32)) hin1110 rfl (Sto.ofV Ar1110 q1110 O1001 (Ins.of_exa f1086 (hw _ (List.mem_of_getElem? (i := 11) rfl)))) (g := (mkF m 22 #[.val (.int p1), .unset, .unset, .unset] [(.ref o2), (.int (2 : Int32)), (.ref b1001), (.ref b1001)])) rfl rfl (hb hby at_22)
  refine OEnds.st st1110 ?_
  have f1111 : Arv Z h1110 b1001 k1001 (.object "com/example/nearfar/nearfar/StoredType") (10 : Int32) [(.ref o0), (.ref o1), (.ref o2), .null, .null, .null, .null, .null, .null, .null] .null := Arv.set Ar1110 q1110 S1110 N1110n H1110 G1110 rfl W1110 2 rfl (Nat.le_of_ble_eq_true rfl)
  have f1112 : Sta Z h1110 "com/example/nearfar/nearfar/StoredType" "STRING" "Lcom/example/nearfar/nearfar/StoredType;" (.ref o0) := f1079.wr W1110
  have f1113 : Exa Z h1110 o0 "com/example/nearfar/nearfar/StoredType$1" := f1080.wr W1110
  have f1114 : Fld Z h1110 o0 "com/example/nearfar/nearfar/StoredType" "wireType" "I" (.int (2 : Int32)) := f1081.other W1110 (Or.inl ne1002)
  have f1115 : Sta Z h1110 "com/example/nearfar/nearfar/StoredType" "BYTES" "Lcom/example/nearfar/nearfar/StoredType;" (.ref o1) := f1082.wr W1110
  have f1116 : Exa Z h1110 o1 "com/example/nearfar/nearfar/StoredType$2" := f1083.wr W1110
  have f1117 : Fld Z h1110 o1 "com/example/nearfar/nearfar/StoredType" "wireType" "I" (.int (2 : Int32)) := f1084.other W1110 (Or.inl ne1003)
  have f1118 : Sta Z h1110 "com/example/nearfar/nearfar/StoredType" "SINT32" "Lcom/example/nearfar/nearfar/StoredType;" (.ref o2) := f1085.wr W1110
  have f1119 : Exa Z h1110 o2 "com/example/nearfar/nearfar/StoredType$3" := f1086.wr W1110
  have f1120 : Fld Z h1110 o2 "com/example/nearfar/nearfar/StoredType" "wireType" "I" (.int (0 : Int32)) := f1087.other W1110 (Or.inl ne1004)
  have f1121 : Sta Z h1110 "com/example/nearfar/nearfar/StoredType" "SINT64" "Lcom/example/nearfar/nearfar/StoredType;" (.ref o3) := f1088.wr W1110
  have f1122 : Exa Z h1110 o3 "com/example/nearfar/nearfar/StoredType$4" := f1089.wr W1110
  have f1123 : Fld Z h1110 o3 "com/example/nearfar/nearfar/StoredType" "wireType" "I" (.int (0 : Int32)) := f1090.other W1110 (Or.inl ne1005)
  have f1124 : Sta Z h1110 "com/example/nearfar/nearfar/StoredType" "DOUBLE" "Lcom/example/nearfar/nearfar/StoredType;" (.ref o4) := f1091.wr W1110
  have f1125 : Exa Z h1110 o4 "com/example/nearfar/nearfar/StoredType$5" := f1092.wr W1110
  have f1126 : Fld Z h1110 o4 "com/example/nearfar/nearfar/StoredType" "wireType" "I" (.int (1 : Int32)) := f1093.other W1110 (Or.inl ne1006)
  have f1127 : Sta Z h1110 "com/example/nearfar/nearfar/StoredType" "FLOAT" "Lcom/example/nearfar/nearfar/StoredType;" (.ref o5) := f1094.wr W1110
  have f1128 : Exa Z h1110 o5 "com/example/nearfar/nearfar/StoredType$6" := f1095.wr W1110
  have f1129 : Fld Z h1110 o5 "com/example/nearfar/nearfar/StoredType" "wireType" "I" (.int (5 : Int32)) := f1096.other W1110 (Or.inl ne1007)
  have f1130 : Sta Z h1110 "com/example/nearfar/nearfar/StoredType" "BOOL" "Lcom/example/nearfar/nearfar/StoredType;" (.ref o6) := f1097.wr W1110
  have f1131 : Exa Z h1110 o6 "com/example/nearfar/nearfar/StoredType$7" := f1098.wr W1110
  have f1132 : Fld Z h1110 o6 "com/example/nearfar/nearfar/StoredType" "wireType" "I" (.int (0 : Int32)) := f1099.other W1110 (Or.inl ne1008)
  have f1133 : Sta Z h1110 "com/example/nearfar/nearfar/StoredType" "ENUM" "Lcom/example/nearfar/nearfar/StoredType;" (.ref o7) := f1100.wr W1110
  have f1134 : Exa Z h1110 o7 "com/example/nearfar/nearfar/StoredType$8" := f1101.wr W1110
  have f1135 : Fld Z h1110 o7 "com/example/nearfar/nearfar/StoredType" "wireType" "I" (.int (0 : Int32)) := f1102.other W1110 (Or.inl ne1009)
  have f1136 : Sta Z h1110 "com/example/nearfar/nearfar/StoredType" "TIMESTAMP" "Lcom/example/nearfar/nearfar/StoredType;" (.ref o8) := f1103.wr W1110
  have f1137 : Exa Z h1110 o8 "com/example/nearfar/nearfar/StoredType$9" := f1104.wr W1110
  have f1138 : Fld Z h1110 o8 "com/example/nearfar/nearfar/StoredType" "wireType" "I" (.int (2 : Int32)) := f1105.other W1110 (Or.inl ne1010)
  have f1139 : Sta Z h1110 "com/example/nearfar/nearfar/StoredType" "DURATION" "Lcom/example/nearfar/nearfar/StoredType;" (.ref o9) := f1106.wr W1110
  have f1140 : Exa Z h1110 o9 "com/example/nearfar/nearfar/StoredType$10" := f1107.wr W1110
  have f1141 : Fld Z h1110 o9 "com/example/nearfar/nearfar/StoredType" "wireType" "I" (.int (2 : Int32)) := f1108.other W1110 (Or.inl ne1011)
  have N1110 := Fr.snoc X1110 N1077 ge_b1001
  have KK1110 : Keep h0 h1110 [] := KK1077.wr W1110 (Or.inr sz_b1001)
  have Z1110 := Nat.le_trans Z1077 (Keep.of_wr W1110).1
  show OEnds p.tables e below G (T1110.setTop (mkF m 23 #[.val (.int p1), .unset, .unset, .unset] [(.ref b1001)]))
  refine OEnds.st (fun _ k => XS.dup X1110.here hx rfl (hb hby at_23) rfl rfl k) ?_
  show OEnds p.tables e below G (T1110.setTop (mkF m 24 #[.val (.int p1), .unset, .unset, .unset] [(.ref b1001), (.ref b1001)]))
  refine OEnds.st (fun _ k => XS.iconst X1110.here hx rfl (hb hby at_24) k) ?_
  show OEnds p.tables e below G (T1110.setTop (mkF m 25 #[.val (.int p1), .unset, .unset, .unset] [(.int (3 : Int32)), (.ref b1001), (.ref b1001)]))
  obtain ⟨T1142, X1142, e1142, st1142⟩ := getS2 X1110 hx hZ hown (host := "") (Or.inl (hw _ (List.mem_of_getElem? (i := 12) rfl))) Via.refl e1110 f1121 (g := (mkF m 25 #[.val (.int p1), .unset, .unset, .unset] [(.int (3 : Int32)), (.ref b1001), (.ref b1001)])) rfl (hb hby at_25)
  refine OEnds.st st1142 ?_
  show OEnds p.tables e below G (T1142.setTop (mkF m 28 #[.val (.int p1), .unset, .unset, .unset] [(.ref o3), (.int (3 : Int32)), (.ref b1001), (.ref b1001)]))
  obtain ⟨cl1143, Ar1143, q1143, S1143, N1143n, H1143, G1143⟩ := id f1111
  have hin1143 : ¬ ((3 : Int32) < 0 ∨ cl1143.slots.size ≤ ((3 : Int32)).toNatClampNeg) := inb_of S1143 ⟨by decide, by decide⟩
  obtain ⟨T1143, h1143, X1143, e1143, W1143, st1143⟩ := stR X1142 hx hZ e1142 Ar1143 (j := (3 : Int32)) hin1143 rfl (Sto.ofV Ar1143 q1143 O1001 (Ins.of_exa f1122 (hw _ (List.mem_of_getElem? (i := 14) rfl)))) (g := (mkF m 28 #[.val (.int p1), .unset, .unset, .unset] [(.ref o3), (.int (3 : Int32)), (.ref b1001), (.ref b1001)])) rfl rfl (hb hby at_28)
  refine OEnds.st st1143 ?_
  have f1144 : Arv Z h1143 b1001 k1001 (.object "com/example/nearfar/nearfar/StoredType") (10 : Int32) [(.ref o0), (.ref o1), (.ref o2), (.ref o3), .null, .null, .null, .null, .null, .null] .null := Arv.set Ar1143 q1143 S1143 N1143n H1143 G1143 rfl W1143 3 rfl (Nat.le_of_ble_eq_true rfl)
  have f1145 : Sta Z h1143 "com/example/nearfar/nearfar/StoredType" "STRING" "Lcom/example/nearfar/nearfar/StoredType;" (.ref o0) := f1112.wr W1143
  have f1146 : Exa Z h1143 o0 "com/example/nearfar/nearfar/StoredType$1" := f1113.wr W1143
  have f1147 : Fld Z h1143 o0 "com/example/nearfar/nearfar/StoredType" "wireType" "I" (.int (2 : Int32)) := f1114.other W1143 (Or.inl ne1002)
  have f1148 : Sta Z h1143 "com/example/nearfar/nearfar/StoredType" "BYTES" "Lcom/example/nearfar/nearfar/StoredType;" (.ref o1) := f1115.wr W1143
  have f1149 : Exa Z h1143 o1 "com/example/nearfar/nearfar/StoredType$2" := f1116.wr W1143
  have f1150 : Fld Z h1143 o1 "com/example/nearfar/nearfar/StoredType" "wireType" "I" (.int (2 : Int32)) := f1117.other W1143 (Or.inl ne1003)
  have f1151 : Sta Z h1143 "com/example/nearfar/nearfar/StoredType" "SINT32" "Lcom/example/nearfar/nearfar/StoredType;" (.ref o2) := f1118.wr W1143
  have f1152 : Exa Z h1143 o2 "com/example/nearfar/nearfar/StoredType$3" := f1119.wr W1143
  have f1153 : Fld Z h1143 o2 "com/example/nearfar/nearfar/StoredType" "wireType" "I" (.int (0 : Int32)) := f1120.other W1143 (Or.inl ne1004)
  have f1154 : Sta Z h1143 "com/example/nearfar/nearfar/StoredType" "SINT64" "Lcom/example/nearfar/nearfar/StoredType;" (.ref o3) := f1121.wr W1143
  have f1155 : Exa Z h1143 o3 "com/example/nearfar/nearfar/StoredType$4" := f1122.wr W1143
  have f1156 : Fld Z h1143 o3 "com/example/nearfar/nearfar/StoredType" "wireType" "I" (.int (0 : Int32)) := f1123.other W1143 (Or.inl ne1005)
  have f1157 : Sta Z h1143 "com/example/nearfar/nearfar/StoredType" "DOUBLE" "Lcom/example/nearfar/nearfar/StoredType;" (.ref o4) := f1124.wr W1143
  have f1158 : Exa Z h1143 o4 "com/example/nearfar/nearfar/StoredType$5" := f1125.wr W1143
  have f1159 : Fld Z h1143 o4 "com/example/nearfar/nearfar/StoredType" "wireType" "I" (.int (1 : Int32)) := f1126.other W1143 (Or.inl ne1006)
  have f1160 : Sta Z h1143 "com/example/nearfar/nearfar/StoredType" "FLOAT" "Lcom/example/nearfar/nearfar/StoredType;" (.ref o5) := f1127.wr W1143
  have f1161 : Exa Z h1143 o5 "com/example/nearfar/nearfar/StoredType$6" := f1128.wr W1143
  have f1162 : Fld Z h1143 o5 "com/example/nearfar/nearfar/StoredType" "wireType" "I" (.int (5 : Int32)) := f1129.other W1143 (Or.inl ne1007)
  have f1163 : Sta Z h1143 "com/example/nearfar/nearfar/StoredType" "BOOL" "Lcom/example/nearfar/nearfar/StoredType;" (.ref o6) := f1130.wr W1143
  have f1164 : Exa Z h1143 o6 "com/example/nearfar/nearfar/StoredType$7" := f1131.wr W1143
  have f1165 : Fld Z h1143 o6 "com/example/nearfar/nearfar/StoredType" "wireType" "I" (.int (0 : Int32)) := f1132.other W1143 (Or.inl ne1008)
  have f1166 : Sta Z h1143 "com/example/nearfar/nearfar/StoredType" "ENUM" "Lcom/example/nearfar/nearfar/StoredType;" (.ref o7) := f1133.wr W1143
  have f1167 : Exa Z h1143 o7 "com/example/nearfar/nearfar/StoredType$8" := f1134.wr W1143
  have f1168 : Fld Z h1143 o7 "com/example/nearfar/nearfar/StoredType" "wireType" "I" (.int (0 : Int32)) := f1135.other W1143 (Or.inl ne1009)
  have f1169 : Sta Z h1143 "com/example/nearfar/nearfar/StoredType" "TIMESTAMP" "Lcom/example/nearfar/nearfar/StoredType;" (.ref o8) := f1136.wr W1143
  have f1170 : Exa Z h1143 o8 "com/example/nearfar/nearfar/StoredType$9" := f1137.wr W1143
  have f1171 : Fld Z h1143 o8 "com/example/nearfar/nearfar/StoredType" "wireType" "I" (.int (2 : Int32)) := f1138.other W1143 (Or.inl ne1010)
  have f1172 : Sta Z h1143 "com/example/nearfar/nearfar/StoredType" "DURATION" "Lcom/example/nearfar/nearfar/StoredType;" (.ref o9) := f1139.wr W1143
  have f1173 : Exa Z h1143 o9 "com/example/nearfar/nearfar/StoredType$10" := f1140.wr W1143
  have f1174 : Fld Z h1143 o9 "com/example/nearfar/nearfar/StoredType" "wireType" "I" (.int (2 : Int32)) := f1141.other W1143 (Or.inl ne1011)
  have N1143 := Fr.snoc X1143 N1110 ge_b1001
  have KK1143 : Keep h0 h1143 [] := KK1110.wr W1143 (Or.inr sz_b1001)
  have Z1143 := Nat.le_trans Z1110 (Keep.of_wr W1143).1
  show OEnds p.tables e below G (T1143.setTop (mkF m 29 #[.val (.int p1), .unset, .unset, .unset] [(.ref b1001)]))
  refine OEnds.st (fun _ k => XS.dup X1143.here hx rfl (hb hby at_29) rfl rfl k) ?_
  show OEnds p.tables e below G (T1143.setTop (mkF m 30 #[.val (.int p1), .unset, .unset, .unset] [(.ref b1001), (.ref b1001)]))
  refine OEnds.st (fun _ k => XS.iconst X1143.here hx rfl (hb hby at_30) k) ?_
  show OEnds p.tables e below G (T1143.setTop (mkF m 31 #[.val (.int p1), .unset, .unset, .unset] [(.int (4 : Int32)), (.ref b1001), (.ref b1001)]))
  obtain ⟨T1175, X1175, e1175, st1175⟩ := getS2 X1143 hx hZ hown (host := "") (Or.inl (hw _ (List.mem_of_getElem? (i := 15) rfl))) Via.refl e1143 f1157 (g := (mkF m 31 #[.val (.int p1), .unset, .unset, .unset] [(.int (4 : Int32)), (.ref b1001), (.ref b1001)])) rfl (hb hby at_31)
  refine OEnds.st st1175 ?_
  show OEnds p.tables e below G (T1175.setTop (mkF m 34 #[.val (.int p1), .unset, .unset, .unset] [(.ref o4), (.int (4 : Int32)), (.ref b1001), (.ref b1001)]))
  obtain ⟨cl1176, Ar1176, q1176, S1176, N1176n, H1176, G1176⟩ := id f1144
  have hin1176 : ¬ ((4 : Int32) < 0 ∨ cl1176.slots.size ≤ ((4 : Int32)).toNatClampNeg) := inb_of S1176 ⟨by decide, by decide⟩
  obtain ⟨T1176, h1176, X1176, e1176, W1176, st1176⟩ := stR X1175 hx hZ e1175 Ar1176 (j := (4 : Int32)) hin1176 rfl (Sto.ofV Ar1176 q1176 O1001 (Ins.of_exa f1158 (hw _ (List.mem_of_getElem? (i := 17) rfl)))) (g := (mkF m 34 #[.val (.int p1), .unset, .unset, .unset] [(.ref o4), (.int (4 : Int32)), (.ref b1001), (.ref b1001)])) rfl rfl (hb hby at_34)
  refine OEnds.st st1176 ?_
  have f1177 : Arv Z h1176 b1001 k1001 (.object "com/example/nearfar/nearfar/StoredType") (10 : Int32) [(.ref o0), (.ref o1), (.ref o2), (.ref o3), (.ref o4), .null, .null, .null, .null, .null] .null := Arv.set Ar1176 q1176 S1176 N1176n H1176 G1176 rfl W1176 4 rfl (Nat.le_of_ble_eq_true rfl)
  have f1178 : Sta Z h1176 "com/example/nearfar/nearfar/StoredType" "STRING" "Lcom/example/nearfar/nearfar/StoredType;" (.ref o0) := f1145.wr W1176
  have f1179 : Exa Z h1176 o0 "com/example/nearfar/nearfar/StoredType$1" := f1146.wr W1176
  have f1180 : Fld Z h1176 o0 "com/example/nearfar/nearfar/StoredType" "wireType" "I" (.int (2 : Int32)) := f1147.other W1176 (Or.inl ne1002)
  have f1181 : Sta Z h1176 "com/example/nearfar/nearfar/StoredType" "BYTES" "Lcom/example/nearfar/nearfar/StoredType;" (.ref o1) := f1148.wr W1176
  have f1182 : Exa Z h1176 o1 "com/example/nearfar/nearfar/StoredType$2" := f1149.wr W1176
  have f1183 : Fld Z h1176 o1 "com/example/nearfar/nearfar/StoredType" "wireType" "I" (.int (2 : Int32)) := f1150.other W1176 (Or.inl ne1003)
  have f1184 : Sta Z h1176 "com/example/nearfar/nearfar/StoredType" "SINT32" "Lcom/example/nearfar/nearfar/StoredType;" (.ref o2) := f1151.wr W1176
  have f1185 : Exa Z h1176 o2 "com/example/nearfar/nearfar/StoredType$3" := f1152.wr W1176
  have f1186 : Fld Z h1176 o2 "com/example/nearfar/nearfar/StoredType" "wireType" "I" (.int (0 : Int32)) := f1153.other W1176 (Or.inl ne1004)
  have f1187 : Sta Z h1176 "com/example/nearfar/nearfar/StoredType" "SINT64" "Lcom/example/nearfar/nearfar/StoredType;" (.ref o3) := f1154.wr W1176
  have f1188 : Exa Z h1176 o3 "com/example/nearfar/nearfar/StoredType$4" := f1155.wr W1176
  have f1189 : Fld Z h1176 o3 "com/example/nearfar/nearfar/StoredType" "wireType" "I" (.int (0 : Int32)) := f1156.other W1176 (Or.inl ne1005)
  have f1190 : Sta Z h1176 "com/example/nearfar/nearfar/StoredType" "DOUBLE" "Lcom/example/nearfar/nearfar/StoredType;" (.ref o4) := f1157.wr W1176
  have f1191 : Exa Z h1176 o4 "com/example/nearfar/nearfar/StoredType$5" := f1158.wr W1176
  have f1192 : Fld Z h1176 o4 "com/example/nearfar/nearfar/StoredType" "wireType" "I" (.int (1 : Int32)) := f1159.other W1176 (Or.inl ne1006)
  have f1193 : Sta Z h1176 "com/example/nearfar/nearfar/StoredType" "FLOAT" "Lcom/example/nearfar/nearfar/StoredType;" (.ref o5) := f1160.wr W1176
  have f1194 : Exa Z h1176 o5 "com/example/nearfar/nearfar/StoredType$6" := f1161.wr W1176
  have f1195 : Fld Z h1176 o5 "com/example/nearfar/nearfar/StoredType" "wireType" "I" (.int (5 : Int32)) := f1162.other W1176 (Or.inl ne1007)
  have f1196 : Sta Z h1176 "com/example/nearfar/nearfar/StoredType" "BOOL" "Lcom/example/nearfar/nearfar/StoredType;" (.ref o6) := f1163.wr W1176
  have f1197 : Exa Z h1176 o6 "com/example/nearfar/nearfar/StoredType$7" := f1164.wr W1176
  have f1198 : Fld Z h1176 o6 "com/example/nearfar/nearfar/StoredType" "wireType" "I" (.int (0 : Int32)) := f1165.other W1176 (Or.inl ne1008)
  have f1199 : Sta Z h1176 "com/example/nearfar/nearfar/StoredType" "ENUM" "Lcom/example/nearfar/nearfar/StoredType;" (.ref o7) := f1166.wr W1176
  have f1200 : Exa Z h1176 o7 "com/example/nearfar/nearfar/StoredType$8" := f1167.wr W1176
  have f1201 : Fld Z h1176 o7 "com/example/nearfar/nearfar/StoredType" "wireType" "I" (.int (0 : Int32)) := f1168.other W1176 (Or.inl ne1009)
  have f1202 : Sta Z h1176 "com/example/nearfar/nearfar/StoredType" "TIMESTAMP" "Lcom/example/nearfar/nearfar/StoredType;" (.ref o8) := f1169.wr W1176
  have f1203 : Exa Z h1176 o8 "com/example/nearfar/nearfar/StoredType$9" := f1170.wr W1176
  have f1204 : Fld Z h1176 o8 "com/example/nearfar/nearfar/StoredType" "wireType" "I" (.int (2 : Int32)) := f1171.other W1176 (Or.inl ne1010)
  have f1205 : Sta Z h1176 "com/example/nearfar/nearfar/StoredType" "DURATION" "Lcom/example/nearfar/nearfar/StoredType;" (.ref o9) := f1172.wr W1176
  have f1206 : Exa Z h1176 o9 "com/example/nearfar/nearfar/StoredType$10" := f1173.wr W1176
  have f1207 : Fld Z h1176 o9 "com/example/nearfar/nearfar/StoredType" "wireType" "I" (.int (2 : Int32)) := f1174.other W1176 (Or.inl ne1011)
  have N1176 := Fr.snoc X1176 N1143 ge_b1001
  have KK1176 : Keep h0 h1176 [] := KK1143.wr W1176 (Or.inr sz_b1001)
  have Z1176 := Nat.le_trans Z1143 (Keep.of_wr W1176).1
  show OEnds p.tables e below G (T1176.setTop (mkF m 35 #[.val (.int p1), .unset, .unset, .unset] [(.ref b1001)]))
  refine OEnds.st (fun _ k => XS.dup X1176.here hx rfl (hb hby at_35) rfl rfl k) ?_
  show OEnds p.tables e below G (T1176.setTop (mkF m 36 #[.val (.int p1), .unset, .unset, .unset] [(.ref b1001), (.ref b1001)]))
  refine OEnds.st (fun _ k => XS.iconst X1176.here hx rfl (hb hby at_36) k) ?_
  show OEnds p.tables e below G (T1176.setTop (mkF m 37 #[.val (.int p1), .unset, .unset, .unset] [(.int (5 : Int32)), (.ref b1001), (.ref b1001)]))
  obtain ⟨T1208, X1208, e1208, st1208⟩ := getS2 X1176 hx hZ hown (host := "") (Or.inl (hw _ (List.mem_of_getElem? (i := 18) rfl))) Via.refl e1176 f1193 (g := (mkF m 37 #[.val (.int p1), .unset, .unset, .unset] [(.int (5 : Int32)), (.ref b1001), (.ref b1001)])) rfl (hb hby at_37)
  refine OEnds.st st1208 ?_
  show OEnds p.tables e below G (T1208.setTop (mkF m 40 #[.val (.int p1), .unset, .unset, .unset] [(.ref o5), (.int (5 : Int32)), (.ref b1001), (.ref b1001)]))
  obtain ⟨cl1209, Ar1209, q1209, S1209, N1209n, H1209, G1209⟩ := id f1177
  have hin1209 : ¬ ((5 : Int32) < 0 ∨ cl1209.slots.size ≤ ((5 : Int32)).toNatClampNeg) := inb_of S1209 ⟨by decide, by decide⟩
  obtain ⟨T1209, h1209, X1209, e1209, W1209, st1209⟩ := stR X1208 hx hZ e1208 Ar1209 (j := (5 : Int32)) hin1209 rfl (Sto.ofV Ar1209 q1209 O1001 (Ins.of_exa f1194 (hw _ (List.mem_of_getElem? (i := 20) rfl)))) (g := (mkF m 40 #[.val (.int p1), .unset, .unset, .unset] [(.ref o5), (.int (5 : Int32)), (.ref b1001), (.ref b1001)])) rfl rfl (hb hby at_40)
  refine OEnds.st st1209 ?_
  have f1210 : Arv Z h1209 b1001 k1001 (.object "com/example/nearfar/nearfar/StoredType") (10 : Int32) [(.ref o0), (.ref o1), (.ref o2), (.ref o3), (.ref o4), (.ref o5), .null, .null, .null, .null] .null := Arv.set Ar1209 q1209 S1209 N1209n H1209 G1209 rfl W1209 5 rfl (Nat.le_of_ble_eq_true rfl)
  have f1211 : Sta Z h1209 "com/example/nearfar/nearfar/StoredType" "STRING" "Lcom/example/nearfar/nearfar/StoredType;" (.ref o0) := f1178.wr W1209
  have f1212 : Exa Z h1209 o0 "com/example/nearfar/nearfar/StoredType$1" := f1179.wr W1209
  have f1213 : Fld Z h1209 o0 "com/example/nearfar/nearfar/StoredType" "wireType" "I" (.int (2 : Int32)) := f1180.other W1209 (Or.inl ne1002)
  have f1214 : Sta Z h1209 "com/example/nearfar/nearfar/StoredType" "BYTES" "Lcom/example/nearfar/nearfar/StoredType;" (.ref o1) := f1181.wr W1209
  have f1215 : Exa Z h1209 o1 "com/example/nearfar/nearfar/StoredType$2" := f1182.wr W1209
  have f1216 : Fld Z h1209 o1 "com/example/nearfar/nearfar/StoredType" "wireType" "I" (.int (2 : Int32)) := f1183.other W1209 (Or.inl ne1003)
  have f1217 : Sta Z h1209 "com/example/nearfar/nearfar/StoredType" "SINT32" "Lcom/example/nearfar/nearfar/StoredType;" (.ref o2) := f1184.wr W1209
  have f1218 : Exa Z h1209 o2 "com/example/nearfar/nearfar/StoredType$3" := f1185.wr W1209
  have f1219 : Fld Z h1209 o2 "com/example/nearfar/nearfar/StoredType" "wireType" "I" (.int (0 : Int32)) := f1186.other W1209 (Or.inl ne1004)
  have f1220 : Sta Z h1209 "com/example/nearfar/nearfar/StoredType" "SINT64" "Lcom/example/nearfar/nearfar/StoredType;" (.ref o3) := f1187.wr W1209
  have f1221 : Exa Z h1209 o3 "com/example/nearfar/nearfar/StoredType$4" := f1188.wr W1209
  have f1222 : Fld Z h1209 o3 "com/example/nearfar/nearfar/StoredType" "wireType" "I" (.int (0 : Int32)) := f1189.other W1209 (Or.inl ne1005)
  have f1223 : Sta Z h1209 "com/example/nearfar/nearfar/StoredType" "DOUBLE" "Lcom/example/nearfar/nearfar/StoredType;" (.ref o4) := f1190.wr W1209
  have f1224 : Exa Z h1209 o4 "com/example/nearfar/nearfar/StoredType$5" := f1191.wr W1209
  have f1225 : Fld Z h1209 o4 "com/example/nearfar/nearfar/StoredType" "wireType" "I" (.int (1 : Int32)) := f1192.other W1209 (Or.inl ne1006)
  have f1226 : Sta Z h1209 "com/example/nearfar/nearfar/StoredType" "FLOAT" "Lcom/example/nearfar/nearfar/StoredType;" (.ref o5) := f1193.wr W1209
  have f1227 : Exa Z h1209 o5 "com/example/nearfar/nearfar/StoredType$6" := f1194.wr W1209
  have f1228 : Fld Z h1209 o5 "com/example/nearfar/nearfar/StoredType" "wireType" "I" (.int (5 : Int32)) := f1195.other W1209 (Or.inl ne1007)
  have f1229 : Sta Z h1209 "com/example/nearfar/nearfar/StoredType" "BOOL" "Lcom/example/nearfar/nearfar/StoredType;" (.ref o6) := f1196.wr W1209
  have f1230 : Exa Z h1209 o6 "com/example/nearfar/nearfar/StoredType$7" := f1197.wr W1209
  have f1231 : Fld Z h1209 o6 "com/example/nearfar/nearfar/StoredType" "wireType" "I" (.int (0 : Int32)) := f1198.other W1209 (Or.inl ne1008)
  have f1232 : Sta Z h1209 "com/example/nearfar/nearfar/StoredType" "ENUM" "Lcom/example/nearfar/nearfar/StoredType;" (.ref o7) := f1199.wr W1209
  have f1233 : Exa Z h1209 o7 "com/example/nearfar/nearfar/StoredType$8" := f1200.wr W1209
  have f1234 : Fld Z h1209 o7 "com/example/nearfar/nearfar/StoredType" "wireType" "I" (.int (0 : Int32)) := f1201.other W1209 (Or.inl ne1009)
  have f1235 : Sta Z h1209 "com/example/nearfar/nearfar/StoredType" "TIMESTAMP" "Lcom/example/nearfar/nearfar/StoredType;" (.ref o8) := f1202.wr W1209
  have f1236 : Exa Z h1209 o8 "com/example/nearfar/nearfar/StoredType$9" := f1203.wr W1209
  have f1237 : Fld Z h1209 o8 "com/example/nearfar/nearfar/StoredType" "wireType" "I" (.int (2 : Int32)) := f1204.other W1209 (Or.inl ne1010)
  have f1238 : Sta Z h1209 "com/example/nearfar/nearfar/StoredType" "DURATION" "Lcom/example/nearfar/nearfar/StoredType;" (.ref o9) := f1205.wr W1209
  have f1239 : Exa Z h1209 o9 "com/example/nearfar/nearfar/StoredType$10" := f1206.wr W1209
  have f1240 : Fld Z h1209 o9 "com/example/nearfar/nearfar/StoredType" "wireType" "I" (.int (2 : Int32)) := f1207.other W1209 (Or.inl ne1011)
  have N1209 := Fr.snoc X1209 N1176 ge_b1001
  have KK1209 : Keep h0 h1209 [] := KK1176.wr W1209 (Or.inr sz_b1001)
  have Z1209 := Nat.le_trans Z1176 (Keep.of_wr W1209).1
  show OEnds p.tables e below G (T1209.setTop (mkF m 41 #[.val (.int p1), .unset, .unset, .unset] [(.ref b1001)]))
  refine OEnds.st (fun _ k => XS.dup X1209.here hx rfl (hb hby at_41) rfl rfl k) ?_
  show OEnds p.tables e below G (T1209.setTop (mkF m 42 #[.val (.int p1), .unset, .unset, .unset] [(.ref b1001), (.ref b1001)]))
  refine OEnds.st (fun _ k => XS.bipush X1209.here hx rfl (hb hby at_42) k) ?_
  show OEnds p.tables e below G (T1209.setTop (mkF m 44 #[.val (.int p1), .unset, .unset, .unset] [(.int (6 : Int32)), (.ref b1001), (.ref b1001)]))
  obtain ⟨T1241, X1241, e1241, st1241⟩ := getS2 X1209 hx hZ hown (host := "") (Or.inl (hw _ (List.mem_of_getElem? (i := 21) rfl))) Via.refl e1209 f1229 (g := (mkF m 44 #[.val (.int p1), .unset, .unset, .unset] [(.int (6 : Int32)), (.ref b1001), (.ref b1001)])) rfl (hb hby at_44)
  refine OEnds.st st1241 ?_
  show OEnds p.tables e below G (T1241.setTop (mkF m 47 #[.val (.int p1), .unset, .unset, .unset] [(.ref o6), (.int (6 : Int32)), (.ref b1001), (.ref b1001)]))
  obtain ⟨cl1242, Ar1242, q1242, S1242, N1242n, H1242, G1242⟩ := id f1210
  have hin1242 : ¬ ((6 : Int32) < 0 ∨ cl1242.slots.size ≤ ((6 : Int32)).toNatClampNeg) := inb_of S1242 ⟨by decide, by decide⟩
  obtain ⟨T1242, h1242, X1242, e1242, W1242, st1242⟩ := stR X1241 hx hZ e1241 Ar1242 (j := (6 : Int32)) hin1242 rfl (Sto.ofV Ar1242 q1242 O1001 (Ins.of_exa f1230 (hw _ (List.mem_of_getElem? (i := 23) rfl)))) (g := (mkF m 47 #[.val (.int p1), .unset, .unset, .unset] [(.ref o6), (.int (6 : Int32)), (.ref b1001), (.ref b1001)])) rfl rfl (hb hby at_47)
  refine OEnds.st st1242 ?_
  have f1243 : Arv Z h1242 b1001 k1001 (.object "com/example/nearfar/nearfar/StoredType") (10 : Int32) [(.ref o0), (.ref o1), (.ref o2), (.ref o3), (.ref o4), (.ref o5), (.ref o6), .null, .null, .null] .null := Arv.set Ar1242 q1242 S1242 N1242n H1242 G1242 rfl W1242 6 rfl (Nat.le_of_ble_eq_true rfl)
  have f1244 : Sta Z h1242 "com/example/nearfar/nearfar/StoredType" "STRING" "Lcom/example/nearfar/nearfar/StoredType;" (.ref o0) := f1211.wr W1242
  have f1245 : Exa Z h1242 o0 "com/example/nearfar/nearfar/StoredType$1" := f1212.wr W1242
  have f1246 : Fld Z h1242 o0 "com/example/nearfar/nearfar/StoredType" "wireType" "I" (.int (2 : Int32)) := f1213.other W1242 (Or.inl ne1002)
  have f1247 : Sta Z h1242 "com/example/nearfar/nearfar/StoredType" "BYTES" "Lcom/example/nearfar/nearfar/StoredType;" (.ref o1) := f1214.wr W1242
  have f1248 : Exa Z h1242 o1 "com/example/nearfar/nearfar/StoredType$2" := f1215.wr W1242
  have f1249 : Fld Z h1242 o1 "com/example/nearfar/nearfar/StoredType" "wireType" "I" (.int (2 : Int32)) := f1216.other W1242 (Or.inl ne1003)
  have f1250 : Sta Z h1242 "com/example/nearfar/nearfar/StoredType" "SINT32" "Lcom/example/nearfar/nearfar/StoredType;" (.ref o2) := f1217.wr W1242
  have f1251 : Exa Z h1242 o2 "com/example/nearfar/nearfar/StoredType$3" := f1218.wr W1242
  have f1252 : Fld Z h1242 o2 "com/example/nearfar/nearfar/StoredType" "wireType" "I" (.int (0 : Int32)) := f1219.other W1242 (Or.inl ne1004)
  have f1253 : Sta Z h1242 "com/example/nearfar/nearfar/StoredType" "SINT64" "Lcom/example/nearfar/nearfar/StoredType;" (.ref o3) := f1220.wr W1242
  have f1254 : Exa Z h1242 o3 "com/example/nearfar/nearfar/StoredType$4" := f1221.wr W1242
  have f1255 : Fld Z h1242 o3 "com/example/nearfar/nearfar/StoredType" "wireType" "I" (.int (0 : Int32)) := f1222.other W1242 (Or.inl ne1005)
  have f1256 : Sta Z h1242 "com/example/nearfar/nearfar/StoredType" "DOUBLE" "Lcom/example/nearfar/nearfar/StoredType;" (.ref o4) := f1223.wr W1242
  have f1257 : Exa Z h1242 o4 "com/example/nearfar/nearfar/StoredType$5" := f1224.wr W1242
  have f1258 : Fld Z h1242 o4 "com/example/nearfar/nearfar/StoredType" "wireType" "I" (.int (1 : Int32)) := f1225.other W1242 (Or.inl ne1006)
  have f1259 : Sta Z h1242 "com/example/nearfar/nearfar/StoredType" "FLOAT" "Lcom/example/nearfar/nearfar/StoredType;" (.ref o5) := f1226.wr W1242
  have f1260 : Exa Z h1242 o5 "com/example/nearfar/nearfar/StoredType$6" := f1227.wr W1242
  have f1261 : Fld Z h1242 o5 "com/example/nearfar/nearfar/StoredType" "wireType" "I" (.int (5 : Int32)) := f1228.other W1242 (Or.inl ne1007)
  have f1262 : Sta Z h1242 "com/example/nearfar/nearfar/StoredType" "BOOL" "Lcom/example/nearfar/nearfar/StoredType;" (.ref o6) := f1229.wr W1242
  have f1263 : Exa Z h1242 o6 "com/example/nearfar/nearfar/StoredType$7" := f1230.wr W1242
  have f1264 : Fld Z h1242 o6 "com/example/nearfar/nearfar/StoredType" "wireType" "I" (.int (0 : Int32)) := f1231.other W1242 (Or.inl ne1008)
  have f1265 : Sta Z h1242 "com/example/nearfar/nearfar/StoredType" "ENUM" "Lcom/example/nearfar/nearfar/StoredType;" (.ref o7) := f1232.wr W1242
  have f1266 : Exa Z h1242 o7 "com/example/nearfar/nearfar/StoredType$8" := f1233.wr W1242
  have f1267 : Fld Z h1242 o7 "com/example/nearfar/nearfar/StoredType" "wireType" "I" (.int (0 : Int32)) := f1234.other W1242 (Or.inl ne1009)
  have f1268 : Sta Z h1242 "com/example/nearfar/nearfar/StoredType" "TIMESTAMP" "Lcom/example/nearfar/nearfar/StoredType;" (.ref o8) := f1235.wr W1242
  have f1269 : Exa Z h1242 o8 "com/example/nearfar/nearfar/StoredType$9" := f1236.wr W1242
  have f1270 : Fld Z h1242 o8 "com/example/nearfar/nearfar/StoredType" "wireType" "I" (.int (2 : Int32)) := f1237.other W1242 (Or.inl ne1010)
  have f1271 : Sta Z h1242 "com/example/nearfar/nearfar/StoredType" "DURATION" "Lcom/example/nearfar/nearfar/StoredType;" (.ref o9) := f1238.wr W1242
  have f1272 : Exa Z h1242 o9 "com/example/nearfar/nearfar/StoredType$10" := f1239.wr W1242
  have f1273 : Fld Z h1242 o9 "com/example/nearfar/nearfar/StoredType" "wireType" "I" (.int (2 : Int32)) := f1240.other W1242 (Or.inl ne1011)
  have N1242 := Fr.snoc X1242 N1209 ge_b1001
  have KK1242 : Keep h0 h1242 [] := KK1209.wr W1242 (Or.inr sz_b1001)
  have Z1242 := Nat.le_trans Z1209 (Keep.of_wr W1242).1
  show OEnds p.tables e below G (T1242.setTop (mkF m 48 #[.val (.int p1), .unset, .unset, .unset] [(.ref b1001)]))
  refine OEnds.st (fun _ k => XS.dup X1242.here hx rfl (hb hby at_48) rfl rfl k) ?_
  show OEnds p.tables e below G (T1242.setTop (mkF m 49 #[.val (.int p1), .unset, .unset, .unset] [(.ref b1001), (.ref b1001)]))
  refine OEnds.st (fun _ k => XS.bipush X1242.here hx rfl (hb hby at_49) k) ?_
  show OEnds p.tables e below G (T1242.setTop (mkF m 51 #[.val (.int p1), .unset, .unset, .unset] [(.int (7 : Int32)), (.ref b1001), (.ref b1001)]))
  obtain ⟨T1274, X1274, e1274, st1274⟩ := getS2 X1242 hx hZ hown (host := "") (Or.inl (hw _ (List.mem_of_getElem? (i := 24) rfl))) Via.refl e1242 f1265 (g := (mkF m 51 #[.val (.int p1), .unset, .unset, .unset] [(.int (7 : Int32)), (.ref b1001), (.ref b1001)])) rfl (hb hby at_51)
  refine OEnds.st st1274 ?_
  show OEnds p.tables e below G (T1274.setTop (mkF m 54 #[.val (.int p1), .unset, .unset, .unset] [(.ref o7), (.int (7 : Int32)), (.ref b1001), (.ref b1001)]))
  obtain ⟨cl1275, Ar1275, q1275, S1275, N1275n, H1275, G1275⟩ := id f1243
  have hin1275 : ¬ ((7 : Int32) < 0 ∨ cl1275.slots.size ≤ ((7 : Int32)).toNatClampNeg) := inb_of S1275 ⟨by decide, by decide⟩
  obtain ⟨T1275, h1275, X1275, e1275, W1275, st1275⟩ := stR X1274 hx hZ e1274 Ar1275 (j := (7 : Int32)) hin1275 rfl (Sto.ofV Ar1275 q1275 O1001 (Ins.of_exa f1266 (hw _ (List.mem_of_getElem? (i := 26) rfl)))) (g := (mkF m 54 #[.val (.int p1), .unset, .unset, .unset] [(.ref o7), (.int (7 : Int32)), (.ref b1001), (.ref b1001)])) rfl rfl (hb hby at_54)
  refine OEnds.st st1275 ?_
  have f1276 : Arv Z h1275 b1001 k1001 (.object "com/example/nearfar/nearfar/StoredType") (10 : Int32) [(.ref o0), (.ref o1), (.ref o2), (.ref o3), (.ref o4), (.ref o5), (.ref o6), (.ref o7), .null, .null] .null := Arv.set Ar1275 q1275 S1275 N1275n H1275 G1275 rfl W1275 7 rfl (Nat.le_of_ble_eq_true rfl)
  have f1277 : Sta Z h1275 "com/example/nearfar/nearfar/StoredType" "STRING" "Lcom/example/nearfar/nearfar/StoredType;" (.ref o0) := f1244.wr W1275
  have f1278 : Exa Z h1275 o0 "com/example/nearfar/nearfar/StoredType$1" := f1245.wr W1275
  have f1279 : Fld Z h1275 o0 "com/example/nearfar/nearfar/StoredType" "wireType" "I" (.int (2 : Int32)) := f1246.other W1275 (Or.inl ne1002)
  have f1280 : Sta Z h1275 "com/example/nearfar/nearfar/StoredType" "BYTES" "Lcom/example/nearfar/nearfar/StoredType;" (.ref o1) := f1247.wr W1275
  have f1281 : Exa Z h1275 o1 "com/example/nearfar/nearfar/StoredType$2" := f1248.wr W1275
  have f1282 : Fld Z h1275 o1 "com/example/nearfar/nearfar/StoredType" "wireType" "I" (.int (2 : Int32)) := f1249.other W1275 (Or.inl ne1003)
  have f1283 : Sta Z h1275 "com/example/nearfar/nearfar/StoredType" "SINT32" "Lcom/example/nearfar/nearfar/StoredType;" (.ref o2) := f1250.wr W1275
  have f1284 : Exa Z h1275 o2 "com/example/nearfar/nearfar/StoredType$3" := f1251.wr W1275
  have f1285 : Fld Z h1275 o2 "com/example/nearfar/nearfar/StoredType" "wireType" "I" (.int (0 : Int32)) := f1252.other W1275 (Or.inl ne1004)
  have f1286 : Sta Z h1275 "com/example/nearfar/nearfar/StoredType" "SINT64" "Lcom/example/nearfar/nearfar/StoredType;" (.ref o3) := f1253.wr W1275
  have f1287 : Exa Z h1275 o3 "com/example/nearfar/nearfar/StoredType$4" := f1254.wr W1275
  have f1288 : Fld Z h1275 o3 "com/example/nearfar/nearfar/StoredType" "wireType" "I" (.int (0 : Int32)) := f1255.other W1275 (Or.inl ne1005)
  have f1289 : Sta Z h1275 "com/example/nearfar/nearfar/StoredType" "DOUBLE" "Lcom/example/nearfar/nearfar/StoredType;" (.ref o4) := f1256.wr W1275
  have f1290 : Exa Z h1275 o4 "com/example/nearfar/nearfar/StoredType$5" := f1257.wr W1275
  have f1291 : Fld Z h1275 o4 "com/example/nearfar/nearfar/StoredType" "wireType" "I" (.int (1 : Int32)) := f1258.other W1275 (Or.inl ne1006)
  have f1292 : Sta Z h1275 "com/example/nearfar/nearfar/StoredType" "FLOAT" "Lcom/example/nearfar/nearfar/StoredType;" (.ref o5) := f1259.wr W1275
  have f1293 : Exa Z h1275 o5 "com/example/nearfar/nearfar/StoredType$6" := f1260.wr W1275
  have f1294 : Fld Z h1275 o5 "com/example/nearfar/nearfar/StoredType" "wireType" "I" (.int (5 : Int32)) := f1261.other W1275 (Or.inl ne1007)
  have f1295 : Sta Z h1275 "com/example/nearfar/nearfar/StoredType" "BOOL" "Lcom/example/nearfar/nearfar/StoredType;" (.ref o6) := f1262.wr W1275
  have f1296 : Exa Z h1275 o6 "com/example/nearfar/nearfar/StoredType$7" := f1263.wr W1275
  have f1297 : Fld Z h1275 o6 "com/example/nearfar/nearfar/StoredType" "wireType" "I" (.int (0 : Int32)) := f1264.other W1275 (Or.inl ne1008)
  have f1298 : Sta Z h1275 "com/example/nearfar/nearfar/StoredType" "ENUM" "Lcom/example/nearfar/nearfar/StoredType;" (.ref o7) := f1265.wr W1275
  have f1299 : Exa Z h1275 o7 "com/example/nearfar/nearfar/StoredType$8" := f1266.wr W1275
  have f1300 : Fld Z h1275 o7 "com/example/nearfar/nearfar/StoredType" "wireType" "I" (.int (0 : Int32)) := f1267.other W1275 (Or.inl ne1009)
  have f1301 : Sta Z h1275 "com/example/nearfar/nearfar/StoredType" "TIMESTAMP" "Lcom/example/nearfar/nearfar/StoredType;" (.ref o8) := f1268.wr W1275
  have f1302 : Exa Z h1275 o8 "com/example/nearfar/nearfar/StoredType$9" := f1269.wr W1275
  have f1303 : Fld Z h1275 o8 "com/example/nearfar/nearfar/StoredType" "wireType" "I" (.int (2 : Int32)) := f1270.other W1275 (Or.inl ne1010)
  have f1304 : Sta Z h1275 "com/example/nearfar/nearfar/StoredType" "DURATION" "Lcom/example/nearfar/nearfar/StoredType;" (.ref o9) := f1271.wr W1275
  have f1305 : Exa Z h1275 o9 "com/example/nearfar/nearfar/StoredType$10" := f1272.wr W1275
  have f1306 : Fld Z h1275 o9 "com/example/nearfar/nearfar/StoredType" "wireType" "I" (.int (2 : Int32)) := f1273.other W1275 (Or.inl ne1011)
  have N1275 := Fr.snoc X1275 N1242 ge_b1001
  have KK1275 : Keep h0 h1275 [] := KK1242.wr W1275 (Or.inr sz_b1001)
  have Z1275 := Nat.le_trans Z1242 (Keep.of_wr W1275).1
  show OEnds p.tables e below G (T1275.setTop (mkF m 55 #[.val (.int p1), .unset, .unset, .unset] [(.ref b1001)]))
  refine OEnds.st (fun _ k => XS.dup X1275.here hx rfl (hb hby at_55) rfl rfl k) ?_
  show OEnds p.tables e below G (T1275.setTop (mkF m 56 #[.val (.int p1), .unset, .unset, .unset] [(.ref b1001), (.ref b1001)]))
  refine OEnds.st (fun _ k => XS.bipush X1275.here hx rfl (hb hby at_56) k) ?_
  show OEnds p.tables e below G (T1275.setTop (mkF m 58 #[.val (.int p1), .unset, .unset, .unset] [(.int (8 : Int32)), (.ref b1001), (.ref b1001)]))
  obtain ⟨T1307, X1307, e1307, st1307⟩ := getS2 X1275 hx hZ hown (host := "") (Or.inl (hw _ (List.mem_of_getElem? (i := 27) rfl))) Via.refl e1275 f1301 (g := (mkF m 58 #[.val (.int p1), .unset, .unset, .unset] [(.int (8 : Int32)), (.ref b1001), (.ref b1001)])) rfl (hb hby at_58)
  refine OEnds.st st1307 ?_
  show OEnds p.tables e below G (T1307.setTop (mkF m 61 #[.val (.int p1), .unset, .unset, .unset] [(.ref o8), (.int (8 : Int32)), (.ref b1001), (.ref b1001)]))
  obtain ⟨cl1308, Ar1308, q1308, S1308, N1308n, H1308, G1308⟩ := id f1276
  have hin1308 : ¬ ((8 : Int32) < 0 ∨ cl1308.slots.size ≤ ((8 : Int32)).toNatClampNeg) := inb_of S1308 ⟨by decide, by decide⟩
  obtain ⟨T1308, h1308, X1308, e1308, W1308, st1308⟩ := stR X1307 hx hZ e1307 Ar1308 (j := (8 : Int32)) hin1308 rfl (Sto.ofV Ar1308 q1308 O1001 (Ins.of_exa f1302 (hw _ (List.mem_of_getElem? (i := 29) rfl)))) (g := (mkF m 61 #[.val (.int p1), .unset, .unset, .unset] [(.ref o8), (.int (8 : Int32)), (.ref b1001), (.ref b1001)])) rfl rfl (hb hby at_61)
  refine OEnds.st st1308 ?_
  have f1309 : Arv Z h1308 b1001 k1001 (.object "com/example/nearfar/nearfar/StoredType") (10 : Int32) [(.ref o0), (.ref o1), (.ref o2), (.ref o3), (.ref o4), (.ref o5), (.ref o6), (.ref o7), (.ref o8), .null] .null := Arv.set Ar1308 q1308 S1308 N1308n H1308 G1308 rfl W1308 8 rfl (Nat.le_of_ble_eq_true rfl)
  have f1310 : Sta Z h1308 "com/example/nearfar/nearfar/StoredType" "STRING" "Lcom/example/nearfar/nearfar/StoredType;" (.ref o0) := f1277.wr W1308
  have f1311 : Exa Z h1308 o0 "com/example/nearfar/nearfar/StoredType$1" := f1278.wr W1308
  have f1312 : Fld Z h1308 o0 "com/example/nearfar/nearfar/StoredType" "wireType" "I" (.int (2 : Int32)) := f1279.other W1308 (Or.inl ne1002)
  have f1313 : Sta Z h1308 "com/example/nearfar/nearfar/StoredType" "BYTES" "Lcom/example/nearfar/nearfar/StoredType;" (.ref o1) := f1280.wr W1308
  have f1314 : Exa Z h1308 o1 "com/example/nearfar/nearfar/StoredType$2" := f1281.wr W1308
  have f1315 : Fld Z h1308 o1 "com/example/nearfar/nearfar/StoredType" "wireType" "I" (.int (2 : Int32)) := f1282.other W1308 (Or.inl ne1003)
  have f1316 : Sta Z h1308 "com/example/nearfar/nearfar/StoredType" "SINT32" "Lcom/example/nearfar/nearfar/StoredType;" (.ref o2) := f1283.wr W1308
  have f1317 : Exa Z h1308 o2 "com/example/nearfar/nearfar/StoredType$3" := f1284.wr W1308
  have f1318 : Fld Z h1308 o2 "com/example/nearfar/nearfar/StoredType" "wireType" "I" (.int (0 : Int32)) := f1285.other W1308 (Or.inl ne1004)
  have f1319 : Sta Z h1308 "com/example/nearfar/nearfar/StoredType" "SINT64" "Lcom/example/nearfar/nearfar/StoredType;" (.ref o3) := f1286.wr W1308
  have f1320 : Exa Z h1308 o3 "com/example/nearfar/nearfar/StoredType$4" := f1287.wr W1308
  have f1321 : Fld Z h1308 o3 "com/example/nearfar/nearfar/StoredType" "wireType" "I" (.int (0 : Int32)) := f1288.other W1308 (Or.inl ne1005)
  have f1322 : Sta Z h1308 "com/example/nearfar/nearfar/StoredType" "DOUBLE" "Lcom/example/nearfar/nearfar/StoredType;" (.ref o4) := f1289.wr W1308
  have f1323 : Exa Z h1308 o4 "com/example/nearfar/nearfar/StoredType$5" := f1290.wr W1308
  have f1324 : Fld Z h1308 o4 "com/example/nearfar/nearfar/StoredType" "wireType" "I" (.int (1 : Int32)) := f1291.other W1308 (Or.inl ne1006)
  have f1325 : Sta Z h1308 "com/example/nearfar/nearfar/StoredType" "FLOAT" "Lcom/example/nearfar/nearfar/StoredType;" (.ref o5) := f1292.wr W1308
  have f1326 : Exa Z h1308 o5 "com/example/nearfar/nearfar/StoredType$6" := f1293.wr W1308
  have f1327 : Fld Z h1308 o5 "com/example/nearfar/nearfar/StoredType" "wireType" "I" (.int (5 : Int32)) := f1294.other W1308 (Or.inl ne1007)
  have f1328 : Sta Z h1308 "com/example/nearfar/nearfar/StoredType" "BOOL" "Lcom/example/nearfar/nearfar/StoredType;" (.ref o6) := f1295.wr W1308
  have f1329 : Exa Z h1308 o6 "com/example/nearfar/nearfar/StoredType$7" := f1296.wr W1308
  have f1330 : Fld Z h1308 o6 "com/example/nearfar/nearfar/StoredType" "wireType" "I" (.int (0 : Int32)) := f1297.other W1308 (Or.inl ne1008)
  have f1331 : Sta Z h1308 "com/example/nearfar/nearfar/StoredType" "ENUM" "Lcom/example/nearfar/nearfar/StoredType;" (.ref o7) := f1298.wr W1308
  have f1332 : Exa Z h1308 o7 "com/example/nearfar/nearfar/StoredType$8" := f1299.wr W1308
  have f1333 : Fld Z h1308 o7 "com/example/nearfar/nearfar/StoredType" "wireType" "I" (.int (0 : Int32)) := f1300.other W1308 (Or.inl ne1009)
  have f1334 : Sta Z h1308 "com/example/nearfar/nearfar/StoredType" "TIMESTAMP" "Lcom/example/nearfar/nearfar/StoredType;" (.ref o8) := f1301.wr W1308
  have f1335 : Exa Z h1308 o8 "com/example/nearfar/nearfar/StoredType$9" := f1302.wr W1308
  have f1336 : Fld Z h1308 o8 "com/example/nearfar/nearfar/StoredType" "wireType" "I" (.int (2 : Int32)) := f1303.other W1308 (Or.inl ne1010)
  have f1337 : Sta Z h1308 "com/example/nearfar/nearfar/StoredType" "DURATION" "Lcom/example/nearfar/nearfar/StoredType;" (.ref o9) := f1304.wr W1308
  have f1338 : Exa Z h1308 o9 "com/example/nearfar/nearfar/StoredType$10" := f1305.wr W1308
  have f1339 : Fld Z h1308 o9 "com/example/nearfar/nearfar/StoredType" "wireType" "I" (.int (2 : Int32)) := f1306.other W1308 (Or.inl ne1011)
  have N1308 := Fr.snoc X1308 N1275 ge_b1001
  have KK1308 : Keep h0 h1308 [] := KK1275.wr W1308 (Or.inr sz_b1001)
  have Z1308 := Nat.le_trans Z1275 (Keep.of_wr W1308).1
  show OEnds p.tables e below G (T1308.setTop (mkF m 62 #[.val (.int p1), .unset, .unset, .unset] [(.ref b1001)]))
  refine OEnds.st (fun _ k => XS.dup X1308.here hx rfl (hb hby at_62) rfl rfl k) ?_
  show OEnds p.tables e below G (T1308.setTop (mkF m 63 #[.val (.int p1), .unset, .unset, .unset] [(.ref b1001), (.ref b1001)]))
  refine OEnds.st (fun _ k => XS.bipush X1308.here hx rfl (hb hby at_63) k) ?_
  show OEnds p.tables e below G (T1308.setTop (mkF m 65 #[.val (.int p1), .unset, .unset, .unset] [(.int (9 : Int32)), (.ref b1001), (.ref b1001)]))
  obtain ⟨T1340, X1340, e1340, st1340⟩ := getS2 X1308 hx hZ hown (host := "") (Or.inl (hw _ (List.mem_of_getElem? (i := 30) rfl))) Via.refl e1308 f1337 (g := (mkF m 65 #[.val (.int p1), .unset, .unset, .unset] [(.int (9 : Int32)), (.ref b1001), (.ref b1001)])) rfl (hb hby at_65)
  refine OEnds.st st1340 ?_
  show OEnds p.tables e below G (T1340.setTop (mkF m 68 #[.val (.int p1), .unset, .unset, .unset] [(.ref o9), (.int (9 : Int32)), (.ref b1001), (.ref b1001)]))
  obtain ⟨cl1341, Ar1341, q1341, S1341, N1341n, H1341, G1341⟩ := id f1309
  have hin1341 : ¬ ((9 : Int32) < 0 ∨ cl1341.slots.size ≤ ((9 : Int32)).toNatClampNeg) := inb_of S1341 ⟨by decide, by decide⟩
  obtain ⟨T1341, h1341, X1341, e1341, W1341, st1341⟩ := stR X1340 hx hZ e1340 Ar1341 (j := (9 : Int32)) hin1341 rfl (Sto.ofV Ar1341 q1341 O1001 (Ins.of_exa f1338 (hw _ (List.mem_of_getElem? (i := 32) rfl)))) (g := (mkF m 68 #[.val (.int p1), .unset, .unset, .unset] [(.ref o9), (.int (9 : Int32)), (.ref b1001), (.ref b1001)])) rfl rfl (hb hby at_68)
  refine OEnds.st st1341 ?_
  have f1342 : Arv Z h1341 b1001 k1001 (.object "com/example/nearfar/nearfar/StoredType") (10 : Int32) [(.ref o0), (.ref o1), (.ref o2), (.ref o3), (.ref o4), (.ref o5), (.ref o6), (.ref o7), (.ref o8), (.ref o9)] .null := Arv.set Ar1341 q1341 S1341 N1341n H1341 G1341 rfl W1341 9 rfl (Nat.le_of_ble_eq_true rfl)
  have f1343 : Sta Z h1341 "com/example/nearfar/nearfar/StoredType" "STRING" "Lcom/example/nearfar/nearfar/StoredType;" (.ref o0) := f1310.wr W1341
  have f1344 : Exa Z h1341 o0 "com/example/nearfar/nearfar/StoredType$1" := f1311.wr W1341
  have f1345 : Fld Z h1341 o0 "com/example/nearfar/nearfar/StoredType" "wireType" "I" (.int (2 : Int32)) := f1312.other W1341 (Or.inl ne1002)
  have f1346 : Sta Z h1341 "com/example/nearfar/nearfar/StoredType" "BYTES" "Lcom/example/nearfar/nearfar/StoredType;" (.ref o1) := f1313.wr W1341
  have f1347 : Exa Z h1341 o1 "com/example/nearfar/nearfar/StoredType$2" := f1314.wr W1341
  have f1348 : Fld Z h1341 o1 "com/example/nearfar/nearfar/StoredType" "wireType" "I" (.int (2 : Int32)) := f1315.other W1341 (Or.inl ne1003)
  have f1349 : Sta Z h1341 "com/example/nearfar/nearfar/StoredType" "SINT32" "Lcom/example/nearfar/nearfar/StoredType;" (.ref o2) := f1316.wr W1341
  have f1350 : Exa Z h1341 o2 "com/example/nearfar/nearfar/StoredType$3" := f1317.wr W1341
  have f1351 : Fld Z h1341 o2 "com/example/nearfar/nearfar/StoredType" "wireType" "I" (.int (0 : Int32)) := f1318.other W1341 (Or.inl ne1004)
  have f1352 : Sta Z h1341 "com/example/nearfar/nearfar/StoredType" "SINT64" "Lcom/example/nearfar/nearfar/StoredType;" (.ref o3) := f1319.wr W1341
  have f1353 : Exa Z h1341 o3 "com/example/nearfar/nearfar/StoredType$4" := f1320.wr W1341
  have f1354 : Fld Z h1341 o3 "com/example/nearfar/nearfar/StoredType" "wireType" "I" (.int (0 : Int32)) := f1321.other W1341 (Or.inl ne1005)
  have f1355 : Sta Z h1341 "com/example/nearfar/nearfar/StoredType" "DOUBLE" "Lcom/example/nearfar/nearfar/StoredType;" (.ref o4) := f1322.wr W1341
  have f1356 : Exa Z h1341 o4 "com/example/nearfar/nearfar/StoredType$5" := f1323.wr W1341
  have f1357 : Fld Z h1341 o4 "com/example/nearfar/nearfar/StoredType" "wireType" "I" (.int (1 : Int32)) := f1324.other W1341 (Or.inl ne1006)
  have f1358 : Sta Z h1341 "com/example/nearfar/nearfar/StoredType" "FLOAT" "Lcom/example/nearfar/nearfar/StoredType;" (.ref o5) := f1325.wr W1341
  have f1359 : Exa Z h1341 o5 "com/example/nearfar/nearfar/StoredType$6" := f1326.wr W1341
  have f1360 : Fld Z h1341 o5 "com/example/nearfar/nearfar/StoredType" "wireType" "I" (.int (5 : Int32)) := f1327.other W1341 (Or.inl ne1007)
  have f1361 : Sta Z h1341 "com/example/nearfar/nearfar/StoredType" "BOOL" "Lcom/example/nearfar/nearfar/StoredType;" (.ref o6) := f1328.wr W1341
  have f1362 : Exa Z h1341 o6 "com/example/nearfar/nearfar/StoredType$7" := f1329.wr W1341
  have f1363 : Fld Z h1341 o6 "com/example/nearfar/nearfar/StoredType" "wireType" "I" (.int (0 : Int32)) := f1330.other W1341 (Or.inl ne1008)
  have f1364 : Sta Z h1341 "com/example/nearfar/nearfar/StoredType" "ENUM" "Lcom/example/nearfar/nearfar/StoredType;" (.ref o7) := f1331.wr W1341
  have f1365 : Exa Z h1341 o7 "com/example/nearfar/nearfar/StoredType$8" := f1332.wr W1341
  have f1366 : Fld Z h1341 o7 "com/example/nearfar/nearfar/StoredType" "wireType" "I" (.int (0 : Int32)) := f1333.other W1341 (Or.inl ne1009)
  have f1367 : Sta Z h1341 "com/example/nearfar/nearfar/StoredType" "TIMESTAMP" "Lcom/example/nearfar/nearfar/StoredType;" (.ref o8) := f1334.wr W1341
  have f1368 : Exa Z h1341 o8 "com/example/nearfar/nearfar/StoredType$9" := f1335.wr W1341
  have f1369 : Fld Z h1341 o8 "com/example/nearfar/nearfar/StoredType" "wireType" "I" (.int (2 : Int32)) := f1336.other W1341 (Or.inl ne1010)
  have f1370 : Sta Z h1341 "com/example/nearfar/nearfar/StoredType" "DURATION" "Lcom/example/nearfar/nearfar/StoredType;" (.ref o9) := f1337.wr W1341
  have f1371 : Exa Z h1341 o9 "com/example/nearfar/nearfar/StoredType$10" := f1338.wr W1341
  have f1372 : Fld Z h1341 o9 "com/example/nearfar/nearfar/StoredType" "wireType" "I" (.int (2 : Int32)) := f1339.other W1341 (Or.inl ne1011)
  have N1341 := Fr.snoc X1341 N1308 ge_b1001
  have KK1341 : Keep h0 h1341 [] := KK1308.wr W1341 (Or.inr sz_b1001)
  have Z1341 := Nat.le_trans Z1308 (Keep.of_wr W1341).1
  show OEnds p.tables e below G (T1341.setTop (mkF m 69 #[.val (.int p1), .unset, .unset, .unset] [(.ref b1001)]))
  refine OEnds.st (fun _ k => XS.astoreN X1341.here hx rfl (hb hby at_69) rfl rfl (l' := #[.val (.int p1), .val (.ref b1001), .unset, .unset]) rfl k) ?_
  show OEnds p.tables e below G (T1341.setTop (mkF m 70 #[.val (.int p1), .val (.ref b1001), .unset, .unset] []))
  refine OEnds.st (fun _ k => XS.iloadN X1341.here hx rfl (hb hby at_70) rfl k) ?_
  show OEnds p.tables e below G (T1341.setTop (mkF m 71 #[.val (.int p1), .val (.ref b1001), .unset, .unset] [(.int p1)]))
  refine OEnds.st (X1341.ldcInt hx hown (mvT hZ (hw _ (List.mem_of_getElem? (i := 33) rfl))) (g := (mkF m 71 #[.val (.int p1), .val (.ref b1001), .unset, .unset] [(.int p1)])) rfl (hb hby at_71)) ?_
  show OEnds p.tables e below G (T1341.setTop (mkF m 73 #[.val (.int p1), .val (.ref b1001), .unset, .unset] [(.int (2147483647 : Int32)), (.int p1)]))
  refine OEnds.st (fun _ k => XS.iand X1341.here hx rfl (hb hby at_73) rfl k) ?_
  show OEnds p.tables e below G (T1341.setTop (mkF m 74 #[.val (.int p1), .val (.ref b1001), .unset, .unset] [(.int (p1 &&& (2147483647 : Int32)))]))
  refine OEnds.st (fun _ k => XS.bipush X1341.here hx rfl (hb hby at_74) k) ?_
  show OEnds p.tables e below G (T1341.setTop (mkF m 76 #[.val (.int p1), .val (.ref b1001), .unset, .unset] [(.int (10 : Int32)), (.int (p1 &&& (2147483647 : Int32)))]))
  refine OEnds.st (fun _ k => iremM X1341 hx rfl (hb hby at_76) rfl (by decide) k) ?_
  show OEnds p.tables e below G (T1341.setTop (mkF m 77 #[.val (.int p1), .val (.ref b1001), .unset, .unset] [(.int ((p1 &&& (2147483647 : Int32)) % (10 : Int32)))]))
  refine OEnds.st (fun _ k => XS.istoreN X1341.here hx rfl (hb hby at_77) rfl (l' := #[.val (.int p1), .val (.ref b1001), .val (.int ((p1 &&& (2147483647 : Int32)) % (10 : Int32))), .unset]) rfl k) ?_
  show OEnds p.tables e below G (T1341.setTop (mkF m 78 #[.val (.int p1), .val (.ref b1001), .val (.int ((p1 &&& (2147483647 : Int32)) % (10 : Int32))), .unset] []))
  generalize hv_v1373 : ((p1 &&& (2147483647 : Int32)) % (10 : Int32)) = v1373
  have hten : v1373 = (0 : Int32) ∨ v1373 = (1 : Int32) ∨ v1373 = (2 : Int32) ∨ v1373 = (3 : Int32) ∨ v1373 = (4 : Int32) ∨ v1373 = (5 : Int32) ∨ v1373 = (6 : Int32) ∨ v1373 = (7 : Int32) ∨ v1373 = (8 : Int32) ∨ v1373 = (9 : Int32) := by rw [← hv_v1373]; exact own_ten p1
  rcases hten with hi | hi | hi | hi | hi | hi | hi | hi | hi | hi
  · -- 0
    rw [hi]
    show OEnds p.tables e below G (T1341.setTop (mkF m 78 #[.val (.int p1), .val (.ref b1001), .val (.int (0 : Int32)), .unset] []))
    refine OEnds.st (fun _ k => XS.iloadN X1341.here hx rfl (hb hby at_78) rfl k) ?_
    show OEnds p.tables e below G (T1341.setTop (mkF m 79 #[.val (.int p1), .val (.ref b1001), .val (.int (0 : Int32)), .unset] [(.int (0 : Int32))]))
    refine OEnds.st (fun _ k => XS.iconst X1341.here hx rfl (hb hby at_79) k) ?_
    show OEnds p.tables e below G (T1341.setTop (mkF m 80 #[.val (.int p1), .val (.ref b1001), .val (.int (0 : Int32)), .unset] [(.int (2 : Int32)), (.int (0 : Int32))]))
    refine OEnds.st (fun _ k => XS.icmpYes X1341.here hx rfl (pc0 := 80) (pc' := 93) rfl (hb hby at_80) rfl (tlt (by decide : (0 : Int32) < (2 : Int32))).1 (by decide) (by decide) k) ?_
    show OEnds p.tables e below G (T1341.setTop (mkF m 93 #[.val (.int p1), .val (.ref b1001), .val (.int (0 : Int32)), .unset] []))
    refine OEnds.st (fun _ k => XS.iconst X1341.here hx rfl (hb hby at_93) k) ?_
    show OEnds p.tables e below G (T1341.setTop (mkF m 94 #[.val (.int p1), .val (.ref b1001), .val (.int (0 : Int32)), .unset] [(.int (0 : Int32))]))
    refine OEnds.st (fun _ k => XS.istoreN X1341.here hx rfl (hb hby at_94) rfl (l' := #[.val (.int p1), .val (.ref b1001), .val (.int (0 : Int32)), .val (.int (0 : Int32))]) rfl k) ?_
    show OEnds p.tables e below G (T1341.setTop (mkF m 95 #[.val (.int p1), .val (.ref b1001), .val (.int (0 : Int32)), .val (.int (0 : Int32))] []))
    refine OEnds.st (fun _ k => XS.aloadN X1341.here hx rfl (hb hby at_95) rfl rfl k) ?_
    show OEnds p.tables e below G (T1341.setTop (mkF m 96 #[.val (.int p1), .val (.ref b1001), .val (.int (0 : Int32)), .val (.int (0 : Int32))] [(.ref b1001)]))
    refine OEnds.st (fun _ k => XS.iloadN X1341.here hx rfl (hb hby at_96) rfl k) ?_
    show OEnds p.tables e below G (T1341.setTop (mkF m 97 #[.val (.int p1), .val (.ref b1001), .val (.int (0 : Int32)), .val (.int (0 : Int32))] [(.int (0 : Int32)), (.ref b1001)]))
    obtain ⟨cl1374, Ar1374, q1374, S1374, N1374n, H1374, G1374⟩ := id f1342
    have hin1374 : ¬ ((0 : Int32) < 0 ∨ cl1374.slots.size ≤ ((0 : Int32)).toNatClampNeg) := inb_of S1374 ⟨by decide, by decide⟩
    have hat1374 : cl1374.slots[((0 : Int32)).toNatClampNeg]? = some (.ref o0) := H1374.at hin1374 rfl
    refine OEnds.st (X1341.aaload hx (j := (0 : Int32)) (v := (.ref o0)) (by rw [e1341]; exact Ar1374.1) (State.isArrayOf_alike hZ.alike Ar1374.2.1) rfl Ar1374.2.2 hin1374 hat1374 (g := (mkF m 97 #[.val (.int p1), .val (.ref b1001), .val (.int (0 : Int32)), .val (.int (0 : Int32))] [(.int (0 : Int32)), (.ref b1001)])) rfl rfl (hb hby at_97)) ?_
    show OEnds p.tables e below G (T1341.setTop (mkF m 98 #[.val (.int p1), .val (.ref b1001), .val (.int (0 : Int32)), .val (.int (0 : Int32))] [(.ref o0)]))
    obtain ⟨cq1375, kq1375, q1375a, q1375b, q1375c⟩ := isOf hZ e1341 f1344
    obtain ⟨_, _, ⟨T1375, L1375, k1375c, n1375c⟩, -, X1375, ⟨Lc1375, hQ1375, l1375, y1375, z1375⟩, st1375⟩ := X1341.virtualBack hx (y := (⟨"com/example/nearfar/nearfar/StoredType", "packed", "()Z"⟩ : MethodName)) (z := (⟨"com/example/nearfar/nearfar/StoredType", "packed", "()Z"⟩ : MethodName)) hown (mvT hZ (hw _ (List.mem_of_getElem? (i := 34) rfl))) (mvT hZ (hw _ (List.mem_of_getElem? (i := 35) rfl))) (notFace_of_selects (args := #[]) (mvT hZ (hw _ (List.mem_of_getElem? (i := 37) rfl)))) (mvT hZ (hw _ (List.mem_of_getElem? (i := 37) rfl))) (mvT hZ (hw _ (List.mem_of_getElem? (i := 36) rfl))) (by decide) (backOf (W := 0) (rm1 l Z a0 hw [] o0 (2 : Int32) h1341 n0 Z1341 f1345) hZ (hw _ (List.mem_of_getElem? (i := 38) rfl)) (hw _ (List.mem_of_getElem? (i := 3) rfl)) (by decide) (by decide)) q1375a q1375c (g := (mkF m 98 #[.val (.int p1), .val (.ref b1001), .val (.int (0 : Int32)), .val (.int (0 : Int32))] [(.ref o0)])) rfl (by rw [hml]; rfl) (Steps.refl _) (argsL := []) (rest := []) (lenOf pd_0 rfl) rfl (by show 2 * 0 + _ ≤ _; exact Nat.le_of_eq rfl) (hb hby at_98) (fun _ _ => ⟨rfl, e1341, (by decide : 0 + 1 + 0 ≤ _), (by decide : 0 + 10 + 0 ≤ _)⟩)
    dsimp only [Pt.U, Pt.locs, Pt.cells, Pt.slots] at X1375 l1375 y1375 z1375 st1375 hQ1375
    subst l1375 y1375 z1375
    obtain ⟨rfl, N1375q, e1375⟩ := hQ1375
    have N1375 := Fr.app N1341 N1375q
    refine OEnds.st (fun _ k => st1375.trans k) ?_
    show OEnds p.tables e below G (T1375.setTop (mkF m 101 #[.val (.int p1), .val (.ref b1001), .val (.int (0 : Int32)), .val (.int (0 : Int32))] [(.int (own_packed (2 : Int32)))]))
    refine OEnds.st (fun _ k => XS.iloadN X1375.here hx rfl (hb hby at_101) rfl k) ?_
    show OEnds p.tables e below G (T1375.setTop (mkF m 102 #[.val (.int p1), .val (.ref b1001), .val (.int (0 : Int32)), .val (.int (0 : Int32))] [(.int (0 : Int32)), (.int (own_packed (2 : Int32)))]))
    have hc102_1376 : (own_packed (2 : Int32)) = (0 : Int32) := by decide
    refine OEnds.st (fun _ k => XS.icmpNo X1375.here hx rfl (hb hby at_102) rfl (teq hc102_1376).2 k) ?_
    show OEnds p.tables e below G (T1375.setTop (mkF m 105 #[.val (.int p1), .val (.ref b1001), .val (.int (0 : Int32)), .val (.int (0 : Int32))] []))
    refine OEnds.st (fun _ k => XS.iconst X1375.here hx rfl (hb hby at_105) k) ?_
    show OEnds p.tables e below G (T1375.setTop (mkF m 106 #[.val (.int p1), .val (.ref b1001), .val (.int (0 : Int32)), .val (.int (0 : Int32))] [(.int (1 : Int32))]))
    refine OEnds.st (fun _ k => XS.goto X1375.here hx rfl (pc0 := 106) (pc' := 110) rfl (hb hby at_106) (by decide) (by decide) k) ?_
    show OEnds p.tables e below G (T1375.setTop (mkF m 110 #[.val (.int p1), .val (.ref b1001), .val (.int (0 : Int32)), .val (.int (0 : Int32))] [(.int (1 : Int32))]))
    rw [← hG]
    refine OEnds.retZ X1375 hx hlk Bd.returns rfl (hb hby at_110) (by decide) (by decide) ?_
    rw [e1375]
    exact ⟨rfl, N1375⟩
  · -- 1
    rw [hi]
    show OEnds p.tables e below G (T1341.setTop (mkF m 78 #[.val (.int p1), .val (.ref b1001), .val (.int (1 : Int32)), .unset] []))
    refine OEnds.st (fun _ k => XS.iloadN X1341.here hx rfl (hb hby at_78) rfl k) ?_
    show OEnds p.tables e below G (T1341.setTop (mkF m 79 #[.val (.int p1), .val (.ref b1001), .val (.int (1 : Int32)), .unset] [(.int (1 : Int32))]))
    refine OEnds.st (fun _ k => XS.iconst X1341.here hx rfl (hb hby at_79) k) ?_
    show OEnds p.tables e below G (T1341.setTop (mkF m 80 #[.val (.int p1), .val (.ref b1001), .val (.int (1 : Int32)), .unset] [(.int (2 : Int32)), (.int (1 : Int32))]))
    refine OEnds.st (fun _ k => XS.icmpYes X1341.here hx rfl (pc0 := 80) (pc' := 93) rfl (hb hby at_80) rfl (tlt (by decide : (1 : Int32) < (2 : Int32))).1 (by decide) (by decide) k) ?_
    show OEnds p.tables e below G (T1341.setTop (mkF m 93 #[.val (.int p1), .val (.ref b1001), .val (.int (1 : Int32)), .unset] []))
    refine OEnds.st (fun _ k => XS.iconst X1341.here hx rfl (hb hby at_93) k) ?_
    show OEnds p.tables e below G (T1341.setTop (mkF m 94 #[.val (.int p1), .val (.ref b1001), .val (.int (1 : Int32)), .unset] [(.int (0 : Int32))]))
    refine OEnds.st (fun _ k => XS.istoreN X1341.here hx rfl (hb hby at_94) rfl (l' := #[.val (.int p1), .val (.ref b1001), .val (.int (1 : Int32)), .val (.int (0 : Int32))]) rfl k) ?_
    show OEnds p.tables e below G (T1341.setTop (mkF m 95 #[.val (.int p1), .val (.ref b1001), .val (.int (1 : Int32)), .val (.int (0 : Int32))] []))
    refine OEnds.st (fun _ k => XS.aloadN X1341.here hx rfl (hb hby at_95) rfl rfl k) ?_
    show OEnds p.tables e below G (T1341.setTop (mkF m 96 #[.val (.int p1), .val (.ref b1001), .val (.int (1 : Int32)), .val (.int (0 : Int32))] [(.ref b1001)]))
    refine OEnds.st (fun _ k => XS.iloadN X1341.here hx rfl (hb hby at_96) rfl k) ?_
    show OEnds p.tables e below G (T1341.setTop (mkF m 97 #[.val (.int p1), .val (.ref b1001), .val (.int (1 : Int32)), .val (.int (0 : Int32))] [(.int (1 : Int32)), (.ref b1001)]))
    obtain ⟨cl1377, Ar1377, q1377, S1377, N1377n, H1377, G1377⟩ := id f1342
    have hin1377 : ¬ ((1 : Int32) < 0 ∨ cl1377.slots.size ≤ ((1 : Int32)).toNatClampNeg) := inb_of S1377 ⟨by decide, by decide⟩
    have hat1377 : cl1377.slots[((1 : Int32)).toNatClampNeg]? = some (.ref o1) := H1377.at hin1377 rfl
    refine OEnds.st (X1341.aaload hx (j := (1 : Int32)) (v := (.ref o1)) (by rw [e1341]; exact Ar1377.1) (State.isArrayOf_alike hZ.alike Ar1377.2.1) rfl Ar1377.2.2 hin1377 hat1377 (g := (mkF m 97 #[.val (.int p1), .val (.ref b1001), .val (.int (1 : Int32)), .val (.int (0 : Int32))] [(.int (1 : Int32)), (.ref b1001)])) rfl rfl (hb hby at_97)) ?_
    show OEnds p.tables e below G (T1341.setTop (mkF m 98 #[.val (.int p1), .val (.ref b1001), .val (.int (1 : Int32)), .val (.int (0 : Int32))] [(.ref o1)]))
    obtain ⟨cq1378, kq1378, q1378a, q1378b, q1378c⟩ := isOf hZ e1341 f1347
    obtain ⟨_, _, ⟨T1378, L1378, k1378c, n1378c⟩, -, X1378, ⟨Lc1378, hQ1378, l1378, y1378, z1378⟩, st1378⟩ := X1341.virtualBack hx (y := (⟨"com/example/nearfar/nearfar/StoredType", "packed", "()Z"⟩ : MethodName)) (z := (⟨"com/example/nearfar/nearfar/StoredType", "packed", "()Z"⟩ : MethodName)) hown (mvT hZ (hw _ (List.mem_of_getElem? (i := 34) rfl))) (mvT hZ (hw _ (List.mem_of_getElem? (i := 35) rfl))) (notFace_of_selects (args := #[]) (mvT hZ (hw _ (List.mem_of_getElem? (i := 43) rfl)))) (mvT hZ (hw _ (List.mem_of_getElem? (i := 43) rfl))) (mvT hZ (hw _ (List.mem_of_getElem? (i := 36) rfl))) (by decide) (backOf (W := 0) (rm1 l Z a0 hw [] o1 (2 : Int32) h1341 n0 Z1341 f1348) hZ (hw _ (List.mem_of_getElem? (i := 38) rfl)) (hw _ (List.mem_of_getElem? (i := 3) rfl)) (by decide) (by decide)) q1378a q1378c (g := (mkF m 98 #[.val (.int p1), .val (.ref b1001), .val (.int (1 : Int32)), .val (.int (0 : Int32))] [(.ref o1)])) rfl (by rw [hml]; rfl) (Steps.refl _) (argsL := []) (rest := []) (lenOf pd_0 rfl) rfl (by show 2 * 0 + _ ≤ _; exact Nat.le_of_eq rfl) (hb hby at_98) (fun _ _ => ⟨rfl, e1341, (by decide : 0 + 1 + 0 ≤ _), (by decide : 0 + 10 + 0 ≤ _)⟩)
    dsimp only [Pt.U, Pt.locs, Pt.cells, Pt.slots] at X1378 l1378 y1378 z1378 st1378 hQ1378
    subst l1378 y1378 z1378
    obtain ⟨rfl, N1378q, e1378⟩ := hQ1378
    have N1378 := Fr.app N1341 N1378q
    refine OEnds.st (fun _ k => st1378.trans k) ?_
    show OEnds p.tables e below G (T1378.setTop (mkF m 101 #[.val (.int p1), .val (.ref b1001), .val (.int (1 : Int32)), .val (.int (0 : Int32))] [(.int (own_packed (2 : Int32)))]))
    refine OEnds.st (fun _ k => XS.iloadN X1378.here hx rfl (hb hby at_101) rfl k) ?_
    show OEnds p.tables e below G (T1378.setTop (mkF m 102 #[.val (.int p1), .val (.ref b1001), .val (.int (1 : Int32)), .val (.int (0 : Int32))] [(.int (0 : Int32)), (.int (own_packed (2 : Int32)))]))
    have hc102_1379 : (own_packed (2 : Int32)) = (0 : Int32) := by decide
    refine OEnds.st (fun _ k => XS.icmpNo X1378.here hx rfl (hb hby at_102) rfl (teq hc102_1379).2 k) ?_
    show OEnds p.tables e below G (T1378.setTop (mkF m 105 #[.val (.int p1), .val (.ref b1001), .val (.int (1 : Int32)), .val (.int (0 : Int32))] []))
    refine OEnds.st (fun _ k => XS.iconst X1378.here hx rfl (hb hby at_105) k) ?_
    show OEnds p.tables e below G (T1378.setTop (mkF m 106 #[.val (.int p1), .val (.ref b1001), .val (.int (1 : Int32)), .val (.int (0 : Int32))] [(.int (1 : Int32))]))
    refine OEnds.st (fun _ k => XS.goto X1378.here hx rfl (pc0 := 106) (pc' := 110) rfl (hb hby at_106) (by decide) (by decide) k) ?_
    show OEnds p.tables e below G (T1378.setTop (mkF m 110 #[.val (.int p1), .val (.ref b1001), .val (.int (1 : Int32)), .val (.int (0 : Int32))] [(.int (1 : Int32))]))
    rw [← hG]
    refine OEnds.retZ X1378 hx hlk Bd.returns rfl (hb hby at_110) (by decide) (by decide) ?_
    rw [e1378]
    exact ⟨rfl, N1378⟩
  · -- 2
    rw [hi]
    show OEnds p.tables e below G (T1341.setTop (mkF m 78 #[.val (.int p1), .val (.ref b1001), .val (.int (2 : Int32)), .unset] []))
    refine OEnds.st (fun _ k => XS.iloadN X1341.here hx rfl (hb hby at_78) rfl k) ?_
    show OEnds p.tables e below G (T1341.setTop (mkF m 79 #[.val (.int p1), .val (.ref b1001), .val (.int (2 : Int32)), .unset] [(.int (2 : Int32))]))
    refine OEnds.st (fun _ k => XS.iconst X1341.here hx rfl (hb hby at_79) k) ?_
    show OEnds p.tables e below G (T1341.setTop (mkF m 80 #[.val (.int p1), .val (.ref b1001), .val (.int (2 : Int32)), .unset] [(.int (2 : Int32)), (.int (2 : Int32))]))
    refine OEnds.st (fun _ k => XS.icmpNo X1341.here hx rfl (hb hby at_80) rfl (flt (by decide : ¬ ((2 : Int32) < (2 : Int32)))).1 k) ?_
    show OEnds p.tables e below G (T1341.setTop (mkF m 83 #[.val (.int p1), .val (.ref b1001), .val (.int (2 : Int32)), .unset] []))
    refine OEnds.st (fun _ k => XS.iloadN X1341.here hx rfl (hb hby at_83) rfl k) ?_
    show OEnds p.tables e below G (T1341.setTop (mkF m 84 #[.val (.int p1), .val (.ref b1001), .val (.int (2 : Int32)), .unset] [(.int (2 : Int32))]))
    refine OEnds.st (fun _ k => XS.bipush X1341.here hx rfl (hb hby at_84) k) ?_
    show OEnds p.tables e below G (T1341.setTop (mkF m 86 #[.val (.int p1), .val (.ref b1001), .val (.int (2 : Int32)), .unset] [(.int (7 : Int32)), (.int (2 : Int32))]))
    refine OEnds.st (fun _ k => XS.icmpNo X1341.here hx rfl (hb hby at_86) rfl (flt (by decide : ¬ ((7 : Int32) < (2 : Int32)))).2.2.1 k) ?_
    show OEnds p.tables e below G (T1341.setTop (mkF m 89 #[.val (.int p1), .val (.ref b1001), .val (.int (2 : Int32)), .unset] []))
    refine OEnds.st (fun _ k => XS.iconst X1341.here hx rfl (hb hby at_89) k) ?_
    show OEnds p.tables e below G (T1341.setTop (mkF m 90 #[.val (.int p1), .val (.ref b1001), .val (.int (2 : Int32)), .unset] [(.int (1 : Int32))]))
    refine OEnds.st (fun _ k => XS.goto X1341.here hx rfl (pc0 := 90) (pc' := 94) rfl (hb hby at_90) (by decide) (by decide) k) ?_
    show OEnds p.tables e below G (T1341.setTop (mkF m 94 #[.val (.int p1), .val (.ref b1001), .val (.int (2 : Int32)), .unset] [(.int (1 : Int32))]))
    refine OEnds.st (fun _ k => XS.istoreN X1341.here hx rfl (hb hby at_94) rfl (l' := #[.val (.int p1), .val (.ref b1001), .val (.int (2 : Int32)), .val (.int (1 : Int32))]) rfl k) ?_
    show OEnds p.tables e below G (T1341.setTop (mkF m 95 #[.val (.int p1), .val (.ref b1001), .val (.int (2 : Int32)), .val (.int (1 : Int32))] []))
    refine OEnds.st (fun _ k => XS.aloadN X1341.here hx rfl (hb hby at_95) rfl rfl k) ?_
    show OEnds p.tables e below G (T1341.setTop (mkF m 96 #[.val (.int p1), .val (.ref b1001), .val (.int (2 : Int32)), .val (.int (1 : Int32))] [(.ref b1001)]))
    refine OEnds.st (fun _ k => XS.iloadN X1341.here hx rfl (hb hby at_96) rfl k) ?_
    show OEnds p.tables e below G (T1341.setTop (mkF m 97 #[.val (.int p1), .val (.ref b1001), .val (.int (2 : Int32)), .val (.int (1 : Int32))] [(.int (2 : Int32)), (.ref b1001)]))
    obtain ⟨cl1380, Ar1380, q1380, S1380, N1380n, H1380, G1380⟩ := id f1342
    have hin1380 : ¬ ((2 : Int32) < 0 ∨ cl1380.slots.size ≤ ((2 : Int32)).toNatClampNeg) := inb_of S1380 ⟨by decide, by decide⟩
    have hat1380 : cl1380.slots[((2 : Int32)).toNatClampNeg]? = some (.ref o2) := H1380.at hin1380 rfl
    refine OEnds.st (X1341.aaload hx (j := (2 : Int32)) (v := (.ref o2)) (by rw [e1341]; exact Ar1380.1) (State.isArrayOf_alike hZ.alike Ar1380.2.1) rfl Ar1380.2.2 hin1380 hat1380 (g := (mkF m 97 #[.val (.int p1), .val (.ref b1001), .val (.int (2 : Int32)), .val (.int (1 : Int32))] [(.int (2 : Int32)), (.ref b1001)])) rfl rfl (hb hby at_97)) ?_
    show OEnds p.tables e below G (T1341.setTop (mkF m 98 #[.val (.int p1), .val (.ref b1001), .val (.int (2 : Int32)), .val (.int (1 : Int32))] [(.ref o2)]))
    obtain ⟨cq1381, kq1381, q1381a, q1381b, q1381c⟩ := isOf hZ e1341 f1350
    obtain ⟨_, _, ⟨T1381, L1381, k1381c, n1381c⟩, -, X1381, ⟨Lc1381, hQ1381, l1381, y1381, z1381⟩, st1381⟩ := X1341.virtualBack hx (y := (⟨"com/example/nearfar/nearfar/StoredType", "packed", "()Z"⟩ : MethodName)) (z := (⟨"com/example/nearfar/nearfar/StoredType", "packed", "()Z"⟩ : MethodName)) hown (mvT hZ (hw _ (List.mem_of_getElem? (i := 34) rfl))) (mvT hZ (hw _ (List.mem_of_getElem? (i := 35) rfl))) (notFace_of_selects (args := #[]) (mvT hZ (hw _ (List.mem_of_getElem? (i := 49) rfl)))) (mvT hZ (hw _ (List.mem_of_getElem? (i := 49) rfl))) (mvT hZ (hw _ (List.mem_of_getElem? (i := 36) rfl))) (by decide) (backOf (W := 0) (rm1 l Z a0 hw [] o2 (0 : Int32) h1341 n0 Z1341 f1351) hZ (hw _ (List.mem_of_getElem? (i := 38) rfl)) (hw _ (List.mem_of_getElem? (i := 3) rfl)) (by decide) (by decide)) q1381a q1381c (g := (mkF m 98 #[.val (.int p1), .val (.ref b1001), .val (.int (2 : Int32)), .val (.int (1 : Int32))] [(.ref o2)])) rfl (by rw [hml]; rfl) (Steps.refl _) (argsL := []) (rest := []) (lenOf pd_0 rfl) rfl (by show 2 * 0 + _ ≤ _; exact Nat.le_of_eq rfl) (hb hby at_98) (fun _ _ => ⟨rfl, e1341, (by decide : 0 + 1 + 0 ≤ _), (by decide : 0 + 10 + 0 ≤ _)⟩)
    dsimp only [Pt.U, Pt.locs, Pt.cells, Pt.slots] at X1381 l1381 y1381 z1381 st1381 hQ1381
    subst l1381 y1381 z1381
    obtain ⟨rfl, N1381q, e1381⟩ := hQ1381
    have N1381 := Fr.app N1341 N1381q
    refine OEnds.st (fun _ k => st1381.trans k) ?_
    show OEnds p.tables e below G (T1381.setTop (mkF m 101 #[.val (.int p1), .val (.ref b1001), .val (.int (2 : Int32)), .val (.int (1 : Int32))] [(.int (own_packed (0 : Int32)))]))
    refine OEnds.st (fun _ k => XS.iloadN X1381.here hx rfl (hb hby at_101) rfl k) ?_
    show OEnds p.tables e below G (T1381.setTop (mkF m 102 #[.val (.int p1), .val (.ref b1001), .val (.int (2 : Int32)), .val (.int (1 : Int32))] [(.int (1 : Int32)), (.int (own_packed (0 : Int32)))]))
    have hc102_1382 : (own_packed (0 : Int32)) = (1 : Int32) := by decide
    refine OEnds.st (fun _ k => XS.icmpNo X1381.here hx rfl (hb hby at_102) rfl (teq hc102_1382).2 k) ?_
    show OEnds p.tables e below G (T1381.setTop (mkF m 105 #[.val (.int p1), .val (.ref b1001), .val (.int (2 : Int32)), .val (.int (1 : Int32))] []))
    refine OEnds.st (fun _ k => XS.iconst X1381.here hx rfl (hb hby at_105) k) ?_
    show OEnds p.tables e below G (T1381.setTop (mkF m 106 #[.val (.int p1), .val (.ref b1001), .val (.int (2 : Int32)), .val (.int (1 : Int32))] [(.int (1 : Int32))]))
    refine OEnds.st (fun _ k => XS.goto X1381.here hx rfl (pc0 := 106) (pc' := 110) rfl (hb hby at_106) (by decide) (by decide) k) ?_
    show OEnds p.tables e below G (T1381.setTop (mkF m 110 #[.val (.int p1), .val (.ref b1001), .val (.int (2 : Int32)), .val (.int (1 : Int32))] [(.int (1 : Int32))]))
    rw [← hG]
    refine OEnds.retZ X1381 hx hlk Bd.returns rfl (hb hby at_110) (by decide) (by decide) ?_
    rw [e1381]
    exact ⟨rfl, N1381⟩
  · -- 3
    rw [hi]
    show OEnds p.tables e below G (T1341.setTop (mkF m 78 #[.val (.int p1), .val (.ref b1001), .val (.int (3 : Int32)), .unset] []))
    refine OEnds.st (fun _ k => XS.iloadN X1341.here hx rfl (hb hby at_78) rfl k) ?_
    show OEnds p.tables e below G (T1341.setTop (mkF m 79 #[.val (.int p1), .val (.ref b1001), .val (.int (3 : Int32)), .unset] [(.int (3 : Int32))]))
    refine OEnds.st (fun _ k => XS.iconst X1341.here hx rfl (hb hby at_79) k) ?_
    show OEnds p.tables e below G (T1341.setTop (mkF m 80 #[.val (.int p1), .val (.ref b1001), .val (.int (3 : Int32)), .unset] [(.int (2 : Int32)), (.int (3 : Int32))]))
    refine OEnds.st (fun _ k => XS.icmpNo X1341.here hx rfl (hb hby at_80) rfl (flt (by decide : ¬ ((3 : Int32) < (2 : Int32)))).1 k) ?_
    show OEnds p.tables e below G (T1341.setTop (mkF m 83 #[.val (.int p1), .val (.ref b1001), .val (.int (3 : Int32)), .unset] []))
    refine OEnds.st (fun _ k => XS.iloadN X1341.here hx rfl (hb hby at_83) rfl k) ?_
    show OEnds p.tables e below G (T1341.setTop (mkF m 84 #[.val (.int p1), .val (.ref b1001), .val (.int (3 : Int32)), .unset] [(.int (3 : Int32))]))
    refine OEnds.st (fun _ k => XS.bipush X1341.here hx rfl (hb hby at_84) k) ?_
    show OEnds p.tables e below G (T1341.setTop (mkF m 86 #[.val (.int p1), .val (.ref b1001), .val (.int (3 : Int32)), .unset] [(.int (7 : Int32)), (.int (3 : Int32))]))
    refine OEnds.st (fun _ k => XS.icmpNo X1341.here hx rfl (hb hby at_86) rfl (flt (by decide : ¬ ((7 : Int32) < (3 : Int32)))).2.2.1 k) ?_
    show OEnds p.tables e below G (T1341.setTop (mkF m 89 #[.val (.int p1), .val (.ref b1001), .val (.int (3 : Int32)), .unset] []))
    refine OEnds.st (fun _ k => XS.iconst X1341.here hx rfl (hb hby at_89) k) ?_
    show OEnds p.tables e below G (T1341.setTop (mkF m 90 #[.val (.int p1), .val (.ref b1001), .val (.int (3 : Int32)), .unset] [(.int (1 : Int32))]))
    refine OEnds.st (fun _ k => XS.goto X1341.here hx rfl (pc0 := 90) (pc' := 94) rfl (hb hby at_90) (by decide) (by decide) k) ?_
    show OEnds p.tables e below G (T1341.setTop (mkF m 94 #[.val (.int p1), .val (.ref b1001), .val (.int (3 : Int32)), .unset] [(.int (1 : Int32))]))
    refine OEnds.st (fun _ k => XS.istoreN X1341.here hx rfl (hb hby at_94) rfl (l' := #[.val (.int p1), .val (.ref b1001), .val (.int (3 : Int32)), .val (.int (1 : Int32))]) rfl k) ?_
    show OEnds p.tables e below G (T1341.setTop (mkF m 95 #[.val (.int p1), .val (.ref b1001), .val (.int (3 : Int32)), .val (.int (1 : Int32))] []))
    refine OEnds.st (fun _ k => XS.aloadN X1341.here hx rfl (hb hby at_95) rfl rfl k) ?_
    show OEnds p.tables e below G (T1341.setTop (mkF m 96 #[.val (.int p1), .val (.ref b1001), .val (.int (3 : Int32)), .val (.int (1 : Int32))] [(.ref b1001)]))
    refine OEnds.st (fun _ k => XS.iloadN X1341.here hx rfl (hb hby at_96) rfl k) ?_
    show OEnds p.tables e below G (T1341.setTop (mkF m 97 #[.val (.int p1), .val (.ref b1001), .val (.int (3 : Int32)), .val (.int (1 : Int32))] [(.int (3 : Int32)), (.ref b1001)]))
    obtain ⟨cl1383, Ar1383, q1383, S1383, N1383n, H1383, G1383⟩ := id f1342
    have hin1383 : ¬ ((3 : Int32) < 0 ∨ cl1383.slots.size ≤ ((3 : Int32)).toNatClampNeg) := inb_of S1383 ⟨by decide, by decide⟩
    have hat1383 : cl1383.slots[((3 : Int32)).toNatClampNeg]? = some (.ref o3) := H1383.at hin1383 rfl
    refine OEnds.st (X1341.aaload hx (j := (3 : Int32)) (v := (.ref o3)) (by rw [e1341]; exact Ar1383.1) (State.isArrayOf_alike hZ.alike Ar1383.2.1) rfl Ar1383.2.2 hin1383 hat1383 (g := (mkF m 97 #[.val (.int p1), .val (.ref b1001), .val (.int (3 : Int32)), .val (.int (1 : Int32))] [(.int (3 : Int32)), (.ref b1001)])) rfl rfl (hb hby at_97)) ?_
    show OEnds p.tables e below G (T1341.setTop (mkF m 98 #[.val (.int p1), .val (.ref b1001), .val (.int (3 : Int32)), .val (.int (1 : Int32))] [(.ref o3)]))
    obtain ⟨cq1384, kq1384, q1384a, q1384b, q1384c⟩ := isOf hZ e1341 f1353
    obtain ⟨_, _, ⟨T1384, L1384, k1384c, n1384c⟩, -, X1384, ⟨Lc1384, hQ1384, l1384, y1384, z1384⟩, st1384⟩ := X1341.virtualBack hx (y := (⟨"com/example/nearfar/nearfar/StoredType", "packed", "()Z"⟩ : MethodName)) (z := (⟨"com/example/nearfar/nearfar/StoredType", "packed", "()Z"⟩ : MethodName)) hown (mvT hZ (hw _ (List.mem_of_getElem? (i := 34) rfl))) (mvT hZ (hw _ (List.mem_of_getElem? (i := 35) rfl))) (notFace_of_selects (args := #[]) (mvT hZ (hw _ (List.mem_of_getElem? (i := 41) rfl)))) (mvT hZ (hw _ (List.mem_of_getElem? (i := 41) rfl))) (mvT hZ (hw _ (List.mem_of_getElem? (i := 36) rfl))) (by decide) (backOf (W := 0) (rm1 l Z a0 hw [] o3 (0 : Int32) h1341 n0 Z1341 f1354) hZ (hw _ (List.mem_of_getElem? (i := 38) rfl)) (hw _ (List.mem_of_getElem? (i := 3) rfl)) (by decide) (by decide)) q1384a q1384c (g := (mkF m 98 #[.val (.int p1), .val (.ref b1001), .val (.int (3 : Int32)), .val (.int (1 : Int32))] [(.ref o3)])) rfl (by rw [hml]; rfl) (Steps.refl _) (argsL := []) (rest := []) (lenOf pd_0 rfl) rfl (by show 2 * 0 + _ ≤ _; exact Nat.le_of_eq rfl) (hb hby at_98) (fun _ _ => ⟨rfl, e1341, (by decide : 0 + 1 + 0 ≤ _), (by decide : 0 + 10 + 0 ≤ _)⟩)
    dsimp only [Pt.U, Pt.locs, Pt.cells, Pt.slots] at X1384 l1384 y1384 z1384 st1384 hQ1384
    subst l1384 y1384 z1384
    obtain ⟨rfl, N1384q, e1384⟩ := hQ1384
    have N1384 := Fr.app N1341 N1384q
    refine OEnds.st (fun _ k => st1384.trans k) ?_
    show OEnds p.tables e below G (T1384.setTop (mkF m 101 #[.val (.int p1), .val (.ref b1001), .val (.int (3 : Int32)), .val (.int (1 : Int32))] [(.int (own_packed (0 : Int32)))]))
    refine OEnds.st (fun _ k => XS.iloadN X1384.here hx rfl (hb hby at_101) rfl k) ?_
    show OEnds p.tables e below G (T1384.setTop (mkF m 102 #[.val (.int p1), .val (.ref b1001), .val (.int (3 : Int32)), .val (.int (1 : Int32))] [(.int (1 : Int32)), (.int (own_packed (0 : Int32)))]))
    have hc102_1385 : (own_packed (0 : Int32)) = (1 : Int32) := by decide
    refine OEnds.st (fun _ k => XS.icmpNo X1384.here hx rfl (hb hby at_102) rfl (teq hc102_1385).2 k) ?_
    show OEnds p.tables e below G (T1384.setTop (mkF m 105 #[.val (.int p1), .val (.ref b1001), .val (.int (3 : Int32)), .val (.int (1 : Int32))] []))
    refine OEnds.st (fun _ k => XS.iconst X1384.here hx rfl (hb hby at_105) k) ?_
    show OEnds p.tables e below G (T1384.setTop (mkF m 106 #[.val (.int p1), .val (.ref b1001), .val (.int (3 : Int32)), .val (.int (1 : Int32))] [(.int (1 : Int32))]))
    refine OEnds.st (fun _ k => XS.goto X1384.here hx rfl (pc0 := 106) (pc' := 110) rfl (hb hby at_106) (by decide) (by decide) k) ?_
    show OEnds p.tables e below G (T1384.setTop (mkF m 110 #[.val (.int p1), .val (.ref b1001), .val (.int (3 : Int32)), .val (.int (1 : Int32))] [(.int (1 : Int32))]))
    rw [← hG]
    refine OEnds.retZ X1384 hx hlk Bd.returns rfl (hb hby at_110) (by decide) (by decide) ?_
    rw [e1384]
    exact ⟨rfl, N1384⟩
  · -- 4
    rw [hi]
    show OEnds p.tables e below G (T1341.setTop (mkF m 78 #[.val (.int p1), .val (.ref b1001), .val (.int (4 : Int32)), .unset] []))
    refine OEnds.st (fun _ k => XS.iloadN X1341.here hx rfl (hb hby at_78) rfl k) ?_
    show OEnds p.tables e below G (T1341.setTop (mkF m 79 #[.val (.int p1), .val (.ref b1001), .val (.int (4 : Int32)), .unset] [(.int (4 : Int32))]))
    refine OEnds.st (fun _ k => XS.iconst X1341.here hx rfl (hb hby at_79) k) ?_
    show OEnds p.tables e below G (T1341.setTop (mkF m 80 #[.val (.int p1), .val (.ref b1001), .val (.int (4 : Int32)), .unset] [(.int (2 : Int32)), (.int (4 : Int32))]))
    refine OEnds.st (fun _ k => XS.icmpNo X1341.here hx rfl (hb hby at_80) rfl (flt (by decide : ¬ ((4 : Int32) < (2 : Int32)))).1 k) ?_
    show OEnds p.tables e below G (T1341.setTop (mkF m 83 #[.val (.int p1), .val (.ref b1001), .val (.int (4 : Int32)), .unset] []))
    refine OEnds.st (fun _ k => XS.iloadN X1341.here hx rfl (hb hby at_83) rfl k) ?_
    show OEnds p.tables e below G (T1341.setTop (mkF m 84 #[.val (.int p1), .val (.ref b1001), .val (.int (4 : Int32)), .unset] [(.int (4 : Int32))]))
    refine OEnds.st (fun _ k => XS.bipush X1341.here hx rfl (hb hby at_84) k) ?_
    show OEnds p.tables e below G (T1341.setTop (mkF m 86 #[.val (.int p1), .val (.ref b1001), .val (.int (4 : Int32)), .unset] [(.int (7 : Int32)), (.int (4 : Int32))]))
    refine OEnds.st (fun _ k => XS.icmpNo X1341.here hx rfl (hb hby at_86) rfl (flt (by decide : ¬ ((7 : Int32) < (4 : Int32)))).2.2.1 k) ?_
    show OEnds p.tables e below G (T1341.setTop (mkF m 89 #[.val (.int p1), .val (.ref b1001), .val (.int (4 : Int32)), .unset] []))
    refine OEnds.st (fun _ k => XS.iconst X1341.here hx rfl (hb hby at_89) k) ?_
    show OEnds p.tables e below G (T1341.setTop (mkF m 90 #[.val (.int p1), .val (.ref b1001), .val (.int (4 : Int32)), .unset] [(.int (1 : Int32))]))
    refine OEnds.st (fun _ k => XS.goto X1341.here hx rfl (pc0 := 90) (pc' := 94) rfl (hb hby at_90) (by decide) (by decide) k) ?_
    show OEnds p.tables e below G (T1341.setTop (mkF m 94 #[.val (.int p1), .val (.ref b1001), .val (.int (4 : Int32)), .unset] [(.int (1 : Int32))]))
    refine OEnds.st (fun _ k => XS.istoreN X1341.here hx rfl (hb hby at_94) rfl (l' := #[.val (.int p1), .val (.ref b1001), .val (.int (4 : Int32)), .val (.int (1 : Int32))]) rfl k) ?_
    show OEnds p.tables e below G (T1341.setTop (mkF m 95 #[.val (.int p1), .val (.ref b1001), .val (.int (4 : Int32)), .val (.int (1 : Int32))] []))
    refine OEnds.st (fun _ k => XS.aloadN X1341.here hx rfl (hb hby at_95) rfl rfl k) ?_
    show OEnds p.tables e below G (T1341.setTop (mkF m 96 #[.val (.int p1), .val (.ref b1001), .val (.int (4 : Int32)), .val (.int (1 : Int32))] [(.ref b1001)]))
    refine OEnds.st (fun _ k => XS.iloadN X1341.here hx rfl (hb hby at_96) rfl k) ?_
    show OEnds p.tables e below G (T1341.setTop (mkF m 97 #[.val (.int p1), .val (.ref b1001), .val (.int (4 : Int32)), .val (.int (1 : Int32))] [(.int (4 : Int32)), (.ref b1001)]))
    obtain ⟨cl1386, Ar1386, q1386, S1386, N1386n, H1386, G1386⟩ := id f1342
    have hin1386 : ¬ ((4 : Int32) < 0 ∨ cl1386.slots.size ≤ ((4 : Int32)).toNatClampNeg) := inb_of S1386 ⟨by decide, by decide⟩
    have hat1386 : cl1386.slots[((4 : Int32)).toNatClampNeg]? = some (.ref o4) := H1386.at hin1386 rfl
    refine OEnds.st (X1341.aaload hx (j := (4 : Int32)) (v := (.ref o4)) (by rw [e1341]; exact Ar1386.1) (State.isArrayOf_alike hZ.alike Ar1386.2.1) rfl Ar1386.2.2 hin1386 hat1386 (g := (mkF m 97 #[.val (.int p1), .val (.ref b1001), .val (.int (4 : Int32)), .val (.int (1 : Int32))] [(.int (4 : Int32)), (.ref b1001)])) rfl rfl (hb hby at_97)) ?_
    show OEnds p.tables e below G (T1341.setTop (mkF m 98 #[.val (.int p1), .val (.ref b1001), .val (.int (4 : Int32)), .val (.int (1 : Int32))] [(.ref o4)]))
    obtain ⟨cq1387, kq1387, q1387a, q1387b, q1387c⟩ := isOf hZ e1341 f1356
    obtain ⟨_, _, ⟨T1387, L1387, k1387c, n1387c⟩, -, X1387, ⟨Lc1387, hQ1387, l1387, y1387, z1387⟩, st1387⟩ := X1341.virtualBack hx (y := (⟨"com/example/nearfar/nearfar/StoredType", "packed", "()Z"⟩ : MethodName)) (z := (⟨"com/example/nearfar/nearfar/StoredType", "packed", "()Z"⟩ : MethodName)) hown (mvT hZ (hw _ (List.mem_of_getElem? (i := 34) rfl))) (mvT hZ (hw _ (List.mem_of_getElem? (i := 35) rfl))) (notFace_of_selects (args := #[]) (mvT hZ (hw _ (List.mem_of_getElem? (i := 45) rfl)))) (mvT hZ (hw _ (List.mem_of_getElem? (i := 45) rfl))) (mvT hZ (hw _ (List.mem_of_getElem? (i := 36) rfl))) (by decide) (backOf (W := 0) (rm1 l Z a0 hw [] o4 (1 : Int32) h1341 n0 Z1341 f1357) hZ (hw _ (List.mem_of_getElem? (i := 38) rfl)) (hw _ (List.mem_of_getElem? (i := 3) rfl)) (by decide) (by decide)) q1387a q1387c (g := (mkF m 98 #[.val (.int p1), .val (.ref b1001), .val (.int (4 : Int32)), .val (.int (1 : Int32))] [(.ref o4)])) rfl (by rw [hml]; rfl) (Steps.refl _) (argsL := []) (rest := []) (lenOf pd_0 rfl) rfl (by show 2 * 0 + _ ≤ _; exact Nat.le_of_eq rfl) (hb hby at_98) (fun _ _ => ⟨rfl, e1341, (by decide : 0 + 1 + 0 ≤ _), (by decide : 0 + 10 + 0 ≤ _)⟩)
    dsimp only [Pt.U, Pt.locs, Pt.cells, Pt.slots] at X1387 l1387 y1387 z1387 st1387 hQ1387
    subst l1387 y1387 z1387
    obtain ⟨rfl, N1387q, e1387⟩ := hQ1387
    have N1387 := Fr.app N1341 N1387q
    refine OEnds.st (fun _ k => st1387.trans k) ?_
    show OEnds p.tables e below G (T1387.setTop (mkF m 101 #[.val (.int p1), .val (.ref b1001), .val (.int (4 : Int32)), .val (.int (1 : Int32))] [(.int (own_packed (1 : Int32)))]))
    refine OEnds.st (fun _ k => XS.iloadN X1387.here hx rfl (hb hby at_101) rfl k) ?_
    show OEnds p.tables e below G (T1387.setTop (mkF m 102 #[.val (.int p1), .val (.ref b1001), .val (.int (4 : Int32)), .val (.int (1 : Int32))] [(.int (1 : Int32)), (.int (own_packed (1 : Int32)))]))
    have hc102_1388 : (own_packed (1 : Int32)) = (1 : Int32) := by decide
    refine OEnds.st (fun _ k => XS.icmpNo X1387.here hx rfl (hb hby at_102) rfl (teq hc102_1388).2 k) ?_
    show OEnds p.tables e below G (T1387.setTop (mkF m 105 #[.val (.int p1), .val (.ref b1001), .val (.int (4 : Int32)), .val (.int (1 : Int32))] []))
    refine OEnds.st (fun _ k => XS.iconst X1387.here hx rfl (hb hby at_105) k) ?_
    show OEnds p.tables e below G (T1387.setTop (mkF m 106 #[.val (.int p1), .val (.ref b1001), .val (.int (4 : Int32)), .val (.int (1 : Int32))] [(.int (1 : Int32))]))
    refine OEnds.st (fun _ k => XS.goto X1387.here hx rfl (pc0 := 106) (pc' := 110) rfl (hb hby at_106) (by decide) (by decide) k) ?_
    show OEnds p.tables e below G (T1387.setTop (mkF m 110 #[.val (.int p1), .val (.ref b1001), .val (.int (4 : Int32)), .val (.int (1 : Int32))] [(.int (1 : Int32))]))
    rw [← hG]
    refine OEnds.retZ X1387 hx hlk Bd.returns rfl (hb hby at_110) (by decide) (by decide) ?_
    rw [e1387]
    exact ⟨rfl, N1387⟩
  · -- 5
    rw [hi]
    show OEnds p.tables e below G (T1341.setTop (mkF m 78 #[.val (.int p1), .val (.ref b1001), .val (.int (5 : Int32)), .unset] []))
    refine OEnds.st (fun _ k => XS.iloadN X1341.here hx rfl (hb hby at_78) rfl k) ?_
    show OEnds p.tables e below G (T1341.setTop (mkF m 79 #[.val (.int p1), .val (.ref b1001), .val (.int (5 : Int32)), .unset] [(.int (5 : Int32))]))
    refine OEnds.st (fun _ k => XS.iconst X1341.here hx rfl (hb hby at_79) k) ?_
    show OEnds p.tables e below G (T1341.setTop (mkF m 80 #[.val (.int p1), .val (.ref b1001), .val (.int (5 : Int32)), .unset] [(.int (2 : Int32)), (.int (5 : Int32))]))
    refine OEnds.st (fun _ k => XS.icmpNo X1341.here hx rfl (hb hby at_80) rfl (flt (by decide : ¬ ((5 : Int32) < (2 : Int32)))).1 k) ?_
    show OEnds p.tables e below G (T1341.setTop (mkF m 83 #[.val (.int p1), .val (.ref b1001), .val (.int (5 : Int32)), .unset] []))
    refine OEnds.st (fun _ k => XS.iloadN X1341.here hx rfl (hb hby at_83) rfl k) ?_
    show OEnds p.tables e below G (T1341.setTop (mkF m 84 #[.val (.int p1), .val (.ref b1001), .val (.int (5 : Int32)), .unset] [(.int (5 : Int32))]))
    refine OEnds.st (fun _ k => XS.bipush X1341.here hx rfl (hb hby at_84) k) ?_
    show OEnds p.tables e below G (T1341.setTop (mkF m 86 #[.val (.int p1), .val (.ref b1001), .val (.int (5 : Int32)), .unset] [(.int (7 : Int32)), (.int (5 : Int32))]))
    refine OEnds.st (fun _ k => XS.icmpNo X1341.here hx rfl (hb hby at_86) rfl (flt (by decide : ¬ ((7 : Int32) < (5 : Int32)))).2.2.1 k) ?_
    show OEnds p.tables e below G (T1341.setTop (mkF m 89 #[.val (.int p1), .val (.ref b1001), .val (.int (5 : Int32)), .unset] []))
    refine OEnds.st (fun _ k => XS.iconst X1341.here hx rfl (hb hby at_89) k) ?_
    show OEnds p.tables e below G (T1341.setTop (mkF m 90 #[.val (.int p1), .val (.ref b1001), .val (.int (5 : Int32)), .unset] [(.int (1 : Int32))]))
    refine OEnds.st (fun _ k => XS.goto X1341.here hx rfl (pc0 := 90) (pc' := 94) rfl (hb hby at_90) (by decide) (by decide) k) ?_
    show OEnds p.tables e below G (T1341.setTop (mkF m 94 #[.val (.int p1), .val (.ref b1001), .val (.int (5 : Int32)), .unset] [(.int (1 : Int32))]))
    refine OEnds.st (fun _ k => XS.istoreN X1341.here hx rfl (hb hby at_94) rfl (l' := #[.val (.int p1), .val (.ref b1001), .val (.int (5 : Int32)), .val (.int (1 : Int32))]) rfl k) ?_
    show OEnds p.tables e below G (T1341.setTop (mkF m 95 #[.val (.int p1), .val (.ref b1001), .val (.int (5 : Int32)), .val (.int (1 : Int32))] []))
    refine OEnds.st (fun _ k => XS.aloadN X1341.here hx rfl (hb hby at_95) rfl rfl k) ?_
    show OEnds p.tables e below G (T1341.setTop (mkF m 96 #[.val (.int p1), .val (.ref b1001), .val (.int (5 : Int32)), .val (.int (1 : Int32))] [(.ref b1001)]))
    refine OEnds.st (fun _ k => XS.iloadN X1341.here hx rfl (hb hby at_96) rfl k) ?_
    show OEnds p.tables e below G (T1341.setTop (mkF m 97 #[.val (.int p1), .val (.ref b1001), .val (.int (5 : Int32)), .val (.int (1 : Int32))] [(.int (5 : Int32)), (.ref b1001)]))
    obtain ⟨cl1389, Ar1389, q1389, S1389, N1389n, H1389, G1389⟩ := id f1342
    have hin1389 : ¬ ((5 : Int32) < 0 ∨ cl1389.slots.size ≤ ((5 : Int32)).toNatClampNeg) := inb_of S1389 ⟨by decide, by decide⟩
    have hat1389 : cl1389.slots[((5 : Int32)).toNatClampNeg]? = some (.ref o5) := H1389.at hin1389 rfl
    refine OEnds.st (X1341.aaload hx (j := (5 : Int32)) (v := (.ref o5)) (by rw [e1341]; exact Ar1389.1) (State.isArrayOf_alike hZ.alike Ar1389.2.1) rfl Ar1389.2.2 hin1389 hat1389 (g := (mkF m 97 #[.val (.int p1), .val (.ref b1001), .val (.int (5 : Int32)), .val (.int (1 : Int32))] [(.int (5 : Int32)), (.ref b1001)])) rfl rfl (hb hby at_97)) ?_
    show OEnds p.tables e below G (T1341.setTop (mkF m 98 #[.val (.int p1), .val (.ref b1001), .val (.int (5 : Int32)), .val (.int (1 : Int32))] [(.ref o5)]))
    obtain ⟨cq1390, kq1390, q1390a, q1390b, q1390c⟩ := isOf hZ e1341 f1359
    obtain ⟨_, _, ⟨T1390, L1390, k1390c, n1390c⟩, -, X1390, ⟨Lc1390, hQ1390, l1390, y1390, z1390⟩, st1390⟩ := X1341.virtualBack hx (y := (⟨"com/example/nearfar/nearfar/StoredType", "packed", "()Z"⟩ : MethodName)) (z := (⟨"com/example/nearfar/nearfar/StoredType", "packed", "()Z"⟩ : MethodName)) hown (mvT hZ (hw _ (List.mem_of_getElem? (i := 34) rfl))) (mvT hZ (hw _ (List.mem_of_getElem? (i := 35) rfl))) (notFace_of_selects (args := #[]) (mvT hZ (hw _ (List.mem_of_getElem? (i := 55) rfl)))) (mvT hZ (hw _ (List.mem_of_getElem? (i := 55) rfl))) (mvT hZ (hw _ (List.mem_of_getElem? (i := 36) rfl))) (by decide) (backOf (W := 0) (rm1 l Z a0 hw [] o5 (5 : Int32) h1341 n0 Z1341 f1360) hZ (hw _ (List.mem_of_getElem? (i := 38) rfl)) (hw _ (List.mem_of_getElem? (i := 3) rfl)) (by decide) (by decide)) q1390a q1390c (g := (mkF m 98 #[.val (.int p1), .val (.ref b1001), .val (.int (5 : Int32)), .val (.int (1 : Int32))] [(.ref o5)])) rfl (by rw [hml]; rfl) (Steps.refl _) (argsL := []) (rest := []) (lenOf pd_0 rfl) rfl (by show 2 * 0 + _ ≤ _; exact Nat.le_of_eq rfl) (hb hby at_98) (fun _ _ => ⟨rfl, e1341, (by decide : 0 + 1 + 0 ≤ _), (by decide : 0 + 10 + 0 ≤ _)⟩)
    dsimp only [Pt.U, Pt.locs, Pt.cells, Pt.slots] at X1390 l1390 y1390 z1390 st1390 hQ1390
    subst l1390 y1390 z1390
    obtain ⟨rfl, N1390q, e1390⟩ := hQ1390
    have N1390 := Fr.app N1341 N1390q
    refine OEnds.st (fun _ k => st1390.trans k) ?_
    show OEnds p.tables e below G (T1390.setTop (mkF m 101 #[.val (.int p1), .val (.ref b1001), .val (.int (5 : Int32)), .val (.int (1 : Int32))] [(.int (own_packed (5 : Int32)))]))
    refine OEnds.st (fun _ k => XS.iloadN X1390.here hx rfl (hb hby at_101) rfl k) ?_
    show OEnds p.tables e below G (T1390.setTop (mkF m 102 #[.val (.int p1), .val (.ref b1001), .val (.int (5 : Int32)), .val (.int (1 : Int32))] [(.int (1 : Int32)), (.int (own_packed (5 : Int32)))]))
    have hc102_1391 : (own_packed (5 : Int32)) = (1 : Int32) := by decide
    refine OEnds.st (fun _ k => XS.icmpNo X1390.here hx rfl (hb hby at_102) rfl (teq hc102_1391).2 k) ?_
    show OEnds p.tables e below G (T1390.setTop (mkF m 105 #[.val (.int p1), .val (.ref b1001), .val (.int (5 : Int32)), .val (.int (1 : Int32))] []))
    refine OEnds.st (fun _ k => XS.iconst X1390.here hx rfl (hb hby at_105) k) ?_
    show OEnds p.tables e below G (T1390.setTop (mkF m 106 #[.val (.int p1), .val (.ref b1001), .val (.int (5 : Int32)), .val (.int (1 : Int32))] [(.int (1 : Int32))]))
    refine OEnds.st (fun _ k => XS.goto X1390.here hx rfl (pc0 := 106) (pc' := 110) rfl (hb hby at_106) (by decide) (by decide) k) ?_
    show OEnds p.tables e below G (T1390.setTop (mkF m 110 #[.val (.int p1), .val (.ref b1001), .val (.int (5 : Int32)), .val (.int (1 : Int32))] [(.int (1 : Int32))]))
    rw [← hG]
    refine OEnds.retZ X1390 hx hlk Bd.returns rfl (hb hby at_110) (by decide) (by decide) ?_
    rw [e1390]
    exact ⟨rfl, N1390⟩
  · -- 6
    rw [hi]
    show OEnds p.tables e below G (T1341.setTop (mkF m 78 #[.val (.int p1), .val (.ref b1001), .val (.int (6 : Int32)), .unset] []))
    refine OEnds.st (fun _ k => XS.iloadN X1341.here hx rfl (hb hby at_78) rfl k) ?_
    show OEnds p.tables e below G (T1341.setTop (mkF m 79 #[.val (.int p1), .val (.ref b1001), .val (.int (6 : Int32)), .unset] [(.int (6 : Int32))]))
    refine OEnds.st (fun _ k => XS.iconst X1341.here hx rfl (hb hby at_79) k) ?_
    show OEnds p.tables e below G (T1341.setTop (mkF m 80 #[.val (.int p1), .val (.ref b1001), .val (.int (6 : Int32)), .unset] [(.int (2 : Int32)), (.int (6 : Int32))]))
    refine OEnds.st (fun _ k => XS.icmpNo X1341.here hx rfl (hb hby at_80) rfl (flt (by decide : ¬ ((6 : Int32) < (2 : Int32)))).1 k) ?_
    show OEnds p.tables e below G (T1341.setTop (mkF m 83 #[.val (.int p1), .val (.ref b1001), .val (.int (6 : Int32)), .unset] []))
    refine OEnds.st (fun _ k => XS.iloadN X1341.here hx rfl (hb hby at_83) rfl k) ?_
    show OEnds p.tables e below G (T1341.setTop (mkF m 84 #[.val (.int p1), .val (.ref b1001), .val (.int (6 : Int32)), .unset] [(.int (6 : Int32))]))
    refine OEnds.st (fun _ k => XS.bipush X1341.here hx rfl (hb hby at_84) k) ?_
    show OEnds p.tables e below G (T1341.setTop (mkF m 86 #[.val (.int p1), .val (.ref b1001), .val (.int (6 : Int32)), .unset] [(.int (7 : Int32)), (.int (6 : Int32))]))
    refine OEnds.st (fun _ k => XS.icmpNo X1341.here hx rfl (hb hby at_86) rfl (flt (by decide : ¬ ((7 : Int32) < (6 : Int32)))).2.2.1 k) ?_
    show OEnds p.tables e below G (T1341.setTop (mkF m 89 #[.val (.int p1), .val (.ref b1001), .val (.int (6 : Int32)), .unset] []))
    refine OEnds.st (fun _ k => XS.iconst X1341.here hx rfl (hb hby at_89) k) ?_
    show OEnds p.tables e below G (T1341.setTop (mkF m 90 #[.val (.int p1), .val (.ref b1001), .val (.int (6 : Int32)), .unset] [(.int (1 : Int32))]))
    refine OEnds.st (fun _ k => XS.goto X1341.here hx rfl (pc0 := 90) (pc' := 94) rfl (hb hby at_90) (by decide) (by decide) k) ?_
    show OEnds p.tables e below G (T1341.setTop (mkF m 94 #[.val (.int p1), .val (.ref b1001), .val (.int (6 : Int32)), .unset] [(.int (1 : Int32))]))
    refine OEnds.st (fun _ k => XS.istoreN X1341.here hx rfl (hb hby at_94) rfl (l' := #[.val (.int p1), .val (.ref b1001), .val (.int (6 : Int32)), .val (.int (1 : Int32))]) rfl k) ?_
    show OEnds p.tables e below G (T1341.setTop (mkF m 95 #[.val (.int p1), .val (.ref b1001), .val (.int (6 : Int32)), .val (.int (1 : Int32))] []))
    refine OEnds.st (fun _ k => XS.aloadN X1341.here hx rfl (hb hby at_95) rfl rfl k) ?_
    show OEnds p.tables e below G (T1341.setTop (mkF m 96 #[.val (.int p1), .val (.ref b1001), .val (.int (6 : Int32)), .val (.int (1 : Int32))] [(.ref b1001)]))
    refine OEnds.st (fun _ k => XS.iloadN X1341.here hx rfl (hb hby at_96) rfl k) ?_
    show OEnds p.tables e below G (T1341.setTop (mkF m 97 #[.val (.int p1), .val (.ref b1001), .val (.int (6 : Int32)), .val (.int (1 : Int32))] [(.int (6 : Int32)), (.ref b1001)]))
    obtain ⟨cl1392, Ar1392, q1392, S1392, N1392n, H1392, G1392⟩ := id f1342
    have hin1392 : ¬ ((6 : Int32) < 0 ∨ cl1392.slots.size ≤ ((6 : Int32)).toNatClampNeg) := inb_of S1392 ⟨by decide, by decide⟩
    have hat1392 : cl1392.slots[((6 : Int32)).toNatClampNeg]? = some (.ref o6) := H1392.at hin1392 rfl
    refine OEnds.st (X1341.aaload hx (j := (6 : Int32)) (v := (.ref o6)) (by rw [e1341]; exact Ar1392.1) (State.isArrayOf_alike hZ.alike Ar1392.2.1) rfl Ar1392.2.2 hin1392 hat1392 (g := (mkF m 97 #[.val (.int p1), .val (.ref b1001), .val (.int (6 : Int32)), .val (.int (1 : Int32))] [(.int (6 : Int32)), (.ref b1001)])) rfl rfl (hb hby at_97)) ?_
    show OEnds p.tables e below G (T1341.setTop (mkF m 98 #[.val (.int p1), .val (.ref b1001), .val (.int (6 : Int32)), .val (.int (1 : Int32))] [(.ref o6)]))
    obtain ⟨cq1393, kq1393, q1393a, q1393b, q1393c⟩ := isOf hZ e1341 f1362
    obtain ⟨_, _, ⟨T1393, L1393, k1393c, n1393c⟩, -, X1393, ⟨Lc1393, hQ1393, l1393, y1393, z1393⟩, st1393⟩ := X1341.virtualBack hx (y := (⟨"com/example/nearfar/nearfar/StoredType", "packed", "()Z"⟩ : MethodName)) (z := (⟨"com/example/nearfar/nearfar/StoredType", "packed", "()Z"⟩ : MethodName)) hown (mvT hZ (hw _ (List.mem_of_getElem? (i := 34) rfl))) (mvT hZ (hw _ (List.mem_of_getElem? (i := 35) rfl))) (notFace_of_selects (args := #[]) (mvT hZ (hw _ (List.mem_of_getElem? (i := 57) rfl)))) (mvT hZ (hw _ (List.mem_of_getElem? (i := 57) rfl))) (mvT hZ (hw _ (List.mem_of_getElem? (i := 36) rfl))) (by decide) (backOf (W := 0) (rm1 l Z a0 hw [] o6 (0 : Int32) h1341 n0 Z1341 f1363) hZ (hw _ (List.mem_of_getElem? (i := 38) rfl)) (hw _ (List.mem_of_getElem? (i := 3) rfl)) (by decide) (by decide)) q1393a q1393c (g := (mkF m 98 #[.val (.int p1), .val (.ref b1001), .val (.int (6 : Int32)), .val (.int (1 : Int32))] [(.ref o6)])) rfl (by rw [hml]; rfl) (Steps.refl _) (argsL := []) (rest := []) (lenOf pd_0 rfl) rfl (by show 2 * 0 + _ ≤ _; exact Nat.le_of_eq rfl) (hb hby at_98) (fun _ _ => ⟨rfl, e1341, (by decide : 0 + 1 + 0 ≤ _), (by decide : 0 + 10 + 0 ≤ _)⟩)
    dsimp only [Pt.U, Pt.locs, Pt.cells, Pt.slots] at X1393 l1393 y1393 z1393 st1393 hQ1393
    subst l1393 y1393 z1393
    obtain ⟨rfl, N1393q, e1393⟩ := hQ1393
    have N1393 := Fr.app N1341 N1393q
    refine OEnds.st (fun _ k => st1393.trans k) ?_
    show OEnds p.tables e below G (T1393.setTop (mkF m 101 #[.val (.int p1), .val (.ref b1001), .val (.int (6 : Int32)), .val (.int (1 : Int32))] [(.int (own_packed (0 : Int32)))]))
    refine OEnds.st (fun _ k => XS.iloadN X1393.here hx rfl (hb hby at_101) rfl k) ?_
    show OEnds p.tables e below G (T1393.setTop (mkF m 102 #[.val (.int p1), .val (.ref b1001), .val (.int (6 : Int32)), .val (.int (1 : Int32))] [(.int (1 : Int32)), (.int (own_packed (0 : Int32)))]))
    have hc102_1394 : (own_packed (0 : Int32)) = (1 : Int32) := by decide
    refine OEnds.st (fun _ k => XS.icmpNo X1393.here hx rfl (hb hby at_102) rfl (teq hc102_1394).2 k) ?_
    show OEnds p.tables e below G (T1393.setTop (mkF m 105 #[.val (.int p1), .val (.ref b1001), .val (.int (6 : Int32)), .val (.int (1 : Int32))] []))
    refine OEnds.st (fun _ k => XS.iconst X1393.here hx rfl (hb hby at_105) k) ?_
    show OEnds p.tables e below G (T1393.setTop (mkF m 106 #[.val (.int p1), .val (.ref b1001), .val (.int (6 : Int32)), .val (.int (1 : Int32))] [(.int (1 : Int32))]))
    refine OEnds.st (fun _ k => XS.goto X1393.here hx rfl (pc0 := 106) (pc' := 110) rfl (hb hby at_106) (by decide) (by decide) k) ?_
    show OEnds p.tables e below G (T1393.setTop (mkF m 110 #[.val (.int p1), .val (.ref b1001), .val (.int (6 : Int32)), .val (.int (1 : Int32))] [(.int (1 : Int32))]))
    rw [← hG]
    refine OEnds.retZ X1393 hx hlk Bd.returns rfl (hb hby at_110) (by decide) (by decide) ?_
    rw [e1393]
    exact ⟨rfl, N1393⟩
  · -- 7
    rw [hi]
    show OEnds p.tables e below G (T1341.setTop (mkF m 78 #[.val (.int p1), .val (.ref b1001), .val (.int (7 : Int32)), .unset] []))
    refine OEnds.st (fun _ k => XS.iloadN X1341.here hx rfl (hb hby at_78) rfl k) ?_
    show OEnds p.tables e below G (T1341.setTop (mkF m 79 #[.val (.int p1), .val (.ref b1001), .val (.int (7 : Int32)), .unset] [(.int (7 : Int32))]))
    refine OEnds.st (fun _ k => XS.iconst X1341.here hx rfl (hb hby at_79) k) ?_
    show OEnds p.tables e below G (T1341.setTop (mkF m 80 #[.val (.int p1), .val (.ref b1001), .val (.int (7 : Int32)), .unset] [(.int (2 : Int32)), (.int (7 : Int32))]))
    refine OEnds.st (fun _ k => XS.icmpNo X1341.here hx rfl (hb hby at_80) rfl (flt (by decide : ¬ ((7 : Int32) < (2 : Int32)))).1 k) ?_
    show OEnds p.tables e below G (T1341.setTop (mkF m 83 #[.val (.int p1), .val (.ref b1001), .val (.int (7 : Int32)), .unset] []))
    refine OEnds.st (fun _ k => XS.iloadN X1341.here hx rfl (hb hby at_83) rfl k) ?_
    show OEnds p.tables e below G (T1341.setTop (mkF m 84 #[.val (.int p1), .val (.ref b1001), .val (.int (7 : Int32)), .unset] [(.int (7 : Int32))]))
    refine OEnds.st (fun _ k => XS.bipush X1341.here hx rfl (hb hby at_84) k) ?_
    show OEnds p.tables e below G (T1341.setTop (mkF m 86 #[.val (.int p1), .val (.ref b1001), .val (.int (7 : Int32)), .unset] [(.int (7 : Int32)), (.int (7 : Int32))]))
    refine OEnds.st (fun _ k => XS.icmpNo X1341.here hx rfl (hb hby at_86) rfl (flt (by decide : ¬ ((7 : Int32) < (7 : Int32)))).2.2.1 k) ?_
    show OEnds p.tables e below G (T1341.setTop (mkF m 89 #[.val (.int p1), .val (.ref b1001), .val (.int (7 : Int32)), .unset] []))
    refine OEnds.st (fun _ k => XS.iconst X1341.here hx rfl (hb hby at_89) k) ?_
    show OEnds p.tables e below G (T1341.setTop (mkF m 90 #[.val (.int p1), .val (.ref b1001), .val (.int (7 : Int32)), .unset] [(.int (1 : Int32))]))
    refine OEnds.st (fun _ k => XS.goto X1341.here hx rfl (pc0 := 90) (pc' := 94) rfl (hb hby at_90) (by decide) (by decide) k) ?_
    show OEnds p.tables e below G (T1341.setTop (mkF m 94 #[.val (.int p1), .val (.ref b1001), .val (.int (7 : Int32)), .unset] [(.int (1 : Int32))]))
    refine OEnds.st (fun _ k => XS.istoreN X1341.here hx rfl (hb hby at_94) rfl (l' := #[.val (.int p1), .val (.ref b1001), .val (.int (7 : Int32)), .val (.int (1 : Int32))]) rfl k) ?_
    show OEnds p.tables e below G (T1341.setTop (mkF m 95 #[.val (.int p1), .val (.ref b1001), .val (.int (7 : Int32)), .val (.int (1 : Int32))] []))
    refine OEnds.st (fun _ k => XS.aloadN X1341.here hx rfl (hb hby at_95) rfl rfl k) ?_
    show OEnds p.tables e below G (T1341.setTop (mkF m 96 #[.val (.int p1), .val (.ref b1001), .val (.int (7 : Int32)), .val (.int (1 : Int32))] [(.ref b1001)]))
    refine OEnds.st (fun _ k => XS.iloadN X1341.here hx rfl (hb hby at_96) rfl k) ?_
    show OEnds p.tables e below G (T1341.setTop (mkF m 97 #[.val (.int p1), .val (.ref b1001), .val (.int (7 : Int32)), .val (.int (1 : Int32))] [(.int (7 : Int32)), (.ref b1001)]))
    obtain ⟨cl1395, Ar1395, q1395, S1395, N1395n, H1395, G1395⟩ := id f1342
    have hin1395 : ¬ ((7 : Int32) < 0 ∨ cl1395.slots.size ≤ ((7 : Int32)).toNatClampNeg) := inb_of S1395 ⟨by decide, by decide⟩
    have hat1395 : cl1395.slots[((7 : Int32)).toNatClampNeg]? = some (.ref o7) := H1395.at hin1395 rfl
    refine OEnds.st (X1341.aaload hx (j := (7 : Int32)) (v := (.ref o7)) (by rw [e1341]; exact Ar1395.1) (State.isArrayOf_alike hZ.alike Ar1395.2.1) rfl Ar1395.2.2 hin1395 hat1395 (g := (mkF m 97 #[.val (.int p1), .val (.ref b1001), .val (.int (7 : Int32)), .val (.int (1 : Int32))] [(.int (7 : Int32)), (.ref b1001)])) rfl rfl (hb hby at_97)) ?_
    show OEnds p.tables e below G (T1341.setTop (mkF m 98 #[.val (.int p1), .val (.ref b1001), .val (.int (7 : Int32)), .val (.int (1 : Int32))] [(.ref o7)]))
    obtain ⟨cq1396, kq1396, q1396a, q1396b, q1396c⟩ := isOf hZ e1341 f1365
    obtain ⟨_, _, ⟨T1396, L1396, k1396c, n1396c⟩, -, X1396, ⟨Lc1396, hQ1396, l1396, y1396, z1396⟩, st1396⟩ := X1341.virtualBack hx (y := (⟨"com/example/nearfar/nearfar/StoredType", "packed", "()Z"⟩ : MethodName)) (z := (⟨"com/example/nearfar/nearfar/StoredType", "packed", "()Z"⟩ : MethodName)) hown (mvT hZ (hw _ (List.mem_of_getElem? (i := 34) rfl))) (mvT hZ (hw _ (List.mem_of_getElem? (i := 35) rfl))) (notFace_of_selects (args := #[]) (mvT hZ (hw _ (List.mem_of_getElem? (i := 47) rfl)))) (mvT hZ (hw _ (List.mem_of_getElem? (i := 47) rfl))) (mvT hZ (hw _ (List.mem_of_getElem? (i := 36) rfl))) (by decide) (backOf (W := 0) (rm1 l Z a0 hw [] o7 (0 : Int32) h1341 n0 Z1341 f1366) hZ (hw _ (List.mem_of_getElem? (i := 38) rfl)) (hw _ (List.mem_of_getElem? (i := 3) rfl)) (by decide) (by decide)) q1396a q1396c (g := (mkF m 98 #[.val (.int p1), .val (.ref b1001), .val (.int (7 : Int32)), .val (.int (1 : Int32))] [(.ref o7)])) rfl (by rw [hml]; rfl) (Steps.refl _) (argsL := []) (rest := []) (lenOf pd_0 rfl) rfl (by show 2 * 0 + _ ≤ _; exact Nat.le_of_eq rfl) (hb hby at_98) (fun _ _ => ⟨rfl, e1341, (by decide : 0 + 1 + 0 ≤ _), (by decide : 0 + 10 + 0 ≤ _)⟩)
    dsimp only [Pt.U, Pt.locs, Pt.cells, Pt.slots] at X1396 l1396 y1396 z1396 st1396 hQ1396
    subst l1396 y1396 z1396
    obtain ⟨rfl, N1396q, e1396⟩ := hQ1396
    have N1396 := Fr.app N1341 N1396q
    refine OEnds.st (fun _ k => st1396.trans k) ?_
    show OEnds p.tables e below G (T1396.setTop (mkF m 101 #[.val (.int p1), .val (.ref b1001), .val (.int (7 : Int32)), .val (.int (1 : Int32))] [(.int (own_packed (0 : Int32)))]))
    refine OEnds.st (fun _ k => XS.iloadN X1396.here hx rfl (hb hby at_101) rfl k) ?_
    show OEnds p.tables e below G (T1396.setTop (mkF m 102 #[.val (.int p1), .val (.ref b1001), .val (.int (7 : Int32)), .val (.int (1 : Int32))] [(.int (1 : Int32)), (.int (own_packed (0 : Int32)))]))
    have hc102_1397 : (own_packed (0 : Int32)) = (1 : Int32) := by decide
    refine OEnds.st (fun _ k => XS.icmpNo X1396.here hx rfl (hb hby at_102) rfl (teq hc102_1397).2 k) ?_
    show OEnds p.tables e below G (T1396.setTop (mkF m 105 #[.val (.int p1), .val (.ref b1001), .val (.int (7 : Int32)), .val (.int (1 : Int32))] []))
    refine OEnds.st (fun _ k => XS.iconst X1396.here hx rfl (hb hby at_105) k) ?_
    show OEnds p.tables e below G (T1396.setTop (mkF m 106 #[.val (.int p1), .val (.ref b1001), .val (.int (7 : Int32)), .val (.int (1 : Int32))] [(.int (1 : Int32))]))
    refine OEnds.st (fun _ k => XS.goto X1396.here hx rfl (pc0 := 106) (pc' := 110) rfl (hb hby at_106) (by decide) (by decide) k) ?_
    show OEnds p.tables e below G (T1396.setTop (mkF m 110 #[.val (.int p1), .val (.ref b1001), .val (.int (7 : Int32)), .val (.int (1 : Int32))] [(.int (1 : Int32))]))
    rw [← hG]
    refine OEnds.retZ X1396 hx hlk Bd.returns rfl (hb hby at_110) (by decide) (by decide) ?_
    rw [e1396]
    exact ⟨rfl, N1396⟩
  · -- 8
    rw [hi]
    show OEnds p.tables e below G (T1341.setTop (mkF m 78 #[.val (.int p1), .val (.ref b1001), .val (.int (8 : Int32)), .unset] []))
    refine OEnds.st (fun _ k => XS.iloadN X1341.here hx rfl (hb hby at_78) rfl k) ?_
    show OEnds p.tables e below G (T1341.setTop (mkF m 79 #[.val (.int p1), .val (.ref b1001), .val (.int (8 : Int32)), .unset] [(.int (8 : Int32))]))
    refine OEnds.st (fun _ k => XS.iconst X1341.here hx rfl (hb hby at_79) k) ?_
    show OEnds p.tables e below G (T1341.setTop (mkF m 80 #[.val (.int p1), .val (.ref b1001), .val (.int (8 : Int32)), .unset] [(.int (2 : Int32)), (.int (8 : Int32))]))
    refine OEnds.st (fun _ k => XS.icmpNo X1341.here hx rfl (hb hby at_80) rfl (flt (by decide : ¬ ((8 : Int32) < (2 : Int32)))).1 k) ?_
    show OEnds p.tables e below G (T1341.setTop (mkF m 83 #[.val (.int p1), .val (.ref b1001), .val (.int (8 : Int32)), .unset] []))
    refine OEnds.st (fun _ k => XS.iloadN X1341.here hx rfl (hb hby at_83) rfl k) ?_
    show OEnds p.tables e below G (T1341.setTop (mkF m 84 #[.val (.int p1), .val (.ref b1001), .val (.int (8 : Int32)), .unset] [(.int (8 : Int32))]))
    refine OEnds.st (fun _ k => XS.bipush X1341.here hx rfl (hb hby at_84) k) ?_
    show OEnds p.tables e below G (T1341.setTop (mkF m 86 #[.val (.int p1), .val (.ref b1001), .val (.int (8 : Int32)), .unset] [(.int (7 : Int32)), (.int (8 : Int32))]))
    refine OEnds.st (fun _ k => XS.icmpYes X1341.here hx rfl (pc0 := 86) (pc' := 93) rfl (hb hby at_86) rfl (tlt (by decide : (7 : Int32) < (8 : Int32))).2.2.1 (by decide) (by decide) k) ?_
    show OEnds p.tables e below G (T1341.setTop (mkF m 93 #[.val (.int p1), .val (.ref b1001), .val (.int (8 : Int32)), .unset] []))
    refine OEnds.st (fun _ k => XS.iconst X1341.here hx rfl (hb hby at_93) k) ?_
    show OEnds p.tables e below G (T1341.setTop (mkF m 94 #[.val (.int p1), .val (.ref b1001), .val (.int (8 : Int32)), .unset] [(.int (0 : Int32))]))
    refine OEnds.st (fun _ k => XS.istoreN X1341.here hx rfl (hb hby at_94) rfl (l' := #[.val (.int p1), .val (.ref b1001), .val (.int (8 : Int32)), .val (.int (0 : Int32))]) rfl k) ?_
    show OEnds p.tables e below G (T1341.setTop (mkF m 95 #[.val (.int p1), .val (.ref b1001), .val (.int (8 : Int32)), .val (.int (0 : Int32))] []))
    refine OEnds.st (fun _ k => XS.aloadN X1341.here hx rfl (hb hby at_95) rfl rfl k) ?_
    show OEnds p.tables e below G (T1341.setTop (mkF m 96 #[.val (.int p1), .val (.ref b1001), .val (.int (8 : Int32)), .val (.int (0 : Int32))] [(.ref b1001)]))
    refine OEnds.st (fun _ k => XS.iloadN X1341.here hx rfl (hb hby at_96) rfl k) ?_
    show OEnds p.tables e below G (T1341.setTop (mkF m 97 #[.val (.int p1), .val (.ref b1001), .val (.int (8 : Int32)), .val (.int (0 : Int32))] [(.int (8 : Int32)), (.ref b1001)]))
    obtain ⟨cl1398, Ar1398, q1398, S1398, N1398n, H1398, G1398⟩ := id f1342
    have hin1398 : ¬ ((8 : Int32) < 0 ∨ cl1398.slots.size ≤ ((8 : Int32)).toNatClampNeg) := inb_of S1398 ⟨by decide, by decide⟩
    have hat1398 : cl1398.slots[((8 : Int32)).toNatClampNeg]? = some (.ref o8) := H1398.at hin1398 rfl
    refine OEnds.st (X1341.aaload hx (j := (8 : Int32)) (v := (.ref o8)) (by rw [e1341]; exact Ar1398.1) (State.isArrayOf_alike hZ.alike Ar1398.2.1) rfl Ar1398.2.2 hin1398 hat1398 (g := (mkF m 97 #[.val (.int p1), .val (.ref b1001), .val (.int (8 : Int32)), .val (.int (0 : Int32))] [(.int (8 : Int32)), (.ref b1001)])) rfl rfl (hb hby at_97)) ?_
    show OEnds p.tables e below G (T1341.setTop (mkF m 98 #[.val (.int p1), .val (.ref b1001), .val (.int (8 : Int32)), .val (.int (0 : Int32))] [(.ref o8)]))
    obtain ⟨cq1399, kq1399, q1399a, q1399b, q1399c⟩ := isOf hZ e1341 f1368
    obtain ⟨_, _, ⟨T1399, L1399, k1399c, n1399c⟩, -, X1399, ⟨Lc1399, hQ1399, l1399, y1399, z1399⟩, st1399⟩ := X1341.virtualBack hx (y := (⟨"com/example/nearfar/nearfar/StoredType", "packed", "()Z"⟩ : MethodName)) (z := (⟨"com/example/nearfar/nearfar/StoredType", "packed", "()Z"⟩ : MethodName)) hown (mvT hZ (hw _ (List.mem_of_getElem? (i := 34) rfl))) (mvT hZ (hw _ (List.mem_of_getElem? (i := 35) rfl))) (notFace_of_selects (args := #[]) (mvT hZ (hw _ (List.mem_of_getElem? (i := 51) rfl)))) (mvT hZ (hw _ (List.mem_of_getElem? (i := 51) rfl))) (mvT hZ (hw _ (List.mem_of_getElem? (i := 36) rfl))) (by decide) (backOf (W := 0) (rm1 l Z a0 hw [] o8 (2 : Int32) h1341 n0 Z1341 f1369) hZ (hw _ (List.mem_of_getElem? (i := 38) rfl)) (hw _ (List.mem_of_getElem? (i := 3) rfl)) (by decide) (by decide)) q1399a q1399c (g := (mkF m 98 #[.val (.int p1), .val (.ref b1001), .val (.int (8 : Int32)), .val (.int (0 : Int32))] [(.ref o8)])) rfl (by rw [hml]; rfl) (Steps.refl _) (argsL := []) (rest := []) (lenOf pd_0 rfl) rfl (by show 2 * 0 + _ ≤ _; exact Nat.le_of_eq rfl) (hb hby at_98) (fun _ _ => ⟨rfl, e1341, (by decide : 0 + 1 + 0 ≤ _), (by decide : 0 + 10 + 0 ≤ _)⟩)
    dsimp only [Pt.U, Pt.locs, Pt.cells, Pt.slots] at X1399 l1399 y1399 z1399 st1399 hQ1399
    subst l1399 y1399 z1399
    obtain ⟨rfl, N1399q, e1399⟩ := hQ1399
    have N1399 := Fr.app N1341 N1399q
    refine OEnds.st (fun _ k => st1399.trans k) ?_
    show OEnds p.tables e below G (T1399.setTop (mkF m 101 #[.val (.int p1), .val (.ref b1001), .val (.int (8 : Int32)), .val (.int (0 : Int32))] [(.int (own_packed (2 : Int32)))]))
    refine OEnds.st (fun _ k => XS.iloadN X1399.here hx rfl (hb hby at_101) rfl k) ?_
    show OEnds p.tables e below G (T1399.setTop (mkF m 102 #[.val (.int p1), .val (.ref b1001), .val (.int (8 : Int32)), .val (.int (0 : Int32))] [(.int (0 : Int32)), (.int (own_packed (2 : Int32)))]))
    have hc102_1400 : (own_packed (2 : Int32)) = (0 : Int32) := by decide
    refine OEnds.st (fun _ k => XS.icmpNo X1399.here hx rfl (hb hby at_102) rfl (teq hc102_1400).2 k) ?_
    show OEnds p.tables e below G (T1399.setTop (mkF m 105 #[.val (.int p1), .val (.ref b1001), .val (.int (8 : Int32)), .val (.int (0 : Int32))] []))
    refine OEnds.st (fun _ k => XS.iconst X1399.here hx rfl (hb hby at_105) k) ?_
    show OEnds p.tables e below G (T1399.setTop (mkF m 106 #[.val (.int p1), .val (.ref b1001), .val (.int (8 : Int32)), .val (.int (0 : Int32))] [(.int (1 : Int32))]))
    refine OEnds.st (fun _ k => XS.goto X1399.here hx rfl (pc0 := 106) (pc' := 110) rfl (hb hby at_106) (by decide) (by decide) k) ?_
    show OEnds p.tables e below G (T1399.setTop (mkF m 110 #[.val (.int p1), .val (.ref b1001), .val (.int (8 : Int32)), .val (.int (0 : Int32))] [(.int (1 : Int32))]))
    rw [← hG]
    refine OEnds.retZ X1399 hx hlk Bd.returns rfl (hb hby at_110) (by decide) (by decide) ?_
    rw [e1399]
    exact ⟨rfl, N1399⟩
  · -- 9
    rw [hi]
    show OEnds p.tables e below G (T1341.setTop (mkF m 78 #[.val (.int p1), .val (.ref b1001), .val (.int (9 : Int32)), .unset] []))
    refine OEnds.st (fun _ k => XS.iloadN X1341.here hx rfl (hb hby at_78) rfl k) ?_
    show OEnds p.tables e below G (T1341.setTop (mkF m 79 #[.val (.int p1), .val (.ref b1001), .val (.int (9 : Int32)), .unset] [(.int (9 : Int32))]))
    refine OEnds.st (fun _ k => XS.iconst X1341.here hx rfl (hb hby at_79) k) ?_
    show OEnds p.tables e below G (T1341.setTop (mkF m 80 #[.val (.int p1), .val (.ref b1001), .val (.int (9 : Int32)), .unset] [(.int (2 : Int32)), (.int (9 : Int32))]))
    refine OEnds.st (fun _ k => XS.icmpNo X1341.here hx rfl (hb hby at_80) rfl (flt (by decide : ¬ ((9 : Int32) < (2 : Int32)))).1 k) ?_
    show OEnds p.tables e below G (T1341.setTop (mkF m 83 #[.val (.int p1), .val (.ref b1001), .val (.int (9 : Int32)), .unset] []))
    refine OEnds.st (fun _ k => XS.iloadN X1341.here hx rfl (hb hby at_83) rfl k) ?_
    show OEnds p.tables e below G (T1341.setTop (mkF m 84 #[.val (.int p1), .val (.ref b1001), .val (.int (9 : Int32)), .unset] [(.int (9 : Int32))]))
    refine OEnds.st (fun _ k => XS.bipush X1341.here hx rfl (hb hby at_84) k) ?_
    show OEnds p.tables e below G (T1341.setTop (mkF m 86 #[.val (.int p1), .val (.ref b1001), .val (.int (9 : Int32)), .unset] [(.int (7 : Int32)), (.int (9 : Int32))]))
    refine OEnds.st (fun _ k => XS.icmpYes X1341.here hx rfl (pc0 := 86) (pc' := 93) rfl (hb hby at_86) rfl (tlt (by decide : (7 : Int32) < (9 : Int32))).2.2.1 (by decide) (by decide) k) ?_
    show OEnds p.tables e below G (T1341.setTop (mkF m 93 #[.val (.int p1), .val (.ref b1001), .val (.int (9 : Int32)), .unset] []))
    refine OEnds.st (fun _ k => XS.iconst X1341.here hx rfl (hb hby at_93) k) ?_
    show OEnds p.tables e below G (T1341.setTop (mkF m 94 #[.val (.int p1), .val (.ref b1001), .val (.int (9 : Int32)), .unset] [(.int (0 : Int32))]))
    refine OEnds.st (fun _ k => XS.istoreN X1341.here hx rfl (hb hby at_94) rfl (l' := #[.val (.int p1), .val (.ref b1001), .val (.int (9 : Int32)), .val (.int (0 : Int32))]) rfl k) ?_
    show OEnds p.tables e below G (T1341.setTop (mkF m 95 #[.val (.int p1), .val (.ref b1001), .val (.int (9 : Int32)), .val (.int (0 : Int32))] []))
    refine OEnds.st (fun _ k => XS.aloadN X1341.here hx rfl (hb hby at_95) rfl rfl k) ?_
    show OEnds p.tables e below G (T1341.setTop (mkF m 96 #[.val (.int p1), .val (.ref b1001), .val (.int (9 : Int32)), .val (.int (0 : Int32))] [(.ref b1001)]))
    refine OEnds.st (fun _ k => XS.iloadN X1341.here hx rfl (hb hby at_96) rfl k) ?_
    show OEnds p.tables e below G (T1341.setTop (mkF m 97 #[.val (.int p1), .val (.ref b1001), .val (.int (9 : Int32)), .val (.int (0 : Int32))] [(.int (9 : Int32)), (.ref b1001)]))
    obtain ⟨cl1401, Ar1401, q1401, S1401, N1401n, H1401, G1401⟩ := id f1342
    have hin1401 : ¬ ((9 : Int32) < 0 ∨ cl1401.slots.size ≤ ((9 : Int32)).toNatClampNeg) := inb_of S1401 ⟨by decide, by decide⟩
    have hat1401 : cl1401.slots[((9 : Int32)).toNatClampNeg]? = some (.ref o9) := H1401.at hin1401 rfl
    refine OEnds.st (X1341.aaload hx (j := (9 : Int32)) (v := (.ref o9)) (by rw [e1341]; exact Ar1401.1) (State.isArrayOf_alike hZ.alike Ar1401.2.1) rfl Ar1401.2.2 hin1401 hat1401 (g := (mkF m 97 #[.val (.int p1), .val (.ref b1001), .val (.int (9 : Int32)), .val (.int (0 : Int32))] [(.int (9 : Int32)), (.ref b1001)])) rfl rfl (hb hby at_97)) ?_
    show OEnds p.tables e below G (T1341.setTop (mkF m 98 #[.val (.int p1), .val (.ref b1001), .val (.int (9 : Int32)), .val (.int (0 : Int32))] [(.ref o9)]))
    obtain ⟨cq1402, kq1402, q1402a, q1402b, q1402c⟩ := isOf hZ e1341 f1371
    obtain ⟨_, _, ⟨T1402, L1402, k1402c, n1402c⟩, -, X1402, ⟨Lc1402, hQ1402, l1402, y1402, z1402⟩, st1402⟩ := X1341.virtualBack hx (y := (⟨"com/example/nearfar/nearfar/StoredType", "packed", "()Z"⟩ : MethodName)) (z := (⟨"com/example/nearfar/nearfar/StoredType", "packed", "()Z"⟩ : MethodName)) hown (mvT hZ (hw _ (List.mem_of_getElem? (i := 34) rfl))) (mvT hZ (hw _ (List.mem_of_getElem? (i := 35) rfl))) (notFace_of_selects (args := #[]) (mvT hZ (hw _ (List.mem_of_getElem? (i := 53) rfl)))) (mvT hZ (hw _ (List.mem_of_getElem? (i := 53) rfl))) (mvT hZ (hw _ (List.mem_of_getElem? (i := 36) rfl))) (by decide) (backOf (W := 0) (rm1 l Z a0 hw [] o9 (2 : Int32) h1341 n0 Z1341 f1372) hZ (hw _ (List.mem_of_getElem? (i := 38) rfl)) (hw _ (List.mem_of_getElem? (i := 3) rfl)) (by decide) (by decide)) q1402a q1402c (g := (mkF m 98 #[.val (.int p1), .val (.ref b1001), .val (.int (9 : Int32)), .val (.int (0 : Int32))] [(.ref o9)])) rfl (by rw [hml]; rfl) (Steps.refl _) (argsL := []) (rest := []) (lenOf pd_0 rfl) rfl (by show 2 * 0 + _ ≤ _; exact Nat.le_of_eq rfl) (hb hby at_98) (fun _ _ => ⟨rfl, e1341, (by decide : 0 + 1 + 0 ≤ _), (by decide : 0 + 10 + 0 ≤ _)⟩)
    dsimp only [Pt.U, Pt.locs, Pt.cells, Pt.slots] at X1402 l1402 y1402 z1402 st1402 hQ1402
    subst l1402 y1402 z1402
    obtain ⟨rfl, N1402q, e1402⟩ := hQ1402
    have N1402 := Fr.app N1341 N1402q
    refine OEnds.st (fun _ k => st1402.trans k) ?_
    show OEnds p.tables e below G (T1402.setTop (mkF m 101 #[.val (.int p1), .val (.ref b1001), .val (.int (9 : Int32)), .val (.int (0 : Int32))] [(.int (own_packed (2 : Int32)))]))
    refine OEnds.st (fun _ k => XS.iloadN X1402.here hx rfl (hb hby at_101) rfl k) ?_
    show OEnds p.tables e below G (T1402.setTop (mkF m 102 #[.val (.int p1), .val (.ref b1001), .val (.int (9 : Int32)), .val (.int (0 : Int32))] [(.int (0 : Int32)), (.int (own_packed (2 : Int32)))]))
    have hc102_1403 : (own_packed (2 : Int32)) = (0 : Int32) := by decide
    refine OEnds.st (fun _ k => XS.icmpNo X1402.here hx rfl (hb hby at_102) rfl (teq hc102_1403).2 k) ?_
    show OEnds p.tables e below G (T1402.setTop (mkF m 105 #[.val (.int p1), .val (.ref b1001), .val (.int (9 : Int32)), .val (.int (0 : Int32))] []))
    refine OEnds.st (fun _ k => XS.iconst X1402.here hx rfl (hb hby at_105) k) ?_
    show OEnds p.tables e below G (T1402.setTop (mkF m 106 #[.val (.int p1), .val (.ref b1001), .val (.int (9 : Int32)), .val (.int (0 : Int32))] [(.int (1 : Int32))]))
    refine OEnds.st (fun _ k => XS.goto X1402.here hx rfl (pc0 := 106) (pc' := 110) rfl (hb hby at_106) (by decide) (by decide) k) ?_
    show OEnds p.tables e below G (T1402.setTop (mkF m 110 #[.val (.int p1), .val (.ref b1001), .val (.int (9 : Int32)), .val (.int (0 : Int32))] [(.int (1 : Int32))]))
    rw [← hG]
    refine OEnds.retZ X1402 hx hlk Bd.returns rfl (hb hby at_110) (by decide) (by decide) ?_
    rw [e1402]
    exact ⟨rfl, N1402⟩
set_option maxRecDepth 65536 in
set_option maxHeartbeats 40000000 in
theorem comes_1 {Post : Tables → Env → Array Value → State → Outcome → State → Prop} (hpost : ∀ tb e args s v u, (limb_1_1.after args s (.returned v) u = true ∧ limb_1_2.after args s (.returned v) u = true ∧ True) → FrameEnd s (.returned v) u (Jvm.fieldLocs frame_1_writes args s ++ Jvm.arrayLocs frame_1_arrays args s ++ Jvm.staticLocs frame_1_statics s) 16 128 → Post tb e args s (.returned v) u) :
    ArmFor flags0 classFile x code maxLocals ret World_1 tables_1 room_1 Calls_1 rest_1 Pre_1 Post := by
  intro l hfl _ _ p e ha hc hk s m args below hf hA hF happ hP
  obtain ⟨hcalls, hrest, hpre⟩ := hP
  obtain ⟨-, -, -, hnamed, -, -, -, hat⟩ := (Spec.applies_iff hf).mp happ
  obtain ⟨hg, hn⟩ := and_e (Cond.before_iff.mp (show (Jvm.Cond.and given_1 narrow_1).before args s = true from hpre))
  obtain ⟨gc, gr0⟩ := and_e hg
  obtain ⟨w0, rfl⟩ : ∃ w0 : Value, args = #[w0] := by
    have hs : args.size = 1 := by simpa [Cond.value, given_1] using gc
    obtain ⟨L⟩ := args
    match L, hs with
    | [w0], _ => exact ⟨w0, rfl⟩
  have hw := fun d (hd : d ∈ tables_1) => atoms_spec (ws := Jvm.Cond.code x code maxLocals ret :: tables_1) hat d (List.mem_cons_of_mem _ hd)
  have hfit : Fit s := fun {y c} hc i hi => by
    obtain ⟨ha, rfl⟩ := Array.getElem?_eq_some_iff.mp hc
    have q := List.all_eq_true.mp ((Array.all_eq_true_iff_forall_mem.mp hF) _ (Array.getElem_mem ha)) i (List.mem_range.mpr hi)
    simpa [Array.getElem?_eq_getElem hi] using q
  obtain ⟨i0, ei0⟩ := is_v gr0
  obtain rfl : w0 = (.int i0) := Option.some.inj ei0
  obtain ⟨nc0, hm0⟩ := and_e hn
  obtain ⟨nc1, hm1⟩ := and_e hm0
  obtain ⟨nc2, hm2⟩ := and_e hm1
  obtain ⟨nc3, hm3⟩ := and_e hm2
  obtain ⟨nc4, hm4⟩ := and_e hm3
  obtain ⟨nc5, hm5⟩ := and_e hm4
  obtain ⟨nc6, hm6⟩ := and_e hm5
  obtain ⟨nc7, hm7⟩ := and_e hm6
  obtain ⟨nc8, hm8⟩ := and_e hm7
  obtain ⟨nc9, hm9⟩ := and_e hm8
  obtain ⟨nc10, hm10⟩ := and_e hm9
  obtain ⟨nc11, hm11⟩ := and_e hm10
  obtain ⟨nc12, hm12⟩ := and_e hm11
  obtain ⟨nc13, hm13⟩ := and_e hm12
  obtain ⟨nc14, hm14⟩ := and_e hm13
  obtain ⟨nc15, hm15⟩ := and_e hm14
  obtain ⟨nc16, hm16⟩ := and_e hm15
  obtain ⟨nc17, hm17⟩ := and_e hm16
  obtain ⟨nc18, hm18⟩ := and_e hm17
  obtain ⟨o0, ev0⟩ := exa_v nc0
  obtain ⟨o1, ev1⟩ := exa_v nc1
  obtain ⟨o2, ev2⟩ := exa_v nc2
  obtain ⟨o3, ev3⟩ := exa_v nc3
  obtain ⟨o4, ev4⟩ := exa_v nc4
  obtain ⟨o5, ev5⟩ := exa_v nc5
  obtain ⟨o6, ev6⟩ := exa_v nc6
  obtain ⟨o7, ev7⟩ := exa_v nc7
  obtain ⟨o8, ev8⟩ := exa_v nc8
  obtain ⟨o9, ev9⟩ := exa_v nc9
  obtain ⟨n, o, h1, h2, h3, _, L, rfl, ⟨rfl, N⟩, hq⟩ := rm0 l s _ hw tables_1 i0 o0 o1 o2 o3 o4 o5 o6 o7 o8 o9 s.heap s.heap.size (Nat.le_refl _) (Sta.start ev0 (Or.inr ⟨(hw _ (List.mem_of_getElem? (i := 3) rfl)), (hw _ (List.mem_of_getElem? (i := 4) rfl))⟩)) (Exa.start ev0 nc0) (own_fld ev0 nc10) (Sta.start ev1 (Or.inr ⟨(hw _ (List.mem_of_getElem? (i := 3) rfl)), (hw _ (List.mem_of_getElem? (i := 7) rfl))⟩)) (Exa.start ev1 nc1) (own_fld ev1 nc12) (Sta.start ev2 (Or.inr ⟨(hw _ (List.mem_of_getElem? (i := 3) rfl)), (hw _ (List.mem_of_getElem? (i := 10) rfl))⟩)) (Exa.start ev2 nc2) (own_fld ev2 nc15) (Sta.start ev3 (Or.inr ⟨(hw _ (List.mem_of_getElem? (i := 3) rfl)), (hw _ (List.mem_of_getElem? (i := 13) rfl))⟩)) (Exa.start ev3 nc3) (own_fld ev3 nc11) (Sta.start ev4 (Or.inr ⟨(hw _ (List.mem_of_getElem? (i := 3) rfl)), (hw _ (List.mem_of_getElem? (i := 16) rfl))⟩)) (Exa.start ev4 nc4) (own_fld ev4 nc13) (Sta.start ev5 (Or.inr ⟨(hw _ (List.mem_of_getElem? (i := 3) rfl)), (hw _ (List.mem_of_getElem? (i := 19) rfl))⟩)) (Exa.start ev5 nc5) (own_fld ev5 nc18) (Sta.start ev6 (Or.inr ⟨(hw _ (List.mem_of_getElem? (i := 3) rfl)), (hw _ (List.mem_of_getElem? (i := 22) rfl))⟩)) (Exa.start ev6 nc6) (own_fld ev6 hm18) (Sta.start ev7 (Or.inr ⟨(hw _ (List.mem_of_getElem? (i := 3) rfl)), (hw _ (List.mem_of_getElem? (i := 25) rfl))⟩)) (Exa.start ev7 nc7) (own_fld ev7 nc14) (Sta.start ev8 (Or.inr ⟨(hw _ (List.mem_of_getElem? (i := 3) rfl)), (hw _ (List.mem_of_getElem? (i := 28) rfl))⟩)) (Exa.start ev8 nc8) (own_fld ev8 nc16) (Sta.start ev9 (Or.inr ⟨(hw _ (List.mem_of_getElem? (i := 3) rfl)), (hw _ (List.mem_of_getElem? (i := 31) rfl))⟩)) (Exa.start ev9 nc9) (own_fld ev9 nc17) p e ha hc hk s m _ below hf ((Spec.applies_iff_loose hf).mp happ).1 ⟨rfl, State.Warmed39.refl s, rfl⟩ trivial
  refine ⟨n, _, h1, h2, h3, hpost _ _ _ _ _ _ ⟨Cond.after_iff.mpr rfl, Cond.after_iff.mpr (eq_i res_at (Term.int_eval (1)) rfl), trivial⟩ ⟨hq.1, hq.2.1, (hq.2.2.sift fun y hy => Or.inr (N y hy)).mono (by decide) (by decide)⟩⟩
theorem main_1_1 : Claimed_1_1 := comes_1 fun _ _ _ _ _ _ h hF => ⟨h.1, hF⟩
theorem main_1_2 : Claimed_1_2 := comes_1 fun _ _ _ _ _ _ h hF => ⟨h.2.1, hF⟩
end Jvm.Pilot.@@N@@
namespace Jvm.Pilot.@@N@@
open Jvm Jvm.ClassFile Sem Op Lib Jvm.Free Jvm.Stand Jvm.Pilot.@@N@@.Jvm.D
/-! MADE BY PROGRAM (witnessworld.py) out of the Statement's table words and the real class files: 23 classes; the members and pool entries that the words name. The judged class is class 1, her method 1. -/
namespace start1
open Jvm.ClassFile
def u (s : String) : CpInfo := .utf8 (stringToUtf16 s)
/-- a pool by its gaps: so many unusable entries, then the entry; so many at the end -/
def gap : Nat → List CpInfo → List CpInfo
  | 0, r => r
  | n + 1, r => .unusable :: gap n r
def poolList (es : List (Nat × CpInfo)) (last : Nat) : List CpInfo := es.foldr (fun e r => gap e.1 (e.2 :: r)) (gap last [])
def pool (es : List (Nat × CpInfo)) (last : Nat) : Array CpInfo := ⟨poolList es last⟩
def fileOf (pool : Array CpInfo) (this : Nat) (attrs : Array Attribute := #[]) (ms : Array MethodInfo := #[]) (fl : Nat := 33) (sup : Nat := 0) (ifs : Array Nat := #[]) (fds : Array FieldInfo := #[]) : ClassFile where
  minorVersion := 0
  majorVersion := 65
  constantPool := pool
  accessFlags := fl
  thisClass := this
  superClass := sup
  interfaces := ifs
  fields := fds
  methods := ms
  attributes := attrs
def plain (name : String) (sup : Option ClassId) : Class where
  name := name
  kind := .ordinary
  loader := none
  accessFlags := 33
  super := sup
  interfaces := #[]
  cf := none
  fields := #[]
  methods := #[]
  instanceTypes := #[]
  staticTypes := #[]
  resolved := #[]
  callSites := []
  init := .initialized
  statics := none
  mirror := none

def pool0 : Array CpInfo := pool [(5, u "<init>"), (0, u "()V"), (1, .class_ 10), (1, u "java/lang/Object")] 113

def k0m0 : Method := { name := "<init>", desc := "()V", sig := { parameters := [], returnType := none }, accessFlags := 1, code := none }
/-- java/lang/Object -/
def k0 : Class := { plain "java/lang/Object" none with
  accessFlags := 33
  interfaces := #[]
  cf := some (fileOf pool0 8 #[] #[{ accessFlags := 1, nameIndex := 5, descriptorIndex := 6, attributes := #[] }] 33 0 #[] #[])
  fields := #[]
  methods := #[k0m0]
  instanceTypes := #[]
  staticTypes := #[]
  resolved := Array.replicate 124 none
  statics := none }

def pool1 : Array CpInfo := pool [(2, .class_ 4), (1, u "java/lang/Object"), (0, u "<init>"), (0, u "()V"), (0, .class_ 8), (0, u "com/example/nearfar/nearfar/StoredType"), (0, .fieldref 7 10), (0, .nameAndType 11 12), (0, u "STRING"), (0, u "Lcom/example/nearfar/nearfar/StoredType;"), (0, .fieldref 7 14), (0, .nameAndType 15 12), (0, u "BYTES"), (0, .fieldref 7 17), (0, .nameAndType 18 12), (0, u "SINT32"), (0, .fieldref 7 20), (0, .nameAndType 21 12), (0, u "SINT64"), (0, .fieldref 7 23), (0, .nameAndType 24 12), (0, u "DOUBLE"), (0, .fieldref 7 26), (0, .nameAndType 27 12), (0, u "FLOAT"), (0, .fieldref 7 29), (0, .nameAndType 30 12), (0, u "BOOL"), (0, .fieldref 7 32), (0, .nameAndType 33 12), (0, u "ENUM"), (0, .fieldref 7 35), (0, .nameAndType 36 12), (0, u "TIMESTAMP"), (0, .fieldref 7 38), (0, .nameAndType 39 12), (0, u "DURATION"), (0, .integer 2147483647), (0, .methodref 7 42), (0, .nameAndType 43 44), (0, u "packed"), (0, u "()Z"), (0, .class_ 46), (0, u "com/example/nearfar/nearfar/StoredTypePackedPinLaw"), (2, u "law"), (0, u "(I)Z")] 5

def k1m0 : Method := { name := "<init>", desc := "()V", sig := { parameters := [], returnType := none }, accessFlags := 2, code := none }
def k1c1 : Code := { maxStack := 4, maxLocals := 4, code := code, exceptionTable := #[], attributes := #[] }
def k1m1 : Method := { name := "law", desc := "(I)Z", sig := { parameters := [.int], returnType := some .boolean }, accessFlags := 9, code := some k1c1 }
/-- com/example/nearfar/nearfar/StoredTypePackedPinLaw -/
def k1 : Class := { plain "com/example/nearfar/nearfar/StoredTypePackedPinLaw" (some 0) with
  accessFlags := 49
  interfaces := #[]
  cf := some (fileOf pool1 45 #[] #[{ accessFlags := 2, nameIndex := 5, descriptorIndex := 6, attributes := #[] }, { accessFlags := 9, nameIndex := 49, descriptorIndex := 50, attributes := #[] }] 49 2 #[] #[])
  fields := #[]
  methods := #[k1m0, k1m1]
  instanceTypes := #[]
  staticTypes := #[]
  resolved := Array.replicate 56 none
  statics := none }

def pool2 : Array CpInfo := pool [(1, .class_ 2), (0, u "java/lang/constant/Constable"), (0, .class_ 4), (0, u "java/lang/Object")] 6

/-- java/lang/constant/Constable -/
def k2 : Class := { plain "java/lang/constant/Constable" (some 0) with
  accessFlags := 1537
  interfaces := #[]
  cf := some (fileOf pool2 1 #[] #[] 1537 3 #[] #[])
  fields := #[]
  methods := #[]
  instanceTypes := #[]
  staticTypes := #[]
  resolved := Array.replicate 11 none
  statics := none }

def pool3 : Array CpInfo := pool [(1, .class_ 2), (0, u "java/lang/Comparable"), (0, .class_ 4), (0, u "java/lang/Object")] 7

/-- java/lang/Comparable -/
def k3 : Class := { plain "java/lang/Comparable" (some 0) with
  accessFlags := 1537
  interfaces := #[]
  cf := some (fileOf pool3 1 #[] #[] 1537 3 #[] #[])
  fields := #[]
  methods := #[]
  instanceTypes := #[]
  staticTypes := #[]
  resolved := Array.replicate 12 none
  statics := none }

def pool4 : Array CpInfo := pool [(1, .class_ 2), (0, u "java/io/Serializable"), (0, .class_ 4), (0, u "java/lang/Object")] 2

/-- java/io/Serializable -/
def k4 : Class := { plain "java/io/Serializable" (some 0) with
  accessFlags := 1537
  interfaces := #[]
  cf := some (fileOf pool4 1 #[] #[] 1537 3 #[] #[])
  fields := #[]
  methods := #[]
  instanceTypes := #[]
  staticTypes := #[]
  resolved := Array.replicate 7 none
  statics := none }

def pool5 : Array CpInfo := pool [(2, .class_ 4), (1, u "java/lang/Enum"), (0, u "name"), (0, u "Ljava/lang/String;"), (2, u "ordinal"), (0, u "I"), (1, .class_ 14), (1, u "java/lang/Object"), (4, u "hash"), (86, .class_ 108), (1, u "java/lang/Enum$EnumDesc"), (2, .class_ 112), (0, u "java/lang/constant/Constable"), (0, .class_ 114), (0, u "java/lang/Comparable"), (0, .class_ 116), (0, u "java/io/Serializable")] 87

/-- java/lang/Enum -/
def k5 : Class := { plain "java/lang/Enum" (some 0) with
  accessFlags := 1057
  interfaces := #[2, 3, 4]
  cf := some (fileOf pool5 2 #[.nestMembers #[106]] #[] 1057 12 #[111, 113, 115] #[{ accessFlags := 18, nameIndex := 5, descriptorIndex := 6, attributes := #[] }, { accessFlags := 18, nameIndex := 9, descriptorIndex := 10, attributes := #[] }, { accessFlags := 2, nameIndex := 19, descriptorIndex := 10, attributes := #[] }])
  fields := #[{ name := "name", type := (.object "java/lang/String"), accessFlags := 18, slot := 0, constantValue := 0 }, { name := "ordinal", type := .int, accessFlags := 18, slot := 1, constantValue := 0 }, { name := "hash", type := .int, accessFlags := 2, slot := 2, constantValue := 0 }]
  methods := #[]
  instanceTypes := #[(.object "java/lang/String"), .int, .int]
  staticTypes := #[]
  resolved := Array.replicate 204 none
  statics := none }

def pool6 : Array CpInfo := pool [(1, .class_ 2), (0, u "com/example/nearfar/nearfar/StoredType"), (2, u "STRING"), (0, u "Lcom/example/nearfar/nearfar/StoredType;"), (2, u "BYTES"), (2, u "SINT32"), (2, u "SINT64"), (2, u "DOUBLE"), (2, u "FLOAT"), (2, u "BOOL"), (2, u "ENUM"), (2, u "TIMESTAMP"), (2, u "DURATION"), (2, u "$VALUES"), (0, u "[Lcom/example/nearfar/nearfar/StoredType;"), (6, .class_ 46), (1, u "java/lang/Enum"), (8, u "descriptorType"), (0, u "I"), (0, .fieldref 1 58), (0, .nameAndType 59 56), (0, u "wireType"), (2, u "integer"), (0, u "Z"), (2, u "defaultValue"), (0, u "Ljava/lang/Object;"), (2, u "fileName"), (0, u "Ljava/lang/String;"), (2, u "messageName"), (42, u "()Z"), (20, .class_ 140), (1, u "com/example/nearfar/nearfar/StoredType$SecondsAndNanos"), (5, .class_ 147), (0, u "com/example/nearfar/nearfar/StoredType$1"), (8, .class_ 157), (0, u "com/example/nearfar/nearfar/StoredType$2"), (2, .class_ 161), (0, u "com/example/nearfar/nearfar/StoredType$3"), (7, .class_ 170), (0, u "com/example/nearfar/nearfar/StoredType$4"), (7, .class_ 179), (0, u "com/example/nearfar/nearfar/StoredType$5"), (7, .class_ 188), (0, u "com/example/nearfar/nearfar/StoredType$6"), (7, .class_ 197), (0, u "com/example/nearfar/nearfar/StoredType$7"), (7, .class_ 206), (0, u "com/example/nearfar/nearfar/StoredType$8"), (2, .class_ 210), (0, u "com/example/nearfar/nearfar/StoredType$9"), (12, .class_ 224), (0, u "com/example/nearfar/nearfar/StoredType$10"), (15, u "WELL_KNOWN_PACKAGE"), (3, u "SECONDS_NUMBER"), (1, u "NANOS_NUMBER"), (1, u "NANOS_PER_SECOND"), (9, u "packed")] 37

def k6c0 : Code := { maxStack := 2, maxLocals := 1, code := prog_50_method_7_code, exceptionTable := #[], attributes := #[] }
def k6m0 : Method := { name := "packed", desc := "()Z", sig := { parameters := [], returnType := some .boolean }, accessFlags := 0, code := some k6c0 }
/-- com/example/nearfar/nearfar/StoredType -/
def k6 : Class := { plain "com/example/nearfar/nearfar/StoredType" (some 5) with
  accessFlags := 17440
  interfaces := #[]
  cf := some (fileOf pool6 1 #[.nestMembers #[138, 223, 209, 205, 196, 187, 178, 169, 160, 156, 146]] #[{ accessFlags := 0, nameIndex := 258, descriptorIndex := 117, attributes := #[] }] 17440 44 #[] #[{ accessFlags := 16409, nameIndex := 5, descriptorIndex := 6, attributes := #[] }, { accessFlags := 16409, nameIndex := 9, descriptorIndex := 6, attributes := #[] }, { accessFlags := 16409, nameIndex := 12, descriptorIndex := 6, attributes := #[] }, { accessFlags := 16409, nameIndex := 15, descriptorIndex := 6, attributes := #[] }, { accessFlags := 16409, nameIndex := 18, descriptorIndex := 6, attributes := #[] }, { accessFlags := 16409, nameIndex := 21, descriptorIndex := 6, attributes := #[] }, { accessFlags := 16409, nameIndex := 24, descriptorIndex := 6, attributes := #[] }, { accessFlags := 16409, nameIndex := 27, descriptorIndex := 6, attributes := #[] }, { accessFlags := 16409, nameIndex := 30, descriptorIndex := 6, attributes := #[] }, { accessFlags := 16409, nameIndex := 33, descriptorIndex := 6, attributes := #[] }, { accessFlags := 24, nameIndex := 240, descriptorIndex := 71, attributes := #[] }, { accessFlags := 24, nameIndex := 244, descriptorIndex := 56, attributes := #[] }, { accessFlags := 24, nameIndex := 246, descriptorIndex := 56, attributes := #[] }, { accessFlags := 26, nameIndex := 248, descriptorIndex := 56, attributes := #[] }, { accessFlags := 18, nameIndex := 55, descriptorIndex := 56, attributes := #[] }, { accessFlags := 18, nameIndex := 59, descriptorIndex := 56, attributes := #[] }, { accessFlags := 18, nameIndex := 62, descriptorIndex := 63, attributes := #[] }, { accessFlags := 18, nameIndex := 66, descriptorIndex := 67, attributes := #[] }, { accessFlags := 18, nameIndex := 70, descriptorIndex := 71, attributes := #[] }, { accessFlags := 18, nameIndex := 74, descriptorIndex := 71, attributes := #[] }, { accessFlags := 4122, nameIndex := 36, descriptorIndex := 37, attributes := #[] }])
  fields := #[{ name := "STRING", type := (.object "com/example/nearfar/nearfar/StoredType"), accessFlags := 16409, slot := 0, constantValue := 0 }, { name := "BYTES", type := (.object "com/example/nearfar/nearfar/StoredType"), accessFlags := 16409, slot := 1, constantValue := 0 }, { name := "SINT32", type := (.object "com/example/nearfar/nearfar/StoredType"), accessFlags := 16409, slot := 2, constantValue := 0 }, { name := "SINT64", type := (.object "com/example/nearfar/nearfar/StoredType"), accessFlags := 16409, slot := 3, constantValue := 0 }, { name := "DOUBLE", type := (.object "com/example/nearfar/nearfar/StoredType"), accessFlags := 16409, slot := 4, constantValue := 0 }, { name := "FLOAT", type := (.object "com/example/nearfar/nearfar/StoredType"), accessFlags := 16409, slot := 5, constantValue := 0 }, { name := "BOOL", type := (.object "com/example/nearfar/nearfar/StoredType"), accessFlags := 16409, slot := 6, constantValue := 0 }, { name := "ENUM", type := (.object "com/example/nearfar/nearfar/StoredType"), accessFlags := 16409, slot := 7, constantValue := 0 }, { name := "TIMESTAMP", type := (.object "com/example/nearfar/nearfar/StoredType"), accessFlags := 16409, slot := 8, constantValue := 0 }, { name := "DURATION", type := (.object "com/example/nearfar/nearfar/StoredType"), accessFlags := 16409, slot := 9, constantValue := 0 }, { name := "WELL_KNOWN_PACKAGE", type := (.object "java/lang/String"), accessFlags := 24, slot := 10, constantValue := 0 }, { name := "SECONDS_NUMBER", type := .int, accessFlags := 24, slot := 11, constantValue := 0 }, { name := "NANOS_NUMBER", type := .int, accessFlags := 24, slot := 12, constantValue := 0 }, { name := "NANOS_PER_SECOND", type := .int, accessFlags := 26, slot := 13, constantValue := 0 }, { name := "descriptorType", type := .int, accessFlags := 18, slot := 3, constantValue := 0 }, { name := "wireType", type := .int, accessFlags := 18, slot := 4, constantValue := 0 }, { name := "integer", type := .boolean, accessFlags := 18, slot := 5, constantValue := 0 }, { name := "defaultValue", type := (.object "java/lang/Object"), accessFlags := 18, slot := 6, constantValue := 0 }, { name := "fileName", type := (.object "java/lang/String"), accessFlags := 18, slot := 7, constantValue := 0 }, { name := "messageName", type := (.object "java/lang/String"), accessFlags := 18, slot := 8, constantValue := 0 }, { name := "$VALUES", type := (.array (.object "com/example/nearfar/nearfar/StoredType")), accessFlags := 4122, slot := 14, constantValue := 0 }]
  methods := #[k6m0]
  instanceTypes := #[(.object "java/lang/String"), .int, .int, .int, .int, .boolean, (.object "java/lang/Object"), (.object "java/lang/String"), (.object "java/lang/String")]
  staticTypes := #[(.object "com/example/nearfar/nearfar/StoredType"), (.object "com/example/nearfar/nearfar/StoredType"), (.object "com/example/nearfar/nearfar/StoredType"), (.object "com/example/nearfar/nearfar/StoredType"), (.object "com/example/nearfar/nearfar/StoredType"), (.object "com/example/nearfar/nearfar/StoredType"), (.object "com/example/nearfar/nearfar/StoredType"), (.object "com/example/nearfar/nearfar/StoredType"), (.object "com/example/nearfar/nearfar/StoredType"), (.object "com/example/nearfar/nearfar/StoredType"), (.object "java/lang/String"), .int, .int, .int, (.array (.object "com/example/nearfar/nearfar/StoredType"))]
  resolved := Array.replicate 296 none
  statics := some 0 }

def pool7 : Array CpInfo := pool [(2, .class_ 4), (1, u "com/example/nearfar/nearfar/StoredType"), (15, .class_ 21), (0, u "com/example/nearfar/nearfar/StoredType$1")] 12

/-- com/example/nearfar/nearfar/StoredType$1 -/
def k7 : Class := { plain "com/example/nearfar/nearfar/StoredType$1" (some 6) with
  accessFlags := 16432
  interfaces := #[]
  cf := some (fileOf pool7 20 #[.nestHost 2] #[] 16432 2 #[] #[])
  fields := #[]
  methods := #[]
  instanceTypes := #[(.object "java/lang/String"), .int, .int, .int, .int, .boolean, (.object "java/lang/Object"), (.object "java/lang/String"), (.object "java/lang/String")]
  staticTypes := #[]
  resolved := Array.replicate 34 none
  statics := none }

def pool8 : Array CpInfo := pool [(2, .class_ 4), (1, u "com/example/nearfar/nearfar/StoredType"), (15, .class_ 21), (0, u "com/example/nearfar/nearfar/StoredType$2")] 12

/-- com/example/nearfar/nearfar/StoredType$2 -/
def k8 : Class := { plain "com/example/nearfar/nearfar/StoredType$2" (some 6) with
  accessFlags := 16432
  interfaces := #[]
  cf := some (fileOf pool8 20 #[.nestHost 2] #[] 16432 2 #[] #[])
  fields := #[]
  methods := #[]
  instanceTypes := #[(.object "java/lang/String"), .int, .int, .int, .int, .boolean, (.object "java/lang/Object"), (.object "java/lang/String"), (.object "java/lang/String")]
  staticTypes := #[]
  resolved := Array.replicate 34 none
  statics := none }

def pool9 : Array CpInfo := pool [(2, .class_ 4), (1, u "com/example/nearfar/nearfar/StoredType"), (22, .class_ 28), (0, u "com/example/nearfar/nearfar/StoredType$3")] 12

/-- com/example/nearfar/nearfar/StoredType$3 -/
def k9 : Class := { plain "com/example/nearfar/nearfar/StoredType$3" (some 6) with
  accessFlags := 16432
  interfaces := #[]
  cf := some (fileOf pool9 27 #[.nestHost 2] #[] 16432 2 #[] #[])
  fields := #[]
  methods := #[]
  instanceTypes := #[(.object "java/lang/String"), .int, .int, .int, .int, .boolean, (.object "java/lang/Object"), (.object "java/lang/String"), (.object "java/lang/String")]
  staticTypes := #[]
  resolved := Array.replicate 41 none
  statics := none }

def pool10 : Array CpInfo := pool [(2, .class_ 4), (1, u "com/example/nearfar/nearfar/StoredType"), (22, .class_ 28), (0, u "com/example/nearfar/nearfar/StoredType$4")] 12

/-- com/example/nearfar/nearfar/StoredType$4 -/
def k10 : Class := { plain "com/example/nearfar/nearfar/StoredType$4" (some 6) with
  accessFlags := 16432
  interfaces := #[]
  cf := some (fileOf pool10 27 #[.nestHost 2] #[] 16432 2 #[] #[])
  fields := #[]
  methods := #[]
  instanceTypes := #[(.object "java/lang/String"), .int, .int, .int, .int, .boolean, (.object "java/lang/Object"), (.object "java/lang/String"), (.object "java/lang/String")]
  staticTypes := #[]
  resolved := Array.replicate 41 none
  statics := none }

def pool11 : Array CpInfo := pool [(2, .class_ 4), (1, u "com/example/nearfar/nearfar/StoredType"), (31, .class_ 37), (0, u "com/example/nearfar/nearfar/StoredType$5")] 12

/-- com/example/nearfar/nearfar/StoredType$5 -/
def k11 : Class := { plain "com/example/nearfar/nearfar/StoredType$5" (some 6) with
  accessFlags := 16432
  interfaces := #[]
  cf := some (fileOf pool11 36 #[.nestHost 2] #[] 16432 2 #[] #[])
  fields := #[]
  methods := #[]
  instanceTypes := #[(.object "java/lang/String"), .int, .int, .int, .int, .boolean, (.object "java/lang/Object"), (.object "java/lang/String"), (.object "java/lang/String")]
  staticTypes := #[]
  resolved := Array.replicate 50 none
  statics := none }

def pool12 : Array CpInfo := pool [(2, .class_ 4), (1, u "com/example/nearfar/nearfar/StoredType"), (31, .class_ 37), (0, u "com/example/nearfar/nearfar/StoredType$6")] 12

/-- com/example/nearfar/nearfar/StoredType$6 -/
def k12 : Class := { plain "com/example/nearfar/nearfar/StoredType$6" (some 6) with
  accessFlags := 16432
  interfaces := #[]
  cf := some (fileOf pool12 36 #[.nestHost 2] #[] 16432 2 #[] #[])
  fields := #[]
  methods := #[]
  instanceTypes := #[(.object "java/lang/String"), .int, .int, .int, .int, .boolean, (.object "java/lang/Object"), (.object "java/lang/String"), (.object "java/lang/String")]
  staticTypes := #[]
  resolved := Array.replicate 50 none
  statics := none }

def pool13 : Array CpInfo := pool [(2, .class_ 4), (1, u "com/example/nearfar/nearfar/StoredType"), (23, .class_ 29), (0, u "com/example/nearfar/nearfar/StoredType$7")] 15

/-- com/example/nearfar/nearfar/StoredType$7 -/
def k13 : Class := { plain "com/example/nearfar/nearfar/StoredType$7" (some 6) with
  accessFlags := 16432
  interfaces := #[]
  cf := some (fileOf pool13 28 #[.nestHost 2] #[] 16432 2 #[] #[])
  fields := #[]
  methods := #[]
  instanceTypes := #[(.object "java/lang/String"), .int, .int, .int, .int, .boolean, (.object "java/lang/Object"), (.object "java/lang/String"), (.object "java/lang/String")]
  staticTypes := #[]
  resolved := Array.replicate 45 none
  statics := none }

def pool14 : Array CpInfo := pool [(2, .class_ 4), (1, u "com/example/nearfar/nearfar/StoredType"), (23, .class_ 29), (0, u "com/example/nearfar/nearfar/StoredType$8")] 12

/-- com/example/nearfar/nearfar/StoredType$8 -/
def k14 : Class := { plain "com/example/nearfar/nearfar/StoredType$8" (some 6) with
  accessFlags := 16432
  interfaces := #[]
  cf := some (fileOf pool14 28 #[.nestHost 2] #[] 16432 2 #[] #[])
  fields := #[]
  methods := #[]
  instanceTypes := #[(.object "java/lang/String"), .int, .int, .int, .int, .boolean, (.object "java/lang/Object"), (.object "java/lang/String"), (.object "java/lang/String")]
  staticTypes := #[]
  resolved := Array.replicate 42 none
  statics := none }

def pool15 : Array CpInfo := pool [(1, .class_ 2), (0, u "com/example/nearfar/nearfar/StoredType"), (33, .class_ 37), (0, u "com/example/nearfar/nearfar/StoredType$9")] 35

/-- com/example/nearfar/nearfar/StoredType$9 -/
def k15 : Class := { plain "com/example/nearfar/nearfar/StoredType$9" (some 6) with
  accessFlags := 16432
  interfaces := #[]
  cf := some (fileOf pool15 36 #[.nestHost 1] #[] 16432 1 #[] #[])
  fields := #[]
  methods := #[]
  instanceTypes := #[(.object "java/lang/String"), .int, .int, .int, .int, .boolean, (.object "java/lang/Object"), (.object "java/lang/String"), (.object "java/lang/String")]
  staticTypes := #[]
  resolved := Array.replicate 73 none
  statics := none }

def pool16 : Array CpInfo := pool [(1, .class_ 2), (0, u "com/example/nearfar/nearfar/StoredType"), (34, .class_ 38), (0, u "com/example/nearfar/nearfar/StoredType$10")] 35

/-- com/example/nearfar/nearfar/StoredType$10 -/
def k16 : Class := { plain "com/example/nearfar/nearfar/StoredType$10" (some 6) with
  accessFlags := 16432
  interfaces := #[]
  cf := some (fileOf pool16 37 #[.nestHost 1] #[] 16432 1 #[] #[])
  fields := #[]
  methods := #[]
  instanceTypes := #[(.object "java/lang/String"), .int, .int, .int, .int, .boolean, (.object "java/lang/Object"), (.object "java/lang/String"), (.object "java/lang/String")]
  staticTypes := #[]
  resolved := Array.replicate 74 none
  statics := none }

def pool17 : Array CpInfo := pool [(1, u "java/lang/Cloneable"), (0, .class_ 1), (0, u "java/lang/Object"), (0, .class_ 3)] 3

/-- java/lang/Cloneable -/
def k17 : Class := { plain "java/lang/Cloneable" (some 0) with
  accessFlags := 1537
  interfaces := #[]
  cf := some (fileOf pool17 2 #[] #[] 1537 4 #[] #[])
  fields := #[]
  methods := #[]
  instanceTypes := #[]
  staticTypes := #[]
  resolved := Array.replicate 8 none
  statics := none }

/-- the primitive byte -/
def k18 : Class := { plain "byte" none with kind := .primitive 'B', accessFlags := 0x411 }
/-- [B -/
def k19 : Class := { plain "[B" (some 0) with kind := .array 18 .byte, interfaces := #[17, 4], accessFlags := 1041 }

/-- the primitive int -/
def k20 : Class := { plain "int" none with kind := .primitive 'I', accessFlags := 0x411 }
/-- [I -/
def k21 : Class := { plain "[I" (some 0) with kind := .array 20 .int, interfaces := #[17, 4], accessFlags := 1041 }

/-- [Lcom/example/nearfar/nearfar/StoredType; -/
def k22 : Class := { plain "[Lcom/example/nearfar/nearfar/StoredType;" (some 0) with kind := .array 6 (.object "com/example/nearfar/nearfar/StoredType"), interfaces := #[17, 4], accessFlags := 1041 }

def heap : Heap := #[{ cls := 6, slots := #[.ref 1, .ref 2, .ref 3, .ref 4, .ref 5, .ref 6, .ref 7, .ref 8, .ref 9, .ref 10, .null, .int 0, .int 0, .int 0, .null], vm := .statics 6 },
  { cls := 7, slots := #[.null, .int 0, .int 0, .int 0, .int 2, .int 0, .null, .null, .null], vm := .none },
  { cls := 8, slots := #[.null, .int 0, .int 0, .int 0, .int 2, .int 0, .null, .null, .null], vm := .none },
  { cls := 9, slots := #[.null, .int 0, .int 0, .int 0, .int 0, .int 0, .null, .null, .null], vm := .none },
  { cls := 10, slots := #[.null, .int 0, .int 0, .int 0, .int 0, .int 0, .null, .null, .null], vm := .none },
  { cls := 11, slots := #[.null, .int 0, .int 0, .int 0, .int 1, .int 0, .null, .null, .null], vm := .none },
  { cls := 12, slots := #[.null, .int 0, .int 0, .int 0, .int 5, .int 0, .null, .null, .null], vm := .none },
  { cls := 13, slots := #[.null, .int 0, .int 0, .int 0, .int 0, .int 0, .null, .null, .null], vm := .none },
  { cls := 14, slots := #[.null, .int 0, .int 0, .int 0, .int 0, .int 0, .null, .null, .null], vm := .none },
  { cls := 15, slots := #[.null, .int 0, .int 0, .int 0, .int 2, .int 0, .null, .null, .null], vm := .none },
  { cls := 16, slots := #[.null, .int 0, .int 0, .int 0, .int 2, .int 0, .null, .null, .null], vm := .none }]
def classes : Array Class := #[k0, k1, k2, k3, k4, k5, k6, k7, k8, k9, k10, k11, k12, k13, k14, k15, k16, k17, k18, k19, k20, k21, k22]
def interned : List (Array UInt16 × Addr) := []
def slotsUsed : Nat := 105
def theMethod : MethodId := ⟨1, 1⟩
def args0 : Array Value := #[.int 5]
def aboutOver (below : List Frame) : State where
  vm := { classes := classes, interned := interned.toArray }
  heap := heap
  slotsUsed := slotsUsed
  threads := #[{ frames := .invoking theMethod args0 :: below }]
def below0 : List Frame := [.native { method := ⟨0, 0⟩, args := #[] }]
def about1 : State := aboutOver below0
def p0 : Program := .bare "" "" ""
def e0 : Env := launch0.env 0 0 0
theorem w_frames : about1.frames = Frame.invoking theMethod args0 :: below0 := rfl
set_option maxRecDepth 65536 in
theorem w_args : argsFit about1.vm theMethod args0 = true := by decide +kernel
set_option maxRecDepth 65536 in
theorem w_heap : heapFits about1 = true := by decide +kernel
set_option maxRecDepth 65536 in
theorem w_runnable : about1.curStatus? = some .runnable := by decide +kernel
set_option maxRecDepth 65536 in
theorem w_alone : about1.alone = true := by decide +kernel
set_option maxRecDepth 65536 in
theorem w_named : about1.methodNamed? x = some theMethod := by decide +kernel
set_option maxRecDepth 65536 in
theorem w_hears : about1.hears theMethod below0 = true := by decide +kernel
set_option maxRecDepth 65536 in
theorem w_ripe : about1.ripe theMethod args0 below0 = true := by decide +kernel
theorem w_running : about1.status = .running := rfl
set_option maxRecDepth 65536 in
theorem w_room : about1.hasRoom e0.platform room_1 = true :=
  launch0.hasRoom_least _ room_1 (by decide +kernel) (by decide +kernel) (by decide +kernel) (by decide +kernel) (by decide +kernel) (by decide +kernel)
theorem allAtoms_all (ts : List Jvm.Cond) (a : Array Jvm.Value) (st : Jvm.State) : (allAtoms ts).before a st = ts.all (fun c => c.before a st) := by
  induction ts with
  | nil => rfl
  | cons c t ih =>
    show (Jvm.Cond.and c (allAtoms t)).before a st = _
    rw [Jvm.Cond.before_and, ih, List.all_cons]
def words1 : List Jvm.Cond := Jvm.Cond.code x code maxLocals ret :: tables_1
/-- a 'code' word, met by the world's own term for the bytes: nothing is compared byte by byte -/
theorem code_word {y : MethodName} {bytes : ByteArray} {mx : Nat} {rt : Option FieldType} {a : Array Value} {s : State} {m : MethodId} {meth : Method} {c : Code} (h1 : s.methodNamed? y = some m) (h2 : s.vm.method? m = some meth) (h3 : meth.code = some c) (h4 : c.code = bytes)
    (h5 : (c.maxLocals == mx && c.exceptionTable.isEmpty && decide (c.maxStack ≤ mostOperands) && decide (meth.sig.returnType = rt) && !meth.locks && decide (parseMethodDescriptor y.desc = some meth.sig)) = true) : (Jvm.Cond.code y bytes mx rt).before a s = true := by
  simp only [Bool.and_eq_true, beq_iff_eq, Bool.not_eq_true', decide_eq_true_eq] at h5
  obtain ⟨⟨⟨⟨⟨g1, g2⟩, g3⟩, g4⟩, g5⟩, g6⟩ := h5
  simp [Cond.before, Cond.holds, Cond.value, h1, h2, h3, h4, g1, g2, g3, g4, g5, g6]
def isCode : Jvm.Cond → Bool
  | .code _ _ _ _ => true
  | _ => false
theorem all_split {L : List Jvm.Cond} {P : Jvm.Cond → Bool} (h1 : L.all (fun c => isCode c || P c) = true) (h2 : ∀ c ∈ L.filter isCode, P c = true) : L.all P = true := by
  refine List.all_eq_true.mpr fun c hc => ?_
  have h := List.all_eq_true.mp h1 c hc
  rcases Bool.eq_false_or_eq_true (isCode c) with hi | hi
  · exact h2 c (List.mem_filter.mpr ⟨hc, hi⟩)
  · simpa [hi] using h
set_option maxRecDepth 65536 in
theorem w_c0 : (Jvm.Cond.code x code maxLocals ret).before args0 about1 = true := code_word (m := ⟨1, 1⟩) (meth := k1m1) (c := k1c1) (by decide +kernel) rfl rfl rfl (by decide +kernel)
set_option maxRecDepth 65536 in
theorem w_c1 : (Jvm.Cond.code ({ cls := "com/example/nearfar/nearfar/StoredType", name := "packed", desc := "()Z" } : Jvm.MethodName) prog_50_method_7_code (1 : Nat) (Option.some Jvm.ClassFile.FieldType.boolean)).before args0 about1 = true := code_word (m := ⟨6, 0⟩) (meth := k6m0) (c := k6c0) (by decide +kernel) rfl rfl rfl (by decide +kernel)
def codes1 : List Jvm.Cond := [Jvm.Cond.code x code maxLocals ret, Jvm.Cond.code ({ cls := "com/example/nearfar/nearfar/StoredType", name := "packed", desc := "()Z" } : Jvm.MethodName) prog_50_method_7_code (1 : Nat) (Option.some Jvm.ClassFile.FieldType.boolean)]
set_option maxRecDepth 65536 in
theorem codes_eq : words1.filter isCode = codes1 := rfl
theorem w_codes : ∀ c ∈ words1.filter isCode, c.before args0 about1 = true := by
  rw [codes_eq]
  intro c hc
  simp only [codes1, List.mem_cons, List.not_mem_nil, or_false] at hc
  rcases hc with rfl | rfl
  · exact w_c0
  · exact w_c1
set_option maxRecDepth 65536 in
theorem w_t1 : (words1.take 24).all (fun c => isCode c || c.before args0 about1) = true := by decide +kernel
set_option maxRecDepth 65536 in
theorem w_t2 : ((words1.drop 24).take 24).all (fun c => isCode c || c.before args0 about1) = true := by decide +kernel
set_option maxRecDepth 65536 in
theorem w_t3 : ((words1.drop 24).drop 24).all (fun c => isCode c || c.before args0 about1) = true := by decide +kernel
theorem w_tables : (allAtoms (Jvm.Cond.code x code maxLocals ret :: tables_1)).before args0 about1 = true := by
  rw [allAtoms_all]
  show words1.all (fun c => c.before args0 about1) = true
  refine all_split ?_ w_codes
  rw [← List.take_append_drop 24 words1, List.all_append, w_t1, ← List.take_append_drop 24 (words1.drop 24), List.all_append, w_t2, w_t3]
  rfl
set_option maxRecDepth 65536 in
theorem w_case : (Jvm.Cond.and given_1 narrow_1).before args0 about1 = true := by decide +kernel
theorem w_applies : (headSpec (Jvm.Cond.code x code maxLocals ret :: tables_1) room_1).applies x e0.platform about1 = true :=
  (Spec.applies_iff w_frames).mpr ⟨w_running, w_runnable, w_alone, w_named, w_hears, w_ripe, w_room, w_tables⟩
theorem atStart : AtStart classFile x code maxLocals ret World_1 tables_1 room_1 Calls_1 rest_1 Pre_1 launch0 p0 e0 about1 theMethod args0 below0 :=
  ⟨lists_1, trivial, launch0.admits_env _ _ _, launch0.least_env, fairChoices_fair.cas, fairChoices_fair.clock, w_frames, w_args, w_heap, w_applies, trivial, trivial, w_case⟩
end start1
theorem witness_1 : WitnessClaimed_1 := ⟨start1.p0, start1.e0, start1.about1, start1.theMethod, start1.args0, start1.below0, start1.atStart⟩
end Jvm.Pilot.@@N@@
