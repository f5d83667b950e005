import JvmDerived
import JvmDerived.Pilot.@@N@@Statement
import JvmDerived.Pilot.@@N@@Code
set_option linter.unusedVariables false
set_option linter.unusedSimpArgs false
namespace Jvm.Pilot.@@N@@
open Jvm Jvm.ClassFile Sem Op Lib Jvm.Free Jvm.Stand Jvm.LawKit Jvm.RoadKit Bundle Jvm.Pilot.@@N@@.Jvm.D
section OwnRoad
variable {p : Program} {l : Launch} {e : Env} {R : Room} {s : State} {m : MethodId} {args : Array Value} {below : List Frame} {meth : Method} {c : Code} {T : State} {locs : List Loc} {cells slots : Nat}
/-- from A the run comes to an end of which G speaks -/
def OEnds (tb : Tables) (e : Env) (below : List Frame) (G : Outcome → State → Prop) (A : State) : Prop := ∃ s₂ o, Steps tb e below A s₂ ∧ s₂.status = .running ∧ Ended s₂ below o ∧ G o s₂
theorem OEnds.st {tb : Tables} {e : Env} {below : List Frame} {G : Outcome → State → Prop} {A B : State} (h : ∀ t, Steps tb e below B t → Steps tb e below A t) (k : OEnds tb e below G B) : OEnds tb e below G A := by
  obtain ⟨s, o, h1, h2⟩ := k
  exact ⟨s, o, h _ h1, h2⟩
def OGoal (Q : Option Value → Heap → List Loc → Prop) (s : State) (C S : Nat) (o : Outcome) (t : State) : Prop := ∃ v L, o = .returned v ∧ Q v t.heap L ∧ FrameEnd s o t L C S
theorem OEnds.out (X : Stand p l e R s m args below meth c T locs cells slots) (hlk : meth.locks = false) {v : Option Value} (hv : meth.sig.returnType = none → v = none) {Q : Option Value → Heap → List Loc → Prop} {C S : Nat} {A : State}
    (st : ∀ fs, (∀ (f : JFrame) (acts : List Action), f.method = m → f.locked = none → f.entered = [] → (doReturn e (T.setTop f) acts v).1 = T.setFrames fs) → Steps p.tables e below A (T.setFrames fs)) (hc : cells ≤ C) (hs : slots ≤ S) (hQ : Q v T.heap locs) : OEnds p.tables e below (OGoal Q s C S) A := by
  obtain ⟨fs, hr, hrun, hended, hW, hsame⟩ := X.leave (v := v) hv hlk
  exact ⟨_, _, st fs hr, hrun, hended, _, _, rfl, hQ, ⟨_, rfl⟩, hW, hsame.mono hc hs⟩
theorem OEnds.retI (X : Stand p l e R s m args below meth c T locs cells slots) (hx : p.tables.exec = Jvm.exec) (hlk : meth.locks = false) (hret : meth.sig.returnType = some .int) {pc : Nat} {Ls : Array Slot} {z : Int32} {rest : List Value} (hd : decode c.code pc = .ok (.ireturn, 1)) {Q : Option Value → Heap → List Loc → Prop} {C S : Nat} (hc : cells ≤ C) (hs : slots ≤ S) (hQ : Q (some (.int z)) T.heap locs) :
    OEnds p.tables e below (OGoal Q s C S) (T.setTop (mkF m pc Ls (.int z :: rest))) :=
  OEnds.out X hlk (fun h => by rw [hret] at h; cases h) (fun fs hr => retOut X hx hret rfl (Or.inl ⟨rfl, Or.inl rfl, _, rfl⟩) hd hr) hc hs hQ
theorem OEnds.retZ (X : Stand p l e R s m args below meth c T locs cells slots) (hx : p.tables.exec = Jvm.exec) (hlk : meth.locks = false) (hret : meth.sig.returnType = some .boolean) {pc : Nat} {Ls : Array Slot} {z : Int32} {rest : List Value} (hz : nar .boolean z = z) (hd : decode c.code pc = .ok (.ireturn, 1)) {Q : Option Value → Heap → List Loc → Prop} {C S : Nat} (hc : cells ≤ C) (hs : slots ≤ S) (hQ : Q (some (.int z)) T.heap locs) :
    OEnds p.tables e below (OGoal Q s C S) (T.setTop (mkF m pc Ls (.int z :: rest))) :=
  OEnds.out X hlk (fun h => by rw [hret] at h; cases h) (fun fs hr => retN X hx (t := .boolean) hret (Or.inl rfl) hd (by rw [hz]; exact hr)) hc hs hQ
theorem OEnds.retB (X : Stand p l e R s m args below meth c T locs cells slots) (hx : p.tables.exec = Jvm.exec) (hlk : meth.locks = false) (hret : meth.sig.returnType = some .byte) {pc : Nat} {Ls : Array Slot} {z : Int32} {rest : List Value} (hz : nar .byte z = z) (hd : decode c.code pc = .ok (.ireturn, 1)) {Q : Option Value → Heap → List Loc → Prop} {C S : Nat} (hc : cells ≤ C) (hs : slots ≤ S) (hQ : Q (some (.int z)) T.heap locs) :
    OEnds p.tables e below (OGoal Q s C S) (T.setTop (mkF m pc Ls (.int z :: rest))) :=
  OEnds.out X hlk (fun h => by rw [hret] at h; cases h) (fun fs hr => retN X hx (t := .byte) hret (Or.inr (Or.inl rfl)) hd (by rw [hz]; exact hr)) hc hs hQ
theorem OEnds.retJ (X : Stand p l e R s m args below meth c T locs cells slots) (hx : p.tables.exec = Jvm.exec) (hlk : meth.locks = false) (hret : meth.sig.returnType = some .long) {pc : Nat} {Ls : Array Slot} {z : Int64} {rest : List Value} (hd : decode c.code pc = .ok (.lreturn, 1)) {Q : Option Value → Heap → List Loc → Prop} {C S : Nat} (hc : cells ≤ C) (hs : slots ≤ S) (hQ : Q (some (.long z)) T.heap locs) :
    OEnds p.tables e below (OGoal Q s C S) (T.setTop (mkF m pc Ls (.long z :: rest))) :=
  OEnds.out X hlk (fun h => by rw [hret] at h; cases h) (fun fs hr => retOut X hx hret rfl (Or.inr (Or.inl ⟨rfl, rfl, _, rfl⟩)) hd hr) hc hs hQ
theorem OEnds.retA (X : Stand p l e R s m args below meth c T locs cells slots) (hx : p.tables.exec = Jvm.exec) (hlk : meth.locks = false) {t : FieldType} (hret : meth.sig.returnType = some t) {pc : Nat} {Ls : Array Slot} {w : Value} {rest : List Value} (hw : w.isRef = true) (ht : t.isReference = true) (hd : decode c.code pc = .ok (.areturn, 1)) {Q : Option Value → Heap → List Loc → Prop} {C S : Nat} (hc : cells ≤ C) (hs : slots ≤ S) (hQ : Q (some w) T.heap locs) :
    OEnds p.tables e below (OGoal Q s C S) (T.setTop (mkF m pc Ls (w :: rest))) :=
  OEnds.out X hlk (fun h => by rw [hret] at h; cases h) (fun fs hr => retOut X hx hret (by cases t <;> cases w <;> first | rfl | (cases ht; done) | (cases hw; done)) (Or.inr (Or.inr (Or.inr (Or.inr ⟨rfl, ht, hw⟩)))) hd hr) hc hs hQ
theorem OEnds.retV (X : Stand p l e R s m args below meth c T locs cells slots) (hx : p.tables.exec = Jvm.exec) (hlk : meth.locks = false) (hret : meth.sig.returnType = none) {pc : Nat} {Ls : Array Slot} (hd : decode c.code pc = .ok (.return_, 1)) {Q : Option Value → Heap → List Loc → Prop} {C S : Nat} (hc : cells ≤ C) (hs : slots ≤ S) (hQ : Q none T.heap locs) :
    OEnds p.tables e below (OGoal Q s C S) (T.setTop (mkF m pc Ls [])) :=
  OEnds.out X hlk (fun _ => rfl) (fun fs hr => X.returnOut hx hret hd hr) hc hs hQ
def OGoalW (Q : Option Value → Heap → List Loc → Prop) (s : State) (C S : Nat) (o : Outcome) (t : State) : Prop := ∃ v L, o = .returned v ∧ Q v t.heap L ∧ Jvm.ReturnedEndW s o t L C S
theorem own_growW {s t : State} {o : Outcome} {L : List Loc} {k n k' n' : Nat} (h : Jvm.ReturnedEndW s o t L k n) (hk : k ≤ k') (hn : n ≤ n') : Jvm.ReturnedEndW s o t L k' n' := ⟨h.1, h.2.1, h.2.2.1, h.2.2.2.mono hk hn⟩
theorem OEnds.retZW {vm0 : Vm} (X : Stand p l e R (s.setVm vm0) m args below meth c T locs cells slots) {n : Nat} (hS : s.Since vm0 n) (hn : n ≤ T.heap.size) (hx : p.tables.exec = Jvm.exec) (hlk : meth.locks = false) (hret : meth.sig.returnType = some .boolean) {pc : Nat} {Ls : Array Slot} {z : Int32} {rest : List Value} (hz : nar .boolean z = z) (hd : decode c.code pc = .ok (.ireturn, 1)) {Q : Option Value → Heap → List Loc → Prop} {C S : Nat} (hc : cells ≤ C) (hs : slots ≤ S) (hQ : Q (some (.int z)) T.heap locs) :
    OEnds p.tables e below (OGoalW Q s C S) (T.setTop (mkF m pc Ls (.int z :: rest))) := by
  obtain ⟨fs, hr, hrun, hended, hW⟩ := X.leaveW hS hn (v := some (.int z)) (fun h => by rw [hret] at h; cases h) hlk
  exact ⟨_, _, retN X hx (t := .boolean) hret (Or.inl rfl) hd (by rw [hz]; exact hr), hrun, hended, _, _, rfl, hQ, own_growW hW hc hs⟩
theorem own_b8 (x : Int32) : nar .byte (x.toInt8.toInt32) = x.toInt8.toInt32 := by
  show (x.toInt8.toInt32).toInt8.toInt32 = _
  rw [Int8.toInt8_toInt32]
theorem own_selP {s : State} {args : Array Value} {n : Nat} {y : MethodName} (hins : (Jvm.Cond.instantiable y.cls n).before args s = true) (hpriv : (Jvm.Cond.privateMethod y).before args s = true) (hinst : (Jvm.Cond.instanceMethod y).before args s = true) (hy : y.cls ≠ "java/lang/invoke/MethodHandle" ∧ y.cls ≠ "java/lang/invoke/VarHandle") :
    (Jvm.Cond.selects y.cls y y).before args s = true := by
  obtain ⟨c, k, hc, hk, -, hniab, -, -⟩ := Cond.instantiable_spec hins
  have hni : k.isInterface = false := (Bool.or_eq_false_iff.mp hniab).1
  obtain ⟨mk, methM, hnamed, hmethM, -, -⟩ := Cond.instanceMethod_spec hinst
  have hfound : s.methodFound? y.cls y.name y.desc = some mk := State.methodFound?_of_named hnamed hy
  have hcls : mk.cls = c := Option.some.inj ((findClass_of_methodNamed hnamed).symm.trans hc)
  have hsel : selectMethod {} s.vm c mk = .method mk := selectMethod_private hmethM (Cond.privateMethod_at hpriv mk methM hnamed hmethM)
  simp only [Cond.before, Cond.holds, Cond.value, hc, hfound, hnamed, hsel, hcls, hk]
  simp; exact hni
theorem own_exa_ns {Z : State} {h : Heap} {a : Addr} {C : String} (E : Exa Z h a C) : ∀ cell : Cell, h[a]? = some cell → cell.vm.isStatics = false := fun cell q => by
  obtain ⟨c, k, h1, -, -, h4, -⟩ := E
  cases h1.symm.trans q
  exact h4
theorem own_Sta_keep {Z : State} {h h' : Heap} {C n d : String} {v : Value} {ws : List Addr} (F : Sta Z h C n d v) (K : Keep h h' ws) (q : ∀ x ∈ ws, ∀ cell : Cell, h[x]? = some cell → cell.vm.isStatics = false) : Sta Z h' C n d v := by
  obtain ⟨cf, i, k, f, st, cell, h1, h2, h3, h4, h5, h6, h7⟩ := F
  refine ⟨cf, i, k, f, st, cell, h1, h2, h3, h4, K.2.1 _ _ h5 (fun hm => ?_), h6, h7⟩
  rw [q _ hm _ h5] at h6
  cases h6
theorem own_grow (X : Stand p l e R s m args below meth c T locs cells slots) {C S : Nat} (hc : cells ≤ C) (hs : slots ≤ S) : Stand p l e R s m args below meth c T locs C S :=
  ⟨X.admits, X.cas, X.clock, X.frames, X.room, X.hears, X.method, X.code, X.here, X.tail, X.warmed, X.limits, X.bytes, X.same.mono hc hs⟩
end OwnRoad
def own_eq (a b : Int32) : Int32 := if a = b then 1 else 0
def own_vi (x : Int32) : Int64 := (0 : Int64) ||| ((x &&& (127 : Int32)).toInt64 <<< (((7 : Int32) * (0 : Int32)) &&& 0x3f).toInt64)
theorem own_nn (p : Int32) : ¬ (((p &&& (127 : Int32)).toInt8.toInt32) < (0 : Int32)) := by
  have e1 := c_mask p (127 : Int32) 7 (by decide) (by decide)
  have e2 := c_i2b (p &&& (127 : Int32))
  have z0 : (0 : Int32).toInt = 0 := by decide
  rw [Int32.lt_iff_toInt_lt]
  omega
theorem own_five (k : Int32) : ((k &&& (2147483647 : Int32)) % (5 : Int32)) = (0 : Int32) ∨ ((k &&& (2147483647 : Int32)) % (5 : Int32)) = (1 : Int32) ∨ ((k &&& (2147483647 : Int32)) % (5 : Int32)) = (2 : Int32) ∨ ((k &&& (2147483647 : Int32)) % (5 : Int32)) = (3 : Int32) ∨ ((k &&& (2147483647 : Int32)) % (5 : Int32)) = (4 : Int32) := by
  have e1 := c_mask k (2147483647 : Int32) 31 (by decide) (by decide)
  have e2 := (c_irem (k &&& (2147483647 : Int32)) (5 : Int32) 5 (by decide)).1 (by omega)
  generalize ((k &&& (2147483647 : Int32)) % (5 : Int32)) = v at *
  have z : ∀ n : Int32, v.toInt = n.toInt → v = n := fun n h => Int32.toInt_inj.mp h
  have b : v.toInt = 0 ∨ v.toInt = 1 ∨ v.toInt = 2 ∨ v.toInt = 3 ∨ v.toInt = 4 := by omega
  rcases b with b | b | b | b | b
  · exact Or.inl (z 0 b)
  · exact Or.inr (Or.inl (z 1 b))
  · exact Or.inr (Or.inr (Or.inl (z 2 b)))
  · exact Or.inr (Or.inr (Or.inr (Or.inl (z 3 b))))
  · exact Or.inr (Or.inr (Or.inr (Or.inr ((z 4 b)))))
theorem d2_0 : decode prog_32_method_2_code 0 = .ok (.aload_n 0, 1) := by decide +kernel
theorem d2_1 : decode prog_32_method_2_code 1 = .ok (.invokespecial 7, 3) := by decide +kernel
theorem d2_4 : decode prog_32_method_2_code 4 = .ok (.aload_n 0, 1) := by decide +kernel
theorem d2_5 : decode prog_32_method_2_code 5 = .ok (.aload_n 1, 1) := by decide +kernel
theorem d2_6 : decode prog_32_method_2_code 6 = .ok (.putfield 12, 3) := by decide +kernel
theorem d2_9 : decode prog_32_method_2_code 9 = .ok (.aload_n 0, 1) := by decide +kernel
theorem d2_10 : decode prog_32_method_2_code 10 = .ok (.iload_n 2, 1) := by decide +kernel
theorem d2_11 : decode prog_32_method_2_code 11 = .ok (.putfield 16, 3) := by decide +kernel
theorem d2_14 : decode prog_32_method_2_code 14 = .ok (.aload_n 0, 1) := by decide +kernel
theorem d2_15 : decode prog_32_method_2_code 15 = .ok (.iload_n 3, 1) := by decide +kernel
theorem d2_16 : decode prog_32_method_2_code 16 = .ok (.putfield 20, 3) := by decide +kernel
theorem d2_19 : decode prog_32_method_2_code 19 = .ok (.aload_n 0, 1) := by decide +kernel
theorem d2_20 : decode prog_32_method_2_code 20 = .ok (.iload 4, 2) := by decide +kernel
theorem d2_22 : decode prog_32_method_2_code 22 = .ok (.putfield 23, 3) := by decide +kernel
theorem d2_25 : decode prog_32_method_2_code 25 = .ok (.return_, 1) := by decide +kernel
theorem pn_0 : plainName "com/example/nearfar/nearfar/ProtoReader" = true := by first | (simp [plainName, overriddenIn]; done) | decide +kernel
theorem ef_2 (m : MethodId) (a1 : Addr) (a2 : Addr) (p3 : Int32) (p4 : Int32) (p5 : Int32) : entryFrame m #[(.ref a1), (.ref a2), (.int p3), (.int p4), (.int p5)] 5 = mkF m 0 #[.val (.ref a1), .val (.ref a2), .val (.int p3), .val (.int p4), .val (.int p5)] [] := by first | (simp [entryFrame, mkF, argsToLocals, Value.category]; done) | rfl
def Q2 (Z : State) (a1 : Addr) (a2 : Addr) (p3 : Int32) (p4 : Int32) (p5 : Int32) (h0 : Heap) (n0 : Nat) (v : Option Value) (h : Heap) (L : List Loc) : Prop := v = none ∧ Fr n0 L ∧ Keep h0 h [a1] ∧ Exa Z h a1 "com/example/nearfar/nearfar/ProtoReader" ∧ Fld Z h a1 "com/example/nearfar/nearfar/ProtoReader" "bytes" "[B" (.ref a2) ∧ Fld Z h a1 "com/example/nearfar/nearfar/ProtoReader" "position" "I" (.int p3) ∧ Fld Z h a1 "com/example/nearfar/nearfar/ProtoReader" "end" "I" (.int p4) ∧ Fld Z h a1 "com/example/nearfar/nearfar/ProtoReader" "depth" "I" (.int p5)
set_option maxRecDepth 65536 in
set_option maxHeartbeats 40000000 in
theorem rm2 (l : Launch) (Z : State) (a0 : Array Value) (hw : ∀ d ∈ tables_1, d.before a0 Z = true) (ws : List Jvm.Cond) (a1 : Addr) (a2 : Addr) (p3 : Int32) (p4 : Int32) (p5 : Int32) (h0 : Heap) (n0 : Nat) (Z0 : n0 ≤ h0.size) (Ea1 : Exa Z h0 a1 "com/example/nearfar/nearfar/ProtoReader") (Fba1 : Fld Z h0 a1 "com/example/nearfar/nearfar/ProtoReader" "bytes" "[B" .null) (Fpa1 : Fld Z h0 a1 "com/example/nearfar/nearfar/ProtoReader" "position" "I" (.int (0 : Int32))) (Fea1 : Fld Z h0 a1 "com/example/nearfar/nearfar/ProtoReader" "end" "I" (.int (0 : Int32))) (Fda1 : Fld Z h0 a1 "com/example/nearfar/nearfar/ProtoReader" "depth" "I" (.int (0 : Int32))) (g1 : n0 ≤ a1) :
    MetFree l (⟨"com/example/nearfar/nearfar/ProtoReader", "<init>", "([BIII)V"⟩ : MethodName) (head1 (Jvm.Cond.code (⟨"com/example/nearfar/nearfar/ProtoReader", "<init>", "([BIII)V"⟩ : MethodName) prog_32_method_2_code 5 none :: ws) ({ frames := 1, cells := 0, slots := 0, locals := 12 } : Room)) (fun a U => a = #[(.ref a1), (.ref a2), (.int p3), (.int p4), (.int p5)] ∧ Z.Warmed39 U.vm ∧ U.heap = h0) (fun _ _ _ _ _ => True) (fun _ U o U' => ∃ v L, o = .returned v ∧ Q2 Z a1 a2 p3 p4 p5 h0 n0 v U'.heap L ∧ FrameEnd U o U' L ({ frames := 1, cells := 0, slots := 0, locals := 12 } : Room).cells ({ frames := 1, cells := 0, slots := 0, locals := 12 } : Room).slots) := by
  refine MetFree.of_bodySF (plainFor_of_name pn_0) hisR ?_
  intro p e s m args below meth c s₁ Bd hml0 hP hK
  obtain ⟨rfl, hZ, hh⟩ := hP
  have hx := Bd.exec
  have hby := Bd.bytes
  have hml : c.maxLocals = 5 := hml0
  have hown : s.vm.findClass "com/example/nearfar/nearfar/ProtoReader" = some m.cls := findClass_of_methodNamed Bd.named
  have hnm := (name_of_methodNamed Bd.named Bd.method).1
  have hlk : meth.locks = false := BodyLoose.notSynchronized Bd
  have X0 : Stand p l e ({ frames := 1, cells := 0, slots := 0, locals := 12 } : Room) s m #[(.ref a1), (.ref a2), (.int p3), (.int p4), (.int p5)] below meth c s₁ [] 0 0 := Stand.of_body Bd
  have e0 : s₁.heap = h0 := by rw [← hh, Bd.state]; rfl
  have N0 := Fr.nil n0
  show OEnds p.tables e below (OGoal (Q2 Z a1 a2 p3 p4 p5 h0 n0) s 0 0) (s₁.setTop (entryFrame m #[(.ref a1), (.ref a2), (.int p3), (.int p4), (.int p5)] 5))
  refine OEnds.st (fun t k => castTop (ef_2 m a1 a2 p3 p4 p5) k) ?_
  generalize hG : OGoal (Q2 Z a1 a2 p3 p4 p5 h0 n0) s 0 0 = G
  have KK0 : Keep h0 h0 [a1] := Keep.refl h0 [a1]
  show OEnds p.tables e below G (s₁.setTop (mkF m 0 #[.val (.ref a1), .val (.ref a2), .val (.int p3), .val (.int p4), .val (.int p5)] []))
  refine OEnds.st (fun _ k => XS.aloadN X0.here hx rfl (hb hby d2_0) rfl rfl k) ?_
  show OEnds p.tables e below G (s₁.setTop (mkF m 1 #[.val (.ref a1), .val (.ref a2), .val (.int p3), .val (.int p4), .val (.int p5)] [(.ref a1)]))
  obtain ⟨T1001, X1001, e1001, st1001⟩ := initO X0 hx hZ hown (hw _ (List.mem_of_getElem? (i := 11) rfl)) (hw _ (List.mem_of_getElem? (i := 12) rfl)) (hw _ (List.mem_of_getElem? (i := 13) rfl)) e0 (g := (mkF m 1 #[.val (.ref a1), .val (.ref a2), .val (.int p3), .val (.int p4), .val (.int p5)] [(.ref a1)])) rfl (by rw [hml]; rfl) rfl (hb hby d2_1) (by decide) (W := 0) (by show 2 * 0 + _ ≤ _; exact Nat.le_of_eq rfl) (by decide)
  refine OEnds.st st1001 ?_
  show OEnds p.tables e below G (T1001.setTop (mkF m 4 #[.val (.ref a1), .val (.ref a2), .val (.int p3), .val (.int p4), .val (.int p5)] []))
  refine OEnds.st (fun _ k => XS.aloadN X1001.here hx rfl (hb hby d2_4) rfl rfl k) ?_
  show OEnds p.tables e below G (T1001.setTop (mkF m 5 #[.val (.ref a1), .val (.ref a2), .val (.int p3), .val (.int p4), .val (.int p5)] [(.ref a1)]))
  refine OEnds.st (fun _ k => XS.aloadN X1001.here hx rfl (hb hby d2_5) rfl rfl k) ?_
  show OEnds p.tables e below G (T1001.setTop (mkF m 6 #[.val (.ref a1), .val (.ref a2), .val (.int p3), .val (.int p4), .val (.int p5)] [(.ref a2), (.ref a1)]))
  obtain ⟨T1002, h1002, X1002, e1002, W1002, st1002⟩ := putF X1001 hx hZ hown (host := "") (Or.inl (hw _ (List.mem_of_getElem? (i := 14) rfl))) Via.refl e1001 Fba1 Ea1 (Or.inr ⟨(hw _ (List.mem_of_getElem? (i := 15) rfl)), rfl, hnm⟩) (hw _ (List.mem_of_getElem? (i := 3) rfl)) (ty := (.array .byte)) (by decide) rfl rfl (g := (mkF m 6 #[.val (.ref a1), .val (.ref a2), .val (.int p3), .val (.int p4), .val (.int p5)] [(.ref a2), (.ref a1)])) rfl rfl (hb hby d2_6)
  refine OEnds.st st1002 ?_
  have f1003 : Fld Z h1002 a1 "com/example/nearfar/nearfar/ProtoReader" "bytes" "[B" (.ref a2) := Fba1.same W1002
  have f1004 : Exa Z h1002 a1 "com/example/nearfar/nearfar/ProtoReader" := Ea1.wr W1002
  have f1006 : Fld Z h1002 a1 "com/example/nearfar/nearfar/ProtoReader" "position" "I" (.int (0 : Int32)) := Fpa1.other W1002 (Or.inr (slot_ne (Or.inl (hw _ (List.mem_of_getElem? (i := 17) rfl))) (Or.inr (hw _ (List.mem_of_getElem? (i := 15) rfl))) (by decide) (t := .int) (t' := (.array .byte)) (by decide) (by decide)))
  have f1007 : Fld Z h1002 a1 "com/example/nearfar/nearfar/ProtoReader" "end" "I" (.int (0 : Int32)) := Fea1.other W1002 (Or.inr (slot_ne (Or.inr (hw _ (List.mem_of_getElem? (i := 19) rfl))) (Or.inr (hw _ (List.mem_of_getElem? (i := 15) rfl))) (by decide) (t := .int) (t' := (.array .byte)) (by decide) (by decide)))
  have f1008 : Fld Z h1002 a1 "com/example/nearfar/nearfar/ProtoReader" "depth" "I" (.int (0 : Int32)) := Fda1.other W1002 (Or.inr (slot_ne (Or.inr (hw _ (List.mem_of_getElem? (i := 21) rfl))) (Or.inr (hw _ (List.mem_of_getElem? (i := 15) rfl))) (by decide) (t := .int) (t' := (.array .byte)) (by decide) (by decide)))
  have N1002 := Fr.snoc X1002 N0 g1
  have KK1002 : Keep h0 h1002 [a1] := KK0.wr W1002 (Or.inl (List.mem_of_getElem? (i := 0) rfl))
  have Z1002 := Nat.le_trans Z0 (Keep.of_wr W1002).1
  show OEnds p.tables e below G (T1002.setTop (mkF m 9 #[.val (.ref a1), .val (.ref a2), .val (.int p3), .val (.int p4), .val (.int p5)] []))
  refine OEnds.st (fun _ k => XS.aloadN X1002.here hx rfl (hb hby d2_9) rfl rfl k) ?_
  show OEnds p.tables e below G (T1002.setTop (mkF m 10 #[.val (.ref a1), .val (.ref a2), .val (.int p3), .val (.int p4), .val (.int p5)] [(.ref a1)]))
  refine OEnds.st (fun _ k => XS.iloadN X1002.here hx rfl (hb hby d2_10) rfl k) ?_
  show OEnds p.tables e below G (T1002.setTop (mkF m 11 #[.val (.ref a1), .val (.ref a2), .val (.int p3), .val (.int p4), .val (.int p5)] [(.int p3), (.ref a1)]))
  obtain ⟨T1009, h1009, X1009, e1009, W1009, st1009⟩ := putF X1002 hx hZ hown (host := "") (Or.inl (hw _ (List.mem_of_getElem? (i := 16) rfl))) Via.refl e1002 f1006 f1004 (Or.inl (hw _ (List.mem_of_getElem? (i := 17) rfl))) (hw _ (List.mem_of_getElem? (i := 3) rfl)) (ty := .int) (by decide) rfl rfl (g := (mkF m 11 #[.val (.ref a1), .val (.ref a2), .val (.int p3), .val (.int p4), .val (.int p5)] [(.int p3), (.ref a1)])) rfl rfl (hb hby d2_11)
  refine OEnds.st st1009 ?_
  have f1010 : Fld Z h1009 a1 "com/example/nearfar/nearfar/ProtoReader" "position" "I" (.int p3) := f1006.same W1009
  have f1011 : Exa Z h1009 a1 "com/example/nearfar/nearfar/ProtoReader" := f1004.wr W1009
  have f1013 : Fld Z h1009 a1 "com/example/nearfar/nearfar/ProtoReader" "end" "I" (.int (0 : Int32)) := f1007.other W1009 (Or.inr (slot_ne (Or.inr (hw _ (List.mem_of_getElem? (i := 19) rfl))) (Or.inl (hw _ (List.mem_of_getElem? (i := 17) rfl))) (by decide) (t := .int) (t' := .int) (by decide) (by decide)))
  have f1014 : Fld Z h1009 a1 "com/example/nearfar/nearfar/ProtoReader" "depth" "I" (.int (0 : Int32)) := f1008.other W1009 (Or.inr (slot_ne (Or.inr (hw _ (List.mem_of_getElem? (i := 21) rfl))) (Or.inl (hw _ (List.mem_of_getElem? (i := 17) rfl))) (by decide) (t := .int) (t' := .int) (by decide) (by decide)))
  have f1015 : Fld Z h1009 a1 "com/example/nearfar/nearfar/ProtoReader" "bytes" "[B" (.ref a2) := f1003.other W1009 (Or.inr (slot_ne (Or.inr (hw _ (List.mem_of_getElem? (i := 15) rfl))) (Or.inl (hw _ (List.mem_of_getElem? (i := 17) rfl))) (by decide) (t := (.array .byte)) (t' := .int) (by decide) (by decide)))
  have N1009 := Fr.snoc X1009 N1002 g1
  have KK1009 : Keep h0 h1009 [a1] := KK1002.wr W1009 (Or.inl (List.mem_of_getElem? (i := 0) rfl))
  have Z1009 := Nat.le_trans Z1002 (Keep.of_wr W1009).1
  show OEnds p.tables e below G (T1009.setTop (mkF m 14 #[.val (.ref a1), .val (.ref a2), .val (.int p3), .val (.int p4), .val (.int p5)] []))
  refine OEnds.st (fun _ k => XS.aloadN X1009.here hx rfl (hb hby d2_14) rfl rfl k) ?_
  show OEnds p.tables e below G (T1009.setTop (mkF m 15 #[.val (.ref a1), .val (.ref a2), .val (.int p3), .val (.int p4), .val (.int p5)] [(.ref a1)]))
  refine OEnds.st (fun _ k => XS.iloadN X1009.here hx rfl (hb hby d2_15) rfl k) ?_
  show OEnds p.tables e below G (T1009.setTop (mkF m 16 #[.val (.ref a1), .val (.ref a2), .val (.int p3), .val (.int p4), .val (.int p5)] [(.int p4), (.ref a1)]))
  obtain ⟨T1016, h1016, X1016, e1016, W1016, st1016⟩ := putF X1009 hx hZ hown (host := "") (Or.inl (hw _ (List.mem_of_getElem? (i := 18) rfl))) Via.refl e1009 f1013 f1011 (Or.inr ⟨(hw _ (List.mem_of_getElem? (i := 19) rfl)), rfl, hnm⟩) (hw _ (List.mem_of_getElem? (i := 3) rfl)) (ty := .int) (by decide) rfl rfl (g := (mkF m 16 #[.val (.ref a1), .val (.ref a2), .val (.int p3), .val (.int p4), .val (.int p5)] [(.int p4), (.ref a1)])) rfl rfl (hb hby d2_16)
  refine OEnds.st st1016 ?_
  have f1017 : Fld Z h1016 a1 "com/example/nearfar/nearfar/ProtoReader" "end" "I" (.int p4) := f1013.same W1016
  have f1018 : Exa Z h1016 a1 "com/example/nearfar/nearfar/ProtoReader" := f1011.wr W1016
  have f1020 : Fld Z h1016 a1 "com/example/nearfar/nearfar/ProtoReader" "depth" "I" (.int (0 : Int32)) := f1014.other W1016 (Or.inr (slot_ne (Or.inr (hw _ (List.mem_of_getElem? (i := 21) rfl))) (Or.inr (hw _ (List.mem_of_getElem? (i := 19) rfl))) (by decide) (t := .int) (t' := .int) (by decide) (by decide)))
  have f1021 : Fld Z h1016 a1 "com/example/nearfar/nearfar/ProtoReader" "bytes" "[B" (.ref a2) := f1015.other W1016 (Or.inr (slot_ne (Or.inr (hw _ (List.mem_of_getElem? (i := 15) rfl))) (Or.inr (hw _ (List.mem_of_getElem? (i := 19) rfl))) (by decide) (t := (.array .byte)) (t' := .int) (by decide) (by decide)))
  have f1022 : Fld Z h1016 a1 "com/example/nearfar/nearfar/ProtoReader" "position" "I" (.int p3) := f1010.other W1016 (Or.inr (slot_ne (Or.inl (hw _ (List.mem_of_getElem? (i := 17) rfl))) (Or.inr (hw _ (List.mem_of_getElem? (i := 19) rfl))) (by decide) (t := .int) (t' := .int) (by decide) (by decide)))
  have N1016 := Fr.snoc X1016 N1009 g1
  have KK1016 : Keep h0 h1016 [a1] := KK1009.wr W1016 (Or.inl (List.mem_of_getElem? (i := 0) rfl))
  have Z1016 := Nat.le_trans Z1009 (Keep.of_wr W1016).1
  show OEnds p.tables e below G (T1016.setTop (mkF m 19 #[.val (.ref a1), .val (.ref a2), .val (.int p3), .val (.int p4), .val (.int p5)] []))
  refine OEnds.st (fun _ k => XS.aloadN X1016.here hx rfl (hb hby d2_19) rfl rfl k) ?_
  show OEnds p.tables e below G (T1016.setTop (mkF m 20 #[.val (.ref a1), .val (.ref a2), .val (.int p3), .val (.int p4), .val (.int p5)] [(.ref a1)]))
  refine OEnds.st (fun _ k => XS.iload X1016.here hx rfl (hb hby d2_20) rfl k) ?_
  show OEnds p.tables e below G (T1016.setTop (mkF m 22 #[.val (.ref a1), .val (.ref a2), .val (.int p3), .val (.int p4), .val (.int p5)] [(.int p5), (.ref a1)]))
  obtain ⟨T1023, h1023, X1023, e1023, W1023, st1023⟩ := putF X1016 hx hZ hown (host := "") (Or.inl (hw _ (List.mem_of_getElem? (i := 20) rfl))) Via.refl e1016 f1020 f1018 (Or.inr ⟨(hw _ (List.mem_of_getElem? (i := 21) rfl)), rfl, hnm⟩) (hw _ (List.mem_of_getElem? (i := 3) rfl)) (ty := .int) (by decide) rfl rfl (g := (mkF m 22 #[.val (.ref a1), .val (.ref a2), .val (.int p3), .val (.int p4), .val (.int p5)] [(.int p5), (.ref a1)])) rfl rfl (hb hby d2_22)
  refine OEnds.st st1023 ?_
  have f1024 : Fld Z h1023 a1 "com/example/nearfar/nearfar/ProtoReader" "depth" "I" (.int p5) := f1020.same W1023
  have f1025 : Exa Z h1023 a1 "com/example/nearfar/nearfar/ProtoReader" := f1018.wr W1023
  have f1027 : Fld Z h1023 a1 "com/example/nearfar/nearfar/ProtoReader" "bytes" "[B" (.ref a2) := f1021.other W1023 (Or.inr (slot_ne (Or.inr (hw _ (List.mem_of_getElem? (i := 15) rfl))) (Or.inr (hw _ (List.mem_of_getElem? (i := 21) rfl))) (by decide) (t := (.array .byte)) (t' := .int) (by decide) (by decide)))
  have f1028 : Fld Z h1023 a1 "com/example/nearfar/nearfar/ProtoReader" "position" "I" (.int p3) := f1022.other W1023 (Or.inr (slot_ne (Or.inl (hw _ (List.mem_of_getElem? (i := 17) rfl))) (Or.inr (hw _ (List.mem_of_getElem? (i := 21) rfl))) (by decide) (t := .int) (t' := .int) (by decide) (by decide)))
  have f1029 : Fld Z h1023 a1 "com/example/nearfar/nearfar/ProtoReader" "end" "I" (.int p4) := f1017.other W1023 (Or.inr (slot_ne (Or.inr (hw _ (List.mem_of_getElem? (i := 19) rfl))) (Or.inr (hw _ (List.mem_of_getElem? (i := 21) rfl))) (by decide) (t := .int) (t' := .int) (by decide) (by decide)))
  have N1023 := Fr.snoc X1023 N1016 g1
  have KK1023 : Keep h0 h1023 [a1] := KK1016.wr W1023 (Or.inl (List.mem_of_getElem? (i := 0) rfl))
  have Z1023 := Nat.le_trans Z1016 (Keep.of_wr W1023).1
  show OEnds p.tables e below G (T1023.setTop (mkF m 25 #[.val (.ref a1), .val (.ref a2), .val (.int p3), .val (.int p4), .val (.int p5)] []))
  rw [← hG]
  refine OEnds.retV X1023 hx hlk Bd.returns (hb hby d2_25) (by decide) (by decide) ?_
  rw [e1023]
  exact ⟨rfl, N1023, KK1023, f1025, f1027, f1028, f1029, f1024⟩
theorem d1_0 : decode prog_32_method_1_code 0 = .ok (.aload_n 0, 1) := by decide +kernel
theorem d1_1 : decode prog_32_method_1_code 1 = .ok (.aload_n 1, 1) := by decide +kernel
theorem d1_2 : decode prog_32_method_1_code 2 = .ok (.iconst 0, 1) := by decide +kernel
theorem d1_3 : decode prog_32_method_1_code 3 = .ok (.aload_n 1, 1) := by decide +kernel
theorem d1_4 : decode prog_32_method_1_code 4 = .ok (.arraylength, 1) := by decide +kernel
theorem d1_5 : decode prog_32_method_1_code 5 = .ok (.iconst 0, 1) := by decide +kernel
theorem d1_6 : decode prog_32_method_1_code 6 = .ok (.invokespecial 1, 3) := by decide +kernel
theorem d1_9 : decode prog_32_method_1_code 9 = .ok (.return_, 1) := by decide +kernel
theorem ef_1 (m : MethodId) (a1 : Addr) (a2 : Addr) : entryFrame m #[(.ref a1), (.ref a2)] 2 = mkF m 0 #[.val (.ref a1), .val (.ref a2)] [] := by first | (simp [entryFrame, mkF, argsToLocals, Value.category]; done) | rfl
def Q1 (Z : State) (a1 : Addr) (a2 : Addr) (k : ClassId) (z : Int32) (vs : List Value) (d : Value) (h0 : Heap) (n0 : Nat) (v : Option Value) (h : Heap) (L : List Loc) : Prop := v = none ∧ Fr n0 L ∧ Keep h0 h [a1] ∧ Exa Z h a1 "com/example/nearfar/nearfar/ProtoReader" ∧ Fld Z h a1 "com/example/nearfar/nearfar/ProtoReader" "bytes" "[B" (.ref a2) ∧ Fld Z h a1 "com/example/nearfar/nearfar/ProtoReader" "position" "I" (.int (0 : Int32)) ∧ Fld Z h a1 "com/example/nearfar/nearfar/ProtoReader" "end" "I" (.int z) ∧ Fld Z h a1 "com/example/nearfar/nearfar/ProtoReader" "depth" "I" (.int (0 : Int32))
theorem pd_0 : parseMethodDescriptor "([BIII)V" = some ⟨[(.array .byte), .int, .int, .int], none⟩ := by decide +kernel
set_option maxRecDepth 65536 in
set_option maxHeartbeats 40000000 in
theorem rm1 (l : Launch) (Z : State) (a0 : Array Value) (hw : ∀ d ∈ tables_1, d.before a0 Z = true) (ws : List Jvm.Cond) (a1 : Addr) (a2 : Addr) (k : ClassId) (z : Int32) (vs : List Value) (d : Value) (h0 : Heap) (n0 : Nat) (Z0 : n0 ≤ h0.size) (Ea1 : Exa Z h0 a1 "com/example/nearfar/nearfar/ProtoReader") (Fba1 : Fld Z h0 a1 "com/example/nearfar/nearfar/ProtoReader" "bytes" "[B" .null) (Fpa1 : Fld Z h0 a1 "com/example/nearfar/nearfar/ProtoReader" "position" "I" (.int (0 : Int32))) (Fea1 : Fld Z h0 a1 "com/example/nearfar/nearfar/ProtoReader" "end" "I" (.int (0 : Int32))) (Fda1 : Fld Z h0 a1 "com/example/nearfar/nearfar/ProtoReader" "depth" "I" (.int (0 : Int32))) (V : Arv Z h0 a2 k .byte z vs d) (g1 : n0 ≤ a1) (na : a2 ≠ a1) :
    MetFree l (⟨"com/example/nearfar/nearfar/ProtoReader", "<init>", "([B)V"⟩ : MethodName) (head1 (Jvm.Cond.code (⟨"com/example/nearfar/nearfar/ProtoReader", "<init>", "([B)V"⟩ : MethodName) prog_32_method_1_code 2 none :: ws) ({ frames := 2, cells := 0, slots := 0, locals := 28 } : Room)) (fun a U => a = #[(.ref a1), (.ref a2)] ∧ Z.Warmed39 U.vm ∧ U.heap = h0) (fun _ _ _ _ _ => True) (fun _ U o U' => ∃ v L, o = .returned v ∧ Q1 Z a1 a2 k z vs d h0 n0 v U'.heap L ∧ FrameEnd U o U' L ({ frames := 2, cells := 0, slots := 0, locals := 28 } : Room).cells ({ frames := 2, cells := 0, slots := 0, locals := 28 } : Room).slots) := by
  refine MetFree.of_bodySF (plainFor_of_name pn_0) hisR ?_
  intro p e s m args below meth c s₁ Bd hml0 hP hK
  obtain ⟨rfl, hZ, hh⟩ := hP
  have hx := Bd.exec
  have hby := Bd.bytes
  have hml : c.maxLocals = 2 := hml0
  have hown : s.vm.findClass "com/example/nearfar/nearfar/ProtoReader" = some m.cls := findClass_of_methodNamed Bd.named
  have hnm := (name_of_methodNamed Bd.named Bd.method).1
  have hlk : meth.locks = false := BodyLoose.notSynchronized Bd
  have X0 : Stand p l e ({ frames := 2, cells := 0, slots := 0, locals := 28 } : Room) s m #[(.ref a1), (.ref a2)] below meth c s₁ [] 0 0 := Stand.of_body Bd
  have e0 : s₁.heap = h0 := by rw [← hh, Bd.state]; rfl
  have N0 := Fr.nil n0
  show OEnds p.tables e below (OGoal (Q1 Z a1 a2 k z vs d h0 n0) s 0 0) (s₁.setTop (entryFrame m #[(.ref a1), (.ref a2)] 2))
  refine OEnds.st (fun t k => castTop (ef_1 m a1 a2) k) ?_
  generalize hG : OGoal (Q1 Z a1 a2 k z vs d h0 n0) s 0 0 = G
  have KK0 : Keep h0 h0 [a1] := Keep.refl h0 [a1]
  show OEnds p.tables e below G (s₁.setTop (mkF m 0 #[.val (.ref a1), .val (.ref a2)] []))
  refine OEnds.st (fun _ k => XS.aloadN X0.here hx rfl (hb hby d1_0) rfl rfl k) ?_
  show OEnds p.tables e below G (s₁.setTop (mkF m 1 #[.val (.ref a1), .val (.ref a2)] [(.ref a1)]))
  refine OEnds.st (fun _ k => XS.aloadN X0.here hx rfl (hb hby d1_1) rfl rfl k) ?_
  show OEnds p.tables e below G (s₁.setTop (mkF m 2 #[.val (.ref a1), .val (.ref a2)] [(.ref a2), (.ref a1)]))
  refine OEnds.st (fun _ k => XS.iconst X0.here hx rfl (hb hby d1_2) k) ?_
  show OEnds p.tables e below G (s₁.setTop (mkF m 3 #[.val (.ref a1), .val (.ref a2)] [(.int (0 : Int32)), (.ref a2), (.ref a1)]))
  refine OEnds.st (fun _ k => XS.aloadN X0.here hx rfl (hb hby d1_3) rfl rfl k) ?_
  show OEnds p.tables e below G (s₁.setTop (mkF m 4 #[.val (.ref a1), .val (.ref a2)] [(.ref a2), (.int (0 : Int32)), (.ref a2), (.ref a1)]))
  obtain ⟨cl1001, Ar1001, -, S1001, N1001n, -, -⟩ := id V
  refine OEnds.st (X0.arraylength hx (by rw [e0]; exact Ar1001.1) (State.isArrayOf_alike hZ.alike Ar1001.2.1) (g := (mkF m 4 #[.val (.ref a1), .val (.ref a2)] [(.ref a2), (.int (0 : Int32)), (.ref a2), (.ref a1)])) rfl rfl (hb hby d1_4)) ?_
  rw [len_of S1001 N1001n]
  show OEnds p.tables e below G (s₁.setTop (mkF m 5 #[.val (.ref a1), .val (.ref a2)] [(.int z), (.int (0 : Int32)), (.ref a2), (.ref a1)]))
  refine OEnds.st (fun _ k => XS.iconst X0.here hx rfl (hb hby d1_5) k) ?_
  show OEnds p.tables e below G (s₁.setTop (mkF m 6 #[.val (.ref a1), .val (.ref a2)] [(.int (0 : Int32)), (.int z), (.int (0 : Int32)), (.ref a2), (.ref a1)]))
  obtain ⟨_, _, ⟨T1002, L1002, k1002c, n1002c⟩, -, X1002, ⟨Lc1002, hQ1002, l1002, y1002, z1002⟩, st1002⟩ := X0.specialBack hx (y := (⟨"com/example/nearfar/nearfar/ProtoReader", "<init>", "([BIII)V"⟩ : MethodName)) rfl hown (mvT hZ (hw _ (List.mem_of_getElem? (i := 8) rfl))) (mvT hZ (hw _ (List.mem_of_getElem? (i := 9) rfl))) (mvT hZ (hw _ (List.mem_of_getElem? (i := 10) rfl))) (by decide) (backOf (W := 0) (rm2 l Z a0 hw [] a1 a2 (0 : Int32) z (0 : Int32) h0 n0 Z0 Ea1 Fba1 Fpa1 Fea1 Fda1 g1) hZ (hw _ (List.mem_of_getElem? (i := 10) rfl)) (hw _ (List.mem_of_getElem? (i := 4) rfl)) (by decide) (by decide)) (g := (mkF m 6 #[.val (.ref a1), .val (.ref a2)] [(.int (0 : Int32)), (.int z), (.int (0 : Int32)), (.ref a2), (.ref a1)])) rfl (by rw [hml]; rfl) (Steps.refl _) (a := a1) (argsL := [(.ref a2), (.int (0 : Int32)), (.int z), (.int (0 : Int32))]) (rest := []) (lenOf pd_0 rfl) rfl (by show 2 * 0 + _ ≤ _; exact Nat.le_of_eq rfl) (hb hby d1_6) (fun _ _ => ⟨rfl, e0, (by decide : 0 + 0 ≤ _), (by decide : 0 + 0 ≤ _)⟩)
  dsimp only [Pt.U, Pt.locs, Pt.cells, Pt.slots] at X1002 l1002 y1002 z1002 st1002 hQ1002
  subst l1002 y1002 z1002
  obtain ⟨rfl, N1002q, p1003, p1004, p1005, p1006, p1007, p1008⟩ := hQ1002
  have N1002 := Fr.app N0 N1002q
  refine OEnds.st (fun _ k => st1002.trans k) ?_
  have f1009 : Exa Z T1002.heap a1 "com/example/nearfar/nearfar/ProtoReader" := Ea1.keep p1003
  have f1014 : Arv Z T1002.heap a2 k .byte z vs d := V.keep p1003 (by simp only [List.mem_cons, List.not_mem_nil, or_false, not_or]; exact na)
  have KK1002 : Keep h0 T1002.heap [a1] := KK0.trans p1003 (fun x hx => by cases List.mem_singleton.mp hx; exact Or.inl (List.mem_of_getElem? (i := 0) rfl))
  have Z1002 := Nat.le_trans Z0 p1003.1
  show OEnds p.tables e below G (T1002.setTop (mkF m 9 #[.val (.ref a1), .val (.ref a2)] []))
  rw [← hG]
  refine OEnds.retV X1002 hx hlk Bd.returns (hb hby d1_9) (by decide) (by decide) ?_
  show _
  exact ⟨rfl, N1002, KK1002, p1004, p1005, p1006, p1007, p1008⟩
theorem d4_0 : decode prog_32_method_3_code 0 = .ok (.aload_n 0, 1) := by decide +kernel
theorem d4_1 : decode prog_32_method_3_code 1 = .ok (.getfield 16, 3) := by decide +kernel
theorem d4_4 : decode prog_32_method_3_code 4 = .ok (.aload_n 0, 1) := by decide +kernel
theorem d4_5 : decode prog_32_method_3_code 5 = .ok (.getfield 20, 3) := by decide +kernel
theorem d4_8 : decode prog_32_method_3_code 8 = .ok (.if_icmp .ne 7, 3) := by decide +kernel
theorem d4_11 : decode prog_32_method_3_code 11 = .ok (.iconst 1, 1) := by decide +kernel
theorem d4_12 : decode prog_32_method_3_code 12 = .ok (.goto 4, 3) := by decide +kernel
theorem d4_15 : decode prog_32_method_3_code 15 = .ok (.iconst 0, 1) := by decide +kernel
theorem d4_16 : decode prog_32_method_3_code 16 = .ok (.ireturn, 1) := by decide +kernel
theorem ef_4 (m : MethodId) (a1 : Addr) : entryFrame m #[(.ref a1)] 1 = mkF m 0 #[.val (.ref a1)] [] := by first | (simp [entryFrame, mkF, argsToLocals, Value.category]; done) | rfl
def Q4 (Z : State) (a1 : Addr) (w : Int32) (e1 : Int32) (h0 : Heap) (n0 : Nat) (v : Option Value) (h : Heap) (L : List Loc) : Prop := v = some (.int (own_eq w e1)) ∧ Fr n0 L ∧ h = h0
set_option maxRecDepth 65536 in
set_option maxHeartbeats 40000000 in
theorem rm4 (l : Launch) (Z : State) (a0 : Array Value) (hw : ∀ d ∈ tables_1, d.before a0 Z = true) (ws : List Jvm.Cond) (a1 : Addr) (w : Int32) (e1 : Int32) (h0 : Heap) (n0 : Nat) (Z0 : n0 ≤ h0.size) (Fp : Fld Z h0 a1 "com/example/nearfar/nearfar/ProtoReader" "position" "I" (.int w)) (Fe : Fld Z h0 a1 "com/example/nearfar/nearfar/ProtoReader" "end" "I" (.int e1)) :
    MetFree l (⟨"com/example/nearfar/nearfar/ProtoReader", "atEnd", "()Z"⟩ : MethodName) (head1 (Jvm.Cond.code (⟨"com/example/nearfar/nearfar/ProtoReader", "atEnd", "()Z"⟩ : MethodName) prog_32_method_3_code 1 (some .boolean) :: ws) ({ frames := 0, cells := 0, slots := 0, locals := 0 } : Room)) (fun a U => a = #[(.ref a1)] ∧ Z.Warmed39 U.vm ∧ U.heap = h0) (fun _ _ _ _ _ => True) (fun _ U o U' => ∃ v L, o = .returned v ∧ Q4 Z a1 w e1 h0 n0 v U'.heap L ∧ FrameEnd U o U' L ({ frames := 0, cells := 0, slots := 0, locals := 0 } : Room).cells ({ frames := 0, cells := 0, slots := 0, locals := 0 } : Room).slots) := by
  refine MetFree.of_bodySF (plainFor_of_name pn_0) hisR ?_
  intro p e s m args below meth c s₁ Bd hml0 hP hK
  obtain ⟨rfl, hZ, hh⟩ := hP
  have hx := Bd.exec
  have hby := Bd.bytes
  have hml : c.maxLocals = 1 := hml0
  have hown : s.vm.findClass "com/example/nearfar/nearfar/ProtoReader" = some m.cls := findClass_of_methodNamed Bd.named
  have hnm := (name_of_methodNamed Bd.named Bd.method).1
  have hlk : meth.locks = false := BodyLoose.notSynchronized Bd
  have X0 : Stand p l e ({ frames := 0, cells := 0, slots := 0, locals := 0 } : Room) s m #[(.ref a1)] below meth c s₁ [] 0 0 := Stand.of_body Bd
  have e0 : s₁.heap = h0 := by rw [← hh, Bd.state]; rfl
  have N0 := Fr.nil n0
  show OEnds p.tables e below (OGoal (Q4 Z a1 w e1 h0 n0) s 0 0) (s₁.setTop (entryFrame m #[(.ref a1)] 1))
  refine OEnds.st (fun t k => castTop (ef_4 m a1) k) ?_
  generalize hG : OGoal (Q4 Z a1 w e1 h0 n0) s 0 0 = G
  have KK0 : Keep h0 h0 [] := Keep.refl h0 []
  show OEnds p.tables e below G (s₁.setTop (mkF m 0 #[.val (.ref a1)] []))
  refine OEnds.st (fun _ k => XS.aloadN X0.here hx rfl (hb hby d4_0) rfl rfl k) ?_
  show OEnds p.tables e below G (s₁.setTop (mkF m 1 #[.val (.ref a1)] [(.ref a1)]))
  obtain ⟨T1001, X1001, e1001, st1001⟩ := getF X0 hx hZ hown (host := "") (Or.inl (hw _ (List.mem_of_getElem? (i := 16) rfl))) Via.refl e0 Fp (g := (mkF m 1 #[.val (.ref a1)] [(.ref a1)])) rfl rfl (hb hby d4_1)
  refine OEnds.st st1001 ?_
  show OEnds p.tables e below G (T1001.setTop (mkF m 4 #[.val (.ref a1)] [(.int w)]))
  refine OEnds.st (fun _ k => XS.aloadN X1001.here hx rfl (hb hby d4_4) rfl rfl k) ?_
  show OEnds p.tables e below G (T1001.setTop (mkF m 5 #[.val (.ref a1)] [(.ref a1), (.int w)]))
  obtain ⟨T1002, X1002, e1002, st1002⟩ := getF X1001 hx hZ hown (host := "") (Or.inl (hw _ (List.mem_of_getElem? (i := 18) rfl))) Via.refl e1001 Fe (g := (mkF m 5 #[.val (.ref a1)] [(.ref a1), (.int w)])) rfl rfl (hb hby d4_5)
  refine OEnds.st st1002 ?_
  show OEnds p.tables e below G (T1002.setTop (mkF m 8 #[.val (.ref a1)] [(.int e1), (.int w)]))
  by_cases hc8_1003 : w = e1
  · -- pc 8: yes
    refine OEnds.st (fun _ k => XS.icmpNo X1002.here hx rfl (hb hby d4_8) rfl (teq hc8_1003).2 k) ?_
    show OEnds p.tables e below G (T1002.setTop (mkF m 11 #[.val (.ref a1)] []))
    refine OEnds.st (fun _ k => XS.iconst X1002.here hx rfl (hb hby d4_11) k) ?_
    show OEnds p.tables e below G (T1002.setTop (mkF m 12 #[.val (.ref a1)] [(.int (1 : Int32))]))
    refine OEnds.st (fun _ k => XS.goto X1002.here hx rfl (pc0 := 12) (pc' := 16) rfl (hb hby d4_12) (by decide) (by decide) k) ?_
    show OEnds p.tables e below G (T1002.setTop (mkF m 16 #[.val (.ref a1)] [(.int (1 : Int32))]))
    rw [← hG]
    refine OEnds.retZ X1002 hx hlk Bd.returns rfl (hb hby d4_16) (by decide) (by decide) ?_
    rw [e1002]
    exact ⟨by unfold own_eq; simp [hc8_1003], N0, rfl⟩
  · -- pc 8: no
    refine OEnds.st (fun _ k => XS.icmpYes X1002.here hx rfl (pc0 := 8) (pc' := 15) rfl (hb hby d4_8) rfl (feq hc8_1003).2 (by decide) (by decide) k) ?_
    show OEnds p.tables e below G (T1002.setTop (mkF m 15 #[.val (.ref a1)] []))
    refine OEnds.st (fun _ k => XS.iconst X1002.here hx rfl (hb hby d4_15) k) ?_
    show OEnds p.tables e below G (T1002.setTop (mkF m 16 #[.val (.ref a1)] [(.int (0 : Int32))]))
    rw [← hG]
    refine OEnds.retZ X1002 hx hlk Bd.returns rfl (hb hby d4_16) (by decide) (by decide) ?_
    rw [e1002]
    exact ⟨by unfold own_eq; simp [hc8_1003], N0, rfl⟩
theorem d8_0 : decode prog_32_method_17_code 0 = .ok (.aload_n 0, 1) := by decide +kernel
theorem d8_1 : decode prog_32_method_17_code 1 = .ok (.getfield 16, 3) := by decide +kernel
theorem d8_4 : decode prog_32_method_17_code 4 = .ok (.aload_n 0, 1) := by decide +kernel
theorem d8_5 : decode prog_32_method_17_code 5 = .ok (.getfield 20, 3) := by decide +kernel
theorem d8_8 : decode prog_32_method_17_code 8 = .ok (.if_icmp .ne 11, 3) := by decide +kernel
theorem d8_11 : decode prog_32_method_17_code 11 = .ok (.aload_n 0, 1) := by decide +kernel
theorem d8_12 : decode prog_32_method_17_code 12 = .ok (.ldc 123, 2) := by decide +kernel
theorem d8_14 : decode prog_32_method_17_code 14 = .ok (.iload_n 1, 1) := by decide +kernel
theorem d8_15 : decode prog_32_method_17_code 15 = .ok (.invokevirtual 32, 3) := by decide +kernel
theorem d8_18 : decode prog_32_method_17_code 18 = .ok (.athrow, 1) := by decide +kernel
theorem d8_19 : decode prog_32_method_17_code 19 = .ok (.aload_n 0, 1) := by decide +kernel
theorem d8_20 : decode prog_32_method_17_code 20 = .ok (.getfield 12, 3) := by decide +kernel
theorem d8_23 : decode prog_32_method_17_code 23 = .ok (.aload_n 0, 1) := by decide +kernel
theorem d8_24 : decode prog_32_method_17_code 24 = .ok (.dup, 1) := by decide +kernel
theorem d8_25 : decode prog_32_method_17_code 25 = .ok (.getfield 16, 3) := by decide +kernel
theorem d8_28 : decode prog_32_method_17_code 28 = .ok (.dup_x1, 1) := by decide +kernel
theorem d8_29 : decode prog_32_method_17_code 29 = .ok (.iconst 1, 1) := by decide +kernel
theorem d8_30 : decode prog_32_method_17_code 30 = .ok (.iadd, 1) := by decide +kernel
theorem d8_31 : decode prog_32_method_17_code 31 = .ok (.putfield 16, 3) := by decide +kernel
theorem d8_34 : decode prog_32_method_17_code 34 = .ok (.baload, 1) := by decide +kernel
theorem d8_35 : decode prog_32_method_17_code 35 = .ok (.ireturn, 1) := by decide +kernel
theorem ef_8 (m : MethodId) (a1 : Addr) (p2 : Int32) : entryFrame m #[(.ref a1), (.int p2)] 2 = mkF m 0 #[.val (.ref a1), .val (.int p2)] [] := by first | (simp [entryFrame, mkF, argsToLocals, Value.category]; done) | rfl
def Q8 (Z : State) (a1 : Addr) (p2 : Int32) (a3 : Addr) (w : Int32) (e1 : Int32) (de : Int32) (k : ClassId) (z : Int32) (vs : List Value) (d : Value) (x : Int32) (w1 : Int32) (h0 : Heap) (n0 : Nat) (v : Option Value) (h : Heap) (L : List Loc) : Prop := v = some (.int x) ∧ Fr n0 L ∧ Keep h0 h [a1] ∧ Exa Z h a1 "com/example/nearfar/nearfar/ProtoReader" ∧ Fld Z h a1 "com/example/nearfar/nearfar/ProtoReader" "bytes" "[B" (.ref a3) ∧ Fld Z h a1 "com/example/nearfar/nearfar/ProtoReader" "position" "I" (.int w1) ∧ Fld Z h a1 "com/example/nearfar/nearfar/ProtoReader" "end" "I" (.int e1) ∧ Fld Z h a1 "com/example/nearfar/nearfar/ProtoReader" "depth" "I" (.int de)
set_option maxRecDepth 65536 in
set_option maxHeartbeats 40000000 in
theorem rm8 (l : Launch) (Z : State) (a0 : Array Value) (hw : ∀ d ∈ tables_1, d.before a0 Z = true) (ws : List Jvm.Cond) (a1 : Addr) (p2 : Int32) (a3 : Addr) (w : Int32) (e1 : Int32) (de : Int32) (k : ClassId) (z : Int32) (vs : List Value) (d : Value) (x : Int32) (w1 : Int32) (h0 : Heap) (n0 : Nat) (Z0 : n0 ≤ h0.size) (Ea1 : Exa Z h0 a1 "com/example/nearfar/nearfar/ProtoReader") (Fba1 : Fld Z h0 a1 "com/example/nearfar/nearfar/ProtoReader" "bytes" "[B" (.ref a3)) (Fpa1 : Fld Z h0 a1 "com/example/nearfar/nearfar/ProtoReader" "position" "I" (.int w)) (Fea1 : Fld Z h0 a1 "com/example/nearfar/nearfar/ProtoReader" "end" "I" (.int e1)) (Fda1 : Fld Z h0 a1 "com/example/nearfar/nearfar/ProtoReader" "depth" "I" (.int de)) (V : Arv Z h0 a3 k .byte z vs d) (g1 : n0 ≤ a1) (na : a3 ≠ a1) (hne : ¬ (w = e1)) (hlo : ¬ (w < (0 : Int32))) (hhi : w < z) (hat : vs.getD w.toNatClampNeg d = .int x) (hby8 : nar .byte x = x) (hw1 : w + (1 : Int32) = w1) :
    MetFree l (⟨"com/example/nearfar/nearfar/ProtoReader", "next", "(I)B"⟩ : MethodName) (head1 (Jvm.Cond.code (⟨"com/example/nearfar/nearfar/ProtoReader", "next", "(I)B"⟩ : MethodName) prog_32_method_17_code 2 (some .byte) :: ws) ({ frames := 0, cells := 0, slots := 0, locals := 0 } : Room)) (fun a U => a = #[(.ref a1), (.int p2)] ∧ Z.Warmed39 U.vm ∧ U.heap = h0) (fun _ _ _ _ _ => True) (fun _ U o U' => ∃ v L, o = .returned v ∧ Q8 Z a1 p2 a3 w e1 de k z vs d x w1 h0 n0 v U'.heap L ∧ FrameEnd U o U' L ({ frames := 0, cells := 0, slots := 0, locals := 0 } : Room).cells ({ frames := 0, cells := 0, slots := 0, locals := 0 } : Room).slots) := by
  refine MetFree.of_bodySF (plainFor_of_name pn_0) hisR ?_
  intro p e s m args below meth c s₁ Bd hml0 hP hK
  obtain ⟨rfl, hZ, hh⟩ := hP
  have hx := Bd.exec
  have hby := Bd.bytes
  have hml : c.maxLocals = 2 := hml0
  have hown : s.vm.findClass "com/example/nearfar/nearfar/ProtoReader" = some m.cls := findClass_of_methodNamed Bd.named
  have hnm := (name_of_methodNamed Bd.named Bd.method).1
  have hlk : meth.locks = false := BodyLoose.notSynchronized Bd
  have X0 : Stand p l e ({ frames := 0, cells := 0, slots := 0, locals := 0 } : Room) s m #[(.ref a1), (.int p2)] below meth c s₁ [] 0 0 := Stand.of_body Bd
  have e0 : s₁.heap = h0 := by rw [← hh, Bd.state]; rfl
  have N0 := Fr.nil n0
  show OEnds p.tables e below (OGoal (Q8 Z a1 p2 a3 w e1 de k z vs d x w1 h0 n0) s 0 0) (s₁.setTop (entryFrame m #[(.ref a1), (.int p2)] 2))
  refine OEnds.st (fun t k => castTop (ef_8 m a1 p2) k) ?_
  generalize hG : OGoal (Q8 Z a1 p2 a3 w e1 de k z vs d x w1 h0 n0) s 0 0 = G
  have KK0 : Keep h0 h0 [a1] := Keep.refl h0 [a1]
  show OEnds p.tables e below G (s₁.setTop (mkF m 0 #[.val (.ref a1), .val (.int p2)] []))
  refine OEnds.st (fun _ k => XS.aloadN X0.here hx rfl (hb hby d8_0) rfl rfl k) ?_
  show OEnds p.tables e below G (s₁.setTop (mkF m 1 #[.val (.ref a1), .val (.int p2)] [(.ref a1)]))
  obtain ⟨T1001, X1001, e1001, st1001⟩ := getF X0 hx hZ hown (host := "") (Or.inl (hw _ (List.mem_of_getElem? (i := 16) rfl))) Via.refl e0 Fpa1 (g := (mkF m 1 #[.val (.ref a1), .val (.int p2)] [(.ref a1)])) rfl rfl (hb hby d8_1)
  refine OEnds.st st1001 ?_
  show OEnds p.tables e below G (T1001.setTop (mkF m 4 #[.val (.ref a1), .val (.int p2)] [(.int w)]))
  refine OEnds.st (fun _ k => XS.aloadN X1001.here hx rfl (hb hby d8_4) rfl rfl k) ?_
  show OEnds p.tables e below G (T1001.setTop (mkF m 5 #[.val (.ref a1), .val (.int p2)] [(.ref a1), (.int w)]))
  obtain ⟨T1002, X1002, e1002, st1002⟩ := getF X1001 hx hZ hown (host := "") (Or.inl (hw _ (List.mem_of_getElem? (i := 18) rfl))) Via.refl e1001 Fea1 (g := (mkF m 5 #[.val (.ref a1), .val (.int p2)] [(.ref a1), (.int w)])) rfl rfl (hb hby d8_5)
  refine OEnds.st st1002 ?_
  show OEnds p.tables e below G (T1002.setTop (mkF m 8 #[.val (.ref a1), .val (.int p2)] [(.int e1), (.int w)]))
  refine OEnds.st (fun _ k => XS.icmpYes X1002.here hx rfl (pc0 := 8) (pc' := 19) rfl (hb hby d8_8) rfl (feq hne).2 (by decide) (by decide) k) ?_
  show OEnds p.tables e below G (T1002.setTop (mkF m 19 #[.val (.ref a1), .val (.int p2)] []))
  refine OEnds.st (fun _ k => XS.aloadN X1002.here hx rfl (hb hby d8_19) rfl rfl k) ?_
  show OEnds p.tables e below G (T1002.setTop (mkF m 20 #[.val (.ref a1), .val (.int p2)] [(.ref a1)]))
  obtain ⟨T1003, X1003, e1003, st1003⟩ := getF X1002 hx hZ hown (host := "") (Or.inl (hw _ (List.mem_of_getElem? (i := 14) rfl))) Via.refl e1002 Fba1 (g := (mkF m 20 #[.val (.ref a1), .val (.int p2)] [(.ref a1)])) rfl rfl (hb hby d8_20)
  refine OEnds.st st1003 ?_
  show OEnds p.tables e below G (T1003.setTop (mkF m 23 #[.val (.ref a1), .val (.int p2)] [(.ref a3)]))
  refine OEnds.st (fun _ k => XS.aloadN X1003.here hx rfl (hb hby d8_23) rfl rfl k) ?_
  show OEnds p.tables e below G (T1003.setTop (mkF m 24 #[.val (.ref a1), .val (.int p2)] [(.ref a1), (.ref a3)]))
  refine OEnds.st (fun _ k => XS.dup X1003.here hx rfl (hb hby d8_24) rfl rfl k) ?_
  show OEnds p.tables e below G (T1003.setTop (mkF m 25 #[.val (.ref a1), .val (.int p2)] [(.ref a1), (.ref a1), (.ref a3)]))
  obtain ⟨T1004, X1004, e1004, st1004⟩ := getF X1003 hx hZ hown (host := "") (Or.inl (hw _ (List.mem_of_getElem? (i := 16) rfl))) Via.refl e1003 Fpa1 (g := (mkF m 25 #[.val (.ref a1), .val (.int p2)] [(.ref a1), (.ref a1), (.ref a3)])) rfl rfl (hb hby d8_25)
  refine OEnds.st st1004 ?_
  show OEnds p.tables e below G (T1004.setTop (mkF m 28 #[.val (.ref a1), .val (.int p2)] [(.int w), (.ref a1), (.ref a3)]))
  refine OEnds.st (fun _ k => XS.dupX1 X1004.here hx rfl (hb hby d8_28) rfl rfl rfl k) ?_
  show OEnds p.tables e below G (T1004.setTop (mkF m 29 #[.val (.ref a1), .val (.int p2)] [(.int w), (.ref a1), (.int w), (.ref a3)]))
  refine OEnds.st (fun _ k => XS.iconst X1004.here hx rfl (hb hby d8_29) k) ?_
  show OEnds p.tables e below G (T1004.setTop (mkF m 30 #[.val (.ref a1), .val (.int p2)] [(.int (1 : Int32)), (.int w), (.ref a1), (.int w), (.ref a3)]))
  refine OEnds.st (fun _ k => XS.iadd X1004.here hx rfl (hb hby d8_30) rfl k) ?_
  show OEnds p.tables e below G (T1004.setTop (mkF m 31 #[.val (.ref a1), .val (.int p2)] [(.int (w + (1 : Int32))), (.ref a1), (.int w), (.ref a3)]))
  rw [hw1]
  show OEnds p.tables e below G (T1004.setTop (mkF m 31 #[.val (.ref a1), .val (.int p2)] [(.int w1), (.ref a1), (.int w), (.ref a3)]))
  obtain ⟨T1005, h1005, X1005, e1005, W1005, st1005⟩ := putF X1004 hx hZ hown (host := "") (Or.inl (hw _ (List.mem_of_getElem? (i := 16) rfl))) Via.refl e1004 Fpa1 Ea1 (Or.inl (hw _ (List.mem_of_getElem? (i := 17) rfl))) (hw _ (List.mem_of_getElem? (i := 3) rfl)) (ty := .int) (by decide) rfl rfl (g := (mkF m 31 #[.val (.ref a1), .val (.int p2)] [(.int w1), (.ref a1), (.int w), (.ref a3)])) rfl rfl (hb hby d8_31)
  refine OEnds.st st1005 ?_
  have f1006 : Fld Z h1005 a1 "com/example/nearfar/nearfar/ProtoReader" "position" "I" (.int w1) := Fpa1.same W1005
  have f1007 : Exa Z h1005 a1 "com/example/nearfar/nearfar/ProtoReader" := Ea1.wr W1005
  have f1008 : Fld Z h1005 a1 "com/example/nearfar/nearfar/ProtoReader" "bytes" "[B" (.ref a3) := Fba1.other W1005 (Or.inr (slot_ne (Or.inr (hw _ (List.mem_of_getElem? (i := 15) rfl))) (Or.inl (hw _ (List.mem_of_getElem? (i := 17) rfl))) (by decide) (t := (.array .byte)) (t' := .int) (by decide) (by decide)))
  have f1010 : Fld Z h1005 a1 "com/example/nearfar/nearfar/ProtoReader" "end" "I" (.int e1) := Fea1.other W1005 (Or.inr (slot_ne (Or.inr (hw _ (List.mem_of_getElem? (i := 19) rfl))) (Or.inl (hw _ (List.mem_of_getElem? (i := 17) rfl))) (by decide) (t := .int) (t' := .int) (by decide) (by decide)))
  have f1011 : Fld Z h1005 a1 "com/example/nearfar/nearfar/ProtoReader" "depth" "I" (.int de) := Fda1.other W1005 (Or.inr (slot_ne (Or.inr (hw _ (List.mem_of_getElem? (i := 21) rfl))) (Or.inl (hw _ (List.mem_of_getElem? (i := 17) rfl))) (by decide) (t := .int) (t' := .int) (by decide) (by decide)))
  have f1012 : Arv Z h1005 a3 k .byte z vs d := V.other W1005 na
  have N1005 := Fr.snoc X1005 N0 g1
  have KK1005 : Keep h0 h1005 [a1] := KK0.wr W1005 (Or.inl (List.mem_of_getElem? (i := 0) rfl))
  have Z1005 := Nat.le_trans Z0 (Keep.of_wr W1005).1
  show OEnds p.tables e below G (T1005.setTop (mkF m 34 #[.val (.ref a1), .val (.int p2)] [(.int w), (.ref a3)]))
  obtain ⟨cl1013, Ar1013, q1013, S1013, N1013n, H1013, G1013⟩ := id f1012
  have hin1013 : ¬ (w < 0 ∨ cl1013.slots.size ≤ (w).toNatClampNeg) := inb_of S1013 ⟨hlo, hhi⟩
  have hat1013 : cl1013.slots[(w).toNatClampNeg]? = some (.int x) := H1013.at hin1013 hat
  refine OEnds.st (X1005.baloadBytes hx (j := w) (v := (.int x)) (by rw [e1005]; exact Ar1013.1) (State.isArrayOf_alike hZ.alike Ar1013.2.1) Ar1013.2.2 hin1013 hat1013 (g := (mkF m 34 #[.val (.ref a1), .val (.int p2)] [(.int w), (.ref a3)])) rfl rfl (hb hby d8_34)) ?_
  show OEnds p.tables e below G (T1005.setTop (mkF m 35 #[.val (.ref a1), .val (.int p2)] [(.int x)]))
  rw [← hG]
  refine OEnds.retB X1005 hx hlk Bd.returns hby8 (hb hby d8_35) (by decide) (by decide) ?_
  rw [e1005]
  exact ⟨rfl, N1005, KK1005, f1007, f1008, f1006, f1010, f1011⟩
theorem d7_0 : decode prog_32_method_5_code 0 = .ok (.aload_n 0, 1) := by decide +kernel
theorem d7_1 : decode prog_32_method_5_code 1 = .ok (.getfield 16, 3) := by decide +kernel
theorem d7_4 : decode prog_32_method_5_code 4 = .ok (.istore_n 1, 1) := by decide +kernel
theorem d7_5 : decode prog_32_method_5_code 5 = .ok (.lconst 0, 1) := by decide +kernel
theorem d7_6 : decode prog_32_method_5_code 6 = .ok (.lstore_n 2, 1) := by decide +kernel
theorem d7_7 : decode prog_32_method_5_code 7 = .ok (.iconst 0, 1) := by decide +kernel
theorem d7_8 : decode prog_32_method_5_code 8 = .ok (.istore 4, 2) := by decide +kernel
theorem d7_10 : decode prog_32_method_5_code 10 = .ok (.aload_n 0, 1) := by decide +kernel
theorem d7_11 : decode prog_32_method_5_code 11 = .ok (.iload_n 1, 1) := by decide +kernel
theorem d7_12 : decode prog_32_method_5_code 12 = .ok (.invokevirtual 36, 3) := by decide +kernel
theorem d7_15 : decode prog_32_method_5_code 15 = .ok (.istore 5, 2) := by decide +kernel
theorem d7_17 : decode prog_32_method_5_code 17 = .ok (.iload 4, 2) := by decide +kernel
theorem d7_19 : decode prog_32_method_5_code 19 = .ok (.bipush 9, 2) := by decide +kernel
theorem d7_21 : decode prog_32_method_5_code 21 = .ok (.if_icmp .ne 21, 3) := by decide +kernel
theorem d7_24 : decode prog_32_method_5_code 24 = .ok (.iload 5, 2) := by decide +kernel
theorem d7_26 : decode prog_32_method_5_code 26 = .ok (.sipush 255, 3) := by decide +kernel
theorem d7_29 : decode prog_32_method_5_code 29 = .ok (.iand, 1) := by decide +kernel
theorem d7_30 : decode prog_32_method_5_code 30 = .ok (.iconst 1, 1) := by decide +kernel
theorem d7_31 : decode prog_32_method_5_code 31 = .ok (.if_icmp .le 11, 3) := by decide +kernel
theorem d7_34 : decode prog_32_method_5_code 34 = .ok (.aload_n 0, 1) := by decide +kernel
theorem d7_35 : decode prog_32_method_5_code 35 = .ok (.ldc 40, 2) := by decide +kernel
theorem d7_37 : decode prog_32_method_5_code 37 = .ok (.iload_n 1, 1) := by decide +kernel
theorem d7_38 : decode prog_32_method_5_code 38 = .ok (.invokevirtual 32, 3) := by decide +kernel
theorem d7_41 : decode prog_32_method_5_code 41 = .ok (.athrow, 1) := by decide +kernel
theorem d7_42 : decode prog_32_method_5_code 42 = .ok (.lload_n 2, 1) := by decide +kernel
theorem d7_43 : decode prog_32_method_5_code 43 = .ok (.iload 5, 2) := by decide +kernel
theorem d7_45 : decode prog_32_method_5_code 45 = .ok (.bipush 127, 2) := by decide +kernel
theorem d7_47 : decode prog_32_method_5_code 47 = .ok (.iand, 1) := by decide +kernel
theorem d7_48 : decode prog_32_method_5_code 48 = .ok (.i2l, 1) := by decide +kernel
theorem d7_49 : decode prog_32_method_5_code 49 = .ok (.bipush 7, 2) := by decide +kernel
theorem d7_51 : decode prog_32_method_5_code 51 = .ok (.iload 4, 2) := by decide +kernel
theorem d7_53 : decode prog_32_method_5_code 53 = .ok (.imul, 1) := by decide +kernel
theorem d7_54 : decode prog_32_method_5_code 54 = .ok (.lshl, 1) := by decide +kernel
theorem d7_55 : decode prog_32_method_5_code 55 = .ok (.lor, 1) := by decide +kernel
theorem d7_56 : decode prog_32_method_5_code 56 = .ok (.lstore_n 2, 1) := by decide +kernel
theorem d7_57 : decode prog_32_method_5_code 57 = .ok (.iload 5, 2) := by decide +kernel
theorem d7_59 : decode prog_32_method_5_code 59 = .ok (.ifCond .lt 5, 3) := by decide +kernel
theorem d7_62 : decode prog_32_method_5_code 62 = .ok (.lload_n 2, 1) := by decide +kernel
theorem d7_63 : decode prog_32_method_5_code 63 = .ok (.lreturn, 1) := by decide +kernel
theorem d7_64 : decode prog_32_method_5_code 64 = .ok (.iinc 4 1, 3) := by decide +kernel
theorem d7_67 : decode prog_32_method_5_code 67 = .ok (.goto (-57), 3) := by decide +kernel
theorem ef_7 (m : MethodId) (a1 : Addr) : entryFrame m #[(.ref a1)] 6 = mkF m 0 #[.val (.ref a1), .unset, .unset, .unset, .unset, .unset] [] := by first | (simp [entryFrame, mkF, argsToLocals, Value.category]; done) | rfl
def Q7 (Z : State) (a1 : Addr) (a3 : Addr) (w : Int32) (e1 : Int32) (de : Int32) (k : ClassId) (z : Int32) (vs : List Value) (d : Value) (x : Int32) (w1 : Int32) (h0 : Heap) (n0 : Nat) (v : Option Value) (h : Heap) (L : List Loc) : Prop := v = some (.long (own_vi x)) ∧ Fr n0 L ∧ Keep h0 h [a1] ∧ Exa Z h a1 "com/example/nearfar/nearfar/ProtoReader" ∧ Fld Z h a1 "com/example/nearfar/nearfar/ProtoReader" "bytes" "[B" (.ref a3) ∧ Fld Z h a1 "com/example/nearfar/nearfar/ProtoReader" "position" "I" (.int w1) ∧ Fld Z h a1 "com/example/nearfar/nearfar/ProtoReader" "end" "I" (.int e1) ∧ Fld Z h a1 "com/example/nearfar/nearfar/ProtoReader" "depth" "I" (.int de)
theorem pd_1 : parseMethodDescriptor "(I)B" = some ⟨[.int], some .byte⟩ := by decide +kernel
set_option maxRecDepth 65536 in
set_option maxHeartbeats 40000000 in
theorem rm7 (l : Launch) (Z : State) (a0 : Array Value) (hw : ∀ d ∈ tables_1, d.before a0 Z = true) (ws : List Jvm.Cond) (a1 : Addr) (a3 : Addr) (w : Int32) (e1 : Int32) (de : Int32) (k : ClassId) (z : Int32) (vs : List Value) (d : Value) (x : Int32) (w1 : Int32) (h0 : Heap) (n0 : Nat) (Z0 : n0 ≤ h0.size) (Ea1 : Exa Z h0 a1 "com/example/nearfar/nearfar/ProtoReader") (Fba1 : Fld Z h0 a1 "com/example/nearfar/nearfar/ProtoReader" "bytes" "[B" (.ref a3)) (Fpa1 : Fld Z h0 a1 "com/example/nearfar/nearfar/ProtoReader" "position" "I" (.int w)) (Fea1 : Fld Z h0 a1 "com/example/nearfar/nearfar/ProtoReader" "end" "I" (.int e1)) (Fda1 : Fld Z h0 a1 "com/example/nearfar/nearfar/ProtoReader" "depth" "I" (.int de)) (V : Arv Z h0 a3 k .byte z vs d) (g1 : n0 ≤ a1) (na : a3 ≠ a1) (hne : ¬ (w = e1)) (hlo : ¬ (w < (0 : Int32))) (hhi : w < z) (hat : vs.getD w.toNatClampNeg d = .int x) (hby8 : nar .byte x = x) (hw1 : w + (1 : Int32) = w1) (hx0 : ¬ (x < (0 : Int32))) :
    MetFree l (⟨"com/example/nearfar/nearfar/ProtoReader", "varint", "()J"⟩ : MethodName) (head1 (Jvm.Cond.code (⟨"com/example/nearfar/nearfar/ProtoReader", "varint", "()J"⟩ : MethodName) prog_32_method_5_code 6 (some .long) :: ws) ({ frames := 1, cells := 0, slots := 0, locals := 13 } : Room)) (fun a U => a = #[(.ref a1)] ∧ Z.Warmed39 U.vm ∧ U.heap = h0) (fun _ _ _ _ _ => True) (fun _ U o U' => ∃ v L, o = .returned v ∧ Q7 Z a1 a3 w e1 de k z vs d x w1 h0 n0 v U'.heap L ∧ FrameEnd U o U' L ({ frames := 1, cells := 0, slots := 0, locals := 13 } : Room).cells ({ frames := 1, cells := 0, slots := 0, locals := 13 } : Room).slots) := by
  refine MetFree.of_bodySF (plainFor_of_name pn_0) hisR ?_
  intro p e s m args below meth c s₁ Bd hml0 hP hK
  obtain ⟨rfl, hZ, hh⟩ := hP
  have hx := Bd.exec
  have hby := Bd.bytes
  have hml : c.maxLocals = 6 := hml0
  have hown : s.vm.findClass "com/example/nearfar/nearfar/ProtoReader" = some m.cls := findClass_of_methodNamed Bd.named
  have hnm := (name_of_methodNamed Bd.named Bd.method).1
  have hlk : meth.locks = false := BodyLoose.notSynchronized Bd
  have X0 : Stand p l e ({ frames := 1, cells := 0, slots := 0, locals := 13 } : Room) s m #[(.ref a1)] below meth c s₁ [] 0 0 := Stand.of_body Bd
  have e0 : s₁.heap = h0 := by rw [← hh, Bd.state]; rfl
  have N0 := Fr.nil n0
  show OEnds p.tables e below (OGoal (Q7 Z a1 a3 w e1 de k z vs d x w1 h0 n0) s 0 0) (s₁.setTop (entryFrame m #[(.ref a1)] 6))
  refine OEnds.st (fun t k => castTop (ef_7 m a1) k) ?_
  generalize hG : OGoal (Q7 Z a1 a3 w e1 de k z vs d x w1 h0 n0) s 0 0 = G
  have KK0 : Keep h0 h0 [a1] := Keep.refl h0 [a1]
  show OEnds p.tables e below G (s₁.setTop (mkF m 0 #[.val (.ref a1), .unset, .unset, .unset, .unset, .unset] []))
  refine OEnds.st (fun _ k => XS.aloadN X0.here hx rfl (hb hby d7_0) rfl rfl k) ?_
  show OEnds p.tables e below G (s₁.setTop (mkF m 1 #[.val (.ref a1), .unset, .unset, .unset, .unset, .unset] [(.ref a1)]))
  obtain ⟨T1001, X1001, e1001, st1001⟩ := getF X0 hx hZ hown (host := "") (Or.inl (hw _ (List.mem_of_getElem? (i := 16) rfl))) Via.refl e0 Fpa1 (g := (mkF m 1 #[.val (.ref a1), .unset, .unset, .unset, .unset, .unset] [(.ref a1)])) rfl rfl (hb hby d7_1)
  refine OEnds.st st1001 ?_
  show OEnds p.tables e below G (T1001.setTop (mkF m 4 #[.val (.ref a1), .unset, .unset, .unset, .unset, .unset] [(.int w)]))
  refine OEnds.st (fun _ k => XS.istoreN X1001.here hx rfl (hb hby d7_4) rfl (l' := #[.val (.ref a1), .val (.int w), .unset, .unset, .unset, .unset]) rfl k) ?_
  show OEnds p.tables e below G (T1001.setTop (mkF m 5 #[.val (.ref a1), .val (.int w), .unset, .unset, .unset, .unset] []))
  refine OEnds.st (fun _ k => XS.lconst X1001.here hx rfl (hb hby d7_5) k) ?_
  show OEnds p.tables e below G (T1001.setTop (mkF m 6 #[.val (.ref a1), .val (.int w), .unset, .unset, .unset, .unset] [(.long (0 : Int64))]))
  refine OEnds.st (fun _ k => XS.lstoreN X1001.here hx rfl (hb hby d7_6) rfl (l' := #[.val (.ref a1), .val (.int w), .val (.long (0 : Int64)), .second, .unset, .unset]) rfl k) ?_
  show OEnds p.tables e below G (T1001.setTop (mkF m 7 #[.val (.ref a1), .val (.int w), .val (.long (0 : Int64)), .second, .unset, .unset] []))
  refine OEnds.st (fun _ k => XS.iconst X1001.here hx rfl (hb hby d7_7) k) ?_
  show OEnds p.tables e below G (T1001.setTop (mkF m 8 #[.val (.ref a1), .val (.int w), .val (.long (0 : Int64)), .second, .unset, .unset] [(.int (0 : Int32))]))
  refine OEnds.st (fun _ k => XS.istore X1001.here hx rfl (hb hby d7_8) rfl (l' := #[.val (.ref a1), .val (.int w), .val (.long (0 : Int64)), .second, .val (.int (0 : Int32)), .unset]) rfl k) ?_
  show OEnds p.tables e below G (T1001.setTop (mkF m 10 #[.val (.ref a1), .val (.int w), .val (.long (0 : Int64)), .second, .val (.int (0 : Int32)), .unset] []))
  refine OEnds.st (fun _ k => XS.aloadN X1001.here hx rfl (hb hby d7_10) rfl rfl k) ?_
  show OEnds p.tables e below G (T1001.setTop (mkF m 11 #[.val (.ref a1), .val (.int w), .val (.long (0 : Int64)), .second, .val (.int (0 : Int32)), .unset] [(.ref a1)]))
  refine OEnds.st (fun _ k => XS.iloadN X1001.here hx rfl (hb hby d7_11) rfl k) ?_
  show OEnds p.tables e below G (T1001.setTop (mkF m 12 #[.val (.ref a1), .val (.int w), .val (.long (0 : Int64)), .second, .val (.int (0 : Int32)), .unset] [(.int w), (.ref a1)]))
  obtain ⟨cq1002, q1002, q1002'⟩ := Ea1.cell
  obtain ⟨_, _, ⟨T1002, L1002, k1002c, n1002c⟩, -, X1002, ⟨Lc1002, hQ1002, l1002, y1002, z1002⟩, st1002⟩ := X1001.privateBack hx (y := (⟨"com/example/nearfar/nearfar/ProtoReader", "next", "(I)B"⟩ : MethodName)) hown (mvT hZ (hw _ (List.mem_of_getElem? (i := 41) rfl))) (mvT hZ (hw _ (List.mem_of_getElem? (i := 42) rfl))) (own_selP (y := (⟨"com/example/nearfar/nearfar/ProtoReader", "next", "(I)B"⟩ : MethodName)) (mvT hZ (hw _ (List.mem_of_getElem? (i := 3) rfl))) (mvP hZ (hw _ (List.mem_of_getElem? (i := 43) rfl))) (mvT hZ (hw _ (List.mem_of_getElem? (i := 42) rfl))) (by decide)) (Cond.privateMethod_at (mvP hZ (hw _ (List.mem_of_getElem? (i := 43) rfl)) (args := #[]))) (mvT hZ (hw _ (List.mem_of_getElem? (i := 44) rfl))) (by decide) (backOf (W := 0) (rm8 l Z a0 hw [] a1 w a3 w e1 de k z vs d x w1 h0 n0 Z0 Ea1 Fba1 Fpa1 Fea1 Fda1 V g1 na hne hlo hhi hat hby8 hw1) hZ (hw _ (List.mem_of_getElem? (i := 44) rfl)) (hw _ (List.mem_of_getElem? (i := 4) rfl)) (by decide) (by decide)) (g := (mkF m 12 #[.val (.ref a1), .val (.int w), .val (.long (0 : Int64)), .second, .val (.int (0 : Int32)), .unset] [(.int w), (.ref a1)])) rfl (by rw [hml]; rfl) (Steps.refl _) (a := a1) (by rw [e1001]; exact q1002) q1002' (argsL := [(.int w)]) (rest := []) (lenOf pd_1 rfl) rfl (by show 2 * 0 + _ ≤ _; exact Nat.le_of_eq rfl) (hb hby d7_12) (fun _ _ => ⟨rfl, e1001, (by decide : 0 + 0 ≤ _), (by decide : 0 + 0 ≤ _)⟩)
  dsimp only [Pt.U, Pt.locs, Pt.cells, Pt.slots] at X1002 l1002 y1002 z1002 st1002 hQ1002
  subst l1002 y1002 z1002
  obtain ⟨rfl, N1002q, p1003, p1004, p1005, p1006, p1007, p1008⟩ := hQ1002
  have N1002 := Fr.app N0 N1002q
  refine OEnds.st (fun _ k => st1002.trans k) ?_
  have f1009 : Exa Z T1002.heap a1 "com/example/nearfar/nearfar/ProtoReader" := Ea1.keep p1003
  have f1014 : Arv Z T1002.heap a3 k .byte z vs d := V.keep p1003 (by simp only [List.mem_cons, List.not_mem_nil, or_false, not_or]; exact na)
  have KK1002 : Keep h0 T1002.heap [a1] := KK0.trans p1003 (fun x hx => by cases List.mem_singleton.mp hx; exact Or.inl (List.mem_of_getElem? (i := 0) rfl))
  have Z1002 := Nat.le_trans Z0 p1003.1
  show OEnds p.tables e below G (T1002.setTop (mkF m 15 #[.val (.ref a1), .val (.int w), .val (.long (0 : Int64)), .second, .val (.int (0 : Int32)), .unset] [(.int x)]))
  refine OEnds.st (fun _ k => XS.istore X1002.here hx rfl (hb hby d7_15) rfl (l' := #[.val (.ref a1), .val (.int w), .val (.long (0 : Int64)), .second, .val (.int (0 : Int32)), .val (.int x)]) rfl k) ?_
  show OEnds p.tables e below G (T1002.setTop (mkF m 17 #[.val (.ref a1), .val (.int w), .val (.long (0 : Int64)), .second, .val (.int (0 : Int32)), .val (.int x)] []))
  refine OEnds.st (fun _ k => XS.iload X1002.here hx rfl (hb hby d7_17) rfl k) ?_
  show OEnds p.tables e below G (T1002.setTop (mkF m 19 #[.val (.ref a1), .val (.int w), .val (.long (0 : Int64)), .second, .val (.int (0 : Int32)), .val (.int x)] [(.int (0 : Int32))]))
  refine OEnds.st (fun _ k => XS.bipush X1002.here hx rfl (hb hby d7_19) k) ?_
  show OEnds p.tables e below G (T1002.setTop (mkF m 21 #[.val (.ref a1), .val (.int w), .val (.long (0 : Int64)), .second, .val (.int (0 : Int32)), .val (.int x)] [(.int (9 : Int32)), (.int (0 : Int32))]))
  refine OEnds.st (fun _ k => XS.icmpYes X1002.here hx rfl (pc0 := 21) (pc' := 42) rfl (hb hby d7_21) rfl (feq (by decide : ¬ ((0 : Int32) = (9 : Int32)))).2 (by decide) (by decide) k) ?_
  show OEnds p.tables e below G (T1002.setTop (mkF m 42 #[.val (.ref a1), .val (.int w), .val (.long (0 : Int64)), .second, .val (.int (0 : Int32)), .val (.int x)] []))
  refine OEnds.st (fun _ k => XS.lloadN X1002.here hx rfl (hb hby d7_42) rfl k) ?_
  show OEnds p.tables e below G (T1002.setTop (mkF m 43 #[.val (.ref a1), .val (.int w), .val (.long (0 : Int64)), .second, .val (.int (0 : Int32)), .val (.int x)] [(.long (0 : Int64))]))
  refine OEnds.st (fun _ k => XS.iload X1002.here hx rfl (hb hby d7_43) rfl k) ?_
  show OEnds p.tables e below G (T1002.setTop (mkF m 45 #[.val (.ref a1), .val (.int w), .val (.long (0 : Int64)), .second, .val (.int (0 : Int32)), .val (.int x)] [(.int x), (.long (0 : Int64))]))
  refine OEnds.st (fun _ k => XS.bipush X1002.here hx rfl (hb hby d7_45) k) ?_
  show OEnds p.tables e below G (T1002.setTop (mkF m 47 #[.val (.ref a1), .val (.int w), .val (.long (0 : Int64)), .second, .val (.int (0 : Int32)), .val (.int x)] [(.int (127 : Int32)), (.int x), (.long (0 : Int64))]))
  refine OEnds.st (fun _ k => XS.iand X1002.here hx rfl (hb hby d7_47) rfl k) ?_
  show OEnds p.tables e below G (T1002.setTop (mkF m 48 #[.val (.ref a1), .val (.int w), .val (.long (0 : Int64)), .second, .val (.int (0 : Int32)), .val (.int x)] [(.int (x &&& (127 : Int32))), (.long (0 : Int64))]))
  refine OEnds.st (fun _ k => XS.i2l X1002.here hx rfl (hb hby d7_48) rfl k) ?_
  show OEnds p.tables e below G (T1002.setTop (mkF m 49 #[.val (.ref a1), .val (.int w), .val (.long (0 : Int64)), .second, .val (.int (0 : Int32)), .val (.int x)] [(.long ((x &&& (127 : Int32)).toInt64)), (.long (0 : Int64))]))
  refine OEnds.st (fun _ k => XS.bipush X1002.here hx rfl (hb hby d7_49) k) ?_
  show OEnds p.tables e below G (T1002.setTop (mkF m 51 #[.val (.ref a1), .val (.int w), .val (.long (0 : Int64)), .second, .val (.int (0 : Int32)), .val (.int x)] [(.int (7 : Int32)), (.long ((x &&& (127 : Int32)).toInt64)), (.long (0 : Int64))]))
  refine OEnds.st (fun _ k => XS.iload X1002.here hx rfl (hb hby d7_51) rfl k) ?_
  show OEnds p.tables e below G (T1002.setTop (mkF m 53 #[.val (.ref a1), .val (.int w), .val (.long (0 : Int64)), .second, .val (.int (0 : Int32)), .val (.int x)] [(.int (0 : Int32)), (.int (7 : Int32)), (.long ((x &&& (127 : Int32)).toInt64)), (.long (0 : Int64))]))
  refine OEnds.st (fun _ k => XS.imul X1002.here hx rfl (hb hby d7_53) rfl k) ?_
  show OEnds p.tables e below G (T1002.setTop (mkF m 54 #[.val (.ref a1), .val (.int w), .val (.long (0 : Int64)), .second, .val (.int (0 : Int32)), .val (.int x)] [(.int ((7 : Int32) * (0 : Int32))), (.long ((x &&& (127 : Int32)).toInt64)), (.long (0 : Int64))]))
  refine OEnds.st (fun _ k => XS.lshl X1002.here hx rfl (hb hby d7_54) rfl k) ?_
  show OEnds p.tables e below G (T1002.setTop (mkF m 55 #[.val (.ref a1), .val (.int w), .val (.long (0 : Int64)), .second, .val (.int (0 : Int32)), .val (.int x)] [(.long (((x &&& (127 : Int32)).toInt64) <<< (((7 : Int32) * (0 : Int32)) &&& 0x3f).toInt64)), (.long (0 : Int64))]))
  refine OEnds.st (fun _ k => XS.lor X1002.here hx rfl (hb hby d7_55) rfl k) ?_
  show OEnds p.tables e below G (T1002.setTop (mkF m 56 #[.val (.ref a1), .val (.int w), .val (.long (0 : Int64)), .second, .val (.int (0 : Int32)), .val (.int x)] [(.long ((0 : Int64) ||| (((x &&& (127 : Int32)).toInt64) <<< (((7 : Int32) * (0 : Int32)) &&& 0x3f).toInt64)))]))
  refine OEnds.st (fun _ k => XS.lstoreN X1002.here hx rfl (hb hby d7_56) rfl (l' := #[.val (.ref a1), .val (.int w), .val (.long ((0 : Int64) ||| (((x &&& (127 : Int32)).toInt64) <<< (((7 : Int32) * (0 : Int32)) &&& 0x3f).toInt64))), .second, .val (.int (0 : Int32)), .val (.int x)]) rfl k) ?_
  show OEnds p.tables e below G (T1002.setTop (mkF m 57 #[.val (.ref a1), .val (.int w), .val (.long ((0 : Int64) ||| (((x &&& (127 : Int32)).toInt64) <<< (((7 : Int32) * (0 : Int32)) &&& 0x3f).toInt64))), .second, .val (.int (0 : Int32)), .val (.int x)] []))
  generalize hv_v1015 : ((0 : Int64) ||| (((x &&& (127 : Int32)).toInt64) <<< (((7 : Int32) * (0 : Int32)) &&& 0x3f).toInt64)) = v1015
  show OEnds p.tables e below G (T1002.setTop (mkF m 57 #[.val (.ref a1), .val (.int w), .val (.long v1015), .second, .val (.int (0 : Int32)), .val (.int x)] []))
  refine OEnds.st (fun _ k => XS.iload X1002.here hx rfl (hb hby d7_57) rfl k) ?_
  show OEnds p.tables e below G (T1002.setTop (mkF m 59 #[.val (.ref a1), .val (.int w), .val (.long v1015), .second, .val (.int (0 : Int32)), .val (.int x)] [(.int x)]))
  refine OEnds.st (fun _ k => XS.ifNo X1002.here hx rfl (hb hby d7_59) rfl ((if0 _ _).trans (flt hx0).1) k) ?_
  show OEnds p.tables e below G (T1002.setTop (mkF m 62 #[.val (.ref a1), .val (.int w), .val (.long v1015), .second, .val (.int (0 : Int32)), .val (.int x)] []))
  refine OEnds.st (fun _ k => XS.lloadN X1002.here hx rfl (hb hby d7_62) rfl k) ?_
  show OEnds p.tables e below G (T1002.setTop (mkF m 63 #[.val (.ref a1), .val (.int w), .val (.long v1015), .second, .val (.int (0 : Int32)), .val (.int x)] [(.long v1015)]))
  rw [← hG]
  refine OEnds.retJ X1002 hx hlk Bd.returns (hb hby d7_63) (by decide) (by decide) ?_
  show _
  subst hv_v1015
  exact ⟨rfl, N1002, KK1002, p1004, p1005, p1006, p1007, p1008⟩
theorem d6_0 : decode prog_32_method_16_code 0 = .ok (.aload_n 0, 1) := by decide +kernel
theorem d6_1 : decode prog_32_method_16_code 1 = .ok (.getfield 16, 3) := by decide +kernel
theorem d6_4 : decode prog_32_method_16_code 4 = .ok (.istore_n 1, 1) := by decide +kernel
theorem d6_5 : decode prog_32_method_16_code 5 = .ok (.aload_n 0, 1) := by decide +kernel
theorem d6_6 : decode prog_32_method_16_code 6 = .ok (.invokevirtual 26, 3) := by decide +kernel
theorem d6_9 : decode prog_32_method_16_code 9 = .ok (.lstore_n 2, 1) := by decide +kernel
theorem d6_10 : decode prog_32_method_16_code 10 = .ok (.lload_n 2, 1) := by decide +kernel
theorem d6_11 : decode prog_32_method_16_code 11 = .ok (.lconst 0, 1) := by decide +kernel
theorem d6_12 : decode prog_32_method_16_code 12 = .ok (.lcmp, 1) := by decide +kernel
theorem d6_13 : decode prog_32_method_16_code 13 = .ok (.ifCond .lt 18, 3) := by decide +kernel
theorem d6_16 : decode prog_32_method_16_code 16 = .ok (.lload_n 2, 1) := by decide +kernel
theorem d6_17 : decode prog_32_method_16_code 17 = .ok (.aload_n 0, 1) := by decide +kernel
theorem d6_18 : decode prog_32_method_16_code 18 = .ok (.getfield 20, 3) := by decide +kernel
theorem d6_21 : decode prog_32_method_16_code 21 = .ok (.aload_n 0, 1) := by decide +kernel
theorem d6_22 : decode prog_32_method_16_code 22 = .ok (.getfield 16, 3) := by decide +kernel
theorem d6_25 : decode prog_32_method_16_code 25 = .ok (.isub, 1) := by decide +kernel
theorem d6_26 : decode prog_32_method_16_code 26 = .ok (.i2l, 1) := by decide +kernel
theorem d6_27 : decode prog_32_method_16_code 27 = .ok (.lcmp, 1) := by decide +kernel
theorem d6_28 : decode prog_32_method_16_code 28 = .ok (.ifCond .le 18, 3) := by decide +kernel
theorem d6_31 : decode prog_32_method_16_code 31 = .ok (.aload_n 0, 1) := by decide +kernel
theorem d6_32 : decode prog_32_method_16_code 32 = .ok (.lload_n 2, 1) := by decide +kernel
theorem d6_33 : decode prog_32_method_16_code 33 = .ok (.invokestatic 114, 3) := by decide +kernel
theorem d6_41 : decode prog_32_method_16_code 41 = .ok (.iload_n 1, 1) := by decide +kernel
theorem d6_42 : decode prog_32_method_16_code 42 = .ok (.invokevirtual 32, 3) := by decide +kernel
theorem d6_45 : decode prog_32_method_16_code 45 = .ok (.athrow, 1) := by decide +kernel
theorem d6_46 : decode prog_32_method_16_code 46 = .ok (.aload_n 0, 1) := by decide +kernel
theorem d6_47 : decode prog_32_method_16_code 47 = .ok (.getfield 16, 3) := by decide +kernel
theorem d6_50 : decode prog_32_method_16_code 50 = .ok (.istore 4, 2) := by decide +kernel
theorem d6_52 : decode prog_32_method_16_code 52 = .ok (.aload_n 0, 1) := by decide +kernel
theorem d6_53 : decode prog_32_method_16_code 53 = .ok (.dup, 1) := by decide +kernel
theorem d6_54 : decode prog_32_method_16_code 54 = .ok (.getfield 16, 3) := by decide +kernel
theorem d6_57 : decode prog_32_method_16_code 57 = .ok (.lload_n 2, 1) := by decide +kernel
theorem d6_58 : decode prog_32_method_16_code 58 = .ok (.l2i, 1) := by decide +kernel
theorem d6_59 : decode prog_32_method_16_code 59 = .ok (.iadd, 1) := by decide +kernel
theorem d6_60 : decode prog_32_method_16_code 60 = .ok (.putfield 16, 3) := by decide +kernel
theorem d6_63 : decode prog_32_method_16_code 63 = .ok (.iload 4, 2) := by decide +kernel
theorem d6_65 : decode prog_32_method_16_code 65 = .ok (.ireturn, 1) := by decide +kernel
theorem ef_6 (m : MethodId) (a1 : Addr) : entryFrame m #[(.ref a1)] 5 = mkF m 0 #[.val (.ref a1), .unset, .unset, .unset, .unset] [] := by first | (simp [entryFrame, mkF, argsToLocals, Value.category]; done) | rfl
def Q6 (Z : State) (a1 : Addr) (a3 : Addr) (w : Int32) (e1 : Int32) (de : Int32) (k : ClassId) (z : Int32) (vs : List Value) (d : Value) (x : Int32) (w1 : Int32) (w2 : Int32) (h0 : Heap) (n0 : Nat) (v : Option Value) (h : Heap) (L : List Loc) : Prop := v = some (.int w1) ∧ Fr n0 L ∧ Keep h0 h [a1] ∧ Exa Z h a1 "com/example/nearfar/nearfar/ProtoReader" ∧ Fld Z h a1 "com/example/nearfar/nearfar/ProtoReader" "bytes" "[B" (.ref a3) ∧ Fld Z h a1 "com/example/nearfar/nearfar/ProtoReader" "position" "I" (.int w2) ∧ Fld Z h a1 "com/example/nearfar/nearfar/ProtoReader" "end" "I" (.int e1) ∧ Fld Z h a1 "com/example/nearfar/nearfar/ProtoReader" "depth" "I" (.int de)
theorem pd_2 : parseMethodDescriptor "()J" = some ⟨[], some .long⟩ := by decide +kernel
set_option maxRecDepth 65536 in
set_option maxHeartbeats 40000000 in
theorem rm6 (l : Launch) (Z : State) (a0 : Array Value) (hw : ∀ d ∈ tables_1, d.before a0 Z = true) (ws : List Jvm.Cond) (a1 : Addr) (a3 : Addr) (w : Int32) (e1 : Int32) (de : Int32) (k : ClassId) (z : Int32) (vs : List Value) (d : Value) (x : Int32) (w1 : Int32) (w2 : Int32) (h0 : Heap) (n0 : Nat) (Z0 : n0 ≤ h0.size) (Ea1 : Exa Z h0 a1 "com/example/nearfar/nearfar/ProtoReader") (Fba1 : Fld Z h0 a1 "com/example/nearfar/nearfar/ProtoReader" "bytes" "[B" (.ref a3)) (Fpa1 : Fld Z h0 a1 "com/example/nearfar/nearfar/ProtoReader" "position" "I" (.int w)) (Fea1 : Fld Z h0 a1 "com/example/nearfar/nearfar/ProtoReader" "end" "I" (.int e1)) (Fda1 : Fld Z h0 a1 "com/example/nearfar/nearfar/ProtoReader" "depth" "I" (.int de)) (V : Arv Z h0 a3 k .byte z vs d) (g1 : n0 ≤ a1) (na : a3 ≠ a1) (hne : ¬ (w = e1)) (hlo : ¬ (w < (0 : Int32))) (hhi : w < z) (hat : vs.getD w.toNatClampNeg d = .int x) (hby8 : nar .byte x = x) (hw1 : w + (1 : Int32) = w1) (hx0 : ¬ (x < (0 : Int32))) (hA : ¬ (own_vi x < (0 : Int64))) (hB : ¬ ((e1 - w1).toInt64 < own_vi x)) (hw2 : w1 + (own_vi x).toInt32 = w2) :
    MetFree l (⟨"com/example/nearfar/nearfar/ProtoReader", "payloadStart", "()I"⟩ : MethodName) (head1 (Jvm.Cond.code (⟨"com/example/nearfar/nearfar/ProtoReader", "payloadStart", "()I"⟩ : MethodName) prog_32_method_16_code 5 (some .int) :: ws) ({ frames := 2, cells := 0, slots := 0, locals := 30 } : Room)) (fun a U => a = #[(.ref a1)] ∧ Z.Warmed39 U.vm ∧ U.heap = h0) (fun _ _ _ _ _ => True) (fun _ U o U' => ∃ v L, o = .returned v ∧ Q6 Z a1 a3 w e1 de k z vs d x w1 w2 h0 n0 v U'.heap L ∧ FrameEnd U o U' L ({ frames := 2, cells := 0, slots := 0, locals := 30 } : Room).cells ({ frames := 2, cells := 0, slots := 0, locals := 30 } : Room).slots) := by
  refine MetFree.of_bodySF (plainFor_of_name pn_0) hisR ?_
  intro p e s m args below meth c s₁ Bd hml0 hP hK
  obtain ⟨rfl, hZ, hh⟩ := hP
  have hx := Bd.exec
  have hby := Bd.bytes
  have hml : c.maxLocals = 5 := hml0
  have hown : s.vm.findClass "com/example/nearfar/nearfar/ProtoReader" = some m.cls := findClass_of_methodNamed Bd.named
  have hnm := (name_of_methodNamed Bd.named Bd.method).1
  have hlk : meth.locks = false := BodyLoose.notSynchronized Bd
  have X0 : Stand p l e ({ frames := 2, cells := 0, slots := 0, locals := 30 } : Room) s m #[(.ref a1)] below meth c s₁ [] 0 0 := Stand.of_body Bd
  have e0 : s₁.heap = h0 := by rw [← hh, Bd.state]; rfl
  have N0 := Fr.nil n0
  show OEnds p.tables e below (OGoal (Q6 Z a1 a3 w e1 de k z vs d x w1 w2 h0 n0) s 0 0) (s₁.setTop (entryFrame m #[(.ref a1)] 5))
  refine OEnds.st (fun t k => castTop (ef_6 m a1) k) ?_
  generalize hG : OGoal (Q6 Z a1 a3 w e1 de k z vs d x w1 w2 h0 n0) s 0 0 = G
  have KK0 : Keep h0 h0 [a1] := Keep.refl h0 [a1]
  show OEnds p.tables e below G (s₁.setTop (mkF m 0 #[.val (.ref a1), .unset, .unset, .unset, .unset] []))
  refine OEnds.st (fun _ k => XS.aloadN X0.here hx rfl (hb hby d6_0) rfl rfl k) ?_
  show OEnds p.tables e below G (s₁.setTop (mkF m 1 #[.val (.ref a1), .unset, .unset, .unset, .unset] [(.ref a1)]))
  obtain ⟨T1001, X1001, e1001, st1001⟩ := getF X0 hx hZ hown (host := "") (Or.inl (hw _ (List.mem_of_getElem? (i := 16) rfl))) Via.refl e0 Fpa1 (g := (mkF m 1 #[.val (.ref a1), .unset, .unset, .unset, .unset] [(.ref a1)])) rfl rfl (hb hby d6_1)
  refine OEnds.st st1001 ?_
  show OEnds p.tables e below G (T1001.setTop (mkF m 4 #[.val (.ref a1), .unset, .unset, .unset, .unset] [(.int w)]))
  refine OEnds.st (fun _ k => XS.istoreN X1001.here hx rfl (hb hby d6_4) rfl (l' := #[.val (.ref a1), .val (.int w), .unset, .unset, .unset]) rfl k) ?_
  show OEnds p.tables e below G (T1001.setTop (mkF m 5 #[.val (.ref a1), .val (.int w), .unset, .unset, .unset] []))
  refine OEnds.st (fun _ k => XS.aloadN X1001.here hx rfl (hb hby d6_5) rfl rfl k) ?_
  show OEnds p.tables e below G (T1001.setTop (mkF m 6 #[.val (.ref a1), .val (.int w), .unset, .unset, .unset] [(.ref a1)]))
  obtain ⟨cq1002, kq1002, q1002a, q1002b, q1002c⟩ := isOf hZ e1001 Ea1
  obtain ⟨_, _, ⟨T1002, L1002, k1002c, n1002c⟩, -, X1002, ⟨Lc1002, hQ1002, l1002, y1002, z1002⟩, st1002⟩ := X1001.virtualBack hx (y := (⟨"com/example/nearfar/nearfar/ProtoReader", "varint", "()J"⟩ : MethodName)) (z := (⟨"com/example/nearfar/nearfar/ProtoReader", "varint", "()J"⟩ : MethodName)) hown (mvT hZ (hw _ (List.mem_of_getElem? (i := 36) rfl))) (mvT hZ (hw _ (List.mem_of_getElem? (i := 37) rfl))) (notFace_of_selects (args := #[]) (mvT hZ (hw _ (List.mem_of_getElem? (i := 39) rfl)))) (mvT hZ (hw _ (List.mem_of_getElem? (i := 39) rfl))) (mvT hZ (hw _ (List.mem_of_getElem? (i := 38) rfl))) (by decide) (backOf (W := 0) (rm7 l Z a0 hw [] a1 a3 w e1 de k z vs d x w1 h0 n0 Z0 Ea1 Fba1 Fpa1 Fea1 Fda1 V g1 na hne hlo hhi hat hby8 hw1 hx0) hZ (hw _ (List.mem_of_getElem? (i := 40) rfl)) (hw _ (List.mem_of_getElem? (i := 4) rfl)) (by decide) (by decide)) q1002a q1002c (g := (mkF m 6 #[.val (.ref a1), .val (.int w), .unset, .unset, .unset] [(.ref a1)])) rfl (by rw [hml]; rfl) (Steps.refl _) (argsL := []) (rest := []) (lenOf pd_2 rfl) rfl (by show 2 * 0 + _ ≤ _; exact Nat.le_of_eq rfl) (hb hby d6_6) (fun _ _ => ⟨rfl, e1001, (by decide : 0 + 0 ≤ _), (by decide : 0 + 0 ≤ _)⟩)
  dsimp only [Pt.U, Pt.locs, Pt.cells, Pt.slots] at X1002 l1002 y1002 z1002 st1002 hQ1002
  subst l1002 y1002 z1002
  obtain ⟨rfl, N1002q, p1003, p1004, p1005, p1006, p1007, p1008⟩ := hQ1002
  have N1002 := Fr.app N0 N1002q
  refine OEnds.st (fun _ k => st1002.trans k) ?_
  have f1009 : Exa Z T1002.heap a1 "com/example/nearfar/nearfar/ProtoReader" := Ea1.keep p1003
  have f1014 : Arv Z T1002.heap a3 k .byte z vs d := V.keep p1003 (by simp only [List.mem_cons, List.not_mem_nil, or_false, not_or]; exact na)
  have KK1002 : Keep h0 T1002.heap [a1] := KK0.trans p1003 (fun x hx => by cases List.mem_singleton.mp hx; exact Or.inl (List.mem_of_getElem? (i := 0) rfl))
  have Z1002 := Nat.le_trans Z0 p1003.1
  show OEnds p.tables e below G (T1002.setTop (mkF m 9 #[.val (.ref a1), .val (.int w), .unset, .unset, .unset] [(.long (own_vi x))]))
  refine OEnds.st (fun _ k => XS.lstoreN X1002.here hx rfl (hb hby d6_9) rfl (l' := #[.val (.ref a1), .val (.int w), .val (.long (own_vi x)), .second, .unset]) rfl k) ?_
  show OEnds p.tables e below G (T1002.setTop (mkF m 10 #[.val (.ref a1), .val (.int w), .val (.long (own_vi x)), .second, .unset] []))
  generalize hv_v1015 : (own_vi x) = v1015
  show OEnds p.tables e below G (T1002.setTop (mkF m 10 #[.val (.ref a1), .val (.int w), .val (.long v1015), .second, .unset] []))
  refine OEnds.st (fun _ k => XS.lloadN X1002.here hx rfl (hb hby d6_10) rfl k) ?_
  show OEnds p.tables e below G (T1002.setTop (mkF m 11 #[.val (.ref a1), .val (.int w), .val (.long v1015), .second, .unset] [(.long v1015)]))
  refine OEnds.st (fun _ k => XS.lconst X1002.here hx rfl (hb hby d6_11) k) ?_
  show OEnds p.tables e below G (T1002.setTop (mkF m 12 #[.val (.ref a1), .val (.int w), .val (.long v1015), .second, .unset] [(.long (0 : Int64)), (.long v1015)]))
  refine OEnds.st (fun _ k => XS.lcmp X1002.here hx rfl (hb hby d6_12) rfl k) ?_
  show OEnds p.tables e below G (T1002.setTop (mkF m 13 #[.val (.ref a1), .val (.int w), .val (.long v1015), .second, .unset] [(.int (lcmpW v1015 (0 : Int64)))]))
  have hc13_1016 : ¬ (v1015 < (0 : Int64)) := by rw [← hv_v1015]; exact hA
  refine OEnds.st (fun _ k => XS.ifNo X1002.here hx rfl (hb hby d6_13) rfl ((if0 _ _).trans (flt (fun q => hc13_1016 ((lw_lt v1015 (0 : Int64)).mp q))).1) k) ?_
  show OEnds p.tables e below G (T1002.setTop (mkF m 16 #[.val (.ref a1), .val (.int w), .val (.long v1015), .second, .unset] []))
  refine OEnds.st (fun _ k => XS.lloadN X1002.here hx rfl (hb hby d6_16) rfl k) ?_
  show OEnds p.tables e below G (T1002.setTop (mkF m 17 #[.val (.ref a1), .val (.int w), .val (.long v1015), .second, .unset] [(.long v1015)]))
  refine OEnds.st (fun _ k => XS.aloadN X1002.here hx rfl (hb hby d6_17) rfl rfl k) ?_
  show OEnds p.tables e below G (T1002.setTop (mkF m 18 #[.val (.ref a1), .val (.int w), .val (.long v1015), .second, .unset] [(.ref a1), (.long v1015)]))
  obtain ⟨T1017, X1017, e1017, st1017⟩ := getF X1002 hx hZ hown (host := "") (Or.inl (hw _ (List.mem_of_getElem? (i := 18) rfl))) Via.refl rfl p1007 (g := (mkF m 18 #[.val (.ref a1), .val (.int w), .val (.long v1015), .second, .unset] [(.ref a1), (.long v1015)])) rfl rfl (hb hby d6_18)
  refine OEnds.st st1017 ?_
  show OEnds p.tables e below G (T1017.setTop (mkF m 21 #[.val (.ref a1), .val (.int w), .val (.long v1015), .second, .unset] [(.int e1), (.long v1015)]))
  refine OEnds.st (fun _ k => XS.aloadN X1017.here hx rfl (hb hby d6_21) rfl rfl k) ?_
  show OEnds p.tables e below G (T1017.setTop (mkF m 22 #[.val (.ref a1), .val (.int w), .val (.long v1015), .second, .unset] [(.ref a1), (.int e1), (.long v1015)]))
  obtain ⟨T1018, X1018, e1018, st1018⟩ := getF X1017 hx hZ hown (host := "") (Or.inl (hw _ (List.mem_of_getElem? (i := 16) rfl))) Via.refl e1017 p1006 (g := (mkF m 22 #[.val (.ref a1), .val (.int w), .val (.long v1015), .second, .unset] [(.ref a1), (.int e1), (.long v1015)])) rfl rfl (hb hby d6_22)
  refine OEnds.st st1018 ?_
  show OEnds p.tables e below G (T1018.setTop (mkF m 25 #[.val (.ref a1), .val (.int w), .val (.long v1015), .second, .unset] [(.int w1), (.int e1), (.long v1015)]))
  refine OEnds.st (fun _ k => XS.isub X1018.here hx rfl (hb hby d6_25) rfl k) ?_
  show OEnds p.tables e below G (T1018.setTop (mkF m 26 #[.val (.ref a1), .val (.int w), .val (.long v1015), .second, .unset] [(.int (e1 - w1)), (.long v1015)]))
  refine OEnds.st (fun _ k => XS.i2l X1018.here hx rfl (hb hby d6_26) rfl k) ?_
  show OEnds p.tables e below G (T1018.setTop (mkF m 27 #[.val (.ref a1), .val (.int w), .val (.long v1015), .second, .unset] [(.long ((e1 - w1).toInt64)), (.long v1015)]))
  refine OEnds.st (fun _ k => XS.lcmp X1018.here hx rfl (hb hby d6_27) rfl k) ?_
  show OEnds p.tables e below G (T1018.setTop (mkF m 28 #[.val (.ref a1), .val (.int w), .val (.long v1015), .second, .unset] [(.int (lcmpW v1015 ((e1 - w1).toInt64)))]))
  have hc28_1019 : ¬ (((e1 - w1).toInt64) < v1015) := by rw [← hv_v1015]; exact hB
  refine OEnds.st (fun _ k => XS.ifYes X1018.here hx rfl (pc0 := 28) (pc' := 46) rfl (hb hby d6_28) rfl ((if0 _ _).trans (flt (fun q => hc28_1019 ((lw_gt v1015 ((e1 - w1).toInt64)).mp q))).2.2.2) (by decide) (by decide) k) ?_
  show OEnds p.tables e below G (T1018.setTop (mkF m 46 #[.val (.ref a1), .val (.int w), .val (.long v1015), .second, .unset] []))
  refine OEnds.st (fun _ k => XS.aloadN X1018.here hx rfl (hb hby d6_46) rfl rfl k) ?_
  show OEnds p.tables e below G (T1018.setTop (mkF m 47 #[.val (.ref a1), .val (.int w), .val (.long v1015), .second, .unset] [(.ref a1)]))
  obtain ⟨T1020, X1020, e1020, st1020⟩ := getF X1018 hx hZ hown (host := "") (Or.inl (hw _ (List.mem_of_getElem? (i := 16) rfl))) Via.refl e1018 p1006 (g := (mkF m 47 #[.val (.ref a1), .val (.int w), .val (.long v1015), .second, .unset] [(.ref a1)])) rfl rfl (hb hby d6_47)
  refine OEnds.st st1020 ?_
  show OEnds p.tables e below G (T1020.setTop (mkF m 50 #[.val (.ref a1), .val (.int w), .val (.long v1015), .second, .unset] [(.int w1)]))
  refine OEnds.st (fun _ k => XS.istore X1020.here hx rfl (hb hby d6_50) rfl (l' := #[.val (.ref a1), .val (.int w), .val (.long v1015), .second, .val (.int w1)]) rfl k) ?_
  show OEnds p.tables e below G (T1020.setTop (mkF m 52 #[.val (.ref a1), .val (.int w), .val (.long v1015), .second, .val (.int w1)] []))
  refine OEnds.st (fun _ k => XS.aloadN X1020.here hx rfl (hb hby d6_52) rfl rfl k) ?_
  show OEnds p.tables e below G (T1020.setTop (mkF m 53 #[.val (.ref a1), .val (.int w), .val (.long v1015), .second, .val (.int w1)] [(.ref a1)]))
  refine OEnds.st (fun _ k => XS.dup X1020.here hx rfl (hb hby d6_53) rfl rfl k) ?_
  show OEnds p.tables e below G (T1020.setTop (mkF m 54 #[.val (.ref a1), .val (.int w), .val (.long v1015), .second, .val (.int w1)] [(.ref a1), (.ref a1)]))
  obtain ⟨T1021, X1021, e1021, st1021⟩ := getF X1020 hx hZ hown (host := "") (Or.inl (hw _ (List.mem_of_getElem? (i := 16) rfl))) Via.refl e1020 p1006 (g := (mkF m 54 #[.val (.ref a1), .val (.int w), .val (.long v1015), .second, .val (.int w1)] [(.ref a1), (.ref a1)])) rfl rfl (hb hby d6_54)
  refine OEnds.st st1021 ?_
  show OEnds p.tables e below G (T1021.setTop (mkF m 57 #[.val (.ref a1), .val (.int w), .val (.long v1015), .second, .val (.int w1)] [(.int w1), (.ref a1)]))
  refine OEnds.st (fun _ k => XS.lloadN X1021.here hx rfl (hb hby d6_57) rfl k) ?_
  show OEnds p.tables e below G (T1021.setTop (mkF m 58 #[.val (.ref a1), .val (.int w), .val (.long v1015), .second, .val (.int w1)] [(.long v1015), (.int w1), (.ref a1)]))
  refine OEnds.st (fun _ k => XS.l2i X1021.here hx rfl (hb hby d6_58) rfl k) ?_
  show OEnds p.tables e below G (T1021.setTop (mkF m 59 #[.val (.ref a1), .val (.int w), .val (.long v1015), .second, .val (.int w1)] [(.int (v1015.toInt32)), (.int w1), (.ref a1)]))
  refine OEnds.st (fun _ k => XS.iadd X1021.here hx rfl (hb hby d6_59) rfl k) ?_
  show OEnds p.tables e below G (T1021.setTop (mkF m 60 #[.val (.ref a1), .val (.int w), .val (.long v1015), .second, .val (.int w1)] [(.int (w1 + (v1015.toInt32))), (.ref a1)]))
  rw [show (w1 + (v1015.toInt32)) = w2 from by rw [← hv_v1015]; exact hw2]
  show OEnds p.tables e below G (T1021.setTop (mkF m 60 #[.val (.ref a1), .val (.int w), .val (.long v1015), .second, .val (.int w1)] [(.int w2), (.ref a1)]))
  obtain ⟨T1022, h1022, X1022, e1022, W1022, st1022⟩ := putF X1021 hx hZ hown (host := "") (Or.inl (hw _ (List.mem_of_getElem? (i := 16) rfl))) Via.refl e1021 p1006 p1004 (Or.inl (hw _ (List.mem_of_getElem? (i := 17) rfl))) (hw _ (List.mem_of_getElem? (i := 3) rfl)) (ty := .int) (by decide) rfl rfl (g := (mkF m 60 #[.val (.ref a1), .val (.int w), .val (.long v1015), .second, .val (.int w1)] [(.int w2), (.ref a1)])) rfl rfl (hb hby d6_60)
  refine OEnds.st st1022 ?_
  have f1023 : Fld Z h1022 a1 "com/example/nearfar/nearfar/ProtoReader" "position" "I" (.int w2) := p1006.same W1022
  have f1024 : Exa Z h1022 a1 "com/example/nearfar/nearfar/ProtoReader" := p1004.wr W1022
  have f1025 : Arv Z h1022 a3 k .byte z vs d := f1014.other W1022 na
  have f1026 : Fld Z h1022 a1 "com/example/nearfar/nearfar/ProtoReader" "bytes" "[B" (.ref a3) := p1005.other W1022 (Or.inr (slot_ne (Or.inr (hw _ (List.mem_of_getElem? (i := 15) rfl))) (Or.inl (hw _ (List.mem_of_getElem? (i := 17) rfl))) (by decide) (t := (.array .byte)) (t' := .int) (by decide) (by decide)))
  have f1028 : Fld Z h1022 a1 "com/example/nearfar/nearfar/ProtoReader" "end" "I" (.int e1) := p1007.other W1022 (Or.inr (slot_ne (Or.inr (hw _ (List.mem_of_getElem? (i := 19) rfl))) (Or.inl (hw _ (List.mem_of_getElem? (i := 17) rfl))) (by decide) (t := .int) (t' := .int) (by decide) (by decide)))
  have f1029 : Fld Z h1022 a1 "com/example/nearfar/nearfar/ProtoReader" "depth" "I" (.int de) := p1008.other W1022 (Or.inr (slot_ne (Or.inr (hw _ (List.mem_of_getElem? (i := 21) rfl))) (Or.inl (hw _ (List.mem_of_getElem? (i := 17) rfl))) (by decide) (t := .int) (t' := .int) (by decide) (by decide)))
  have N1022 := Fr.snoc X1022 N1002 g1
  have KK1022 : Keep h0 h1022 [a1] := KK1002.wr W1022 (Or.inl (List.mem_of_getElem? (i := 0) rfl))
  have Z1022 := Nat.le_trans Z1002 (Keep.of_wr W1022).1
  show OEnds p.tables e below G (T1022.setTop (mkF m 63 #[.val (.ref a1), .val (.int w), .val (.long v1015), .second, .val (.int w1)] []))
  refine OEnds.st (fun _ k => XS.iload X1022.here hx rfl (hb hby d6_63) rfl k) ?_
  show OEnds p.tables e below G (T1022.setTop (mkF m 65 #[.val (.ref a1), .val (.int w), .val (.long v1015), .second, .val (.int w1)] [(.int w1)]))
  rw [← hG]
  refine OEnds.retI X1022 hx hlk Bd.returns (hb hby d6_65) (by decide) (by decide) ?_
  rw [e1022]
  exact ⟨rfl, N1022, KK1022, f1024, f1026, f1023, f1028, f1029⟩
theorem d5_0 : decode prog_32_method_11_code 0 = .ok (.aload_n 0, 1) := by decide +kernel
theorem d5_1 : decode prog_32_method_11_code 1 = .ok (.invokevirtual 46, 3) := by decide +kernel
theorem d5_4 : decode prog_32_method_11_code 4 = .ok (.istore_n 1, 1) := by decide +kernel
theorem d5_5 : decode prog_32_method_11_code 5 = .ok (.new 2, 3) := by decide +kernel
theorem d5_8 : decode prog_32_method_11_code 8 = .ok (.dup, 1) := by decide +kernel
theorem d5_9 : decode prog_32_method_11_code 9 = .ok (.aload_n 0, 1) := by decide +kernel
theorem d5_10 : decode prog_32_method_11_code 10 = .ok (.getfield 12, 3) := by decide +kernel
theorem d5_13 : decode prog_32_method_11_code 13 = .ok (.iload_n 1, 1) := by decide +kernel
theorem d5_14 : decode prog_32_method_11_code 14 = .ok (.aload_n 0, 1) := by decide +kernel
theorem d5_15 : decode prog_32_method_11_code 15 = .ok (.getfield 16, 3) := by decide +kernel
theorem d5_18 : decode prog_32_method_11_code 18 = .ok (.aload_n 0, 1) := by decide +kernel
theorem d5_19 : decode prog_32_method_11_code 19 = .ok (.getfield 23, 3) := by decide +kernel
theorem d5_22 : decode prog_32_method_11_code 22 = .ok (.invokespecial 1, 3) := by decide +kernel
theorem d5_25 : decode prog_32_method_11_code 25 = .ok (.areturn, 1) := by decide +kernel
theorem ef_5 (m : MethodId) (a1 : Addr) : entryFrame m #[(.ref a1)] 2 = mkF m 0 #[.val (.ref a1), .unset] [] := by first | (simp [entryFrame, mkF, argsToLocals, Value.category]; done) | rfl
def Q5 (Z : State) (a1 : Addr) (a3 : Addr) (w : Int32) (e1 : Int32) (de : Int32) (k : ClassId) (z : Int32) (vs : List Value) (d : Value) (x : Int32) (w1 : Int32) (w2 : Int32) (h0 : Heap) (n0 : Nat) (v : Option Value) (h : Heap) (L : List Loc) : Prop := ∃ (b : Addr), v = some (.ref b) ∧ Fr n0 L ∧ Keep h0 h [a1] ∧ h0.size ≤ b ∧ Exa Z h a1 "com/example/nearfar/nearfar/ProtoReader" ∧ Fld Z h a1 "com/example/nearfar/nearfar/ProtoReader" "bytes" "[B" (.ref a3) ∧ Fld Z h a1 "com/example/nearfar/nearfar/ProtoReader" "position" "I" (.int w2) ∧ Fld Z h a1 "com/example/nearfar/nearfar/ProtoReader" "end" "I" (.int e1) ∧ Fld Z h a1 "com/example/nearfar/nearfar/ProtoReader" "depth" "I" (.int de) ∧ Exa Z h b "com/example/nearfar/nearfar/ProtoReader" ∧ Fld Z h b "com/example/nearfar/nearfar/ProtoReader" "bytes" "[B" (.ref a3) ∧ Fld Z h b "com/example/nearfar/nearfar/ProtoReader" "position" "I" (.int w1) ∧ Fld Z h b "com/example/nearfar/nearfar/ProtoReader" "end" "I" (.int w2) ∧ Fld Z h b "com/example/nearfar/nearfar/ProtoReader" "depth" "I" (.int de)
theorem pd_3 : parseMethodDescriptor "()I" = some ⟨[], some .int⟩ := by decide +kernel
set_option maxRecDepth 65536 in
set_option maxHeartbeats 40000000 in
theorem rm5 (l : Launch) (Z : State) (a0 : Array Value) (hw : ∀ d ∈ tables_1, d.before a0 Z = true) (ws : List Jvm.Cond) (a1 : Addr) (a3 : Addr) (w : Int32) (e1 : Int32) (de : Int32) (k : ClassId) (z : Int32) (vs : List Value) (d : Value) (x : Int32) (w1 : Int32) (w2 : Int32) (h0 : Heap) (n0 : Nat) (Z0 : n0 ≤ h0.size) (Ea1 : Exa Z h0 a1 "com/example/nearfar/nearfar/ProtoReader") (Fba1 : Fld Z h0 a1 "com/example/nearfar/nearfar/ProtoReader" "bytes" "[B" (.ref a3)) (Fpa1 : Fld Z h0 a1 "com/example/nearfar/nearfar/ProtoReader" "position" "I" (.int w)) (Fea1 : Fld Z h0 a1 "com/example/nearfar/nearfar/ProtoReader" "end" "I" (.int e1)) (Fda1 : Fld Z h0 a1 "com/example/nearfar/nearfar/ProtoReader" "depth" "I" (.int de)) (V : Arv Z h0 a3 k .byte z vs d) (g1 : n0 ≤ a1) (na : a3 ≠ a1) (hne : ¬ (w = e1)) (hlo : ¬ (w < (0 : Int32))) (hhi : w < z) (hat : vs.getD w.toNatClampNeg d = .int x) (hby8 : nar .byte x = x) (hw1 : w + (1 : Int32) = w1) (hx0 : ¬ (x < (0 : Int32))) (hA : ¬ (own_vi x < (0 : Int64))) (hB : ¬ ((e1 - w1).toInt64 < own_vi x)) (hw2 : w1 + (own_vi x).toInt32 = w2) :
    MetFree l (⟨"com/example/nearfar/nearfar/ProtoReader", "embedded", "()Lcom/example/nearfar/nearfar/ProtoReader;"⟩ : MethodName) (head1 (Jvm.Cond.code (⟨"com/example/nearfar/nearfar/ProtoReader", "embedded", "()Lcom/example/nearfar/nearfar/ProtoReader;"⟩ : MethodName) prog_32_method_11_code 2 (some (.object "com/example/nearfar/nearfar/ProtoReader")) :: ws) ({ frames := 3, cells := 1, slots := 4, locals := 46 } : Room)) (fun a U => a = #[(.ref a1)] ∧ Z.Warmed39 U.vm ∧ U.heap = h0) (fun _ _ _ _ _ => True) (fun _ U o U' => ∃ v L, o = .returned v ∧ Q5 Z a1 a3 w e1 de k z vs d x w1 w2 h0 n0 v U'.heap L ∧ FrameEnd U o U' L ({ frames := 3, cells := 1, slots := 4, locals := 46 } : Room).cells ({ frames := 3, cells := 1, slots := 4, locals := 46 } : Room).slots) := by
  refine MetFree.of_bodySF (plainFor_of_name pn_0) hisR ?_
  intro p e s m args below meth c s₁ Bd hml0 hP hK
  obtain ⟨rfl, hZ, hh⟩ := hP
  have hx := Bd.exec
  have hby := Bd.bytes
  have hml : c.maxLocals = 2 := hml0
  have hown : s.vm.findClass "com/example/nearfar/nearfar/ProtoReader" = some m.cls := findClass_of_methodNamed Bd.named
  have hnm := (name_of_methodNamed Bd.named Bd.method).1
  have hlk : meth.locks = false := BodyLoose.notSynchronized Bd
  have X0 : Stand p l e ({ frames := 3, cells := 1, slots := 4, locals := 46 } : Room) s m #[(.ref a1)] below meth c s₁ [] 0 0 := Stand.of_body Bd
  have e0 : s₁.heap = h0 := by rw [← hh, Bd.state]; rfl
  have N0 := Fr.nil n0
  show OEnds p.tables e below (OGoal (Q5 Z a1 a3 w e1 de k z vs d x w1 w2 h0 n0) s 1 4) (s₁.setTop (entryFrame m #[(.ref a1)] 2))
  refine OEnds.st (fun t k => castTop (ef_5 m a1) k) ?_
  generalize hG : OGoal (Q5 Z a1 a3 w e1 de k z vs d x w1 w2 h0 n0) s 1 4 = G
  have KK0 : Keep h0 h0 [a1] := Keep.refl h0 [a1]
  show OEnds p.tables e below G (s₁.setTop (mkF m 0 #[.val (.ref a1), .unset] []))
  refine OEnds.st (fun _ k => XS.aloadN X0.here hx rfl (hb hby d5_0) rfl rfl k) ?_
  show OEnds p.tables e below G (s₁.setTop (mkF m 1 #[.val (.ref a1), .unset] [(.ref a1)]))
  obtain ⟨cq1001, q1001, q1001'⟩ := Ea1.cell
  obtain ⟨_, _, ⟨T1001, L1001, k1001c, n1001c⟩, -, X1001, ⟨Lc1001, hQ1001, l1001, y1001, z1001⟩, st1001⟩ := X0.privateBack hx (y := (⟨"com/example/nearfar/nearfar/ProtoReader", "payloadStart", "()I"⟩ : MethodName)) hown (mvT hZ (hw _ (List.mem_of_getElem? (i := 32) rfl))) (mvT hZ (hw _ (List.mem_of_getElem? (i := 33) rfl))) (own_selP (y := (⟨"com/example/nearfar/nearfar/ProtoReader", "payloadStart", "()I"⟩ : MethodName)) (mvT hZ (hw _ (List.mem_of_getElem? (i := 3) rfl))) (mvP hZ (hw _ (List.mem_of_getElem? (i := 34) rfl))) (mvT hZ (hw _ (List.mem_of_getElem? (i := 33) rfl))) (by decide)) (Cond.privateMethod_at (mvP hZ (hw _ (List.mem_of_getElem? (i := 34) rfl)) (args := #[]))) (mvT hZ (hw _ (List.mem_of_getElem? (i := 35) rfl))) (by decide) (backOf (W := 0) (rm6 l Z a0 hw [] a1 a3 w e1 de k z vs d x w1 w2 h0 n0 Z0 Ea1 Fba1 Fpa1 Fea1 Fda1 V g1 na hne hlo hhi hat hby8 hw1 hx0 hA hB hw2) hZ (hw _ (List.mem_of_getElem? (i := 35) rfl)) (hw _ (List.mem_of_getElem? (i := 4) rfl)) (by decide) (by decide)) (g := (mkF m 1 #[.val (.ref a1), .unset] [(.ref a1)])) rfl (by rw [hml]; rfl) (Steps.refl _) (a := a1) (by rw [e0]; exact q1001) q1001' (argsL := []) (rest := []) (lenOf pd_3 rfl) rfl (by show 2 * 0 + _ ≤ _; exact Nat.le_of_eq rfl) (hb hby d5_1) (fun _ _ => ⟨rfl, e0, (by decide : 0 + 0 ≤ _), (by decide : 0 + 0 ≤ _)⟩)
  dsimp only [Pt.U, Pt.locs, Pt.cells, Pt.slots] at X1001 l1001 y1001 z1001 st1001 hQ1001
  subst l1001 y1001 z1001
  obtain ⟨rfl, N1001q, p1002, p1003, p1004, p1005, p1006, p1007⟩ := hQ1001
  have N1001 := Fr.app N0 N1001q
  refine OEnds.st (fun _ k => st1001.trans k) ?_
  have f1008 : Exa Z T1001.heap a1 "com/example/nearfar/nearfar/ProtoReader" := Ea1.keep p1002
  have f1013 : Arv Z T1001.heap a3 k .byte z vs d := V.keep p1002 (by simp only [List.mem_cons, List.not_mem_nil, or_false, not_or]; exact na)
  have KK1001 : Keep h0 T1001.heap [a1] := KK0.trans p1002 (fun x hx => by cases List.mem_singleton.mp hx; exact Or.inl (List.mem_of_getElem? (i := 0) rfl))
  have Z1001 := Nat.le_trans Z0 p1002.1
  show OEnds p.tables e below G (T1001.setTop (mkF m 4 #[.val (.ref a1), .unset] [(.int w1)]))
  refine OEnds.st (fun _ k => XS.istoreN X1001.here hx rfl (hb hby d5_4) rfl (l' := #[.val (.ref a1), .val (.int w1)]) rfl k) ?_
  show OEnds p.tables e below G (T1001.setTop (mkF m 5 #[.val (.ref a1), .val (.int w1)] []))
  obtain ⟨T1014, h1014, X1014, e1014, E1014, A1014, D1014, -, st1014⟩ := newO X1001 hx hZ hown (hw _ (List.mem_of_getElem? (i := 45) rfl)) (hw _ (List.mem_of_getElem? (i := 3) rfl)) (hw _ (List.mem_of_getElem? (i := 4) rfl)) rfl (g := (mkF m 5 #[.val (.ref a1), .val (.int w1)] [])) rfl (hb hby d5_5) (by decide) (by decide)
  obtain ⟨b1014, g1014⟩ : ∃ z, z = T1001.heap.size := ⟨_, rfl⟩
  rw [← g1014] at A1014 D1014 st1014
  refine OEnds.st st1014 ?_
  have ne1015 : a1 ≠ b1014 := Nat.ne_of_lt (Nat.lt_of_lt_of_le (p1003).lt (Nat.le_of_eq g1014.symm))
  have ne1016 : a3 ≠ b1014 := Nat.ne_of_lt (Nat.lt_of_lt_of_le (f1013).lt (Nat.le_of_eq g1014.symm))
  have ge_b1014 : n0 ≤ b1014 := Nat.le_trans Z1001 (Nat.le_of_eq g1014.symm)
  have sz_b1014 : h0.size ≤ b1014 := Nat.le_trans KK1001.1 (Nat.le_of_eq g1014.symm)
  have f1017 : Exa Z h1014 a1 "com/example/nearfar/nearfar/ProtoReader" := p1003.ext E1014
  have f1018 : Arv Z h1014 a3 k .byte z vs d := f1013.ext E1014
  have f1019 : Fld Z h1014 a1 "com/example/nearfar/nearfar/ProtoReader" "bytes" "[B" (.ref a3) := p1004.ext E1014
  have f1020 : Fld Z h1014 a1 "com/example/nearfar/nearfar/ProtoReader" "position" "I" (.int w2) := p1005.ext E1014
  have f1021 : Fld Z h1014 a1 "com/example/nearfar/nearfar/ProtoReader" "end" "I" (.int e1) := p1006.ext E1014
  have f1022 : Fld Z h1014 a1 "com/example/nearfar/nearfar/ProtoReader" "depth" "I" (.int de) := p1007.ext E1014
  have KK1014 : Keep h0 h1014 [a1] := KK1001.ext E1014
  have Z1014 := Nat.le_trans Z1001 E1014.1
  have ex_b1014 := A1014
  have f1023 : Fld Z h1014 b1014 "com/example/nearfar/nearfar/ProtoReader" "bytes" "[B" .null := D1014 (Or.inr (hw _ (List.mem_of_getElem? (i := 15) rfl))) (ty := (.array .byte)) (by decide)
  have f1024 : Fld Z h1014 b1014 "com/example/nearfar/nearfar/ProtoReader" "position" "I" (.int (0 : Int32)) := D1014 (Or.inl (hw _ (List.mem_of_getElem? (i := 17) rfl))) (ty := .int) (by decide)
  have f1025 : Fld Z h1014 b1014 "com/example/nearfar/nearfar/ProtoReader" "end" "I" (.int (0 : Int32)) := D1014 (Or.inr (hw _ (List.mem_of_getElem? (i := 19) rfl))) (ty := .int) (by decide)
  have f1026 : Fld Z h1014 b1014 "com/example/nearfar/nearfar/ProtoReader" "depth" "I" (.int (0 : Int32)) := D1014 (Or.inr (hw _ (List.mem_of_getElem? (i := 21) rfl))) (ty := .int) (by decide)
  show OEnds p.tables e below G (T1014.setTop (mkF m 8 #[.val (.ref a1), .val (.int w1)] [(.ref b1014)]))
  refine OEnds.st (fun _ k => XS.dup X1014.here hx rfl (hb hby d5_8) rfl rfl k) ?_
  show OEnds p.tables e below G (T1014.setTop (mkF m 9 #[.val (.ref a1), .val (.int w1)] [(.ref b1014), (.ref b1014)]))
  refine OEnds.st (fun _ k => XS.aloadN X1014.here hx rfl (hb hby d5_9) rfl rfl k) ?_
  show OEnds p.tables e below G (T1014.setTop (mkF m 10 #[.val (.ref a1), .val (.int w1)] [(.ref a1), (.ref b1014), (.ref b1014)]))
  obtain ⟨T1027, X1027, e1027, st1027⟩ := getF X1014 hx hZ hown (host := "") (Or.inl (hw _ (List.mem_of_getElem? (i := 14) rfl))) Via.refl e1014 f1019 (g := (mkF m 10 #[.val (.ref a1), .val (.int w1)] [(.ref a1), (.ref b1014), (.ref b1014)])) rfl rfl (hb hby d5_10)
  refine OEnds.st st1027 ?_
  show OEnds p.tables e below G (T1027.setTop (mkF m 13 #[.val (.ref a1), .val (.int w1)] [(.ref a3), (.ref b1014), (.ref b1014)]))
  refine OEnds.st (fun _ k => XS.iloadN X1027.here hx rfl (hb hby d5_13) rfl k) ?_
  show OEnds p.tables e below G (T1027.setTop (mkF m 14 #[.val (.ref a1), .val (.int w1)] [(.int w1), (.ref a3), (.ref b1014), (.ref b1014)]))
  refine OEnds.st (fun _ k => XS.aloadN X1027.here hx rfl (hb hby d5_14) rfl rfl k) ?_
  show OEnds p.tables e below G (T1027.setTop (mkF m 15 #[.val (.ref a1), .val (.int w1)] [(.ref a1), (.int w1), (.ref a3), (.ref b1014), (.ref b1014)]))
  obtain ⟨T1028, X1028, e1028, st1028⟩ := getF X1027 hx hZ hown (host := "") (Or.inl (hw _ (List.mem_of_getElem? (i := 16) rfl))) Via.refl e1027 f1020 (g := (mkF m 15 #[.val (.ref a1), .val (.int w1)] [(.ref a1), (.int w1), (.ref a3), (.ref b1014), (.ref b1014)])) rfl rfl (hb hby d5_15)
  refine OEnds.st st1028 ?_
  show OEnds p.tables e below G (T1028.setTop (mkF m 18 #[.val (.ref a1), .val (.int w1)] [(.int w2), (.int w1), (.ref a3), (.ref b1014), (.ref b1014)]))
  refine OEnds.st (fun _ k => XS.aloadN X1028.here hx rfl (hb hby d5_18) rfl rfl k) ?_
  show OEnds p.tables e below G (T1028.setTop (mkF m 19 #[.val (.ref a1), .val (.int w1)] [(.ref a1), (.int w2), (.int w1), (.ref a3), (.ref b1014), (.ref b1014)]))
  obtain ⟨T1029, X1029, e1029, st1029⟩ := getF X1028 hx hZ hown (host := "") (Or.inl (hw _ (List.mem_of_getElem? (i := 20) rfl))) Via.refl e1028 f1022 (g := (mkF m 19 #[.val (.ref a1), .val (.int w1)] [(.ref a1), (.int w2), (.int w1), (.ref a3), (.ref b1014), (.ref b1014)])) rfl rfl (hb hby d5_19)
  refine OEnds.st st1029 ?_
  show OEnds p.tables e below G (T1029.setTop (mkF m 22 #[.val (.ref a1), .val (.int w1)] [(.int de), (.int w2), (.int w1), (.ref a3), (.ref b1014), (.ref b1014)]))
  obtain ⟨_, _, ⟨T1030, L1030, k1030c, n1030c⟩, -, X1030, ⟨Lc1030, hQ1030, l1030, y1030, z1030⟩, st1030⟩ := X1029.specialBack hx (y := (⟨"com/example/nearfar/nearfar/ProtoReader", "<init>", "([BIII)V"⟩ : MethodName)) rfl hown (mvT hZ (hw _ (List.mem_of_getElem? (i := 8) rfl))) (mvT hZ (hw _ (List.mem_of_getElem? (i := 9) rfl))) (mvT hZ (hw _ (List.mem_of_getElem? (i := 10) rfl))) (by decide) (backOf (W := 1) (rm2 l Z a0 hw [] b1014 a3 w1 w2 de h1014 n0 Z1014 ex_b1014 f1023 f1024 f1025 f1026 ge_b1014) hZ (hw _ (List.mem_of_getElem? (i := 10) rfl)) (hw _ (List.mem_of_getElem? (i := 4) rfl)) (by decide) (by decide)) (g := (mkF m 22 #[.val (.ref a1), .val (.int w1)] [(.int de), (.int w2), (.int w1), (.ref a3), (.ref b1014), (.ref b1014)])) rfl (by rw [hml]; rfl) (Steps.refl _) (a := b1014) (argsL := [(.ref a3), (.int w1), (.int w2), (.int de)]) (rest := [(.ref b1014)]) (lenOf pd_0 rfl) rfl (by show 2 * 0 + _ ≤ _; exact Nat.le_of_eq rfl) (hb hby d5_22) (fun _ _ => ⟨rfl, e1029, (by decide : 0 + 0 + 1 + 0 ≤ _), (by decide : 0 + 0 + 4 + 0 ≤ _)⟩)
  dsimp only [Pt.U, Pt.locs, Pt.cells, Pt.slots] at X1030 l1030 y1030 z1030 st1030 hQ1030
  subst l1030 y1030 z1030
  obtain ⟨rfl, N1030q, p1031, p1032, p1033, p1034, p1035, p1036⟩ := hQ1030
  have N1030 := Fr.app N1001 N1030q
  refine OEnds.st (fun _ k => st1030.trans k) ?_
  have f1037 : Exa Z T1030.heap a1 "com/example/nearfar/nearfar/ProtoReader" := f1017.keep p1031
  have f1038 : Arv Z T1030.heap a3 k .byte z vs d := f1018.keep p1031 (by simp only [List.mem_cons, List.not_mem_nil, or_false, not_or]; exact ne1016)
  have f1039 : Fld Z T1030.heap a1 "com/example/nearfar/nearfar/ProtoReader" "bytes" "[B" (.ref a3) := f1019.keep p1031 (by simp only [List.mem_cons, List.not_mem_nil, or_false, not_or]; exact ne1015)
  have f1040 : Fld Z T1030.heap a1 "com/example/nearfar/nearfar/ProtoReader" "position" "I" (.int w2) := f1020.keep p1031 (by simp only [List.mem_cons, List.not_mem_nil, or_false, not_or]; exact ne1015)
  have f1041 : Fld Z T1030.heap a1 "com/example/nearfar/nearfar/ProtoReader" "end" "I" (.int e1) := f1021.keep p1031 (by simp only [List.mem_cons, List.not_mem_nil, or_false, not_or]; exact ne1015)
  have f1042 : Fld Z T1030.heap a1 "com/example/nearfar/nearfar/ProtoReader" "depth" "I" (.int de) := f1022.keep p1031 (by simp only [List.mem_cons, List.not_mem_nil, or_false, not_or]; exact ne1015)
  have f1043 : Exa Z T1030.heap b1014 "com/example/nearfar/nearfar/ProtoReader" := ex_b1014.keep p1031
  have KK1030 : Keep h0 T1030.heap [a1] := KK1014.trans p1031 (fun x hx => by cases List.mem_singleton.mp hx; exact Or.inr sz_b1014)
  have Z1030 := Nat.le_trans Z1014 p1031.1
  show OEnds p.tables e below G (T1030.setTop (mkF m 25 #[.val (.ref a1), .val (.int w1)] [(.ref b1014)]))
  rw [← hG]
  refine OEnds.retA X1030 hx hlk Bd.returns (by first | rfl | exact rfl) rfl (hb hby d5_25) (by decide) (by decide) ?_
  show _
  exact ⟨b1014, rfl, N1030, KK1030, sz_b1014, f1037, f1039, f1040, f1041, f1042, p1032, p1033, p1034, p1035, p1036⟩
theorem pn_1 : plainName "com/example/nearfar/nearfar/ProtoReaderAtEndPinLaw" = true := by first | (simp [plainName, overriddenIn]; done) | decide +kernel
theorem ef_0 (m : MethodId) (p1 : Int32) (p2 : Int32) (p3 : Int32) (p4 : Int32) (p5 : Int32) : entryFrame m #[(.int p1), (.int p2), (.int p3), (.int p4), (.int p5)] maxLocals = mkF m 0 #[.val (.int p1), .val (.int p2), .val (.int p3), .val (.int p4), .val (.int p5), .unset, .unset, .unset, .unset, .unset] [] := by first | (simp [entryFrame, mkF, argsToLocals, Value.category, maxLocals]; done) | rfl
def Q0 (Z : State) (p1 : Int32) (p2 : Int32) (p3 : Int32) (p4 : Int32) (p5 : Int32) (h0 : Heap) (n0 : Nat) (v : Option Value) (h : Heap) (L : List Loc) : Prop := v = some (.int (1 : Int32)) ∧ Fr n0 L
theorem pd_4 : parseMethodDescriptor "([B)V" = some ⟨[(.array .byte)], none⟩ := by decide +kernel
theorem pd_5 : parseMethodDescriptor "()Z" = some ⟨[], some .boolean⟩ := by decide +kernel
theorem pd_6 : parseMethodDescriptor "()Lcom/example/nearfar/nearfar/ProtoReader;" = some ⟨[], some (.object "com/example/nearfar/nearfar/ProtoReader")⟩ := by decide +kernel
set_option maxRecDepth 65536 in
set_option maxHeartbeats 40000000 in
theorem rm0 (l : Launch) (Z : State) (a0 : Array Value) (hw : ∀ d ∈ tables_1, d.before a0 Z = true) (ws : List Jvm.Cond) (p1 : Int32) (p2 : Int32) (p3 : Int32) (p4 : Int32) (p5 : Int32) (h0 : Heap) (n0 : Nat) (Z0 : n0 ≤ h0.size) :
    MetFree l x (head1 (Jvm.Cond.code x code maxLocals ret :: ws) room_1) (fun a U => a = #[(.int p1), (.int p2), (.int p3), (.int p4), (.int p5)] ∧ Z.Warmed39 U.vm ∧ U.heap = h0) (fun _ _ _ _ _ => True) (fun _ U o U' => ∃ v L, o = .returned v ∧ Q0 Z p1 p2 p3 p4 p5 h0 n0 v U'.heap L ∧ FrameEnd U o U' L room_1.cells room_1.slots) := by
  refine MetFree.of_bodySF (plainFor_of_name pn_1) hisR ?_
  intro p e s m args below meth c s₁ Bd hml0 hP hK
  obtain ⟨rfl, hZ, hh⟩ := hP
  have hx := Bd.exec
  have hby := Bd.bytes
  have hml : c.maxLocals = 10 := hml0
  have hown : s.vm.findClass "com/example/nearfar/nearfar/ProtoReaderAtEndPinLaw" = some m.cls := findClass_of_methodNamed Bd.named
  have hnm := (name_of_methodNamed Bd.named Bd.method).1
  have hlk : meth.locks = false := BodyLoose.notSynchronized Bd
  have X0 : Stand p l e room_1 s m #[(.int p1), (.int p2), (.int p3), (.int p4), (.int p5)] below meth c s₁ [] 0 0 := Stand.of_body Bd
  have e0 : s₁.heap = h0 := by rw [← hh, Bd.state]; rfl
  have N0 := Fr.nil n0
  show OEnds p.tables e below (OGoal (Q0 Z p1 p2 p3 p4 p5 h0 n0) s 16 128) (s₁.setTop (entryFrame m #[(.int p1), (.int p2), (.int p3), (.int p4), (.int p5)] maxLocals))
  refine OEnds.st (fun t k => castTop (ef_0 m p1 p2 p3 p4 p5) k) ?_
  generalize hG : OGoal (Q0 Z p1 p2 p3 p4 p5 h0 n0) s 16 128 = G
  have KK0 : Keep h0 h0 [] := Keep.refl h0 []
  show OEnds p.tables e below G (s₁.setTop (mkF m 0 #[.val (.int p1), .val (.int p2), .val (.int p3), .val (.int p4), .val (.int p5), .unset, .unset, .unset, .unset, .unset] []))
  refine OEnds.st (fun _ k => XS.iloadN X0.here hx rfl (hb hby at_0) rfl k) ?_
  show OEnds p.tables e below G (s₁.setTop (mkF m 1 #[.val (.int p1), .val (.int p2), .val (.int p3), .val (.int p4), .val (.int p5), .unset, .unset, .unset, .unset, .unset] [(.int p1)]))
  refine OEnds.st (X0.ldcInt hx hown (mvT hZ (hw _ (List.mem_of_getElem? (i := 0) rfl))) (g := (mkF m 1 #[.val (.int p1), .val (.int p2), .val (.int p3), .val (.int p4), .val (.int p5), .unset, .unset, .unset, .unset, .unset] [(.int p1)])) rfl (hb hby at_1)) ?_
  show OEnds p.tables e below G (s₁.setTop (mkF m 3 #[.val (.int p1), .val (.int p2), .val (.int p3), .val (.int p4), .val (.int p5), .unset, .unset, .unset, .unset, .unset] [(.int (2147483647 : Int32)), (.int p1)]))
  refine OEnds.st (fun _ k => XS.iand X0.here hx rfl (hb hby at_3) rfl k) ?_
  show OEnds p.tables e below G (s₁.setTop (mkF m 4 #[.val (.int p1), .val (.int p2), .val (.int p3), .val (.int p4), .val (.int p5), .unset, .unset, .unset, .unset, .unset] [(.int (p1 &&& (2147483647 : Int32)))]))
  refine OEnds.st (fun _ k => XS.iconst X0.here hx rfl (hb hby at_4) k) ?_
  show OEnds p.tables e below G (s₁.setTop (mkF m 5 #[.val (.int p1), .val (.int p2), .val (.int p3), .val (.int p4), .val (.int p5), .unset, .unset, .unset, .unset, .unset] [(.int (5 : Int32)), (.int (p1 &&& (2147483647 : Int32)))]))
  refine OEnds.st (fun _ k => iremM X0 hx rfl (hb hby at_5) rfl (by decide) k) ?_
  show OEnds p.tables e below G (s₁.setTop (mkF m 6 #[.val (.int p1), .val (.int p2), .val (.int p3), .val (.int p4), .val (.int p5), .unset, .unset, .unset, .unset, .unset] [(.int ((p1 &&& (2147483647 : Int32)) % (5 : Int32)))]))
  refine OEnds.st (fun _ k => XS.istore X0.here hx rfl (hb hby at_6) rfl (l' := #[.val (.int p1), .val (.int p2), .val (.int p3), .val (.int p4), .val (.int p5), .val (.int ((p1 &&& (2147483647 : Int32)) % (5 : Int32))), .unset, .unset, .unset, .unset]) rfl k) ?_
  show OEnds p.tables e below G (s₁.setTop (mkF m 8 #[.val (.int p1), .val (.int p2), .val (.int p3), .val (.int p4), .val (.int p5), .val (.int ((p1 &&& (2147483647 : Int32)) % (5 : Int32))), .unset, .unset, .unset, .unset] []))
  generalize hv_v1001 : ((p1 &&& (2147483647 : Int32)) % (5 : Int32)) = v1001
  have hfv : v1001 = (0 : Int32) ∨ v1001 = (1 : Int32) ∨ v1001 = (2 : Int32) ∨ v1001 = (3 : Int32) ∨ v1001 = (4 : Int32) := by rw [← hv_v1001]; exact own_five p1
  rcases hfv with hi | hi | hi | hi | hi
  · -- 0
    rw [hi]
    show OEnds p.tables e below G (s₁.setTop (mkF m 8 #[.val (.int p1), .val (.int p2), .val (.int p3), .val (.int p4), .val (.int p5), .val (.int (0 : Int32)), .unset, .unset, .unset, .unset] []))
    refine OEnds.st (fun _ k => XS.iconst X0.here hx rfl (hb hby at_8) k) ?_
    show OEnds p.tables e below G (s₁.setTop (mkF m 9 #[.val (.int p1), .val (.int p2), .val (.int p3), .val (.int p4), .val (.int p5), .val (.int (0 : Int32)), .unset, .unset, .unset, .unset] [(.int (5 : Int32))]))
    obtain ⟨T1002, h1002, k1002, X1002, e1002, E1002, A1002, st1002⟩ := newP X0 hx hZ (hw _ (List.mem_of_getElem? (i := 1) rfl)) e0 (g := (mkF m 9 #[.val (.int p1), .val (.int p2), .val (.int p3), .val (.int p4), .val (.int p5), .val (.int (0 : Int32)), .unset, .unset, .unset, .unset] [(.int (5 : Int32))])) rfl (hb hby at_9) rfl (by decide) (cap := 5) (by decide) (by decide) (by decide) (by decide)
    obtain ⟨b1002, g1002⟩ : ∃ z, z = h0.size := ⟨_, rfl⟩
    rw [← g1002] at A1002 st1002
    refine OEnds.st st1002 ?_
    have ge_b1002 : n0 ≤ b1002 := Nat.le_trans Z0 (Nat.le_of_eq g1002.symm)
    have sz_b1002 : h0.size ≤ b1002 := Nat.le_trans KK0.1 (Nat.le_of_eq g1002.symm)
    have KK1002 : Keep h0 h1002 [] := KK0.ext E1002
    have Z1002 := Nat.le_trans Z0 E1002.1
    have f1003 : Arv Z h1002 b1002 k1002 .byte (5 : Int32) [(.int (0 : Int32)), (.int (0 : Int32)), (.int (0 : Int32)), (.int (0 : Int32)), (.int (0 : Int32))] (.int (0 : Int32)) := (Arv.new A1002 (by decide)).pad (pad_rep [] (.int (0 : Int32)) 5)
    show OEnds p.tables e below G (T1002.setTop (mkF m 11 #[.val (.int p1), .val (.int p2), .val (.int p3), .val (.int p4), .val (.int p5), .val (.int (0 : Int32)), .unset, .unset, .unset, .unset] [(.ref b1002)]))
    refine OEnds.st (fun _ k => XS.astore X1002.here hx rfl (hb hby at_11) rfl rfl (l' := #[.val (.int p1), .val (.int p2), .val (.int p3), .val (.int p4), .val (.int p5), .val (.int (0 : Int32)), .val (.ref b1002), .unset, .unset, .unset]) rfl k) ?_
    show OEnds p.tables e below G (T1002.setTop (mkF m 13 #[.val (.int p1), .val (.int p2), .val (.int p3), .val (.int p4), .val (.int p5), .val (.int (0 : Int32)), .val (.ref b1002), .unset, .unset, .unset] []))
    refine OEnds.st (fun _ k => XS.aload X1002.here hx rfl (hb hby at_13) rfl rfl k) ?_
    show OEnds p.tables e below G (T1002.setTop (mkF m 15 #[.val (.int p1), .val (.int p2), .val (.int p3), .val (.int p4), .val (.int p5), .val (.int (0 : Int32)), .val (.ref b1002), .unset, .unset, .unset] [(.ref b1002)]))
    refine OEnds.st (fun _ k => XS.iconst X1002.here hx rfl (hb hby at_15) k) ?_
    show OEnds p.tables e below G (T1002.setTop (mkF m 16 #[.val (.int p1), .val (.int p2), .val (.int p3), .val (.int p4), .val (.int p5), .val (.int (0 : Int32)), .val (.ref b1002), .unset, .unset, .unset] [(.int (0 : Int32)), (.ref b1002)]))
    refine OEnds.st (fun _ k => XS.iload X1002.here hx rfl (hb hby at_16) rfl k) ?_
    show OEnds p.tables e below G (T1002.setTop (mkF m 18 #[.val (.int p1), .val (.int p2), .val (.int p3), .val (.int p4), .val (.int p5), .val (.int (0 : Int32)), .val (.ref b1002), .unset, .unset, .unset] [(.int (0 : Int32)), (.int (0 : Int32)), (.ref b1002)]))
    refine OEnds.st (fun _ k => XS.i2b X1002.here hx rfl (hb hby at_18) rfl k) ?_
    show OEnds p.tables e below G (T1002.setTop (mkF m 19 #[.val (.int p1), .val (.int p2), .val (.int p3), .val (.int p4), .val (.int p5), .val (.int (0 : Int32)), .val (.ref b1002), .unset, .unset, .unset] [(.int ((0 : Int32).toInt8.toInt32)), (.int (0 : Int32)), (.ref b1002)]))
    obtain ⟨cl1004, Ar1004, q1004, S1004, N1004n, H1004, G1004⟩ := id f1003
    have hin1004 : ¬ ((0 : Int32) < 0 ∨ cl1004.slots.size ≤ ((0 : Int32)).toNatClampNeg) := inb_of S1004 ⟨by decide, by decide⟩
    obtain ⟨T1004, h1004, X1004, e1004, W1004, st1004⟩ := stB X1002 hx hZ e1002 Ar1004 (j := (0 : Int32)) hin1004 (g := (mkF m 19 #[.val (.int p1), .val (.int p2), .val (.int p3), .val (.int p4), .val (.int p5), .val (.int (0 : Int32)), .val (.ref b1002), .unset, .unset, .unset] [(.int ((0 : Int32).toInt8.toInt32)), (.int (0 : Int32)), (.ref b1002)])) rfl rfl (hb hby at_19)
    refine OEnds.st st1004 ?_
    rw [own_b8] at W1004
    have f1005 : Arv Z h1004 b1002 k1002 .byte (5 : Int32) [(.int ((0 : Int32).toInt8.toInt32)), (.int (0 : Int32)), (.int (0 : Int32)), (.int (0 : Int32)), (.int (0 : Int32))] (.int (0 : Int32)) := Arv.set Ar1004 q1004 S1004 N1004n H1004 G1004 (fits_nar_byte _) W1004 0 rfl (Nat.le_of_ble_eq_true rfl)
    have N1004 := Fr.snoc X1004 N0 ge_b1002
    have KK1004 : Keep h0 h1004 [] := KK1002.wr W1004 (Or.inr sz_b1002)
    have Z1004 := Nat.le_trans Z1002 (Keep.of_wr W1004).1
    show OEnds p.tables e below G (T1004.setTop (mkF m 20 #[.val (.int p1), .val (.int p2), .val (.int p3), .val (.int p4), .val (.int p5), .val (.int (0 : Int32)), .val (.ref b1002), .unset, .unset, .unset] []))
    refine OEnds.st (fun _ k => XS.aload X1004.here hx rfl (hb hby at_20) rfl rfl k) ?_
    show OEnds p.tables e below G (T1004.setTop (mkF m 22 #[.val (.int p1), .val (.int p2), .val (.int p3), .val (.int p4), .val (.int p5), .val (.int (0 : Int32)), .val (.ref b1002), .unset, .unset, .unset] [(.ref b1002)]))
    refine OEnds.st (fun _ k => XS.iconst X1004.here hx rfl (hb hby at_22) k) ?_
    show OEnds p.tables e below G (T1004.setTop (mkF m 23 #[.val (.int p1), .val (.int p2), .val (.int p3), .val (.int p4), .val (.int p5), .val (.int (0 : Int32)), .val (.ref b1002), .unset, .unset, .unset] [(.int (1 : Int32)), (.ref b1002)]))
    refine OEnds.st (fun _ k => XS.iloadN X1004.here hx rfl (hb hby at_23) rfl k) ?_
    show OEnds p.tables e below G (T1004.setTop (mkF m 24 #[.val (.int p1), .val (.int p2), .val (.int p3), .val (.int p4), .val (.int p5), .val (.int (0 : Int32)), .val (.ref b1002), .unset, .unset, .unset] [(.int p2), (.int (1 : Int32)), (.ref b1002)]))
    refine OEnds.st (fun _ k => XS.bipush X1004.here hx rfl (hb hby at_24) k) ?_
    show OEnds p.tables e below G (T1004.setTop (mkF m 26 #[.val (.int p1), .val (.int p2), .val (.int p3), .val (.int p4), .val (.int p5), .val (.int (0 : Int32)), .val (.ref b1002), .unset, .unset, .unset] [(.int (127 : Int32)), (.int p2), (.int (1 : Int32)), (.ref b1002)]))
    refine OEnds.st (fun _ k => XS.iand X1004.here hx rfl (hb hby at_26) rfl k) ?_
    show OEnds p.tables e below G (T1004.setTop (mkF m 27 #[.val (.int p1), .val (.int p2), .val (.int p3), .val (.int p4), .val (.int p5), .val (.int (0 : Int32)), .val (.ref b1002), .unset, .unset, .unset] [(.int (p2 &&& (127 : Int32))), (.int (1 : Int32)), (.ref b1002)]))
    refine OEnds.st (fun _ k => XS.i2b X1004.here hx rfl (hb hby at_27) rfl k) ?_
    show OEnds p.tables e below G (T1004.setTop (mkF m 28 #[.val (.int p1), .val (.int p2), .val (.int p3), .val (.int p4), .val (.int p5), .val (.int (0 : Int32)), .val (.ref b1002), .unset, .unset, .unset] [(.int ((p2 &&& (127 : Int32)).toInt8.toInt32)), (.int (1 : Int32)), (.ref b1002)]))
    obtain ⟨cl1006, Ar1006, q1006, S1006, N1006n, H1006, G1006⟩ := id f1005
    have hin1006 : ¬ ((1 : Int32) < 0 ∨ cl1006.slots.size ≤ ((1 : Int32)).toNatClampNeg) := inb_of S1006 ⟨by decide, by decide⟩
    obtain ⟨T1006, h1006, X1006, e1006, W1006, st1006⟩ := stB X1004 hx hZ e1004 Ar1006 (j := (1 : Int32)) hin1006 (g := (mkF m 28 #[.val (.int p1), .val (.int p2), .val (.int p3), .val (.int p4), .val (.int p5), .val (.int (0 : Int32)), .val (.ref b1002), .unset, .unset, .unset] [(.int ((p2 &&& (127 : Int32)).toInt8.toInt32)), (.int (1 : Int32)), (.ref b1002)])) rfl rfl (hb hby at_28)
    refine OEnds.st st1006 ?_
    rw [own_b8] at W1006
    have f1007 : Arv Z h1006 b1002 k1002 .byte (5 : Int32) [(.int ((0 : Int32).toInt8.toInt32)), (.int ((p2 &&& (127 : Int32)).toInt8.toInt32)), (.int (0 : Int32)), (.int (0 : Int32)), (.int (0 : Int32))] (.int (0 : Int32)) := Arv.set Ar1006 q1006 S1006 N1006n H1006 G1006 (fits_nar_byte _) W1006 1 rfl (Nat.le_of_ble_eq_true rfl)
    have N1006 := Fr.snoc X1006 N1004 ge_b1002
    have KK1006 : Keep h0 h1006 [] := KK1004.wr W1006 (Or.inr sz_b1002)
    have Z1006 := Nat.le_trans Z1004 (Keep.of_wr W1006).1
    show OEnds p.tables e below G (T1006.setTop (mkF m 29 #[.val (.int p1), .val (.int p2), .val (.int p3), .val (.int p4), .val (.int p5), .val (.int (0 : Int32)), .val (.ref b1002), .unset, .unset, .unset] []))
    refine OEnds.st (fun _ k => XS.aload X1006.here hx rfl (hb hby at_29) rfl rfl k) ?_
    show OEnds p.tables e below G (T1006.setTop (mkF m 31 #[.val (.int p1), .val (.int p2), .val (.int p3), .val (.int p4), .val (.int p5), .val (.int (0 : Int32)), .val (.ref b1002), .unset, .unset, .unset] [(.ref b1002)]))
    refine OEnds.st (fun _ k => XS.iconst X1006.here hx rfl (hb hby at_31) k) ?_
    show OEnds p.tables e below G (T1006.setTop (mkF m 32 #[.val (.int p1), .val (.int p2), .val (.int p3), .val (.int p4), .val (.int p5), .val (.int (0 : Int32)), .val (.ref b1002), .unset, .unset, .unset] [(.int (2 : Int32)), (.ref b1002)]))
    refine OEnds.st (fun _ k => XS.iloadN X1006.here hx rfl (hb hby at_32) rfl k) ?_
    show OEnds p.tables e below G (T1006.setTop (mkF m 33 #[.val (.int p1), .val (.int p2), .val (.int p3), .val (.int p4), .val (.int p5), .val (.int (0 : Int32)), .val (.ref b1002), .unset, .unset, .unset] [(.int p3), (.int (2 : Int32)), (.ref b1002)]))
    refine OEnds.st (fun _ k => XS.bipush X1006.here hx rfl (hb hby at_33) k) ?_
    show OEnds p.tables e below G (T1006.setTop (mkF m 35 #[.val (.int p1), .val (.int p2), .val (.int p3), .val (.int p4), .val (.int p5), .val (.int (0 : Int32)), .val (.ref b1002), .unset, .unset, .unset] [(.int (127 : Int32)), (.int p3), (.int (2 : Int32)), (.ref b1002)]))
    refine OEnds.st (fun _ k => XS.iand X1006.here hx rfl (hb hby at_35) rfl k) ?_
    show OEnds p.tables e below G (T1006.setTop (mkF m 36 #[.val (.int p1), .val (.int p2), .val (.int p3), .val (.int p4), .val (.int p5), .val (.int (0 : Int32)), .val (.ref b1002), .unset, .unset, .unset] [(.int (p3 &&& (127 : Int32))), (.int (2 : Int32)), (.ref b1002)]))
    refine OEnds.st (fun _ k => XS.i2b X1006.here hx rfl (hb hby at_36) rfl k) ?_
    show OEnds p.tables e below G (T1006.setTop (mkF m 37 #[.val (.int p1), .val (.int p2), .val (.int p3), .val (.int p4), .val (.int p5), .val (.int (0 : Int32)), .val (.ref b1002), .unset, .unset, .unset] [(.int ((p3 &&& (127 : Int32)).toInt8.toInt32)), (.int (2 : Int32)), (.ref b1002)]))
    obtain ⟨cl1008, Ar1008, q1008, S1008, N1008n, H1008, G1008⟩ := id f1007
    have hin1008 : ¬ ((2 : Int32) < 0 ∨ cl1008.slots.size ≤ ((2 : Int32)).toNatClampNeg) := inb_of S1008 ⟨by decide, by decide⟩
    obtain ⟨T1008, h1008, X1008, e1008, W1008, st1008⟩ := stB X1006 hx hZ e1006 Ar1008 (j := (2 : Int32)) hin1008 (g := (mkF m 37 #[.val (.int p1), .val (.int p2), .val (.int p3), .val (.int p4), .val (.int p5), .val (.int (0 : Int32)), .val (.ref b1002), .unset, .unset, .unset] [(.int ((p3 &&& (127 : Int32)).toInt8.toInt32)), (.int (2 : Int32)), (.ref b1002)])) rfl rfl (hb hby at_37)
    refine OEnds.st st1008 ?_
    rw [own_b8] at W1008
    have f1009 : Arv Z h1008 b1002 k1002 .byte (5 : Int32) [(.int ((0 : Int32).toInt8.toInt32)), (.int ((p2 &&& (127 : Int32)).toInt8.toInt32)), (.int ((p3 &&& (127 : Int32)).toInt8.toInt32)), (.int (0 : Int32)), (.int (0 : Int32))] (.int (0 : Int32)) := Arv.set Ar1008 q1008 S1008 N1008n H1008 G1008 (fits_nar_byte _) W1008 2 rfl (Nat.le_of_ble_eq_true rfl)
    have N1008 := Fr.snoc X1008 N1006 ge_b1002
    have KK1008 : Keep h0 h1008 [] := KK1006.wr W1008 (Or.inr sz_b1002)
    have Z1008 := Nat.le_trans Z1006 (Keep.of_wr W1008).1
    show OEnds p.tables e below G (T1008.setTop (mkF m 38 #[.val (.int p1), .val (.int p2), .val (.int p3), .val (.int p4), .val (.int p5), .val (.int (0 : Int32)), .val (.ref b1002), .unset, .unset, .unset] []))
    refine OEnds.st (fun _ k => XS.aload X1008.here hx rfl (hb hby at_38) rfl rfl k) ?_
    show OEnds p.tables e below G (T1008.setTop (mkF m 40 #[.val (.int p1), .val (.int p2), .val (.int p3), .val (.int p4), .val (.int p5), .val (.int (0 : Int32)), .val (.ref b1002), .unset, .unset, .unset] [(.ref b1002)]))
    refine OEnds.st (fun _ k => XS.iconst X1008.here hx rfl (hb hby at_40) k) ?_
    show OEnds p.tables e below G (T1008.setTop (mkF m 41 #[.val (.int p1), .val (.int p2), .val (.int p3), .val (.int p4), .val (.int p5), .val (.int (0 : Int32)), .val (.ref b1002), .unset, .unset, .unset] [(.int (3 : Int32)), (.ref b1002)]))
    refine OEnds.st (fun _ k => XS.iloadN X1008.here hx rfl (hb hby at_41) rfl k) ?_
    show OEnds p.tables e below G (T1008.setTop (mkF m 42 #[.val (.int p1), .val (.int p2), .val (.int p3), .val (.int p4), .val (.int p5), .val (.int (0 : Int32)), .val (.ref b1002), .unset, .unset, .unset] [(.int p4), (.int (3 : Int32)), (.ref b1002)]))
    refine OEnds.st (fun _ k => XS.bipush X1008.here hx rfl (hb hby at_42) k) ?_
    show OEnds p.tables e below G (T1008.setTop (mkF m 44 #[.val (.int p1), .val (.int p2), .val (.int p3), .val (.int p4), .val (.int p5), .val (.int (0 : Int32)), .val (.ref b1002), .unset, .unset, .unset] [(.int (127 : Int32)), (.int p4), (.int (3 : Int32)), (.ref b1002)]))
    refine OEnds.st (fun _ k => XS.iand X1008.here hx rfl (hb hby at_44) rfl k) ?_
    show OEnds p.tables e below G (T1008.setTop (mkF m 45 #[.val (.int p1), .val (.int p2), .val (.int p3), .val (.int p4), .val (.int p5), .val (.int (0 : Int32)), .val (.ref b1002), .unset, .unset, .unset] [(.int (p4 &&& (127 : Int32))), (.int (3 : Int32)), (.ref b1002)]))
    refine OEnds.st (fun _ k => XS.i2b X1008.here hx rfl (hb hby at_45) rfl k) ?_
    show OEnds p.tables e below G (T1008.setTop (mkF m 46 #[.val (.int p1), .val (.int p2), .val (.int p3), .val (.int p4), .val (.int p5), .val (.int (0 : Int32)), .val (.ref b1002), .unset, .unset, .unset] [(.int ((p4 &&& (127 : Int32)).toInt8.toInt32)), (.int (3 : Int32)), (.ref b1002)]))
    obtain ⟨cl1010, Ar1010, q1010, S1010, N1010n, H1010, G1010⟩ := id f1009
    have hin1010 : ¬ ((3 : Int32) < 0 ∨ cl1010.slots.size ≤ ((3 : Int32)).toNatClampNeg) := inb_of S1010 ⟨by decide, by decide⟩
    obtain ⟨T1010, h1010, X1010, e1010, W1010, st1010⟩ := stB X1008 hx hZ e1008 Ar1010 (j := (3 : Int32)) hin1010 (g := (mkF m 46 #[.val (.int p1), .val (.int p2), .val (.int p3), .val (.int p4), .val (.int p5), .val (.int (0 : Int32)), .val (.ref b1002), .unset, .unset, .unset] [(.int ((p4 &&& (127 : Int32)).toInt8.toInt32)), (.int (3 : Int32)), (.ref b1002)])) rfl rfl (hb hby at_46)
    refine OEnds.st st1010 ?_
    rw [own_b8] at W1010
    have f1011 : Arv Z h1010 b1002 k1002 .byte (5 : Int32) [(.int ((0 : Int32).toInt8.toInt32)), (.int ((p2 &&& (127 : Int32)).toInt8.toInt32)), (.int ((p3 &&& (127 : Int32)).toInt8.toInt32)), (.int ((p4 &&& (127 : Int32)).toInt8.toInt32)), (.int (0 : Int32))] (.int (0 : Int32)) := Arv.set Ar1010 q1010 S1010 N1010n H1010 G1010 (fits_nar_byte _) W1010 3 rfl (Nat.le_of_ble_eq_true rfl)
    have N1010 := Fr.snoc X1010 N1008 ge_b1002
    have KK1010 : Keep h0 h1010 [] := KK1008.wr W1010 (Or.inr sz_b1002)
    have Z1010 := Nat.le_trans Z1008 (Keep.of_wr W1010).1
    show OEnds p.tables e below G (T1010.setTop (mkF m 47 #[.val (.int p1), .val (.int p2), .val (.int p3), .val (.int p4), .val (.int p5), .val (.int (0 : Int32)), .val (.ref b1002), .unset, .unset, .unset] []))
    refine OEnds.st (fun _ k => XS.aload X1010.here hx rfl (hb hby at_47) rfl rfl k) ?_
    show OEnds p.tables e below G (T1010.setTop (mkF m 49 #[.val (.int p1), .val (.int p2), .val (.int p3), .val (.int p4), .val (.int p5), .val (.int (0 : Int32)), .val (.ref b1002), .unset, .unset, .unset] [(.ref b1002)]))
    refine OEnds.st (fun _ k => XS.iconst X1010.here hx rfl (hb hby at_49) k) ?_
    show OEnds p.tables e below G (T1010.setTop (mkF m 50 #[.val (.int p1), .val (.int p2), .val (.int p3), .val (.int p4), .val (.int p5), .val (.int (0 : Int32)), .val (.ref b1002), .unset, .unset, .unset] [(.int (4 : Int32)), (.ref b1002)]))
    refine OEnds.st (fun _ k => XS.iload X1010.here hx rfl (hb hby at_50) rfl k) ?_
    show OEnds p.tables e below G (T1010.setTop (mkF m 52 #[.val (.int p1), .val (.int p2), .val (.int p3), .val (.int p4), .val (.int p5), .val (.int (0 : Int32)), .val (.ref b1002), .unset, .unset, .unset] [(.int p5), (.int (4 : Int32)), (.ref b1002)]))
    refine OEnds.st (fun _ k => XS.bipush X1010.here hx rfl (hb hby at_52) k) ?_
    show OEnds p.tables e below G (T1010.setTop (mkF m 54 #[.val (.int p1), .val (.int p2), .val (.int p3), .val (.int p4), .val (.int p5), .val (.int (0 : Int32)), .val (.ref b1002), .unset, .unset, .unset] [(.int (127 : Int32)), (.int p5), (.int (4 : Int32)), (.ref b1002)]))
    refine OEnds.st (fun _ k => XS.iand X1010.here hx rfl (hb hby at_54) rfl k) ?_
    show OEnds p.tables e below G (T1010.setTop (mkF m 55 #[.val (.int p1), .val (.int p2), .val (.int p3), .val (.int p4), .val (.int p5), .val (.int (0 : Int32)), .val (.ref b1002), .unset, .unset, .unset] [(.int (p5 &&& (127 : Int32))), (.int (4 : Int32)), (.ref b1002)]))
    refine OEnds.st (fun _ k => XS.i2b X1010.here hx rfl (hb hby at_55) rfl k) ?_
    show OEnds p.tables e below G (T1010.setTop (mkF m 56 #[.val (.int p1), .val (.int p2), .val (.int p3), .val (.int p4), .val (.int p5), .val (.int (0 : Int32)), .val (.ref b1002), .unset, .unset, .unset] [(.int ((p5 &&& (127 : Int32)).toInt8.toInt32)), (.int (4 : Int32)), (.ref b1002)]))
    obtain ⟨cl1012, Ar1012, q1012, S1012, N1012n, H1012, G1012⟩ := id f1011
    have hin1012 : ¬ ((4 : Int32) < 0 ∨ cl1012.slots.size ≤ ((4 : Int32)).toNatClampNeg) := inb_of S1012 ⟨by decide, by decide⟩
    obtain ⟨T1012, h1012, X1012, e1012, W1012, st1012⟩ := stB X1010 hx hZ e1010 Ar1012 (j := (4 : Int32)) hin1012 (g := (mkF m 56 #[.val (.int p1), .val (.int p2), .val (.int p3), .val (.int p4), .val (.int p5), .val (.int (0 : Int32)), .val (.ref b1002), .unset, .unset, .unset] [(.int ((p5 &&& (127 : Int32)).toInt8.toInt32)), (.int (4 : Int32)), (.ref b1002)])) rfl rfl (hb hby at_56)
    refine OEnds.st st1012 ?_
    rw [own_b8] at W1012
    have f1013 : Arv Z h1012 b1002 k1002 .byte (5 : Int32) [(.int ((0 : Int32).toInt8.toInt32)), (.int ((p2 &&& (127 : Int32)).toInt8.toInt32)), (.int ((p3 &&& (127 : Int32)).toInt8.toInt32)), (.int ((p4 &&& (127 : Int32)).toInt8.toInt32)), (.int ((p5 &&& (127 : Int32)).toInt8.toInt32))] (.int (0 : Int32)) := Arv.set Ar1012 q1012 S1012 N1012n H1012 G1012 (fits_nar_byte _) W1012 4 rfl (Nat.le_of_ble_eq_true rfl)
    have N1012 := Fr.snoc X1012 N1010 ge_b1002
    have KK1012 : Keep h0 h1012 [] := KK1010.wr W1012 (Or.inr sz_b1002)
    have Z1012 := Nat.le_trans Z1010 (Keep.of_wr W1012).1
    show OEnds p.tables e below G (T1012.setTop (mkF m 57 #[.val (.int p1), .val (.int p2), .val (.int p3), .val (.int p4), .val (.int p5), .val (.int (0 : Int32)), .val (.ref b1002), .unset, .unset, .unset] []))
    obtain ⟨T1014, h1014, X1014, e1014, E1014, A1014, D1014, -, st1014⟩ := newO X1012 hx hZ hown (hw _ (List.mem_of_getElem? (i := 2) rfl)) (hw _ (List.mem_of_getElem? (i := 3) rfl)) (hw _ (List.mem_of_getElem? (i := 4) rfl)) e1012 (g := (mkF m 57 #[.val (.int p1), .val (.int p2), .val (.int p3), .val (.int p4), .val (.int p5), .val (.int (0 : Int32)), .val (.ref b1002), .unset, .unset, .unset] [])) rfl (hb hby at_57) (by decide) (by decide)
    obtain ⟨b1014, g1014⟩ : ∃ z, z = h1012.size := ⟨_, rfl⟩
    rw [← g1014] at A1014 D1014 st1014
    refine OEnds.st st1014 ?_
    have ne1015 : b1002 ≠ b1014 := Nat.ne_of_lt (Nat.lt_of_lt_of_le (f1013).lt (Nat.le_of_eq g1014.symm))
    have ge_b1014 : n0 ≤ b1014 := Nat.le_trans Z1012 (Nat.le_of_eq g1014.symm)
    have sz_b1014 : h0.size ≤ b1014 := Nat.le_trans KK1012.1 (Nat.le_of_eq g1014.symm)
    have f1016 : Arv Z h1014 b1002 k1002 .byte (5 : Int32) [(.int ((0 : Int32).toInt8.toInt32)), (.int ((p2 &&& (127 : Int32)).toInt8.toInt32)), (.int ((p3 &&& (127 : Int32)).toInt8.toInt32)), (.int ((p4 &&& (127 : Int32)).toInt8.toInt32)), (.int ((p5 &&& (127 : Int32)).toInt8.toInt32))] (.int (0 : Int32)) := f1013.ext E1014
    have KK1014 : Keep h0 h1014 [] := KK1012.ext E1014
    have Z1014 := Nat.le_trans Z1012 E1014.1
    have ex_b1014 := A1014
    have f1017 : Fld Z h1014 b1014 "com/example/nearfar/nearfar/ProtoReader" "bytes" "[B" .null := D1014 (Or.inr (hw _ (List.mem_of_getElem? (i := 15) rfl))) (ty := (.array .byte)) (by decide)
    have f1018 : Fld Z h1014 b1014 "com/example/nearfar/nearfar/ProtoReader" "position" "I" (.int (0 : Int32)) := D1014 (Or.inl (hw _ (List.mem_of_getElem? (i := 17) rfl))) (ty := .int) (by decide)
    have f1019 : Fld Z h1014 b1014 "com/example/nearfar/nearfar/ProtoReader" "end" "I" (.int (0 : Int32)) := D1014 (Or.inr (hw _ (List.mem_of_getElem? (i := 19) rfl))) (ty := .int) (by decide)
    have f1020 : Fld Z h1014 b1014 "com/example/nearfar/nearfar/ProtoReader" "depth" "I" (.int (0 : Int32)) := D1014 (Or.inr (hw _ (List.mem_of_getElem? (i := 21) rfl))) (ty := .int) (by decide)
    show OEnds p.tables e below G (T1014.setTop (mkF m 60 #[.val (.int p1), .val (.int p2), .val (.int p3), .val (.int p4), .val (.int p5), .val (.int (0 : Int32)), .val (.ref b1002), .unset, .unset, .unset] [(.ref b1014)]))
    refine OEnds.st (fun _ k => XS.dup X1014.here hx rfl (hb hby at_60) rfl rfl k) ?_
    show OEnds p.tables e below G (T1014.setTop (mkF m 61 #[.val (.int p1), .val (.int p2), .val (.int p3), .val (.int p4), .val (.int p5), .val (.int (0 : Int32)), .val (.ref b1002), .unset, .unset, .unset] [(.ref b1014), (.ref b1014)]))
    refine OEnds.st (fun _ k => XS.aload X1014.here hx rfl (hb hby at_61) rfl rfl k) ?_
    show OEnds p.tables e below G (T1014.setTop (mkF m 63 #[.val (.int p1), .val (.int p2), .val (.int p3), .val (.int p4), .val (.int p5), .val (.int (0 : Int32)), .val (.ref b1002), .unset, .unset, .unset] [(.ref b1002), (.ref b1014), (.ref b1014)]))
    obtain ⟨_, _, ⟨T1021, L1021, k1021c, n1021c⟩, -, X1021, ⟨Lc1021, hQ1021, l1021, y1021, z1021⟩, st1021⟩ := X1014.specialBack hx (y := (⟨"com/example/nearfar/nearfar/ProtoReader", "<init>", "([B)V"⟩ : MethodName)) rfl hown (mvT hZ (hw _ (List.mem_of_getElem? (i := 5) rfl))) (mvT hZ (hw _ (List.mem_of_getElem? (i := 6) rfl))) (mvT hZ (hw _ (List.mem_of_getElem? (i := 7) rfl))) (by decide) (backOf (W := 1) (rm1 l Z a0 hw [] b1014 b1002 k1002 (5 : Int32) ([(.int ((0 : Int32).toInt8.toInt32)), (.int ((p2 &&& (127 : Int32)).toInt8.toInt32)), (.int ((p3 &&& (127 : Int32)).toInt8.toInt32)), (.int ((p4 &&& (127 : Int32)).toInt8.toInt32)), (.int ((p5 &&& (127 : Int32)).toInt8.toInt32))]) (.int (0 : Int32)) h1014 n0 Z1014 ex_b1014 f1017 f1018 f1019 f1020 f1016 ge_b1014 ne1015) hZ (hw _ (List.mem_of_getElem? (i := 7) rfl)) (hw _ (List.mem_of_getElem? (i := 4) rfl)) (by decide) (by decide)) (g := (mkF m 63 #[.val (.int p1), .val (.int p2), .val (.int p3), .val (.int p4), .val (.int p5), .val (.int (0 : Int32)), .val (.ref b1002), .unset, .unset, .unset] [(.ref b1002), (.ref b1014), (.ref b1014)])) rfl (by rw [hml]; rfl) (Steps.refl _) (a := b1014) (argsL := [(.ref b1002)]) (rest := [(.ref b1014)]) (lenOf pd_4 rfl) rfl (by show 2 * 0 + _ ≤ _; exact Nat.le_of_eq rfl) (hb hby at_63) (fun _ _ => ⟨rfl, e1014, (by decide : 0 + 1 + 1 + 0 ≤ _), (by decide : 0 + 5 + 4 + 0 ≤ _)⟩)
    dsimp only [Pt.U, Pt.locs, Pt.cells, Pt.slots] at X1021 l1021 y1021 z1021 st1021 hQ1021
    subst l1021 y1021 z1021
    obtain ⟨rfl, N1021q, p1022, p1023, p1024, p1025, p1026, p1027⟩ := hQ1021
    have N1021 := Fr.app N1012 N1021q
    refine OEnds.st (fun _ k => st1021.trans k) ?_
    have f1028 : Arv Z T1021.heap b1002 k1002 .byte (5 : Int32) [(.int ((0 : Int32).toInt8.toInt32)), (.int ((p2 &&& (127 : Int32)).toInt8.toInt32)), (.int ((p3 &&& (127 : Int32)).toInt8.toInt32)), (.int ((p4 &&& (127 : Int32)).toInt8.toInt32)), (.int ((p5 &&& (127 : Int32)).toInt8.toInt32))] (.int (0 : Int32)) := f1016.keep p1022 (by simp only [List.mem_cons, List.not_mem_nil, or_false, not_or]; exact ne1015)
    have f1029 : Exa Z T1021.heap b1014 "com/example/nearfar/nearfar/ProtoReader" := ex_b1014.keep p1022
    have KK1021 : Keep h0 T1021.heap [] := KK1014.trans p1022 (fun x hx => by cases List.mem_singleton.mp hx; exact Or.inr sz_b1014)
    have Z1021 := Nat.le_trans Z1014 p1022.1
    show OEnds p.tables e below G (T1021.setTop (mkF m 66 #[.val (.int p1), .val (.int p2), .val (.int p3), .val (.int p4), .val (.int p5), .val (.int (0 : Int32)), .val (.ref b1002), .unset, .unset, .unset] [(.ref b1014)]))
    refine OEnds.st (fun _ k => XS.astore X1021.here hx rfl (hb hby at_66) rfl rfl (l' := #[.val (.int p1), .val (.int p2), .val (.int p3), .val (.int p4), .val (.int p5), .val (.int (0 : Int32)), .val (.ref b1002), .val (.ref b1014), .unset, .unset]) rfl k) ?_
    show OEnds p.tables e below G (T1021.setTop (mkF m 68 #[.val (.int p1), .val (.int p2), .val (.int p3), .val (.int p4), .val (.int p5), .val (.int (0 : Int32)), .val (.ref b1002), .val (.ref b1014), .unset, .unset] []))
    refine OEnds.st (fun _ k => XS.aload X1021.here hx rfl (hb hby at_68) rfl rfl k) ?_
    show OEnds p.tables e below G (T1021.setTop (mkF m 70 #[.val (.int p1), .val (.int p2), .val (.int p3), .val (.int p4), .val (.int p5), .val (.int (0 : Int32)), .val (.ref b1002), .val (.ref b1014), .unset, .unset] [(.ref b1014)]))
    obtain ⟨cq1034, kq1034, q1034a, q1034b, q1034c⟩ := isOf hZ rfl p1023
    obtain ⟨_, _, ⟨T1034, L1034, k1034c, n1034c⟩, -, X1034, ⟨Lc1034, hQ1034, l1034, y1034, z1034⟩, st1034⟩ := X1021.virtualBack hx (y := (⟨"com/example/nearfar/nearfar/ProtoReader", "atEnd", "()Z"⟩ : MethodName)) (z := (⟨"com/example/nearfar/nearfar/ProtoReader", "atEnd", "()Z"⟩ : MethodName)) hown (mvT hZ (hw _ (List.mem_of_getElem? (i := 22) rfl))) (mvT hZ (hw _ (List.mem_of_getElem? (i := 23) rfl))) (notFace_of_selects (args := #[]) (mvT hZ (hw _ (List.mem_of_getElem? (i := 25) rfl)))) (mvT hZ (hw _ (List.mem_of_getElem? (i := 25) rfl))) (mvT hZ (hw _ (List.mem_of_getElem? (i := 24) rfl))) (by decide) (backOf (W := 0) (rm4 l Z a0 hw [] b1014 (0 : Int32) (5 : Int32) T1021.heap n0 Z1021 p1025 p1026) hZ (hw _ (List.mem_of_getElem? (i := 26) rfl)) (hw _ (List.mem_of_getElem? (i := 4) rfl)) (by decide) (by decide)) q1034a q1034c (g := (mkF m 70 #[.val (.int p1), .val (.int p2), .val (.int p3), .val (.int p4), .val (.int p5), .val (.int (0 : Int32)), .val (.ref b1002), .val (.ref b1014), .unset, .unset] [(.ref b1014)])) rfl (by rw [hml]; rfl) (Steps.refl _) (argsL := []) (rest := []) (lenOf pd_5 rfl) rfl (by show 2 * 0 + _ ≤ _; exact Nat.le_of_eq rfl) (hb hby at_70) (fun _ _ => ⟨rfl, rfl, (by decide : 0 + 1 + 1 + 0 + 0 ≤ _), (by decide : 0 + 5 + 4 + 0 + 0 ≤ _)⟩)
    dsimp only [Pt.U, Pt.locs, Pt.cells, Pt.slots] at X1034 l1034 y1034 z1034 st1034 hQ1034
    subst l1034 y1034 z1034
    obtain ⟨rfl, N1034q, e1034⟩ := hQ1034
    have N1034 := Fr.app N1021 N1034q
    refine OEnds.st (fun _ k => st1034.trans k) ?_
    show OEnds p.tables e below G (T1034.setTop (mkF m 73 #[.val (.int p1), .val (.int p2), .val (.int p3), .val (.int p4), .val (.int p5), .val (.int (0 : Int32)), .val (.ref b1002), .val (.ref b1014), .unset, .unset] [(.int (own_eq (0 : Int32) (5 : Int32)))]))
    have hc73_1035 : (own_eq (0 : Int32) (5 : Int32)) = (0 : Int32) := by decide
    refine OEnds.st (fun _ k => XS.ifNo X1034.here hx rfl (hb hby at_73) rfl ((if0 _ _).trans (teq hc73_1035).2) k) ?_
    show OEnds p.tables e below G (T1034.setTop (mkF m 76 #[.val (.int p1), .val (.int p2), .val (.int p3), .val (.int p4), .val (.int p5), .val (.int (0 : Int32)), .val (.ref b1002), .val (.ref b1014), .unset, .unset] []))
    refine OEnds.st (fun _ k => XS.iconst X1034.here hx rfl (hb hby at_76) k) ?_
    show OEnds p.tables e below G (T1034.setTop (mkF m 77 #[.val (.int p1), .val (.int p2), .val (.int p3), .val (.int p4), .val (.int p5), .val (.int (0 : Int32)), .val (.ref b1002), .val (.ref b1014), .unset, .unset] [(.int (1 : Int32))]))
    refine OEnds.st (fun _ k => XS.goto X1034.here hx rfl (pc0 := 77) (pc' := 81) rfl (hb hby at_77) (by decide) (by decide) k) ?_
    show OEnds p.tables e below G (T1034.setTop (mkF m 81 #[.val (.int p1), .val (.int p2), .val (.int p3), .val (.int p4), .val (.int p5), .val (.int (0 : Int32)), .val (.ref b1002), .val (.ref b1014), .unset, .unset] [(.int (1 : Int32))]))
    refine OEnds.st (fun _ k => XS.istore X1034.here hx rfl (hb hby at_81) rfl (l' := #[.val (.int p1), .val (.int p2), .val (.int p3), .val (.int p4), .val (.int p5), .val (.int (0 : Int32)), .val (.ref b1002), .val (.ref b1014), .val (.int (1 : Int32)), .unset]) rfl k) ?_
    show OEnds p.tables e below G (T1034.setTop (mkF m 83 #[.val (.int p1), .val (.int p2), .val (.int p3), .val (.int p4), .val (.int p5), .val (.int (0 : Int32)), .val (.ref b1002), .val (.ref b1014), .val (.int (1 : Int32)), .unset] []))
    refine OEnds.st (fun _ k => XS.aload X1034.here hx rfl (hb hby at_83) rfl rfl k) ?_
    show OEnds p.tables e below G (T1034.setTop (mkF m 85 #[.val (.int p1), .val (.int p2), .val (.int p3), .val (.int p4), .val (.int p5), .val (.int (0 : Int32)), .val (.ref b1002), .val (.ref b1014), .val (.int (1 : Int32)), .unset] [(.ref b1014)]))
    obtain ⟨cq1036, kq1036, q1036a, q1036b, q1036c⟩ := isOf hZ e1034 p1023
    obtain ⟨_, _, ⟨T1036, L1036, k1036c, n1036c⟩, -, X1036, ⟨Lc1036, hQ1036, l1036, y1036, z1036⟩, st1036⟩ := X1034.virtualBack hx (y := (⟨"com/example/nearfar/nearfar/ProtoReader", "embedded", "()Lcom/example/nearfar/nearfar/ProtoReader;"⟩ : MethodName)) (z := (⟨"com/example/nearfar/nearfar/ProtoReader", "embedded", "()Lcom/example/nearfar/nearfar/ProtoReader;"⟩ : MethodName)) hown (mvT hZ (hw _ (List.mem_of_getElem? (i := 27) rfl))) (mvT hZ (hw _ (List.mem_of_getElem? (i := 28) rfl))) (notFace_of_selects (args := #[]) (mvT hZ (hw _ (List.mem_of_getElem? (i := 30) rfl)))) (mvT hZ (hw _ (List.mem_of_getElem? (i := 30) rfl))) (mvT hZ (hw _ (List.mem_of_getElem? (i := 29) rfl))) (by decide) (backOf (W := 0) (rm5 l Z a0 hw [] b1014 b1002 (0 : Int32) (5 : Int32) (0 : Int32) k1002 (5 : Int32) ([(.int ((0 : Int32).toInt8.toInt32)), (.int ((p2 &&& (127 : Int32)).toInt8.toInt32)), (.int ((p3 &&& (127 : Int32)).toInt8.toInt32)), (.int ((p4 &&& (127 : Int32)).toInt8.toInt32)), (.int ((p5 &&& (127 : Int32)).toInt8.toInt32))]) (.int (0 : Int32)) ((0 : Int32).toInt8.toInt32) (1 : Int32) (1 : Int32) T1021.heap n0 Z1021 p1023 p1024 p1025 p1026 p1027 f1028 ge_b1014 ne1015 (by decide) (by decide) (by decide) rfl (own_b8 _) rfl (by decide) (by decide) (by decide) (by decide)) hZ (hw _ (List.mem_of_getElem? (i := 31) rfl)) (hw _ (List.mem_of_getElem? (i := 4) rfl)) (by decide) (by decide)) q1036a q1036c (g := (mkF m 85 #[.val (.int p1), .val (.int p2), .val (.int p3), .val (.int p4), .val (.int p5), .val (.int (0 : Int32)), .val (.ref b1002), .val (.ref b1014), .val (.int (1 : Int32)), .unset] [(.ref b1014)])) rfl (by rw [hml]; rfl) (Steps.refl _) (argsL := []) (rest := []) (lenOf pd_6 rfl) rfl (by show 2 * 0 + _ ≤ _; exact Nat.le_of_eq rfl) (hb hby at_85) (fun _ _ => ⟨rfl, e1034, (by decide : 0 + 1 + 1 + 0 + 0 + 1 ≤ _), (by decide : 0 + 5 + 4 + 0 + 0 + 4 ≤ _)⟩)
    dsimp only [Pt.U, Pt.locs, Pt.cells, Pt.slots] at X1036 l1036 y1036 z1036 st1036 hQ1036
    subst l1036 y1036 z1036
    obtain ⟨b_1036, rfl, N1036q, p1037, p1038, p1039, p1040, p1041, p1042, p1043, p1044, p1045, p1046, p1047, p1048⟩ := hQ1036
    have N1036 := Fr.app N1034 N1036q
    refine OEnds.st (fun _ k => st1036.trans k) ?_
    have ne1049 : b1002 ≠ b_1036 := Nat.ne_of_lt (Nat.lt_of_lt_of_le (f1028).lt p1038)
    have ne1050 : b1014 ≠ b_1036 := Nat.ne_of_lt (Nat.lt_of_lt_of_le (p1023).lt p1038)
    have sz_b_1036 : h0.size ≤ b_1036 := Nat.le_trans KK1021.1 p1038
    have ge_b_1036 : n0 ≤ b_1036 := Nat.le_trans Z1021 p1038
    have f1051 : Arv Z T1036.heap b1002 k1002 .byte (5 : Int32) [(.int ((0 : Int32).toInt8.toInt32)), (.int ((p2 &&& (127 : Int32)).toInt8.toInt32)), (.int ((p3 &&& (127 : Int32)).toInt8.toInt32)), (.int ((p4 &&& (127 : Int32)).toInt8.toInt32)), (.int ((p5 &&& (127 : Int32)).toInt8.toInt32))] (.int (0 : Int32)) := f1028.keep p1037 (by simp only [List.mem_cons, List.not_mem_nil, or_false, not_or]; exact ne1015)
    have f1052 : Exa Z T1036.heap b1014 "com/example/nearfar/nearfar/ProtoReader" := p1023.keep p1037
    have KK1036 : Keep h0 T1036.heap [] := KK1021.trans p1037 (fun x hx => by cases List.mem_singleton.mp hx; exact Or.inr sz_b1014)
    have Z1036 := Nat.le_trans Z1021 p1037.1
    show OEnds p.tables e below G (T1036.setTop (mkF m 88 #[.val (.int p1), .val (.int p2), .val (.int p3), .val (.int p4), .val (.int p5), .val (.int (0 : Int32)), .val (.ref b1002), .val (.ref b1014), .val (.int (1 : Int32)), .unset] [(.ref b_1036)]))
    refine OEnds.st (fun _ k => XS.astore X1036.here hx rfl (hb hby at_88) rfl rfl (l' := #[.val (.int p1), .val (.int p2), .val (.int p3), .val (.int p4), .val (.int p5), .val (.int (0 : Int32)), .val (.ref b1002), .val (.ref b1014), .val (.int (1 : Int32)), .val (.ref b_1036)]) rfl k) ?_
    show OEnds p.tables e below G (T1036.setTop (mkF m 90 #[.val (.int p1), .val (.int p2), .val (.int p3), .val (.int p4), .val (.int p5), .val (.int (0 : Int32)), .val (.ref b1002), .val (.ref b1014), .val (.int (1 : Int32)), .val (.ref b_1036)] []))
    refine OEnds.st (fun _ k => XS.iload X1036.here hx rfl (hb hby at_90) rfl k) ?_
    show OEnds p.tables e below G (T1036.setTop (mkF m 92 #[.val (.int p1), .val (.int p2), .val (.int p3), .val (.int p4), .val (.int p5), .val (.int (0 : Int32)), .val (.ref b1002), .val (.ref b1014), .val (.int (1 : Int32)), .val (.ref b_1036)] [(.int (1 : Int32))]))
    refine OEnds.st (fun _ k => XS.aload X1036.here hx rfl (hb hby at_92) rfl rfl k) ?_
    show OEnds p.tables e below G (T1036.setTop (mkF m 94 #[.val (.int p1), .val (.int p2), .val (.int p3), .val (.int p4), .val (.int p5), .val (.int (0 : Int32)), .val (.ref b1002), .val (.ref b1014), .val (.int (1 : Int32)), .val (.ref b_1036)] [(.ref b1014), (.int (1 : Int32))]))
    obtain ⟨cq1057, kq1057, q1057a, q1057b, q1057c⟩ := isOf hZ rfl p1039
    obtain ⟨_, _, ⟨T1057, L1057, k1057c, n1057c⟩, -, X1057, ⟨Lc1057, hQ1057, l1057, y1057, z1057⟩, st1057⟩ := X1036.virtualBack hx (y := (⟨"com/example/nearfar/nearfar/ProtoReader", "atEnd", "()Z"⟩ : MethodName)) (z := (⟨"com/example/nearfar/nearfar/ProtoReader", "atEnd", "()Z"⟩ : MethodName)) hown (mvT hZ (hw _ (List.mem_of_getElem? (i := 22) rfl))) (mvT hZ (hw _ (List.mem_of_getElem? (i := 23) rfl))) (notFace_of_selects (args := #[]) (mvT hZ (hw _ (List.mem_of_getElem? (i := 25) rfl)))) (mvT hZ (hw _ (List.mem_of_getElem? (i := 25) rfl))) (mvT hZ (hw _ (List.mem_of_getElem? (i := 24) rfl))) (by decide) (backOf (W := 1) (rm4 l Z a0 hw [] b1014 (1 : Int32) (5 : Int32) T1036.heap n0 Z1036 p1041 p1042) hZ (hw _ (List.mem_of_getElem? (i := 26) rfl)) (hw _ (List.mem_of_getElem? (i := 4) rfl)) (by decide) (by decide)) q1057a q1057c (g := (mkF m 94 #[.val (.int p1), .val (.int p2), .val (.int p3), .val (.int p4), .val (.int p5), .val (.int (0 : Int32)), .val (.ref b1002), .val (.ref b1014), .val (.int (1 : Int32)), .val (.ref b_1036)] [(.ref b1014), (.int (1 : Int32))])) rfl (by rw [hml]; rfl) (Steps.refl _) (argsL := []) (rest := [(.int (1 : Int32))]) (lenOf pd_5 rfl) rfl (by show 2 * 0 + _ ≤ _; exact Nat.le_of_eq rfl) (hb hby at_94) (fun _ _ => ⟨rfl, rfl, (by decide : 0 + 1 + 1 + 0 + 0 + 1 + 0 ≤ _), (by decide : 0 + 5 + 4 + 0 + 0 + 4 + 0 ≤ _)⟩)
    dsimp only [Pt.U, Pt.locs, Pt.cells, Pt.slots] at X1057 l1057 y1057 z1057 st1057 hQ1057
    subst l1057 y1057 z1057
    obtain ⟨rfl, N1057q, e1057⟩ := hQ1057
    have N1057 := Fr.app N1036 N1057q
    refine OEnds.st (fun _ k => st1057.trans k) ?_
    show OEnds p.tables e below G (T1057.setTop (mkF m 97 #[.val (.int p1), .val (.int p2), .val (.int p3), .val (.int p4), .val (.int p5), .val (.int (0 : Int32)), .val (.ref b1002), .val (.ref b1014), .val (.int (1 : Int32)), .val (.ref b_1036)] [(.int (own_eq (1 : Int32) (5 : Int32))), (.int (1 : Int32))]))
    refine OEnds.st (fun _ k => XS.iload X1057.here hx rfl (hb hby at_97) rfl k) ?_
    show OEnds p.tables e below G (T1057.setTop (mkF m 99 #[.val (.int p1), .val (.int p2), .val (.int p3), .val (.int p4), .val (.int p5), .val (.int (0 : Int32)), .val (.ref b1002), .val (.ref b1014), .val (.int (1 : Int32)), .val (.ref b_1036)] [(.int (0 : Int32)), (.int (own_eq (1 : Int32) (5 : Int32))), (.int (1 : Int32))]))
    refine OEnds.st (fun _ k => XS.iconst X1057.here hx rfl (hb hby at_99) k) ?_
    show OEnds p.tables e below G (T1057.setTop (mkF m 100 #[.val (.int p1), .val (.int p2), .val (.int p3), .val (.int p4), .val (.int p5), .val (.int (0 : Int32)), .val (.ref b1002), .val (.ref b1014), .val (.int (1 : Int32)), .val (.ref b_1036)] [(.int (4 : Int32)), (.int (0 : Int32)), (.int (own_eq (1 : Int32) (5 : Int32))), (.int (1 : Int32))]))
    refine OEnds.st (fun _ k => XS.icmpYes X1057.here hx rfl (pc0 := 100) (pc' := 107) rfl (hb hby at_100) rfl (feq (by decide : ¬ ((0 : Int32) = (4 : Int32)))).2 (by decide) (by decide) k) ?_
    show OEnds p.tables e below G (T1057.setTop (mkF m 107 #[.val (.int p1), .val (.int p2), .val (.int p3), .val (.int p4), .val (.int p5), .val (.int (0 : Int32)), .val (.ref b1002), .val (.ref b1014), .val (.int (1 : Int32)), .val (.ref b_1036)] [(.int (own_eq (1 : Int32) (5 : Int32))), (.int (1 : Int32))]))
    refine OEnds.st (fun _ k => XS.iconst X1057.here hx rfl (hb hby at_107) k) ?_
    show OEnds p.tables e below G (T1057.setTop (mkF m 108 #[.val (.int p1), .val (.int p2), .val (.int p3), .val (.int p4), .val (.int p5), .val (.int (0 : Int32)), .val (.ref b1002), .val (.ref b1014), .val (.int (1 : Int32)), .val (.ref b_1036)] [(.int (0 : Int32)), (.int (own_eq (1 : Int32) (5 : Int32))), (.int (1 : Int32))]))
    have hc108_1058 : (own_eq (1 : Int32) (5 : Int32)) = (0 : Int32) := by decide
    refine OEnds.st (fun _ k => XS.icmpNo X1057.here hx rfl (hb hby at_108) rfl (teq hc108_1058).2 k) ?_
    show OEnds p.tables e below G (T1057.setTop (mkF m 111 #[.val (.int p1), .val (.int p2), .val (.int p3), .val (.int p4), .val (.int p5), .val (.int (0 : Int32)), .val (.ref b1002), .val (.ref b1014), .val (.int (1 : Int32)), .val (.ref b_1036)] [(.int (1 : Int32))]))
    refine OEnds.st (fun _ k => XS.iconst X1057.here hx rfl (hb hby at_111) k) ?_
    show OEnds p.tables e below G (T1057.setTop (mkF m 112 #[.val (.int p1), .val (.int p2), .val (.int p3), .val (.int p4), .val (.int p5), .val (.int (0 : Int32)), .val (.ref b1002), .val (.ref b1014), .val (.int (1 : Int32)), .val (.ref b_1036)] [(.int (1 : Int32)), (.int (1 : Int32))]))
    refine OEnds.st (fun _ k => XS.goto X1057.here hx rfl (pc0 := 112) (pc' := 116) rfl (hb hby at_112) (by decide) (by decide) k) ?_
    show OEnds p.tables e below G (T1057.setTop (mkF m 116 #[.val (.int p1), .val (.int p2), .val (.int p3), .val (.int p4), .val (.int p5), .val (.int (0 : Int32)), .val (.ref b1002), .val (.ref b1014), .val (.int (1 : Int32)), .val (.ref b_1036)] [(.int (1 : Int32)), (.int (1 : Int32))]))
    refine OEnds.st (fun _ k => XS.iand X1057.here hx rfl (hb hby at_116) rfl k) ?_
    show OEnds p.tables e below G (T1057.setTop (mkF m 117 #[.val (.int p1), .val (.int p2), .val (.int p3), .val (.int p4), .val (.int p5), .val (.int (0 : Int32)), .val (.ref b1002), .val (.ref b1014), .val (.int (1 : Int32)), .val (.ref b_1036)] [(.int ((1 : Int32) &&& (1 : Int32)))]))
    refine OEnds.st (fun _ k => XS.istore X1057.here hx rfl (hb hby at_117) rfl (l' := #[.val (.int p1), .val (.int p2), .val (.int p3), .val (.int p4), .val (.int p5), .val (.int (0 : Int32)), .val (.ref b1002), .val (.ref b1014), .val (.int ((1 : Int32) &&& (1 : Int32))), .val (.ref b_1036)]) rfl k) ?_
    show OEnds p.tables e below G (T1057.setTop (mkF m 119 #[.val (.int p1), .val (.int p2), .val (.int p3), .val (.int p4), .val (.int p5), .val (.int (0 : Int32)), .val (.ref b1002), .val (.ref b1014), .val (.int ((1 : Int32) &&& (1 : Int32))), .val (.ref b_1036)] []))
    rw [show ((1 : Int32) &&& (1 : Int32)) = (1 : Int32) from by decide]
    show OEnds p.tables e below G (T1057.setTop (mkF m 119 #[.val (.int p1), .val (.int p2), .val (.int p3), .val (.int p4), .val (.int p5), .val (.int (0 : Int32)), .val (.ref b1002), .val (.ref b1014), .val (.int (1 : Int32)), .val (.ref b_1036)] []))
    refine OEnds.st (fun _ k => XS.iload X1057.here hx rfl (hb hby at_119) rfl k) ?_
    show OEnds p.tables e below G (T1057.setTop (mkF m 121 #[.val (.int p1), .val (.int p2), .val (.int p3), .val (.int p4), .val (.int p5), .val (.int (0 : Int32)), .val (.ref b1002), .val (.ref b1014), .val (.int (1 : Int32)), .val (.ref b_1036)] [(.int (1 : Int32))]))
    refine OEnds.st (fun _ k => XS.aload X1057.here hx rfl (hb hby at_121) rfl rfl k) ?_
    show OEnds p.tables e below G (T1057.setTop (mkF m 123 #[.val (.int p1), .val (.int p2), .val (.int p3), .val (.int p4), .val (.int p5), .val (.int (0 : Int32)), .val (.ref b1002), .val (.ref b1014), .val (.int (1 : Int32)), .val (.ref b_1036)] [(.ref b_1036), (.int (1 : Int32))]))
    obtain ⟨cq1059, kq1059, q1059a, q1059b, q1059c⟩ := isOf hZ e1057 p1044
    obtain ⟨_, _, ⟨T1059, L1059, k1059c, n1059c⟩, -, X1059, ⟨Lc1059, hQ1059, l1059, y1059, z1059⟩, st1059⟩ := X1057.virtualBack hx (y := (⟨"com/example/nearfar/nearfar/ProtoReader", "atEnd", "()Z"⟩ : MethodName)) (z := (⟨"com/example/nearfar/nearfar/ProtoReader", "atEnd", "()Z"⟩ : MethodName)) hown (mvT hZ (hw _ (List.mem_of_getElem? (i := 22) rfl))) (mvT hZ (hw _ (List.mem_of_getElem? (i := 23) rfl))) (notFace_of_selects (args := #[]) (mvT hZ (hw _ (List.mem_of_getElem? (i := 25) rfl)))) (mvT hZ (hw _ (List.mem_of_getElem? (i := 25) rfl))) (mvT hZ (hw _ (List.mem_of_getElem? (i := 24) rfl))) (by decide) (backOf (W := 1) (rm4 l Z a0 hw [] b_1036 (1 : Int32) (1 : Int32) T1036.heap n0 Z1036 p1046 p1047) hZ (hw _ (List.mem_of_getElem? (i := 26) rfl)) (hw _ (List.mem_of_getElem? (i := 4) rfl)) (by decide) (by decide)) q1059a q1059c (g := (mkF m 123 #[.val (.int p1), .val (.int p2), .val (.int p3), .val (.int p4), .val (.int p5), .val (.int (0 : Int32)), .val (.ref b1002), .val (.ref b1014), .val (.int (1 : Int32)), .val (.ref b_1036)] [(.ref b_1036), (.int (1 : Int32))])) rfl (by rw [hml]; rfl) (Steps.refl _) (argsL := []) (rest := [(.int (1 : Int32))]) (lenOf pd_5 rfl) rfl (by show 2 * 0 + _ ≤ _; exact Nat.le_of_eq rfl) (hb hby at_123) (fun _ _ => ⟨rfl, e1057, (by decide : 0 + 1 + 1 + 0 + 0 + 1 + 0 + 0 ≤ _), (by decide : 0 + 5 + 4 + 0 + 0 + 4 + 0 + 0 ≤ _)⟩)
    dsimp only [Pt.U, Pt.locs, Pt.cells, Pt.slots] at X1059 l1059 y1059 z1059 st1059 hQ1059
    subst l1059 y1059 z1059
    obtain ⟨rfl, N1059q, e1059⟩ := hQ1059
    have N1059 := Fr.app N1057 N1059q
    refine OEnds.st (fun _ k => st1059.trans k) ?_
    show OEnds p.tables e below G (T1059.setTop (mkF m 126 #[.val (.int p1), .val (.int p2), .val (.int p3), .val (.int p4), .val (.int p5), .val (.int (0 : Int32)), .val (.ref b1002), .val (.ref b1014), .val (.int (1 : Int32)), .val (.ref b_1036)] [(.int (own_eq (1 : Int32) (1 : Int32))), (.int (1 : Int32))]))
    refine OEnds.st (fun _ k => XS.iload X1059.here hx rfl (hb hby at_126) rfl k) ?_
    show OEnds p.tables e below G (T1059.setTop (mkF m 128 #[.val (.int p1), .val (.int p2), .val (.int p3), .val (.int p4), .val (.int p5), .val (.int (0 : Int32)), .val (.ref b1002), .val (.ref b1014), .val (.int (1 : Int32)), .val (.ref b_1036)] [(.int (0 : Int32)), (.int (own_eq (1 : Int32) (1 : Int32))), (.int (1 : Int32))]))
    refine OEnds.st (fun _ k => XS.ifNo X1059.here hx rfl (hb hby at_128) rfl ((if0 _ _).trans (teq (by decide : (0 : Int32) = (0 : Int32))).2) k) ?_
    show OEnds p.tables e below G (T1059.setTop (mkF m 131 #[.val (.int p1), .val (.int p2), .val (.int p3), .val (.int p4), .val (.int p5), .val (.int (0 : Int32)), .val (.ref b1002), .val (.ref b1014), .val (.int (1 : Int32)), .val (.ref b_1036)] [(.int (own_eq (1 : Int32) (1 : Int32))), (.int (1 : Int32))]))
    refine OEnds.st (fun _ k => XS.iconst X1059.here hx rfl (hb hby at_131) k) ?_
    show OEnds p.tables e below G (T1059.setTop (mkF m 132 #[.val (.int p1), .val (.int p2), .val (.int p3), .val (.int p4), .val (.int p5), .val (.int (0 : Int32)), .val (.ref b1002), .val (.ref b1014), .val (.int (1 : Int32)), .val (.ref b_1036)] [(.int (1 : Int32)), (.int (own_eq (1 : Int32) (1 : Int32))), (.int (1 : Int32))]))
    refine OEnds.st (fun _ k => XS.goto X1059.here hx rfl (pc0 := 132) (pc' := 136) rfl (hb hby at_132) (by decide) (by decide) k) ?_
    show OEnds p.tables e below G (T1059.setTop (mkF m 136 #[.val (.int p1), .val (.int p2), .val (.int p3), .val (.int p4), .val (.int p5), .val (.int (0 : Int32)), .val (.ref b1002), .val (.ref b1014), .val (.int (1 : Int32)), .val (.ref b_1036)] [(.int (1 : Int32)), (.int (own_eq (1 : Int32) (1 : Int32))), (.int (1 : Int32))]))
    have hc136_1060 : (own_eq (1 : Int32) (1 : Int32)) = (1 : Int32) := by decide
    refine OEnds.st (fun _ k => XS.icmpNo X1059.here hx rfl (hb hby at_136) rfl (teq hc136_1060).2 k) ?_
    show OEnds p.tables e below G (T1059.setTop (mkF m 139 #[.val (.int p1), .val (.int p2), .val (.int p3), .val (.int p4), .val (.int p5), .val (.int (0 : Int32)), .val (.ref b1002), .val (.ref b1014), .val (.int (1 : Int32)), .val (.ref b_1036)] [(.int (1 : Int32))]))
    refine OEnds.st (fun _ k => XS.iconst X1059.here hx rfl (hb hby at_139) k) ?_
    show OEnds p.tables e below G (T1059.setTop (mkF m 140 #[.val (.int p1), .val (.int p2), .val (.int p3), .val (.int p4), .val (.int p5), .val (.int (0 : Int32)), .val (.ref b1002), .val (.ref b1014), .val (.int (1 : Int32)), .val (.ref b_1036)] [(.int (1 : Int32)), (.int (1 : Int32))]))
    refine OEnds.st (fun _ k => XS.goto X1059.here hx rfl (pc0 := 140) (pc' := 144) rfl (hb hby at_140) (by decide) (by decide) k) ?_
    show OEnds p.tables e below G (T1059.setTop (mkF m 144 #[.val (.int p1), .val (.int p2), .val (.int p3), .val (.int p4), .val (.int p5), .val (.int (0 : Int32)), .val (.ref b1002), .val (.ref b1014), .val (.int (1 : Int32)), .val (.ref b_1036)] [(.int (1 : Int32)), (.int (1 : Int32))]))
    refine OEnds.st (fun _ k => XS.iand X1059.here hx rfl (hb hby at_144) rfl k) ?_
    show OEnds p.tables e below G (T1059.setTop (mkF m 145 #[.val (.int p1), .val (.int p2), .val (.int p3), .val (.int p4), .val (.int p5), .val (.int (0 : Int32)), .val (.ref b1002), .val (.ref b1014), .val (.int (1 : Int32)), .val (.ref b_1036)] [(.int ((1 : Int32) &&& (1 : Int32)))]))
    refine OEnds.st (fun _ k => XS.istore X1059.here hx rfl (hb hby at_145) rfl (l' := #[.val (.int p1), .val (.int p2), .val (.int p3), .val (.int p4), .val (.int p5), .val (.int (0 : Int32)), .val (.ref b1002), .val (.ref b1014), .val (.int ((1 : Int32) &&& (1 : Int32))), .val (.ref b_1036)]) rfl k) ?_
    show OEnds p.tables e below G (T1059.setTop (mkF m 147 #[.val (.int p1), .val (.int p2), .val (.int p3), .val (.int p4), .val (.int p5), .val (.int (0 : Int32)), .val (.ref b1002), .val (.ref b1014), .val (.int ((1 : Int32) &&& (1 : Int32))), .val (.ref b_1036)] []))
    rw [show ((1 : Int32) &&& (1 : Int32)) = (1 : Int32) from by decide]
    show OEnds p.tables e below G (T1059.setTop (mkF m 147 #[.val (.int p1), .val (.int p2), .val (.int p3), .val (.int p4), .val (.int p5), .val (.int (0 : Int32)), .val (.ref b1002), .val (.ref b1014), .val (.int (1 : Int32)), .val (.ref b_1036)] []))
    refine OEnds.st (fun _ k => XS.iload X1059.here hx rfl (hb hby at_147) rfl k) ?_
    show OEnds p.tables e below G (T1059.setTop (mkF m 149 #[.val (.int p1), .val (.int p2), .val (.int p3), .val (.int p4), .val (.int p5), .val (.int (0 : Int32)), .val (.ref b1002), .val (.ref b1014), .val (.int (1 : Int32)), .val (.ref b_1036)] [(.int (0 : Int32))]))
    refine OEnds.st (fun _ k => XS.iconst X1059.here hx rfl (hb hby at_149) k) ?_
    show OEnds p.tables e below G (T1059.setTop (mkF m 150 #[.val (.int p1), .val (.int p2), .val (.int p3), .val (.int p4), .val (.int p5), .val (.int (0 : Int32)), .val (.ref b1002), .val (.ref b1014), .val (.int (1 : Int32)), .val (.ref b_1036)] [(.int (1 : Int32)), (.int (0 : Int32))]))
    refine OEnds.st (fun _ k => XS.icmpYes X1059.here hx rfl (pc0 := 150) (pc' := 188) rfl (hb hby at_150) rfl (tlt (by decide : (0 : Int32) < (1 : Int32))).1 (by decide) (by decide) k) ?_
    show OEnds p.tables e below G (T1059.setTop (mkF m 188 #[.val (.int p1), .val (.int p2), .val (.int p3), .val (.int p4), .val (.int p5), .val (.int (0 : Int32)), .val (.ref b1002), .val (.ref b1014), .val (.int (1 : Int32)), .val (.ref b_1036)] []))
    refine OEnds.st (fun _ k => XS.iload X1059.here hx rfl (hb hby at_188) rfl k) ?_
    show OEnds p.tables e below G (T1059.setTop (mkF m 190 #[.val (.int p1), .val (.int p2), .val (.int p3), .val (.int p4), .val (.int p5), .val (.int (0 : Int32)), .val (.ref b1002), .val (.ref b1014), .val (.int (1 : Int32)), .val (.ref b_1036)] [(.int (0 : Int32))]))
    refine OEnds.st (fun _ k => XS.iconst X1059.here hx rfl (hb hby at_190) k) ?_
    show OEnds p.tables e below G (T1059.setTop (mkF m 191 #[.val (.int p1), .val (.int p2), .val (.int p3), .val (.int p4), .val (.int p5), .val (.int (0 : Int32)), .val (.ref b1002), .val (.ref b1014), .val (.int (1 : Int32)), .val (.ref b_1036)] [(.int (2 : Int32)), (.int (0 : Int32))]))
    refine OEnds.st (fun _ k => XS.icmpYes X1059.here hx rfl (pc0 := 191) (pc' := 229) rfl (hb hby at_191) rfl (tlt (by decide : (0 : Int32) < (2 : Int32))).1 (by decide) (by decide) k) ?_
    show OEnds p.tables e below G (T1059.setTop (mkF m 229 #[.val (.int p1), .val (.int p2), .val (.int p3), .val (.int p4), .val (.int p5), .val (.int (0 : Int32)), .val (.ref b1002), .val (.ref b1014), .val (.int (1 : Int32)), .val (.ref b_1036)] []))
    refine OEnds.st (fun _ k => XS.iload X1059.here hx rfl (hb hby at_229) rfl k) ?_
    show OEnds p.tables e below G (T1059.setTop (mkF m 231 #[.val (.int p1), .val (.int p2), .val (.int p3), .val (.int p4), .val (.int p5), .val (.int (0 : Int32)), .val (.ref b1002), .val (.ref b1014), .val (.int (1 : Int32)), .val (.ref b_1036)] [(.int (0 : Int32))]))
    refine OEnds.st (fun _ k => XS.iconst X1059.here hx rfl (hb hby at_231) k) ?_
    show OEnds p.tables e below G (T1059.setTop (mkF m 232 #[.val (.int p1), .val (.int p2), .val (.int p3), .val (.int p4), .val (.int p5), .val (.int (0 : Int32)), .val (.ref b1002), .val (.ref b1014), .val (.int (1 : Int32)), .val (.ref b_1036)] [(.int (3 : Int32)), (.int (0 : Int32))]))
    refine OEnds.st (fun _ k => XS.icmpYes X1059.here hx rfl (pc0 := 232) (pc' := 270) rfl (hb hby at_232) rfl (tlt (by decide : (0 : Int32) < (3 : Int32))).1 (by decide) (by decide) k) ?_
    show OEnds p.tables e below G (T1059.setTop (mkF m 270 #[.val (.int p1), .val (.int p2), .val (.int p3), .val (.int p4), .val (.int p5), .val (.int (0 : Int32)), .val (.ref b1002), .val (.ref b1014), .val (.int (1 : Int32)), .val (.ref b_1036)] []))
    refine OEnds.st (fun _ k => XS.iload X1059.here hx rfl (hb hby at_270) rfl k) ?_
    show OEnds p.tables e below G (T1059.setTop (mkF m 272 #[.val (.int p1), .val (.int p2), .val (.int p3), .val (.int p4), .val (.int p5), .val (.int (0 : Int32)), .val (.ref b1002), .val (.ref b1014), .val (.int (1 : Int32)), .val (.ref b_1036)] [(.int (1 : Int32))]))
    rw [← hG]
    refine OEnds.retZ X1059 hx hlk Bd.returns rfl (hb hby at_272) (by decide) (by decide) ?_
    rw [e1059]
    exact ⟨rfl, N1059⟩
  · -- 1
    rw [hi]
    show OEnds p.tables e below G (s₁.setTop (mkF m 8 #[.val (.int p1), .val (.int p2), .val (.int p3), .val (.int p4), .val (.int p5), .val (.int (1 : Int32)), .unset, .unset, .unset, .unset] []))
    refine OEnds.st (fun _ k => XS.iconst X0.here hx rfl (hb hby at_8) k) ?_
    show OEnds p.tables e below G (s₁.setTop (mkF m 9 #[.val (.int p1), .val (.int p2), .val (.int p3), .val (.int p4), .val (.int p5), .val (.int (1 : Int32)), .unset, .unset, .unset, .unset] [(.int (5 : Int32))]))
    obtain ⟨T1061, h1061, k1061, X1061, e1061, E1061, A1061, st1061⟩ := newP X0 hx hZ (hw _ (List.mem_of_getElem? (i := 1) rfl)) e0 (g := (mkF m 9 #[.val (.int p1), .val (.int p2), .val (.int p3), .val (.int p4), .val (.int p5), .val (.int (1 : Int32)), .unset, .unset, .unset, .unset] [(.int (5 : Int32))])) rfl (hb hby at_9) rfl (by decide) (cap := 5) (by decide) (by decide) (by decide) (by decide)
    obtain ⟨b1061, g1061⟩ : ∃ z, z = h0.size := ⟨_, rfl⟩
    rw [← g1061] at A1061 st1061
    refine OEnds.st st1061 ?_
    have ge_b1061 : n0 ≤ b1061 := Nat.le_trans Z0 (Nat.le_of_eq g1061.symm)
    have sz_b1061 : h0.size ≤ b1061 := Nat.le_trans KK0.1 (Nat.le_of_eq g1061.symm)
    have KK1061 : Keep h0 h1061 [] := KK0.ext E1061
    have Z1061 := Nat.le_trans Z0 E1061.1
    have f1062 : Arv Z h1061 b1061 k1061 .byte (5 : Int32) [(.int (0 : Int32)), (.int (0 : Int32)), (.int (0 : Int32)), (.int (0 : Int32)), (.int (0 : Int32))] (.int (0 : Int32)) := (Arv.new A1061 (by decide)).pad (pad_rep [] (.int (0 : Int32)) 5)
    show OEnds p.tables e below G (T1061.setTop (mkF m 11 #[.val (.int p1), .val (.int p2), .val (.int p3), .val (.int p4), .val (.int p5), .val (.int (1 : Int32)), .unset, .unset, .unset, .unset] [(.ref b1061)]))
    refine OEnds.st (fun _ k => XS.astore X1061.here hx rfl (hb hby at_11) rfl rfl (l' := #[.val (.int p1), .val (.int p2), .val (.int p3), .val (.int p4), .val (.int p5), .val (.int (1 : Int32)), .val (.ref b1061), .unset, .unset, .unset]) rfl k) ?_
    show OEnds p.tables e below G (T1061.setTop (mkF m 13 #[.val (.int p1), .val (.int p2), .val (.int p3), .val (.int p4), .val (.int p5), .val (.int (1 : Int32)), .val (.ref b1061), .unset, .unset, .unset] []))
    refine OEnds.st (fun _ k => XS.aload X1061.here hx rfl (hb hby at_13) rfl rfl k) ?_
    show OEnds p.tables e below G (T1061.setTop (mkF m 15 #[.val (.int p1), .val (.int p2), .val (.int p3), .val (.int p4), .val (.int p5), .val (.int (1 : Int32)), .val (.ref b1061), .unset, .unset, .unset] [(.ref b1061)]))
    refine OEnds.st (fun _ k => XS.iconst X1061.here hx rfl (hb hby at_15) k) ?_
    show OEnds p.tables e below G (T1061.setTop (mkF m 16 #[.val (.int p1), .val (.int p2), .val (.int p3), .val (.int p4), .val (.int p5), .val (.int (1 : Int32)), .val (.ref b1061), .unset, .unset, .unset] [(.int (0 : Int32)), (.ref b1061)]))
    refine OEnds.st (fun _ k => XS.iload X1061.here hx rfl (hb hby at_16) rfl k) ?_
    show OEnds p.tables e below G (T1061.setTop (mkF m 18 #[.val (.int p1), .val (.int p2), .val (.int p3), .val (.int p4), .val (.int p5), .val (.int (1 : Int32)), .val (.ref b1061), .unset, .unset, .unset] [(.int (1 : Int32)), (.int (0 : Int32)), (.ref b1061)]))
    refine OEnds.st (fun _ k => XS.i2b X1061.here hx rfl (hb hby at_18) rfl k) ?_
    show OEnds p.tables e below G (T1061.setTop (mkF m 19 #[.val (.int p1), .val (.int p2), .val (.int p3), .val (.int p4), .val (.int p5), .val (.int (1 : Int32)), .val (.ref b1061), .unset, .unset, .unset] [(.int ((1 : Int32).toInt8.toInt32)), (.int (0 : Int32)), (.ref b1061)]))
    obtain ⟨cl1063, Ar1063, q1063, S1063, N1063n, H1063, G1063⟩ := id f1062
    have hin1063 : ¬ ((0 : Int32) < 0 ∨ cl1063.slots.size ≤ ((0 : Int32)).toNatClampNeg) := inb_of S1063 ⟨by decide, by decide⟩
    obtain ⟨T1063, h1063, X1063, e1063, W1063, st1063⟩ := stB X1061 hx hZ e1061 Ar1063 (j := (0 : Int32)) hin1063 (g := (mkF m 19 #[.val (.int p1), .val (.int p2), .val (.int p3), .val (.int p4), .val (.int p5), .val (.int (1 : Int32)), .val (.ref b1061), .unset, .unset, .unset] [(.int ((1 : Int32).toInt8.toInt32)), (.int (0 : Int32)), (.ref b1061)])) rfl rfl (hb hby at_19)
    refine OEnds.st st1063 ?_
    rw [own_b8] at W1063
    have f1064 : Arv Z h1063 b1061 k1061 .byte (5 : Int32) [(.int ((1 : Int32).toInt8.toInt32)), (.int (0 : Int32)), (.int (0 : Int32)), (.int (0 : Int32)), (.int (0 : Int32))] (.int (0 : Int32)) := Arv.set Ar1063 q1063 S1063 N1063n H1063 G1063 (fits_nar_byte _) W1063 0 rfl (Nat.le_of_ble_eq_true rfl)
    have N1063 := Fr.snoc X1063 N0 ge_b1061
    have KK1063 : Keep h0 h1063 [] := KK1061.wr W1063 (Or.inr sz_b1061)
    have Z1063 := Nat.le_trans Z1061 (Keep.of_wr W1063).1
    show OEnds p.tables e below G (T1063.setTop (mkF m 20 #[.val (.int p1), .val (.int p2), .val (.int p3), .val (.int p4), .val (.int p5), .val (.int (1 : Int32)), .val (.ref b1061), .unset, .unset, .unset] []))
    refine OEnds.st (fun _ k => XS.aload X1063.here hx rfl (hb hby at_20) rfl rfl k) ?_
    show OEnds p.tables e below G (T1063.setTop (mkF m 22 #[.val (.int p1), .val (.int p2), .val (.int p3), .val (.int p4), .val (.int p5), .val (.int (1 : Int32)), .val (.ref b1061), .unset, .unset, .unset] [(.ref b1061)]))
    refine OEnds.st (fun _ k => XS.iconst X1063.here hx rfl (hb hby at_22) k) ?_
    show OEnds p.tables e below G (T1063.setTop (mkF m 23 #[.val (.int p1), .val (.int p2), .val (.int p3), .val (.int p4), .val (.int p5), .val (.int (1 : Int32)), .val (.ref b1061), .unset, .unset, .unset] [(.int (1 : Int32)), (.ref b1061)]))
    refine OEnds.st (fun _ k => XS.iloadN X1063.here hx rfl (hb hby at_23) rfl k) ?_
    show OEnds p.tables e below G (T1063.setTop (mkF m 24 #[.val (.int p1), .val (.int p2), .val (.int p3), .val (.int p4), .val (.int p5), .val (.int (1 : Int32)), .val (.ref b1061), .unset, .unset, .unset] [(.int p2), (.int (1 : Int32)), (.ref b1061)]))
    refine OEnds.st (fun _ k => XS.bipush X1063.here hx rfl (hb hby at_24) k) ?_
    show OEnds p.tables e below G (T1063.setTop (mkF m 26 #[.val (.int p1), .val (.int p2), .val (.int p3), .val (.int p4), .val (.int p5), .val (.int (1 : Int32)), .val (.ref b1061), .unset, .unset, .unset] [(.int (127 : Int32)), (.int p2), (.int (1 : Int32)), (.ref b1061)]))
    refine OEnds.st (fun _ k => XS.iand X1063.here hx rfl (hb hby at_26) rfl k) ?_
    show OEnds p.tables e below G (T1063.setTop (mkF m 27 #[.val (.int p1), .val (.int p2), .val (.int p3), .val (.int p4), .val (.int p5), .val (.int (1 : Int32)), .val (.ref b1061), .unset, .unset, .unset] [(.int (p2 &&& (127 : Int32))), (.int (1 : Int32)), (.ref b1061)]))
    refine OEnds.st (fun _ k => XS.i2b X1063.here hx rfl (hb hby at_27) rfl k) ?_
    show OEnds p.tables e below G (T1063.setTop (mkF m 28 #[.val (.int p1), .val (.int p2), .val (.int p3), .val (.int p4), .val (.int p5), .val (.int (1 : Int32)), .val (.ref b1061), .unset, .unset, .unset] [(.int ((p2 &&& (127 : Int32)).toInt8.toInt32)), (.int (1 : Int32)), (.ref b1061)]))
    obtain ⟨cl1065, Ar1065, q1065, S1065, N1065n, H1065, G1065⟩ := id f1064
    have hin1065 : ¬ ((1 : Int32) < 0 ∨ cl1065.slots.size ≤ ((1 : Int32)).toNatClampNeg) := inb_of S1065 ⟨by decide, by decide⟩
    obtain ⟨T1065, h1065, X1065, e1065, W1065, st1065⟩ := stB X1063 hx hZ e1063 Ar1065 (j := (1 : Int32)) hin1065 (g := (mkF m 28 #[.val (.int p1), .val (.int p2), .val (.int p3), .val (.int p4), .val (.int p5), .val (.int (1 : Int32)), .val (.ref b1061), .unset, .unset, .unset] [(.int ((p2 &&& (127 : Int32)).toInt8.toInt32)), (.int (1 : Int32)), (.ref b1061)])) rfl rfl (hb hby at_28)
    refine OEnds.st st1065 ?_
    rw [own_b8] at W1065
    have f1066 : Arv Z h1065 b1061 k1061 .byte (5 : Int32) [(.int ((1 : Int32).toInt8.toInt32)), (.int ((p2 &&& (127 : Int32)).toInt8.toInt32)), (.int (0 : Int32)), (.int (0 : Int32)), (.int (0 : Int32))] (.int (0 : Int32)) := Arv.set Ar1065 q1065 S1065 N1065n H1065 G1065 (fits_nar_byte _) W1065 1 rfl (Nat.le_of_ble_eq_true rfl)
    have N1065 := Fr.snoc X1065 N1063 ge_b1061
    have KK1065 : Keep h0 h1065 [] := KK1063.wr W1065 (Or.inr sz_b1061)
    have Z1065 := Nat.le_trans Z1063 (Keep.of_wr W1065).1
    show OEnds p.tables e below G (T1065.setTop (mkF m 29 #[.val (.int p1), .val (.int p2), .val (.int p3), .val (.int p4), .val (.int p5), .val (.int (1 : Int32)), .val (.ref b1061), .unset, .unset, .unset] []))
    refine OEnds.st (fun _ k => XS.aload X1065.here hx rfl (hb hby at_29) rfl rfl k) ?_
    show OEnds p.tables e below G (T1065.setTop (mkF m 31 #[.val (.int p1), .val (.int p2), .val (.int p3), .val (.int p4), .val (.int p5), .val (.int (1 : Int32)), .val (.ref b1061), .unset, .unset, .unset] [(.ref b1061)]))
    refine OEnds.st (fun _ k => XS.iconst X1065.here hx rfl (hb hby at_31) k) ?_
    show OEnds p.tables e below G (T1065.setTop (mkF m 32 #[.val (.int p1), .val (.int p2), .val (.int p3), .val (.int p4), .val (.int p5), .val (.int (1 : Int32)), .val (.ref b1061), .unset, .unset, .unset] [(.int (2 : Int32)), (.ref b1061)]))
    refine OEnds.st (fun _ k => XS.iloadN X1065.here hx rfl (hb hby at_32) rfl k) ?_
    show OEnds p.tables e below G (T1065.setTop (mkF m 33 #[.val (.int p1), .val (.int p2), .val (.int p3), .val (.int p4), .val (.int p5), .val (.int (1 : Int32)), .val (.ref b1061), .unset, .unset, .unset] [(.int p3), (.int (2 : Int32)), (.ref b1061)]))
    refine OEnds.st (fun _ k => XS.bipush X1065.here hx rfl (hb hby at_33) k) ?_
    show OEnds p.tables e below G (T1065.setTop (mkF m 35 #[.val (.int p1), .val (.int p2), .val (.int p3), .val (.int p4), .val (.int p5), .val (.int (1 : Int32)), .val (.ref b1061), .unset, .unset, .unset] [(.int (127 : Int32)), (.int p3), (.int (2 : Int32)), (.ref b1061)]))
    refine OEnds.st (fun _ k => XS.iand X1065.here hx rfl (hb hby at_35) rfl k) ?_
    show OEnds p.tables e below G (T1065.setTop (mkF m 36 #[.val (.int p1), .val (.int p2), .val (.int p3), .val (.int p4), .val (.int p5), .val (.int (1 : Int32)), .val (.ref b1061), .unset, .unset, .unset] [(.int (p3 &&& (127 : Int32))), (.int (2 : Int32)), (.ref b1061)]))
    refine OEnds.st (fun _ k => XS.i2b X1065.here hx rfl (hb hby at_36) rfl k) ?_
    show OEnds p.tables e below G (T1065.setTop (mkF m 37 #[.val (.int p1), .val (.int p2), .val (.int p3), .val (.int p4), .val (.int p5), .val (.int (1 : Int32)), .val (.ref b1061), .unset, .unset, .unset] [(.int ((p3 &&& (127 : Int32)).toInt8.toInt32)), (.int (2 : Int32)), (.ref b1061)]))
    obtain ⟨cl1067, Ar1067, q1067, S1067, N1067n, H1067, G1067⟩ := id f1066
    have hin1067 : ¬ ((2 : Int32) < 0 ∨ cl1067.slots.size ≤ ((2 : Int32)).toNatClampNeg) := inb_of S1067 ⟨by decide, by decide⟩
    obtain ⟨T1067, h1067, X1067, e1067, W1067, st1067⟩ := stB X1065 hx hZ e1065 Ar1067 (j := (2 : Int32)) hin1067 (g := (mkF m 37 #[.val (.int p1), .val (.int p2), .val (.int p3), .val (.int p4), .val (.int p5), .val (.int (1 : Int32)), .val (.ref b1061), .unset, .unset, .unset] [(.int ((p3 &&& (127 : Int32)).toInt8.toInt32)), (.int (2 : Int32)), (.ref b1061)])) rfl rfl (hb hby at_37)
    refine OEnds.st st1067 ?_
    rw [own_b8] at W1067
    have f1068 : Arv Z h1067 b1061 k1061 .byte (5 : Int32) [(.int ((1 : Int32).toInt8.toInt32)), (.int ((p2 &&& (127 : Int32)).toInt8.toInt32)), (.int ((p3 &&& (127 : Int32)).toInt8.toInt32)), (.int (0 : Int32)), (.int (0 : Int32))] (.int (0 : Int32)) := Arv.set Ar1067 q1067 S1067 N1067n H1067 G1067 (fits_nar_byte _) W1067 2 rfl (Nat.le_of_ble_eq_true rfl)
    have N1067 := Fr.snoc X1067 N1065 ge_b1061
    have KK1067 : Keep h0 h1067 [] := KK1065.wr W1067 (Or.inr sz_b1061)
    have Z1067 := Nat.le_trans Z1065 (Keep.of_wr W1067).1
    show OEnds p.tables e below G (T1067.setTop (mkF m 38 #[.val (.int p1), .val (.int p2), .val (.int p3), .val (.int p4), .val (.int p5), .val (.int (1 : Int32)), .val (.ref b1061), .unset, .unset, .unset] []))
    refine OEnds.st (fun _ k => XS.aload X1067.here hx rfl (hb hby at_38) rfl rfl k) ?_
    show OEnds p.tables e below G (T1067.setTop (mkF m 40 #[.val (.int p1), .val (.int p2), .val (.int p3), .val (.int p4), .val (.int p5), .val (.int (1 : Int32)), .val (.ref b1061), .unset, .unset, .unset] [(.ref b1061)]))
    refine OEnds.st (fun _ k => XS.iconst X1067.here hx rfl (hb hby at_40) k) ?_
    show OEnds p.tables e below G (T1067.setTop (mkF m 41 #[.val (.int p1), .val (.int p2), .val (.int p3), .val (.int p4), .val (.int p5), .val (.int (1 : Int32)), .val (.ref b1061), .unset, .unset, .unset] [(.int (3 : Int32)), (.ref b1061)]))
    refine OEnds.st (fun _ k => XS.iloadN X1067.here hx rfl (hb hby at_41) rfl k) ?_
    show OEnds p.tables e below G (T1067.setTop (mkF m 42 #[.val (.int p1), .val (.int p2), .val (.int p3), .val (.int p4), .val (.int p5), .val (.int (1 : Int32)), .val (.ref b1061), .unset, .unset, .unset] [(.int p4), (.int (3 : Int32)), (.ref b1061)]))
    refine OEnds.st (fun _ k => XS.bipush X1067.here hx rfl (hb hby at_42) k) ?_
    show OEnds p.tables e below G (T1067.setTop (mkF m 44 #[.val (.int p1), .val (.int p2), .val (.int p3), .val (.int p4), .val (.int p5), .val (.int (1 : Int32)), .val (.ref b1061), .unset, .unset, .unset] [(.int (127 : Int32)), (.int p4), (.int (3 : Int32)), (.ref b1061)]))
    refine OEnds.st (fun _ k => XS.iand X1067.here hx rfl (hb hby at_44) rfl k) ?_
    show OEnds p.tables e below G (T1067.setTop (mkF m 45 #[.val (.int p1), .val (.int p2), .val (.int p3), .val (.int p4), .val (.int p5), .val (.int (1 : Int32)), .val (.ref b1061), .unset, .unset, .unset] [(.int (p4 &&& (127 : Int32))), (.int (3 : Int32)), (.ref b1061)]))
    refine OEnds.st (fun _ k => XS.i2b X1067.here hx rfl (hb hby at_45) rfl k) ?_
    show OEnds p.tables e below G (T1067.setTop (mkF m 46 #[.val (.int p1), .val (.int p2), .val (.int p3), .val (.int p4), .val (.int p5), .val (.int (1 : Int32)), .val (.ref b1061), .unset, .unset, .unset] [(.int ((p4 &&& (127 : Int32)).toInt8.toInt32)), (.int (3 : Int32)), (.ref b1061)]))
    obtain ⟨cl1069, Ar1069, q1069, S1069, N1069n, H1069, G1069⟩ := id f1068
    have hin1069 : ¬ ((3 : Int32) < 0 ∨ cl1069.slots.size ≤ ((3 : Int32)).toNatClampNeg) := inb_of S1069 ⟨by decide, by decide⟩
    obtain ⟨T1069, h1069, X1069, e1069, W1069, st1069⟩ := stB X1067 hx hZ e1067 Ar1069 (j := (3 : Int32)) hin1069 (g := (mkF m 46 #[.val (.int p1), .val (.int p2), .val (.int p3), .val (.int p4), .val (.int p5), .val (.int (1 : Int32)), .val (.ref b1061), .unset, .unset, .unset] [(.int ((p4 &&& (127 : Int32)).toInt8.toInt32)), (.int (3 : Int32)), (.ref b1061)])) rfl rfl (hb hby at_46)
    refine OEnds.st st1069 ?_
    rw [own_b8] at W1069
    have f1070 : Arv Z h1069 b1061 k1061 .byte (5 : Int32) [(.int ((1 : Int32).toInt8.toInt32)), (.int ((p2 &&& (127 : Int32)).toInt8.toInt32)), (.int ((p3 &&& (127 : Int32)).toInt8.toInt32)), (.int ((p4 &&& (127 : Int32)).toInt8.toInt32)), (.int (0 : Int32))] (.int (0 : Int32)) := Arv.set Ar1069 q1069 S1069 N1069n H1069 G1069 (fits_nar_byte _) W1069 3 rfl (Nat.le_of_ble_eq_true rfl)
    have N1069 := Fr.snoc X1069 N1067 ge_b1061
    have KK1069 : Keep h0 h1069 [] := KK1067.wr W1069 (Or.inr sz_b1061)
    have Z1069 := Nat.le_trans Z1067 (Keep.of_wr W1069).1
    show OEnds p.tables e below G (T1069.setTop (mkF m 47 #[.val (.int p1), .val (.int p2), .val (.int p3), .val (.int p4), .val (.int p5), .val (.int (1 : Int32)), .val (.ref b1061), .unset, .unset, .unset] []))
    refine OEnds.st (fun _ k => XS.aload X1069.here hx rfl (hb hby at_47) rfl rfl k) ?_
    show OEnds p.tables e below G (T1069.setTop (mkF m 49 #[.val (.int p1), .val (.int p2), .val (.int p3), .val (.int p4), .val (.int p5), .val (.int (1 : Int32)), .val (.ref b1061), .unset, .unset, .unset] [(.ref b1061)]))
    refine OEnds.st (fun _ k => XS.iconst X1069.here hx rfl (hb hby at_49) k) ?_
    show OEnds p.tables e below G (T1069.setTop (mkF m 50 #[.val (.int p1), .val (.int p2), .val (.int p3), .val (.int p4), .val (.int p5), .val (.int (1 : Int32)), .val (.ref b1061), .unset, .unset, .unset] [(.int (4 : Int32)), (.ref b1061)]))
    refine OEnds.st (fun _ k => XS.iload X1069.here hx rfl (hb hby at_50) rfl k) ?_
    show OEnds p.tables e below G (T1069.setTop (mkF m 52 #[.val (.int p1), .val (.int p2), .val (.int p3), .val (.int p4), .val (.int p5), .val (.int (1 : Int32)), .val (.ref b1061), .unset, .unset, .unset] [(.int p5), (.int (4 : Int32)), (.ref b1061)]))
    refine OEnds.st (fun _ k => XS.bipush X1069.here hx rfl (hb hby at_52) k) ?_
    show OEnds p.tables e below G (T1069.setTop (mkF m 54 #[.val (.int p1), .val (.int p2), .val (.int p3), .val (.int p4), .val (.int p5), .val (.int (1 : Int32)), .val (.ref b1061), .unset, .unset, .unset] [(.int (127 : Int32)), (.int p5), (.int (4 : Int32)), (.ref b1061)]))
    refine OEnds.st (fun _ k => XS.iand X1069.here hx rfl (hb hby at_54) rfl k) ?_
    show OEnds p.tables e below G (T1069.setTop (mkF m 55 #[.val (.int p1), .val (.int p2), .val (.int p3), .val (.int p4), .val (.int p5), .val (.int (1 : Int32)), .val (.ref b1061), .unset, .unset, .unset] [(.int (p5 &&& (127 : Int32))), (.int (4 : Int32)), (.ref b1061)]))
    refine OEnds.st (fun _ k => XS.i2b X1069.here hx rfl (hb hby at_55) rfl k) ?_
    show OEnds p.tables e below G (T1069.setTop (mkF m 56 #[.val (.int p1), .val (.int p2), .val (.int p3), .val (.int p4), .val (.int p5), .val (.int (1 : Int32)), .val (.ref b1061), .unset, .unset, .unset] [(.int ((p5 &&& (127 : Int32)).toInt8.toInt32)), (.int (4 : Int32)), (.ref b1061)]))
    obtain ⟨cl1071, Ar1071, q1071, S1071, N1071n, H1071, G1071⟩ := id f1070
    have hin1071 : ¬ ((4 : Int32) < 0 ∨ cl1071.slots.size ≤ ((4 : Int32)).toNatClampNeg) := inb_of S1071 ⟨by decide, by decide⟩
    obtain ⟨T1071, h1071, X1071, e1071, W1071, st1071⟩ := stB X1069 hx hZ e1069 Ar1071 (j := (4 : Int32)) hin1071 (g := (mkF m 56 #[.val (.int p1), .val (.int p2), .val (.int p3), .val (.int p4), .val (.int p5), .val (.int (1 : Int32)), .val (.ref b1061), .unset, .unset, .unset] [(.int ((p5 &&& (127 : Int32)).toInt8.toInt32)), (.int (4 : Int32)), (.ref b1061)])) rfl rfl (hb hby at_56)
    refine OEnds.st st1071 ?_
    rw [own_b8] at W1071
    have f1072 : Arv Z h1071 b1061 k1061 .byte (5 : Int32) [(.int ((1 : Int32).toInt8.toInt32)), (.int ((p2 &&& (127 : Int32)).toInt8.toInt32)), (.int ((p3 &&& (127 : Int32)).toInt8.toInt32)), (.int ((p4 &&& (127 : Int32)).toInt8.toInt32)), (.int ((p5 &&& (127 : Int32)).toInt8.toInt32))] (.int (0 : Int32)) := Arv.set Ar1071 q1071 S1071 N1071n H1071 G1071 (fits_nar_byte _) W1071 4 rfl (Nat.le_of_ble_eq_true rfl)
    have N1071 := Fr.snoc X1071 N1069 ge_b1061
    have KK1071 : Keep h0 h1071 [] := KK1069.wr W1071 (Or.inr sz_b1061)
    have Z1071 := Nat.le_trans Z1069 (Keep.of_wr W1071).1
    show OEnds p.tables e below G (T1071.setTop (mkF m 57 #[.val (.int p1), .val (.int p2), .val (.int p3), .val (.int p4), .val (.int p5), .val (.int (1 : Int32)), .val (.ref b1061), .unset, .unset, .unset] []))
    obtain ⟨T1073, h1073, X1073, e1073, E1073, A1073, D1073, -, st1073⟩ := newO X1071 hx hZ hown (hw _ (List.mem_of_getElem? (i := 2) rfl)) (hw _ (List.mem_of_getElem? (i := 3) rfl)) (hw _ (List.mem_of_getElem? (i := 4) rfl)) e1071 (g := (mkF m 57 #[.val (.int p1), .val (.int p2), .val (.int p3), .val (.int p4), .val (.int p5), .val (.int (1 : Int32)), .val (.ref b1061), .unset, .unset, .unset] [])) rfl (hb hby at_57) (by decide) (by decide)
    obtain ⟨b1073, g1073⟩ : ∃ z, z = h1071.size := ⟨_, rfl⟩
    rw [← g1073] at A1073 D1073 st1073
    refine OEnds.st st1073 ?_
    have ne1074 : b1061 ≠ b1073 := Nat.ne_of_lt (Nat.lt_of_lt_of_le (f1072).lt (Nat.le_of_eq g1073.symm))
    have ge_b1073 : n0 ≤ b1073 := Nat.le_trans Z1071 (Nat.le_of_eq g1073.symm)
    have sz_b1073 : h0.size ≤ b1073 := Nat.le_trans KK1071.1 (Nat.le_of_eq g1073.symm)
    have f1075 : Arv Z h1073 b1061 k1061 .byte (5 : Int32) [(.int ((1 : Int32).toInt8.toInt32)), (.int ((p2 &&& (127 : Int32)).toInt8.toInt32)), (.int ((p3 &&& (127 : Int32)).toInt8.toInt32)), (.int ((p4 &&& (127 : Int32)).toInt8.toInt32)), (.int ((p5 &&& (127 : Int32)).toInt8.toInt32))] (.int (0 : Int32)) := f1072.ext E1073
    have KK1073 : Keep h0 h1073 [] := KK1071.ext E1073
    have Z1073 := Nat.le_trans Z1071 E1073.1
    have ex_b1073 := A1073
    have f1076 : Fld Z h1073 b1073 "com/example/nearfar/nearfar/ProtoReader" "bytes" "[B" .null := D1073 (Or.inr (hw _ (List.mem_of_getElem? (i := 15) rfl))) (ty := (.array .byte)) (by decide)
    have f1077 : Fld Z h1073 b1073 "com/example/nearfar/nearfar/ProtoReader" "position" "I" (.int (0 : Int32)) := D1073 (Or.inl (hw _ (List.mem_of_getElem? (i := 17) rfl))) (ty := .int) (by decide)
    have f1078 : Fld Z h1073 b1073 "com/example/nearfar/nearfar/ProtoReader" "end" "I" (.int (0 : Int32)) := D1073 (Or.inr (hw _ (List.mem_of_getElem? (i := 19) rfl))) (ty := .int) (by decide)
    have f1079 : Fld Z h1073 b1073 "com/example/nearfar/nearfar/ProtoReader" "depth" "I" (.int (0 : Int32)) := D1073 (Or.inr (hw _ (List.mem_of_getElem? (i := 21) rfl))) (ty := .int) (by decide)
    show OEnds p.tables e below G (T1073.setTop (mkF m 60 #[.val (.int p1), .val (.int p2), .val (.int p3), .val (.int p4), .val (.int p5), .val (.int (1 : Int32)), .val (.ref b1061), .unset, .unset, .unset] [(.ref b1073)]))
    refine OEnds.st (fun _ k => XS.dup X1073.here hx rfl (hb hby at_60) rfl rfl k) ?_
    show OEnds p.tables e below G (T1073.setTop (mkF m 61 #[.val (.int p1), .val (.int p2), .val (.int p3), .val (.int p4), .val (.int p5), .val (.int (1 : Int32)), .val (.ref b1061), .unset, .unset, .unset] [(.ref b1073), (.ref b1073)]))
    refine OEnds.st (fun _ k => XS.aload X1073.here hx rfl (hb hby at_61) rfl rfl k) ?_
    show OEnds p.tables e below G (T1073.setTop (mkF m 63 #[.val (.int p1), .val (.int p2), .val (.int p3), .val (.int p4), .val (.int p5), .val (.int (1 : Int32)), .val (.ref b1061), .unset, .unset, .unset] [(.ref b1061), (.ref b1073), (.ref b1073)]))
    obtain ⟨_, _, ⟨T1080, L1080, k1080c, n1080c⟩, -, X1080, ⟨Lc1080, hQ1080, l1080, y1080, z1080⟩, st1080⟩ := X1073.specialBack hx (y := (⟨"com/example/nearfar/nearfar/ProtoReader", "<init>", "([B)V"⟩ : MethodName)) rfl hown (mvT hZ (hw _ (List.mem_of_getElem? (i := 5) rfl))) (mvT hZ (hw _ (List.mem_of_getElem? (i := 6) rfl))) (mvT hZ (hw _ (List.mem_of_getElem? (i := 7) rfl))) (by decide) (backOf (W := 1) (rm1 l Z a0 hw [] b1073 b1061 k1061 (5 : Int32) ([(.int ((1 : Int32).toInt8.toInt32)), (.int ((p2 &&& (127 : Int32)).toInt8.toInt32)), (.int ((p3 &&& (127 : Int32)).toInt8.toInt32)), (.int ((p4 &&& (127 : Int32)).toInt8.toInt32)), (.int ((p5 &&& (127 : Int32)).toInt8.toInt32))]) (.int (0 : Int32)) h1073 n0 Z1073 ex_b1073 f1076 f1077 f1078 f1079 f1075 ge_b1073 ne1074) hZ (hw _ (List.mem_of_getElem? (i := 7) rfl)) (hw _ (List.mem_of_getElem? (i := 4) rfl)) (by decide) (by decide)) (g := (mkF m 63 #[.val (.int p1), .val (.int p2), .val (.int p3), .val (.int p4), .val (.int p5), .val (.int (1 : Int32)), .val (.ref b1061), .unset, .unset, .unset] [(.ref b1061), (.ref b1073), (.ref b1073)])) rfl (by rw [hml]; rfl) (Steps.refl _) (a := b1073) (argsL := [(.ref b1061)]) (rest := [(.ref b1073)]) (lenOf pd_4 rfl) rfl (by show 2 * 0 + _ ≤ _; exact Nat.le_of_eq rfl) (hb hby at_63) (fun _ _ => ⟨rfl, e1073, (by decide : 0 + 1 + 1 + 0 ≤ _), (by decide : 0 + 5 + 4 + 0 ≤ _)⟩)
    dsimp only [Pt.U, Pt.locs, Pt.cells, Pt.slots] at X1080 l1080 y1080 z1080 st1080 hQ1080
    subst l1080 y1080 z1080
    obtain ⟨rfl, N1080q, p1081, p1082, p1083, p1084, p1085, p1086⟩ := hQ1080
    have N1080 := Fr.app N1071 N1080q
    refine OEnds.st (fun _ k => st1080.trans k) ?_
    have f1087 : Arv Z T1080.heap b1061 k1061 .byte (5 : Int32) [(.int ((1 : Int32).toInt8.toInt32)), (.int ((p2 &&& (127 : Int32)).toInt8.toInt32)), (.int ((p3 &&& (127 : Int32)).toInt8.toInt32)), (.int ((p4 &&& (127 : Int32)).toInt8.toInt32)), (.int ((p5 &&& (127 : Int32)).toInt8.toInt32))] (.int (0 : Int32)) := f1075.keep p1081 (by simp only [List.mem_cons, List.not_mem_nil, or_false, not_or]; exact ne1074)
    have f1088 : Exa Z T1080.heap b1073 "com/example/nearfar/nearfar/ProtoReader" := ex_b1073.keep p1081
    have KK1080 : Keep h0 T1080.heap [] := KK1073.trans p1081 (fun x hx => by cases List.mem_singleton.mp hx; exact Or.inr sz_b1073)
    have Z1080 := Nat.le_trans Z1073 p1081.1
    show OEnds p.tables e below G (T1080.setTop (mkF m 66 #[.val (.int p1), .val (.int p2), .val (.int p3), .val (.int p4), .val (.int p5), .val (.int (1 : Int32)), .val (.ref b1061), .unset, .unset, .unset] [(.ref b1073)]))
    refine OEnds.st (fun _ k => XS.astore X1080.here hx rfl (hb hby at_66) rfl rfl (l' := #[.val (.int p1), .val (.int p2), .val (.int p3), .val (.int p4), .val (.int p5), .val (.int (1 : Int32)), .val (.ref b1061), .val (.ref b1073), .unset, .unset]) rfl k) ?_
    show OEnds p.tables e below G (T1080.setTop (mkF m 68 #[.val (.int p1), .val (.int p2), .val (.int p3), .val (.int p4), .val (.int p5), .val (.int (1 : Int32)), .val (.ref b1061), .val (.ref b1073), .unset, .unset] []))
    refine OEnds.st (fun _ k => XS.aload X1080.here hx rfl (hb hby at_68) rfl rfl k) ?_
    show OEnds p.tables e below G (T1080.setTop (mkF m 70 #[.val (.int p1), .val (.int p2), .val (.int p3), .val (.int p4), .val (.int p5), .val (.int (1 : Int32)), .val (.ref b1061), .val (.ref b1073), .unset, .unset] [(.ref b1073)]))
    obtain ⟨cq1093, kq1093, q1093a, q1093b, q1093c⟩ := isOf hZ rfl p1082
    obtain ⟨_, _, ⟨T1093, L1093, k1093c, n1093c⟩, -, X1093, ⟨Lc1093, hQ1093, l1093, y1093, z1093⟩, st1093⟩ := X1080.virtualBack hx (y := (⟨"com/example/nearfar/nearfar/ProtoReader", "atEnd", "()Z"⟩ : MethodName)) (z := (⟨"com/example/nearfar/nearfar/ProtoReader", "atEnd", "()Z"⟩ : MethodName)) hown (mvT hZ (hw _ (List.mem_of_getElem? (i := 22) rfl))) (mvT hZ (hw _ (List.mem_of_getElem? (i := 23) rfl))) (notFace_of_selects (args := #[]) (mvT hZ (hw _ (List.mem_of_getElem? (i := 25) rfl)))) (mvT hZ (hw _ (List.mem_of_getElem? (i := 25) rfl))) (mvT hZ (hw _ (List.mem_of_getElem? (i := 24) rfl))) (by decide) (backOf (W := 0) (rm4 l Z a0 hw [] b1073 (0 : Int32) (5 : Int32) T1080.heap n0 Z1080 p1084 p1085) hZ (hw _ (List.mem_of_getElem? (i := 26) rfl)) (hw _ (List.mem_of_getElem? (i := 4) rfl)) (by decide) (by decide)) q1093a q1093c (g := (mkF m 70 #[.val (.int p1), .val (.int p2), .val (.int p3), .val (.int p4), .val (.int p5), .val (.int (1 : Int32)), .val (.ref b1061), .val (.ref b1073), .unset, .unset] [(.ref b1073)])) rfl (by rw [hml]; rfl) (Steps.refl _) (argsL := []) (rest := []) (lenOf pd_5 rfl) rfl (by show 2 * 0 + _ ≤ _; exact Nat.le_of_eq rfl) (hb hby at_70) (fun _ _ => ⟨rfl, rfl, (by decide : 0 + 1 + 1 + 0 + 0 ≤ _), (by decide : 0 + 5 + 4 + 0 + 0 ≤ _)⟩)
    dsimp only [Pt.U, Pt.locs, Pt.cells, Pt.slots] at X1093 l1093 y1093 z1093 st1093 hQ1093
    subst l1093 y1093 z1093
    obtain ⟨rfl, N1093q, e1093⟩ := hQ1093
    have N1093 := Fr.app N1080 N1093q
    refine OEnds.st (fun _ k => st1093.trans k) ?_
    show OEnds p.tables e below G (T1093.setTop (mkF m 73 #[.val (.int p1), .val (.int p2), .val (.int p3), .val (.int p4), .val (.int p5), .val (.int (1 : Int32)), .val (.ref b1061), .val (.ref b1073), .unset, .unset] [(.int (own_eq (0 : Int32) (5 : Int32)))]))
    have hc73_1094 : (own_eq (0 : Int32) (5 : Int32)) = (0 : Int32) := by decide
    refine OEnds.st (fun _ k => XS.ifNo X1093.here hx rfl (hb hby at_73) rfl ((if0 _ _).trans (teq hc73_1094).2) k) ?_
    show OEnds p.tables e below G (T1093.setTop (mkF m 76 #[.val (.int p1), .val (.int p2), .val (.int p3), .val (.int p4), .val (.int p5), .val (.int (1 : Int32)), .val (.ref b1061), .val (.ref b1073), .unset, .unset] []))
    refine OEnds.st (fun _ k => XS.iconst X1093.here hx rfl (hb hby at_76) k) ?_
    show OEnds p.tables e below G (T1093.setTop (mkF m 77 #[.val (.int p1), .val (.int p2), .val (.int p3), .val (.int p4), .val (.int p5), .val (.int (1 : Int32)), .val (.ref b1061), .val (.ref b1073), .unset, .unset] [(.int (1 : Int32))]))
    refine OEnds.st (fun _ k => XS.goto X1093.here hx rfl (pc0 := 77) (pc' := 81) rfl (hb hby at_77) (by decide) (by decide) k) ?_
    show OEnds p.tables e below G (T1093.setTop (mkF m 81 #[.val (.int p1), .val (.int p2), .val (.int p3), .val (.int p4), .val (.int p5), .val (.int (1 : Int32)), .val (.ref b1061), .val (.ref b1073), .unset, .unset] [(.int (1 : Int32))]))
    refine OEnds.st (fun _ k => XS.istore X1093.here hx rfl (hb hby at_81) rfl (l' := #[.val (.int p1), .val (.int p2), .val (.int p3), .val (.int p4), .val (.int p5), .val (.int (1 : Int32)), .val (.ref b1061), .val (.ref b1073), .val (.int (1 : Int32)), .unset]) rfl k) ?_
    show OEnds p.tables e below G (T1093.setTop (mkF m 83 #[.val (.int p1), .val (.int p2), .val (.int p3), .val (.int p4), .val (.int p5), .val (.int (1 : Int32)), .val (.ref b1061), .val (.ref b1073), .val (.int (1 : Int32)), .unset] []))
    refine OEnds.st (fun _ k => XS.aload X1093.here hx rfl (hb hby at_83) rfl rfl k) ?_
    show OEnds p.tables e below G (T1093.setTop (mkF m 85 #[.val (.int p1), .val (.int p2), .val (.int p3), .val (.int p4), .val (.int p5), .val (.int (1 : Int32)), .val (.ref b1061), .val (.ref b1073), .val (.int (1 : Int32)), .unset] [(.ref b1073)]))
    obtain ⟨cq1095, kq1095, q1095a, q1095b, q1095c⟩ := isOf hZ e1093 p1082
    obtain ⟨_, _, ⟨T1095, L1095, k1095c, n1095c⟩, -, X1095, ⟨Lc1095, hQ1095, l1095, y1095, z1095⟩, st1095⟩ := X1093.virtualBack hx (y := (⟨"com/example/nearfar/nearfar/ProtoReader", "embedded", "()Lcom/example/nearfar/nearfar/ProtoReader;"⟩ : MethodName)) (z := (⟨"com/example/nearfar/nearfar/ProtoReader", "embedded", "()Lcom/example/nearfar/nearfar/ProtoReader;"⟩ : MethodName)) hown (mvT hZ (hw _ (List.mem_of_getElem? (i := 27) rfl))) (mvT hZ (hw _ (List.mem_of_getElem? (i := 28) rfl))) (notFace_of_selects (args := #[]) (mvT hZ (hw _ (List.mem_of_getElem? (i := 30) rfl)))) (mvT hZ (hw _ (List.mem_of_getElem? (i := 30) rfl))) (mvT hZ (hw _ (List.mem_of_getElem? (i := 29) rfl))) (by decide) (backOf (W := 0) (rm5 l Z a0 hw [] b1073 b1061 (0 : Int32) (5 : Int32) (0 : Int32) k1061 (5 : Int32) ([(.int ((1 : Int32).toInt8.toInt32)), (.int ((p2 &&& (127 : Int32)).toInt8.toInt32)), (.int ((p3 &&& (127 : Int32)).toInt8.toInt32)), (.int ((p4 &&& (127 : Int32)).toInt8.toInt32)), (.int ((p5 &&& (127 : Int32)).toInt8.toInt32))]) (.int (0 : Int32)) ((1 : Int32).toInt8.toInt32) (1 : Int32) (2 : Int32) T1080.heap n0 Z1080 p1082 p1083 p1084 p1085 p1086 f1087 ge_b1073 ne1074 (by decide) (by decide) (by decide) rfl (own_b8 _) rfl (by decide) (by decide) (by decide) (by decide)) hZ (hw _ (List.mem_of_getElem? (i := 31) rfl)) (hw _ (List.mem_of_getElem? (i := 4) rfl)) (by decide) (by decide)) q1095a q1095c (g := (mkF m 85 #[.val (.int p1), .val (.int p2), .val (.int p3), .val (.int p4), .val (.int p5), .val (.int (1 : Int32)), .val (.ref b1061), .val (.ref b1073), .val (.int (1 : Int32)), .unset] [(.ref b1073)])) rfl (by rw [hml]; rfl) (Steps.refl _) (argsL := []) (rest := []) (lenOf pd_6 rfl) rfl (by show 2 * 0 + _ ≤ _; exact Nat.le_of_eq rfl) (hb hby at_85) (fun _ _ => ⟨rfl, e1093, (by decide : 0 + 1 + 1 + 0 + 0 + 1 ≤ _), (by decide : 0 + 5 + 4 + 0 + 0 + 4 ≤ _)⟩)
    dsimp only [Pt.U, Pt.locs, Pt.cells, Pt.slots] at X1095 l1095 y1095 z1095 st1095 hQ1095
    subst l1095 y1095 z1095
    obtain ⟨b_1095, rfl, N1095q, p1096, p1097, p1098, p1099, p1100, p1101, p1102, p1103, p1104, p1105, p1106, p1107⟩ := hQ1095
    have N1095 := Fr.app N1093 N1095q
    refine OEnds.st (fun _ k => st1095.trans k) ?_
    have ne1108 : b1061 ≠ b_1095 := Nat.ne_of_lt (Nat.lt_of_lt_of_le (f1087).lt p1097)
    have ne1109 : b1073 ≠ b_1095 := Nat.ne_of_lt (Nat.lt_of_lt_of_le (p1082).lt p1097)
    have sz_b_1095 : h0.size ≤ b_1095 := Nat.le_trans KK1080.1 p1097
    have ge_b_1095 : n0 ≤ b_1095 := Nat.le_trans Z1080 p1097
    have f1110 : Arv Z T1095.heap b1061 k1061 .byte (5 : Int32) [(.int ((1 : Int32).toInt8.toInt32)), (.int ((p2 &&& (127 : Int32)).toInt8.toInt32)), (.int ((p3 &&& (127 : Int32)).toInt8.toInt32)), (.int ((p4 &&& (127 : Int32)).toInt8.toInt32)), (.int ((p5 &&& (127 : Int32)).toInt8.toInt32))] (.int (0 : Int32)) := f1087.keep p1096 (by simp only [List.mem_cons, List.not_mem_nil, or_false, not_or]; exact ne1074)
    have f1111 : Exa Z T1095.heap b1073 "com/example/nearfar/nearfar/ProtoReader" := p1082.keep p1096
    have KK1095 : Keep h0 T1095.heap [] := KK1080.trans p1096 (fun x hx => by cases List.mem_singleton.mp hx; exact Or.inr sz_b1073)
    have Z1095 := Nat.le_trans Z1080 p1096.1
    show OEnds p.tables e below G (T1095.setTop (mkF m 88 #[.val (.int p1), .val (.int p2), .val (.int p3), .val (.int p4), .val (.int p5), .val (.int (1 : Int32)), .val (.ref b1061), .val (.ref b1073), .val (.int (1 : Int32)), .unset] [(.ref b_1095)]))
    refine OEnds.st (fun _ k => XS.astore X1095.here hx rfl (hb hby at_88) rfl rfl (l' := #[.val (.int p1), .val (.int p2), .val (.int p3), .val (.int p4), .val (.int p5), .val (.int (1 : Int32)), .val (.ref b1061), .val (.ref b1073), .val (.int (1 : Int32)), .val (.ref b_1095)]) rfl k) ?_
    show OEnds p.tables e below G (T1095.setTop (mkF m 90 #[.val (.int p1), .val (.int p2), .val (.int p3), .val (.int p4), .val (.int p5), .val (.int (1 : Int32)), .val (.ref b1061), .val (.ref b1073), .val (.int (1 : Int32)), .val (.ref b_1095)] []))
    refine OEnds.st (fun _ k => XS.iload X1095.here hx rfl (hb hby at_90) rfl k) ?_
    show OEnds p.tables e below G (T1095.setTop (mkF m 92 #[.val (.int p1), .val (.int p2), .val (.int p3), .val (.int p4), .val (.int p5), .val (.int (1 : Int32)), .val (.ref b1061), .val (.ref b1073), .val (.int (1 : Int32)), .val (.ref b_1095)] [(.int (1 : Int32))]))
    refine OEnds.st (fun _ k => XS.aload X1095.here hx rfl (hb hby at_92) rfl rfl k) ?_
    show OEnds p.tables e below G (T1095.setTop (mkF m 94 #[.val (.int p1), .val (.int p2), .val (.int p3), .val (.int p4), .val (.int p5), .val (.int (1 : Int32)), .val (.ref b1061), .val (.ref b1073), .val (.int (1 : Int32)), .val (.ref b_1095)] [(.ref b1073), (.int (1 : Int32))]))
    obtain ⟨cq1116, kq1116, q1116a, q1116b, q1116c⟩ := isOf hZ rfl p1098
    obtain ⟨_, _, ⟨T1116, L1116, k1116c, n1116c⟩, -, X1116, ⟨Lc1116, hQ1116, l1116, y1116, z1116⟩, st1116⟩ := X1095.virtualBack hx (y := (⟨"com/example/nearfar/nearfar/ProtoReader", "atEnd", "()Z"⟩ : MethodName)) (z := (⟨"com/example/nearfar/nearfar/ProtoReader", "atEnd", "()Z"⟩ : MethodName)) hown (mvT hZ (hw _ (List.mem_of_getElem? (i := 22) rfl))) (mvT hZ (hw _ (List.mem_of_getElem? (i := 23) rfl))) (notFace_of_selects (args := #[]) (mvT hZ (hw _ (List.mem_of_getElem? (i := 25) rfl)))) (mvT hZ (hw _ (List.mem_of_getElem? (i := 25) rfl))) (mvT hZ (hw _ (List.mem_of_getElem? (i := 24) rfl))) (by decide) (backOf (W := 1) (rm4 l Z a0 hw [] b1073 (2 : Int32) (5 : Int32) T1095.heap n0 Z1095 p1100 p1101) hZ (hw _ (List.mem_of_getElem? (i := 26) rfl)) (hw _ (List.mem_of_getElem? (i := 4) rfl)) (by decide) (by decide)) q1116a q1116c (g := (mkF m 94 #[.val (.int p1), .val (.int p2), .val (.int p3), .val (.int p4), .val (.int p5), .val (.int (1 : Int32)), .val (.ref b1061), .val (.ref b1073), .val (.int (1 : Int32)), .val (.ref b_1095)] [(.ref b1073), (.int (1 : Int32))])) rfl (by rw [hml]; rfl) (Steps.refl _) (argsL := []) (rest := [(.int (1 : Int32))]) (lenOf pd_5 rfl) rfl (by show 2 * 0 + _ ≤ _; exact Nat.le_of_eq rfl) (hb hby at_94) (fun _ _ => ⟨rfl, rfl, (by decide : 0 + 1 + 1 + 0 + 0 + 1 + 0 ≤ _), (by decide : 0 + 5 + 4 + 0 + 0 + 4 + 0 ≤ _)⟩)
    dsimp only [Pt.U, Pt.locs, Pt.cells, Pt.slots] at X1116 l1116 y1116 z1116 st1116 hQ1116
    subst l1116 y1116 z1116
    obtain ⟨rfl, N1116q, e1116⟩ := hQ1116
    have N1116 := Fr.app N1095 N1116q
    refine OEnds.st (fun _ k => st1116.trans k) ?_
    show OEnds p.tables e below G (T1116.setTop (mkF m 97 #[.val (.int p1), .val (.int p2), .val (.int p3), .val (.int p4), .val (.int p5), .val (.int (1 : Int32)), .val (.ref b1061), .val (.ref b1073), .val (.int (1 : Int32)), .val (.ref b_1095)] [(.int (own_eq (2 : Int32) (5 : Int32))), (.int (1 : Int32))]))
    refine OEnds.st (fun _ k => XS.iload X1116.here hx rfl (hb hby at_97) rfl k) ?_
    show OEnds p.tables e below G (T1116.setTop (mkF m 99 #[.val (.int p1), .val (.int p2), .val (.int p3), .val (.int p4), .val (.int p5), .val (.int (1 : Int32)), .val (.ref b1061), .val (.ref b1073), .val (.int (1 : Int32)), .val (.ref b_1095)] [(.int (1 : Int32)), (.int (own_eq (2 : Int32) (5 : Int32))), (.int (1 : Int32))]))
    refine OEnds.st (fun _ k => XS.iconst X1116.here hx rfl (hb hby at_99) k) ?_
    show OEnds p.tables e below G (T1116.setTop (mkF m 100 #[.val (.int p1), .val (.int p2), .val (.int p3), .val (.int p4), .val (.int p5), .val (.int (1 : Int32)), .val (.ref b1061), .val (.ref b1073), .val (.int (1 : Int32)), .val (.ref b_1095)] [(.int (4 : Int32)), (.int (1 : Int32)), (.int (own_eq (2 : Int32) (5 : Int32))), (.int (1 : Int32))]))
    refine OEnds.st (fun _ k => XS.icmpYes X1116.here hx rfl (pc0 := 100) (pc' := 107) rfl (hb hby at_100) rfl (feq (by decide : ¬ ((1 : Int32) = (4 : Int32)))).2 (by decide) (by decide) k) ?_
    show OEnds p.tables e below G (T1116.setTop (mkF m 107 #[.val (.int p1), .val (.int p2), .val (.int p3), .val (.int p4), .val (.int p5), .val (.int (1 : Int32)), .val (.ref b1061), .val (.ref b1073), .val (.int (1 : Int32)), .val (.ref b_1095)] [(.int (own_eq (2 : Int32) (5 : Int32))), (.int (1 : Int32))]))
    refine OEnds.st (fun _ k => XS.iconst X1116.here hx rfl (hb hby at_107) k) ?_
    show OEnds p.tables e below G (T1116.setTop (mkF m 108 #[.val (.int p1), .val (.int p2), .val (.int p3), .val (.int p4), .val (.int p5), .val (.int (1 : Int32)), .val (.ref b1061), .val (.ref b1073), .val (.int (1 : Int32)), .val (.ref b_1095)] [(.int (0 : Int32)), (.int (own_eq (2 : Int32) (5 : Int32))), (.int (1 : Int32))]))
    have hc108_1117 : (own_eq (2 : Int32) (5 : Int32)) = (0 : Int32) := by decide
    refine OEnds.st (fun _ k => XS.icmpNo X1116.here hx rfl (hb hby at_108) rfl (teq hc108_1117).2 k) ?_
    show OEnds p.tables e below G (T1116.setTop (mkF m 111 #[.val (.int p1), .val (.int p2), .val (.int p3), .val (.int p4), .val (.int p5), .val (.int (1 : Int32)), .val (.ref b1061), .val (.ref b1073), .val (.int (1 : Int32)), .val (.ref b_1095)] [(.int (1 : Int32))]))
    refine OEnds.st (fun _ k => XS.iconst X1116.here hx rfl (hb hby at_111) k) ?_
    show OEnds p.tables e below G (T1116.setTop (mkF m 112 #[.val (.int p1), .val (.int p2), .val (.int p3), .val (.int p4), .val (.int p5), .val (.int (1 : Int32)), .val (.ref b1061), .val (.ref b1073), .val (.int (1 : Int32)), .val (.ref b_1095)] [(.int (1 : Int32)), (.int (1 : Int32))]))
    refine OEnds.st (fun _ k => XS.goto X1116.here hx rfl (pc0 := 112) (pc' := 116) rfl (hb hby at_112) (by decide) (by decide) k) ?_
    show OEnds p.tables e below G (T1116.setTop (mkF m 116 #[.val (.int p1), .val (.int p2), .val (.int p3), .val (.int p4), .val (.int p5), .val (.int (1 : Int32)), .val (.ref b1061), .val (.ref b1073), .val (.int (1 : Int32)), .val (.ref b_1095)] [(.int (1 : Int32)), (.int (1 : Int32))]))
    refine OEnds.st (fun _ k => XS.iand X1116.here hx rfl (hb hby at_116) rfl k) ?_
    show OEnds p.tables e below G (T1116.setTop (mkF m 117 #[.val (.int p1), .val (.int p2), .val (.int p3), .val (.int p4), .val (.int p5), .val (.int (1 : Int32)), .val (.ref b1061), .val (.ref b1073), .val (.int (1 : Int32)), .val (.ref b_1095)] [(.int ((1 : Int32) &&& (1 : Int32)))]))
    refine OEnds.st (fun _ k => XS.istore X1116.here hx rfl (hb hby at_117) rfl (l' := #[.val (.int p1), .val (.int p2), .val (.int p3), .val (.int p4), .val (.int p5), .val (.int (1 : Int32)), .val (.ref b1061), .val (.ref b1073), .val (.int ((1 : Int32) &&& (1 : Int32))), .val (.ref b_1095)]) rfl k) ?_
    show OEnds p.tables e below G (T1116.setTop (mkF m 119 #[.val (.int p1), .val (.int p2), .val (.int p3), .val (.int p4), .val (.int p5), .val (.int (1 : Int32)), .val (.ref b1061), .val (.ref b1073), .val (.int ((1 : Int32) &&& (1 : Int32))), .val (.ref b_1095)] []))
    rw [show ((1 : Int32) &&& (1 : Int32)) = (1 : Int32) from by decide]
    show OEnds p.tables e below G (T1116.setTop (mkF m 119 #[.val (.int p1), .val (.int p2), .val (.int p3), .val (.int p4), .val (.int p5), .val (.int (1 : Int32)), .val (.ref b1061), .val (.ref b1073), .val (.int (1 : Int32)), .val (.ref b_1095)] []))
    refine OEnds.st (fun _ k => XS.iload X1116.here hx rfl (hb hby at_119) rfl k) ?_
    show OEnds p.tables e below G (T1116.setTop (mkF m 121 #[.val (.int p1), .val (.int p2), .val (.int p3), .val (.int p4), .val (.int p5), .val (.int (1 : Int32)), .val (.ref b1061), .val (.ref b1073), .val (.int (1 : Int32)), .val (.ref b_1095)] [(.int (1 : Int32))]))
    refine OEnds.st (fun _ k => XS.aload X1116.here hx rfl (hb hby at_121) rfl rfl k) ?_
    show OEnds p.tables e below G (T1116.setTop (mkF m 123 #[.val (.int p1), .val (.int p2), .val (.int p3), .val (.int p4), .val (.int p5), .val (.int (1 : Int32)), .val (.ref b1061), .val (.ref b1073), .val (.int (1 : Int32)), .val (.ref b_1095)] [(.ref b_1095), (.int (1 : Int32))]))
    obtain ⟨cq1118, kq1118, q1118a, q1118b, q1118c⟩ := isOf hZ e1116 p1103
    obtain ⟨_, _, ⟨T1118, L1118, k1118c, n1118c⟩, -, X1118, ⟨Lc1118, hQ1118, l1118, y1118, z1118⟩, st1118⟩ := X1116.virtualBack hx (y := (⟨"com/example/nearfar/nearfar/ProtoReader", "atEnd", "()Z"⟩ : MethodName)) (z := (⟨"com/example/nearfar/nearfar/ProtoReader", "atEnd", "()Z"⟩ : MethodName)) hown (mvT hZ (hw _ (List.mem_of_getElem? (i := 22) rfl))) (mvT hZ (hw _ (List.mem_of_getElem? (i := 23) rfl))) (notFace_of_selects (args := #[]) (mvT hZ (hw _ (List.mem_of_getElem? (i := 25) rfl)))) (mvT hZ (hw _ (List.mem_of_getElem? (i := 25) rfl))) (mvT hZ (hw _ (List.mem_of_getElem? (i := 24) rfl))) (by decide) (backOf (W := 1) (rm4 l Z a0 hw [] b_1095 (1 : Int32) (2 : Int32) T1095.heap n0 Z1095 p1105 p1106) hZ (hw _ (List.mem_of_getElem? (i := 26) rfl)) (hw _ (List.mem_of_getElem? (i := 4) rfl)) (by decide) (by decide)) q1118a q1118c (g := (mkF m 123 #[.val (.int p1), .val (.int p2), .val (.int p3), .val (.int p4), .val (.int p5), .val (.int (1 : Int32)), .val (.ref b1061), .val (.ref b1073), .val (.int (1 : Int32)), .val (.ref b_1095)] [(.ref b_1095), (.int (1 : Int32))])) rfl (by rw [hml]; rfl) (Steps.refl _) (argsL := []) (rest := [(.int (1 : Int32))]) (lenOf pd_5 rfl) rfl (by show 2 * 0 + _ ≤ _; exact Nat.le_of_eq rfl) (hb hby at_123) (fun _ _ => ⟨rfl, e1116, (by decide : 0 + 1 + 1 + 0 + 0 + 1 + 0 + 0 ≤ _), (by decide : 0 + 5 + 4 + 0 + 0 + 4 + 0 + 0 ≤ _)⟩)
    dsimp only [Pt.U, Pt.locs, Pt.cells, Pt.slots] at X1118 l1118 y1118 z1118 st1118 hQ1118
    subst l1118 y1118 z1118
    obtain ⟨rfl, N1118q, e1118⟩ := hQ1118
    have N1118 := Fr.app N1116 N1118q
    refine OEnds.st (fun _ k => st1118.trans k) ?_
    show OEnds p.tables e below G (T1118.setTop (mkF m 126 #[.val (.int p1), .val (.int p2), .val (.int p3), .val (.int p4), .val (.int p5), .val (.int (1 : Int32)), .val (.ref b1061), .val (.ref b1073), .val (.int (1 : Int32)), .val (.ref b_1095)] [(.int (own_eq (1 : Int32) (2 : Int32))), (.int (1 : Int32))]))
    refine OEnds.st (fun _ k => XS.iload X1118.here hx rfl (hb hby at_126) rfl k) ?_
    show OEnds p.tables e below G (T1118.setTop (mkF m 128 #[.val (.int p1), .val (.int p2), .val (.int p3), .val (.int p4), .val (.int p5), .val (.int (1 : Int32)), .val (.ref b1061), .val (.ref b1073), .val (.int (1 : Int32)), .val (.ref b_1095)] [(.int (1 : Int32)), (.int (own_eq (1 : Int32) (2 : Int32))), (.int (1 : Int32))]))
    refine OEnds.st (fun _ k => XS.ifYes X1118.here hx rfl (pc0 := 128) (pc' := 135) rfl (hb hby at_128) rfl ((if0 _ _).trans (feq (by decide : ¬ ((1 : Int32) = (0 : Int32)))).2) (by decide) (by decide) k) ?_
    show OEnds p.tables e below G (T1118.setTop (mkF m 135 #[.val (.int p1), .val (.int p2), .val (.int p3), .val (.int p4), .val (.int p5), .val (.int (1 : Int32)), .val (.ref b1061), .val (.ref b1073), .val (.int (1 : Int32)), .val (.ref b_1095)] [(.int (own_eq (1 : Int32) (2 : Int32))), (.int (1 : Int32))]))
    refine OEnds.st (fun _ k => XS.iconst X1118.here hx rfl (hb hby at_135) k) ?_
    show OEnds p.tables e below G (T1118.setTop (mkF m 136 #[.val (.int p1), .val (.int p2), .val (.int p3), .val (.int p4), .val (.int p5), .val (.int (1 : Int32)), .val (.ref b1061), .val (.ref b1073), .val (.int (1 : Int32)), .val (.ref b_1095)] [(.int (0 : Int32)), (.int (own_eq (1 : Int32) (2 : Int32))), (.int (1 : Int32))]))
    have hc136_1119 : (own_eq (1 : Int32) (2 : Int32)) = (0 : Int32) := by decide
    refine OEnds.st (fun _ k => XS.icmpNo X1118.here hx rfl (hb hby at_136) rfl (teq hc136_1119).2 k) ?_
    show OEnds p.tables e below G (T1118.setTop (mkF m 139 #[.val (.int p1), .val (.int p2), .val (.int p3), .val (.int p4), .val (.int p5), .val (.int (1 : Int32)), .val (.ref b1061), .val (.ref b1073), .val (.int (1 : Int32)), .val (.ref b_1095)] [(.int (1 : Int32))]))
    refine OEnds.st (fun _ k => XS.iconst X1118.here hx rfl (hb hby at_139) k) ?_
    show OEnds p.tables e below G (T1118.setTop (mkF m 140 #[.val (.int p1), .val (.int p2), .val (.int p3), .val (.int p4), .val (.int p5), .val (.int (1 : Int32)), .val (.ref b1061), .val (.ref b1073), .val (.int (1 : Int32)), .val (.ref b_1095)] [(.int (1 : Int32)), (.int (1 : Int32))]))
    refine OEnds.st (fun _ k => XS.goto X1118.here hx rfl (pc0 := 140) (pc' := 144) rfl (hb hby at_140) (by decide) (by decide) k) ?_
    show OEnds p.tables e below G (T1118.setTop (mkF m 144 #[.val (.int p1), .val (.int p2), .val (.int p3), .val (.int p4), .val (.int p5), .val (.int (1 : Int32)), .val (.ref b1061), .val (.ref b1073), .val (.int (1 : Int32)), .val (.ref b_1095)] [(.int (1 : Int32)), (.int (1 : Int32))]))
    refine OEnds.st (fun _ k => XS.iand X1118.here hx rfl (hb hby at_144) rfl k) ?_
    show OEnds p.tables e below G (T1118.setTop (mkF m 145 #[.val (.int p1), .val (.int p2), .val (.int p3), .val (.int p4), .val (.int p5), .val (.int (1 : Int32)), .val (.ref b1061), .val (.ref b1073), .val (.int (1 : Int32)), .val (.ref b_1095)] [(.int ((1 : Int32) &&& (1 : Int32)))]))
    refine OEnds.st (fun _ k => XS.istore X1118.here hx rfl (hb hby at_145) rfl (l' := #[.val (.int p1), .val (.int p2), .val (.int p3), .val (.int p4), .val (.int p5), .val (.int (1 : Int32)), .val (.ref b1061), .val (.ref b1073), .val (.int ((1 : Int32) &&& (1 : Int32))), .val (.ref b_1095)]) rfl k) ?_
    show OEnds p.tables e below G (T1118.setTop (mkF m 147 #[.val (.int p1), .val (.int p2), .val (.int p3), .val (.int p4), .val (.int p5), .val (.int (1 : Int32)), .val (.ref b1061), .val (.ref b1073), .val (.int ((1 : Int32) &&& (1 : Int32))), .val (.ref b_1095)] []))
    rw [show ((1 : Int32) &&& (1 : Int32)) = (1 : Int32) from by decide]
    show OEnds p.tables e below G (T1118.setTop (mkF m 147 #[.val (.int p1), .val (.int p2), .val (.int p3), .val (.int p4), .val (.int p5), .val (.int (1 : Int32)), .val (.ref b1061), .val (.ref b1073), .val (.int (1 : Int32)), .val (.ref b_1095)] []))
    refine OEnds.st (fun _ k => XS.iload X1118.here hx rfl (hb hby at_147) rfl k) ?_
    show OEnds p.tables e below G (T1118.setTop (mkF m 149 #[.val (.int p1), .val (.int p2), .val (.int p3), .val (.int p4), .val (.int p5), .val (.int (1 : Int32)), .val (.ref b1061), .val (.ref b1073), .val (.int (1 : Int32)), .val (.ref b_1095)] [(.int (1 : Int32))]))
    refine OEnds.st (fun _ k => XS.iconst X1118.here hx rfl (hb hby at_149) k) ?_
    show OEnds p.tables e below G (T1118.setTop (mkF m 150 #[.val (.int p1), .val (.int p2), .val (.int p3), .val (.int p4), .val (.int p5), .val (.int (1 : Int32)), .val (.ref b1061), .val (.ref b1073), .val (.int (1 : Int32)), .val (.ref b_1095)] [(.int (1 : Int32)), (.int (1 : Int32))]))
    refine OEnds.st (fun _ k => XS.icmpNo X1118.here hx rfl (hb hby at_150) rfl (flt (by decide : ¬ ((1 : Int32) < (1 : Int32)))).1 k) ?_
    show OEnds p.tables e below G (T1118.setTop (mkF m 153 #[.val (.int p1), .val (.int p2), .val (.int p3), .val (.int p4), .val (.int p5), .val (.int (1 : Int32)), .val (.ref b1061), .val (.ref b1073), .val (.int (1 : Int32)), .val (.ref b_1095)] []))
    refine OEnds.st (fun _ k => XS.aload X1118.here hx rfl (hb hby at_153) rfl rfl k) ?_
    show OEnds p.tables e below G (T1118.setTop (mkF m 155 #[.val (.int p1), .val (.int p2), .val (.int p3), .val (.int p4), .val (.int p5), .val (.int (1 : Int32)), .val (.ref b1061), .val (.ref b1073), .val (.int (1 : Int32)), .val (.ref b_1095)] [(.ref b_1095)]))
    obtain ⟨cq1120, kq1120, q1120a, q1120b, q1120c⟩ := isOf hZ e1118 p1103
    obtain ⟨_, _, ⟨T1120, L1120, k1120c, n1120c⟩, -, X1120, ⟨Lc1120, hQ1120, l1120, y1120, z1120⟩, st1120⟩ := X1118.virtualBack hx (y := (⟨"com/example/nearfar/nearfar/ProtoReader", "varint", "()J"⟩ : MethodName)) (z := (⟨"com/example/nearfar/nearfar/ProtoReader", "varint", "()J"⟩ : MethodName)) hown (mvT hZ (hw _ (List.mem_of_getElem? (i := 46) rfl))) (mvT hZ (hw _ (List.mem_of_getElem? (i := 37) rfl))) (notFace_of_selects (args := #[]) (mvT hZ (hw _ (List.mem_of_getElem? (i := 39) rfl)))) (mvT hZ (hw _ (List.mem_of_getElem? (i := 39) rfl))) (mvT hZ (hw _ (List.mem_of_getElem? (i := 38) rfl))) (by decide) (backOf (W := 0) (rm7 l Z a0 hw [] b_1095 b1061 (1 : Int32) (2 : Int32) (0 : Int32) k1061 (5 : Int32) ([(.int ((1 : Int32).toInt8.toInt32)), (.int ((p2 &&& (127 : Int32)).toInt8.toInt32)), (.int ((p3 &&& (127 : Int32)).toInt8.toInt32)), (.int ((p4 &&& (127 : Int32)).toInt8.toInt32)), (.int ((p5 &&& (127 : Int32)).toInt8.toInt32))]) (.int (0 : Int32)) ((p2 &&& (127 : Int32)).toInt8.toInt32) (2 : Int32) T1095.heap n0 Z1095 p1103 p1104 p1105 p1106 p1107 f1110 ge_b_1095 ne1108 (by decide) (by decide) (by decide) rfl (own_b8 _) rfl (own_nn p2)) hZ (hw _ (List.mem_of_getElem? (i := 40) rfl)) (hw _ (List.mem_of_getElem? (i := 4) rfl)) (by decide) (by decide)) q1120a q1120c (g := (mkF m 155 #[.val (.int p1), .val (.int p2), .val (.int p3), .val (.int p4), .val (.int p5), .val (.int (1 : Int32)), .val (.ref b1061), .val (.ref b1073), .val (.int (1 : Int32)), .val (.ref b_1095)] [(.ref b_1095)])) rfl (by rw [hml]; rfl) (Steps.refl _) (argsL := []) (rest := []) (lenOf pd_2 rfl) rfl (by show 2 * 0 + _ ≤ _; exact Nat.le_of_eq rfl) (hb hby at_155) (fun _ _ => ⟨rfl, e1118, (by decide : 0 + 1 + 1 + 0 + 0 + 1 + 0 + 0 + 0 ≤ _), (by decide : 0 + 5 + 4 + 0 + 0 + 4 + 0 + 0 + 0 ≤ _)⟩)
    dsimp only [Pt.U, Pt.locs, Pt.cells, Pt.slots] at X1120 l1120 y1120 z1120 st1120 hQ1120
    subst l1120 y1120 z1120
    obtain ⟨rfl, N1120q, p1121, p1122, p1123, p1124, p1125, p1126⟩ := hQ1120
    have N1120 := Fr.app N1118 N1120q
    refine OEnds.st (fun _ k => st1120.trans k) ?_
    have f1127 : Arv Z T1120.heap b1061 k1061 .byte (5 : Int32) [(.int ((1 : Int32).toInt8.toInt32)), (.int ((p2 &&& (127 : Int32)).toInt8.toInt32)), (.int ((p3 &&& (127 : Int32)).toInt8.toInt32)), (.int ((p4 &&& (127 : Int32)).toInt8.toInt32)), (.int ((p5 &&& (127 : Int32)).toInt8.toInt32))] (.int (0 : Int32)) := f1110.keep p1121 (by simp only [List.mem_cons, List.not_mem_nil, or_false, not_or]; exact ne1108)
    have f1128 : Exa Z T1120.heap b1073 "com/example/nearfar/nearfar/ProtoReader" := p1098.keep p1121
    have f1129 : Fld Z T1120.heap b1073 "com/example/nearfar/nearfar/ProtoReader" "bytes" "[B" (.ref b1061) := p1099.keep p1121 (by simp only [List.mem_cons, List.not_mem_nil, or_false, not_or]; exact ne1109)
    have f1130 : Fld Z T1120.heap b1073 "com/example/nearfar/nearfar/ProtoReader" "position" "I" (.int (2 : Int32)) := p1100.keep p1121 (by simp only [List.mem_cons, List.not_mem_nil, or_false, not_or]; exact ne1109)
    have f1131 : Fld Z T1120.heap b1073 "com/example/nearfar/nearfar/ProtoReader" "end" "I" (.int (5 : Int32)) := p1101.keep p1121 (by simp only [List.mem_cons, List.not_mem_nil, or_false, not_or]; exact ne1109)
    have f1132 : Fld Z T1120.heap b1073 "com/example/nearfar/nearfar/ProtoReader" "depth" "I" (.int (0 : Int32)) := p1102.keep p1121 (by simp only [List.mem_cons, List.not_mem_nil, or_false, not_or]; exact ne1109)
    have f1133 : Exa Z T1120.heap b_1095 "com/example/nearfar/nearfar/ProtoReader" := p1103.keep p1121
    have KK1120 : Keep h0 T1120.heap [] := KK1095.trans p1121 (fun x hx => by cases List.mem_singleton.mp hx; exact Or.inr sz_b_1095)
    have Z1120 := Nat.le_trans Z1095 p1121.1
    show OEnds p.tables e below G (T1120.setTop (mkF m 158 #[.val (.int p1), .val (.int p2), .val (.int p3), .val (.int p4), .val (.int p5), .val (.int (1 : Int32)), .val (.ref b1061), .val (.ref b1073), .val (.int (1 : Int32)), .val (.ref b_1095)] [(.long (own_vi ((p2 &&& (127 : Int32)).toInt8.toInt32)))]))
    refine OEnds.st (B := T1120.setTop (mkF m 159 #[.val (.int p1), .val (.int p2), .val (.int p3), .val (.int p4), .val (.int p5), .val (.int (1 : Int32)), .val (.ref b1061), .val (.ref b1073), .val (.int (1 : Int32)), .val (.ref b_1095)] [])) (fun _ k => ?_) ?_
    · jvm_step X1120.here [X1120.here.top, hx, (hb hby at_158), Value.category]
      exact k
    show OEnds p.tables e below G (T1120.setTop (mkF m 159 #[.val (.int p1), .val (.int p2), .val (.int p3), .val (.int p4), .val (.int p5), .val (.int (1 : Int32)), .val (.ref b1061), .val (.ref b1073), .val (.int (1 : Int32)), .val (.ref b_1095)] []))
    refine OEnds.st (fun _ k => XS.iload X1120.here hx rfl (hb hby at_159) rfl k) ?_
    show OEnds p.tables e below G (T1120.setTop (mkF m 161 #[.val (.int p1), .val (.int p2), .val (.int p3), .val (.int p4), .val (.int p5), .val (.int (1 : Int32)), .val (.ref b1061), .val (.ref b1073), .val (.int (1 : Int32)), .val (.ref b_1095)] [(.int (1 : Int32))]))
    refine OEnds.st (fun _ k => XS.aload X1120.here hx rfl (hb hby at_161) rfl rfl k) ?_
    show OEnds p.tables e below G (T1120.setTop (mkF m 163 #[.val (.int p1), .val (.int p2), .val (.int p3), .val (.int p4), .val (.int p5), .val (.int (1 : Int32)), .val (.ref b1061), .val (.ref b1073), .val (.int (1 : Int32)), .val (.ref b_1095)] [(.ref b_1095), (.int (1 : Int32))]))
    obtain ⟨cq1138, kq1138, q1138a, q1138b, q1138c⟩ := isOf hZ rfl p1122
    obtain ⟨_, _, ⟨T1138, L1138, k1138c, n1138c⟩, -, X1138, ⟨Lc1138, hQ1138, l1138, y1138, z1138⟩, st1138⟩ := X1120.virtualBack hx (y := (⟨"com/example/nearfar/nearfar/ProtoReader", "atEnd", "()Z"⟩ : MethodName)) (z := (⟨"com/example/nearfar/nearfar/ProtoReader", "atEnd", "()Z"⟩ : MethodName)) hown (mvT hZ (hw _ (List.mem_of_getElem? (i := 22) rfl))) (mvT hZ (hw _ (List.mem_of_getElem? (i := 23) rfl))) (notFace_of_selects (args := #[]) (mvT hZ (hw _ (List.mem_of_getElem? (i := 25) rfl)))) (mvT hZ (hw _ (List.mem_of_getElem? (i := 25) rfl))) (mvT hZ (hw _ (List.mem_of_getElem? (i := 24) rfl))) (by decide) (backOf (W := 1) (rm4 l Z a0 hw [] b_1095 (2 : Int32) (2 : Int32) T1120.heap n0 Z1120 p1124 p1125) hZ (hw _ (List.mem_of_getElem? (i := 26) rfl)) (hw _ (List.mem_of_getElem? (i := 4) rfl)) (by decide) (by decide)) q1138a q1138c (g := (mkF m 163 #[.val (.int p1), .val (.int p2), .val (.int p3), .val (.int p4), .val (.int p5), .val (.int (1 : Int32)), .val (.ref b1061), .val (.ref b1073), .val (.int (1 : Int32)), .val (.ref b_1095)] [(.ref b_1095), (.int (1 : Int32))])) rfl (by rw [hml]; rfl) (Steps.refl _) (argsL := []) (rest := [(.int (1 : Int32))]) (lenOf pd_5 rfl) rfl (by show 2 * 0 + _ ≤ _; exact Nat.le_of_eq rfl) (hb hby at_163) (fun _ _ => ⟨rfl, rfl, (by decide : 0 + 1 + 1 + 0 + 0 + 1 + 0 + 0 + 0 + 0 ≤ _), (by decide : 0 + 5 + 4 + 0 + 0 + 4 + 0 + 0 + 0 + 0 ≤ _)⟩)
    dsimp only [Pt.U, Pt.locs, Pt.cells, Pt.slots] at X1138 l1138 y1138 z1138 st1138 hQ1138
    subst l1138 y1138 z1138
    obtain ⟨rfl, N1138q, e1138⟩ := hQ1138
    have N1138 := Fr.app N1120 N1138q
    refine OEnds.st (fun _ k => st1138.trans k) ?_
    show OEnds p.tables e below G (T1138.setTop (mkF m 166 #[.val (.int p1), .val (.int p2), .val (.int p3), .val (.int p4), .val (.int p5), .val (.int (1 : Int32)), .val (.ref b1061), .val (.ref b1073), .val (.int (1 : Int32)), .val (.ref b_1095)] [(.int (own_eq (2 : Int32) (2 : Int32))), (.int (1 : Int32))]))
    refine OEnds.st (fun _ k => XS.iload X1138.here hx rfl (hb hby at_166) rfl k) ?_
    show OEnds p.tables e below G (T1138.setTop (mkF m 168 #[.val (.int p1), .val (.int p2), .val (.int p3), .val (.int p4), .val (.int p5), .val (.int (1 : Int32)), .val (.ref b1061), .val (.ref b1073), .val (.int (1 : Int32)), .val (.ref b_1095)] [(.int (1 : Int32)), (.int (own_eq (2 : Int32) (2 : Int32))), (.int (1 : Int32))]))
    refine OEnds.st (fun _ k => XS.iconst X1138.here hx rfl (hb hby at_168) k) ?_
    show OEnds p.tables e below G (T1138.setTop (mkF m 169 #[.val (.int p1), .val (.int p2), .val (.int p3), .val (.int p4), .val (.int p5), .val (.int (1 : Int32)), .val (.ref b1061), .val (.ref b1073), .val (.int (1 : Int32)), .val (.ref b_1095)] [(.int (1 : Int32)), (.int (1 : Int32)), (.int (own_eq (2 : Int32) (2 : Int32))), (.int (1 : Int32))]))
    refine OEnds.st (fun _ k => XS.icmpNo X1138.here hx rfl (hb hby at_169) rfl (teq (by decide : (1 : Int32) = (1 : Int32))).2 k) ?_
    show OEnds p.tables e below G (T1138.setTop (mkF m 172 #[.val (.int p1), .val (.int p2), .val (.int p3), .val (.int p4), .val (.int p5), .val (.int (1 : Int32)), .val (.ref b1061), .val (.ref b1073), .val (.int (1 : Int32)), .val (.ref b_1095)] [(.int (own_eq (2 : Int32) (2 : Int32))), (.int (1 : Int32))]))
    refine OEnds.st (fun _ k => XS.iconst X1138.here hx rfl (hb hby at_172) k) ?_
    show OEnds p.tables e below G (T1138.setTop (mkF m 173 #[.val (.int p1), .val (.int p2), .val (.int p3), .val (.int p4), .val (.int p5), .val (.int (1 : Int32)), .val (.ref b1061), .val (.ref b1073), .val (.int (1 : Int32)), .val (.ref b_1095)] [(.int (1 : Int32)), (.int (own_eq (2 : Int32) (2 : Int32))), (.int (1 : Int32))]))
    refine OEnds.st (fun _ k => XS.goto X1138.here hx rfl (pc0 := 173) (pc' := 177) rfl (hb hby at_173) (by decide) (by decide) k) ?_
    show OEnds p.tables e below G (T1138.setTop (mkF m 177 #[.val (.int p1), .val (.int p2), .val (.int p3), .val (.int p4), .val (.int p5), .val (.int (1 : Int32)), .val (.ref b1061), .val (.ref b1073), .val (.int (1 : Int32)), .val (.ref b_1095)] [(.int (1 : Int32)), (.int (own_eq (2 : Int32) (2 : Int32))), (.int (1 : Int32))]))
    have hc177_1139 : (own_eq (2 : Int32) (2 : Int32)) = (1 : Int32) := by decide
    refine OEnds.st (fun _ k => XS.icmpNo X1138.here hx rfl (hb hby at_177) rfl (teq hc177_1139).2 k) ?_
    show OEnds p.tables e below G (T1138.setTop (mkF m 180 #[.val (.int p1), .val (.int p2), .val (.int p3), .val (.int p4), .val (.int p5), .val (.int (1 : Int32)), .val (.ref b1061), .val (.ref b1073), .val (.int (1 : Int32)), .val (.ref b_1095)] [(.int (1 : Int32))]))
    refine OEnds.st (fun _ k => XS.iconst X1138.here hx rfl (hb hby at_180) k) ?_
    show OEnds p.tables e below G (T1138.setTop (mkF m 181 #[.val (.int p1), .val (.int p2), .val (.int p3), .val (.int p4), .val (.int p5), .val (.int (1 : Int32)), .val (.ref b1061), .val (.ref b1073), .val (.int (1 : Int32)), .val (.ref b_1095)] [(.int (1 : Int32)), (.int (1 : Int32))]))
    refine OEnds.st (fun _ k => XS.goto X1138.here hx rfl (pc0 := 181) (pc' := 185) rfl (hb hby at_181) (by decide) (by decide) k) ?_
    show OEnds p.tables e below G (T1138.setTop (mkF m 185 #[.val (.int p1), .val (.int p2), .val (.int p3), .val (.int p4), .val (.int p5), .val (.int (1 : Int32)), .val (.ref b1061), .val (.ref b1073), .val (.int (1 : Int32)), .val (.ref b_1095)] [(.int (1 : Int32)), (.int (1 : Int32))]))
    refine OEnds.st (fun _ k => XS.iand X1138.here hx rfl (hb hby at_185) rfl k) ?_
    show OEnds p.tables e below G (T1138.setTop (mkF m 186 #[.val (.int p1), .val (.int p2), .val (.int p3), .val (.int p4), .val (.int p5), .val (.int (1 : Int32)), .val (.ref b1061), .val (.ref b1073), .val (.int (1 : Int32)), .val (.ref b_1095)] [(.int ((1 : Int32) &&& (1 : Int32)))]))
    refine OEnds.st (fun _ k => XS.istore X1138.here hx rfl (hb hby at_186) rfl (l' := #[.val (.int p1), .val (.int p2), .val (.int p3), .val (.int p4), .val (.int p5), .val (.int (1 : Int32)), .val (.ref b1061), .val (.ref b1073), .val (.int ((1 : Int32) &&& (1 : Int32))), .val (.ref b_1095)]) rfl k) ?_
    show OEnds p.tables e below G (T1138.setTop (mkF m 188 #[.val (.int p1), .val (.int p2), .val (.int p3), .val (.int p4), .val (.int p5), .val (.int (1 : Int32)), .val (.ref b1061), .val (.ref b1073), .val (.int ((1 : Int32) &&& (1 : Int32))), .val (.ref b_1095)] []))
    rw [show ((1 : Int32) &&& (1 : Int32)) = (1 : Int32) from by decide]
    show OEnds p.tables e below G (T1138.setTop (mkF m 188 #[.val (.int p1), .val (.int p2), .val (.int p3), .val (.int p4), .val (.int p5), .val (.int (1 : Int32)), .val (.ref b1061), .val (.ref b1073), .val (.int (1 : Int32)), .val (.ref b_1095)] []))
    refine OEnds.st (fun _ k => XS.iload X1138.here hx rfl (hb hby at_188) rfl k) ?_
    show OEnds p.tables e below G (T1138.setTop (mkF m 190 #[.val (.int p1), .val (.int p2), .val (.int p3), .val (.int p4), .val (.int p5), .val (.int (1 : Int32)), .val (.ref b1061), .val (.ref b1073), .val (.int (1 : Int32)), .val (.ref b_1095)] [(.int (1 : Int32))]))
    refine OEnds.st (fun _ k => XS.iconst X1138.here hx rfl (hb hby at_190) k) ?_
    show OEnds p.tables e below G (T1138.setTop (mkF m 191 #[.val (.int p1), .val (.int p2), .val (.int p3), .val (.int p4), .val (.int p5), .val (.int (1 : Int32)), .val (.ref b1061), .val (.ref b1073), .val (.int (1 : Int32)), .val (.ref b_1095)] [(.int (2 : Int32)), (.int (1 : Int32))]))
    refine OEnds.st (fun _ k => XS.icmpYes X1138.here hx rfl (pc0 := 191) (pc' := 229) rfl (hb hby at_191) rfl (tlt (by decide : (1 : Int32) < (2 : Int32))).1 (by decide) (by decide) k) ?_
    show OEnds p.tables e below G (T1138.setTop (mkF m 229 #[.val (.int p1), .val (.int p2), .val (.int p3), .val (.int p4), .val (.int p5), .val (.int (1 : Int32)), .val (.ref b1061), .val (.ref b1073), .val (.int (1 : Int32)), .val (.ref b_1095)] []))
    refine OEnds.st (fun _ k => XS.iload X1138.here hx rfl (hb hby at_229) rfl k) ?_
    show OEnds p.tables e below G (T1138.setTop (mkF m 231 #[.val (.int p1), .val (.int p2), .val (.int p3), .val (.int p4), .val (.int p5), .val (.int (1 : Int32)), .val (.ref b1061), .val (.ref b1073), .val (.int (1 : Int32)), .val (.ref b_1095)] [(.int (1 : Int32))]))
    refine OEnds.st (fun _ k => XS.iconst X1138.here hx rfl (hb hby at_231) k) ?_
    show OEnds p.tables e below G (T1138.setTop (mkF m 232 #[.val (.int p1), .val (.int p2), .val (.int p3), .val (.int p4), .val (.int p5), .val (.int (1 : Int32)), .val (.ref b1061), .val (.ref b1073), .val (.int (1 : Int32)), .val (.ref b_1095)] [(.int (3 : Int32)), (.int (1 : Int32))]))
    refine OEnds.st (fun _ k => XS.icmpYes X1138.here hx rfl (pc0 := 232) (pc' := 270) rfl (hb hby at_232) rfl (tlt (by decide : (1 : Int32) < (3 : Int32))).1 (by decide) (by decide) k) ?_
    show OEnds p.tables e below G (T1138.setTop (mkF m 270 #[.val (.int p1), .val (.int p2), .val (.int p3), .val (.int p4), .val (.int p5), .val (.int (1 : Int32)), .val (.ref b1061), .val (.ref b1073), .val (.int (1 : Int32)), .val (.ref b_1095)] []))
    refine OEnds.st (fun _ k => XS.iload X1138.here hx rfl (hb hby at_270) rfl k) ?_
    show OEnds p.tables e below G (T1138.setTop (mkF m 272 #[.val (.int p1), .val (.int p2), .val (.int p3), .val (.int p4), .val (.int p5), .val (.int (1 : Int32)), .val (.ref b1061), .val (.ref b1073), .val (.int (1 : Int32)), .val (.ref b_1095)] [(.int (1 : Int32))]))
    rw [← hG]
    refine OEnds.retZ X1138 hx hlk Bd.returns rfl (hb hby at_272) (by decide) (by decide) ?_
    rw [e1138]
    exact ⟨rfl, N1138⟩
  · -- 2
    rw [hi]
    show OEnds p.tables e below G (s₁.setTop (mkF m 8 #[.val (.int p1), .val (.int p2), .val (.int p3), .val (.int p4), .val (.int p5), .val (.int (2 : Int32)), .unset, .unset, .unset, .unset] []))
    refine OEnds.st (fun _ k => XS.iconst X0.here hx rfl (hb hby at_8) k) ?_
    show OEnds p.tables e below G (s₁.setTop (mkF m 9 #[.val (.int p1), .val (.int p2), .val (.int p3), .val (.int p4), .val (.int p5), .val (.int (2 : Int32)), .unset, .unset, .unset, .unset] [(.int (5 : Int32))]))
    obtain ⟨T1140, h1140, k1140, X1140, e1140, E1140, A1140, st1140⟩ := newP X0 hx hZ (hw _ (List.mem_of_getElem? (i := 1) rfl)) e0 (g := (mkF m 9 #[.val (.int p1), .val (.int p2), .val (.int p3), .val (.int p4), .val (.int p5), .val (.int (2 : Int32)), .unset, .unset, .unset, .unset] [(.int (5 : Int32))])) rfl (hb hby at_9) rfl (by decide) (cap := 5) (by decide) (by decide) (by decide) (by decide)
    obtain ⟨b1140, g1140⟩ : ∃ z, z = h0.size := ⟨_, rfl⟩
    rw [← g1140] at A1140 st1140
    refine OEnds.st st1140 ?_
    have ge_b1140 : n0 ≤ b1140 := Nat.le_trans Z0 (Nat.le_of_eq g1140.symm)
    have sz_b1140 : h0.size ≤ b1140 := Nat.le_trans KK0.1 (Nat.le_of_eq g1140.symm)
    have KK1140 : Keep h0 h1140 [] := KK0.ext E1140
    have Z1140 := Nat.le_trans Z0 E1140.1
    have f1141 : Arv Z h1140 b1140 k1140 .byte (5 : Int32) [(.int (0 : Int32)), (.int (0 : Int32)), (.int (0 : Int32)), (.int (0 : Int32)), (.int (0 : Int32))] (.int (0 : Int32)) := (Arv.new A1140 (by decide)).pad (pad_rep [] (.int (0 : Int32)) 5)
    show OEnds p.tables e below G (T1140.setTop (mkF m 11 #[.val (.int p1), .val (.int p2), .val (.int p3), .val (.int p4), .val (.int p5), .val (.int (2 : Int32)), .unset, .unset, .unset, .unset] [(.ref b1140)]))
    refine OEnds.st (fun _ k => XS.astore X1140.here hx rfl (hb hby at_11) rfl rfl (l' := #[.val (.int p1), .val (.int p2), .val (.int p3), .val (.int p4), .val (.int p5), .val (.int (2 : Int32)), .val (.ref b1140), .unset, .unset, .unset]) rfl k) ?_
    show OEnds p.tables e below G (T1140.setTop (mkF m 13 #[.val (.int p1), .val (.int p2), .val (.int p3), .val (.int p4), .val (.int p5), .val (.int (2 : Int32)), .val (.ref b1140), .unset, .unset, .unset] []))
    refine OEnds.st (fun _ k => XS.aload X1140.here hx rfl (hb hby at_13) rfl rfl k) ?_
    show OEnds p.tables e below G (T1140.setTop (mkF m 15 #[.val (.int p1), .val (.int p2), .val (.int p3), .val (.int p4), .val (.int p5), .val (.int (2 : Int32)), .val (.ref b1140), .unset, .unset, .unset] [(.ref b1140)]))
    refine OEnds.st (fun _ k => XS.iconst X1140.here hx rfl (hb hby at_15) k) ?_
    show OEnds p.tables e below G (T1140.setTop (mkF m 16 #[.val (.int p1), .val (.int p2), .val (.int p3), .val (.int p4), .val (.int p5), .val (.int (2 : Int32)), .val (.ref b1140), .unset, .unset, .unset] [(.int (0 : Int32)), (.ref b1140)]))
    refine OEnds.st (fun _ k => XS.iload X1140.here hx rfl (hb hby at_16) rfl k) ?_
    show OEnds p.tables e below G (T1140.setTop (mkF m 18 #[.val (.int p1), .val (.int p2), .val (.int p3), .val (.int p4), .val (.int p5), .val (.int (2 : Int32)), .val (.ref b1140), .unset, .unset, .unset] [(.int (2 : Int32)), (.int (0 : Int32)), (.ref b1140)]))
    refine OEnds.st (fun _ k => XS.i2b X1140.here hx rfl (hb hby at_18) rfl k) ?_
    show OEnds p.tables e below G (T1140.setTop (mkF m 19 #[.val (.int p1), .val (.int p2), .val (.int p3), .val (.int p4), .val (.int p5), .val (.int (2 : Int32)), .val (.ref b1140), .unset, .unset, .unset] [(.int ((2 : Int32).toInt8.toInt32)), (.int (0 : Int32)), (.ref b1140)]))
    obtain ⟨cl1142, Ar1142, q1142, S1142, N1142n, H1142, G1142⟩ := id f1141
    have hin1142 : ¬ ((0 : Int32) < 0 ∨ cl1142.slots.size ≤ ((0 : Int32)).toNatClampNeg) := inb_of S1142 ⟨by decide, by decide⟩
    obtain ⟨T1142, h1142, X1142, e1142, W1142, st1142⟩ := stB X1140 hx hZ e1140 Ar1142 (j := (0 : Int32)) hin1142 (g := (mkF m 19 #[.val (.int p1), .val (.int p2), .val (.int p3), .val (.int p4), .val (.int p5), .val (.int (2 : Int32)), .val (.ref b1140), .unset, .unset, .unset] [(.int ((2 : Int32).toInt8.toInt32)), (.int (0 : Int32)), (.ref b1140)])) rfl rfl (hb hby at_19)
    refine OEnds.st st1142 ?_
    rw [own_b8] at W1142
    have f1143 : Arv Z h1142 b1140 k1140 .byte (5 : Int32) [(.int ((2 : Int32).toInt8.toInt32)), (.int (0 : Int32)), (.int (0 : Int32)), (.int (0 : Int32)), (.int (0 : Int32))] (.int (0 : Int32)) := Arv.set Ar1142 q1142 S1142 N1142n H1142 G1142 (fits_nar_byte _) W1142 0 rfl (Nat.le_of_ble_eq_true rfl)
    have N1142 := Fr.snoc X1142 N0 ge_b1140
    have KK1142 : Keep h0 h1142 [] := KK1140.wr W1142 (Or.inr sz_b1140)
    have Z1142 := Nat.le_trans Z1140 (Keep.of_wr W1142).1
    show OEnds p.tables e below G (T1142.setTop (mkF m 20 #[.val (.int p1), .val (.int p2), .val (.int p3), .val (.int p4), .val (.int p5), .val (.int (2 : Int32)), .val (.ref b1140), .unset, .unset, .unset] []))
    refine OEnds.st (fun _ k => XS.aload X1142.here hx rfl (hb hby at_20) rfl rfl k) ?_
    show OEnds p.tables e below G (T1142.setTop (mkF m 22 #[.val (.int p1), .val (.int p2), .val (.int p3), .val (.int p4), .val (.int p5), .val (.int (2 : Int32)), .val (.ref b1140), .unset, .unset, .unset] [(.ref b1140)]))
    refine OEnds.st (fun _ k => XS.iconst X1142.here hx rfl (hb hby at_22) k) ?_
    show OEnds p.tables e below G (T1142.setTop (mkF m 23 #[.val (.int p1), .val (.int p2), .val (.int p3), .val (.int p4), .val (.int p5), .val (.int (2 : Int32)), .val (.ref b1140), .unset, .unset, .unset] [(.int (1 : Int32)), (.ref b1140)]))
    refine OEnds.st (fun _ k => XS.iloadN X1142.here hx rfl (hb hby at_23) rfl k) ?_
    show OEnds p.tables e below G (T1142.setTop (mkF m 24 #[.val (.int p1), .val (.int p2), .val (.int p3), .val (.int p4), .val (.int p5), .val (.int (2 : Int32)), .val (.ref b1140), .unset, .unset, .unset] [(.int p2), (.int (1 : Int32)), (.ref b1140)]))
    refine OEnds.st (fun _ k => XS.bipush X1142.here hx rfl (hb hby at_24) k) ?_
    show OEnds p.tables e below G (T1142.setTop (mkF m 26 #[.val (.int p1), .val (.int p2), .val (.int p3), .val (.int p4), .val (.int p5), .val (.int (2 : Int32)), .val (.ref b1140), .unset, .unset, .unset] [(.int (127 : Int32)), (.int p2), (.int (1 : Int32)), (.ref b1140)]))
    refine OEnds.st (fun _ k => XS.iand X1142.here hx rfl (hb hby at_26) rfl k) ?_
    show OEnds p.tables e below G (T1142.setTop (mkF m 27 #[.val (.int p1), .val (.int p2), .val (.int p3), .val (.int p4), .val (.int p5), .val (.int (2 : Int32)), .val (.ref b1140), .unset, .unset, .unset] [(.int (p2 &&& (127 : Int32))), (.int (1 : Int32)), (.ref b1140)]))
    refine OEnds.st (fun _ k => XS.i2b X1142.here hx rfl (hb hby at_27) rfl k) ?_
    show OEnds p.tables e below G (T1142.setTop (mkF m 28 #[.val (.int p1), .val (.int p2), .val (.int p3), .val (.int p4), .val (.int p5), .val (.int (2 : Int32)), .val (.ref b1140), .unset, .unset, .unset] [(.int ((p2 &&& (127 : Int32)).toInt8.toInt32)), (.int (1 : Int32)), (.ref b1140)]))
    obtain ⟨cl1144, Ar1144, q1144, S1144, N1144n, H1144, G1144⟩ := id f1143
    have hin1144 : ¬ ((1 : Int32) < 0 ∨ cl1144.slots.size ≤ ((1 : Int32)).toNatClampNeg) := inb_of S1144 ⟨by decide, by decide⟩
    obtain ⟨T1144, h1144, X1144, e1144, W1144, st1144⟩ := stB X1142 hx hZ e1142 Ar1144 (j := (1 : Int32)) hin1144 (g := (mkF m 28 #[.val (.int p1), .val (.int p2), .val (.int p3), .val (.int p4), .val (.int p5), .val (.int (2 : Int32)), .val (.ref b1140), .unset, .unset, .unset] [(.int ((p2 &&& (127 : Int32)).toInt8.toInt32)), (.int (1 : Int32)), (.ref b1140)])) rfl rfl (hb hby at_28)
    refine OEnds.st st1144 ?_
    rw [own_b8] at W1144
    have f1145 : Arv Z h1144 b1140 k1140 .byte (5 : Int32) [(.int ((2 : Int32).toInt8.toInt32)), (.int ((p2 &&& (127 : Int32)).toInt8.toInt32)), (.int (0 : Int32)), (.int (0 : Int32)), (.int (0 : Int32))] (.int (0 : Int32)) := Arv.set Ar1144 q1144 S1144 N1144n H1144 G1144 (fits_nar_byte _) W1144 1 rfl (Nat.le_of_ble_eq_true rfl)
    have N1144 := Fr.snoc X1144 N1142 ge_b1140
    have KK1144 : Keep h0 h1144 [] := KK1142.wr W1144 (Or.inr sz_b1140)
    have Z1144 := Nat.le_trans Z1142 (Keep.of_wr W1144).1
    show OEnds p.tables e below G (T1144.setTop (mkF m 29 #[.val (.int p1), .val (.int p2), .val (.int p3), .val (.int p4), .val (.int p5), .val (.int (2 : Int32)), .val (.ref b1140), .unset, .unset, .unset] []))
    refine OEnds.st (fun _ k => XS.aload X1144.here hx rfl (hb hby at_29) rfl rfl k) ?_
    show OEnds p.tables e below G (T1144.setTop (mkF m 31 #[.val (.int p1), .val (.int p2), .val (.int p3), .val (.int p4), .val (.int p5), .val (.int (2 : Int32)), .val (.ref b1140), .unset, .unset, .unset] [(.ref b1140)]))
    refine OEnds.st (fun _ k => XS.iconst X1144.here hx rfl (hb hby at_31) k) ?_
    show OEnds p.tables e below G (T1144.setTop (mkF m 32 #[.val (.int p1), .val (.int p2), .val (.int p3), .val (.int p4), .val (.int p5), .val (.int (2 : Int32)), .val (.ref b1140), .unset, .unset, .unset] [(.int (2 : Int32)), (.ref b1140)]))
    refine OEnds.st (fun _ k => XS.iloadN X1144.here hx rfl (hb hby at_32) rfl k) ?_
    show OEnds p.tables e below G (T1144.setTop (mkF m 33 #[.val (.int p1), .val (.int p2), .val (.int p3), .val (.int p4), .val (.int p5), .val (.int (2 : Int32)), .val (.ref b1140), .unset, .unset, .unset] [(.int p3), (.int (2 : Int32)), (.ref b1140)]))
    refine OEnds.st (fun _ k => XS.bipush X1144.here hx rfl (hb hby at_33) k) ?_
    show OEnds p.tables e below G (T1144.setTop (mkF m 35 #[.val (.int p1), .val (.int p2), .val (.int p3), .val (.int p4), .val (.int p5), .val (.int (2 : Int32)), .val (.ref b1140), .unset, .unset, .unset] [(.int (127 : Int32)), (.int p3), (.int (2 : Int32)), (.ref b1140)]))
    refine OEnds.st (fun _ k => XS.iand X1144.here hx rfl (hb hby at_35) rfl k) ?_
    show OEnds p.tables e below G (T1144.setTop (mkF m 36 #[.val (.int p1), .val (.int p2), .val (.int p3), .val (.int p4), .val (.int p5), .val (.int (2 : Int32)), .val (.ref b1140), .unset, .unset, .unset] [(.int (p3 &&& (127 : Int32))), (.int (2 : Int32)), (.ref b1140)]))
    refine OEnds.st (fun _ k => XS.i2b X1144.here hx rfl (hb hby at_36) rfl k) ?_
    show OEnds p.tables e below G (T1144.setTop (mkF m 37 #[.val (.int p1), .val (.int p2), .val (.int p3), .val (.int p4), .val (.int p5), .val (.int (2 : Int32)), .val (.ref b1140), .unset, .unset, .unset] [(.int ((p3 &&& (127 : Int32)).toInt8.toInt32)), (.int (2 : Int32)), (.ref b1140)]))
    obtain ⟨cl1146, Ar1146, q1146, S1146, N1146n, H1146, G1146⟩ := id f1145
    have hin1146 : ¬ ((2 : Int32) < 0 ∨ cl1146.slots.size ≤ ((2 : Int32)).toNatClampNeg) := inb_of S1146 ⟨by decide, by decide⟩
    obtain ⟨T1146, h1146, X1146, e1146, W1146, st1146⟩ := stB X1144 hx hZ e1144 Ar1146 (j := (2 : Int32)) hin1146 (g := (mkF m 37 #[.val (.int p1), .val (.int p2), .val (.int p3), .val (.int p4), .val (.int p5), .val (.int (2 : Int32)), .val (.ref b1140), .unset, .unset, .unset] [(.int ((p3 &&& (127 : Int32)).toInt8.toInt32)), (.int (2 : Int32)), (.ref b1140)])) rfl rfl (hb hby at_37)
    refine OEnds.st st1146 ?_
    rw [own_b8] at W1146
    have f1147 : Arv Z h1146 b1140 k1140 .byte (5 : Int32) [(.int ((2 : Int32).toInt8.toInt32)), (.int ((p2 &&& (127 : Int32)).toInt8.toInt32)), (.int ((p3 &&& (127 : Int32)).toInt8.toInt32)), (.int (0 : Int32)), (.int (0 : Int32))] (.int (0 : Int32)) := Arv.set Ar1146 q1146 S1146 N1146n H1146 G1146 (fits_nar_byte _) W1146 2 rfl (Nat.le_of_ble_eq_true rfl)
    have N1146 := Fr.snoc X1146 N1144 ge_b1140
    have KK1146 : Keep h0 h1146 [] := KK1144.wr W1146 (Or.inr sz_b1140)
    have Z1146 := Nat.le_trans Z1144 (Keep.of_wr W1146).1
    show OEnds p.tables e below G (T1146.setTop (mkF m 38 #[.val (.int p1), .val (.int p2), .val (.int p3), .val (.int p4), .val (.int p5), .val (.int (2 : Int32)), .val (.ref b1140), .unset, .unset, .unset] []))
    refine OEnds.st (fun _ k => XS.aload X1146.here hx rfl (hb hby at_38) rfl rfl k) ?_
    show OEnds p.tables e below G (T1146.setTop (mkF m 40 #[.val (.int p1), .val (.int p2), .val (.int p3), .val (.int p4), .val (.int p5), .val (.int (2 : Int32)), .val (.ref b1140), .unset, .unset, .unset] [(.ref b1140)]))
    refine OEnds.st (fun _ k => XS.iconst X1146.here hx rfl (hb hby at_40) k) ?_
    show OEnds p.tables e below G (T1146.setTop (mkF m 41 #[.val (.int p1), .val (.int p2), .val (.int p3), .val (.int p4), .val (.int p5), .val (.int (2 : Int32)), .val (.ref b1140), .unset, .unset, .unset] [(.int (3 : Int32)), (.ref b1140)]))
    refine OEnds.st (fun _ k => XS.iloadN X1146.here hx rfl (hb hby at_41) rfl k) ?_
    show OEnds p.tables e below G (T1146.setTop (mkF m 42 #[.val (.int p1), .val (.int p2), .val (.int p3), .val (.int p4), .val (.int p5), .val (.int (2 : Int32)), .val (.ref b1140), .unset, .unset, .unset] [(.int p4), (.int (3 : Int32)), (.ref b1140)]))
    refine OEnds.st (fun _ k => XS.bipush X1146.here hx rfl (hb hby at_42) k) ?_
    show OEnds p.tables e below G (T1146.setTop (mkF m 44 #[.val (.int p1), .val (.int p2), .val (.int p3), .val (.int p4), .val (.int p5), .val (.int (2 : Int32)), .val (.ref b1140), .unset, .unset, .unset] [(.int (127 : Int32)), (.int p4), (.int (3 : Int32)), (.ref b1140)]))
    refine OEnds.st (fun _ k => XS.iand X1146.here hx rfl (hb hby at_44) rfl k) ?_
    show OEnds p.tables e below G (T1146.setTop (mkF m 45 #[.val (.int p1), .val (.int p2), .val (.int p3), .val (.int p4), .val (.int p5), .val (.int (2 : Int32)), .val (.ref b1140), .unset, .unset, .unset] [(.int (p4 &&& (127 : Int32))), (.int (3 : Int32)), (.ref b1140)]))
    refine OEnds.st (fun _ k => XS.i2b X1146.here hx rfl (hb hby at_45) rfl k) ?_
    show OEnds p.tables e below G (T1146.setTop (mkF m 46 #[.val (.int p1), .val (.int p2), .val (.int p3), .val (.int p4), .val (.int p5), .val (.int (2 : Int32)), .val (.ref b1140), .unset, .unset, .unset] [(.int ((p4 &&& (127 : Int32)).toInt8.toInt32)), (.int (3 : Int32)), (.ref b1140)]))
    obtain ⟨cl1148, Ar1148, q1148, S1148, N1148n, H1148, G1148⟩ := id f1147
    have hin1148 : ¬ ((3 : Int32) < 0 ∨ cl1148.slots.size ≤ ((3 : Int32)).toNatClampNeg) := inb_of S1148 ⟨by decide, by decide⟩
    obtain ⟨T1148, h1148, X1148, e1148, W1148, st1148⟩ := stB X1146 hx hZ e1146 Ar1148 (j := (3 : Int32)) hin1148 (g := (mkF m 46 #[.val (.int p1), .val (.int p2), .val (.int p3), .val (.int p4), .val (.int p5), .val (.int (2 : Int32)), .val (.ref b1140), .unset, .unset, .unset] [(.int ((p4 &&& (127 : Int32)).toInt8.toInt32)), (.int (3 : Int32)), (.ref b1140)])) rfl rfl (hb hby at_46)
    refine OEnds.st st1148 ?_
    rw [own_b8] at W1148
    have f1149 : Arv Z h1148 b1140 k1140 .byte (5 : Int32) [(.int ((2 : Int32).toInt8.toInt32)), (.int ((p2 &&& (127 : Int32)).toInt8.toInt32)), (.int ((p3 &&& (127 : Int32)).toInt8.toInt32)), (.int ((p4 &&& (127 : Int32)).toInt8.toInt32)), (.int (0 : Int32))] (.int (0 : Int32)) := Arv.set Ar1148 q1148 S1148 N1148n H1148 G1148 (fits_nar_byte _) W1148 3 rfl (Nat.le_of_ble_eq_true rfl)
    have N1148 := Fr.snoc X1148 N1146 ge_b1140
    have KK1148 : Keep h0 h1148 [] := KK1146.wr W1148 (Or.inr sz_b1140)
    have Z1148 := Nat.le_trans Z1146 (Keep.of_wr W1148).1
    show OEnds p.tables e below G (T1148.setTop (mkF m 47 #[.val (.int p1), .val (.int p2), .val (.int p3), .val (.int p4), .val (.int p5), .val (.int (2 : Int32)), .val (.ref b1140), .unset, .unset, .unset] []))
    refine OEnds.st (fun _ k => XS.aload X1148.here hx rfl (hb hby at_47) rfl rfl k) ?_
    show OEnds p.tables e below G (T1148.setTop (mkF m 49 #[.val (.int p1), .val (.int p2), .val (.int p3), .val (.int p4), .val (.int p5), .val (.int (2 : Int32)), .val (.ref b1140), .unset, .unset, .unset] [(.ref b1140)]))
    refine OEnds.st (fun _ k => XS.iconst X1148.here hx rfl (hb hby at_49) k) ?_
    show OEnds p.tables e below G (T1148.setTop (mkF m 50 #[.val (.int p1), .val (.int p2), .val (.int p3), .val (.int p4), .val (.int p5), .val (.int (2 : Int32)), .val (.ref b1140), .unset, .unset, .unset] [(.int (4 : Int32)), (.ref b1140)]))
    refine OEnds.st (fun _ k => XS.iload X1148.here hx rfl (hb hby at_50) rfl k) ?_
    show OEnds p.tables e below G (T1148.setTop (mkF m 52 #[.val (.int p1), .val (.int p2), .val (.int p3), .val (.int p4), .val (.int p5), .val (.int (2 : Int32)), .val (.ref b1140), .unset, .unset, .unset] [(.int p5), (.int (4 : Int32)), (.ref b1140)]))
    refine OEnds.st (fun _ k => XS.bipush X1148.here hx rfl (hb hby at_52) k) ?_
    show OEnds p.tables e below G (T1148.setTop (mkF m 54 #[.val (.int p1), .val (.int p2), .val (.int p3), .val (.int p4), .val (.int p5), .val (.int (2 : Int32)), .val (.ref b1140), .unset, .unset, .unset] [(.int (127 : Int32)), (.int p5), (.int (4 : Int32)), (.ref b1140)]))
    refine OEnds.st (fun _ k => XS.iand X1148.here hx rfl (hb hby at_54) rfl k) ?_
    show OEnds p.tables e below G (T1148.setTop (mkF m 55 #[.val (.int p1), .val (.int p2), .val (.int p3), .val (.int p4), .val (.int p5), .val (.int (2 : Int32)), .val (.ref b1140), .unset, .unset, .unset] [(.int (p5 &&& (127 : Int32))), (.int (4 : Int32)), (.ref b1140)]))
    refine OEnds.st (fun _ k => XS.i2b X1148.here hx rfl (hb hby at_55) rfl k) ?_
    show OEnds p.tables e below G (T1148.setTop (mkF m 56 #[.val (.int p1), .val (.int p2), .val (.int p3), .val (.int p4), .val (.int p5), .val (.int (2 : Int32)), .val (.ref b1140), .unset, .unset, .unset] [(.int ((p5 &&& (127 : Int32)).toInt8.toInt32)), (.int (4 : Int32)), (.ref b1140)]))
    obtain ⟨cl1150, Ar1150, q1150, S1150, N1150n, H1150, G1150⟩ := id f1149
    have hin1150 : ¬ ((4 : Int32) < 0 ∨ cl1150.slots.size ≤ ((4 : Int32)).toNatClampNeg) := inb_of S1150 ⟨by decide, by decide⟩
    obtain ⟨T1150, h1150, X1150, e1150, W1150, st1150⟩ := stB X1148 hx hZ e1148 Ar1150 (j := (4 : Int32)) hin1150 (g := (mkF m 56 #[.val (.int p1), .val (.int p2), .val (.int p3), .val (.int p4), .val (.int p5), .val (.int (2 : Int32)), .val (.ref b1140), .unset, .unset, .unset] [(.int ((p5 &&& (127 : Int32)).toInt8.toInt32)), (.int (4 : Int32)), (.ref b1140)])) rfl rfl (hb hby at_56)
    refine OEnds.st st1150 ?_
    rw [own_b8] at W1150
    have f1151 : Arv Z h1150 b1140 k1140 .byte (5 : Int32) [(.int ((2 : Int32).toInt8.toInt32)), (.int ((p2 &&& (127 : Int32)).toInt8.toInt32)), (.int ((p3 &&& (127 : Int32)).toInt8.toInt32)), (.int ((p4 &&& (127 : Int32)).toInt8.toInt32)), (.int ((p5 &&& (127 : Int32)).toInt8.toInt32))] (.int (0 : Int32)) := Arv.set Ar1150 q1150 S1150 N1150n H1150 G1150 (fits_nar_byte _) W1150 4 rfl (Nat.le_of_ble_eq_true rfl)
    have N1150 := Fr.snoc X1150 N1148 ge_b1140
    have KK1150 : Keep h0 h1150 [] := KK1148.wr W1150 (Or.inr sz_b1140)
    have Z1150 := Nat.le_trans Z1148 (Keep.of_wr W1150).1
    show OEnds p.tables e below G (T1150.setTop (mkF m 57 #[.val (.int p1), .val (.int p2), .val (.int p3), .val (.int p4), .val (.int p5), .val (.int (2 : Int32)), .val (.ref b1140), .unset, .unset, .unset] []))
    obtain ⟨T1152, h1152, X1152, e1152, E1152, A1152, D1152, -, st1152⟩ := newO X1150 hx hZ hown (hw _ (List.mem_of_getElem? (i := 2) rfl)) (hw _ (List.mem_of_getElem? (i := 3) rfl)) (hw _ (List.mem_of_getElem? (i := 4) rfl)) e1150 (g := (mkF m 57 #[.val (.int p1), .val (.int p2), .val (.int p3), .val (.int p4), .val (.int p5), .val (.int (2 : Int32)), .val (.ref b1140), .unset, .unset, .unset] [])) rfl (hb hby at_57) (by decide) (by decide)
    obtain ⟨b1152, g1152⟩ : ∃ z, z = h1150.size := ⟨_, rfl⟩
    rw [← g1152] at A1152 D1152 st1152
    refine OEnds.st st1152 ?_
    have ne1153 : b1140 ≠ b1152 := Nat.ne_of_lt (Nat.lt_of_lt_of_le (f1151).lt (Nat.le_of_eq g1152.symm))
    have ge_b1152 : n0 ≤ b1152 := Nat.le_trans Z1150 (Nat.le_of_eq g1152.symm)
    have sz_b1152 : h0.size ≤ b1152 := Nat.le_trans KK1150.1 (Nat.le_of_eq g1152.symm)
    have f1154 : Arv Z h1152 b1140 k1140 .byte (5 : Int32) [(.int ((2 : Int32).toInt8.toInt32)), (.int ((p2 &&& (127 : Int32)).toInt8.toInt32)), (.int ((p3 &&& (127 : Int32)).toInt8.toInt32)), (.int ((p4 &&& (127 : Int32)).toInt8.toInt32)), (.int ((p5 &&& (127 : Int32)).toInt8.toInt32))] (.int (0 : Int32)) := f1151.ext E1152
    have KK1152 : Keep h0 h1152 [] := KK1150.ext E1152
    have Z1152 := Nat.le_trans Z1150 E1152.1
    have ex_b1152 := A1152
    have f1155 : Fld Z h1152 b1152 "com/example/nearfar/nearfar/ProtoReader" "bytes" "[B" .null := D1152 (Or.inr (hw _ (List.mem_of_getElem? (i := 15) rfl))) (ty := (.array .byte)) (by decide)
    have f1156 : Fld Z h1152 b1152 "com/example/nearfar/nearfar/ProtoReader" "position" "I" (.int (0 : Int32)) := D1152 (Or.inl (hw _ (List.mem_of_getElem? (i := 17) rfl))) (ty := .int) (by decide)
    have f1157 : Fld Z h1152 b1152 "com/example/nearfar/nearfar/ProtoReader" "end" "I" (.int (0 : Int32)) := D1152 (Or.inr (hw _ (List.mem_of_getElem? (i := 19) rfl))) (ty := .int) (by decide)
    have f1158 : Fld Z h1152 b1152 "com/example/nearfar/nearfar/ProtoReader" "depth" "I" (.int (0 : Int32)) := D1152 (Or.inr (hw _ (List.mem_of_getElem? (i := 21) rfl))) (ty := .int) (by decide)
    show OEnds p.tables e below G (T1152.setTop (mkF m 60 #[.val (.int p1), .val (.int p2), .val (.int p3), .val (.int p4), .val (.int p5), .val (.int (2 : Int32)), .val (.ref b1140), .unset, .unset, .unset] [(.ref b1152)]))
    refine OEnds.st (fun _ k => XS.dup X1152.here hx rfl (hb hby at_60) rfl rfl k) ?_
    show OEnds p.tables e below G (T1152.setTop (mkF m 61 #[.val (.int p1), .val (.int p2), .val (.int p3), .val (.int p4), .val (.int p5), .val (.int (2 : Int32)), .val (.ref b1140), .unset, .unset, .unset] [(.ref b1152), (.ref b1152)]))
    refine OEnds.st (fun _ k => XS.aload X1152.here hx rfl (hb hby at_61) rfl rfl k) ?_
    show OEnds p.tables e below G (T1152.setTop (mkF m 63 #[.val (.int p1), .val (.int p2), .val (.int p3), .val (.int p4), .val (.int p5), .val (.int (2 : Int32)), .val (.ref b1140), .unset, .unset, .unset] [(.ref b1140), (.ref b1152), (.ref b1152)]))
    obtain ⟨_, _, ⟨T1159, L1159, k1159c, n1159c⟩, -, X1159, ⟨Lc1159, hQ1159, l1159, y1159, z1159⟩, st1159⟩ := X1152.specialBack hx (y := (⟨"com/example/nearfar/nearfar/ProtoReader", "<init>", "([B)V"⟩ : MethodName)) rfl hown (mvT hZ (hw _ (List.mem_of_getElem? (i := 5) rfl))) (mvT hZ (hw _ (List.mem_of_getElem? (i := 6) rfl))) (mvT hZ (hw _ (List.mem_of_getElem? (i := 7) rfl))) (by decide) (backOf (W := 1) (rm1 l Z a0 hw [] b1152 b1140 k1140 (5 : Int32) ([(.int ((2 : Int32).toInt8.toInt32)), (.int ((p2 &&& (127 : Int32)).toInt8.toInt32)), (.int ((p3 &&& (127 : Int32)).toInt8.toInt32)), (.int ((p4 &&& (127 : Int32)).toInt8.toInt32)), (.int ((p5 &&& (127 : Int32)).toInt8.toInt32))]) (.int (0 : Int32)) h1152 n0 Z1152 ex_b1152 f1155 f1156 f1157 f1158 f1154 ge_b1152 ne1153) hZ (hw _ (List.mem_of_getElem? (i := 7) rfl)) (hw _ (List.mem_of_getElem? (i := 4) rfl)) (by decide) (by decide)) (g := (mkF m 63 #[.val (.int p1), .val (.int p2), .val (.int p3), .val (.int p4), .val (.int p5), .val (.int (2 : Int32)), .val (.ref b1140), .unset, .unset, .unset] [(.ref b1140), (.ref b1152), (.ref b1152)])) rfl (by rw [hml]; rfl) (Steps.refl _) (a := b1152) (argsL := [(.ref b1140)]) (rest := [(.ref b1152)]) (lenOf pd_4 rfl) rfl (by show 2 * 0 + _ ≤ _; exact Nat.le_of_eq rfl) (hb hby at_63) (fun _ _ => ⟨rfl, e1152, (by decide : 0 + 1 + 1 + 0 ≤ _), (by decide : 0 + 5 + 4 + 0 ≤ _)⟩)
    dsimp only [Pt.U, Pt.locs, Pt.cells, Pt.slots] at X1159 l1159 y1159 z1159 st1159 hQ1159
    subst l1159 y1159 z1159
    obtain ⟨rfl, N1159q, p1160, p1161, p1162, p1163, p1164, p1165⟩ := hQ1159
    have N1159 := Fr.app N1150 N1159q
    refine OEnds.st (fun _ k => st1159.trans k) ?_
    have f1166 : Arv Z T1159.heap b1140 k1140 .byte (5 : Int32) [(.int ((2 : Int32).toInt8.toInt32)), (.int ((p2 &&& (127 : Int32)).toInt8.toInt32)), (.int ((p3 &&& (127 : Int32)).toInt8.toInt32)), (.int ((p4 &&& (127 : Int32)).toInt8.toInt32)), (.int ((p5 &&& (127 : Int32)).toInt8.toInt32))] (.int (0 : Int32)) := f1154.keep p1160 (by simp only [List.mem_cons, List.not_mem_nil, or_false, not_or]; exact ne1153)
    have f1167 : Exa Z T1159.heap b1152 "com/example/nearfar/nearfar/ProtoReader" := ex_b1152.keep p1160
    have KK1159 : Keep h0 T1159.heap [] := KK1152.trans p1160 (fun x hx => by cases List.mem_singleton.mp hx; exact Or.inr sz_b1152)
    have Z1159 := Nat.le_trans Z1152 p1160.1
    show OEnds p.tables e below G (T1159.setTop (mkF m 66 #[.val (.int p1), .val (.int p2), .val (.int p3), .val (.int p4), .val (.int p5), .val (.int (2 : Int32)), .val (.ref b1140), .unset, .unset, .unset] [(.ref b1152)]))
    refine OEnds.st (fun _ k => XS.astore X1159.here hx rfl (hb hby at_66) rfl rfl (l' := #[.val (.int p1), .val (.int p2), .val (.int p3), .val (.int p4), .val (.int p5), .val (.int (2 : Int32)), .val (.ref b1140), .val (.ref b1152), .unset, .unset]) rfl k) ?_
    show OEnds p.tables e below G (T1159.setTop (mkF m 68 #[.val (.int p1), .val (.int p2), .val (.int p3), .val (.int p4), .val (.int p5), .val (.int (2 : Int32)), .val (.ref b1140), .val (.ref b1152), .unset, .unset] []))
    refine OEnds.st (fun _ k => XS.aload X1159.here hx rfl (hb hby at_68) rfl rfl k) ?_
    show OEnds p.tables e below G (T1159.setTop (mkF m 70 #[.val (.int p1), .val (.int p2), .val (.int p3), .val (.int p4), .val (.int p5), .val (.int (2 : Int32)), .val (.ref b1140), .val (.ref b1152), .unset, .unset] [(.ref b1152)]))
    obtain ⟨cq1172, kq1172, q1172a, q1172b, q1172c⟩ := isOf hZ rfl p1161
    obtain ⟨_, _, ⟨T1172, L1172, k1172c, n1172c⟩, -, X1172, ⟨Lc1172, hQ1172, l1172, y1172, z1172⟩, st1172⟩ := X1159.virtualBack hx (y := (⟨"com/example/nearfar/nearfar/ProtoReader", "atEnd", "()Z"⟩ : MethodName)) (z := (⟨"com/example/nearfar/nearfar/ProtoReader", "atEnd", "()Z"⟩ : MethodName)) hown (mvT hZ (hw _ (List.mem_of_getElem? (i := 22) rfl))) (mvT hZ (hw _ (List.mem_of_getElem? (i := 23) rfl))) (notFace_of_selects (args := #[]) (mvT hZ (hw _ (List.mem_of_getElem? (i := 25) rfl)))) (mvT hZ (hw _ (List.mem_of_getElem? (i := 25) rfl))) (mvT hZ (hw _ (List.mem_of_getElem? (i := 24) rfl))) (by decide) (backOf (W := 0) (rm4 l Z a0 hw [] b1152 (0 : Int32) (5 : Int32) T1159.heap n0 Z1159 p1163 p1164) hZ (hw _ (List.mem_of_getElem? (i := 26) rfl)) (hw _ (List.mem_of_getElem? (i := 4) rfl)) (by decide) (by decide)) q1172a q1172c (g := (mkF m 70 #[.val (.int p1), .val (.int p2), .val (.int p3), .val (.int p4), .val (.int p5), .val (.int (2 : Int32)), .val (.ref b1140), .val (.ref b1152), .unset, .unset] [(.ref b1152)])) rfl (by rw [hml]; rfl) (Steps.refl _) (argsL := []) (rest := []) (lenOf pd_5 rfl) rfl (by show 2 * 0 + _ ≤ _; exact Nat.le_of_eq rfl) (hb hby at_70) (fun _ _ => ⟨rfl, rfl, (by decide : 0 + 1 + 1 + 0 + 0 ≤ _), (by decide : 0 + 5 + 4 + 0 + 0 ≤ _)⟩)
    dsimp only [Pt.U, Pt.locs, Pt.cells, Pt.slots] at X1172 l1172 y1172 z1172 st1172 hQ1172
    subst l1172 y1172 z1172
    obtain ⟨rfl, N1172q, e1172⟩ := hQ1172
    have N1172 := Fr.app N1159 N1172q
    refine OEnds.st (fun _ k => st1172.trans k) ?_
    show OEnds p.tables e below G (T1172.setTop (mkF m 73 #[.val (.int p1), .val (.int p2), .val (.int p3), .val (.int p4), .val (.int p5), .val (.int (2 : Int32)), .val (.ref b1140), .val (.ref b1152), .unset, .unset] [(.int (own_eq (0 : Int32) (5 : Int32)))]))
    have hc73_1173 : (own_eq (0 : Int32) (5 : Int32)) = (0 : Int32) := by decide
    refine OEnds.st (fun _ k => XS.ifNo X1172.here hx rfl (hb hby at_73) rfl ((if0 _ _).trans (teq hc73_1173).2) k) ?_
    show OEnds p.tables e below G (T1172.setTop (mkF m 76 #[.val (.int p1), .val (.int p2), .val (.int p3), .val (.int p4), .val (.int p5), .val (.int (2 : Int32)), .val (.ref b1140), .val (.ref b1152), .unset, .unset] []))
    refine OEnds.st (fun _ k => XS.iconst X1172.here hx rfl (hb hby at_76) k) ?_
    show OEnds p.tables e below G (T1172.setTop (mkF m 77 #[.val (.int p1), .val (.int p2), .val (.int p3), .val (.int p4), .val (.int p5), .val (.int (2 : Int32)), .val (.ref b1140), .val (.ref b1152), .unset, .unset] [(.int (1 : Int32))]))
    refine OEnds.st (fun _ k => XS.goto X1172.here hx rfl (pc0 := 77) (pc' := 81) rfl (hb hby at_77) (by decide) (by decide) k) ?_
    show OEnds p.tables e below G (T1172.setTop (mkF m 81 #[.val (.int p1), .val (.int p2), .val (.int p3), .val (.int p4), .val (.int p5), .val (.int (2 : Int32)), .val (.ref b1140), .val (.ref b1152), .unset, .unset] [(.int (1 : Int32))]))
    refine OEnds.st (fun _ k => XS.istore X1172.here hx rfl (hb hby at_81) rfl (l' := #[.val (.int p1), .val (.int p2), .val (.int p3), .val (.int p4), .val (.int p5), .val (.int (2 : Int32)), .val (.ref b1140), .val (.ref b1152), .val (.int (1 : Int32)), .unset]) rfl k) ?_
    show OEnds p.tables e below G (T1172.setTop (mkF m 83 #[.val (.int p1), .val (.int p2), .val (.int p3), .val (.int p4), .val (.int p5), .val (.int (2 : Int32)), .val (.ref b1140), .val (.ref b1152), .val (.int (1 : Int32)), .unset] []))
    refine OEnds.st (fun _ k => XS.aload X1172.here hx rfl (hb hby at_83) rfl rfl k) ?_
    show OEnds p.tables e below G (T1172.setTop (mkF m 85 #[.val (.int p1), .val (.int p2), .val (.int p3), .val (.int p4), .val (.int p5), .val (.int (2 : Int32)), .val (.ref b1140), .val (.ref b1152), .val (.int (1 : Int32)), .unset] [(.ref b1152)]))
    obtain ⟨cq1174, kq1174, q1174a, q1174b, q1174c⟩ := isOf hZ e1172 p1161
    obtain ⟨_, _, ⟨T1174, L1174, k1174c, n1174c⟩, -, X1174, ⟨Lc1174, hQ1174, l1174, y1174, z1174⟩, st1174⟩ := X1172.virtualBack hx (y := (⟨"com/example/nearfar/nearfar/ProtoReader", "embedded", "()Lcom/example/nearfar/nearfar/ProtoReader;"⟩ : MethodName)) (z := (⟨"com/example/nearfar/nearfar/ProtoReader", "embedded", "()Lcom/example/nearfar/nearfar/ProtoReader;"⟩ : MethodName)) hown (mvT hZ (hw _ (List.mem_of_getElem? (i := 27) rfl))) (mvT hZ (hw _ (List.mem_of_getElem? (i := 28) rfl))) (notFace_of_selects (args := #[]) (mvT hZ (hw _ (List.mem_of_getElem? (i := 30) rfl)))) (mvT hZ (hw _ (List.mem_of_getElem? (i := 30) rfl))) (mvT hZ (hw _ (List.mem_of_getElem? (i := 29) rfl))) (by decide) (backOf (W := 0) (rm5 l Z a0 hw [] b1152 b1140 (0 : Int32) (5 : Int32) (0 : Int32) k1140 (5 : Int32) ([(.int ((2 : Int32).toInt8.toInt32)), (.int ((p2 &&& (127 : Int32)).toInt8.toInt32)), (.int ((p3 &&& (127 : Int32)).toInt8.toInt32)), (.int ((p4 &&& (127 : Int32)).toInt8.toInt32)), (.int ((p5 &&& (127 : Int32)).toInt8.toInt32))]) (.int (0 : Int32)) ((2 : Int32).toInt8.toInt32) (1 : Int32) (3 : Int32) T1159.heap n0 Z1159 p1161 p1162 p1163 p1164 p1165 f1166 ge_b1152 ne1153 (by decide) (by decide) (by decide) rfl (own_b8 _) rfl (by decide) (by decide) (by decide) (by decide)) hZ (hw _ (List.mem_of_getElem? (i := 31) rfl)) (hw _ (List.mem_of_getElem? (i := 4) rfl)) (by decide) (by decide)) q1174a q1174c (g := (mkF m 85 #[.val (.int p1), .val (.int p2), .val (.int p3), .val (.int p4), .val (.int p5), .val (.int (2 : Int32)), .val (.ref b1140), .val (.ref b1152), .val (.int (1 : Int32)), .unset] [(.ref b1152)])) rfl (by rw [hml]; rfl) (Steps.refl _) (argsL := []) (rest := []) (lenOf pd_6 rfl) rfl (by show 2 * 0 + _ ≤ _; exact Nat.le_of_eq rfl) (hb hby at_85) (fun _ _ => ⟨rfl, e1172, (by decide : 0 + 1 + 1 + 0 + 0 + 1 ≤ _), (by decide : 0 + 5 + 4 + 0 + 0 + 4 ≤ _)⟩)
    dsimp only [Pt.U, Pt.locs, Pt.cells, Pt.slots] at X1174 l1174 y1174 z1174 st1174 hQ1174
    subst l1174 y1174 z1174
    obtain ⟨b_1174, rfl, N1174q, p1175, p1176, p1177, p1178, p1179, p1180, p1181, p1182, p1183, p1184, p1185, p1186⟩ := hQ1174
    have N1174 := Fr.app N1172 N1174q
    refine OEnds.st (fun _ k => st1174.trans k) ?_
    have ne1187 : b1140 ≠ b_1174 := Nat.ne_of_lt (Nat.lt_of_lt_of_le (f1166).lt p1176)
    have ne1188 : b1152 ≠ b_1174 := Nat.ne_of_lt (Nat.lt_of_lt_of_le (p1161).lt p1176)
    have sz_b_1174 : h0.size ≤ b_1174 := Nat.le_trans KK1159.1 p1176
    have ge_b_1174 : n0 ≤ b_1174 := Nat.le_trans Z1159 p1176
    have f1189 : Arv Z T1174.heap b1140 k1140 .byte (5 : Int32) [(.int ((2 : Int32).toInt8.toInt32)), (.int ((p2 &&& (127 : Int32)).toInt8.toInt32)), (.int ((p3 &&& (127 : Int32)).toInt8.toInt32)), (.int ((p4 &&& (127 : Int32)).toInt8.toInt32)), (.int ((p5 &&& (127 : Int32)).toInt8.toInt32))] (.int (0 : Int32)) := f1166.keep p1175 (by simp only [List.mem_cons, List.not_mem_nil, or_false, not_or]; exact ne1153)
    have f1190 : Exa Z T1174.heap b1152 "com/example/nearfar/nearfar/ProtoReader" := p1161.keep p1175
    have KK1174 : Keep h0 T1174.heap [] := KK1159.trans p1175 (fun x hx => by cases List.mem_singleton.mp hx; exact Or.inr sz_b1152)
    have Z1174 := Nat.le_trans Z1159 p1175.1
    show OEnds p.tables e below G (T1174.setTop (mkF m 88 #[.val (.int p1), .val (.int p2), .val (.int p3), .val (.int p4), .val (.int p5), .val (.int (2 : Int32)), .val (.ref b1140), .val (.ref b1152), .val (.int (1 : Int32)), .unset] [(.ref b_1174)]))
    refine OEnds.st (fun _ k => XS.astore X1174.here hx rfl (hb hby at_88) rfl rfl (l' := #[.val (.int p1), .val (.int p2), .val (.int p3), .val (.int p4), .val (.int p5), .val (.int (2 : Int32)), .val (.ref b1140), .val (.ref b1152), .val (.int (1 : Int32)), .val (.ref b_1174)]) rfl k) ?_
    show OEnds p.tables e below G (T1174.setTop (mkF m 90 #[.val (.int p1), .val (.int p2), .val (.int p3), .val (.int p4), .val (.int p5), .val (.int (2 : Int32)), .val (.ref b1140), .val (.ref b1152), .val (.int (1 : Int32)), .val (.ref b_1174)] []))
    refine OEnds.st (fun _ k => XS.iload X1174.here hx rfl (hb hby at_90) rfl k) ?_
    show OEnds p.tables e below G (T1174.setTop (mkF m 92 #[.val (.int p1), .val (.int p2), .val (.int p3), .val (.int p4), .val (.int p5), .val (.int (2 : Int32)), .val (.ref b1140), .val (.ref b1152), .val (.int (1 : Int32)), .val (.ref b_1174)] [(.int (1 : Int32))]))
    refine OEnds.st (fun _ k => XS.aload X1174.here hx rfl (hb hby at_92) rfl rfl k) ?_
    show OEnds p.tables e below G (T1174.setTop (mkF m 94 #[.val (.int p1), .val (.int p2), .val (.int p3), .val (.int p4), .val (.int p5), .val (.int (2 : Int32)), .val (.ref b1140), .val (.ref b1152), .val (.int (1 : Int32)), .val (.ref b_1174)] [(.ref b1152), (.int (1 : Int32))]))
    obtain ⟨cq1195, kq1195, q1195a, q1195b, q1195c⟩ := isOf hZ rfl p1177
    obtain ⟨_, _, ⟨T1195, L1195, k1195c, n1195c⟩, -, X1195, ⟨Lc1195, hQ1195, l1195, y1195, z1195⟩, st1195⟩ := X1174.virtualBack hx (y := (⟨"com/example/nearfar/nearfar/ProtoReader", "atEnd", "()Z"⟩ : MethodName)) (z := (⟨"com/example/nearfar/nearfar/ProtoReader", "atEnd", "()Z"⟩ : MethodName)) hown (mvT hZ (hw _ (List.mem_of_getElem? (i := 22) rfl))) (mvT hZ (hw _ (List.mem_of_getElem? (i := 23) rfl))) (notFace_of_selects (args := #[]) (mvT hZ (hw _ (List.mem_of_getElem? (i := 25) rfl)))) (mvT hZ (hw _ (List.mem_of_getElem? (i := 25) rfl))) (mvT hZ (hw _ (List.mem_of_getElem? (i := 24) rfl))) (by decide) (backOf (W := 1) (rm4 l Z a0 hw [] b1152 (3 : Int32) (5 : Int32) T1174.heap n0 Z1174 p1179 p1180) hZ (hw _ (List.mem_of_getElem? (i := 26) rfl)) (hw _ (List.mem_of_getElem? (i := 4) rfl)) (by decide) (by decide)) q1195a q1195c (g := (mkF m 94 #[.val (.int p1), .val (.int p2), .val (.int p3), .val (.int p4), .val (.int p5), .val (.int (2 : Int32)), .val (.ref b1140), .val (.ref b1152), .val (.int (1 : Int32)), .val (.ref b_1174)] [(.ref b1152), (.int (1 : Int32))])) rfl (by rw [hml]; rfl) (Steps.refl _) (argsL := []) (rest := [(.int (1 : Int32))]) (lenOf pd_5 rfl) rfl (by show 2 * 0 + _ ≤ _; exact Nat.le_of_eq rfl) (hb hby at_94) (fun _ _ => ⟨rfl, rfl, (by decide : 0 + 1 + 1 + 0 + 0 + 1 + 0 ≤ _), (by decide : 0 + 5 + 4 + 0 + 0 + 4 + 0 ≤ _)⟩)
    dsimp only [Pt.U, Pt.locs, Pt.cells, Pt.slots] at X1195 l1195 y1195 z1195 st1195 hQ1195
    subst l1195 y1195 z1195
    obtain ⟨rfl, N1195q, e1195⟩ := hQ1195
    have N1195 := Fr.app N1174 N1195q
    refine OEnds.st (fun _ k => st1195.trans k) ?_
    show OEnds p.tables e below G (T1195.setTop (mkF m 97 #[.val (.int p1), .val (.int p2), .val (.int p3), .val (.int p4), .val (.int p5), .val (.int (2 : Int32)), .val (.ref b1140), .val (.ref b1152), .val (.int (1 : Int32)), .val (.ref b_1174)] [(.int (own_eq (3 : Int32) (5 : Int32))), (.int (1 : Int32))]))
    refine OEnds.st (fun _ k => XS.iload X1195.here hx rfl (hb hby at_97) rfl k) ?_
    show OEnds p.tables e below G (T1195.setTop (mkF m 99 #[.val (.int p1), .val (.int p2), .val (.int p3), .val (.int p4), .val (.int p5), .val (.int (2 : Int32)), .val (.ref b1140), .val (.ref b1152), .val (.int (1 : Int32)), .val (.ref b_1174)] [(.int (2 : Int32)), (.int (own_eq (3 : Int32) (5 : Int32))), (.int (1 : Int32))]))
    refine OEnds.st (fun _ k => XS.iconst X1195.here hx rfl (hb hby at_99) k) ?_
    show OEnds p.tables e below G (T1195.setTop (mkF m 100 #[.val (.int p1), .val (.int p2), .val (.int p3), .val (.int p4), .val (.int p5), .val (.int (2 : Int32)), .val (.ref b1140), .val (.ref b1152), .val (.int (1 : Int32)), .val (.ref b_1174)] [(.int (4 : Int32)), (.int (2 : Int32)), (.int (own_eq (3 : Int32) (5 : Int32))), (.int (1 : Int32))]))
    refine OEnds.st (fun _ k => XS.icmpYes X1195.here hx rfl (pc0 := 100) (pc' := 107) rfl (hb hby at_100) rfl (feq (by decide : ¬ ((2 : Int32) = (4 : Int32)))).2 (by decide) (by decide) k) ?_
    show OEnds p.tables e below G (T1195.setTop (mkF m 107 #[.val (.int p1), .val (.int p2), .val (.int p3), .val (.int p4), .val (.int p5), .val (.int (2 : Int32)), .val (.ref b1140), .val (.ref b1152), .val (.int (1 : Int32)), .val (.ref b_1174)] [(.int (own_eq (3 : Int32) (5 : Int32))), (.int (1 : Int32))]))
    refine OEnds.st (fun _ k => XS.iconst X1195.here hx rfl (hb hby at_107) k) ?_
    show OEnds p.tables e below G (T1195.setTop (mkF m 108 #[.val (.int p1), .val (.int p2), .val (.int p3), .val (.int p4), .val (.int p5), .val (.int (2 : Int32)), .val (.ref b1140), .val (.ref b1152), .val (.int (1 : Int32)), .val (.ref b_1174)] [(.int (0 : Int32)), (.int (own_eq (3 : Int32) (5 : Int32))), (.int (1 : Int32))]))
    have hc108_1196 : (own_eq (3 : Int32) (5 : Int32)) = (0 : Int32) := by decide
    refine OEnds.st (fun _ k => XS.icmpNo X1195.here hx rfl (hb hby at_108) rfl (teq hc108_1196).2 k) ?_
    show OEnds p.tables e below G (T1195.setTop (mkF m 111 #[.val (.int p1), .val (.int p2), .val (.int p3), .val (.int p4), .val (.int p5), .val (.int (2 : Int32)), .val (.ref b1140), .val (.ref b1152), .val (.int (1 : Int32)), .val (.ref b_1174)] [(.int (1 : Int32))]))
    refine OEnds.st (fun _ k => XS.iconst X1195.here hx rfl (hb hby at_111) k) ?_
    show OEnds p.tables e below G (T1195.setTop (mkF m 112 #[.val (.int p1), .val (.int p2), .val (.int p3), .val (.int p4), .val (.int p5), .val (.int (2 : Int32)), .val (.ref b1140), .val (.ref b1152), .val (.int (1 : Int32)), .val (.ref b_1174)] [(.int (1 : Int32)), (.int (1 : Int32))]))
    refine OEnds.st (fun _ k => XS.goto X1195.here hx rfl (pc0 := 112) (pc' := 116) rfl (hb hby at_112) (by decide) (by decide) k) ?_
    show OEnds p.tables e below G (T1195.setTop (mkF m 116 #[.val (.int p1), .val (.int p2), .val (.int p3), .val (.int p4), .val (.int p5), .val (.int (2 : Int32)), .val (.ref b1140), .val (.ref b1152), .val (.int (1 : Int32)), .val (.ref b_1174)] [(.int (1 : Int32)), (.int (1 : Int32))]))
    refine OEnds.st (fun _ k => XS.iand X1195.here hx rfl (hb hby at_116) rfl k) ?_
    show OEnds p.tables e below G (T1195.setTop (mkF m 117 #[.val (.int p1), .val (.int p2), .val (.int p3), .val (.int p4), .val (.int p5), .val (.int (2 : Int32)), .val (.ref b1140), .val (.ref b1152), .val (.int (1 : Int32)), .val (.ref b_1174)] [(.int ((1 : Int32) &&& (1 : Int32)))]))
    refine OEnds.st (fun _ k => XS.istore X1195.here hx rfl (hb hby at_117) rfl (l' := #[.val (.int p1), .val (.int p2), .val (.int p3), .val (.int p4), .val (.int p5), .val (.int (2 : Int32)), .val (.ref b1140), .val (.ref b1152), .val (.int ((1 : Int32) &&& (1 : Int32))), .val (.ref b_1174)]) rfl k) ?_
    show OEnds p.tables e below G (T1195.setTop (mkF m 119 #[.val (.int p1), .val (.int p2), .val (.int p3), .val (.int p4), .val (.int p5), .val (.int (2 : Int32)), .val (.ref b1140), .val (.ref b1152), .val (.int ((1 : Int32) &&& (1 : Int32))), .val (.ref b_1174)] []))
    rw [show ((1 : Int32) &&& (1 : Int32)) = (1 : Int32) from by decide]
    show OEnds p.tables e below G (T1195.setTop (mkF m 119 #[.val (.int p1), .val (.int p2), .val (.int p3), .val (.int p4), .val (.int p5), .val (.int (2 : Int32)), .val (.ref b1140), .val (.ref b1152), .val (.int (1 : Int32)), .val (.ref b_1174)] []))
    refine OEnds.st (fun _ k => XS.iload X1195.here hx rfl (hb hby at_119) rfl k) ?_
    show OEnds p.tables e below G (T1195.setTop (mkF m 121 #[.val (.int p1), .val (.int p2), .val (.int p3), .val (.int p4), .val (.int p5), .val (.int (2 : Int32)), .val (.ref b1140), .val (.ref b1152), .val (.int (1 : Int32)), .val (.ref b_1174)] [(.int (1 : Int32))]))
    refine OEnds.st (fun _ k => XS.aload X1195.here hx rfl (hb hby at_121) rfl rfl k) ?_
    show OEnds p.tables e below G (T1195.setTop (mkF m 123 #[.val (.int p1), .val (.int p2), .val (.int p3), .val (.int p4), .val (.int p5), .val (.int (2 : Int32)), .val (.ref b1140), .val (.ref b1152), .val (.int (1 : Int32)), .val (.ref b_1174)] [(.ref b_1174), (.int (1 : Int32))]))
    obtain ⟨cq1197, kq1197, q1197a, q1197b, q1197c⟩ := isOf hZ e1195 p1182
    obtain ⟨_, _, ⟨T1197, L1197, k1197c, n1197c⟩, -, X1197, ⟨Lc1197, hQ1197, l1197, y1197, z1197⟩, st1197⟩ := X1195.virtualBack hx (y := (⟨"com/example/nearfar/nearfar/ProtoReader", "atEnd", "()Z"⟩ : MethodName)) (z := (⟨"com/example/nearfar/nearfar/ProtoReader", "atEnd", "()Z"⟩ : MethodName)) hown (mvT hZ (hw _ (List.mem_of_getElem? (i := 22) rfl))) (mvT hZ (hw _ (List.mem_of_getElem? (i := 23) rfl))) (notFace_of_selects (args := #[]) (mvT hZ (hw _ (List.mem_of_getElem? (i := 25) rfl)))) (mvT hZ (hw _ (List.mem_of_getElem? (i := 25) rfl))) (mvT hZ (hw _ (List.mem_of_getElem? (i := 24) rfl))) (by decide) (backOf (W := 1) (rm4 l Z a0 hw [] b_1174 (1 : Int32) (3 : Int32) T1174.heap n0 Z1174 p1184 p1185) hZ (hw _ (List.mem_of_getElem? (i := 26) rfl)) (hw _ (List.mem_of_getElem? (i := 4) rfl)) (by decide) (by decide)) q1197a q1197c (g := (mkF m 123 #[.val (.int p1), .val (.int p2), .val (.int p3), .val (.int p4), .val (.int p5), .val (.int (2 : Int32)), .val (.ref b1140), .val (.ref b1152), .val (.int (1 : Int32)), .val (.ref b_1174)] [(.ref b_1174), (.int (1 : Int32))])) rfl (by rw [hml]; rfl) (Steps.refl _) (argsL := []) (rest := [(.int (1 : Int32))]) (lenOf pd_5 rfl) rfl (by show 2 * 0 + _ ≤ _; exact Nat.le_of_eq rfl) (hb hby at_123) (fun _ _ => ⟨rfl, e1195, (by decide : 0 + 1 + 1 + 0 + 0 + 1 + 0 + 0 ≤ _), (by decide : 0 + 5 + 4 + 0 + 0 + 4 + 0 + 0 ≤ _)⟩)
    dsimp only [Pt.U, Pt.locs, Pt.cells, Pt.slots] at X1197 l1197 y1197 z1197 st1197 hQ1197
    subst l1197 y1197 z1197
    obtain ⟨rfl, N1197q, e1197⟩ := hQ1197
    have N1197 := Fr.app N1195 N1197q
    refine OEnds.st (fun _ k => st1197.trans k) ?_
    show OEnds p.tables e below G (T1197.setTop (mkF m 126 #[.val (.int p1), .val (.int p2), .val (.int p3), .val (.int p4), .val (.int p5), .val (.int (2 : Int32)), .val (.ref b1140), .val (.ref b1152), .val (.int (1 : Int32)), .val (.ref b_1174)] [(.int (own_eq (1 : Int32) (3 : Int32))), (.int (1 : Int32))]))
    refine OEnds.st (fun _ k => XS.iload X1197.here hx rfl (hb hby at_126) rfl k) ?_
    show OEnds p.tables e below G (T1197.setTop (mkF m 128 #[.val (.int p1), .val (.int p2), .val (.int p3), .val (.int p4), .val (.int p5), .val (.int (2 : Int32)), .val (.ref b1140), .val (.ref b1152), .val (.int (1 : Int32)), .val (.ref b_1174)] [(.int (2 : Int32)), (.int (own_eq (1 : Int32) (3 : Int32))), (.int (1 : Int32))]))
    refine OEnds.st (fun _ k => XS.ifYes X1197.here hx rfl (pc0 := 128) (pc' := 135) rfl (hb hby at_128) rfl ((if0 _ _).trans (feq (by decide : ¬ ((2 : Int32) = (0 : Int32)))).2) (by decide) (by decide) k) ?_
    show OEnds p.tables e below G (T1197.setTop (mkF m 135 #[.val (.int p1), .val (.int p2), .val (.int p3), .val (.int p4), .val (.int p5), .val (.int (2 : Int32)), .val (.ref b1140), .val (.ref b1152), .val (.int (1 : Int32)), .val (.ref b_1174)] [(.int (own_eq (1 : Int32) (3 : Int32))), (.int (1 : Int32))]))
    refine OEnds.st (fun _ k => XS.iconst X1197.here hx rfl (hb hby at_135) k) ?_
    show OEnds p.tables e below G (T1197.setTop (mkF m 136 #[.val (.int p1), .val (.int p2), .val (.int p3), .val (.int p4), .val (.int p5), .val (.int (2 : Int32)), .val (.ref b1140), .val (.ref b1152), .val (.int (1 : Int32)), .val (.ref b_1174)] [(.int (0 : Int32)), (.int (own_eq (1 : Int32) (3 : Int32))), (.int (1 : Int32))]))
    have hc136_1198 : (own_eq (1 : Int32) (3 : Int32)) = (0 : Int32) := by decide
    refine OEnds.st (fun _ k => XS.icmpNo X1197.here hx rfl (hb hby at_136) rfl (teq hc136_1198).2 k) ?_
    show OEnds p.tables e below G (T1197.setTop (mkF m 139 #[.val (.int p1), .val (.int p2), .val (.int p3), .val (.int p4), .val (.int p5), .val (.int (2 : Int32)), .val (.ref b1140), .val (.ref b1152), .val (.int (1 : Int32)), .val (.ref b_1174)] [(.int (1 : Int32))]))
    refine OEnds.st (fun _ k => XS.iconst X1197.here hx rfl (hb hby at_139) k) ?_
    show OEnds p.tables e below G (T1197.setTop (mkF m 140 #[.val (.int p1), .val (.int p2), .val (.int p3), .val (.int p4), .val (.int p5), .val (.int (2 : Int32)), .val (.ref b1140), .val (.ref b1152), .val (.int (1 : Int32)), .val (.ref b_1174)] [(.int (1 : Int32)), (.int (1 : Int32))]))
    refine OEnds.st (fun _ k => XS.goto X1197.here hx rfl (pc0 := 140) (pc' := 144) rfl (hb hby at_140) (by decide) (by decide) k) ?_
    show OEnds p.tables e below G (T1197.setTop (mkF m 144 #[.val (.int p1), .val (.int p2), .val (.int p3), .val (.int p4), .val (.int p5), .val (.int (2 : Int32)), .val (.ref b1140), .val (.ref b1152), .val (.int (1 : Int32)), .val (.ref b_1174)] [(.int (1 : Int32)), (.int (1 : Int32))]))
    refine OEnds.st (fun _ k => XS.iand X1197.here hx rfl (hb hby at_144) rfl k) ?_
    show OEnds p.tables e below G (T1197.setTop (mkF m 145 #[.val (.int p1), .val (.int p2), .val (.int p3), .val (.int p4), .val (.int p5), .val (.int (2 : Int32)), .val (.ref b1140), .val (.ref b1152), .val (.int (1 : Int32)), .val (.ref b_1174)] [(.int ((1 : Int32) &&& (1 : Int32)))]))
    refine OEnds.st (fun _ k => XS.istore X1197.here hx rfl (hb hby at_145) rfl (l' := #[.val (.int p1), .val (.int p2), .val (.int p3), .val (.int p4), .val (.int p5), .val (.int (2 : Int32)), .val (.ref b1140), .val (.ref b1152), .val (.int ((1 : Int32) &&& (1 : Int32))), .val (.ref b_1174)]) rfl k) ?_
    show OEnds p.tables e below G (T1197.setTop (mkF m 147 #[.val (.int p1), .val (.int p2), .val (.int p3), .val (.int p4), .val (.int p5), .val (.int (2 : Int32)), .val (.ref b1140), .val (.ref b1152), .val (.int ((1 : Int32) &&& (1 : Int32))), .val (.ref b_1174)] []))
    rw [show ((1 : Int32) &&& (1 : Int32)) = (1 : Int32) from by decide]
    show OEnds p.tables e below G (T1197.setTop (mkF m 147 #[.val (.int p1), .val (.int p2), .val (.int p3), .val (.int p4), .val (.int p5), .val (.int (2 : Int32)), .val (.ref b1140), .val (.ref b1152), .val (.int (1 : Int32)), .val (.ref b_1174)] []))
    refine OEnds.st (fun _ k => XS.iload X1197.here hx rfl (hb hby at_147) rfl k) ?_
    show OEnds p.tables e below G (T1197.setTop (mkF m 149 #[.val (.int p1), .val (.int p2), .val (.int p3), .val (.int p4), .val (.int p5), .val (.int (2 : Int32)), .val (.ref b1140), .val (.ref b1152), .val (.int (1 : Int32)), .val (.ref b_1174)] [(.int (2 : Int32))]))
    refine OEnds.st (fun _ k => XS.iconst X1197.here hx rfl (hb hby at_149) k) ?_
    show OEnds p.tables e below G (T1197.setTop (mkF m 150 #[.val (.int p1), .val (.int p2), .val (.int p3), .val (.int p4), .val (.int p5), .val (.int (2 : Int32)), .val (.ref b1140), .val (.ref b1152), .val (.int (1 : Int32)), .val (.ref b_1174)] [(.int (1 : Int32)), (.int (2 : Int32))]))
    refine OEnds.st (fun _ k => XS.icmpNo X1197.here hx rfl (hb hby at_150) rfl (flt (by decide : ¬ ((2 : Int32) < (1 : Int32)))).1 k) ?_
    show OEnds p.tables e below G (T1197.setTop (mkF m 153 #[.val (.int p1), .val (.int p2), .val (.int p3), .val (.int p4), .val (.int p5), .val (.int (2 : Int32)), .val (.ref b1140), .val (.ref b1152), .val (.int (1 : Int32)), .val (.ref b_1174)] []))
    refine OEnds.st (fun _ k => XS.aload X1197.here hx rfl (hb hby at_153) rfl rfl k) ?_
    show OEnds p.tables e below G (T1197.setTop (mkF m 155 #[.val (.int p1), .val (.int p2), .val (.int p3), .val (.int p4), .val (.int p5), .val (.int (2 : Int32)), .val (.ref b1140), .val (.ref b1152), .val (.int (1 : Int32)), .val (.ref b_1174)] [(.ref b_1174)]))
    obtain ⟨cq1199, kq1199, q1199a, q1199b, q1199c⟩ := isOf hZ e1197 p1182
    obtain ⟨_, _, ⟨T1199, L1199, k1199c, n1199c⟩, -, X1199, ⟨Lc1199, hQ1199, l1199, y1199, z1199⟩, st1199⟩ := X1197.virtualBack hx (y := (⟨"com/example/nearfar/nearfar/ProtoReader", "varint", "()J"⟩ : MethodName)) (z := (⟨"com/example/nearfar/nearfar/ProtoReader", "varint", "()J"⟩ : MethodName)) hown (mvT hZ (hw _ (List.mem_of_getElem? (i := 46) rfl))) (mvT hZ (hw _ (List.mem_of_getElem? (i := 37) rfl))) (notFace_of_selects (args := #[]) (mvT hZ (hw _ (List.mem_of_getElem? (i := 39) rfl)))) (mvT hZ (hw _ (List.mem_of_getElem? (i := 39) rfl))) (mvT hZ (hw _ (List.mem_of_getElem? (i := 38) rfl))) (by decide) (backOf (W := 0) (rm7 l Z a0 hw [] b_1174 b1140 (1 : Int32) (3 : Int32) (0 : Int32) k1140 (5 : Int32) ([(.int ((2 : Int32).toInt8.toInt32)), (.int ((p2 &&& (127 : Int32)).toInt8.toInt32)), (.int ((p3 &&& (127 : Int32)).toInt8.toInt32)), (.int ((p4 &&& (127 : Int32)).toInt8.toInt32)), (.int ((p5 &&& (127 : Int32)).toInt8.toInt32))]) (.int (0 : Int32)) ((p2 &&& (127 : Int32)).toInt8.toInt32) (2 : Int32) T1174.heap n0 Z1174 p1182 p1183 p1184 p1185 p1186 f1189 ge_b_1174 ne1187 (by decide) (by decide) (by decide) rfl (own_b8 _) rfl (own_nn p2)) hZ (hw _ (List.mem_of_getElem? (i := 40) rfl)) (hw _ (List.mem_of_getElem? (i := 4) rfl)) (by decide) (by decide)) q1199a q1199c (g := (mkF m 155 #[.val (.int p1), .val (.int p2), .val (.int p3), .val (.int p4), .val (.int p5), .val (.int (2 : Int32)), .val (.ref b1140), .val (.ref b1152), .val (.int (1 : Int32)), .val (.ref b_1174)] [(.ref b_1174)])) rfl (by rw [hml]; rfl) (Steps.refl _) (argsL := []) (rest := []) (lenOf pd_2 rfl) rfl (by show 2 * 0 + _ ≤ _; exact Nat.le_of_eq rfl) (hb hby at_155) (fun _ _ => ⟨rfl, e1197, (by decide : 0 + 1 + 1 + 0 + 0 + 1 + 0 + 0 + 0 ≤ _), (by decide : 0 + 5 + 4 + 0 + 0 + 4 + 0 + 0 + 0 ≤ _)⟩)
    dsimp only [Pt.U, Pt.locs, Pt.cells, Pt.slots] at X1199 l1199 y1199 z1199 st1199 hQ1199
    subst l1199 y1199 z1199
    obtain ⟨rfl, N1199q, p1200, p1201, p1202, p1203, p1204, p1205⟩ := hQ1199
    have N1199 := Fr.app N1197 N1199q
    refine OEnds.st (fun _ k => st1199.trans k) ?_
    have f1206 : Arv Z T1199.heap b1140 k1140 .byte (5 : Int32) [(.int ((2 : Int32).toInt8.toInt32)), (.int ((p2 &&& (127 : Int32)).toInt8.toInt32)), (.int ((p3 &&& (127 : Int32)).toInt8.toInt32)), (.int ((p4 &&& (127 : Int32)).toInt8.toInt32)), (.int ((p5 &&& (127 : Int32)).toInt8.toInt32))] (.int (0 : Int32)) := f1189.keep p1200 (by simp only [List.mem_cons, List.not_mem_nil, or_false, not_or]; exact ne1187)
    have f1207 : Exa Z T1199.heap b1152 "com/example/nearfar/nearfar/ProtoReader" := p1177.keep p1200
    have f1208 : Fld Z T1199.heap b1152 "com/example/nearfar/nearfar/ProtoReader" "bytes" "[B" (.ref b1140) := p1178.keep p1200 (by simp only [List.mem_cons, List.not_mem_nil, or_false, not_or]; exact ne1188)
    have f1209 : Fld Z T1199.heap b1152 "com/example/nearfar/nearfar/ProtoReader" "position" "I" (.int (3 : Int32)) := p1179.keep p1200 (by simp only [List.mem_cons, List.not_mem_nil, or_false, not_or]; exact ne1188)
    have f1210 : Fld Z T1199.heap b1152 "com/example/nearfar/nearfar/ProtoReader" "end" "I" (.int (5 : Int32)) := p1180.keep p1200 (by simp only [List.mem_cons, List.not_mem_nil, or_false, not_or]; exact ne1188)
    have f1211 : Fld Z T1199.heap b1152 "com/example/nearfar/nearfar/ProtoReader" "depth" "I" (.int (0 : Int32)) := p1181.keep p1200 (by simp only [List.mem_cons, List.not_mem_nil, or_false, not_or]; exact ne1188)
    have f1212 : Exa Z T1199.heap b_1174 "com/example/nearfar/nearfar/ProtoReader" := p1182.keep p1200
    have KK1199 : Keep h0 T1199.heap [] := KK1174.trans p1200 (fun x hx => by cases List.mem_singleton.mp hx; exact Or.inr sz_b_1174)
    have Z1199 := Nat.le_trans Z1174 p1200.1
    show OEnds p.tables e below G (T1199.setTop (mkF m 158 #[.val (.int p1), .val (.int p2), .val (.int p3), .val (.int p4), .val (.int p5), .val (.int (2 : Int32)), .val (.ref b1140), .val (.ref b1152), .val (.int (1 : Int32)), .val (.ref b_1174)] [(.long (own_vi ((p2 &&& (127 : Int32)).toInt8.toInt32)))]))
    refine OEnds.st (B := T1199.setTop (mkF m 159 #[.val (.int p1), .val (.int p2), .val (.int p3), .val (.int p4), .val (.int p5), .val (.int (2 : Int32)), .val (.ref b1140), .val (.ref b1152), .val (.int (1 : Int32)), .val (.ref b_1174)] [])) (fun _ k => ?_) ?_
    · jvm_step X1199.here [X1199.here.top, hx, (hb hby at_158), Value.category]
      exact k
    show OEnds p.tables e below G (T1199.setTop (mkF m 159 #[.val (.int p1), .val (.int p2), .val (.int p3), .val (.int p4), .val (.int p5), .val (.int (2 : Int32)), .val (.ref b1140), .val (.ref b1152), .val (.int (1 : Int32)), .val (.ref b_1174)] []))
    refine OEnds.st (fun _ k => XS.iload X1199.here hx rfl (hb hby at_159) rfl k) ?_
    show OEnds p.tables e below G (T1199.setTop (mkF m 161 #[.val (.int p1), .val (.int p2), .val (.int p3), .val (.int p4), .val (.int p5), .val (.int (2 : Int32)), .val (.ref b1140), .val (.ref b1152), .val (.int (1 : Int32)), .val (.ref b_1174)] [(.int (1 : Int32))]))
    refine OEnds.st (fun _ k => XS.aload X1199.here hx rfl (hb hby at_161) rfl rfl k) ?_
    show OEnds p.tables e below G (T1199.setTop (mkF m 163 #[.val (.int p1), .val (.int p2), .val (.int p3), .val (.int p4), .val (.int p5), .val (.int (2 : Int32)), .val (.ref b1140), .val (.ref b1152), .val (.int (1 : Int32)), .val (.ref b_1174)] [(.ref b_1174), (.int (1 : Int32))]))
    obtain ⟨cq1217, kq1217, q1217a, q1217b, q1217c⟩ := isOf hZ rfl p1201
    obtain ⟨_, _, ⟨T1217, L1217, k1217c, n1217c⟩, -, X1217, ⟨Lc1217, hQ1217, l1217, y1217, z1217⟩, st1217⟩ := X1199.virtualBack hx (y := (⟨"com/example/nearfar/nearfar/ProtoReader", "atEnd", "()Z"⟩ : MethodName)) (z := (⟨"com/example/nearfar/nearfar/ProtoReader", "atEnd", "()Z"⟩ : MethodName)) hown (mvT hZ (hw _ (List.mem_of_getElem? (i := 22) rfl))) (mvT hZ (hw _ (List.mem_of_getElem? (i := 23) rfl))) (notFace_of_selects (args := #[]) (mvT hZ (hw _ (List.mem_of_getElem? (i := 25) rfl)))) (mvT hZ (hw _ (List.mem_of_getElem? (i := 25) rfl))) (mvT hZ (hw _ (List.mem_of_getElem? (i := 24) rfl))) (by decide) (backOf (W := 1) (rm4 l Z a0 hw [] b_1174 (2 : Int32) (3 : Int32) T1199.heap n0 Z1199 p1203 p1204) hZ (hw _ (List.mem_of_getElem? (i := 26) rfl)) (hw _ (List.mem_of_getElem? (i := 4) rfl)) (by decide) (by decide)) q1217a q1217c (g := (mkF m 163 #[.val (.int p1), .val (.int p2), .val (.int p3), .val (.int p4), .val (.int p5), .val (.int (2 : Int32)), .val (.ref b1140), .val (.ref b1152), .val (.int (1 : Int32)), .val (.ref b_1174)] [(.ref b_1174), (.int (1 : Int32))])) rfl (by rw [hml]; rfl) (Steps.refl _) (argsL := []) (rest := [(.int (1 : Int32))]) (lenOf pd_5 rfl) rfl (by show 2 * 0 + _ ≤ _; exact Nat.le_of_eq rfl) (hb hby at_163) (fun _ _ => ⟨rfl, rfl, (by decide : 0 + 1 + 1 + 0 + 0 + 1 + 0 + 0 + 0 + 0 ≤ _), (by decide : 0 + 5 + 4 + 0 + 0 + 4 + 0 + 0 + 0 + 0 ≤ _)⟩)
    dsimp only [Pt.U, Pt.locs, Pt.cells, Pt.slots] at X1217 l1217 y1217 z1217 st1217 hQ1217
    subst l1217 y1217 z1217
    obtain ⟨rfl, N1217q, e1217⟩ := hQ1217
    have N1217 := Fr.app N1199 N1217q
    refine OEnds.st (fun _ k => st1217.trans k) ?_
    show OEnds p.tables e below G (T1217.setTop (mkF m 166 #[.val (.int p1), .val (.int p2), .val (.int p3), .val (.int p4), .val (.int p5), .val (.int (2 : Int32)), .val (.ref b1140), .val (.ref b1152), .val (.int (1 : Int32)), .val (.ref b_1174)] [(.int (own_eq (2 : Int32) (3 : Int32))), (.int (1 : Int32))]))
    refine OEnds.st (fun _ k => XS.iload X1217.here hx rfl (hb hby at_166) rfl k) ?_
    show OEnds p.tables e below G (T1217.setTop (mkF m 168 #[.val (.int p1), .val (.int p2), .val (.int p3), .val (.int p4), .val (.int p5), .val (.int (2 : Int32)), .val (.ref b1140), .val (.ref b1152), .val (.int (1 : Int32)), .val (.ref b_1174)] [(.int (2 : Int32)), (.int (own_eq (2 : Int32) (3 : Int32))), (.int (1 : Int32))]))
    refine OEnds.st (fun _ k => XS.iconst X1217.here hx rfl (hb hby at_168) k) ?_
    show OEnds p.tables e below G (T1217.setTop (mkF m 169 #[.val (.int p1), .val (.int p2), .val (.int p3), .val (.int p4), .val (.int p5), .val (.int (2 : Int32)), .val (.ref b1140), .val (.ref b1152), .val (.int (1 : Int32)), .val (.ref b_1174)] [(.int (1 : Int32)), (.int (2 : Int32)), (.int (own_eq (2 : Int32) (3 : Int32))), (.int (1 : Int32))]))
    refine OEnds.st (fun _ k => XS.icmpYes X1217.here hx rfl (pc0 := 169) (pc' := 176) rfl (hb hby at_169) rfl (feq (by decide : ¬ ((2 : Int32) = (1 : Int32)))).2 (by decide) (by decide) k) ?_
    show OEnds p.tables e below G (T1217.setTop (mkF m 176 #[.val (.int p1), .val (.int p2), .val (.int p3), .val (.int p4), .val (.int p5), .val (.int (2 : Int32)), .val (.ref b1140), .val (.ref b1152), .val (.int (1 : Int32)), .val (.ref b_1174)] [(.int (own_eq (2 : Int32) (3 : Int32))), (.int (1 : Int32))]))
    refine OEnds.st (fun _ k => XS.iconst X1217.here hx rfl (hb hby at_176) k) ?_
    show OEnds p.tables e below G (T1217.setTop (mkF m 177 #[.val (.int p1), .val (.int p2), .val (.int p3), .val (.int p4), .val (.int p5), .val (.int (2 : Int32)), .val (.ref b1140), .val (.ref b1152), .val (.int (1 : Int32)), .val (.ref b_1174)] [(.int (0 : Int32)), (.int (own_eq (2 : Int32) (3 : Int32))), (.int (1 : Int32))]))
    have hc177_1218 : (own_eq (2 : Int32) (3 : Int32)) = (0 : Int32) := by decide
    refine OEnds.st (fun _ k => XS.icmpNo X1217.here hx rfl (hb hby at_177) rfl (teq hc177_1218).2 k) ?_
    show OEnds p.tables e below G (T1217.setTop (mkF m 180 #[.val (.int p1), .val (.int p2), .val (.int p3), .val (.int p4), .val (.int p5), .val (.int (2 : Int32)), .val (.ref b1140), .val (.ref b1152), .val (.int (1 : Int32)), .val (.ref b_1174)] [(.int (1 : Int32))]))
    refine OEnds.st (fun _ k => XS.iconst X1217.here hx rfl (hb hby at_180) k) ?_
    show OEnds p.tables e below G (T1217.setTop (mkF m 181 #[.val (.int p1), .val (.int p2), .val (.int p3), .val (.int p4), .val (.int p5), .val (.int (2 : Int32)), .val (.ref b1140), .val (.ref b1152), .val (.int (1 : Int32)), .val (.ref b_1174)] [(.int (1 : Int32)), (.int (1 : Int32))]))
    refine OEnds.st (fun _ k => XS.goto X1217.here hx rfl (pc0 := 181) (pc' := 185) rfl (hb hby at_181) (by decide) (by decide) k) ?_
    show OEnds p.tables e below G (T1217.setTop (mkF m 185 #[.val (.int p1), .val (.int p2), .val (.int p3), .val (.int p4), .val (.int p5), .val (.int (2 : Int32)), .val (.ref b1140), .val (.ref b1152), .val (.int (1 : Int32)), .val (.ref b_1174)] [(.int (1 : Int32)), (.int (1 : Int32))]))
    refine OEnds.st (fun _ k => XS.iand X1217.here hx rfl (hb hby at_185) rfl k) ?_
    show OEnds p.tables e below G (T1217.setTop (mkF m 186 #[.val (.int p1), .val (.int p2), .val (.int p3), .val (.int p4), .val (.int p5), .val (.int (2 : Int32)), .val (.ref b1140), .val (.ref b1152), .val (.int (1 : Int32)), .val (.ref b_1174)] [(.int ((1 : Int32) &&& (1 : Int32)))]))
    refine OEnds.st (fun _ k => XS.istore X1217.here hx rfl (hb hby at_186) rfl (l' := #[.val (.int p1), .val (.int p2), .val (.int p3), .val (.int p4), .val (.int p5), .val (.int (2 : Int32)), .val (.ref b1140), .val (.ref b1152), .val (.int ((1 : Int32) &&& (1 : Int32))), .val (.ref b_1174)]) rfl k) ?_
    show OEnds p.tables e below G (T1217.setTop (mkF m 188 #[.val (.int p1), .val (.int p2), .val (.int p3), .val (.int p4), .val (.int p5), .val (.int (2 : Int32)), .val (.ref b1140), .val (.ref b1152), .val (.int ((1 : Int32) &&& (1 : Int32))), .val (.ref b_1174)] []))
    rw [show ((1 : Int32) &&& (1 : Int32)) = (1 : Int32) from by decide]
    show OEnds p.tables e below G (T1217.setTop (mkF m 188 #[.val (.int p1), .val (.int p2), .val (.int p3), .val (.int p4), .val (.int p5), .val (.int (2 : Int32)), .val (.ref b1140), .val (.ref b1152), .val (.int (1 : Int32)), .val (.ref b_1174)] []))
    refine OEnds.st (fun _ k => XS.iload X1217.here hx rfl (hb hby at_188) rfl k) ?_
    show OEnds p.tables e below G (T1217.setTop (mkF m 190 #[.val (.int p1), .val (.int p2), .val (.int p3), .val (.int p4), .val (.int p5), .val (.int (2 : Int32)), .val (.ref b1140), .val (.ref b1152), .val (.int (1 : Int32)), .val (.ref b_1174)] [(.int (2 : Int32))]))
    refine OEnds.st (fun _ k => XS.iconst X1217.here hx rfl (hb hby at_190) k) ?_
    show OEnds p.tables e below G (T1217.setTop (mkF m 191 #[.val (.int p1), .val (.int p2), .val (.int p3), .val (.int p4), .val (.int p5), .val (.int (2 : Int32)), .val (.ref b1140), .val (.ref b1152), .val (.int (1 : Int32)), .val (.ref b_1174)] [(.int (2 : Int32)), (.int (2 : Int32))]))
    refine OEnds.st (fun _ k => XS.icmpNo X1217.here hx rfl (hb hby at_191) rfl (flt (by decide : ¬ ((2 : Int32) < (2 : Int32)))).1 k) ?_
    show OEnds p.tables e below G (T1217.setTop (mkF m 194 #[.val (.int p1), .val (.int p2), .val (.int p3), .val (.int p4), .val (.int p5), .val (.int (2 : Int32)), .val (.ref b1140), .val (.ref b1152), .val (.int (1 : Int32)), .val (.ref b_1174)] []))
    refine OEnds.st (fun _ k => XS.aload X1217.here hx rfl (hb hby at_194) rfl rfl k) ?_
    show OEnds p.tables e below G (T1217.setTop (mkF m 196 #[.val (.int p1), .val (.int p2), .val (.int p3), .val (.int p4), .val (.int p5), .val (.int (2 : Int32)), .val (.ref b1140), .val (.ref b1152), .val (.int (1 : Int32)), .val (.ref b_1174)] [(.ref b_1174)]))
    obtain ⟨cq1219, kq1219, q1219a, q1219b, q1219c⟩ := isOf hZ e1217 p1201
    obtain ⟨_, _, ⟨T1219, L1219, k1219c, n1219c⟩, -, X1219, ⟨Lc1219, hQ1219, l1219, y1219, z1219⟩, st1219⟩ := X1217.virtualBack hx (y := (⟨"com/example/nearfar/nearfar/ProtoReader", "varint", "()J"⟩ : MethodName)) (z := (⟨"com/example/nearfar/nearfar/ProtoReader", "varint", "()J"⟩ : MethodName)) hown (mvT hZ (hw _ (List.mem_of_getElem? (i := 46) rfl))) (mvT hZ (hw _ (List.mem_of_getElem? (i := 37) rfl))) (notFace_of_selects (args := #[]) (mvT hZ (hw _ (List.mem_of_getElem? (i := 39) rfl)))) (mvT hZ (hw _ (List.mem_of_getElem? (i := 39) rfl))) (mvT hZ (hw _ (List.mem_of_getElem? (i := 38) rfl))) (by decide) (backOf (W := 0) (rm7 l Z a0 hw [] b_1174 b1140 (2 : Int32) (3 : Int32) (0 : Int32) k1140 (5 : Int32) ([(.int ((2 : Int32).toInt8.toInt32)), (.int ((p2 &&& (127 : Int32)).toInt8.toInt32)), (.int ((p3 &&& (127 : Int32)).toInt8.toInt32)), (.int ((p4 &&& (127 : Int32)).toInt8.toInt32)), (.int ((p5 &&& (127 : Int32)).toInt8.toInt32))]) (.int (0 : Int32)) ((p3 &&& (127 : Int32)).toInt8.toInt32) (3 : Int32) T1199.heap n0 Z1199 p1201 p1202 p1203 p1204 p1205 f1206 ge_b_1174 ne1187 (by decide) (by decide) (by decide) rfl (own_b8 _) rfl (own_nn p3)) hZ (hw _ (List.mem_of_getElem? (i := 40) rfl)) (hw _ (List.mem_of_getElem? (i := 4) rfl)) (by decide) (by decide)) q1219a q1219c (g := (mkF m 196 #[.val (.int p1), .val (.int p2), .val (.int p3), .val (.int p4), .val (.int p5), .val (.int (2 : Int32)), .val (.ref b1140), .val (.ref b1152), .val (.int (1 : Int32)), .val (.ref b_1174)] [(.ref b_1174)])) rfl (by rw [hml]; rfl) (Steps.refl _) (argsL := []) (rest := []) (lenOf pd_2 rfl) rfl (by show 2 * 0 + _ ≤ _; exact Nat.le_of_eq rfl) (hb hby at_196) (fun _ _ => ⟨rfl, e1217, (by decide : 0 + 1 + 1 + 0 + 0 + 1 + 0 + 0 + 0 + 0 + 0 ≤ _), (by decide : 0 + 5 + 4 + 0 + 0 + 4 + 0 + 0 + 0 + 0 + 0 ≤ _)⟩)
    dsimp only [Pt.U, Pt.locs, Pt.cells, Pt.slots] at X1219 l1219 y1219 z1219 st1219 hQ1219
    subst l1219 y1219 z1219
    obtain ⟨rfl, N1219q, p1220, p1221, p1222, p1223, p1224, p1225⟩ := hQ1219
    have N1219 := Fr.app N1217 N1219q
    refine OEnds.st (fun _ k => st1219.trans k) ?_
    have f1226 : Arv Z T1219.heap b1140 k1140 .byte (5 : Int32) [(.int ((2 : Int32).toInt8.toInt32)), (.int ((p2 &&& (127 : Int32)).toInt8.toInt32)), (.int ((p3 &&& (127 : Int32)).toInt8.toInt32)), (.int ((p4 &&& (127 : Int32)).toInt8.toInt32)), (.int ((p5 &&& (127 : Int32)).toInt8.toInt32))] (.int (0 : Int32)) := f1206.keep p1220 (by simp only [List.mem_cons, List.not_mem_nil, or_false, not_or]; exact ne1187)
    have f1227 : Exa Z T1219.heap b1152 "com/example/nearfar/nearfar/ProtoReader" := f1207.keep p1220
    have f1228 : Fld Z T1219.heap b1152 "com/example/nearfar/nearfar/ProtoReader" "bytes" "[B" (.ref b1140) := f1208.keep p1220 (by simp only [List.mem_cons, List.not_mem_nil, or_false, not_or]; exact ne1188)
    have f1229 : Fld Z T1219.heap b1152 "com/example/nearfar/nearfar/ProtoReader" "position" "I" (.int (3 : Int32)) := f1209.keep p1220 (by simp only [List.mem_cons, List.not_mem_nil, or_false, not_or]; exact ne1188)
    have f1230 : Fld Z T1219.heap b1152 "com/example/nearfar/nearfar/ProtoReader" "end" "I" (.int (5 : Int32)) := f1210.keep p1220 (by simp only [List.mem_cons, List.not_mem_nil, or_false, not_or]; exact ne1188)
    have f1231 : Fld Z T1219.heap b1152 "com/example/nearfar/nearfar/ProtoReader" "depth" "I" (.int (0 : Int32)) := f1211.keep p1220 (by simp only [List.mem_cons, List.not_mem_nil, or_false, not_or]; exact ne1188)
    have f1232 : Exa Z T1219.heap b_1174 "com/example/nearfar/nearfar/ProtoReader" := p1201.keep p1220
    have KK1219 : Keep h0 T1219.heap [] := KK1199.trans p1220 (fun x hx => by cases List.mem_singleton.mp hx; exact Or.inr sz_b_1174)
    have Z1219 := Nat.le_trans Z1199 p1220.1
    show OEnds p.tables e below G (T1219.setTop (mkF m 199 #[.val (.int p1), .val (.int p2), .val (.int p3), .val (.int p4), .val (.int p5), .val (.int (2 : Int32)), .val (.ref b1140), .val (.ref b1152), .val (.int (1 : Int32)), .val (.ref b_1174)] [(.long (own_vi ((p3 &&& (127 : Int32)).toInt8.toInt32)))]))
    refine OEnds.st (B := T1219.setTop (mkF m 200 #[.val (.int p1), .val (.int p2), .val (.int p3), .val (.int p4), .val (.int p5), .val (.int (2 : Int32)), .val (.ref b1140), .val (.ref b1152), .val (.int (1 : Int32)), .val (.ref b_1174)] [])) (fun _ k => ?_) ?_
    · jvm_step X1219.here [X1219.here.top, hx, (hb hby at_199), Value.category]
      exact k
    show OEnds p.tables e below G (T1219.setTop (mkF m 200 #[.val (.int p1), .val (.int p2), .val (.int p3), .val (.int p4), .val (.int p5), .val (.int (2 : Int32)), .val (.ref b1140), .val (.ref b1152), .val (.int (1 : Int32)), .val (.ref b_1174)] []))
    refine OEnds.st (fun _ k => XS.iload X1219.here hx rfl (hb hby at_200) rfl k) ?_
    show OEnds p.tables e below G (T1219.setTop (mkF m 202 #[.val (.int p1), .val (.int p2), .val (.int p3), .val (.int p4), .val (.int p5), .val (.int (2 : Int32)), .val (.ref b1140), .val (.ref b1152), .val (.int (1 : Int32)), .val (.ref b_1174)] [(.int (1 : Int32))]))
    refine OEnds.st (fun _ k => XS.aload X1219.here hx rfl (hb hby at_202) rfl rfl k) ?_
    show OEnds p.tables e below G (T1219.setTop (mkF m 204 #[.val (.int p1), .val (.int p2), .val (.int p3), .val (.int p4), .val (.int p5), .val (.int (2 : Int32)), .val (.ref b1140), .val (.ref b1152), .val (.int (1 : Int32)), .val (.ref b_1174)] [(.ref b_1174), (.int (1 : Int32))]))
    obtain ⟨cq1237, kq1237, q1237a, q1237b, q1237c⟩ := isOf hZ rfl p1221
    obtain ⟨_, _, ⟨T1237, L1237, k1237c, n1237c⟩, -, X1237, ⟨Lc1237, hQ1237, l1237, y1237, z1237⟩, st1237⟩ := X1219.virtualBack hx (y := (⟨"com/example/nearfar/nearfar/ProtoReader", "atEnd", "()Z"⟩ : MethodName)) (z := (⟨"com/example/nearfar/nearfar/ProtoReader", "atEnd", "()Z"⟩ : MethodName)) hown (mvT hZ (hw _ (List.mem_of_getElem? (i := 22) rfl))) (mvT hZ (hw _ (List.mem_of_getElem? (i := 23) rfl))) (notFace_of_selects (args := #[]) (mvT hZ (hw _ (List.mem_of_getElem? (i := 25) rfl)))) (mvT hZ (hw _ (List.mem_of_getElem? (i := 25) rfl))) (mvT hZ (hw _ (List.mem_of_getElem? (i := 24) rfl))) (by decide) (backOf (W := 1) (rm4 l Z a0 hw [] b_1174 (3 : Int32) (3 : Int32) T1219.heap n0 Z1219 p1223 p1224) hZ (hw _ (List.mem_of_getElem? (i := 26) rfl)) (hw _ (List.mem_of_getElem? (i := 4) rfl)) (by decide) (by decide)) q1237a q1237c (g := (mkF m 204 #[.val (.int p1), .val (.int p2), .val (.int p3), .val (.int p4), .val (.int p5), .val (.int (2 : Int32)), .val (.ref b1140), .val (.ref b1152), .val (.int (1 : Int32)), .val (.ref b_1174)] [(.ref b_1174), (.int (1 : Int32))])) rfl (by rw [hml]; rfl) (Steps.refl _) (argsL := []) (rest := [(.int (1 : Int32))]) (lenOf pd_5 rfl) rfl (by show 2 * 0 + _ ≤ _; exact Nat.le_of_eq rfl) (hb hby at_204) (fun _ _ => ⟨rfl, rfl, (by decide : 0 + 1 + 1 + 0 + 0 + 1 + 0 + 0 + 0 + 0 + 0 + 0 ≤ _), (by decide : 0 + 5 + 4 + 0 + 0 + 4 + 0 + 0 + 0 + 0 + 0 + 0 ≤ _)⟩)
    dsimp only [Pt.U, Pt.locs, Pt.cells, Pt.slots] at X1237 l1237 y1237 z1237 st1237 hQ1237
    subst l1237 y1237 z1237
    obtain ⟨rfl, N1237q, e1237⟩ := hQ1237
    have N1237 := Fr.app N1219 N1237q
    refine OEnds.st (fun _ k => st1237.trans k) ?_
    show OEnds p.tables e below G (T1237.setTop (mkF m 207 #[.val (.int p1), .val (.int p2), .val (.int p3), .val (.int p4), .val (.int p5), .val (.int (2 : Int32)), .val (.ref b1140), .val (.ref b1152), .val (.int (1 : Int32)), .val (.ref b_1174)] [(.int (own_eq (3 : Int32) (3 : Int32))), (.int (1 : Int32))]))
    refine OEnds.st (fun _ k => XS.iload X1237.here hx rfl (hb hby at_207) rfl k) ?_
    show OEnds p.tables e below G (T1237.setTop (mkF m 209 #[.val (.int p1), .val (.int p2), .val (.int p3), .val (.int p4), .val (.int p5), .val (.int (2 : Int32)), .val (.ref b1140), .val (.ref b1152), .val (.int (1 : Int32)), .val (.ref b_1174)] [(.int (2 : Int32)), (.int (own_eq (3 : Int32) (3 : Int32))), (.int (1 : Int32))]))
    refine OEnds.st (fun _ k => XS.iconst X1237.here hx rfl (hb hby at_209) k) ?_
    show OEnds p.tables e below G (T1237.setTop (mkF m 210 #[.val (.int p1), .val (.int p2), .val (.int p3), .val (.int p4), .val (.int p5), .val (.int (2 : Int32)), .val (.ref b1140), .val (.ref b1152), .val (.int (1 : Int32)), .val (.ref b_1174)] [(.int (2 : Int32)), (.int (2 : Int32)), (.int (own_eq (3 : Int32) (3 : Int32))), (.int (1 : Int32))]))
    refine OEnds.st (fun _ k => XS.icmpNo X1237.here hx rfl (hb hby at_210) rfl (teq (by decide : (2 : Int32) = (2 : Int32))).2 k) ?_
    show OEnds p.tables e below G (T1237.setTop (mkF m 213 #[.val (.int p1), .val (.int p2), .val (.int p3), .val (.int p4), .val (.int p5), .val (.int (2 : Int32)), .val (.ref b1140), .val (.ref b1152), .val (.int (1 : Int32)), .val (.ref b_1174)] [(.int (own_eq (3 : Int32) (3 : Int32))), (.int (1 : Int32))]))
    refine OEnds.st (fun _ k => XS.iconst X1237.here hx rfl (hb hby at_213) k) ?_
    show OEnds p.tables e below G (T1237.setTop (mkF m 214 #[.val (.int p1), .val (.int p2), .val (.int p3), .val (.int p4), .val (.int p5), .val (.int (2 : Int32)), .val (.ref b1140), .val (.ref b1152), .val (.int (1 : Int32)), .val (.ref b_1174)] [(.int (1 : Int32)), (.int (own_eq (3 : Int32) (3 : Int32))), (.int (1 : Int32))]))
    refine OEnds.st (fun _ k => XS.goto X1237.here hx rfl (pc0 := 214) (pc' := 218) rfl (hb hby at_214) (by decide) (by decide) k) ?_
    show OEnds p.tables e below G (T1237.setTop (mkF m 218 #[.val (.int p1), .val (.int p2), .val (.int p3), .val (.int p4), .val (.int p5), .val (.int (2 : Int32)), .val (.ref b1140), .val (.ref b1152), .val (.int (1 : Int32)), .val (.ref b_1174)] [(.int (1 : Int32)), (.int (own_eq (3 : Int32) (3 : Int32))), (.int (1 : Int32))]))
    have hc218_1238 : (own_eq (3 : Int32) (3 : Int32)) = (1 : Int32) := by decide
    refine OEnds.st (fun _ k => XS.icmpNo X1237.here hx rfl (hb hby at_218) rfl (teq hc218_1238).2 k) ?_
    show OEnds p.tables e below G (T1237.setTop (mkF m 221 #[.val (.int p1), .val (.int p2), .val (.int p3), .val (.int p4), .val (.int p5), .val (.int (2 : Int32)), .val (.ref b1140), .val (.ref b1152), .val (.int (1 : Int32)), .val (.ref b_1174)] [(.int (1 : Int32))]))
    refine OEnds.st (fun _ k => XS.iconst X1237.here hx rfl (hb hby at_221) k) ?_
    show OEnds p.tables e below G (T1237.setTop (mkF m 222 #[.val (.int p1), .val (.int p2), .val (.int p3), .val (.int p4), .val (.int p5), .val (.int (2 : Int32)), .val (.ref b1140), .val (.ref b1152), .val (.int (1 : Int32)), .val (.ref b_1174)] [(.int (1 : Int32)), (.int (1 : Int32))]))
    refine OEnds.st (fun _ k => XS.goto X1237.here hx rfl (pc0 := 222) (pc' := 226) rfl (hb hby at_222) (by decide) (by decide) k) ?_
    show OEnds p.tables e below G (T1237.setTop (mkF m 226 #[.val (.int p1), .val (.int p2), .val (.int p3), .val (.int p4), .val (.int p5), .val (.int (2 : Int32)), .val (.ref b1140), .val (.ref b1152), .val (.int (1 : Int32)), .val (.ref b_1174)] [(.int (1 : Int32)), (.int (1 : Int32))]))
    refine OEnds.st (fun _ k => XS.iand X1237.here hx rfl (hb hby at_226) rfl k) ?_
    show OEnds p.tables e below G (T1237.setTop (mkF m 227 #[.val (.int p1), .val (.int p2), .val (.int p3), .val (.int p4), .val (.int p5), .val (.int (2 : Int32)), .val (.ref b1140), .val (.ref b1152), .val (.int (1 : Int32)), .val (.ref b_1174)] [(.int ((1 : Int32) &&& (1 : Int32)))]))
    refine OEnds.st (fun _ k => XS.istore X1237.here hx rfl (hb hby at_227) rfl (l' := #[.val (.int p1), .val (.int p2), .val (.int p3), .val (.int p4), .val (.int p5), .val (.int (2 : Int32)), .val (.ref b1140), .val (.ref b1152), .val (.int ((1 : Int32) &&& (1 : Int32))), .val (.ref b_1174)]) rfl k) ?_
    show OEnds p.tables e below G (T1237.setTop (mkF m 229 #[.val (.int p1), .val (.int p2), .val (.int p3), .val (.int p4), .val (.int p5), .val (.int (2 : Int32)), .val (.ref b1140), .val (.ref b1152), .val (.int ((1 : Int32) &&& (1 : Int32))), .val (.ref b_1174)] []))
    rw [show ((1 : Int32) &&& (1 : Int32)) = (1 : Int32) from by decide]
    show OEnds p.tables e below G (T1237.setTop (mkF m 229 #[.val (.int p1), .val (.int p2), .val (.int p3), .val (.int p4), .val (.int p5), .val (.int (2 : Int32)), .val (.ref b1140), .val (.ref b1152), .val (.int (1 : Int32)), .val (.ref b_1174)] []))
    refine OEnds.st (fun _ k => XS.iload X1237.here hx rfl (hb hby at_229) rfl k) ?_
    show OEnds p.tables e below G (T1237.setTop (mkF m 231 #[.val (.int p1), .val (.int p2), .val (.int p3), .val (.int p4), .val (.int p5), .val (.int (2 : Int32)), .val (.ref b1140), .val (.ref b1152), .val (.int (1 : Int32)), .val (.ref b_1174)] [(.int (2 : Int32))]))
    refine OEnds.st (fun _ k => XS.iconst X1237.here hx rfl (hb hby at_231) k) ?_
    show OEnds p.tables e below G (T1237.setTop (mkF m 232 #[.val (.int p1), .val (.int p2), .val (.int p3), .val (.int p4), .val (.int p5), .val (.int (2 : Int32)), .val (.ref b1140), .val (.ref b1152), .val (.int (1 : Int32)), .val (.ref b_1174)] [(.int (3 : Int32)), (.int (2 : Int32))]))
    refine OEnds.st (fun _ k => XS.icmpYes X1237.here hx rfl (pc0 := 232) (pc' := 270) rfl (hb hby at_232) rfl (tlt (by decide : (2 : Int32) < (3 : Int32))).1 (by decide) (by decide) k) ?_
    show OEnds p.tables e below G (T1237.setTop (mkF m 270 #[.val (.int p1), .val (.int p2), .val (.int p3), .val (.int p4), .val (.int p5), .val (.int (2 : Int32)), .val (.ref b1140), .val (.ref b1152), .val (.int (1 : Int32)), .val (.ref b_1174)] []))
    refine OEnds.st (fun _ k => XS.iload X1237.here hx rfl (hb hby at_270) rfl k) ?_
    show OEnds p.tables e below G (T1237.setTop (mkF m 272 #[.val (.int p1), .val (.int p2), .val (.int p3), .val (.int p4), .val (.int p5), .val (.int (2 : Int32)), .val (.ref b1140), .val (.ref b1152), .val (.int (1 : Int32)), .val (.ref b_1174)] [(.int (1 : Int32))]))
    rw [← hG]
    refine OEnds.retZ X1237 hx hlk Bd.returns rfl (hb hby at_272) (by decide) (by decide) ?_
    rw [e1237]
    exact ⟨rfl, N1237⟩
  · -- 3
    rw [hi]
    show OEnds p.tables e below G (s₁.setTop (mkF m 8 #[.val (.int p1), .val (.int p2), .val (.int p3), .val (.int p4), .val (.int p5), .val (.int (3 : Int32)), .unset, .unset, .unset, .unset] []))
    refine OEnds.st (fun _ k => XS.iconst X0.here hx rfl (hb hby at_8) k) ?_
    show OEnds p.tables e below G (s₁.setTop (mkF m 9 #[.val (.int p1), .val (.int p2), .val (.int p3), .val (.int p4), .val (.int p5), .val (.int (3 : Int32)), .unset, .unset, .unset, .unset] [(.int (5 : Int32))]))
    obtain ⟨T1239, h1239, k1239, X1239, e1239, E1239, A1239, st1239⟩ := newP X0 hx hZ (hw _ (List.mem_of_getElem? (i := 1) rfl)) e0 (g := (mkF m 9 #[.val (.int p1), .val (.int p2), .val (.int p3), .val (.int p4), .val (.int p5), .val (.int (3 : Int32)), .unset, .unset, .unset, .unset] [(.int (5 : Int32))])) rfl (hb hby at_9) rfl (by decide) (cap := 5) (by decide) (by decide) (by decide) (by decide)
    obtain ⟨b1239, g1239⟩ : ∃ z, z = h0.size := ⟨_, rfl⟩
    rw [← g1239] at A1239 st1239
    refine OEnds.st st1239 ?_
    have ge_b1239 : n0 ≤ b1239 := Nat.le_trans Z0 (Nat.le_of_eq g1239.symm)
    have sz_b1239 : h0.size ≤ b1239 := Nat.le_trans KK0.1 (Nat.le_of_eq g1239.symm)
    have KK1239 : Keep h0 h1239 [] := KK0.ext E1239
    have Z1239 := Nat.le_trans Z0 E1239.1
    have f1240 : Arv Z h1239 b1239 k1239 .byte (5 : Int32) [(.int (0 : Int32)), (.int (0 : Int32)), (.int (0 : Int32)), (.int (0 : Int32)), (.int (0 : Int32))] (.int (0 : Int32)) := (Arv.new A1239 (by decide)).pad (pad_rep [] (.int (0 : Int32)) 5)
    show OEnds p.tables e below G (T1239.setTop (mkF m 11 #[.val (.int p1), .val (.int p2), .val (.int p3), .val (.int p4), .val (.int p5), .val (.int (3 : Int32)), .unset, .unset, .unset, .unset] [(.ref b1239)]))
    refine OEnds.st (fun _ k => XS.astore X1239.here hx rfl (hb hby at_11) rfl rfl (l' := #[.val (.int p1), .val (.int p2), .val (.int p3), .val (.int p4), .val (.int p5), .val (.int (3 : Int32)), .val (.ref b1239), .unset, .unset, .unset]) rfl k) ?_
    show OEnds p.tables e below G (T1239.setTop (mkF m 13 #[.val (.int p1), .val (.int p2), .val (.int p3), .val (.int p4), .val (.int p5), .val (.int (3 : Int32)), .val (.ref b1239), .unset, .unset, .unset] []))
    refine OEnds.st (fun _ k => XS.aload X1239.here hx rfl (hb hby at_13) rfl rfl k) ?_
    show OEnds p.tables e below G (T1239.setTop (mkF m 15 #[.val (.int p1), .val (.int p2), .val (.int p3), .val (.int p4), .val (.int p5), .val (.int (3 : Int32)), .val (.ref b1239), .unset, .unset, .unset] [(.ref b1239)]))
    refine OEnds.st (fun _ k => XS.iconst X1239.here hx rfl (hb hby at_15) k) ?_
    show OEnds p.tables e below G (T1239.setTop (mkF m 16 #[.val (.int p1), .val (.int p2), .val (.int p3), .val (.int p4), .val (.int p5), .val (.int (3 : Int32)), .val (.ref b1239), .unset, .unset, .unset] [(.int (0 : Int32)), (.ref b1239)]))
    refine OEnds.st (fun _ k => XS.iload X1239.here hx rfl (hb hby at_16) rfl k) ?_
    show OEnds p.tables e below G (T1239.setTop (mkF m 18 #[.val (.int p1), .val (.int p2), .val (.int p3), .val (.int p4), .val (.int p5), .val (.int (3 : Int32)), .val (.ref b1239), .unset, .unset, .unset] [(.int (3 : Int32)), (.int (0 : Int32)), (.ref b1239)]))
    refine OEnds.st (fun _ k => XS.i2b X1239.here hx rfl (hb hby at_18) rfl k) ?_
    show OEnds p.tables e below G (T1239.setTop (mkF m 19 #[.val (.int p1), .val (.int p2), .val (.int p3), .val (.int p4), .val (.int p5), .val (.int (3 : Int32)), .val (.ref b1239), .unset, .unset, .unset] [(.int ((3 : Int32).toInt8.toInt32)), (.int (0 : Int32)), (.ref b1239)]))
    obtain ⟨cl1241, Ar1241, q1241, S1241, N1241n, H1241, G1241⟩ := id f1240
    have hin1241 : ¬ ((0 : Int32) < 0 ∨ cl1241.slots.size ≤ ((0 : Int32)).toNatClampNeg) := inb_of S1241 ⟨by decide, by decide⟩
    obtain ⟨T1241, h1241, X1241, e1241, W1241, st1241⟩ := stB X1239 hx hZ e1239 Ar1241 (j := (0 : Int32)) hin1241 (g := (mkF m 19 #[.val (.int p1), .val (.int p2), .val (.int p3), .val (.int p4), .val (.int p5), .val (.int (3 : Int32)), .val (.ref b1239), .unset, .unset, .unset] [(.int ((3 : Int32).toInt8.toInt32)), (.int (0 : Int32)), (.ref b1239)])) rfl rfl (hb hby at_19)
    refine OEnds.st st1241 ?_
    rw [own_b8] at W1241
    have f1242 : Arv Z h1241 b1239 k1239 .byte (5 : Int32) [(.int ((3 : Int32).toInt8.toInt32)), (.int (0 : Int32)), (.int (0 : Int32)), (.int (0 : Int32)), (.int (0 : Int32))] (.int (0 : Int32)) := Arv.set Ar1241 q1241 S1241 N1241n H1241 G1241 (fits_nar_byte _) W1241 0 rfl (Nat.le_of_ble_eq_true rfl)
    have N1241 := Fr.snoc X1241 N0 ge_b1239
    have KK1241 : Keep h0 h1241 [] := KK1239.wr W1241 (Or.inr sz_b1239)
    have Z1241 := Nat.le_trans Z1239 (Keep.of_wr W1241).1
    show OEnds p.tables e below G (T1241.setTop (mkF m 20 #[.val (.int p1), .val (.int p2), .val (.int p3), .val (.int p4), .val (.int p5), .val (.int (3 : Int32)), .val (.ref b1239), .unset, .unset, .unset] []))
    refine OEnds.st (fun _ k => XS.aload X1241.here hx rfl (hb hby at_20) rfl rfl k) ?_
    show OEnds p.tables e below G (T1241.setTop (mkF m 22 #[.val (.int p1), .val (.int p2), .val (.int p3), .val (.int p4), .val (.int p5), .val (.int (3 : Int32)), .val (.ref b1239), .unset, .unset, .unset] [(.ref b1239)]))
    refine OEnds.st (fun _ k => XS.iconst X1241.here hx rfl (hb hby at_22) k) ?_
    show OEnds p.tables e below G (T1241.setTop (mkF m 23 #[.val (.int p1), .val (.int p2), .val (.int p3), .val (.int p4), .val (.int p5), .val (.int (3 : Int32)), .val (.ref b1239), .unset, .unset, .unset] [(.int (1 : Int32)), (.ref b1239)]))
    refine OEnds.st (fun _ k => XS.iloadN X1241.here hx rfl (hb hby at_23) rfl k) ?_
    show OEnds p.tables e below G (T1241.setTop (mkF m 24 #[.val (.int p1), .val (.int p2), .val (.int p3), .val (.int p4), .val (.int p5), .val (.int (3 : Int32)), .val (.ref b1239), .unset, .unset, .unset] [(.int p2), (.int (1 : Int32)), (.ref b1239)]))
    refine OEnds.st (fun _ k => XS.bipush X1241.here hx rfl (hb hby at_24) k) ?_
    show OEnds p.tables e below G (T1241.setTop (mkF m 26 #[.val (.int p1), .val (.int p2), .val (.int p3), .val (.int p4), .val (.int p5), .val (.int (3 : Int32)), .val (.ref b1239), .unset, .unset, .unset] [(.int (127 : Int32)), (.int p2), (.int (1 : Int32)), (.ref b1239)]))
    refine OEnds.st (fun _ k => XS.iand X1241.here hx rfl (hb hby at_26) rfl k) ?_
    show OEnds p.tables e below G (T1241.setTop (mkF m 27 #[.val (.int p1), .val (.int p2), .val (.int p3), .val (.int p4), .val (.int p5), .val (.int (3 : Int32)), .val (.ref b1239), .unset, .unset, .unset] [(.int (p2 &&& (127 : Int32))), (.int (1 : Int32)), (.ref b1239)]))
    refine OEnds.st (fun _ k => XS.i2b X1241.here hx rfl (hb hby at_27) rfl k) ?_
    show OEnds p.tables e below G (T1241.setTop (mkF m 28 #[.val (.int p1), .val (.int p2), .val (.int p3), .val (.int p4), .val (.int p5), .val (.int (3 : Int32)), .val (.ref b1239), .unset, .unset, .unset] [(.int ((p2 &&& (127 : Int32)).toInt8.toInt32)), (.int (1 : Int32)), (.ref b1239)]))
    obtain ⟨cl1243, Ar1243, q1243, S1243, N1243n, H1243, G1243⟩ := id f1242
    have hin1243 : ¬ ((1 : Int32) < 0 ∨ cl1243.slots.size ≤ ((1 : Int32)).toNatClampNeg) := inb_of S1243 ⟨by decide, by decide⟩
    obtain ⟨T1243, h1243, X1243, e1243, W1243, st1243⟩ := stB X1241 hx hZ e1241 Ar1243 (j := (1 : Int32)) hin1243 (g := (mkF m 28 #[.val (.int p1), .val (.int p2), .val (.int p3), .val (.int p4), .val (.int p5), .val (.int (3 : Int32)), .val (.ref b1239), .unset, .unset, .unset] [(.int ((p2 &&& (127 : Int32)).toInt8.toInt32)), (.int (1 : Int32)), (.ref b1239)])) rfl rfl (hb hby at_28)
    refine OEnds.st st1243 ?_
    rw [own_b8] at W1243
    have f1244 : Arv Z h1243 b1239 k1239 .byte (5 : Int32) [(.int ((3 : Int32).toInt8.toInt32)), (.int ((p2 &&& (127 : Int32)).toInt8.toInt32)), (.int (0 : Int32)), (.int (0 : Int32)), (.int (0 : Int32))] (.int (0 : Int32)) := Arv.set Ar1243 q1243 S1243 N1243n H1243 G1243 (fits_nar_byte _) W1243 1 rfl (Nat.le_of_ble_eq_true rfl)
    have N1243 := Fr.snoc X1243 N1241 ge_b1239
    have KK1243 : Keep h0 h1243 [] := KK1241.wr W1243 (Or.inr sz_b1239)
    have Z1243 := Nat.le_trans Z1241 (Keep.of_wr W1243).1
    show OEnds p.tables e below G (T1243.setTop (mkF m 29 #[.val (.int p1), .val (.int p2), .val (.int p3), .val (.int p4), .val (.int p5), .val (.int (3 : Int32)), .val (.ref b1239), .unset, .unset, .unset] []))
    refine OEnds.st (fun _ k => XS.aload X1243.here hx rfl (hb hby at_29) rfl rfl k) ?_
    show OEnds p.tables e below G (T1243.setTop (mkF m 31 #[.val (.int p1), .val (.int p2), .val (.int p3), .val (.int p4), .val (.int p5), .val (.int (3 : Int32)), .val (.ref b1239), .unset, .unset, .unset] [(.ref b1239)]))
    refine OEnds.st (fun _ k => XS.iconst X1243.here hx rfl (hb hby at_31) k) ?_
    show OEnds p.tables e below G (T1243.setTop (mkF m 32 #[.val (.int p1), .val (.int p2), .val (.int p3), .val (.int p4), .val (.int p5), .val (.int (3 : Int32)), .val (.ref b1239), .unset, .unset, .unset] [(.int (2 : Int32)), (.ref b1239)]))
    refine OEnds.st (fun _ k => XS.iloadN X1243.here hx rfl (hb hby at_32) rfl k) ?_
    show OEnds p.tables e below G (T1243.setTop (mkF m 33 #[.val (.int p1), .val (.int p2), .val (.int p3), .val (.int p4), .val (.int p5), .val (.int (3 : Int32)), .val (.ref b1239), .unset, .unset, .unset] [(.int p3), (.int (2 : Int32)), (.ref b1239)]))
    refine OEnds.st (fun _ k => XS.bipush X1243.here hx rfl (hb hby at_33) k) ?_
    show OEnds p.tables e below G (T1243.setTop (mkF m 35 #[.val (.int p1), .val (.int p2), .val (.int p3), .val (.int p4), .val (.int p5), .val (.int (3 : Int32)), .val (.ref b1239), .unset, .unset, .unset] [(.int (127 : Int32)), (.int p3), (.int (2 : Int32)), (.ref b1239)]))
    refine OEnds.st (fun _ k => XS.iand X1243.here hx rfl (hb hby at_35) rfl k) ?_
    show OEnds p.tables e below G (T1243.setTop (mkF m 36 #[.val (.int p1), .val (.int p2), .val (.int p3), .val (.int p4), .val (.int p5), .val (.int (3 : Int32)), .val (.ref b1239), .unset, .unset, .unset] [(.int (p3 &&& (127 : Int32))), (.int (2 : Int32)), (.ref b1239)]))
    refine OEnds.st (fun _ k => XS.i2b X1243.here hx rfl (hb hby at_36) rfl k) ?_
    show OEnds p.tables e below G (T1243.setTop (mkF m 37 #[.val (.int p1), .val (.int p2), .val (.int p3), .val (.int p4), .val (.int p5), .val (.int (3 : Int32)), .val (.ref b1239), .unset, .unset, .unset] [(.int ((p3 &&& (127 : Int32)).toInt8.toInt32)), (.int (2 : Int32)), (.ref b1239)]))
    obtain ⟨cl1245, Ar1245, q1245, S1245, N1245n, H1245, G1245⟩ := id f1244
    have hin1245 : ¬ ((2 : Int32) < 0 ∨ cl1245.slots.size ≤ ((2 : Int32)).toNatClampNeg) := inb_of S1245 ⟨by decide, by decide⟩
    obtain ⟨T1245, h1245, X1245, e1245, W1245, st1245⟩ := stB X1243 hx hZ e1243 Ar1245 (j := (2 : Int32)) hin1245 (g := (mkF m 37 #[.val (.int p1), .val (.int p2), .val (.int p3), .val (.int p4), .val (.int p5), .val (.int (3 : Int32)), .val (.ref b1239), .unset, .unset, .unset] [(.int ((p3 &&& (127 : Int32)).toInt8.toInt32)), (.int (2 : Int32)), (.ref b1239)])) rfl rfl (hb hby at_37)
    refine OEnds.st st1245 ?_
    rw [own_b8] at W1245
    have f1246 : Arv Z h1245 b1239 k1239 .byte (5 : Int32) [(.int ((3 : Int32).toInt8.toInt32)), (.int ((p2 &&& (127 : Int32)).toInt8.toInt32)), (.int ((p3 &&& (127 : Int32)).toInt8.toInt32)), (.int (0 : Int32)), (.int (0 : Int32))] (.int (0 : Int32)) := Arv.set Ar1245 q1245 S1245 N1245n H1245 G1245 (fits_nar_byte _) W1245 2 rfl (Nat.le_of_ble_eq_true rfl)
    have N1245 := Fr.snoc X1245 N1243 ge_b1239
    have KK1245 : Keep h0 h1245 [] := KK1243.wr W1245 (Or.inr sz_b1239)
    have Z1245 := Nat.le_trans Z1243 (Keep.of_wr W1245).1
    show OEnds p.tables e below G (T1245.setTop (mkF m 38 #[.val (.int p1), .val (.int p2), .val (.int p3), .val (.int p4), .val (.int p5), .val (.int (3 : Int32)), .val (.ref b1239), .unset, .unset, .unset] []))
    refine OEnds.st (fun _ k => XS.aload X1245.here hx rfl (hb hby at_38) rfl rfl k) ?_
    show OEnds p.tables e below G (T1245.setTop (mkF m 40 #[.val (.int p1), .val (.int p2), .val (.int p3), .val (.int p4), .val (.int p5), .val (.int (3 : Int32)), .val (.ref b1239), .unset, .unset, .unset] [(.ref b1239)]))
    refine OEnds.st (fun _ k => XS.iconst X1245.here hx rfl (hb hby at_40) k) ?_
    show OEnds p.tables e below G (T1245.setTop (mkF m 41 #[.val (.int p1), .val (.int p2), .val (.int p3), .val (.int p4), .val (.int p5), .val (.int (3 : Int32)), .val (.ref b1239), .unset, .unset, .unset] [(.int (3 : Int32)), (.ref b1239)]))
    refine OEnds.st (fun _ k => XS.iloadN X1245.here hx rfl (hb hby at_41) rfl k) ?_
    show OEnds p.tables e below G (T1245.setTop (mkF m 42 #[.val (.int p1), .val (.int p2), .val (.int p3), .val (.int p4), .val (.int p5), .val (.int (3 : Int32)), .val (.ref b1239), .unset, .unset, .unset] [(.int p4), (.int (3 : Int32)), (.ref b1239)]))
    refine OEnds.st (fun _ k => XS.bipush X1245.here hx rfl (hb hby at_42) k) ?_
    show OEnds p.tables e below G (T1245.setTop (mkF m 44 #[.val (.int p1), .val (.int p2), .val (.int p3), .val (.int p4), .val (.int p5), .val (.int (3 : Int32)), .val (.ref b1239), .unset, .unset, .unset] [(.int (127 : Int32)), (.int p4), (.int (3 : Int32)), (.ref b1239)]))
    refine OEnds.st (fun _ k => XS.iand X1245.here hx rfl (hb hby at_44) rfl k) ?_
    show OEnds p.tables e below G (T1245.setTop (mkF m 45 #[.val (.int p1), .val (.int p2), .val (.int p3), .val (.int p4), .val (.int p5), .val (.int (3 : Int32)), .val (.ref b1239), .unset, .unset, .unset] [(.int (p4 &&& (127 : Int32))), (.int (3 : Int32)), (.ref b1239)]))
    refine OEnds.st (fun _ k => XS.i2b X1245.here hx rfl (hb hby at_45) rfl k) ?_
    show OEnds p.tables e below G (T1245.setTop (mkF m 46 #[.val (.int p1), .val (.int p2), .val (.int p3), .val (.int p4), .val (.int p5), .val (.int (3 : Int32)), .val (.ref b1239), .unset, .unset, .unset] [(.int ((p4 &&& (127 : Int32)).toInt8.toInt32)), (.int (3 : Int32)), (.ref b1239)]))
    obtain ⟨cl1247, Ar1247, q1247, S1247, N1247n, H1247, G1247⟩ := id f1246
    have hin1247 : ¬ ((3 : Int32) < 0 ∨ cl1247.slots.size ≤ ((3 : Int32)).toNatClampNeg) := inb_of S1247 ⟨by decide, by decide⟩
    obtain ⟨T1247, h1247, X1247, e1247, W1247, st1247⟩ := stB X1245 hx hZ e1245 Ar1247 (j := (3 : Int32)) hin1247 (g := (mkF m 46 #[.val (.int p1), .val (.int p2), .val (.int p3), .val (.int p4), .val (.int p5), .val (.int (3 : Int32)), .val (.ref b1239), .unset, .unset, .unset] [(.int ((p4 &&& (127 : Int32)).toInt8.toInt32)), (.int (3 : Int32)), (.ref b1239)])) rfl rfl (hb hby at_46)
    refine OEnds.st st1247 ?_
    rw [own_b8] at W1247
    have f1248 : Arv Z h1247 b1239 k1239 .byte (5 : Int32) [(.int ((3 : Int32).toInt8.toInt32)), (.int ((p2 &&& (127 : Int32)).toInt8.toInt32)), (.int ((p3 &&& (127 : Int32)).toInt8.toInt32)), (.int ((p4 &&& (127 : Int32)).toInt8.toInt32)), (.int (0 : Int32))] (.int (0 : Int32)) := Arv.set Ar1247 q1247 S1247 N1247n H1247 G1247 (fits_nar_byte _) W1247 3 rfl (Nat.le_of_ble_eq_true rfl)
    have N1247 := Fr.snoc X1247 N1245 ge_b1239
    have KK1247 : Keep h0 h1247 [] := KK1245.wr W1247 (Or.inr sz_b1239)
    have Z1247 := Nat.le_trans Z1245 (Keep.of_wr W1247).1
    show OEnds p.tables e below G (T1247.setTop (mkF m 47 #[.val (.int p1), .val (.int p2), .val (.int p3), .val (.int p4), .val (.int p5), .val (.int (3 : Int32)), .val (.ref b1239), .unset, .unset, .unset] []))
    refine OEnds.st (fun _ k => XS.aload X1247.here hx rfl (hb hby at_47) rfl rfl k) ?_
    show OEnds p.tables e below G (T1247.setTop (mkF m 49 #[.val (.int p1), .val (.int p2), .val (.int p3), .val (.int p4), .val (.int p5), .val (.int (3 : Int32)), .val (.ref b1239), .unset, .unset, .unset] [(.ref b1239)]))
    refine OEnds.st (fun _ k => XS.iconst X1247.here hx rfl (hb hby at_49) k) ?_
    show OEnds p.tables e below G (T1247.setTop (mkF m 50 #[.val (.int p1), .val (.int p2), .val (.int p3), .val (.int p4), .val (.int p5), .val (.int (3 : Int32)), .val (.ref b1239), .unset, .unset, .unset] [(.int (4 : Int32)), (.ref b1239)]))
    refine OEnds.st (fun _ k => XS.iload X1247.here hx rfl (hb hby at_50) rfl k) ?_
    show OEnds p.tables e below G (T1247.setTop (mkF m 52 #[.val (.int p1), .val (.int p2), .val (.int p3), .val (.int p4), .val (.int p5), .val (.int (3 : Int32)), .val (.ref b1239), .unset, .unset, .unset] [(.int p5), (.int (4 : Int32)), (.ref b1239)]))
    refine OEnds.st (fun _ k => XS.bipush X1247.here hx rfl (hb hby at_52) k) ?_
    show OEnds p.tables e below G (T1247.setTop (mkF m 54 #[.val (.int p1), .val (.int p2), .val (.int p3), .val (.int p4), .val (.int p5), .val (.int (3 : Int32)), .val (.ref b1239), .unset, .unset, .unset] [(.int (127 : Int32)), (.int p5), (.int (4 : Int32)), (.ref b1239)]))
    refine OEnds.st (fun _ k => XS.iand X1247.here hx rfl (hb hby at_54) rfl k) ?_
    show OEnds p.tables e below G (T1247.setTop (mkF m 55 #[.val (.int p1), .val (.int p2), .val (.int p3), .val (.int p4), .val (.int p5), .val (.int (3 : Int32)), .val (.ref b1239), .unset, .unset, .unset] [(.int (p5 &&& (127 : Int32))), (.int (4 : Int32)), (.ref b1239)]))
    refine OEnds.st (fun _ k => XS.i2b X1247.here hx rfl (hb hby at_55) rfl k) ?_
    show OEnds p.tables e below G (T1247.setTop (mkF m 56 #[.val (.int p1), .val (.int p2), .val (.int p3), .val (.int p4), .val (.int p5), .val (.int (3 : Int32)), .val (.ref b1239), .unset, .unset, .unset] [(.int ((p5 &&& (127 : Int32)).toInt8.toInt32)), (.int (4 : Int32)), (.ref b1239)]))
    obtain ⟨cl1249, Ar1249, q1249, S1249, N1249n, H1249, G1249⟩ := id f1248
    have hin1249 : ¬ ((4 : Int32) < 0 ∨ cl1249.slots.size ≤ ((4 : Int32)).toNatClampNeg) := inb_of S1249 ⟨by decide, by decide⟩
    obtain ⟨T1249, h1249, X1249, e1249, W1249, st1249⟩ := stB X1247 hx hZ e1247 Ar1249 (j := (4 : Int32)) hin1249 (g := (mkF m 56 #[.val (.int p1), .val (.int p2), .val (.int p3), .val (.int p4), .val (.int p5), .val (.int (3 : Int32)), .val (.ref b1239), .unset, .unset, .unset] [(.int ((p5 &&& (127 : Int32)).toInt8.toInt32)), (.int (4 : Int32)), (.ref b1239)])) rfl rfl (hb hby at_56)
    refine OEnds.st st1249 ?_
    rw [own_b8] at W1249
    have f1250 : Arv Z h1249 b1239 k1239 .byte (5 : Int32) [(.int ((3 : Int32).toInt8.toInt32)), (.int ((p2 &&& (127 : Int32)).toInt8.toInt32)), (.int ((p3 &&& (127 : Int32)).toInt8.toInt32)), (.int ((p4 &&& (127 : Int32)).toInt8.toInt32)), (.int ((p5 &&& (127 : Int32)).toInt8.toInt32))] (.int (0 : Int32)) := Arv.set Ar1249 q1249 S1249 N1249n H1249 G1249 (fits_nar_byte _) W1249 4 rfl (Nat.le_of_ble_eq_true rfl)
    have N1249 := Fr.snoc X1249 N1247 ge_b1239
    have KK1249 : Keep h0 h1249 [] := KK1247.wr W1249 (Or.inr sz_b1239)
    have Z1249 := Nat.le_trans Z1247 (Keep.of_wr W1249).1
    show OEnds p.tables e below G (T1249.setTop (mkF m 57 #[.val (.int p1), .val (.int p2), .val (.int p3), .val (.int p4), .val (.int p5), .val (.int (3 : Int32)), .val (.ref b1239), .unset, .unset, .unset] []))
    obtain ⟨T1251, h1251, X1251, e1251, E1251, A1251, D1251, -, st1251⟩ := newO X1249 hx hZ hown (hw _ (List.mem_of_getElem? (i := 2) rfl)) (hw _ (List.mem_of_getElem? (i := 3) rfl)) (hw _ (List.mem_of_getElem? (i := 4) rfl)) e1249 (g := (mkF m 57 #[.val (.int p1), .val (.int p2), .val (.int p3), .val (.int p4), .val (.int p5), .val (.int (3 : Int32)), .val (.ref b1239), .unset, .unset, .unset] [])) rfl (hb hby at_57) (by decide) (by decide)
    obtain ⟨b1251, g1251⟩ : ∃ z, z = h1249.size := ⟨_, rfl⟩
    rw [← g1251] at A1251 D1251 st1251
    refine OEnds.st st1251 ?_
    have ne1252 : b1239 ≠ b1251 := Nat.ne_of_lt (Nat.lt_of_lt_of_le (f1250).lt (Nat.le_of_eq g1251.symm))
    have ge_b1251 : n0 ≤ b1251 := Nat.le_trans Z1249 (Nat.le_of_eq g1251.symm)
    have sz_b1251 : h0.size ≤ b1251 := Nat.le_trans KK1249.1 (Nat.le_of_eq g1251.symm)
    have f1253 : Arv Z h1251 b1239 k1239 .byte (5 : Int32) [(.int ((3 : Int32).toInt8.toInt32)), (.int ((p2 &&& (127 : Int32)).toInt8.toInt32)), (.int ((p3 &&& (127 : Int32)).toInt8.toInt32)), (.int ((p4 &&& (127 : Int32)).toInt8.toInt32)), (.int ((p5 &&& (127 : Int32)).toInt8.toInt32))] (.int (0 : Int32)) := f1250.ext E1251
    have KK1251 : Keep h0 h1251 [] := KK1249.ext E1251
    have Z1251 := Nat.le_trans Z1249 E1251.1
    have ex_b1251 := A1251
    have f1254 : Fld Z h1251 b1251 "com/example/nearfar/nearfar/ProtoReader" "bytes" "[B" .null := D1251 (Or.inr (hw _ (List.mem_of_getElem? (i := 15) rfl))) (ty := (.array .byte)) (by decide)
    have f1255 : Fld Z h1251 b1251 "com/example/nearfar/nearfar/ProtoReader" "position" "I" (.int (0 : Int32)) := D1251 (Or.inl (hw _ (List.mem_of_getElem? (i := 17) rfl))) (ty := .int) (by decide)
    have f1256 : Fld Z h1251 b1251 "com/example/nearfar/nearfar/ProtoReader" "end" "I" (.int (0 : Int32)) := D1251 (Or.inr (hw _ (List.mem_of_getElem? (i := 19) rfl))) (ty := .int) (by decide)
    have f1257 : Fld Z h1251 b1251 "com/example/nearfar/nearfar/ProtoReader" "depth" "I" (.int (0 : Int32)) := D1251 (Or.inr (hw _ (List.mem_of_getElem? (i := 21) rfl))) (ty := .int) (by decide)
    show OEnds p.tables e below G (T1251.setTop (mkF m 60 #[.val (.int p1), .val (.int p2), .val (.int p3), .val (.int p4), .val (.int p5), .val (.int (3 : Int32)), .val (.ref b1239), .unset, .unset, .unset] [(.ref b1251)]))
    refine OEnds.st (fun _ k => XS.dup X1251.here hx rfl (hb hby at_60) rfl rfl k) ?_
    show OEnds p.tables e below G (T1251.setTop (mkF m 61 #[.val (.int p1), .val (.int p2), .val (.int p3), .val (.int p4), .val (.int p5), .val (.int (3 : Int32)), .val (.ref b1239), .unset, .unset, .unset] [(.ref b1251), (.ref b1251)]))
    refine OEnds.st (fun _ k => XS.aload X1251.here hx rfl (hb hby at_61) rfl rfl k) ?_
    show OEnds p.tables e below G (T1251.setTop (mkF m 63 #[.val (.int p1), .val (.int p2), .val (.int p3), .val (.int p4), .val (.int p5), .val (.int (3 : Int32)), .val (.ref b1239), .unset, .unset, .unset] [(.ref b1239), (.ref b1251), (.ref b1251)]))
    obtain ⟨_, _, ⟨T1258, L1258, k1258c, n1258c⟩, -, X1258, ⟨Lc1258, hQ1258, l1258, y1258, z1258⟩, st1258⟩ := X1251.specialBack hx (y := (⟨"com/example/nearfar/nearfar/ProtoReader", "<init>", "([B)V"⟩ : MethodName)) rfl hown (mvT hZ (hw _ (List.mem_of_getElem? (i := 5) rfl))) (mvT hZ (hw _ (List.mem_of_getElem? (i := 6) rfl))) (mvT hZ (hw _ (List.mem_of_getElem? (i := 7) rfl))) (by decide) (backOf (W := 1) (rm1 l Z a0 hw [] b1251 b1239 k1239 (5 : Int32) ([(.int ((3 : Int32).toInt8.toInt32)), (.int ((p2 &&& (127 : Int32)).toInt8.toInt32)), (.int ((p3 &&& (127 : Int32)).toInt8.toInt32)), (.int ((p4 &&& (127 : Int32)).toInt8.toInt32)), (.int ((p5 &&& (127 : Int32)).toInt8.toInt32))]) (.int (0 : Int32)) h1251 n0 Z1251 ex_b1251 f1254 f1255 f1256 f1257 f1253 ge_b1251 ne1252) hZ (hw _ (List.mem_of_getElem? (i := 7) rfl)) (hw _ (List.mem_of_getElem? (i := 4) rfl)) (by decide) (by decide)) (g := (mkF m 63 #[.val (.int p1), .val (.int p2), .val (.int p3), .val (.int p4), .val (.int p5), .val (.int (3 : Int32)), .val (.ref b1239), .unset, .unset, .unset] [(.ref b1239), (.ref b1251), (.ref b1251)])) rfl (by rw [hml]; rfl) (Steps.refl _) (a := b1251) (argsL := [(.ref b1239)]) (rest := [(.ref b1251)]) (lenOf pd_4 rfl) rfl (by show 2 * 0 + _ ≤ _; exact Nat.le_of_eq rfl) (hb hby at_63) (fun _ _ => ⟨rfl, e1251, (by decide : 0 + 1 + 1 + 0 ≤ _), (by decide : 0 + 5 + 4 + 0 ≤ _)⟩)
    dsimp only [Pt.U, Pt.locs, Pt.cells, Pt.slots] at X1258 l1258 y1258 z1258 st1258 hQ1258
    subst l1258 y1258 z1258
    obtain ⟨rfl, N1258q, p1259, p1260, p1261, p1262, p1263, p1264⟩ := hQ1258
    have N1258 := Fr.app N1249 N1258q
    refine OEnds.st (fun _ k => st1258.trans k) ?_
    have f1265 : Arv Z T1258.heap b1239 k1239 .byte (5 : Int32) [(.int ((3 : Int32).toInt8.toInt32)), (.int ((p2 &&& (127 : Int32)).toInt8.toInt32)), (.int ((p3 &&& (127 : Int32)).toInt8.toInt32)), (.int ((p4 &&& (127 : Int32)).toInt8.toInt32)), (.int ((p5 &&& (127 : Int32)).toInt8.toInt32))] (.int (0 : Int32)) := f1253.keep p1259 (by simp only [List.mem_cons, List.not_mem_nil, or_false, not_or]; exact ne1252)
    have f1266 : Exa Z T1258.heap b1251 "com/example/nearfar/nearfar/ProtoReader" := ex_b1251.keep p1259
    have KK1258 : Keep h0 T1258.heap [] := KK1251.trans p1259 (fun x hx => by cases List.mem_singleton.mp hx; exact Or.inr sz_b1251)
    have Z1258 := Nat.le_trans Z1251 p1259.1
    show OEnds p.tables e below G (T1258.setTop (mkF m 66 #[.val (.int p1), .val (.int p2), .val (.int p3), .val (.int p4), .val (.int p5), .val (.int (3 : Int32)), .val (.ref b1239), .unset, .unset, .unset] [(.ref b1251)]))
    refine OEnds.st (fun _ k => XS.astore X1258.here hx rfl (hb hby at_66) rfl rfl (l' := #[.val (.int p1), .val (.int p2), .val (.int p3), .val (.int p4), .val (.int p5), .val (.int (3 : Int32)), .val (.ref b1239), .val (.ref b1251), .unset, .unset]) rfl k) ?_
    show OEnds p.tables e below G (T1258.setTop (mkF m 68 #[.val (.int p1), .val (.int p2), .val (.int p3), .val (.int p4), .val (.int p5), .val (.int (3 : Int32)), .val (.ref b1239), .val (.ref b1251), .unset, .unset] []))
    refine OEnds.st (fun _ k => XS.aload X1258.here hx rfl (hb hby at_68) rfl rfl k) ?_
    show OEnds p.tables e below G (T1258.setTop (mkF m 70 #[.val (.int p1), .val (.int p2), .val (.int p3), .val (.int p4), .val (.int p5), .val (.int (3 : Int32)), .val (.ref b1239), .val (.ref b1251), .unset, .unset] [(.ref b1251)]))
    obtain ⟨cq1271, kq1271, q1271a, q1271b, q1271c⟩ := isOf hZ rfl p1260
    obtain ⟨_, _, ⟨T1271, L1271, k1271c, n1271c⟩, -, X1271, ⟨Lc1271, hQ1271, l1271, y1271, z1271⟩, st1271⟩ := X1258.virtualBack hx (y := (⟨"com/example/nearfar/nearfar/ProtoReader", "atEnd", "()Z"⟩ : MethodName)) (z := (⟨"com/example/nearfar/nearfar/ProtoReader", "atEnd", "()Z"⟩ : MethodName)) hown (mvT hZ (hw _ (List.mem_of_getElem? (i := 22) rfl))) (mvT hZ (hw _ (List.mem_of_getElem? (i := 23) rfl))) (notFace_of_selects (args := #[]) (mvT hZ (hw _ (List.mem_of_getElem? (i := 25) rfl)))) (mvT hZ (hw _ (List.mem_of_getElem? (i := 25) rfl))) (mvT hZ (hw _ (List.mem_of_getElem? (i := 24) rfl))) (by decide) (backOf (W := 0) (rm4 l Z a0 hw [] b1251 (0 : Int32) (5 : Int32) T1258.heap n0 Z1258 p1262 p1263) hZ (hw _ (List.mem_of_getElem? (i := 26) rfl)) (hw _ (List.mem_of_getElem? (i := 4) rfl)) (by decide) (by decide)) q1271a q1271c (g := (mkF m 70 #[.val (.int p1), .val (.int p2), .val (.int p3), .val (.int p4), .val (.int p5), .val (.int (3 : Int32)), .val (.ref b1239), .val (.ref b1251), .unset, .unset] [(.ref b1251)])) rfl (by rw [hml]; rfl) (Steps.refl _) (argsL := []) (rest := []) (lenOf pd_5 rfl) rfl (by show 2 * 0 + _ ≤ _; exact Nat.le_of_eq rfl) (hb hby at_70) (fun _ _ => ⟨rfl, rfl, (by decide : 0 + 1 + 1 + 0 + 0 ≤ _), (by decide : 0 + 5 + 4 + 0 + 0 ≤ _)⟩)
    dsimp only [Pt.U, Pt.locs, Pt.cells, Pt.slots] at X1271 l1271 y1271 z1271 st1271 hQ1271
    subst l1271 y1271 z1271
    obtain ⟨rfl, N1271q, e1271⟩ := hQ1271
    have N1271 := Fr.app N1258 N1271q
    refine OEnds.st (fun _ k => st1271.trans k) ?_
    show OEnds p.tables e below G (T1271.setTop (mkF m 73 #[.val (.int p1), .val (.int p2), .val (.int p3), .val (.int p4), .val (.int p5), .val (.int (3 : Int32)), .val (.ref b1239), .val (.ref b1251), .unset, .unset] [(.int (own_eq (0 : Int32) (5 : Int32)))]))
    have hc73_1272 : (own_eq (0 : Int32) (5 : Int32)) = (0 : Int32) := by decide
    refine OEnds.st (fun _ k => XS.ifNo X1271.here hx rfl (hb hby at_73) rfl ((if0 _ _).trans (teq hc73_1272).2) k) ?_
    show OEnds p.tables e below G (T1271.setTop (mkF m 76 #[.val (.int p1), .val (.int p2), .val (.int p3), .val (.int p4), .val (.int p5), .val (.int (3 : Int32)), .val (.ref b1239), .val (.ref b1251), .unset, .unset] []))
    refine OEnds.st (fun _ k => XS.iconst X1271.here hx rfl (hb hby at_76) k) ?_
    show OEnds p.tables e below G (T1271.setTop (mkF m 77 #[.val (.int p1), .val (.int p2), .val (.int p3), .val (.int p4), .val (.int p5), .val (.int (3 : Int32)), .val (.ref b1239), .val (.ref b1251), .unset, .unset] [(.int (1 : Int32))]))
    refine OEnds.st (fun _ k => XS.goto X1271.here hx rfl (pc0 := 77) (pc' := 81) rfl (hb hby at_77) (by decide) (by decide) k) ?_
    show OEnds p.tables e below G (T1271.setTop (mkF m 81 #[.val (.int p1), .val (.int p2), .val (.int p3), .val (.int p4), .val (.int p5), .val (.int (3 : Int32)), .val (.ref b1239), .val (.ref b1251), .unset, .unset] [(.int (1 : Int32))]))
    refine OEnds.st (fun _ k => XS.istore X1271.here hx rfl (hb hby at_81) rfl (l' := #[.val (.int p1), .val (.int p2), .val (.int p3), .val (.int p4), .val (.int p5), .val (.int (3 : Int32)), .val (.ref b1239), .val (.ref b1251), .val (.int (1 : Int32)), .unset]) rfl k) ?_
    show OEnds p.tables e below G (T1271.setTop (mkF m 83 #[.val (.int p1), .val (.int p2), .val (.int p3), .val (.int p4), .val (.int p5), .val (.int (3 : Int32)), .val (.ref b1239), .val (.ref b1251), .val (.int (1 : Int32)), .unset] []))
    refine OEnds.st (fun _ k => XS.aload X1271.here hx rfl (hb hby at_83) rfl rfl k) ?_
    show OEnds p.tables e below G (T1271.setTop (mkF m 85 #[.val (.int p1), .val (.int p2), .val (.int p3), .val (.int p4), .val (.int p5), .val (.int (3 : Int32)), .val (.ref b1239), .val (.ref b1251), .val (.int (1 : Int32)), .unset] [(.ref b1251)]))
    obtain ⟨cq1273, kq1273, q1273a, q1273b, q1273c⟩ := isOf hZ e1271 p1260
    obtain ⟨_, _, ⟨T1273, L1273, k1273c, n1273c⟩, -, X1273, ⟨Lc1273, hQ1273, l1273, y1273, z1273⟩, st1273⟩ := X1271.virtualBack hx (y := (⟨"com/example/nearfar/nearfar/ProtoReader", "embedded", "()Lcom/example/nearfar/nearfar/ProtoReader;"⟩ : MethodName)) (z := (⟨"com/example/nearfar/nearfar/ProtoReader", "embedded", "()Lcom/example/nearfar/nearfar/ProtoReader;"⟩ : MethodName)) hown (mvT hZ (hw _ (List.mem_of_getElem? (i := 27) rfl))) (mvT hZ (hw _ (List.mem_of_getElem? (i := 28) rfl))) (notFace_of_selects (args := #[]) (mvT hZ (hw _ (List.mem_of_getElem? (i := 30) rfl)))) (mvT hZ (hw _ (List.mem_of_getElem? (i := 30) rfl))) (mvT hZ (hw _ (List.mem_of_getElem? (i := 29) rfl))) (by decide) (backOf (W := 0) (rm5 l Z a0 hw [] b1251 b1239 (0 : Int32) (5 : Int32) (0 : Int32) k1239 (5 : Int32) ([(.int ((3 : Int32).toInt8.toInt32)), (.int ((p2 &&& (127 : Int32)).toInt8.toInt32)), (.int ((p3 &&& (127 : Int32)).toInt8.toInt32)), (.int ((p4 &&& (127 : Int32)).toInt8.toInt32)), (.int ((p5 &&& (127 : Int32)).toInt8.toInt32))]) (.int (0 : Int32)) ((3 : Int32).toInt8.toInt32) (1 : Int32) (4 : Int32) T1258.heap n0 Z1258 p1260 p1261 p1262 p1263 p1264 f1265 ge_b1251 ne1252 (by decide) (by decide) (by decide) rfl (own_b8 _) rfl (by decide) (by decide) (by decide) (by decide)) hZ (hw _ (List.mem_of_getElem? (i := 31) rfl)) (hw _ (List.mem_of_getElem? (i := 4) rfl)) (by decide) (by decide)) q1273a q1273c (g := (mkF m 85 #[.val (.int p1), .val (.int p2), .val (.int p3), .val (.int p4), .val (.int p5), .val (.int (3 : Int32)), .val (.ref b1239), .val (.ref b1251), .val (.int (1 : Int32)), .unset] [(.ref b1251)])) rfl (by rw [hml]; rfl) (Steps.refl _) (argsL := []) (rest := []) (lenOf pd_6 rfl) rfl (by show 2 * 0 + _ ≤ _; exact Nat.le_of_eq rfl) (hb hby at_85) (fun _ _ => ⟨rfl, e1271, (by decide : 0 + 1 + 1 + 0 + 0 + 1 ≤ _), (by decide : 0 + 5 + 4 + 0 + 0 + 4 ≤ _)⟩)
    dsimp only [Pt.U, Pt.locs, Pt.cells, Pt.slots] at X1273 l1273 y1273 z1273 st1273 hQ1273
    subst l1273 y1273 z1273
    obtain ⟨b_1273, rfl, N1273q, p1274, p1275, p1276, p1277, p1278, p1279, p1280, p1281, p1282, p1283, p1284, p1285⟩ := hQ1273
    have N1273 := Fr.app N1271 N1273q
    refine OEnds.st (fun _ k => st1273.trans k) ?_
    have ne1286 : b1239 ≠ b_1273 := Nat.ne_of_lt (Nat.lt_of_lt_of_le (f1265).lt p1275)
    have ne1287 : b1251 ≠ b_1273 := Nat.ne_of_lt (Nat.lt_of_lt_of_le (p1260).lt p1275)
    have sz_b_1273 : h0.size ≤ b_1273 := Nat.le_trans KK1258.1 p1275
    have ge_b_1273 : n0 ≤ b_1273 := Nat.le_trans Z1258 p1275
    have f1288 : Arv Z T1273.heap b1239 k1239 .byte (5 : Int32) [(.int ((3 : Int32).toInt8.toInt32)), (.int ((p2 &&& (127 : Int32)).toInt8.toInt32)), (.int ((p3 &&& (127 : Int32)).toInt8.toInt32)), (.int ((p4 &&& (127 : Int32)).toInt8.toInt32)), (.int ((p5 &&& (127 : Int32)).toInt8.toInt32))] (.int (0 : Int32)) := f1265.keep p1274 (by simp only [List.mem_cons, List.not_mem_nil, or_false, not_or]; exact ne1252)
    have f1289 : Exa Z T1273.heap b1251 "com/example/nearfar/nearfar/ProtoReader" := p1260.keep p1274
    have KK1273 : Keep h0 T1273.heap [] := KK1258.trans p1274 (fun x hx => by cases List.mem_singleton.mp hx; exact Or.inr sz_b1251)
    have Z1273 := Nat.le_trans Z1258 p1274.1
    show OEnds p.tables e below G (T1273.setTop (mkF m 88 #[.val (.int p1), .val (.int p2), .val (.int p3), .val (.int p4), .val (.int p5), .val (.int (3 : Int32)), .val (.ref b1239), .val (.ref b1251), .val (.int (1 : Int32)), .unset] [(.ref b_1273)]))
    refine OEnds.st (fun _ k => XS.astore X1273.here hx rfl (hb hby at_88) rfl rfl (l' := #[.val (.int p1), .val (.int p2), .val (.int p3), .val (.int p4), .val (.int p5), .val (.int (3 : Int32)), .val (.ref b1239), .val (.ref b1251), .val (.int (1 : Int32)), .val (.ref b_1273)]) rfl k) ?_
    show OEnds p.tables e below G (T1273.setTop (mkF m 90 #[.val (.int p1), .val (.int p2), .val (.int p3), .val (.int p4), .val (.int p5), .val (.int (3 : Int32)), .val (.ref b1239), .val (.ref b1251), .val (.int (1 : Int32)), .val (.ref b_1273)] []))
    refine OEnds.st (fun _ k => XS.iload X1273.here hx rfl (hb hby at_90) rfl k) ?_
    show OEnds p.tables e below G (T1273.setTop (mkF m 92 #[.val (.int p1), .val (.int p2), .val (.int p3), .val (.int p4), .val (.int p5), .val (.int (3 : Int32)), .val (.ref b1239), .val (.ref b1251), .val (.int (1 : Int32)), .val (.ref b_1273)] [(.int (1 : Int32))]))
    refine OEnds.st (fun _ k => XS.aload X1273.here hx rfl (hb hby at_92) rfl rfl k) ?_
    show OEnds p.tables e below G (T1273.setTop (mkF m 94 #[.val (.int p1), .val (.int p2), .val (.int p3), .val (.int p4), .val (.int p5), .val (.int (3 : Int32)), .val (.ref b1239), .val (.ref b1251), .val (.int (1 : Int32)), .val (.ref b_1273)] [(.ref b1251), (.int (1 : Int32))]))
    obtain ⟨cq1294, kq1294, q1294a, q1294b, q1294c⟩ := isOf hZ rfl p1276
    obtain ⟨_, _, ⟨T1294, L1294, k1294c, n1294c⟩, -, X1294, ⟨Lc1294, hQ1294, l1294, y1294, z1294⟩, st1294⟩ := X1273.virtualBack hx (y := (⟨"com/example/nearfar/nearfar/ProtoReader", "atEnd", "()Z"⟩ : MethodName)) (z := (⟨"com/example/nearfar/nearfar/ProtoReader", "atEnd", "()Z"⟩ : MethodName)) hown (mvT hZ (hw _ (List.mem_of_getElem? (i := 22) rfl))) (mvT hZ (hw _ (List.mem_of_getElem? (i := 23) rfl))) (notFace_of_selects (args := #[]) (mvT hZ (hw _ (List.mem_of_getElem? (i := 25) rfl)))) (mvT hZ (hw _ (List.mem_of_getElem? (i := 25) rfl))) (mvT hZ (hw _ (List.mem_of_getElem? (i := 24) rfl))) (by decide) (backOf (W := 1) (rm4 l Z a0 hw [] b1251 (4 : Int32) (5 : Int32) T1273.heap n0 Z1273 p1278 p1279) hZ (hw _ (List.mem_of_getElem? (i := 26) rfl)) (hw _ (List.mem_of_getElem? (i := 4) rfl)) (by decide) (by decide)) q1294a q1294c (g := (mkF m 94 #[.val (.int p1), .val (.int p2), .val (.int p3), .val (.int p4), .val (.int p5), .val (.int (3 : Int32)), .val (.ref b1239), .val (.ref b1251), .val (.int (1 : Int32)), .val (.ref b_1273)] [(.ref b1251), (.int (1 : Int32))])) rfl (by rw [hml]; rfl) (Steps.refl _) (argsL := []) (rest := [(.int (1 : Int32))]) (lenOf pd_5 rfl) rfl (by show 2 * 0 + _ ≤ _; exact Nat.le_of_eq rfl) (hb hby at_94) (fun _ _ => ⟨rfl, rfl, (by decide : 0 + 1 + 1 + 0 + 0 + 1 + 0 ≤ _), (by decide : 0 + 5 + 4 + 0 + 0 + 4 + 0 ≤ _)⟩)
    dsimp only [Pt.U, Pt.locs, Pt.cells, Pt.slots] at X1294 l1294 y1294 z1294 st1294 hQ1294
    subst l1294 y1294 z1294
    obtain ⟨rfl, N1294q, e1294⟩ := hQ1294
    have N1294 := Fr.app N1273 N1294q
    refine OEnds.st (fun _ k => st1294.trans k) ?_
    show OEnds p.tables e below G (T1294.setTop (mkF m 97 #[.val (.int p1), .val (.int p2), .val (.int p3), .val (.int p4), .val (.int p5), .val (.int (3 : Int32)), .val (.ref b1239), .val (.ref b1251), .val (.int (1 : Int32)), .val (.ref b_1273)] [(.int (own_eq (4 : Int32) (5 : Int32))), (.int (1 : Int32))]))
    refine OEnds.st (fun _ k => XS.iload X1294.here hx rfl (hb hby at_97) rfl k) ?_
    show OEnds p.tables e below G (T1294.setTop (mkF m 99 #[.val (.int p1), .val (.int p2), .val (.int p3), .val (.int p4), .val (.int p5), .val (.int (3 : Int32)), .val (.ref b1239), .val (.ref b1251), .val (.int (1 : Int32)), .val (.ref b_1273)] [(.int (3 : Int32)), (.int (own_eq (4 : Int32) (5 : Int32))), (.int (1 : Int32))]))
    refine OEnds.st (fun _ k => XS.iconst X1294.here hx rfl (hb hby at_99) k) ?_
    show OEnds p.tables e below G (T1294.setTop (mkF m 100 #[.val (.int p1), .val (.int p2), .val (.int p3), .val (.int p4), .val (.int p5), .val (.int (3 : Int32)), .val (.ref b1239), .val (.ref b1251), .val (.int (1 : Int32)), .val (.ref b_1273)] [(.int (4 : Int32)), (.int (3 : Int32)), (.int (own_eq (4 : Int32) (5 : Int32))), (.int (1 : Int32))]))
    refine OEnds.st (fun _ k => XS.icmpYes X1294.here hx rfl (pc0 := 100) (pc' := 107) rfl (hb hby at_100) rfl (feq (by decide : ¬ ((3 : Int32) = (4 : Int32)))).2 (by decide) (by decide) k) ?_
    show OEnds p.tables e below G (T1294.setTop (mkF m 107 #[.val (.int p1), .val (.int p2), .val (.int p3), .val (.int p4), .val (.int p5), .val (.int (3 : Int32)), .val (.ref b1239), .val (.ref b1251), .val (.int (1 : Int32)), .val (.ref b_1273)] [(.int (own_eq (4 : Int32) (5 : Int32))), (.int (1 : Int32))]))
    refine OEnds.st (fun _ k => XS.iconst X1294.here hx rfl (hb hby at_107) k) ?_
    show OEnds p.tables e below G (T1294.setTop (mkF m 108 #[.val (.int p1), .val (.int p2), .val (.int p3), .val (.int p4), .val (.int p5), .val (.int (3 : Int32)), .val (.ref b1239), .val (.ref b1251), .val (.int (1 : Int32)), .val (.ref b_1273)] [(.int (0 : Int32)), (.int (own_eq (4 : Int32) (5 : Int32))), (.int (1 : Int32))]))
    have hc108_1295 : (own_eq (4 : Int32) (5 : Int32)) = (0 : Int32) := by decide
    refine OEnds.st (fun _ k => XS.icmpNo X1294.here hx rfl (hb hby at_108) rfl (teq hc108_1295).2 k) ?_
    show OEnds p.tables e below G (T1294.setTop (mkF m 111 #[.val (.int p1), .val (.int p2), .val (.int p3), .val (.int p4), .val (.int p5), .val (.int (3 : Int32)), .val (.ref b1239), .val (.ref b1251), .val (.int (1 : Int32)), .val (.ref b_1273)] [(.int (1 : Int32))]))
    refine OEnds.st (fun _ k => XS.iconst X1294.here hx rfl (hb hby at_111) k) ?_
    show OEnds p.tables e below G (T1294.setTop (mkF m 112 #[.val (.int p1), .val (.int p2), .val (.int p3), .val (.int p4), .val (.int p5), .val (.int (3 : Int32)), .val (.ref b1239), .val (.ref b1251), .val (.int (1 : Int32)), .val (.ref b_1273)] [(.int (1 : Int32)), (.int (1 : Int32))]))
    refine OEnds.st (fun _ k => XS.goto X1294.here hx rfl (pc0 := 112) (pc' := 116) rfl (hb hby at_112) (by decide) (by decide) k) ?_
    show OEnds p.tables e below G (T1294.setTop (mkF m 116 #[.val (.int p1), .val (.int p2), .val (.int p3), .val (.int p4), .val (.int p5), .val (.int (3 : Int32)), .val (.ref b1239), .val (.ref b1251), .val (.int (1 : Int32)), .val (.ref b_1273)] [(.int (1 : Int32)), (.int (1 : Int32))]))
    refine OEnds.st (fun _ k => XS.iand X1294.here hx rfl (hb hby at_116) rfl k) ?_
    show OEnds p.tables e below G (T1294.setTop (mkF m 117 #[.val (.int p1), .val (.int p2), .val (.int p3), .val (.int p4), .val (.int p5), .val (.int (3 : Int32)), .val (.ref b1239), .val (.ref b1251), .val (.int (1 : Int32)), .val (.ref b_1273)] [(.int ((1 : Int32) &&& (1 : Int32)))]))
    refine OEnds.st (fun _ k => XS.istore X1294.here hx rfl (hb hby at_117) rfl (l' := #[.val (.int p1), .val (.int p2), .val (.int p3), .val (.int p4), .val (.int p5), .val (.int (3 : Int32)), .val (.ref b1239), .val (.ref b1251), .val (.int ((1 : Int32) &&& (1 : Int32))), .val (.ref b_1273)]) rfl k) ?_
    show OEnds p.tables e below G (T1294.setTop (mkF m 119 #[.val (.int p1), .val (.int p2), .val (.int p3), .val (.int p4), .val (.int p5), .val (.int (3 : Int32)), .val (.ref b1239), .val (.ref b1251), .val (.int ((1 : Int32) &&& (1 : Int32))), .val (.ref b_1273)] []))
    rw [show ((1 : Int32) &&& (1 : Int32)) = (1 : Int32) from by decide]
    show OEnds p.tables e below G (T1294.setTop (mkF m 119 #[.val (.int p1), .val (.int p2), .val (.int p3), .val (.int p4), .val (.int p5), .val (.int (3 : Int32)), .val (.ref b1239), .val (.ref b1251), .val (.int (1 : Int32)), .val (.ref b_1273)] []))
    refine OEnds.st (fun _ k => XS.iload X1294.here hx rfl (hb hby at_119) rfl k) ?_
    show OEnds p.tables e below G (T1294.setTop (mkF m 121 #[.val (.int p1), .val (.int p2), .val (.int p3), .val (.int p4), .val (.int p5), .val (.int (3 : Int32)), .val (.ref b1239), .val (.ref b1251), .val (.int (1 : Int32)), .val (.ref b_1273)] [(.int (1 : Int32))]))
    refine OEnds.st (fun _ k => XS.aload X1294.here hx rfl (hb hby at_121) rfl rfl k) ?_
    show OEnds p.tables e below G (T1294.setTop (mkF m 123 #[.val (.int p1), .val (.int p2), .val (.int p3), .val (.int p4), .val (.int p5), .val (.int (3 : Int32)), .val (.ref b1239), .val (.ref b1251), .val (.int (1 : Int32)), .val (.ref b_1273)] [(.ref b_1273), (.int (1 : Int32))]))
    obtain ⟨cq1296, kq1296, q1296a, q1296b, q1296c⟩ := isOf hZ e1294 p1281
    obtain ⟨_, _, ⟨T1296, L1296, k1296c, n1296c⟩, -, X1296, ⟨Lc1296, hQ1296, l1296, y1296, z1296⟩, st1296⟩ := X1294.virtualBack hx (y := (⟨"com/example/nearfar/nearfar/ProtoReader", "atEnd", "()Z"⟩ : MethodName)) (z := (⟨"com/example/nearfar/nearfar/ProtoReader", "atEnd", "()Z"⟩ : MethodName)) hown (mvT hZ (hw _ (List.mem_of_getElem? (i := 22) rfl))) (mvT hZ (hw _ (List.mem_of_getElem? (i := 23) rfl))) (notFace_of_selects (args := #[]) (mvT hZ (hw _ (List.mem_of_getElem? (i := 25) rfl)))) (mvT hZ (hw _ (List.mem_of_getElem? (i := 25) rfl))) (mvT hZ (hw _ (List.mem_of_getElem? (i := 24) rfl))) (by decide) (backOf (W := 1) (rm4 l Z a0 hw [] b_1273 (1 : Int32) (4 : Int32) T1273.heap n0 Z1273 p1283 p1284) hZ (hw _ (List.mem_of_getElem? (i := 26) rfl)) (hw _ (List.mem_of_getElem? (i := 4) rfl)) (by decide) (by decide)) q1296a q1296c (g := (mkF m 123 #[.val (.int p1), .val (.int p2), .val (.int p3), .val (.int p4), .val (.int p5), .val (.int (3 : Int32)), .val (.ref b1239), .val (.ref b1251), .val (.int (1 : Int32)), .val (.ref b_1273)] [(.ref b_1273), (.int (1 : Int32))])) rfl (by rw [hml]; rfl) (Steps.refl _) (argsL := []) (rest := [(.int (1 : Int32))]) (lenOf pd_5 rfl) rfl (by show 2 * 0 + _ ≤ _; exact Nat.le_of_eq rfl) (hb hby at_123) (fun _ _ => ⟨rfl, e1294, (by decide : 0 + 1 + 1 + 0 + 0 + 1 + 0 + 0 ≤ _), (by decide : 0 + 5 + 4 + 0 + 0 + 4 + 0 + 0 ≤ _)⟩)
    dsimp only [Pt.U, Pt.locs, Pt.cells, Pt.slots] at X1296 l1296 y1296 z1296 st1296 hQ1296
    subst l1296 y1296 z1296
    obtain ⟨rfl, N1296q, e1296⟩ := hQ1296
    have N1296 := Fr.app N1294 N1296q
    refine OEnds.st (fun _ k => st1296.trans k) ?_
    show OEnds p.tables e below G (T1296.setTop (mkF m 126 #[.val (.int p1), .val (.int p2), .val (.int p3), .val (.int p4), .val (.int p5), .val (.int (3 : Int32)), .val (.ref b1239), .val (.ref b1251), .val (.int (1 : Int32)), .val (.ref b_1273)] [(.int (own_eq (1 : Int32) (4 : Int32))), (.int (1 : Int32))]))
    refine OEnds.st (fun _ k => XS.iload X1296.here hx rfl (hb hby at_126) rfl k) ?_
    show OEnds p.tables e below G (T1296.setTop (mkF m 128 #[.val (.int p1), .val (.int p2), .val (.int p3), .val (.int p4), .val (.int p5), .val (.int (3 : Int32)), .val (.ref b1239), .val (.ref b1251), .val (.int (1 : Int32)), .val (.ref b_1273)] [(.int (3 : Int32)), (.int (own_eq (1 : Int32) (4 : Int32))), (.int (1 : Int32))]))
    refine OEnds.st (fun _ k => XS.ifYes X1296.here hx rfl (pc0 := 128) (pc' := 135) rfl (hb hby at_128) rfl ((if0 _ _).trans (feq (by decide : ¬ ((3 : Int32) = (0 : Int32)))).2) (by decide) (by decide) k) ?_
    show OEnds p.tables e below G (T1296.setTop (mkF m 135 #[.val (.int p1), .val (.int p2), .val (.int p3), .val (.int p4), .val (.int p5), .val (.int (3 : Int32)), .val (.ref b1239), .val (.ref b1251), .val (.int (1 : Int32)), .val (.ref b_1273)] [(.int (own_eq (1 : Int32) (4 : Int32))), (.int (1 : Int32))]))
    refine OEnds.st (fun _ k => XS.iconst X1296.here hx rfl (hb hby at_135) k) ?_
    show OEnds p.tables e below G (T1296.setTop (mkF m 136 #[.val (.int p1), .val (.int p2), .val (.int p3), .val (.int p4), .val (.int p5), .val (.int (3 : Int32)), .val (.ref b1239), .val (.ref b1251), .val (.int (1 : Int32)), .val (.ref b_1273)] [(.int (0 : Int32)), (.int (own_eq (1 : Int32) (4 : Int32))), (.int (1 : Int32))]))
    have hc136_1297 : (own_eq (1 : Int32) (4 : Int32)) = (0 : Int32) := by decide
    refine OEnds.st (fun _ k => XS.icmpNo X1296.here hx rfl (hb hby at_136) rfl (teq hc136_1297).2 k) ?_
    show OEnds p.tables e below G (T1296.setTop (mkF m 139 #[.val (.int p1), .val (.int p2), .val (.int p3), .val (.int p4), .val (.int p5), .val (.int (3 : Int32)), .val (.ref b1239), .val (.ref b1251), .val (.int (1 : Int32)), .val (.ref b_1273)] [(.int (1 : Int32))]))
    refine OEnds.st (fun _ k => XS.iconst X1296.here hx rfl (hb hby at_139) k) ?_
    show OEnds p.tables e below G (T1296.setTop (mkF m 140 #[.val (.int p1), .val (.int p2), .val (.int p3), .val (.int p4), .val (.int p5), .val (.int (3 : Int32)), .val (.ref b1239), .val (.ref b1251), .val (.int (1 : Int32)), .val (.ref b_1273)] [(.int (1 : Int32)), (.int (1 : Int32))]))
    refine OEnds.st (fun _ k => XS.goto X1296.here hx rfl (pc0 := 140) (pc' := 144) rfl (hb hby at_140) (by decide) (by decide) k) ?_
    show OEnds p.tables e below G (T1296.setTop (mkF m 144 #[.val (.int p1), .val (.int p2), .val (.int p3), .val (.int p4), .val (.int p5), .val (.int (3 : Int32)), .val (.ref b1239), .val (.ref b1251), .val (.int (1 : Int32)), .val (.ref b_1273)] [(.int (1 : Int32)), (.int (1 : Int32))]))
    refine OEnds.st (fun _ k => XS.iand X1296.here hx rfl (hb hby at_144) rfl k) ?_
    show OEnds p.tables e below G (T1296.setTop (mkF m 145 #[.val (.int p1), .val (.int p2), .val (.int p3), .val (.int p4), .val (.int p5), .val (.int (3 : Int32)), .val (.ref b1239), .val (.ref b1251), .val (.int (1 : Int32)), .val (.ref b_1273)] [(.int ((1 : Int32) &&& (1 : Int32)))]))
    refine OEnds.st (fun _ k => XS.istore X1296.here hx rfl (hb hby at_145) rfl (l' := #[.val (.int p1), .val (.int p2), .val (.int p3), .val (.int p4), .val (.int p5), .val (.int (3 : Int32)), .val (.ref b1239), .val (.ref b1251), .val (.int ((1 : Int32) &&& (1 : Int32))), .val (.ref b_1273)]) rfl k) ?_
    show OEnds p.tables e below G (T1296.setTop (mkF m 147 #[.val (.int p1), .val (.int p2), .val (.int p3), .val (.int p4), .val (.int p5), .val (.int (3 : Int32)), .val (.ref b1239), .val (.ref b1251), .val (.int ((1 : Int32) &&& (1 : Int32))), .val (.ref b_1273)] []))
    rw [show ((1 : Int32) &&& (1 : Int32)) = (1 : Int32) from by decide]
    show OEnds p.tables e below G (T1296.setTop (mkF m 147 #[.val (.int p1), .val (.int p2), .val (.int p3), .val (.int p4), .val (.int p5), .val (.int (3 : Int32)), .val (.ref b1239), .val (.ref b1251), .val (.int (1 : Int32)), .val (.ref b_1273)] []))
    refine OEnds.st (fun _ k => XS.iload X1296.here hx rfl (hb hby at_147) rfl k) ?_
    show OEnds p.tables e below G (T1296.setTop (mkF m 149 #[.val (.int p1), .val (.int p2), .val (.int p3), .val (.int p4), .val (.int p5), .val (.int (3 : Int32)), .val (.ref b1239), .val (.ref b1251), .val (.int (1 : Int32)), .val (.ref b_1273)] [(.int (3 : Int32))]))
    refine OEnds.st (fun _ k => XS.iconst X1296.here hx rfl (hb hby at_149) k) ?_
    show OEnds p.tables e below G (T1296.setTop (mkF m 150 #[.val (.int p1), .val (.int p2), .val (.int p3), .val (.int p4), .val (.int p5), .val (.int (3 : Int32)), .val (.ref b1239), .val (.ref b1251), .val (.int (1 : Int32)), .val (.ref b_1273)] [(.int (1 : Int32)), (.int (3 : Int32))]))
    refine OEnds.st (fun _ k => XS.icmpNo X1296.here hx rfl (hb hby at_150) rfl (flt (by decide : ¬ ((3 : Int32) < (1 : Int32)))).1 k) ?_
    show OEnds p.tables e below G (T1296.setTop (mkF m 153 #[.val (.int p1), .val (.int p2), .val (.int p3), .val (.int p4), .val (.int p5), .val (.int (3 : Int32)), .val (.ref b1239), .val (.ref b1251), .val (.int (1 : Int32)), .val (.ref b_1273)] []))
    refine OEnds.st (fun _ k => XS.aload X1296.here hx rfl (hb hby at_153) rfl rfl k) ?_
    show OEnds p.tables e below G (T1296.setTop (mkF m 155 #[.val (.int p1), .val (.int p2), .val (.int p3), .val (.int p4), .val (.int p5), .val (.int (3 : Int32)), .val (.ref b1239), .val (.ref b1251), .val (.int (1 : Int32)), .val (.ref b_1273)] [(.ref b_1273)]))
    obtain ⟨cq1298, kq1298, q1298a, q1298b, q1298c⟩ := isOf hZ e1296 p1281
    obtain ⟨_, _, ⟨T1298, L1298, k1298c, n1298c⟩, -, X1298, ⟨Lc1298, hQ1298, l1298, y1298, z1298⟩, st1298⟩ := X1296.virtualBack hx (y := (⟨"com/example/nearfar/nearfar/ProtoReader", "varint", "()J"⟩ : MethodName)) (z := (⟨"com/example/nearfar/nearfar/ProtoReader", "varint", "()J"⟩ : MethodName)) hown (mvT hZ (hw _ (List.mem_of_getElem? (i := 46) rfl))) (mvT hZ (hw _ (List.mem_of_getElem? (i := 37) rfl))) (notFace_of_selects (args := #[]) (mvT hZ (hw _ (List.mem_of_getElem? (i := 39) rfl)))) (mvT hZ (hw _ (List.mem_of_getElem? (i := 39) rfl))) (mvT hZ (hw _ (List.mem_of_getElem? (i := 38) rfl))) (by decide) (backOf (W := 0) (rm7 l Z a0 hw [] b_1273 b1239 (1 : Int32) (4 : Int32) (0 : Int32) k1239 (5 : Int32) ([(.int ((3 : Int32).toInt8.toInt32)), (.int ((p2 &&& (127 : Int32)).toInt8.toInt32)), (.int ((p3 &&& (127 : Int32)).toInt8.toInt32)), (.int ((p4 &&& (127 : Int32)).toInt8.toInt32)), (.int ((p5 &&& (127 : Int32)).toInt8.toInt32))]) (.int (0 : Int32)) ((p2 &&& (127 : Int32)).toInt8.toInt32) (2 : Int32) T1273.heap n0 Z1273 p1281 p1282 p1283 p1284 p1285 f1288 ge_b_1273 ne1286 (by decide) (by decide) (by decide) rfl (own_b8 _) rfl (own_nn p2)) hZ (hw _ (List.mem_of_getElem? (i := 40) rfl)) (hw _ (List.mem_of_getElem? (i := 4) rfl)) (by decide) (by decide)) q1298a q1298c (g := (mkF m 155 #[.val (.int p1), .val (.int p2), .val (.int p3), .val (.int p4), .val (.int p5), .val (.int (3 : Int32)), .val (.ref b1239), .val (.ref b1251), .val (.int (1 : Int32)), .val (.ref b_1273)] [(.ref b_1273)])) rfl (by rw [hml]; rfl) (Steps.refl _) (argsL := []) (rest := []) (lenOf pd_2 rfl) rfl (by show 2 * 0 + _ ≤ _; exact Nat.le_of_eq rfl) (hb hby at_155) (fun _ _ => ⟨rfl, e1296, (by decide : 0 + 1 + 1 + 0 + 0 + 1 + 0 + 0 + 0 ≤ _), (by decide : 0 + 5 + 4 + 0 + 0 + 4 + 0 + 0 + 0 ≤ _)⟩)
    dsimp only [Pt.U, Pt.locs, Pt.cells, Pt.slots] at X1298 l1298 y1298 z1298 st1298 hQ1298
    subst l1298 y1298 z1298
    obtain ⟨rfl, N1298q, p1299, p1300, p1301, p1302, p1303, p1304⟩ := hQ1298
    have N1298 := Fr.app N1296 N1298q
    refine OEnds.st (fun _ k => st1298.trans k) ?_
    have f1305 : Arv Z T1298.heap b1239 k1239 .byte (5 : Int32) [(.int ((3 : Int32).toInt8.toInt32)), (.int ((p2 &&& (127 : Int32)).toInt8.toInt32)), (.int ((p3 &&& (127 : Int32)).toInt8.toInt32)), (.int ((p4 &&& (127 : Int32)).toInt8.toInt32)), (.int ((p5 &&& (127 : Int32)).toInt8.toInt32))] (.int (0 : Int32)) := f1288.keep p1299 (by simp only [List.mem_cons, List.not_mem_nil, or_false, not_or]; exact ne1286)
    have f1306 : Exa Z T1298.heap b1251 "com/example/nearfar/nearfar/ProtoReader" := p1276.keep p1299
    have f1307 : Fld Z T1298.heap b1251 "com/example/nearfar/nearfar/ProtoReader" "bytes" "[B" (.ref b1239) := p1277.keep p1299 (by simp only [List.mem_cons, List.not_mem_nil, or_false, not_or]; exact ne1287)
    have f1308 : Fld Z T1298.heap b1251 "com/example/nearfar/nearfar/ProtoReader" "position" "I" (.int (4 : Int32)) := p1278.keep p1299 (by simp only [List.mem_cons, List.not_mem_nil, or_false, not_or]; exact ne1287)
    have f1309 : Fld Z T1298.heap b1251 "com/example/nearfar/nearfar/ProtoReader" "end" "I" (.int (5 : Int32)) := p1279.keep p1299 (by simp only [List.mem_cons, List.not_mem_nil, or_false, not_or]; exact ne1287)
    have f1310 : Fld Z T1298.heap b1251 "com/example/nearfar/nearfar/ProtoReader" "depth" "I" (.int (0 : Int32)) := p1280.keep p1299 (by simp only [List.mem_cons, List.not_mem_nil, or_false, not_or]; exact ne1287)
    have f1311 : Exa Z T1298.heap b_1273 "com/example/nearfar/nearfar/ProtoReader" := p1281.keep p1299
    have KK1298 : Keep h0 T1298.heap [] := KK1273.trans p1299 (fun x hx => by cases List.mem_singleton.mp hx; exact Or.inr sz_b_1273)
    have Z1298 := Nat.le_trans Z1273 p1299.1
    show OEnds p.tables e below G (T1298.setTop (mkF m 158 #[.val (.int p1), .val (.int p2), .val (.int p3), .val (.int p4), .val (.int p5), .val (.int (3 : Int32)), .val (.ref b1239), .val (.ref b1251), .val (.int (1 : Int32)), .val (.ref b_1273)] [(.long (own_vi ((p2 &&& (127 : Int32)).toInt8.toInt32)))]))
    refine OEnds.st (B := T1298.setTop (mkF m 159 #[.val (.int p1), .val (.int p2), .val (.int p3), .val (.int p4), .val (.int p5), .val (.int (3 : Int32)), .val (.ref b1239), .val (.ref b1251), .val (.int (1 : Int32)), .val (.ref b_1273)] [])) (fun _ k => ?_) ?_
    · jvm_step X1298.here [X1298.here.top, hx, (hb hby at_158), Value.category]
      exact k
    show OEnds p.tables e below G (T1298.setTop (mkF m 159 #[.val (.int p1), .val (.int p2), .val (.int p3), .val (.int p4), .val (.int p5), .val (.int (3 : Int32)), .val (.ref b1239), .val (.ref b1251), .val (.int (1 : Int32)), .val (.ref b_1273)] []))
    refine OEnds.st (fun _ k => XS.iload X1298.here hx rfl (hb hby at_159) rfl k) ?_
    show OEnds p.tables e below G (T1298.setTop (mkF m 161 #[.val (.int p1), .val (.int p2), .val (.int p3), .val (.int p4), .val (.int p5), .val (.int (3 : Int32)), .val (.ref b1239), .val (.ref b1251), .val (.int (1 : Int32)), .val (.ref b_1273)] [(.int (1 : Int32))]))
    refine OEnds.st (fun _ k => XS.aload X1298.here hx rfl (hb hby at_161) rfl rfl k) ?_
    show OEnds p.tables e below G (T1298.setTop (mkF m 163 #[.val (.int p1), .val (.int p2), .val (.int p3), .val (.int p4), .val (.int p5), .val (.int (3 : Int32)), .val (.ref b1239), .val (.ref b1251), .val (.int (1 : Int32)), .val (.ref b_1273)] [(.ref b_1273), (.int (1 : Int32))]))
    obtain ⟨cq1316, kq1316, q1316a, q1316b, q1316c⟩ := isOf hZ rfl p1300
    obtain ⟨_, _, ⟨T1316, L1316, k1316c, n1316c⟩, -, X1316, ⟨Lc1316, hQ1316, l1316, y1316, z1316⟩, st1316⟩ := X1298.virtualBack hx (y := (⟨"com/example/nearfar/nearfar/ProtoReader", "atEnd", "()Z"⟩ : MethodName)) (z := (⟨"com/example/nearfar/nearfar/ProtoReader", "atEnd", "()Z"⟩ : MethodName)) hown (mvT hZ (hw _ (List.mem_of_getElem? (i := 22) rfl))) (mvT hZ (hw _ (List.mem_of_getElem? (i := 23) rfl))) (notFace_of_selects (args := #[]) (mvT hZ (hw _ (List.mem_of_getElem? (i := 25) rfl)))) (mvT hZ (hw _ (List.mem_of_getElem? (i := 25) rfl))) (mvT hZ (hw _ (List.mem_of_getElem? (i := 24) rfl))) (by decide) (backOf (W := 1) (rm4 l Z a0 hw [] b_1273 (2 : Int32) (4 : Int32) T1298.heap n0 Z1298 p1302 p1303) hZ (hw _ (List.mem_of_getElem? (i := 26) rfl)) (hw _ (List.mem_of_getElem? (i := 4) rfl)) (by decide) (by decide)) q1316a q1316c (g := (mkF m 163 #[.val (.int p1), .val (.int p2), .val (.int p3), .val (.int p4), .val (.int p5), .val (.int (3 : Int32)), .val (.ref b1239), .val (.ref b1251), .val (.int (1 : Int32)), .val (.ref b_1273)] [(.ref b_1273), (.int (1 : Int32))])) rfl (by rw [hml]; rfl) (Steps.refl _) (argsL := []) (rest := [(.int (1 : Int32))]) (lenOf pd_5 rfl) rfl (by show 2 * 0 + _ ≤ _; exact Nat.le_of_eq rfl) (hb hby at_163) (fun _ _ => ⟨rfl, rfl, (by decide : 0 + 1 + 1 + 0 + 0 + 1 + 0 + 0 + 0 + 0 ≤ _), (by decide : 0 + 5 + 4 + 0 + 0 + 4 + 0 + 0 + 0 + 0 ≤ _)⟩)
    dsimp only [Pt.U, Pt.locs, Pt.cells, Pt.slots] at X1316 l1316 y1316 z1316 st1316 hQ1316
    subst l1316 y1316 z1316
    obtain ⟨rfl, N1316q, e1316⟩ := hQ1316
    have N1316 := Fr.app N1298 N1316q
    refine OEnds.st (fun _ k => st1316.trans k) ?_
    show OEnds p.tables e below G (T1316.setTop (mkF m 166 #[.val (.int p1), .val (.int p2), .val (.int p3), .val (.int p4), .val (.int p5), .val (.int (3 : Int32)), .val (.ref b1239), .val (.ref b1251), .val (.int (1 : Int32)), .val (.ref b_1273)] [(.int (own_eq (2 : Int32) (4 : Int32))), (.int (1 : Int32))]))
    refine OEnds.st (fun _ k => XS.iload X1316.here hx rfl (hb hby at_166) rfl k) ?_
    show OEnds p.tables e below G (T1316.setTop (mkF m 168 #[.val (.int p1), .val (.int p2), .val (.int p3), .val (.int p4), .val (.int p5), .val (.int (3 : Int32)), .val (.ref b1239), .val (.ref b1251), .val (.int (1 : Int32)), .val (.ref b_1273)] [(.int (3 : Int32)), (.int (own_eq (2 : Int32) (4 : Int32))), (.int (1 : Int32))]))
    refine OEnds.st (fun _ k => XS.iconst X1316.here hx rfl (hb hby at_168) k) ?_
    show OEnds p.tables e below G (T1316.setTop (mkF m 169 #[.val (.int p1), .val (.int p2), .val (.int p3), .val (.int p4), .val (.int p5), .val (.int (3 : Int32)), .val (.ref b1239), .val (.ref b1251), .val (.int (1 : Int32)), .val (.ref b_1273)] [(.int (1 : Int32)), (.int (3 : Int32)), (.int (own_eq (2 : Int32) (4 : Int32))), (.int (1 : Int32))]))
    refine OEnds.st (fun _ k => XS.icmpYes X1316.here hx rfl (pc0 := 169) (pc' := 176) rfl (hb hby at_169) rfl (feq (by decide : ¬ ((3 : Int32) = (1 : Int32)))).2 (by decide) (by decide) k) ?_
    show OEnds p.tables e below G (T1316.setTop (mkF m 176 #[.val (.int p1), .val (.int p2), .val (.int p3), .val (.int p4), .val (.int p5), .val (.int (3 : Int32)), .val (.ref b1239), .val (.ref b1251), .val (.int (1 : Int32)), .val (.ref b_1273)] [(.int (own_eq (2 : Int32) (4 : Int32))), (.int (1 : Int32))]))
    refine OEnds.st (fun _ k => XS.iconst X1316.here hx rfl (hb hby at_176) k) ?_
    show OEnds p.tables e below G (T1316.setTop (mkF m 177 #[.val (.int p1), .val (.int p2), .val (.int p3), .val (.int p4), .val (.int p5), .val (.int (3 : Int32)), .val (.ref b1239), .val (.ref b1251), .val (.int (1 : Int32)), .val (.ref b_1273)] [(.int (0 : Int32)), (.int (own_eq (2 : Int32) (4 : Int32))), (.int (1 : Int32))]))
    have hc177_1317 : (own_eq (2 : Int32) (4 : Int32)) = (0 : Int32) := by decide
    refine OEnds.st (fun _ k => XS.icmpNo X1316.here hx rfl (hb hby at_177) rfl (teq hc177_1317).2 k) ?_
    show OEnds p.tables e below G (T1316.setTop (mkF m 180 #[.val (.int p1), .val (.int p2), .val (.int p3), .val (.int p4), .val (.int p5), .val (.int (3 : Int32)), .val (.ref b1239), .val (.ref b1251), .val (.int (1 : Int32)), .val (.ref b_1273)] [(.int (1 : Int32))]))
    refine OEnds.st (fun _ k => XS.iconst X1316.here hx rfl (hb hby at_180) k) ?_
    show OEnds p.tables e below G (T1316.setTop (mkF m 181 #[.val (.int p1), .val (.int p2), .val (.int p3), .val (.int p4), .val (.int p5), .val (.int (3 : Int32)), .val (.ref b1239), .val (.ref b1251), .val (.int (1 : Int32)), .val (.ref b_1273)] [(.int (1 : Int32)), (.int (1 : Int32))]))
    refine OEnds.st (fun _ k => XS.goto X1316.here hx rfl (pc0 := 181) (pc' := 185) rfl (hb hby at_181) (by decide) (by decide) k) ?_
    show OEnds p.tables e below G (T1316.setTop (mkF m 185 #[.val (.int p1), .val (.int p2), .val (.int p3), .val (.int p4), .val (.int p5), .val (.int (3 : Int32)), .val (.ref b1239), .val (.ref b1251), .val (.int (1 : Int32)), .val (.ref b_1273)] [(.int (1 : Int32)), (.int (1 : Int32))]))
    refine OEnds.st (fun _ k => XS.iand X1316.here hx rfl (hb hby at_185) rfl k) ?_
    show OEnds p.tables e below G (T1316.setTop (mkF m 186 #[.val (.int p1), .val (.int p2), .val (.int p3), .val (.int p4), .val (.int p5), .val (.int (3 : Int32)), .val (.ref b1239), .val (.ref b1251), .val (.int (1 : Int32)), .val (.ref b_1273)] [(.int ((1 : Int32) &&& (1 : Int32)))]))
    refine OEnds.st (fun _ k => XS.istore X1316.here hx rfl (hb hby at_186) rfl (l' := #[.val (.int p1), .val (.int p2), .val (.int p3), .val (.int p4), .val (.int p5), .val (.int (3 : Int32)), .val (.ref b1239), .val (.ref b1251), .val (.int ((1 : Int32) &&& (1 : Int32))), .val (.ref b_1273)]) rfl k) ?_
    show OEnds p.tables e below G (T1316.setTop (mkF m 188 #[.val (.int p1), .val (.int p2), .val (.int p3), .val (.int p4), .val (.int p5), .val (.int (3 : Int32)), .val (.ref b1239), .val (.ref b1251), .val (.int ((1 : Int32) &&& (1 : Int32))), .val (.ref b_1273)] []))
    rw [show ((1 : Int32) &&& (1 : Int32)) = (1 : Int32) from by decide]
    show OEnds p.tables e below G (T1316.setTop (mkF m 188 #[.val (.int p1), .val (.int p2), .val (.int p3), .val (.int p4), .val (.int p5), .val (.int (3 : Int32)), .val (.ref b1239), .val (.ref b1251), .val (.int (1 : Int32)), .val (.ref b_1273)] []))
    refine OEnds.st (fun _ k => XS.iload X1316.here hx rfl (hb hby at_188) rfl k) ?_
    show OEnds p.tables e below G (T1316.setTop (mkF m 190 #[.val (.int p1), .val (.int p2), .val (.int p3), .val (.int p4), .val (.int p5), .val (.int (3 : Int32)), .val (.ref b1239), .val (.ref b1251), .val (.int (1 : Int32)), .val (.ref b_1273)] [(.int (3 : Int32))]))
    refine OEnds.st (fun _ k => XS.iconst X1316.here hx rfl (hb hby at_190) k) ?_
    show OEnds p.tables e below G (T1316.setTop (mkF m 191 #[.val (.int p1), .val (.int p2), .val (.int p3), .val (.int p4), .val (.int p5), .val (.int (3 : Int32)), .val (.ref b1239), .val (.ref b1251), .val (.int (1 : Int32)), .val (.ref b_1273)] [(.int (2 : Int32)), (.int (3 : Int32))]))
    refine OEnds.st (fun _ k => XS.icmpNo X1316.here hx rfl (hb hby at_191) rfl (flt (by decide : ¬ ((3 : Int32) < (2 : Int32)))).1 k) ?_
    show OEnds p.tables e below G (T1316.setTop (mkF m 194 #[.val (.int p1), .val (.int p2), .val (.int p3), .val (.int p4), .val (.int p5), .val (.int (3 : Int32)), .val (.ref b1239), .val (.ref b1251), .val (.int (1 : Int32)), .val (.ref b_1273)] []))
    refine OEnds.st (fun _ k => XS.aload X1316.here hx rfl (hb hby at_194) rfl rfl k) ?_
    show OEnds p.tables e below G (T1316.setTop (mkF m 196 #[.val (.int p1), .val (.int p2), .val (.int p3), .val (.int p4), .val (.int p5), .val (.int (3 : Int32)), .val (.ref b1239), .val (.ref b1251), .val (.int (1 : Int32)), .val (.ref b_1273)] [(.ref b_1273)]))
    obtain ⟨cq1318, kq1318, q1318a, q1318b, q1318c⟩ := isOf hZ e1316 p1300
    obtain ⟨_, _, ⟨T1318, L1318, k1318c, n1318c⟩, -, X1318, ⟨Lc1318, hQ1318, l1318, y1318, z1318⟩, st1318⟩ := X1316.virtualBack hx (y := (⟨"com/example/nearfar/nearfar/ProtoReader", "varint", "()J"⟩ : MethodName)) (z := (⟨"com/example/nearfar/nearfar/ProtoReader", "varint", "()J"⟩ : MethodName)) hown (mvT hZ (hw _ (List.mem_of_getElem? (i := 46) rfl))) (mvT hZ (hw _ (List.mem_of_getElem? (i := 37) rfl))) (notFace_of_selects (args := #[]) (mvT hZ (hw _ (List.mem_of_getElem? (i := 39) rfl)))) (mvT hZ (hw _ (List.mem_of_getElem? (i := 39) rfl))) (mvT hZ (hw _ (List.mem_of_getElem? (i := 38) rfl))) (by decide) (backOf (W := 0) (rm7 l Z a0 hw [] b_1273 b1239 (2 : Int32) (4 : Int32) (0 : Int32) k1239 (5 : Int32) ([(.int ((3 : Int32).toInt8.toInt32)), (.int ((p2 &&& (127 : Int32)).toInt8.toInt32)), (.int ((p3 &&& (127 : Int32)).toInt8.toInt32)), (.int ((p4 &&& (127 : Int32)).toInt8.toInt32)), (.int ((p5 &&& (127 : Int32)).toInt8.toInt32))]) (.int (0 : Int32)) ((p3 &&& (127 : Int32)).toInt8.toInt32) (3 : Int32) T1298.heap n0 Z1298 p1300 p1301 p1302 p1303 p1304 f1305 ge_b_1273 ne1286 (by decide) (by decide) (by decide) rfl (own_b8 _) rfl (own_nn p3)) hZ (hw _ (List.mem_of_getElem? (i := 40) rfl)) (hw _ (List.mem_of_getElem? (i := 4) rfl)) (by decide) (by decide)) q1318a q1318c (g := (mkF m 196 #[.val (.int p1), .val (.int p2), .val (.int p3), .val (.int p4), .val (.int p5), .val (.int (3 : Int32)), .val (.ref b1239), .val (.ref b1251), .val (.int (1 : Int32)), .val (.ref b_1273)] [(.ref b_1273)])) rfl (by rw [hml]; rfl) (Steps.refl _) (argsL := []) (rest := []) (lenOf pd_2 rfl) rfl (by show 2 * 0 + _ ≤ _; exact Nat.le_of_eq rfl) (hb hby at_196) (fun _ _ => ⟨rfl, e1316, (by decide : 0 + 1 + 1 + 0 + 0 + 1 + 0 + 0 + 0 + 0 + 0 ≤ _), (by decide : 0 + 5 + 4 + 0 + 0 + 4 + 0 + 0 + 0 + 0 + 0 ≤ _)⟩)
    dsimp only [Pt.U, Pt.locs, Pt.cells, Pt.slots] at X1318 l1318 y1318 z1318 st1318 hQ1318
    subst l1318 y1318 z1318
    obtain ⟨rfl, N1318q, p1319, p1320, p1321, p1322, p1323, p1324⟩ := hQ1318
    have N1318 := Fr.app N1316 N1318q
    refine OEnds.st (fun _ k => st1318.trans k) ?_
    have f1325 : Arv Z T1318.heap b1239 k1239 .byte (5 : Int32) [(.int ((3 : Int32).toInt8.toInt32)), (.int ((p2 &&& (127 : Int32)).toInt8.toInt32)), (.int ((p3 &&& (127 : Int32)).toInt8.toInt32)), (.int ((p4 &&& (127 : Int32)).toInt8.toInt32)), (.int ((p5 &&& (127 : Int32)).toInt8.toInt32))] (.int (0 : Int32)) := f1305.keep p1319 (by simp only [List.mem_cons, List.not_mem_nil, or_false, not_or]; exact ne1286)
    have f1326 : Exa Z T1318.heap b1251 "com/example/nearfar/nearfar/ProtoReader" := f1306.keep p1319
    have f1327 : Fld Z T1318.heap b1251 "com/example/nearfar/nearfar/ProtoReader" "bytes" "[B" (.ref b1239) := f1307.keep p1319 (by simp only [List.mem_cons, List.not_mem_nil, or_false, not_or]; exact ne1287)
    have f1328 : Fld Z T1318.heap b1251 "com/example/nearfar/nearfar/ProtoReader" "position" "I" (.int (4 : Int32)) := f1308.keep p1319 (by simp only [List.mem_cons, List.not_mem_nil, or_false, not_or]; exact ne1287)
    have f1329 : Fld Z T1318.heap b1251 "com/example/nearfar/nearfar/ProtoReader" "end" "I" (.int (5 : Int32)) := f1309.keep p1319 (by simp only [List.mem_cons, List.not_mem_nil, or_false, not_or]; exact ne1287)
    have f1330 : Fld Z T1318.heap b1251 "com/example/nearfar/nearfar/ProtoReader" "depth" "I" (.int (0 : Int32)) := f1310.keep p1319 (by simp only [List.mem_cons, List.not_mem_nil, or_false, not_or]; exact ne1287)
    have f1331 : Exa Z T1318.heap b_1273 "com/example/nearfar/nearfar/ProtoReader" := p1300.keep p1319
    have KK1318 : Keep h0 T1318.heap [] := KK1298.trans p1319 (fun x hx => by cases List.mem_singleton.mp hx; exact Or.inr sz_b_1273)
    have Z1318 := Nat.le_trans Z1298 p1319.1
    show OEnds p.tables e below G (T1318.setTop (mkF m 199 #[.val (.int p1), .val (.int p2), .val (.int p3), .val (.int p4), .val (.int p5), .val (.int (3 : Int32)), .val (.ref b1239), .val (.ref b1251), .val (.int (1 : Int32)), .val (.ref b_1273)] [(.long (own_vi ((p3 &&& (127 : Int32)).toInt8.toInt32)))]))
    refine OEnds.st (B := T1318.setTop (mkF m 200 #[.val (.int p1), .val (.int p2), .val (.int p3), .val (.int p4), .val (.int p5), .val (.int (3 : Int32)), .val (.ref b1239), .val (.ref b1251), .val (.int (1 : Int32)), .val (.ref b_1273)] [])) (fun _ k => ?_) ?_
    · jvm_step X1318.here [X1318.here.top, hx, (hb hby at_199), Value.category]
      exact k
    show OEnds p.tables e below G (T1318.setTop (mkF m 200 #[.val (.int p1), .val (.int p2), .val (.int p3), .val (.int p4), .val (.int p5), .val (.int (3 : Int32)), .val (.ref b1239), .val (.ref b1251), .val (.int (1 : Int32)), .val (.ref b_1273)] []))
    refine OEnds.st (fun _ k => XS.iload X1318.here hx rfl (hb hby at_200) rfl k) ?_
    show OEnds p.tables e below G (T1318.setTop (mkF m 202 #[.val (.int p1), .val (.int p2), .val (.int p3), .val (.int p4), .val (.int p5), .val (.int (3 : Int32)), .val (.ref b1239), .val (.ref b1251), .val (.int (1 : Int32)), .val (.ref b_1273)] [(.int (1 : Int32))]))
    refine OEnds.st (fun _ k => XS.aload X1318.here hx rfl (hb hby at_202) rfl rfl k) ?_
    show OEnds p.tables e below G (T1318.setTop (mkF m 204 #[.val (.int p1), .val (.int p2), .val (.int p3), .val (.int p4), .val (.int p5), .val (.int (3 : Int32)), .val (.ref b1239), .val (.ref b1251), .val (.int (1 : Int32)), .val (.ref b_1273)] [(.ref b_1273), (.int (1 : Int32))]))
    obtain ⟨cq1336, kq1336, q1336a, q1336b, q1336c⟩ := isOf hZ rfl p1320
    obtain ⟨_, _, ⟨T1336, L1336, k1336c, n1336c⟩, -, X1336, ⟨Lc1336, hQ1336, l1336, y1336, z1336⟩, st1336⟩ := X1318.virtualBack hx (y := (⟨"com/example/nearfar/nearfar/ProtoReader", "atEnd", "()Z"⟩ : MethodName)) (z := (⟨"com/example/nearfar/nearfar/ProtoReader", "atEnd", "()Z"⟩ : MethodName)) hown (mvT hZ (hw _ (List.mem_of_getElem? (i := 22) rfl))) (mvT hZ (hw _ (List.mem_of_getElem? (i := 23) rfl))) (notFace_of_selects (args := #[]) (mvT hZ (hw _ (List.mem_of_getElem? (i := 25) rfl)))) (mvT hZ (hw _ (List.mem_of_getElem? (i := 25) rfl))) (mvT hZ (hw _ (List.mem_of_getElem? (i := 24) rfl))) (by decide) (backOf (W := 1) (rm4 l Z a0 hw [] b_1273 (3 : Int32) (4 : Int32) T1318.heap n0 Z1318 p1322 p1323) hZ (hw _ (List.mem_of_getElem? (i := 26) rfl)) (hw _ (List.mem_of_getElem? (i := 4) rfl)) (by decide) (by decide)) q1336a q1336c (g := (mkF m 204 #[.val (.int p1), .val (.int p2), .val (.int p3), .val (.int p4), .val (.int p5), .val (.int (3 : Int32)), .val (.ref b1239), .val (.ref b1251), .val (.int (1 : Int32)), .val (.ref b_1273)] [(.ref b_1273), (.int (1 : Int32))])) rfl (by rw [hml]; rfl) (Steps.refl _) (argsL := []) (rest := [(.int (1 : Int32))]) (lenOf pd_5 rfl) rfl (by show 2 * 0 + _ ≤ _; exact Nat.le_of_eq rfl) (hb hby at_204) (fun _ _ => ⟨rfl, rfl, (by decide : 0 + 1 + 1 + 0 + 0 + 1 + 0 + 0 + 0 + 0 + 0 + 0 ≤ _), (by decide : 0 + 5 + 4 + 0 + 0 + 4 + 0 + 0 + 0 + 0 + 0 + 0 ≤ _)⟩)
    dsimp only [Pt.U, Pt.locs, Pt.cells, Pt.slots] at X1336 l1336 y1336 z1336 st1336 hQ1336
    subst l1336 y1336 z1336
    obtain ⟨rfl, N1336q, e1336⟩ := hQ1336
    have N1336 := Fr.app N1318 N1336q
    refine OEnds.st (fun _ k => st1336.trans k) ?_
    show OEnds p.tables e below G (T1336.setTop (mkF m 207 #[.val (.int p1), .val (.int p2), .val (.int p3), .val (.int p4), .val (.int p5), .val (.int (3 : Int32)), .val (.ref b1239), .val (.ref b1251), .val (.int (1 : Int32)), .val (.ref b_1273)] [(.int (own_eq (3 : Int32) (4 : Int32))), (.int (1 : Int32))]))
    refine OEnds.st (fun _ k => XS.iload X1336.here hx rfl (hb hby at_207) rfl k) ?_
    show OEnds p.tables e below G (T1336.setTop (mkF m 209 #[.val (.int p1), .val (.int p2), .val (.int p3), .val (.int p4), .val (.int p5), .val (.int (3 : Int32)), .val (.ref b1239), .val (.ref b1251), .val (.int (1 : Int32)), .val (.ref b_1273)] [(.int (3 : Int32)), (.int (own_eq (3 : Int32) (4 : Int32))), (.int (1 : Int32))]))
    refine OEnds.st (fun _ k => XS.iconst X1336.here hx rfl (hb hby at_209) k) ?_
    show OEnds p.tables e below G (T1336.setTop (mkF m 210 #[.val (.int p1), .val (.int p2), .val (.int p3), .val (.int p4), .val (.int p5), .val (.int (3 : Int32)), .val (.ref b1239), .val (.ref b1251), .val (.int (1 : Int32)), .val (.ref b_1273)] [(.int (2 : Int32)), (.int (3 : Int32)), (.int (own_eq (3 : Int32) (4 : Int32))), (.int (1 : Int32))]))
    refine OEnds.st (fun _ k => XS.icmpYes X1336.here hx rfl (pc0 := 210) (pc' := 217) rfl (hb hby at_210) rfl (feq (by decide : ¬ ((3 : Int32) = (2 : Int32)))).2 (by decide) (by decide) k) ?_
    show OEnds p.tables e below G (T1336.setTop (mkF m 217 #[.val (.int p1), .val (.int p2), .val (.int p3), .val (.int p4), .val (.int p5), .val (.int (3 : Int32)), .val (.ref b1239), .val (.ref b1251), .val (.int (1 : Int32)), .val (.ref b_1273)] [(.int (own_eq (3 : Int32) (4 : Int32))), (.int (1 : Int32))]))
    refine OEnds.st (fun _ k => XS.iconst X1336.here hx rfl (hb hby at_217) k) ?_
    show OEnds p.tables e below G (T1336.setTop (mkF m 218 #[.val (.int p1), .val (.int p2), .val (.int p3), .val (.int p4), .val (.int p5), .val (.int (3 : Int32)), .val (.ref b1239), .val (.ref b1251), .val (.int (1 : Int32)), .val (.ref b_1273)] [(.int (0 : Int32)), (.int (own_eq (3 : Int32) (4 : Int32))), (.int (1 : Int32))]))
    have hc218_1337 : (own_eq (3 : Int32) (4 : Int32)) = (0 : Int32) := by decide
    refine OEnds.st (fun _ k => XS.icmpNo X1336.here hx rfl (hb hby at_218) rfl (teq hc218_1337).2 k) ?_
    show OEnds p.tables e below G (T1336.setTop (mkF m 221 #[.val (.int p1), .val (.int p2), .val (.int p3), .val (.int p4), .val (.int p5), .val (.int (3 : Int32)), .val (.ref b1239), .val (.ref b1251), .val (.int (1 : Int32)), .val (.ref b_1273)] [(.int (1 : Int32))]))
    refine OEnds.st (fun _ k => XS.iconst X1336.here hx rfl (hb hby at_221) k) ?_
    show OEnds p.tables e below G (T1336.setTop (mkF m 222 #[.val (.int p1), .val (.int p2), .val (.int p3), .val (.int p4), .val (.int p5), .val (.int (3 : Int32)), .val (.ref b1239), .val (.ref b1251), .val (.int (1 : Int32)), .val (.ref b_1273)] [(.int (1 : Int32)), (.int (1 : Int32))]))
    refine OEnds.st (fun _ k => XS.goto X1336.here hx rfl (pc0 := 222) (pc' := 226) rfl (hb hby at_222) (by decide) (by decide) k) ?_
    show OEnds p.tables e below G (T1336.setTop (mkF m 226 #[.val (.int p1), .val (.int p2), .val (.int p3), .val (.int p4), .val (.int p5), .val (.int (3 : Int32)), .val (.ref b1239), .val (.ref b1251), .val (.int (1 : Int32)), .val (.ref b_1273)] [(.int (1 : Int32)), (.int (1 : Int32))]))
    refine OEnds.st (fun _ k => XS.iand X1336.here hx rfl (hb hby at_226) rfl k) ?_
    show OEnds p.tables e below G (T1336.setTop (mkF m 227 #[.val (.int p1), .val (.int p2), .val (.int p3), .val (.int p4), .val (.int p5), .val (.int (3 : Int32)), .val (.ref b1239), .val (.ref b1251), .val (.int (1 : Int32)), .val (.ref b_1273)] [(.int ((1 : Int32) &&& (1 : Int32)))]))
    refine OEnds.st (fun _ k => XS.istore X1336.here hx rfl (hb hby at_227) rfl (l' := #[.val (.int p1), .val (.int p2), .val (.int p3), .val (.int p4), .val (.int p5), .val (.int (3 : Int32)), .val (.ref b1239), .val (.ref b1251), .val (.int ((1 : Int32) &&& (1 : Int32))), .val (.ref b_1273)]) rfl k) ?_
    show OEnds p.tables e below G (T1336.setTop (mkF m 229 #[.val (.int p1), .val (.int p2), .val (.int p3), .val (.int p4), .val (.int p5), .val (.int (3 : Int32)), .val (.ref b1239), .val (.ref b1251), .val (.int ((1 : Int32) &&& (1 : Int32))), .val (.ref b_1273)] []))
    rw [show ((1 : Int32) &&& (1 : Int32)) = (1 : Int32) from by decide]
    show OEnds p.tables e below G (T1336.setTop (mkF m 229 #[.val (.int p1), .val (.int p2), .val (.int p3), .val (.int p4), .val (.int p5), .val (.int (3 : Int32)), .val (.ref b1239), .val (.ref b1251), .val (.int (1 : Int32)), .val (.ref b_1273)] []))
    refine OEnds.st (fun _ k => XS.iload X1336.here hx rfl (hb hby at_229) rfl k) ?_
    show OEnds p.tables e below G (T1336.setTop (mkF m 231 #[.val (.int p1), .val (.int p2), .val (.int p3), .val (.int p4), .val (.int p5), .val (.int (3 : Int32)), .val (.ref b1239), .val (.ref b1251), .val (.int (1 : Int32)), .val (.ref b_1273)] [(.int (3 : Int32))]))
    refine OEnds.st (fun _ k => XS.iconst X1336.here hx rfl (hb hby at_231) k) ?_
    show OEnds p.tables e below G (T1336.setTop (mkF m 232 #[.val (.int p1), .val (.int p2), .val (.int p3), .val (.int p4), .val (.int p5), .val (.int (3 : Int32)), .val (.ref b1239), .val (.ref b1251), .val (.int (1 : Int32)), .val (.ref b_1273)] [(.int (3 : Int32)), (.int (3 : Int32))]))
    refine OEnds.st (fun _ k => XS.icmpNo X1336.here hx rfl (hb hby at_232) rfl (flt (by decide : ¬ ((3 : Int32) < (3 : Int32)))).1 k) ?_
    show OEnds p.tables e below G (T1336.setTop (mkF m 235 #[.val (.int p1), .val (.int p2), .val (.int p3), .val (.int p4), .val (.int p5), .val (.int (3 : Int32)), .val (.ref b1239), .val (.ref b1251), .val (.int (1 : Int32)), .val (.ref b_1273)] []))
    refine OEnds.st (fun _ k => XS.aload X1336.here hx rfl (hb hby at_235) rfl rfl k) ?_
    show OEnds p.tables e below G (T1336.setTop (mkF m 237 #[.val (.int p1), .val (.int p2), .val (.int p3), .val (.int p4), .val (.int p5), .val (.int (3 : Int32)), .val (.ref b1239), .val (.ref b1251), .val (.int (1 : Int32)), .val (.ref b_1273)] [(.ref b_1273)]))
    obtain ⟨cq1338, kq1338, q1338a, q1338b, q1338c⟩ := isOf hZ e1336 p1320
    obtain ⟨_, _, ⟨T1338, L1338, k1338c, n1338c⟩, -, X1338, ⟨Lc1338, hQ1338, l1338, y1338, z1338⟩, st1338⟩ := X1336.virtualBack hx (y := (⟨"com/example/nearfar/nearfar/ProtoReader", "varint", "()J"⟩ : MethodName)) (z := (⟨"com/example/nearfar/nearfar/ProtoReader", "varint", "()J"⟩ : MethodName)) hown (mvT hZ (hw _ (List.mem_of_getElem? (i := 46) rfl))) (mvT hZ (hw _ (List.mem_of_getElem? (i := 37) rfl))) (notFace_of_selects (args := #[]) (mvT hZ (hw _ (List.mem_of_getElem? (i := 39) rfl)))) (mvT hZ (hw _ (List.mem_of_getElem? (i := 39) rfl))) (mvT hZ (hw _ (List.mem_of_getElem? (i := 38) rfl))) (by decide) (backOf (W := 0) (rm7 l Z a0 hw [] b_1273 b1239 (3 : Int32) (4 : Int32) (0 : Int32) k1239 (5 : Int32) ([(.int ((3 : Int32).toInt8.toInt32)), (.int ((p2 &&& (127 : Int32)).toInt8.toInt32)), (.int ((p3 &&& (127 : Int32)).toInt8.toInt32)), (.int ((p4 &&& (127 : Int32)).toInt8.toInt32)), (.int ((p5 &&& (127 : Int32)).toInt8.toInt32))]) (.int (0 : Int32)) ((p4 &&& (127 : Int32)).toInt8.toInt32) (4 : Int32) T1318.heap n0 Z1318 p1320 p1321 p1322 p1323 p1324 f1325 ge_b_1273 ne1286 (by decide) (by decide) (by decide) rfl (own_b8 _) rfl (own_nn p4)) hZ (hw _ (List.mem_of_getElem? (i := 40) rfl)) (hw _ (List.mem_of_getElem? (i := 4) rfl)) (by decide) (by decide)) q1338a q1338c (g := (mkF m 237 #[.val (.int p1), .val (.int p2), .val (.int p3), .val (.int p4), .val (.int p5), .val (.int (3 : Int32)), .val (.ref b1239), .val (.ref b1251), .val (.int (1 : Int32)), .val (.ref b_1273)] [(.ref b_1273)])) rfl (by rw [hml]; rfl) (Steps.refl _) (argsL := []) (rest := []) (lenOf pd_2 rfl) rfl (by show 2 * 0 + _ ≤ _; exact Nat.le_of_eq rfl) (hb hby at_237) (fun _ _ => ⟨rfl, e1336, (by decide : 0 + 1 + 1 + 0 + 0 + 1 + 0 + 0 + 0 + 0 + 0 + 0 + 0 ≤ _), (by decide : 0 + 5 + 4 + 0 + 0 + 4 + 0 + 0 + 0 + 0 + 0 + 0 + 0 ≤ _)⟩)
    dsimp only [Pt.U, Pt.locs, Pt.cells, Pt.slots] at X1338 l1338 y1338 z1338 st1338 hQ1338
    subst l1338 y1338 z1338
    obtain ⟨rfl, N1338q, p1339, p1340, p1341, p1342, p1343, p1344⟩ := hQ1338
    have N1338 := Fr.app N1336 N1338q
    refine OEnds.st (fun _ k => st1338.trans k) ?_
    have f1345 : Arv Z T1338.heap b1239 k1239 .byte (5 : Int32) [(.int ((3 : Int32).toInt8.toInt32)), (.int ((p2 &&& (127 : Int32)).toInt8.toInt32)), (.int ((p3 &&& (127 : Int32)).toInt8.toInt32)), (.int ((p4 &&& (127 : Int32)).toInt8.toInt32)), (.int ((p5 &&& (127 : Int32)).toInt8.toInt32))] (.int (0 : Int32)) := f1325.keep p1339 (by simp only [List.mem_cons, List.not_mem_nil, or_false, not_or]; exact ne1286)
    have f1346 : Exa Z T1338.heap b1251 "com/example/nearfar/nearfar/ProtoReader" := f1326.keep p1339
    have f1347 : Fld Z T1338.heap b1251 "com/example/nearfar/nearfar/ProtoReader" "bytes" "[B" (.ref b1239) := f1327.keep p1339 (by simp only [List.mem_cons, List.not_mem_nil, or_false, not_or]; exact ne1287)
    have f1348 : Fld Z T1338.heap b1251 "com/example/nearfar/nearfar/ProtoReader" "position" "I" (.int (4 : Int32)) := f1328.keep p1339 (by simp only [List.mem_cons, List.not_mem_nil, or_false, not_or]; exact ne1287)
    have f1349 : Fld Z T1338.heap b1251 "com/example/nearfar/nearfar/ProtoReader" "end" "I" (.int (5 : Int32)) := f1329.keep p1339 (by simp only [List.mem_cons, List.not_mem_nil, or_false, not_or]; exact ne1287)
    have f1350 : Fld Z T1338.heap b1251 "com/example/nearfar/nearfar/ProtoReader" "depth" "I" (.int (0 : Int32)) := f1330.keep p1339 (by simp only [List.mem_cons, List.not_mem_nil, or_false, not_or]; exact ne1287)
    have f1351 : Exa Z T1338.heap b_1273 "com/example/nearfar/nearfar/ProtoReader" := p1320.keep p1339
    have KK1338 : Keep h0 T1338.heap [] := KK1318.trans p1339 (fun x hx => by cases List.mem_singleton.mp hx; exact Or.inr sz_b_1273)
    have Z1338 := Nat.le_trans Z1318 p1339.1
    show OEnds p.tables e below G (T1338.setTop (mkF m 240 #[.val (.int p1), .val (.int p2), .val (.int p3), .val (.int p4), .val (.int p5), .val (.int (3 : Int32)), .val (.ref b1239), .val (.ref b1251), .val (.int (1 : Int32)), .val (.ref b_1273)] [(.long (own_vi ((p4 &&& (127 : Int32)).toInt8.toInt32)))]))
    refine OEnds.st (B := T1338.setTop (mkF m 241 #[.val (.int p1), .val (.int p2), .val (.int p3), .val (.int p4), .val (.int p5), .val (.int (3 : Int32)), .val (.ref b1239), .val (.ref b1251), .val (.int (1 : Int32)), .val (.ref b_1273)] [])) (fun _ k => ?_) ?_
    · jvm_step X1338.here [X1338.here.top, hx, (hb hby at_240), Value.category]
      exact k
    show OEnds p.tables e below G (T1338.setTop (mkF m 241 #[.val (.int p1), .val (.int p2), .val (.int p3), .val (.int p4), .val (.int p5), .val (.int (3 : Int32)), .val (.ref b1239), .val (.ref b1251), .val (.int (1 : Int32)), .val (.ref b_1273)] []))
    refine OEnds.st (fun _ k => XS.iload X1338.here hx rfl (hb hby at_241) rfl k) ?_
    show OEnds p.tables e below G (T1338.setTop (mkF m 243 #[.val (.int p1), .val (.int p2), .val (.int p3), .val (.int p4), .val (.int p5), .val (.int (3 : Int32)), .val (.ref b1239), .val (.ref b1251), .val (.int (1 : Int32)), .val (.ref b_1273)] [(.int (1 : Int32))]))
    refine OEnds.st (fun _ k => XS.aload X1338.here hx rfl (hb hby at_243) rfl rfl k) ?_
    show OEnds p.tables e below G (T1338.setTop (mkF m 245 #[.val (.int p1), .val (.int p2), .val (.int p3), .val (.int p4), .val (.int p5), .val (.int (3 : Int32)), .val (.ref b1239), .val (.ref b1251), .val (.int (1 : Int32)), .val (.ref b_1273)] [(.ref b_1273), (.int (1 : Int32))]))
    obtain ⟨cq1356, kq1356, q1356a, q1356b, q1356c⟩ := isOf hZ rfl p1340
    obtain ⟨_, _, ⟨T1356, L1356, k1356c, n1356c⟩, -, X1356, ⟨Lc1356, hQ1356, l1356, y1356, z1356⟩, st1356⟩ := X1338.virtualBack hx (y := (⟨"com/example/nearfar/nearfar/ProtoReader", "atEnd", "()Z"⟩ : MethodName)) (z := (⟨"com/example/nearfar/nearfar/ProtoReader", "atEnd", "()Z"⟩ : MethodName)) hown (mvT hZ (hw _ (List.mem_of_getElem? (i := 22) rfl))) (mvT hZ (hw _ (List.mem_of_getElem? (i := 23) rfl))) (notFace_of_selects (args := #[]) (mvT hZ (hw _ (List.mem_of_getElem? (i := 25) rfl)))) (mvT hZ (hw _ (List.mem_of_getElem? (i := 25) rfl))) (mvT hZ (hw _ (List.mem_of_getElem? (i := 24) rfl))) (by decide) (backOf (W := 1) (rm4 l Z a0 hw [] b_1273 (4 : Int32) (4 : Int32) T1338.heap n0 Z1338 p1342 p1343) hZ (hw _ (List.mem_of_getElem? (i := 26) rfl)) (hw _ (List.mem_of_getElem? (i := 4) rfl)) (by decide) (by decide)) q1356a q1356c (g := (mkF m 245 #[.val (.int p1), .val (.int p2), .val (.int p3), .val (.int p4), .val (.int p5), .val (.int (3 : Int32)), .val (.ref b1239), .val (.ref b1251), .val (.int (1 : Int32)), .val (.ref b_1273)] [(.ref b_1273), (.int (1 : Int32))])) rfl (by rw [hml]; rfl) (Steps.refl _) (argsL := []) (rest := [(.int (1 : Int32))]) (lenOf pd_5 rfl) rfl (by show 2 * 0 + _ ≤ _; exact Nat.le_of_eq rfl) (hb hby at_245) (fun _ _ => ⟨rfl, rfl, (by decide : 0 + 1 + 1 + 0 + 0 + 1 + 0 + 0 + 0 + 0 + 0 + 0 + 0 + 0 ≤ _), (by decide : 0 + 5 + 4 + 0 + 0 + 4 + 0 + 0 + 0 + 0 + 0 + 0 + 0 + 0 ≤ _)⟩)
    dsimp only [Pt.U, Pt.locs, Pt.cells, Pt.slots] at X1356 l1356 y1356 z1356 st1356 hQ1356
    subst l1356 y1356 z1356
    obtain ⟨rfl, N1356q, e1356⟩ := hQ1356
    have N1356 := Fr.app N1338 N1356q
    refine OEnds.st (fun _ k => st1356.trans k) ?_
    show OEnds p.tables e below G (T1356.setTop (mkF m 248 #[.val (.int p1), .val (.int p2), .val (.int p3), .val (.int p4), .val (.int p5), .val (.int (3 : Int32)), .val (.ref b1239), .val (.ref b1251), .val (.int (1 : Int32)), .val (.ref b_1273)] [(.int (own_eq (4 : Int32) (4 : Int32))), (.int (1 : Int32))]))
    refine OEnds.st (fun _ k => XS.iload X1356.here hx rfl (hb hby at_248) rfl k) ?_
    show OEnds p.tables e below G (T1356.setTop (mkF m 250 #[.val (.int p1), .val (.int p2), .val (.int p3), .val (.int p4), .val (.int p5), .val (.int (3 : Int32)), .val (.ref b1239), .val (.ref b1251), .val (.int (1 : Int32)), .val (.ref b_1273)] [(.int (3 : Int32)), (.int (own_eq (4 : Int32) (4 : Int32))), (.int (1 : Int32))]))
    refine OEnds.st (fun _ k => XS.iconst X1356.here hx rfl (hb hby at_250) k) ?_
    show OEnds p.tables e below G (T1356.setTop (mkF m 251 #[.val (.int p1), .val (.int p2), .val (.int p3), .val (.int p4), .val (.int p5), .val (.int (3 : Int32)), .val (.ref b1239), .val (.ref b1251), .val (.int (1 : Int32)), .val (.ref b_1273)] [(.int (3 : Int32)), (.int (3 : Int32)), (.int (own_eq (4 : Int32) (4 : Int32))), (.int (1 : Int32))]))
    refine OEnds.st (fun _ k => XS.icmpNo X1356.here hx rfl (hb hby at_251) rfl (teq (by decide : (3 : Int32) = (3 : Int32))).2 k) ?_
    show OEnds p.tables e below G (T1356.setTop (mkF m 254 #[.val (.int p1), .val (.int p2), .val (.int p3), .val (.int p4), .val (.int p5), .val (.int (3 : Int32)), .val (.ref b1239), .val (.ref b1251), .val (.int (1 : Int32)), .val (.ref b_1273)] [(.int (own_eq (4 : Int32) (4 : Int32))), (.int (1 : Int32))]))
    refine OEnds.st (fun _ k => XS.iconst X1356.here hx rfl (hb hby at_254) k) ?_
    show OEnds p.tables e below G (T1356.setTop (mkF m 255 #[.val (.int p1), .val (.int p2), .val (.int p3), .val (.int p4), .val (.int p5), .val (.int (3 : Int32)), .val (.ref b1239), .val (.ref b1251), .val (.int (1 : Int32)), .val (.ref b_1273)] [(.int (1 : Int32)), (.int (own_eq (4 : Int32) (4 : Int32))), (.int (1 : Int32))]))
    refine OEnds.st (fun _ k => XS.goto X1356.here hx rfl (pc0 := 255) (pc' := 259) rfl (hb hby at_255) (by decide) (by decide) k) ?_
    show OEnds p.tables e below G (T1356.setTop (mkF m 259 #[.val (.int p1), .val (.int p2), .val (.int p3), .val (.int p4), .val (.int p5), .val (.int (3 : Int32)), .val (.ref b1239), .val (.ref b1251), .val (.int (1 : Int32)), .val (.ref b_1273)] [(.int (1 : Int32)), (.int (own_eq (4 : Int32) (4 : Int32))), (.int (1 : Int32))]))
    have hc259_1357 : (own_eq (4 : Int32) (4 : Int32)) = (1 : Int32) := by decide
    refine OEnds.st (fun _ k => XS.icmpNo X1356.here hx rfl (hb hby at_259) rfl (teq hc259_1357).2 k) ?_
    show OEnds p.tables e below G (T1356.setTop (mkF m 262 #[.val (.int p1), .val (.int p2), .val (.int p3), .val (.int p4), .val (.int p5), .val (.int (3 : Int32)), .val (.ref b1239), .val (.ref b1251), .val (.int (1 : Int32)), .val (.ref b_1273)] [(.int (1 : Int32))]))
    refine OEnds.st (fun _ k => XS.iconst X1356.here hx rfl (hb hby at_262) k) ?_
    show OEnds p.tables e below G (T1356.setTop (mkF m 263 #[.val (.int p1), .val (.int p2), .val (.int p3), .val (.int p4), .val (.int p5), .val (.int (3 : Int32)), .val (.ref b1239), .val (.ref b1251), .val (.int (1 : Int32)), .val (.ref b_1273)] [(.int (1 : Int32)), (.int (1 : Int32))]))
    refine OEnds.st (fun _ k => XS.goto X1356.here hx rfl (pc0 := 263) (pc' := 267) rfl (hb hby at_263) (by decide) (by decide) k) ?_
    show OEnds p.tables e below G (T1356.setTop (mkF m 267 #[.val (.int p1), .val (.int p2), .val (.int p3), .val (.int p4), .val (.int p5), .val (.int (3 : Int32)), .val (.ref b1239), .val (.ref b1251), .val (.int (1 : Int32)), .val (.ref b_1273)] [(.int (1 : Int32)), (.int (1 : Int32))]))
    refine OEnds.st (fun _ k => XS.iand X1356.here hx rfl (hb hby at_267) rfl k) ?_
    show OEnds p.tables e below G (T1356.setTop (mkF m 268 #[.val (.int p1), .val (.int p2), .val (.int p3), .val (.int p4), .val (.int p5), .val (.int (3 : Int32)), .val (.ref b1239), .val (.ref b1251), .val (.int (1 : Int32)), .val (.ref b_1273)] [(.int ((1 : Int32) &&& (1 : Int32)))]))
    refine OEnds.st (fun _ k => XS.istore X1356.here hx rfl (hb hby at_268) rfl (l' := #[.val (.int p1), .val (.int p2), .val (.int p3), .val (.int p4), .val (.int p5), .val (.int (3 : Int32)), .val (.ref b1239), .val (.ref b1251), .val (.int ((1 : Int32) &&& (1 : Int32))), .val (.ref b_1273)]) rfl k) ?_
    show OEnds p.tables e below G (T1356.setTop (mkF m 270 #[.val (.int p1), .val (.int p2), .val (.int p3), .val (.int p4), .val (.int p5), .val (.int (3 : Int32)), .val (.ref b1239), .val (.ref b1251), .val (.int ((1 : Int32) &&& (1 : Int32))), .val (.ref b_1273)] []))
    rw [show ((1 : Int32) &&& (1 : Int32)) = (1 : Int32) from by decide]
    show OEnds p.tables e below G (T1356.setTop (mkF m 270 #[.val (.int p1), .val (.int p2), .val (.int p3), .val (.int p4), .val (.int p5), .val (.int (3 : Int32)), .val (.ref b1239), .val (.ref b1251), .val (.int (1 : Int32)), .val (.ref b_1273)] []))
    refine OEnds.st (fun _ k => XS.iload X1356.here hx rfl (hb hby at_270) rfl k) ?_
    show OEnds p.tables e below G (T1356.setTop (mkF m 272 #[.val (.int p1), .val (.int p2), .val (.int p3), .val (.int p4), .val (.int p5), .val (.int (3 : Int32)), .val (.ref b1239), .val (.ref b1251), .val (.int (1 : Int32)), .val (.ref b_1273)] [(.int (1 : Int32))]))
    rw [← hG]
    refine OEnds.retZ X1356 hx hlk Bd.returns rfl (hb hby at_272) (by decide) (by decide) ?_
    rw [e1356]
    exact ⟨rfl, N1356⟩
  · -- 4
    rw [hi]
    show OEnds p.tables e below G (s₁.setTop (mkF m 8 #[.val (.int p1), .val (.int p2), .val (.int p3), .val (.int p4), .val (.int p5), .val (.int (4 : Int32)), .unset, .unset, .unset, .unset] []))
    refine OEnds.st (fun _ k => XS.iconst X0.here hx rfl (hb hby at_8) k) ?_
    show OEnds p.tables e below G (s₁.setTop (mkF m 9 #[.val (.int p1), .val (.int p2), .val (.int p3), .val (.int p4), .val (.int p5), .val (.int (4 : Int32)), .unset, .unset, .unset, .unset] [(.int (5 : Int32))]))
    obtain ⟨T1358, h1358, k1358, X1358, e1358, E1358, A1358, st1358⟩ := newP X0 hx hZ (hw _ (List.mem_of_getElem? (i := 1) rfl)) e0 (g := (mkF m 9 #[.val (.int p1), .val (.int p2), .val (.int p3), .val (.int p4), .val (.int p5), .val (.int (4 : Int32)), .unset, .unset, .unset, .unset] [(.int (5 : Int32))])) rfl (hb hby at_9) rfl (by decide) (cap := 5) (by decide) (by decide) (by decide) (by decide)
    obtain ⟨b1358, g1358⟩ : ∃ z, z = h0.size := ⟨_, rfl⟩
    rw [← g1358] at A1358 st1358
    refine OEnds.st st1358 ?_
    have ge_b1358 : n0 ≤ b1358 := Nat.le_trans Z0 (Nat.le_of_eq g1358.symm)
    have sz_b1358 : h0.size ≤ b1358 := Nat.le_trans KK0.1 (Nat.le_of_eq g1358.symm)
    have KK1358 : Keep h0 h1358 [] := KK0.ext E1358
    have Z1358 := Nat.le_trans Z0 E1358.1
    have f1359 : Arv Z h1358 b1358 k1358 .byte (5 : Int32) [(.int (0 : Int32)), (.int (0 : Int32)), (.int (0 : Int32)), (.int (0 : Int32)), (.int (0 : Int32))] (.int (0 : Int32)) := (Arv.new A1358 (by decide)).pad (pad_rep [] (.int (0 : Int32)) 5)
    show OEnds p.tables e below G (T1358.setTop (mkF m 11 #[.val (.int p1), .val (.int p2), .val (.int p3), .val (.int p4), .val (.int p5), .val (.int (4 : Int32)), .unset, .unset, .unset, .unset] [(.ref b1358)]))
    refine OEnds.st (fun _ k => XS.astore X1358.here hx rfl (hb hby at_11) rfl rfl (l' := #[.val (.int p1), .val (.int p2), .val (.int p3), .val (.int p4), .val (.int p5), .val (.int (4 : Int32)), .val (.ref b1358), .unset, .unset, .unset]) rfl k) ?_
    show OEnds p.tables e below G (T1358.setTop (mkF m 13 #[.val (.int p1), .val (.int p2), .val (.int p3), .val (.int p4), .val (.int p5), .val (.int (4 : Int32)), .val (.ref b1358), .unset, .unset, .unset] []))
    refine OEnds.st (fun _ k => XS.aload X1358.here hx rfl (hb hby at_13) rfl rfl k) ?_
    show OEnds p.tables e below G (T1358.setTop (mkF m 15 #[.val (.int p1), .val (.int p2), .val (.int p3), .val (.int p4), .val (.int p5), .val (.int (4 : Int32)), .val (.ref b1358), .unset, .unset, .unset] [(.ref b1358)]))
    refine OEnds.st (fun _ k => XS.iconst X1358.here hx rfl (hb hby at_15) k) ?_
    show OEnds p.tables e below G (T1358.setTop (mkF m 16 #[.val (.int p1), .val (.int p2), .val (.int p3), .val (.int p4), .val (.int p5), .val (.int (4 : Int32)), .val (.ref b1358), .unset, .unset, .unset] [(.int (0 : Int32)), (.ref b1358)]))
    refine OEnds.st (fun _ k => XS.iload X1358.here hx rfl (hb hby at_16) rfl k) ?_
    show OEnds p.tables e below G (T1358.setTop (mkF m 18 #[.val (.int p1), .val (.int p2), .val (.int p3), .val (.int p4), .val (.int p5), .val (.int (4 : Int32)), .val (.ref b1358), .unset, .unset, .unset] [(.int (4 : Int32)), (.int (0 : Int32)), (.ref b1358)]))
    refine OEnds.st (fun _ k => XS.i2b X1358.here hx rfl (hb hby at_18) rfl k) ?_
    show OEnds p.tables e below G (T1358.setTop (mkF m 19 #[.val (.int p1), .val (.int p2), .val (.int p3), .val (.int p4), .val (.int p5), .val (.int (4 : Int32)), .val (.ref b1358), .unset, .unset, .unset] [(.int ((4 : Int32).toInt8.toInt32)), (.int (0 : Int32)), (.ref b1358)]))
    obtain ⟨cl1360, Ar1360, q1360, S1360, N1360n, H1360, G1360⟩ := id f1359
    have hin1360 : ¬ ((0 : Int32) < 0 ∨ cl1360.slots.size ≤ ((0 : Int32)).toNatClampNeg) := inb_of S1360 ⟨by decide, by decide⟩
    obtain ⟨T1360, h1360, X1360, e1360, W1360, st1360⟩ := stB X1358 hx hZ e1358 Ar1360 (j := (0 : Int32)) hin1360 (g := (mkF m 19 #[.val (.int p1), .val (.int p2), .val (.int p3), .val (.int p4), .val (.int p5), .val (.int (4 : Int32)), .val (.ref b1358), .unset, .unset, .unset] [(.int ((4 : Int32).toInt8.toInt32)), (.int (0 : Int32)), (.ref b1358)])) rfl rfl (hb hby at_19)
    refine OEnds.st st1360 ?_
    rw [own_b8] at W1360
    have f1361 : Arv Z h1360 b1358 k1358 .byte (5 : Int32) [(.int ((4 : Int32).toInt8.toInt32)), (.int (0 : Int32)), (.int (0 : Int32)), (.int (0 : Int32)), (.int (0 : Int32))] (.int (0 : Int32)) := Arv.set Ar1360 q1360 S1360 N1360n H1360 G1360 (fits_nar_byte _) W1360 0 rfl (Nat.le_of_ble_eq_true rfl)
    have N1360 := Fr.snoc X1360 N0 ge_b1358
    have KK1360 : Keep h0 h1360 [] := KK1358.wr W1360 (Or.inr sz_b1358)
    have Z1360 := Nat.le_trans Z1358 (Keep.of_wr W1360).1
    show OEnds p.tables e below G (T1360.setTop (mkF m 20 #[.val (.int p1), .val (.int p2), .val (.int p3), .val (.int p4), .val (.int p5), .val (.int (4 : Int32)), .val (.ref b1358), .unset, .unset, .unset] []))
    refine OEnds.st (fun _ k => XS.aload X1360.here hx rfl (hb hby at_20) rfl rfl k) ?_
    show OEnds p.tables e below G (T1360.setTop (mkF m 22 #[.val (.int p1), .val (.int p2), .val (.int p3), .val (.int p4), .val (.int p5), .val (.int (4 : Int32)), .val (.ref b1358), .unset, .unset, .unset] [(.ref b1358)]))
    refine OEnds.st (fun _ k => XS.iconst X1360.here hx rfl (hb hby at_22) k) ?_
    show OEnds p.tables e below G (T1360.setTop (mkF m 23 #[.val (.int p1), .val (.int p2), .val (.int p3), .val (.int p4), .val (.int p5), .val (.int (4 : Int32)), .val (.ref b1358), .unset, .unset, .unset] [(.int (1 : Int32)), (.ref b1358)]))
    refine OEnds.st (fun _ k => XS.iloadN X1360.here hx rfl (hb hby at_23) rfl k) ?_
    show OEnds p.tables e below G (T1360.setTop (mkF m 24 #[.val (.int p1), .val (.int p2), .val (.int p3), .val (.int p4), .val (.int p5), .val (.int (4 : Int32)), .val (.ref b1358), .unset, .unset, .unset] [(.int p2), (.int (1 : Int32)), (.ref b1358)]))
    refine OEnds.st (fun _ k => XS.bipush X1360.here hx rfl (hb hby at_24) k) ?_
    show OEnds p.tables e below G (T1360.setTop (mkF m 26 #[.val (.int p1), .val (.int p2), .val (.int p3), .val (.int p4), .val (.int p5), .val (.int (4 : Int32)), .val (.ref b1358), .unset, .unset, .unset] [(.int (127 : Int32)), (.int p2), (.int (1 : Int32)), (.ref b1358)]))
    refine OEnds.st (fun _ k => XS.iand X1360.here hx rfl (hb hby at_26) rfl k) ?_
    show OEnds p.tables e below G (T1360.setTop (mkF m 27 #[.val (.int p1), .val (.int p2), .val (.int p3), .val (.int p4), .val (.int p5), .val (.int (4 : Int32)), .val (.ref b1358), .unset, .unset, .unset] [(.int (p2 &&& (127 : Int32))), (.int (1 : Int32)), (.ref b1358)]))
    refine OEnds.st (fun _ k => XS.i2b X1360.here hx rfl (hb hby at_27) rfl k) ?_
    show OEnds p.tables e below G (T1360.setTop (mkF m 28 #[.val (.int p1), .val (.int p2), .val (.int p3), .val (.int p4), .val (.int p5), .val (.int (4 : Int32)), .val (.ref b1358), .unset, .unset, .unset] [(.int ((p2 &&& (127 : Int32)).toInt8.toInt32)), (.int (1 : Int32)), (.ref b1358)]))
    obtain ⟨cl1362, Ar1362, q1362, S1362, N1362n, H1362, G1362⟩ := id f1361
    have hin1362 : ¬ ((1 : Int32) < 0 ∨ cl1362.slots.size ≤ ((1 : Int32)).toNatClampNeg) := inb_of S1362 ⟨by decide, by decide⟩
    obtain ⟨T1362, h1362, X1362, e1362, W1362, st1362⟩ := stB X1360 hx hZ e1360 Ar1362 (j := (1 : Int32)) hin1362 (g := (mkF m 28 #[.val (.int p1), .val (.int p2), .val (.int p3), .val (.int p4), .val (.int p5), .val (.int (4 : Int32)), .val (.ref b1358), .unset, .unset, .unset] [(.int ((p2 &&& (127 : Int32)).toInt8.toInt32)), (.int (1 : Int32)), (.ref b1358)])) rfl rfl (hb hby at_28)
    refine OEnds.st st1362 ?_
    rw [own_b8] at W1362
    have f1363 : Arv Z h1362 b1358 k1358 .byte (5 : Int32) [(.int ((4 : Int32).toInt8.toInt32)), (.int ((p2 &&& (127 : Int32)).toInt8.toInt32)), (.int (0 : Int32)), (.int (0 : Int32)), (.int (0 : Int32))] (.int (0 : Int32)) := Arv.set Ar1362 q1362 S1362 N1362n H1362 G1362 (fits_nar_byte _) W1362 1 rfl (Nat.le_of_ble_eq_true rfl)
    have N1362 := Fr.snoc X1362 N1360 ge_b1358
    have KK1362 : Keep h0 h1362 [] := KK1360.wr W1362 (Or.inr sz_b1358)
    have Z1362 := Nat.le_trans Z1360 (Keep.of_wr W1362).1
    show OEnds p.tables e below G (T1362.setTop (mkF m 29 #[.val (.int p1), .val (.int p2), .val (.int p3), .val (.int p4), .val (.int p5), .val (.int (4 : Int32)), .val (.ref b1358), .unset, .unset, .unset] []))
    refine OEnds.st (fun _ k => XS.aload X1362.here hx rfl (hb hby at_29) rfl rfl k) ?_
    show OEnds p.tables e below G (T1362.setTop (mkF m 31 #[.val (.int p1), .val (.int p2), .val (.int p3), .val (.int p4), .val (.int p5), .val (.int (4 : Int32)), .val (.ref b1358), .unset, .unset, .unset] [(.ref b1358)]))
    refine OEnds.st (fun _ k => XS.iconst X1362.here hx rfl (hb hby at_31) k) ?_
    show OEnds p.tables e below G (T1362.setTop (mkF m 32 #[.val (.int p1), .val (.int p2), .val (.int p3), .val (.int p4), .val (.int p5), .val (.int (4 : Int32)), .val (.ref b1358), .unset, .unset, .unset] [(.int (2 : Int32)), (.ref b1358)]))
    refine OEnds.st (fun _ k => XS.iloadN X1362.here hx rfl (hb hby at_32) rfl k) ?_
    show OEnds p.tables e below G (T1362.setTop (mkF m 33 #[.val (.int p1), .val (.int p2), .val (.int p3), .val (.int p4), .val (.int p5), .val (.int (4 : Int32)), .val (.ref b1358), .unset, .unset, .unset] [(.int p3), (.int (2 : Int32)), (.ref b1358)]))
    refine OEnds.st (fun _ k => XS.bipush X1362.here hx rfl (hb hby at_33) k) ?_
    show OEnds p.tables e below G (T1362.setTop (mkF m 35 #[.val (.int p1), .val (.int p2), .val (.int p3), .val (.int p4), .val (.int p5), .val (.int (4 : Int32)), .val (.ref b1358), .unset, .unset, .unset] [(.int (127 : Int32)), (.int p3), (.int (2 : Int32)), (.ref b1358)]))
    refine OEnds.st (fun _ k => XS.iand X1362.here hx rfl (hb hby at_35) rfl k) ?_
    show OEnds p.tables e below G (T1362.setTop (mkF m 36 #[.val (.int p1), .val (.int p2), .val (.int p3), .val (.int p4), .val (.int p5), .val (.int (4 : Int32)), .val (.ref b1358), .unset, .unset, .unset] [(.int (p3 &&& (127 : Int32))), (.int (2 : Int32)), (.ref b1358)]))
    refine OEnds.st (fun _ k => XS.i2b X1362.here hx rfl (hb hby at_36) rfl k) ?_
    show OEnds p.tables e below G (T1362.setTop (mkF m 37 #[.val (.int p1), .val (.int p2), .val (.int p3), .val (.int p4), .val (.int p5), .val (.int (4 : Int32)), .val (.ref b1358), .unset, .unset, .unset] [(.int ((p3 &&& (127 : Int32)).toInt8.toInt32)), (.int (2 : Int32)), (.ref b1358)]))
    obtain ⟨cl1364, Ar1364, q1364, S1364, N1364n, H1364, G1364⟩ := id f1363
    have hin1364 : ¬ ((2 : Int32) < 0 ∨ cl1364.slots.size ≤ ((2 : Int32)).toNatClampNeg) := inb_of S1364 ⟨by decide, by decide⟩
    obtain ⟨T1364, h1364, X1364, e1364, W1364, st1364⟩ := stB X1362 hx hZ e1362 Ar1364 (j := (2 : Int32)) hin1364 (g := (mkF m 37 #[.val (.int p1), .val (.int p2), .val (.int p3), .val (.int p4), .val (.int p5), .val (.int (4 : Int32)), .val (.ref b1358), .unset, .unset, .unset] [(.int ((p3 &&& (127 : Int32)).toInt8.toInt32)), (.int (2 : Int32)), (.ref b1358)])) rfl rfl (hb hby at_37)
    refine OEnds.st st1364 ?_
    rw [own_b8] at W1364
    have f1365 : Arv Z h1364 b1358 k1358 .byte (5 : Int32) [(.int ((4 : Int32).toInt8.toInt32)), (.int ((p2 &&& (127 : Int32)).toInt8.toInt32)), (.int ((p3 &&& (127 : Int32)).toInt8.toInt32)), (.int (0 : Int32)), (.int (0 : Int32))] (.int (0 : Int32)) := Arv.set Ar1364 q1364 S1364 N1364n H1364 G1364 (fits_nar_byte _) W1364 2 rfl (Nat.le_of_ble_eq_true rfl)
    have N1364 := Fr.snoc X1364 N1362 ge_b1358
    have KK1364 : Keep h0 h1364 [] := KK1362.wr W1364 (Or.inr sz_b1358)
    have Z1364 := Nat.le_trans Z1362 (Keep.of_wr W1364).1
    show OEnds p.tables e below G (T1364.setTop (mkF m 38 #[.val (.int p1), .val (.int p2), .val (.int p3), .val (.int p4), .val (.int p5), .val (.int (4 : Int32)), .val (.ref b1358), .unset, .unset, .unset] []))
    refine OEnds.st (fun _ k => XS.aload X1364.here hx rfl (hb hby at_38) rfl rfl k) ?_
    show OEnds p.tables e below G (T1364.setTop (mkF m 40 #[.val (.int p1), .val (.int p2), .val (.int p3), .val (.int p4), .val (.int p5), .val (.int (4 : Int32)), .val (.ref b1358), .unset, .unset, .unset] [(.ref b1358)]))
    refine OEnds.st (fun _ k => XS.iconst X1364.here hx rfl (hb hby at_40) k) ?_
    show OEnds p.tables e below G (T1364.setTop (mkF m 41 #[.val (.int p1), .val (.int p2), .val (.int p3), .val (.int p4), .val (.int p5), .val (.int (4 : Int32)), .val (.ref b1358), .unset, .unset, .unset] [(.int (3 : Int32)), (.ref b1358)]))
    refine OEnds.st (fun _ k => XS.iloadN X1364.here hx rfl (hb hby at_41) rfl k) ?_
    show OEnds p.tables e below G (T1364.setTop (mkF m 42 #[.val (.int p1), .val (.int p2), .val (.int p3), .val (.int p4), .val (.int p5), .val (.int (4 : Int32)), .val (.ref b1358), .unset, .unset, .unset] [(.int p4), (.int (3 : Int32)), (.ref b1358)]))
    refine OEnds.st (fun _ k => XS.bipush X1364.here hx rfl (hb hby at_42) k) ?_
    show OEnds p.tables e below G (T1364.setTop (mkF m 44 #[.val (.int p1), .val (.int p2), .val (.int p3), .val (.int p4), .val (.int p5), .val (.int (4 : Int32)), .val (.ref b1358), .unset, .unset, .unset] [(.int (127 : Int32)), (.int p4), (.int (3 : Int32)), (.ref b1358)]))
    refine OEnds.st (fun _ k => XS.iand X1364.here hx rfl (hb hby at_44) rfl k) ?_
    show OEnds p.tables e below G (T1364.setTop (mkF m 45 #[.val (.int p1), .val (.int p2), .val (.int p3), .val (.int p4), .val (.int p5), .val (.int (4 : Int32)), .val (.ref b1358), .unset, .unset, .unset] [(.int (p4 &&& (127 : Int32))), (.int (3 : Int32)), (.ref b1358)]))
    refine OEnds.st (fun _ k => XS.i2b X1364.here hx rfl (hb hby at_45) rfl k) ?_
    show OEnds p.tables e below G (T1364.setTop (mkF m 46 #[.val (.int p1), .val (.int p2), .val (.int p3), .val (.int p4), .val (.int p5), .val (.int (4 : Int32)), .val (.ref b1358), .unset, .unset, .unset] [(.int ((p4 &&& (127 : Int32)).toInt8.toInt32)), (.int (3 : Int32)), (.ref b1358)]))
    obtain ⟨cl1366, Ar1366, q1366, S1366, N1366n, H1366, G1366⟩ := id f1365
    have hin1366 : ¬ ((3 : Int32) < 0 ∨ cl1366.slots.size ≤ ((3 : Int32)).toNatClampNeg) := inb_of S1366 ⟨by decide, by decide⟩
    obtain ⟨T1366, h1366, X1366, e1366, W1366, st1366⟩ := stB X1364 hx hZ e1364 Ar1366 (j := (3 : Int32)) hin1366 (g := (mkF m 46 #[.val (.int p1), .val (.int p2), .val (.int p3), .val (.int p4), .val (.int p5), .val (.int (4 : Int32)), .val (.ref b1358), .unset, .unset, .unset] [(.int ((p4 &&& (127 : Int32)).toInt8.toInt32)), (.int (3 : Int32)), (.ref b1358)])) rfl rfl (hb hby at_46)
    refine OEnds.st st1366 ?_
    rw [own_b8] at W1366
    have f1367 : Arv Z h1366 b1358 k1358 .byte (5 : Int32) [(.int ((4 : Int32).toInt8.toInt32)), (.int ((p2 &&& (127 : Int32)).toInt8.toInt32)), (.int ((p3 &&& (127 : Int32)).toInt8.toInt32)), (.int ((p4 &&& (127 : Int32)).toInt8.toInt32)), (.int (0 : Int32))] (.int (0 : Int32)) := Arv.set Ar1366 q1366 S1366 N1366n H1366 G1366 (fits_nar_byte _) W1366 3 rfl (Nat.le_of_ble_eq_true rfl)
    have N1366 := Fr.snoc X1366 N1364 ge_b1358
    have KK1366 : Keep h0 h1366 [] := KK1364.wr W1366 (Or.inr sz_b1358)
    have Z1366 := Nat.le_trans Z1364 (Keep.of_wr W1366).1
    show OEnds p.tables e below G (T1366.setTop (mkF m 47 #[.val (.int p1), .val (.int p2), .val (.int p3), .val (.int p4), .val (.int p5), .val (.int (4 : Int32)), .val (.ref b1358), .unset, .unset, .unset] []))
    refine OEnds.st (fun _ k => XS.aload X1366.here hx rfl (hb hby at_47) rfl rfl k) ?_
    show OEnds p.tables e below G (T1366.setTop (mkF m 49 #[.val (.int p1), .val (.int p2), .val (.int p3), .val (.int p4), .val (.int p5), .val (.int (4 : Int32)), .val (.ref b1358), .unset, .unset, .unset] [(.ref b1358)]))
    refine OEnds.st (fun _ k => XS.iconst X1366.here hx rfl (hb hby at_49) k) ?_
    show OEnds p.tables e below G (T1366.setTop (mkF m 50 #[.val (.int p1), .val (.int p2), .val (.int p3), .val (.int p4), .val (.int p5), .val (.int (4 : Int32)), .val (.ref b1358), .unset, .unset, .unset] [(.int (4 : Int32)), (.ref b1358)]))
    refine OEnds.st (fun _ k => XS.iload X1366.here hx rfl (hb hby at_50) rfl k) ?_
    show OEnds p.tables e below G (T1366.setTop (mkF m 52 #[.val (.int p1), .val (.int p2), .val (.int p3), .val (.int p4), .val (.int p5), .val (.int (4 : Int32)), .val (.ref b1358), .unset, .unset, .unset] [(.int p5), (.int (4 : Int32)), (.ref b1358)]))
    refine OEnds.st (fun _ k => XS.bipush X1366.here hx rfl (hb hby at_52) k) ?_
    show OEnds p.tables e below G (T1366.setTop (mkF m 54 #[.val (.int p1), .val (.int p2), .val (.int p3), .val (.int p4), .val (.int p5), .val (.int (4 : Int32)), .val (.ref b1358), .unset, .unset, .unset] [(.int (127 : Int32)), (.int p5), (.int (4 : Int32)), (.ref b1358)]))
    refine OEnds.st (fun _ k => XS.iand X1366.here hx rfl (hb hby at_54) rfl k) ?_
    show OEnds p.tables e below G (T1366.setTop (mkF m 55 #[.val (.int p1), .val (.int p2), .val (.int p3), .val (.int p4), .val (.int p5), .val (.int (4 : Int32)), .val (.ref b1358), .unset, .unset, .unset] [(.int (p5 &&& (127 : Int32))), (.int (4 : Int32)), (.ref b1358)]))
    refine OEnds.st (fun _ k => XS.i2b X1366.here hx rfl (hb hby at_55) rfl k) ?_
    show OEnds p.tables e below G (T1366.setTop (mkF m 56 #[.val (.int p1), .val (.int p2), .val (.int p3), .val (.int p4), .val (.int p5), .val (.int (4 : Int32)), .val (.ref b1358), .unset, .unset, .unset] [(.int ((p5 &&& (127 : Int32)).toInt8.toInt32)), (.int (4 : Int32)), (.ref b1358)]))
    obtain ⟨cl1368, Ar1368, q1368, S1368, N1368n, H1368, G1368⟩ := id f1367
    have hin1368 : ¬ ((4 : Int32) < 0 ∨ cl1368.slots.size ≤ ((4 : Int32)).toNatClampNeg) := inb_of S1368 ⟨by decide, by decide⟩
    obtain ⟨T1368, h1368, X1368, e1368, W1368, st1368⟩ := stB X1366 hx hZ e1366 Ar1368 (j := (4 : Int32)) hin1368 (g := (mkF m 56 #[.val (.int p1), .val (.int p2), .val (.int p3), .val (.int p4), .val (.int p5), .val (.int (4 : Int32)), .val (.ref b1358), .unset, .unset, .unset] [(.int ((p5 &&& (127 : Int32)).toInt8.toInt32)), (.int (4 : Int32)), (.ref b1358)])) rfl rfl (hb hby at_56)
    refine OEnds.st st1368 ?_
    rw [own_b8] at W1368
    have f1369 : Arv Z h1368 b1358 k1358 .byte (5 : Int32) [(.int ((4 : Int32).toInt8.toInt32)), (.int ((p2 &&& (127 : Int32)).toInt8.toInt32)), (.int ((p3 &&& (127 : Int32)).toInt8.toInt32)), (.int ((p4 &&& (127 : Int32)).toInt8.toInt32)), (.int ((p5 &&& (127 : Int32)).toInt8.toInt32))] (.int (0 : Int32)) := Arv.set Ar1368 q1368 S1368 N1368n H1368 G1368 (fits_nar_byte _) W1368 4 rfl (Nat.le_of_ble_eq_true rfl)
    have N1368 := Fr.snoc X1368 N1366 ge_b1358
    have KK1368 : Keep h0 h1368 [] := KK1366.wr W1368 (Or.inr sz_b1358)
    have Z1368 := Nat.le_trans Z1366 (Keep.of_wr W1368).1
    show OEnds p.tables e below G (T1368.setTop (mkF m 57 #[.val (.int p1), .val (.int p2), .val (.int p3), .val (.int p4), .val (.int p5), .val (.int (4 : Int32)), .val (.ref b1358), .unset, .unset, .unset] []))
    obtain ⟨T1370, h1370, X1370, e1370, E1370, A1370, D1370, -, st1370⟩ := newO X1368 hx hZ hown (hw _ (List.mem_of_getElem? (i := 2) rfl)) (hw _ (List.mem_of_getElem? (i := 3) rfl)) (hw _ (List.mem_of_getElem? (i := 4) rfl)) e1368 (g := (mkF m 57 #[.val (.int p1), .val (.int p2), .val (.int p3), .val (.int p4), .val (.int p5), .val (.int (4 : Int32)), .val (.ref b1358), .unset, .unset, .unset] [])) rfl (hb hby at_57) (by decide) (by decide)
    obtain ⟨b1370, g1370⟩ : ∃ z, z = h1368.size := ⟨_, rfl⟩
    rw [← g1370] at A1370 D1370 st1370
    refine OEnds.st st1370 ?_
    have ne1371 : b1358 ≠ b1370 := Nat.ne_of_lt (Nat.lt_of_lt_of_le (f1369).lt (Nat.le_of_eq g1370.symm))
    have ge_b1370 : n0 ≤ b1370 := Nat.le_trans Z1368 (Nat.le_of_eq g1370.symm)
    have sz_b1370 : h0.size ≤ b1370 := Nat.le_trans KK1368.1 (Nat.le_of_eq g1370.symm)
    have f1372 : Arv Z h1370 b1358 k1358 .byte (5 : Int32) [(.int ((4 : Int32).toInt8.toInt32)), (.int ((p2 &&& (127 : Int32)).toInt8.toInt32)), (.int ((p3 &&& (127 : Int32)).toInt8.toInt32)), (.int ((p4 &&& (127 : Int32)).toInt8.toInt32)), (.int ((p5 &&& (127 : Int32)).toInt8.toInt32))] (.int (0 : Int32)) := f1369.ext E1370
    have KK1370 : Keep h0 h1370 [] := KK1368.ext E1370
    have Z1370 := Nat.le_trans Z1368 E1370.1
    have ex_b1370 := A1370
    have f1373 : Fld Z h1370 b1370 "com/example/nearfar/nearfar/ProtoReader" "bytes" "[B" .null := D1370 (Or.inr (hw _ (List.mem_of_getElem? (i := 15) rfl))) (ty := (.array .byte)) (by decide)
    have f1374 : Fld Z h1370 b1370 "com/example/nearfar/nearfar/ProtoReader" "position" "I" (.int (0 : Int32)) := D1370 (Or.inl (hw _ (List.mem_of_getElem? (i := 17) rfl))) (ty := .int) (by decide)
    have f1375 : Fld Z h1370 b1370 "com/example/nearfar/nearfar/ProtoReader" "end" "I" (.int (0 : Int32)) := D1370 (Or.inr (hw _ (List.mem_of_getElem? (i := 19) rfl))) (ty := .int) (by decide)
    have f1376 : Fld Z h1370 b1370 "com/example/nearfar/nearfar/ProtoReader" "depth" "I" (.int (0 : Int32)) := D1370 (Or.inr (hw _ (List.mem_of_getElem? (i := 21) rfl))) (ty := .int) (by decide)
    show OEnds p.tables e below G (T1370.setTop (mkF m 60 #[.val (.int p1), .val (.int p2), .val (.int p3), .val (.int p4), .val (.int p5), .val (.int (4 : Int32)), .val (.ref b1358), .unset, .unset, .unset] [(.ref b1370)]))
    refine OEnds.st (fun _ k => XS.dup X1370.here hx rfl (hb hby at_60) rfl rfl k) ?_
    show OEnds p.tables e below G (T1370.setTop (mkF m 61 #[.val (.int p1), .val (.int p2), .val (.int p3), .val (.int p4), .val (.int p5), .val (.int (4 : Int32)), .val (.ref b1358), .unset, .unset, .unset] [(.ref b1370), (.ref b1370)]))
    refine OEnds.st (fun _ k => XS.aload X1370.here hx rfl (hb hby at_61) rfl rfl k) ?_
    show OEnds p.tables e below G (T1370.setTop (mkF m 63 #[.val (.int p1), .val (.int p2), .val (.int p3), .val (.int p4), .val (.int p5), .val (.int (4 : Int32)), .val (.ref b1358), .unset, .unset, .unset] [(.ref b1358), (.ref b1370), (.ref b1370)]))
    obtain ⟨_, _, ⟨T1377, L1377, k1377c, n1377c⟩, -, X1377, ⟨Lc1377, hQ1377, l1377, y1377, z1377⟩, st1377⟩ := X1370.specialBack hx (y := (⟨"com/example/nearfar/nearfar/ProtoReader", "<init>", "([B)V"⟩ : MethodName)) rfl hown (mvT hZ (hw _ (List.mem_of_getElem? (i := 5) rfl))) (mvT hZ (hw _ (List.mem_of_getElem? (i := 6) rfl))) (mvT hZ (hw _ (List.mem_of_getElem? (i := 7) rfl))) (by decide) (backOf (W := 1) (rm1 l Z a0 hw [] b1370 b1358 k1358 (5 : Int32) ([(.int ((4 : Int32).toInt8.toInt32)), (.int ((p2 &&& (127 : Int32)).toInt8.toInt32)), (.int ((p3 &&& (127 : Int32)).toInt8.toInt32)), (.int ((p4 &&& (127 : Int32)).toInt8.toInt32)), (.int ((p5 &&& (127 : Int32)).toInt8.toInt32))]) (.int (0 : Int32)) h1370 n0 Z1370 ex_b1370 f1373 f1374 f1375 f1376 f1372 ge_b1370 ne1371) hZ (hw _ (List.mem_of_getElem? (i := 7) rfl)) (hw _ (List.mem_of_getElem? (i := 4) rfl)) (by decide) (by decide)) (g := (mkF m 63 #[.val (.int p1), .val (.int p2), .val (.int p3), .val (.int p4), .val (.int p5), .val (.int (4 : Int32)), .val (.ref b1358), .unset, .unset, .unset] [(.ref b1358), (.ref b1370), (.ref b1370)])) rfl (by rw [hml]; rfl) (Steps.refl _) (a := b1370) (argsL := [(.ref b1358)]) (rest := [(.ref b1370)]) (lenOf pd_4 rfl) rfl (by show 2 * 0 + _ ≤ _; exact Nat.le_of_eq rfl) (hb hby at_63) (fun _ _ => ⟨rfl, e1370, (by decide : 0 + 1 + 1 + 0 ≤ _), (by decide : 0 + 5 + 4 + 0 ≤ _)⟩)
    dsimp only [Pt.U, Pt.locs, Pt.cells, Pt.slots] at X1377 l1377 y1377 z1377 st1377 hQ1377
    subst l1377 y1377 z1377
    obtain ⟨rfl, N1377q, p1378, p1379, p1380, p1381, p1382, p1383⟩ := hQ1377
    have N1377 := Fr.app N1368 N1377q
    refine OEnds.st (fun _ k => st1377.trans k) ?_
    have f1384 : Arv Z T1377.heap b1358 k1358 .byte (5 : Int32) [(.int ((4 : Int32).toInt8.toInt32)), (.int ((p2 &&& (127 : Int32)).toInt8.toInt32)), (.int ((p3 &&& (127 : Int32)).toInt8.toInt32)), (.int ((p4 &&& (127 : Int32)).toInt8.toInt32)), (.int ((p5 &&& (127 : Int32)).toInt8.toInt32))] (.int (0 : Int32)) := f1372.keep p1378 (by simp only [List.mem_cons, List.not_mem_nil, or_false, not_or]; exact ne1371)
    have f1385 : Exa Z T1377.heap b1370 "com/example/nearfar/nearfar/ProtoReader" := ex_b1370.keep p1378
    have KK1377 : Keep h0 T1377.heap [] := KK1370.trans p1378 (fun x hx => by cases List.mem_singleton.mp hx; exact Or.inr sz_b1370)
    have Z1377 := Nat.le_trans Z1370 p1378.1
    show OEnds p.tables e below G (T1377.setTop (mkF m 66 #[.val (.int p1), .val (.int p2), .val (.int p3), .val (.int p4), .val (.int p5), .val (.int (4 : Int32)), .val (.ref b1358), .unset, .unset, .unset] [(.ref b1370)]))
    refine OEnds.st (fun _ k => XS.astore X1377.here hx rfl (hb hby at_66) rfl rfl (l' := #[.val (.int p1), .val (.int p2), .val (.int p3), .val (.int p4), .val (.int p5), .val (.int (4 : Int32)), .val (.ref b1358), .val (.ref b1370), .unset, .unset]) rfl k) ?_
    show OEnds p.tables e below G (T1377.setTop (mkF m 68 #[.val (.int p1), .val (.int p2), .val (.int p3), .val (.int p4), .val (.int p5), .val (.int (4 : Int32)), .val (.ref b1358), .val (.ref b1370), .unset, .unset] []))
    refine OEnds.st (fun _ k => XS.aload X1377.here hx rfl (hb hby at_68) rfl rfl k) ?_
    show OEnds p.tables e below G (T1377.setTop (mkF m 70 #[.val (.int p1), .val (.int p2), .val (.int p3), .val (.int p4), .val (.int p5), .val (.int (4 : Int32)), .val (.ref b1358), .val (.ref b1370), .unset, .unset] [(.ref b1370)]))
    obtain ⟨cq1390, kq1390, q1390a, q1390b, q1390c⟩ := isOf hZ rfl p1379
    obtain ⟨_, _, ⟨T1390, L1390, k1390c, n1390c⟩, -, X1390, ⟨Lc1390, hQ1390, l1390, y1390, z1390⟩, st1390⟩ := X1377.virtualBack hx (y := (⟨"com/example/nearfar/nearfar/ProtoReader", "atEnd", "()Z"⟩ : MethodName)) (z := (⟨"com/example/nearfar/nearfar/ProtoReader", "atEnd", "()Z"⟩ : MethodName)) hown (mvT hZ (hw _ (List.mem_of_getElem? (i := 22) rfl))) (mvT hZ (hw _ (List.mem_of_getElem? (i := 23) rfl))) (notFace_of_selects (args := #[]) (mvT hZ (hw _ (List.mem_of_getElem? (i := 25) rfl)))) (mvT hZ (hw _ (List.mem_of_getElem? (i := 25) rfl))) (mvT hZ (hw _ (List.mem_of_getElem? (i := 24) rfl))) (by decide) (backOf (W := 0) (rm4 l Z a0 hw [] b1370 (0 : Int32) (5 : Int32) T1377.heap n0 Z1377 p1381 p1382) hZ (hw _ (List.mem_of_getElem? (i := 26) rfl)) (hw _ (List.mem_of_getElem? (i := 4) rfl)) (by decide) (by decide)) q1390a q1390c (g := (mkF m 70 #[.val (.int p1), .val (.int p2), .val (.int p3), .val (.int p4), .val (.int p5), .val (.int (4 : Int32)), .val (.ref b1358), .val (.ref b1370), .unset, .unset] [(.ref b1370)])) rfl (by rw [hml]; rfl) (Steps.refl _) (argsL := []) (rest := []) (lenOf pd_5 rfl) rfl (by show 2 * 0 + _ ≤ _; exact Nat.le_of_eq rfl) (hb hby at_70) (fun _ _ => ⟨rfl, rfl, (by decide : 0 + 1 + 1 + 0 + 0 ≤ _), (by decide : 0 + 5 + 4 + 0 + 0 ≤ _)⟩)
    dsimp only [Pt.U, Pt.locs, Pt.cells, Pt.slots] at X1390 l1390 y1390 z1390 st1390 hQ1390
    subst l1390 y1390 z1390
    obtain ⟨rfl, N1390q, e1390⟩ := hQ1390
    have N1390 := Fr.app N1377 N1390q
    refine OEnds.st (fun _ k => st1390.trans k) ?_
    show OEnds p.tables e below G (T1390.setTop (mkF m 73 #[.val (.int p1), .val (.int p2), .val (.int p3), .val (.int p4), .val (.int p5), .val (.int (4 : Int32)), .val (.ref b1358), .val (.ref b1370), .unset, .unset] [(.int (own_eq (0 : Int32) (5 : Int32)))]))
    have hc73_1391 : (own_eq (0 : Int32) (5 : Int32)) = (0 : Int32) := by decide
    refine OEnds.st (fun _ k => XS.ifNo X1390.here hx rfl (hb hby at_73) rfl ((if0 _ _).trans (teq hc73_1391).2) k) ?_
    show OEnds p.tables e below G (T1390.setTop (mkF m 76 #[.val (.int p1), .val (.int p2), .val (.int p3), .val (.int p4), .val (.int p5), .val (.int (4 : Int32)), .val (.ref b1358), .val (.ref b1370), .unset, .unset] []))
    refine OEnds.st (fun _ k => XS.iconst X1390.here hx rfl (hb hby at_76) k) ?_
    show OEnds p.tables e below G (T1390.setTop (mkF m 77 #[.val (.int p1), .val (.int p2), .val (.int p3), .val (.int p4), .val (.int p5), .val (.int (4 : Int32)), .val (.ref b1358), .val (.ref b1370), .unset, .unset] [(.int (1 : Int32))]))
    refine OEnds.st (fun _ k => XS.goto X1390.here hx rfl (pc0 := 77) (pc' := 81) rfl (hb hby at_77) (by decide) (by decide) k) ?_
    show OEnds p.tables e below G (T1390.setTop (mkF m 81 #[.val (.int p1), .val (.int p2), .val (.int p3), .val (.int p4), .val (.int p5), .val (.int (4 : Int32)), .val (.ref b1358), .val (.ref b1370), .unset, .unset] [(.int (1 : Int32))]))
    refine OEnds.st (fun _ k => XS.istore X1390.here hx rfl (hb hby at_81) rfl (l' := #[.val (.int p1), .val (.int p2), .val (.int p3), .val (.int p4), .val (.int p5), .val (.int (4 : Int32)), .val (.ref b1358), .val (.ref b1370), .val (.int (1 : Int32)), .unset]) rfl k) ?_
    show OEnds p.tables e below G (T1390.setTop (mkF m 83 #[.val (.int p1), .val (.int p2), .val (.int p3), .val (.int p4), .val (.int p5), .val (.int (4 : Int32)), .val (.ref b1358), .val (.ref b1370), .val (.int (1 : Int32)), .unset] []))
    refine OEnds.st (fun _ k => XS.aload X1390.here hx rfl (hb hby at_83) rfl rfl k) ?_
    show OEnds p.tables e below G (T1390.setTop (mkF m 85 #[.val (.int p1), .val (.int p2), .val (.int p3), .val (.int p4), .val (.int p5), .val (.int (4 : Int32)), .val (.ref b1358), .val (.ref b1370), .val (.int (1 : Int32)), .unset] [(.ref b1370)]))
    obtain ⟨cq1392, kq1392, q1392a, q1392b, q1392c⟩ := isOf hZ e1390 p1379
    obtain ⟨_, _, ⟨T1392, L1392, k1392c, n1392c⟩, -, X1392, ⟨Lc1392, hQ1392, l1392, y1392, z1392⟩, st1392⟩ := X1390.virtualBack hx (y := (⟨"com/example/nearfar/nearfar/ProtoReader", "embedded", "()Lcom/example/nearfar/nearfar/ProtoReader;"⟩ : MethodName)) (z := (⟨"com/example/nearfar/nearfar/ProtoReader", "embedded", "()Lcom/example/nearfar/nearfar/ProtoReader;"⟩ : MethodName)) hown (mvT hZ (hw _ (List.mem_of_getElem? (i := 27) rfl))) (mvT hZ (hw _ (List.mem_of_getElem? (i := 28) rfl))) (notFace_of_selects (args := #[]) (mvT hZ (hw _ (List.mem_of_getElem? (i := 30) rfl)))) (mvT hZ (hw _ (List.mem_of_getElem? (i := 30) rfl))) (mvT hZ (hw _ (List.mem_of_getElem? (i := 29) rfl))) (by decide) (backOf (W := 0) (rm5 l Z a0 hw [] b1370 b1358 (0 : Int32) (5 : Int32) (0 : Int32) k1358 (5 : Int32) ([(.int ((4 : Int32).toInt8.toInt32)), (.int ((p2 &&& (127 : Int32)).toInt8.toInt32)), (.int ((p3 &&& (127 : Int32)).toInt8.toInt32)), (.int ((p4 &&& (127 : Int32)).toInt8.toInt32)), (.int ((p5 &&& (127 : Int32)).toInt8.toInt32))]) (.int (0 : Int32)) ((4 : Int32).toInt8.toInt32) (1 : Int32) (5 : Int32) T1377.heap n0 Z1377 p1379 p1380 p1381 p1382 p1383 f1384 ge_b1370 ne1371 (by decide) (by decide) (by decide) rfl (own_b8 _) rfl (by decide) (by decide) (by decide) (by decide)) hZ (hw _ (List.mem_of_getElem? (i := 31) rfl)) (hw _ (List.mem_of_getElem? (i := 4) rfl)) (by decide) (by decide)) q1392a q1392c (g := (mkF m 85 #[.val (.int p1), .val (.int p2), .val (.int p3), .val (.int p4), .val (.int p5), .val (.int (4 : Int32)), .val (.ref b1358), .val (.ref b1370), .val (.int (1 : Int32)), .unset] [(.ref b1370)])) rfl (by rw [hml]; rfl) (Steps.refl _) (argsL := []) (rest := []) (lenOf pd_6 rfl) rfl (by show 2 * 0 + _ ≤ _; exact Nat.le_of_eq rfl) (hb hby at_85) (fun _ _ => ⟨rfl, e1390, (by decide : 0 + 1 + 1 + 0 + 0 + 1 ≤ _), (by decide : 0 + 5 + 4 + 0 + 0 + 4 ≤ _)⟩)
    dsimp only [Pt.U, Pt.locs, Pt.cells, Pt.slots] at X1392 l1392 y1392 z1392 st1392 hQ1392
    subst l1392 y1392 z1392
    obtain ⟨b_1392, rfl, N1392q, p1393, p1394, p1395, p1396, p1397, p1398, p1399, p1400, p1401, p1402, p1403, p1404⟩ := hQ1392
    have N1392 := Fr.app N1390 N1392q
    refine OEnds.st (fun _ k => st1392.trans k) ?_
    have ne1405 : b1358 ≠ b_1392 := Nat.ne_of_lt (Nat.lt_of_lt_of_le (f1384).lt p1394)
    have ne1406 : b1370 ≠ b_1392 := Nat.ne_of_lt (Nat.lt_of_lt_of_le (p1379).lt p1394)
    have sz_b_1392 : h0.size ≤ b_1392 := Nat.le_trans KK1377.1 p1394
    have ge_b_1392 : n0 ≤ b_1392 := Nat.le_trans Z1377 p1394
    have f1407 : Arv Z T1392.heap b1358 k1358 .byte (5 : Int32) [(.int ((4 : Int32).toInt8.toInt32)), (.int ((p2 &&& (127 : Int32)).toInt8.toInt32)), (.int ((p3 &&& (127 : Int32)).toInt8.toInt32)), (.int ((p4 &&& (127 : Int32)).toInt8.toInt32)), (.int ((p5 &&& (127 : Int32)).toInt8.toInt32))] (.int (0 : Int32)) := f1384.keep p1393 (by simp only [List.mem_cons, List.not_mem_nil, or_false, not_or]; exact ne1371)
    have f1408 : Exa Z T1392.heap b1370 "com/example/nearfar/nearfar/ProtoReader" := p1379.keep p1393
    have KK1392 : Keep h0 T1392.heap [] := KK1377.trans p1393 (fun x hx => by cases List.mem_singleton.mp hx; exact Or.inr sz_b1370)
    have Z1392 := Nat.le_trans Z1377 p1393.1
    show OEnds p.tables e below G (T1392.setTop (mkF m 88 #[.val (.int p1), .val (.int p2), .val (.int p3), .val (.int p4), .val (.int p5), .val (.int (4 : Int32)), .val (.ref b1358), .val (.ref b1370), .val (.int (1 : Int32)), .unset] [(.ref b_1392)]))
    refine OEnds.st (fun _ k => XS.astore X1392.here hx rfl (hb hby at_88) rfl rfl (l' := #[.val (.int p1), .val (.int p2), .val (.int p3), .val (.int p4), .val (.int p5), .val (.int (4 : Int32)), .val (.ref b1358), .val (.ref b1370), .val (.int (1 : Int32)), .val (.ref b_1392)]) rfl k) ?_
    show OEnds p.tables e below G (T1392.setTop (mkF m 90 #[.val (.int p1), .val (.int p2), .val (.int p3), .val (.int p4), .val (.int p5), .val (.int (4 : Int32)), .val (.ref b1358), .val (.ref b1370), .val (.int (1 : Int32)), .val (.ref b_1392)] []))
    refine OEnds.st (fun _ k => XS.iload X1392.here hx rfl (hb hby at_90) rfl k) ?_
    show OEnds p.tables e below G (T1392.setTop (mkF m 92 #[.val (.int p1), .val (.int p2), .val (.int p3), .val (.int p4), .val (.int p5), .val (.int (4 : Int32)), .val (.ref b1358), .val (.ref b1370), .val (.int (1 : Int32)), .val (.ref b_1392)] [(.int (1 : Int32))]))
    refine OEnds.st (fun _ k => XS.aload X1392.here hx rfl (hb hby at_92) rfl rfl k) ?_
    show OEnds p.tables e below G (T1392.setTop (mkF m 94 #[.val (.int p1), .val (.int p2), .val (.int p3), .val (.int p4), .val (.int p5), .val (.int (4 : Int32)), .val (.ref b1358), .val (.ref b1370), .val (.int (1 : Int32)), .val (.ref b_1392)] [(.ref b1370), (.int (1 : Int32))]))
    obtain ⟨cq1413, kq1413, q1413a, q1413b, q1413c⟩ := isOf hZ rfl p1395
    obtain ⟨_, _, ⟨T1413, L1413, k1413c, n1413c⟩, -, X1413, ⟨Lc1413, hQ1413, l1413, y1413, z1413⟩, st1413⟩ := X1392.virtualBack hx (y := (⟨"com/example/nearfar/nearfar/ProtoReader", "atEnd", "()Z"⟩ : MethodName)) (z := (⟨"com/example/nearfar/nearfar/ProtoReader", "atEnd", "()Z"⟩ : MethodName)) hown (mvT hZ (hw _ (List.mem_of_getElem? (i := 22) rfl))) (mvT hZ (hw _ (List.mem_of_getElem? (i := 23) rfl))) (notFace_of_selects (args := #[]) (mvT hZ (hw _ (List.mem_of_getElem? (i := 25) rfl)))) (mvT hZ (hw _ (List.mem_of_getElem? (i := 25) rfl))) (mvT hZ (hw _ (List.mem_of_getElem? (i := 24) rfl))) (by decide) (backOf (W := 1) (rm4 l Z a0 hw [] b1370 (5 : Int32) (5 : Int32) T1392.heap n0 Z1392 p1397 p1398) hZ (hw _ (List.mem_of_getElem? (i := 26) rfl)) (hw _ (List.mem_of_getElem? (i := 4) rfl)) (by decide) (by decide)) q1413a q1413c (g := (mkF m 94 #[.val (.int p1), .val (.int p2), .val (.int p3), .val (.int p4), .val (.int p5), .val (.int (4 : Int32)), .val (.ref b1358), .val (.ref b1370), .val (.int (1 : Int32)), .val (.ref b_1392)] [(.ref b1370), (.int (1 : Int32))])) rfl (by rw [hml]; rfl) (Steps.refl _) (argsL := []) (rest := [(.int (1 : Int32))]) (lenOf pd_5 rfl) rfl (by show 2 * 0 + _ ≤ _; exact Nat.le_of_eq rfl) (hb hby at_94) (fun _ _ => ⟨rfl, rfl, (by decide : 0 + 1 + 1 + 0 + 0 + 1 + 0 ≤ _), (by decide : 0 + 5 + 4 + 0 + 0 + 4 + 0 ≤ _)⟩)
    dsimp only [Pt.U, Pt.locs, Pt.cells, Pt.slots] at X1413 l1413 y1413 z1413 st1413 hQ1413
    subst l1413 y1413 z1413
    obtain ⟨rfl, N1413q, e1413⟩ := hQ1413
    have N1413 := Fr.app N1392 N1413q
    refine OEnds.st (fun _ k => st1413.trans k) ?_
    show OEnds p.tables e below G (T1413.setTop (mkF m 97 #[.val (.int p1), .val (.int p2), .val (.int p3), .val (.int p4), .val (.int p5), .val (.int (4 : Int32)), .val (.ref b1358), .val (.ref b1370), .val (.int (1 : Int32)), .val (.ref b_1392)] [(.int (own_eq (5 : Int32) (5 : Int32))), (.int (1 : Int32))]))
    refine OEnds.st (fun _ k => XS.iload X1413.here hx rfl (hb hby at_97) rfl k) ?_
    show OEnds p.tables e below G (T1413.setTop (mkF m 99 #[.val (.int p1), .val (.int p2), .val (.int p3), .val (.int p4), .val (.int p5), .val (.int (4 : Int32)), .val (.ref b1358), .val (.ref b1370), .val (.int (1 : Int32)), .val (.ref b_1392)] [(.int (4 : Int32)), (.int (own_eq (5 : Int32) (5 : Int32))), (.int (1 : Int32))]))
    refine OEnds.st (fun _ k => XS.iconst X1413.here hx rfl (hb hby at_99) k) ?_
    show OEnds p.tables e below G (T1413.setTop (mkF m 100 #[.val (.int p1), .val (.int p2), .val (.int p3), .val (.int p4), .val (.int p5), .val (.int (4 : Int32)), .val (.ref b1358), .val (.ref b1370), .val (.int (1 : Int32)), .val (.ref b_1392)] [(.int (4 : Int32)), (.int (4 : Int32)), (.int (own_eq (5 : Int32) (5 : Int32))), (.int (1 : Int32))]))
    refine OEnds.st (fun _ k => XS.icmpNo X1413.here hx rfl (hb hby at_100) rfl (teq (by decide : (4 : Int32) = (4 : Int32))).2 k) ?_
    show OEnds p.tables e below G (T1413.setTop (mkF m 103 #[.val (.int p1), .val (.int p2), .val (.int p3), .val (.int p4), .val (.int p5), .val (.int (4 : Int32)), .val (.ref b1358), .val (.ref b1370), .val (.int (1 : Int32)), .val (.ref b_1392)] [(.int (own_eq (5 : Int32) (5 : Int32))), (.int (1 : Int32))]))
    refine OEnds.st (fun _ k => XS.iconst X1413.here hx rfl (hb hby at_103) k) ?_
    show OEnds p.tables e below G (T1413.setTop (mkF m 104 #[.val (.int p1), .val (.int p2), .val (.int p3), .val (.int p4), .val (.int p5), .val (.int (4 : Int32)), .val (.ref b1358), .val (.ref b1370), .val (.int (1 : Int32)), .val (.ref b_1392)] [(.int (1 : Int32)), (.int (own_eq (5 : Int32) (5 : Int32))), (.int (1 : Int32))]))
    refine OEnds.st (fun _ k => XS.goto X1413.here hx rfl (pc0 := 104) (pc' := 108) rfl (hb hby at_104) (by decide) (by decide) k) ?_
    show OEnds p.tables e below G (T1413.setTop (mkF m 108 #[.val (.int p1), .val (.int p2), .val (.int p3), .val (.int p4), .val (.int p5), .val (.int (4 : Int32)), .val (.ref b1358), .val (.ref b1370), .val (.int (1 : Int32)), .val (.ref b_1392)] [(.int (1 : Int32)), (.int (own_eq (5 : Int32) (5 : Int32))), (.int (1 : Int32))]))
    have hc108_1414 : (own_eq (5 : Int32) (5 : Int32)) = (1 : Int32) := by decide
    refine OEnds.st (fun _ k => XS.icmpNo X1413.here hx rfl (hb hby at_108) rfl (teq hc108_1414).2 k) ?_
    show OEnds p.tables e below G (T1413.setTop (mkF m 111 #[.val (.int p1), .val (.int p2), .val (.int p3), .val (.int p4), .val (.int p5), .val (.int (4 : Int32)), .val (.ref b1358), .val (.ref b1370), .val (.int (1 : Int32)), .val (.ref b_1392)] [(.int (1 : Int32))]))
    refine OEnds.st (fun _ k => XS.iconst X1413.here hx rfl (hb hby at_111) k) ?_
    show OEnds p.tables e below G (T1413.setTop (mkF m 112 #[.val (.int p1), .val (.int p2), .val (.int p3), .val (.int p4), .val (.int p5), .val (.int (4 : Int32)), .val (.ref b1358), .val (.ref b1370), .val (.int (1 : Int32)), .val (.ref b_1392)] [(.int (1 : Int32)), (.int (1 : Int32))]))
    refine OEnds.st (fun _ k => XS.goto X1413.here hx rfl (pc0 := 112) (pc' := 116) rfl (hb hby at_112) (by decide) (by decide) k) ?_
    show OEnds p.tables e below G (T1413.setTop (mkF m 116 #[.val (.int p1), .val (.int p2), .val (.int p3), .val (.int p4), .val (.int p5), .val (.int (4 : Int32)), .val (.ref b1358), .val (.ref b1370), .val (.int (1 : Int32)), .val (.ref b_1392)] [(.int (1 : Int32)), (.int (1 : Int32))]))
    refine OEnds.st (fun _ k => XS.iand X1413.here hx rfl (hb hby at_116) rfl k) ?_
    show OEnds p.tables e below G (T1413.setTop (mkF m 117 #[.val (.int p1), .val (.int p2), .val (.int p3), .val (.int p4), .val (.int p5), .val (.int (4 : Int32)), .val (.ref b1358), .val (.ref b1370), .val (.int (1 : Int32)), .val (.ref b_1392)] [(.int ((1 : Int32) &&& (1 : Int32)))]))
    refine OEnds.st (fun _ k => XS.istore X1413.here hx rfl (hb hby at_117) rfl (l' := #[.val (.int p1), .val (.int p2), .val (.int p3), .val (.int p4), .val (.int p5), .val (.int (4 : Int32)), .val (.ref b1358), .val (.ref b1370), .val (.int ((1 : Int32) &&& (1 : Int32))), .val (.ref b_1392)]) rfl k) ?_
    show OEnds p.tables e below G (T1413.setTop (mkF m 119 #[.val (.int p1), .val (.int p2), .val (.int p3), .val (.int p4), .val (.int p5), .val (.int (4 : Int32)), .val (.ref b1358), .val (.ref b1370), .val (.int ((1 : Int32) &&& (1 : Int32))), .val (.ref b_1392)] []))
    rw [show ((1 : Int32) &&& (1 : Int32)) = (1 : Int32) from by decide]
    show OEnds p.tables e below G (T1413.setTop (mkF m 119 #[.val (.int p1), .val (.int p2), .val (.int p3), .val (.int p4), .val (.int p5), .val (.int (4 : Int32)), .val (.ref b1358), .val (.ref b1370), .val (.int (1 : Int32)), .val (.ref b_1392)] []))
    refine OEnds.st (fun _ k => XS.iload X1413.here hx rfl (hb hby at_119) rfl k) ?_
    show OEnds p.tables e below G (T1413.setTop (mkF m 121 #[.val (.int p1), .val (.int p2), .val (.int p3), .val (.int p4), .val (.int p5), .val (.int (4 : Int32)), .val (.ref b1358), .val (.ref b1370), .val (.int (1 : Int32)), .val (.ref b_1392)] [(.int (1 : Int32))]))
    refine OEnds.st (fun _ k => XS.aload X1413.here hx rfl (hb hby at_121) rfl rfl k) ?_
    show OEnds p.tables e below G (T1413.setTop (mkF m 123 #[.val (.int p1), .val (.int p2), .val (.int p3), .val (.int p4), .val (.int p5), .val (.int (4 : Int32)), .val (.ref b1358), .val (.ref b1370), .val (.int (1 : Int32)), .val (.ref b_1392)] [(.ref b_1392), (.int (1 : Int32))]))
    obtain ⟨cq1415, kq1415, q1415a, q1415b, q1415c⟩ := isOf hZ e1413 p1400
    obtain ⟨_, _, ⟨T1415, L1415, k1415c, n1415c⟩, -, X1415, ⟨Lc1415, hQ1415, l1415, y1415, z1415⟩, st1415⟩ := X1413.virtualBack hx (y := (⟨"com/example/nearfar/nearfar/ProtoReader", "atEnd", "()Z"⟩ : MethodName)) (z := (⟨"com/example/nearfar/nearfar/ProtoReader", "atEnd", "()Z"⟩ : MethodName)) hown (mvT hZ (hw _ (List.mem_of_getElem? (i := 22) rfl))) (mvT hZ (hw _ (List.mem_of_getElem? (i := 23) rfl))) (notFace_of_selects (args := #[]) (mvT hZ (hw _ (List.mem_of_getElem? (i := 25) rfl)))) (mvT hZ (hw _ (List.mem_of_getElem? (i := 25) rfl))) (mvT hZ (hw _ (List.mem_of_getElem? (i := 24) rfl))) (by decide) (backOf (W := 1) (rm4 l Z a0 hw [] b_1392 (1 : Int32) (5 : Int32) T1392.heap n0 Z1392 p1402 p1403) hZ (hw _ (List.mem_of_getElem? (i := 26) rfl)) (hw _ (List.mem_of_getElem? (i := 4) rfl)) (by decide) (by decide)) q1415a q1415c (g := (mkF m 123 #[.val (.int p1), .val (.int p2), .val (.int p3), .val (.int p4), .val (.int p5), .val (.int (4 : Int32)), .val (.ref b1358), .val (.ref b1370), .val (.int (1 : Int32)), .val (.ref b_1392)] [(.ref b_1392), (.int (1 : Int32))])) rfl (by rw [hml]; rfl) (Steps.refl _) (argsL := []) (rest := [(.int (1 : Int32))]) (lenOf pd_5 rfl) rfl (by show 2 * 0 + _ ≤ _; exact Nat.le_of_eq rfl) (hb hby at_123) (fun _ _ => ⟨rfl, e1413, (by decide : 0 + 1 + 1 + 0 + 0 + 1 + 0 + 0 ≤ _), (by decide : 0 + 5 + 4 + 0 + 0 + 4 + 0 + 0 ≤ _)⟩)
    dsimp only [Pt.U, Pt.locs, Pt.cells, Pt.slots] at X1415 l1415 y1415 z1415 st1415 hQ1415
    subst l1415 y1415 z1415
    obtain ⟨rfl, N1415q, e1415⟩ := hQ1415
    have N1415 := Fr.app N1413 N1415q
    refine OEnds.st (fun _ k => st1415.trans k) ?_
    show OEnds p.tables e below G (T1415.setTop (mkF m 126 #[.val (.int p1), .val (.int p2), .val (.int p3), .val (.int p4), .val (.int p5), .val (.int (4 : Int32)), .val (.ref b1358), .val (.ref b1370), .val (.int (1 : Int32)), .val (.ref b_1392)] [(.int (own_eq (1 : Int32) (5 : Int32))), (.int (1 : Int32))]))
    refine OEnds.st (fun _ k => XS.iload X1415.here hx rfl (hb hby at_126) rfl k) ?_
    show OEnds p.tables e below G (T1415.setTop (mkF m 128 #[.val (.int p1), .val (.int p2), .val (.int p3), .val (.int p4), .val (.int p5), .val (.int (4 : Int32)), .val (.ref b1358), .val (.ref b1370), .val (.int (1 : Int32)), .val (.ref b_1392)] [(.int (4 : Int32)), (.int (own_eq (1 : Int32) (5 : Int32))), (.int (1 : Int32))]))
    refine OEnds.st (fun _ k => XS.ifYes X1415.here hx rfl (pc0 := 128) (pc' := 135) rfl (hb hby at_128) rfl ((if0 _ _).trans (feq (by decide : ¬ ((4 : Int32) = (0 : Int32)))).2) (by decide) (by decide) k) ?_
    show OEnds p.tables e below G (T1415.setTop (mkF m 135 #[.val (.int p1), .val (.int p2), .val (.int p3), .val (.int p4), .val (.int p5), .val (.int (4 : Int32)), .val (.ref b1358), .val (.ref b1370), .val (.int (1 : Int32)), .val (.ref b_1392)] [(.int (own_eq (1 : Int32) (5 : Int32))), (.int (1 : Int32))]))
    refine OEnds.st (fun _ k => XS.iconst X1415.here hx rfl (hb hby at_135) k) ?_
    show OEnds p.tables e below G (T1415.setTop (mkF m 136 #[.val (.int p1), .val (.int p2), .val (.int p3), .val (.int p4), .val (.int p5), .val (.int (4 : Int32)), .val (.ref b1358), .val (.ref b1370), .val (.int (1 : Int32)), .val (.ref b_1392)] [(.int (0 : Int32)), (.int (own_eq (1 : Int32) (5 : Int32))), (.int (1 : Int32))]))
    have hc136_1416 : (own_eq (1 : Int32) (5 : Int32)) = (0 : Int32) := by decide
    refine OEnds.st (fun _ k => XS.icmpNo X1415.here hx rfl (hb hby at_136) rfl (teq hc136_1416).2 k) ?_
    show OEnds p.tables e below G (T1415.setTop (mkF m 139 #[.val (.int p1), .val (.int p2), .val (.int p3), .val (.int p4), .val (.int p5), .val (.int (4 : Int32)), .val (.ref b1358), .val (.ref b1370), .val (.int (1 : Int32)), .val (.ref b_1392)] [(.int (1 : Int32))]))
    refine OEnds.st (fun _ k => XS.iconst X1415.here hx rfl (hb hby at_139) k) ?_
    show OEnds p.tables e below G (T1415.setTop (mkF m 140 #[.val (.int p1), .val (.int p2), .val (.int p3), .val (.int p4), .val (.int p5), .val (.int (4 : Int32)), .val (.ref b1358), .val (.ref b1370), .val (.int (1 : Int32)), .val (.ref b_1392)] [(.int (1 : Int32)), (.int (1 : Int32))]))
    refine OEnds.st (fun _ k => XS.goto X1415.here hx rfl (pc0 := 140) (pc' := 144) rfl (hb hby at_140) (by decide) (by decide) k) ?_
    show OEnds p.tables e below G (T1415.setTop (mkF m 144 #[.val (.int p1), .val (.int p2), .val (.int p3), .val (.int p4), .val (.int p5), .val (.int (4 : Int32)), .val (.ref b1358), .val (.ref b1370), .val (.int (1 : Int32)), .val (.ref b_1392)] [(.int (1 : Int32)), (.int (1 : Int32))]))
    refine OEnds.st (fun _ k => XS.iand X1415.here hx rfl (hb hby at_144) rfl k) ?_
    show OEnds p.tables e below G (T1415.setTop (mkF m 145 #[.val (.int p1), .val (.int p2), .val (.int p3), .val (.int p4), .val (.int p5), .val (.int (4 : Int32)), .val (.ref b1358), .val (.ref b1370), .val (.int (1 : Int32)), .val (.ref b_1392)] [(.int ((1 : Int32) &&& (1 : Int32)))]))
    refine OEnds.st (fun _ k => XS.istore X1415.here hx rfl (hb hby at_145) rfl (l' := #[.val (.int p1), .val (.int p2), .val (.int p3), .val (.int p4), .val (.int p5), .val (.int (4 : Int32)), .val (.ref b1358), .val (.ref b1370), .val (.int ((1 : Int32) &&& (1 : Int32))), .val (.ref b_1392)]) rfl k) ?_
    show OEnds p.tables e below G (T1415.setTop (mkF m 147 #[.val (.int p1), .val (.int p2), .val (.int p3), .val (.int p4), .val (.int p5), .val (.int (4 : Int32)), .val (.ref b1358), .val (.ref b1370), .val (.int ((1 : Int32) &&& (1 : Int32))), .val (.ref b_1392)] []))
    rw [show ((1 : Int32) &&& (1 : Int32)) = (1 : Int32) from by decide]
    show OEnds p.tables e below G (T1415.setTop (mkF m 147 #[.val (.int p1), .val (.int p2), .val (.int p3), .val (.int p4), .val (.int p5), .val (.int (4 : Int32)), .val (.ref b1358), .val (.ref b1370), .val (.int (1 : Int32)), .val (.ref b_1392)] []))
    refine OEnds.st (fun _ k => XS.iload X1415.here hx rfl (hb hby at_147) rfl k) ?_
    show OEnds p.tables e below G (T1415.setTop (mkF m 149 #[.val (.int p1), .val (.int p2), .val (.int p3), .val (.int p4), .val (.int p5), .val (.int (4 : Int32)), .val (.ref b1358), .val (.ref b1370), .val (.int (1 : Int32)), .val (.ref b_1392)] [(.int (4 : Int32))]))
    refine OEnds.st (fun _ k => XS.iconst X1415.here hx rfl (hb hby at_149) k) ?_
    show OEnds p.tables e below G (T1415.setTop (mkF m 150 #[.val (.int p1), .val (.int p2), .val (.int p3), .val (.int p4), .val (.int p5), .val (.int (4 : Int32)), .val (.ref b1358), .val (.ref b1370), .val (.int (1 : Int32)), .val (.ref b_1392)] [(.int (1 : Int32)), (.int (4 : Int32))]))
    refine OEnds.st (fun _ k => XS.icmpNo X1415.here hx rfl (hb hby at_150) rfl (flt (by decide : ¬ ((4 : Int32) < (1 : Int32)))).1 k) ?_
    show OEnds p.tables e below G (T1415.setTop (mkF m 153 #[.val (.int p1), .val (.int p2), .val (.int p3), .val (.int p4), .val (.int p5), .val (.int (4 : Int32)), .val (.ref b1358), .val (.ref b1370), .val (.int (1 : Int32)), .val (.ref b_1392)] []))
    refine OEnds.st (fun _ k => XS.aload X1415.here hx rfl (hb hby at_153) rfl rfl k) ?_
    show OEnds p.tables e below G (T1415.setTop (mkF m 155 #[.val (.int p1), .val (.int p2), .val (.int p3), .val (.int p4), .val (.int p5), .val (.int (4 : Int32)), .val (.ref b1358), .val (.ref b1370), .val (.int (1 : Int32)), .val (.ref b_1392)] [(.ref b_1392)]))
    obtain ⟨cq1417, kq1417, q1417a, q1417b, q1417c⟩ := isOf hZ e1415 p1400
    obtain ⟨_, _, ⟨T1417, L1417, k1417c, n1417c⟩, -, X1417, ⟨Lc1417, hQ1417, l1417, y1417, z1417⟩, st1417⟩ := X1415.virtualBack hx (y := (⟨"com/example/nearfar/nearfar/ProtoReader", "varint", "()J"⟩ : MethodName)) (z := (⟨"com/example/nearfar/nearfar/ProtoReader", "varint", "()J"⟩ : MethodName)) hown (mvT hZ (hw _ (List.mem_of_getElem? (i := 46) rfl))) (mvT hZ (hw _ (List.mem_of_getElem? (i := 37) rfl))) (notFace_of_selects (args := #[]) (mvT hZ (hw _ (List.mem_of_getElem? (i := 39) rfl)))) (mvT hZ (hw _ (List.mem_of_getElem? (i := 39) rfl))) (mvT hZ (hw _ (List.mem_of_getElem? (i := 38) rfl))) (by decide) (backOf (W := 0) (rm7 l Z a0 hw [] b_1392 b1358 (1 : Int32) (5 : Int32) (0 : Int32) k1358 (5 : Int32) ([(.int ((4 : Int32).toInt8.toInt32)), (.int ((p2 &&& (127 : Int32)).toInt8.toInt32)), (.int ((p3 &&& (127 : Int32)).toInt8.toInt32)), (.int ((p4 &&& (127 : Int32)).toInt8.toInt32)), (.int ((p5 &&& (127 : Int32)).toInt8.toInt32))]) (.int (0 : Int32)) ((p2 &&& (127 : Int32)).toInt8.toInt32) (2 : Int32) T1392.heap n0 Z1392 p1400 p1401 p1402 p1403 p1404 f1407 ge_b_1392 ne1405 (by decide) (by decide) (by decide) rfl (own_b8 _) rfl (own_nn p2)) hZ (hw _ (List.mem_of_getElem? (i := 40) rfl)) (hw _ (List.mem_of_getElem? (i := 4) rfl)) (by decide) (by decide)) q1417a q1417c (g := (mkF m 155 #[.val (.int p1), .val (.int p2), .val (.int p3), .val (.int p4), .val (.int p5), .val (.int (4 : Int32)), .val (.ref b1358), .val (.ref b1370), .val (.int (1 : Int32)), .val (.ref b_1392)] [(.ref b_1392)])) rfl (by rw [hml]; rfl) (Steps.refl _) (argsL := []) (rest := []) (lenOf pd_2 rfl) rfl (by show 2 * 0 + _ ≤ _; exact Nat.le_of_eq rfl) (hb hby at_155) (fun _ _ => ⟨rfl, e1415, (by decide : 0 + 1 + 1 + 0 + 0 + 1 + 0 + 0 + 0 ≤ _), (by decide : 0 + 5 + 4 + 0 + 0 + 4 + 0 + 0 + 0 ≤ _)⟩)
    dsimp only [Pt.U, Pt.locs, Pt.cells, Pt.slots] at X1417 l1417 y1417 z1417 st1417 hQ1417
    subst l1417 y1417 z1417
    obtain ⟨rfl, N1417q, p1418, p1419, p1420, p1421, p1422, p1423⟩ := hQ1417
    have N1417 := Fr.app N1415 N1417q
    refine OEnds.st (fun _ k => st1417.trans k) ?_
    have f1424 : Arv Z T1417.heap b1358 k1358 .byte (5 : Int32) [(.int ((4 : Int32).toInt8.toInt32)), (.int ((p2 &&& (127 : Int32)).toInt8.toInt32)), (.int ((p3 &&& (127 : Int32)).toInt8.toInt32)), (.int ((p4 &&& (127 : Int32)).toInt8.toInt32)), (.int ((p5 &&& (127 : Int32)).toInt8.toInt32))] (.int (0 : Int32)) := f1407.keep p1418 (by simp only [List.mem_cons, List.not_mem_nil, or_false, not_or]; exact ne1405)
    have f1425 : Exa Z T1417.heap b1370 "com/example/nearfar/nearfar/ProtoReader" := p1395.keep p1418
    have f1426 : Fld Z T1417.heap b1370 "com/example/nearfar/nearfar/ProtoReader" "bytes" "[B" (.ref b1358) := p1396.keep p1418 (by simp only [List.mem_cons, List.not_mem_nil, or_false, not_or]; exact ne1406)
    have f1427 : Fld Z T1417.heap b1370 "com/example/nearfar/nearfar/ProtoReader" "position" "I" (.int (5 : Int32)) := p1397.keep p1418 (by simp only [List.mem_cons, List.not_mem_nil, or_false, not_or]; exact ne1406)
    have f1428 : Fld Z T1417.heap b1370 "com/example/nearfar/nearfar/ProtoReader" "end" "I" (.int (5 : Int32)) := p1398.keep p1418 (by simp only [List.mem_cons, List.not_mem_nil, or_false, not_or]; exact ne1406)
    have f1429 : Fld Z T1417.heap b1370 "com/example/nearfar/nearfar/ProtoReader" "depth" "I" (.int (0 : Int32)) := p1399.keep p1418 (by simp only [List.mem_cons, List.not_mem_nil, or_false, not_or]; exact ne1406)
    have f1430 : Exa Z T1417.heap b_1392 "com/example/nearfar/nearfar/ProtoReader" := p1400.keep p1418
    have KK1417 : Keep h0 T1417.heap [] := KK1392.trans p1418 (fun x hx => by cases List.mem_singleton.mp hx; exact Or.inr sz_b_1392)
    have Z1417 := Nat.le_trans Z1392 p1418.1
    show OEnds p.tables e below G (T1417.setTop (mkF m 158 #[.val (.int p1), .val (.int p2), .val (.int p3), .val (.int p4), .val (.int p5), .val (.int (4 : Int32)), .val (.ref b1358), .val (.ref b1370), .val (.int (1 : Int32)), .val (.ref b_1392)] [(.long (own_vi ((p2 &&& (127 : Int32)).toInt8.toInt32)))]))
    refine OEnds.st (B := T1417.setTop (mkF m 159 #[.val (.int p1), .val (.int p2), .val (.int p3), .val (.int p4), .val (.int p5), .val (.int (4 : Int32)), .val (.ref b1358), .val (.ref b1370), .val (.int (1 : Int32)), .val (.ref b_1392)] [])) (fun _ k => ?_) ?_
    · jvm_step X1417.here [X1417.here.top, hx, (hb hby at_158), Value.category]
      exact k
    show OEnds p.tables e below G (T1417.setTop (mkF m 159 #[.val (.int p1), .val (.int p2), .val (.int p3), .val (.int p4), .val (.int p5), .val (.int (4 : Int32)), .val (.ref b1358), .val (.ref b1370), .val (.int (1 : Int32)), .val (.ref b_1392)] []))
    refine OEnds.st (fun _ k => XS.iload X1417.here hx rfl (hb hby at_159) rfl k) ?_
    show OEnds p.tables e below G (T1417.setTop (mkF m 161 #[.val (.int p1), .val (.int p2), .val (.int p3), .val (.int p4), .val (.int p5), .val (.int (4 : Int32)), .val (.ref b1358), .val (.ref b1370), .val (.int (1 : Int32)), .val (.ref b_1392)] [(.int (1 : Int32))]))
    refine OEnds.st (fun _ k => XS.aload X1417.here hx rfl (hb hby at_161) rfl rfl k) ?_
    show OEnds p.tables e below G (T1417.setTop (mkF m 163 #[.val (.int p1), .val (.int p2), .val (.int p3), .val (.int p4), .val (.int p5), .val (.int (4 : Int32)), .val (.ref b1358), .val (.ref b1370), .val (.int (1 : Int32)), .val (.ref b_1392)] [(.ref b_1392), (.int (1 : Int32))]))
    obtain ⟨cq1435, kq1435, q1435a, q1435b, q1435c⟩ := isOf hZ rfl p1419
    obtain ⟨_, _, ⟨T1435, L1435, k1435c, n1435c⟩, -, X1435, ⟨Lc1435, hQ1435, l1435, y1435, z1435⟩, st1435⟩ := X1417.virtualBack hx (y := (⟨"com/example/nearfar/nearfar/ProtoReader", "atEnd", "()Z"⟩ : MethodName)) (z := (⟨"com/example/nearfar/nearfar/ProtoReader", "atEnd", "()Z"⟩ : MethodName)) hown (mvT hZ (hw _ (List.mem_of_getElem? (i := 22) rfl))) (mvT hZ (hw _ (List.mem_of_getElem? (i := 23) rfl))) (notFace_of_selects (args := #[]) (mvT hZ (hw _ (List.mem_of_getElem? (i := 25) rfl)))) (mvT hZ (hw _ (List.mem_of_getElem? (i := 25) rfl))) (mvT hZ (hw _ (List.mem_of_getElem? (i := 24) rfl))) (by decide) (backOf (W := 1) (rm4 l Z a0 hw [] b_1392 (2 : Int32) (5 : Int32) T1417.heap n0 Z1417 p1421 p1422) hZ (hw _ (List.mem_of_getElem? (i := 26) rfl)) (hw _ (List.mem_of_getElem? (i := 4) rfl)) (by decide) (by decide)) q1435a q1435c (g := (mkF m 163 #[.val (.int p1), .val (.int p2), .val (.int p3), .val (.int p4), .val (.int p5), .val (.int (4 : Int32)), .val (.ref b1358), .val (.ref b1370), .val (.int (1 : Int32)), .val (.ref b_1392)] [(.ref b_1392), (.int (1 : Int32))])) rfl (by rw [hml]; rfl) (Steps.refl _) (argsL := []) (rest := [(.int (1 : Int32))]) (lenOf pd_5 rfl) rfl (by show 2 * 0 + _ ≤ _; exact Nat.le_of_eq rfl) (hb hby at_163) (fun _ _ => ⟨rfl, rfl, (by decide : 0 + 1 + 1 + 0 + 0 + 1 + 0 + 0 + 0 + 0 ≤ _), (by decide : 0 + 5 + 4 + 0 + 0 + 4 + 0 + 0 + 0 + 0 ≤ _)⟩)
    dsimp only [Pt.U, Pt.locs, Pt.cells, Pt.slots] at X1435 l1435 y1435 z1435 st1435 hQ1435
    subst l1435 y1435 z1435
    obtain ⟨rfl, N1435q, e1435⟩ := hQ1435
    have N1435 := Fr.app N1417 N1435q
    refine OEnds.st (fun _ k => st1435.trans k) ?_
    show OEnds p.tables e below G (T1435.setTop (mkF m 166 #[.val (.int p1), .val (.int p2), .val (.int p3), .val (.int p4), .val (.int p5), .val (.int (4 : Int32)), .val (.ref b1358), .val (.ref b1370), .val (.int (1 : Int32)), .val (.ref b_1392)] [(.int (own_eq (2 : Int32) (5 : Int32))), (.int (1 : Int32))]))
    refine OEnds.st (fun _ k => XS.iload X1435.here hx rfl (hb hby at_166) rfl k) ?_
    show OEnds p.tables e below G (T1435.setTop (mkF m 168 #[.val (.int p1), .val (.int p2), .val (.int p3), .val (.int p4), .val (.int p5), .val (.int (4 : Int32)), .val (.ref b1358), .val (.ref b1370), .val (.int (1 : Int32)), .val (.ref b_1392)] [(.int (4 : Int32)), (.int (own_eq (2 : Int32) (5 : Int32))), (.int (1 : Int32))]))
    refine OEnds.st (fun _ k => XS.iconst X1435.here hx rfl (hb hby at_168) k) ?_
    show OEnds p.tables e below G (T1435.setTop (mkF m 169 #[.val (.int p1), .val (.int p2), .val (.int p3), .val (.int p4), .val (.int p5), .val (.int (4 : Int32)), .val (.ref b1358), .val (.ref b1370), .val (.int (1 : Int32)), .val (.ref b_1392)] [(.int (1 : Int32)), (.int (4 : Int32)), (.int (own_eq (2 : Int32) (5 : Int32))), (.int (1 : Int32))]))
    refine OEnds.st (fun _ k => XS.icmpYes X1435.here hx rfl (pc0 := 169) (pc' := 176) rfl (hb hby at_169) rfl (feq (by decide : ¬ ((4 : Int32) = (1 : Int32)))).2 (by decide) (by decide) k) ?_
    show OEnds p.tables e below G (T1435.setTop (mkF m 176 #[.val (.int p1), .val (.int p2), .val (.int p3), .val (.int p4), .val (.int p5), .val (.int (4 : Int32)), .val (.ref b1358), .val (.ref b1370), .val (.int (1 : Int32)), .val (.ref b_1392)] [(.int (own_eq (2 : Int32) (5 : Int32))), (.int (1 : Int32))]))
    refine OEnds.st (fun _ k => XS.iconst X1435.here hx rfl (hb hby at_176) k) ?_
    show OEnds p.tables e below G (T1435.setTop (mkF m 177 #[.val (.int p1), .val (.int p2), .val (.int p3), .val (.int p4), .val (.int p5), .val (.int (4 : Int32)), .val (.ref b1358), .val (.ref b1370), .val (.int (1 : Int32)), .val (.ref b_1392)] [(.int (0 : Int32)), (.int (own_eq (2 : Int32) (5 : Int32))), (.int (1 : Int32))]))
    have hc177_1436 : (own_eq (2 : Int32) (5 : Int32)) = (0 : Int32) := by decide
    refine OEnds.st (fun _ k => XS.icmpNo X1435.here hx rfl (hb hby at_177) rfl (teq hc177_1436).2 k) ?_
    show OEnds p.tables e below G (T1435.setTop (mkF m 180 #[.val (.int p1), .val (.int p2), .val (.int p3), .val (.int p4), .val (.int p5), .val (.int (4 : Int32)), .val (.ref b1358), .val (.ref b1370), .val (.int (1 : Int32)), .val (.ref b_1392)] [(.int (1 : Int32))]))
    refine OEnds.st (fun _ k => XS.iconst X1435.here hx rfl (hb hby at_180) k) ?_
    show OEnds p.tables e below G (T1435.setTop (mkF m 181 #[.val (.int p1), .val (.int p2), .val (.int p3), .val (.int p4), .val (.int p5), .val (.int (4 : Int32)), .val (.ref b1358), .val (.ref b1370), .val (.int (1 : Int32)), .val (.ref b_1392)] [(.int (1 : Int32)), (.int (1 : Int32))]))
    refine OEnds.st (fun _ k => XS.goto X1435.here hx rfl (pc0 := 181) (pc' := 185) rfl (hb hby at_181) (by decide) (by decide) k) ?_
    show OEnds p.tables e below G (T1435.setTop (mkF m 185 #[.val (.int p1), .val (.int p2), .val (.int p3), .val (.int p4), .val (.int p5), .val (.int (4 : Int32)), .val (.ref b1358), .val (.ref b1370), .val (.int (1 : Int32)), .val (.ref b_1392)] [(.int (1 : Int32)), (.int (1 : Int32))]))
    refine OEnds.st (fun _ k => XS.iand X1435.here hx rfl (hb hby at_185) rfl k) ?_
    show OEnds p.tables e below G (T1435.setTop (mkF m 186 #[.val (.int p1), .val (.int p2), .val (.int p3), .val (.int p4), .val (.int p5), .val (.int (4 : Int32)), .val (.ref b1358), .val (.ref b1370), .val (.int (1 : Int32)), .val (.ref b_1392)] [(.int ((1 : Int32) &&& (1 : Int32)))]))
    refine OEnds.st (fun _ k => XS.istore X1435.here hx rfl (hb hby at_186) rfl (l' := #[.val (.int p1), .val (.int p2), .val (.int p3), .val (.int p4), .val (.int p5), .val (.int (4 : Int32)), .val (.ref b1358), .val (.ref b1370), .val (.int ((1 : Int32) &&& (1 : Int32))), .val (.ref b_1392)]) rfl k) ?_
    show OEnds p.tables e below G (T1435.setTop (mkF m 188 #[.val (.int p1), .val (.int p2), .val (.int p3), .val (.int p4), .val (.int p5), .val (.int (4 : Int32)), .val (.ref b1358), .val (.ref b1370), .val (.int ((1 : Int32) &&& (1 : Int32))), .val (.ref b_1392)] []))
    rw [show ((1 : Int32) &&& (1 : Int32)) = (1 : Int32) from by decide]
    show OEnds p.tables e below G (T1435.setTop (mkF m 188 #[.val (.int p1), .val (.int p2), .val (.int p3), .val (.int p4), .val (.int p5), .val (.int (4 : Int32)), .val (.ref b1358), .val (.ref b1370), .val (.int (1 : Int32)), .val (.ref b_1392)] []))
    refine OEnds.st (fun _ k => XS.iload X1435.here hx rfl (hb hby at_188) rfl k) ?_
    show OEnds p.tables e below G (T1435.setTop (mkF m 190 #[.val (.int p1), .val (.int p2), .val (.int p3), .val (.int p4), .val (.int p5), .val (.int (4 : Int32)), .val (.ref b1358), .val (.ref b1370), .val (.int (1 : Int32)), .val (.ref b_1392)] [(.int (4 : Int32))]))
    refine OEnds.st (fun _ k => XS.iconst X1435.here hx rfl (hb hby at_190) k) ?_
    show OEnds p.tables e below G (T1435.setTop (mkF m 191 #[.val (.int p1), .val (.int p2), .val (.int p3), .val (.int p4), .val (.int p5), .val (.int (4 : Int32)), .val (.ref b1358), .val (.ref b1370), .val (.int (1 : Int32)), .val (.ref b_1392)] [(.int (2 : Int32)), (.int (4 : Int32))]))
    refine OEnds.st (fun _ k => XS.icmpNo X1435.here hx rfl (hb hby at_191) rfl (flt (by decide : ¬ ((4 : Int32) < (2 : Int32)))).1 k) ?_
    show OEnds p.tables e below G (T1435.setTop (mkF m 194 #[.val (.int p1), .val (.int p2), .val (.int p3), .val (.int p4), .val (.int p5), .val (.int (4 : Int32)), .val (.ref b1358), .val (.ref b1370), .val (.int (1 : Int32)), .val (.ref b_1392)] []))
    refine OEnds.st (fun _ k => XS.aload X1435.here hx rfl (hb hby at_194) rfl rfl k) ?_
    show OEnds p.tables e below G (T1435.setTop (mkF m 196 #[.val (.int p1), .val (.int p2), .val (.int p3), .val (.int p4), .val (.int p5), .val (.int (4 : Int32)), .val (.ref b1358), .val (.ref b1370), .val (.int (1 : Int32)), .val (.ref b_1392)] [(.ref b_1392)]))
    obtain ⟨cq1437, kq1437, q1437a, q1437b, q1437c⟩ := isOf hZ e1435 p1419
    obtain ⟨_, _, ⟨T1437, L1437, k1437c, n1437c⟩, -, X1437, ⟨Lc1437, hQ1437, l1437, y1437, z1437⟩, st1437⟩ := X1435.virtualBack hx (y := (⟨"com/example/nearfar/nearfar/ProtoReader", "varint", "()J"⟩ : MethodName)) (z := (⟨"com/example/nearfar/nearfar/ProtoReader", "varint", "()J"⟩ : MethodName)) hown (mvT hZ (hw _ (List.mem_of_getElem? (i := 46) rfl))) (mvT hZ (hw _ (List.mem_of_getElem? (i := 37) rfl))) (notFace_of_selects (args := #[]) (mvT hZ (hw _ (List.mem_of_getElem? (i := 39) rfl)))) (mvT hZ (hw _ (List.mem_of_getElem? (i := 39) rfl))) (mvT hZ (hw _ (List.mem_of_getElem? (i := 38) rfl))) (by decide) (backOf (W := 0) (rm7 l Z a0 hw [] b_1392 b1358 (2 : Int32) (5 : Int32) (0 : Int32) k1358 (5 : Int32) ([(.int ((4 : Int32).toInt8.toInt32)), (.int ((p2 &&& (127 : Int32)).toInt8.toInt32)), (.int ((p3 &&& (127 : Int32)).toInt8.toInt32)), (.int ((p4 &&& (127 : Int32)).toInt8.toInt32)), (.int ((p5 &&& (127 : Int32)).toInt8.toInt32))]) (.int (0 : Int32)) ((p3 &&& (127 : Int32)).toInt8.toInt32) (3 : Int32) T1417.heap n0 Z1417 p1419 p1420 p1421 p1422 p1423 f1424 ge_b_1392 ne1405 (by decide) (by decide) (by decide) rfl (own_b8 _) rfl (own_nn p3)) hZ (hw _ (List.mem_of_getElem? (i := 40) rfl)) (hw _ (List.mem_of_getElem? (i := 4) rfl)) (by decide) (by decide)) q1437a q1437c (g := (mkF m 196 #[.val (.int p1), .val (.int p2), .val (.int p3), .val (.int p4), .val (.int p5), .val (.int (4 : Int32)), .val (.ref b1358), .val (.ref b1370), .val (.int (1 : Int32)), .val (.ref b_1392)] [(.ref b_1392)])) rfl (by rw [hml]; rfl) (Steps.refl _) (argsL := []) (rest := []) (lenOf pd_2 rfl) rfl (by show 2 * 0 + _ ≤ _; exact Nat.le_of_eq rfl) (hb hby at_196) (fun _ _ => ⟨rfl, e1435, (by decide : 0 + 1 + 1 + 0 + 0 + 1 + 0 + 0 + 0 + 0 + 0 ≤ _), (by decide : 0 + 5 + 4 + 0 + 0 + 4 + 0 + 0 + 0 + 0 + 0 ≤ _)⟩)
    dsimp only [Pt.U, Pt.locs, Pt.cells, Pt.slots] at X1437 l1437 y1437 z1437 st1437 hQ1437
    subst l1437 y1437 z1437
    obtain ⟨rfl, N1437q, p1438, p1439, p1440, p1441, p1442, p1443⟩ := hQ1437
    have N1437 := Fr.app N1435 N1437q
    refine OEnds.st (fun _ k => st1437.trans k) ?_
    have f1444 : Arv Z T1437.heap b1358 k1358 .byte (5 : Int32) [(.int ((4 : Int32).toInt8.toInt32)), (.int ((p2 &&& (127 : Int32)).toInt8.toInt32)), (.int ((p3 &&& (127 : Int32)).toInt8.toInt32)), (.int ((p4 &&& (127 : Int32)).toInt8.toInt32)), (.int ((p5 &&& (127 : Int32)).toInt8.toInt32))] (.int (0 : Int32)) := f1424.keep p1438 (by simp only [List.mem_cons, List.not_mem_nil, or_false, not_or]; exact ne1405)
    have f1445 : Exa Z T1437.heap b1370 "com/example/nearfar/nearfar/ProtoReader" := f1425.keep p1438
    have f1446 : Fld Z T1437.heap b1370 "com/example/nearfar/nearfar/ProtoReader" "bytes" "[B" (.ref b1358) := f1426.keep p1438 (by simp only [List.mem_cons, List.not_mem_nil, or_false, not_or]; exact ne1406)
    have f1447 : Fld Z T1437.heap b1370 "com/example/nearfar/nearfar/ProtoReader" "position" "I" (.int (5 : Int32)) := f1427.keep p1438 (by simp only [List.mem_cons, List.not_mem_nil, or_false, not_or]; exact ne1406)
    have f1448 : Fld Z T1437.heap b1370 "com/example/nearfar/nearfar/ProtoReader" "end" "I" (.int (5 : Int32)) := f1428.keep p1438 (by simp only [List.mem_cons, List.not_mem_nil, or_false, not_or]; exact ne1406)
    have f1449 : Fld Z T1437.heap b1370 "com/example/nearfar/nearfar/ProtoReader" "depth" "I" (.int (0 : Int32)) := f1429.keep p1438 (by simp only [List.mem_cons, List.not_mem_nil, or_false, not_or]; exact ne1406)
    have f1450 : Exa Z T1437.heap b_1392 "com/example/nearfar/nearfar/ProtoReader" := p1419.keep p1438
    have KK1437 : Keep h0 T1437.heap [] := KK1417.trans p1438 (fun x hx => by cases List.mem_singleton.mp hx; exact Or.inr sz_b_1392)
    have Z1437 := Nat.le_trans Z1417 p1438.1
    show OEnds p.tables e below G (T1437.setTop (mkF m 199 #[.val (.int p1), .val (.int p2), .val (.int p3), .val (.int p4), .val (.int p5), .val (.int (4 : Int32)), .val (.ref b1358), .val (.ref b1370), .val (.int (1 : Int32)), .val (.ref b_1392)] [(.long (own_vi ((p3 &&& (127 : Int32)).toInt8.toInt32)))]))
    refine OEnds.st (B := T1437.setTop (mkF m 200 #[.val (.int p1), .val (.int p2), .val (.int p3), .val (.int p4), .val (.int p5), .val (.int (4 : Int32)), .val (.ref b1358), .val (.ref b1370), .val (.int (1 : Int32)), .val (.ref b_1392)] [])) (fun _ k => ?_) ?_
    · jvm_step X1437.here [X1437.here.top, hx, (hb hby at_199), Value.category]
      exact k
    show OEnds p.tables e below G (T1437.setTop (mkF m 200 #[.val (.int p1), .val (.int p2), .val (.int p3), .val (.int p4), .val (.int p5), .val (.int (4 : Int32)), .val (.ref b1358), .val (.ref b1370), .val (.int (1 : Int32)), .val (.ref b_1392)] []))
    refine OEnds.st (fun _ k => XS.iload X1437.here hx rfl (hb hby at_200) rfl k) ?_
    show OEnds p.tables e below G (T1437.setTop (mkF m 202 #[.val (.int p1), .val (.int p2), .val (.int p3), .val (.int p4), .val (.int p5), .val (.int (4 : Int32)), .val (.ref b1358), .val (.ref b1370), .val (.int (1 : Int32)), .val (.ref b_1392)] [(.int (1 : Int32))]))
    refine OEnds.st (fun _ k => XS.aload X1437.here hx rfl (hb hby at_202) rfl rfl k) ?_
    show OEnds p.tables e below G (T1437.setTop (mkF m 204 #[.val (.int p1), .val (.int p2), .val (.int p3), .val (.int p4), .val (.int p5), .val (.int (4 : Int32)), .val (.ref b1358), .val (.ref b1370), .val (.int (1 : Int32)), .val (.ref b_1392)] [(.ref b_1392), (.int (1 : Int32))]))
    obtain ⟨cq1455, kq1455, q1455a, q1455b, q1455c⟩ := isOf hZ rfl p1439
    obtain ⟨_, _, ⟨T1455, L1455, k1455c, n1455c⟩, -, X1455, ⟨Lc1455, hQ1455, l1455, y1455, z1455⟩, st1455⟩ := X1437.virtualBack hx (y := (⟨"com/example/nearfar/nearfar/ProtoReader", "atEnd", "()Z"⟩ : MethodName)) (z := (⟨"com/example/nearfar/nearfar/ProtoReader", "atEnd", "()Z"⟩ : MethodName)) hown (mvT hZ (hw _ (List.mem_of_getElem? (i := 22) rfl))) (mvT hZ (hw _ (List.mem_of_getElem? (i := 23) rfl))) (notFace_of_selects (args := #[]) (mvT hZ (hw _ (List.mem_of_getElem? (i := 25) rfl)))) (mvT hZ (hw _ (List.mem_of_getElem? (i := 25) rfl))) (mvT hZ (hw _ (List.mem_of_getElem? (i := 24) rfl))) (by decide) (backOf (W := 1) (rm4 l Z a0 hw [] b_1392 (3 : Int32) (5 : Int32) T1437.heap n0 Z1437 p1441 p1442) hZ (hw _ (List.mem_of_getElem? (i := 26) rfl)) (hw _ (List.mem_of_getElem? (i := 4) rfl)) (by decide) (by decide)) q1455a q1455c (g := (mkF m 204 #[.val (.int p1), .val (.int p2), .val (.int p3), .val (.int p4), .val (.int p5), .val (.int (4 : Int32)), .val (.ref b1358), .val (.ref b1370), .val (.int (1 : Int32)), .val (.ref b_1392)] [(.ref b_1392), (.int (1 : Int32))])) rfl (by rw [hml]; rfl) (Steps.refl _) (argsL := []) (rest := [(.int (1 : Int32))]) (lenOf pd_5 rfl) rfl (by show 2 * 0 + _ ≤ _; exact Nat.le_of_eq rfl) (hb hby at_204) (fun _ _ => ⟨rfl, rfl, (by decide : 0 + 1 + 1 + 0 + 0 + 1 + 0 + 0 + 0 + 0 + 0 + 0 ≤ _), (by decide : 0 + 5 + 4 + 0 + 0 + 4 + 0 + 0 + 0 + 0 + 0 + 0 ≤ _)⟩)
    dsimp only [Pt.U, Pt.locs, Pt.cells, Pt.slots] at X1455 l1455 y1455 z1455 st1455 hQ1455
    subst l1455 y1455 z1455
    obtain ⟨rfl, N1455q, e1455⟩ := hQ1455
    have N1455 := Fr.app N1437 N1455q
    refine OEnds.st (fun _ k => st1455.trans k) ?_
    show OEnds p.tables e below G (T1455.setTop (mkF m 207 #[.val (.int p1), .val (.int p2), .val (.int p3), .val (.int p4), .val (.int p5), .val (.int (4 : Int32)), .val (.ref b1358), .val (.ref b1370), .val (.int (1 : Int32)), .val (.ref b_1392)] [(.int (own_eq (3 : Int32) (5 : Int32))), (.int (1 : Int32))]))
    refine OEnds.st (fun _ k => XS.iload X1455.here hx rfl (hb hby at_207) rfl k) ?_
    show OEnds p.tables e below G (T1455.setTop (mkF m 209 #[.val (.int p1), .val (.int p2), .val (.int p3), .val (.int p4), .val (.int p5), .val (.int (4 : Int32)), .val (.ref b1358), .val (.ref b1370), .val (.int (1 : Int32)), .val (.ref b_1392)] [(.int (4 : Int32)), (.int (own_eq (3 : Int32) (5 : Int32))), (.int (1 : Int32))]))
    refine OEnds.st (fun _ k => XS.iconst X1455.here hx rfl (hb hby at_209) k) ?_
    show OEnds p.tables e below G (T1455.setTop (mkF m 210 #[.val (.int p1), .val (.int p2), .val (.int p3), .val (.int p4), .val (.int p5), .val (.int (4 : Int32)), .val (.ref b1358), .val (.ref b1370), .val (.int (1 : Int32)), .val (.ref b_1392)] [(.int (2 : Int32)), (.int (4 : Int32)), (.int (own_eq (3 : Int32) (5 : Int32))), (.int (1 : Int32))]))
    refine OEnds.st (fun _ k => XS.icmpYes X1455.here hx rfl (pc0 := 210) (pc' := 217) rfl (hb hby at_210) rfl (feq (by decide : ¬ ((4 : Int32) = (2 : Int32)))).2 (by decide) (by decide) k) ?_
    show OEnds p.tables e below G (T1455.setTop (mkF m 217 #[.val (.int p1), .val (.int p2), .val (.int p3), .val (.int p4), .val (.int p5), .val (.int (4 : Int32)), .val (.ref b1358), .val (.ref b1370), .val (.int (1 : Int32)), .val (.ref b_1392)] [(.int (own_eq (3 : Int32) (5 : Int32))), (.int (1 : Int32))]))
    refine OEnds.st (fun _ k => XS.iconst X1455.here hx rfl (hb hby at_217) k) ?_
    show OEnds p.tables e below G (T1455.setTop (mkF m 218 #[.val (.int p1), .val (.int p2), .val (.int p3), .val (.int p4), .val (.int p5), .val (.int (4 : Int32)), .val (.ref b1358), .val (.ref b1370), .val (.int (1 : Int32)), .val (.ref b_1392)] [(.int (0 : Int32)), (.int (own_eq (3 : Int32) (5 : Int32))), (.int (1 : Int32))]))
    have hc218_1456 : (own_eq (3 : Int32) (5 : Int32)) = (0 : Int32) := by decide
    refine OEnds.st (fun _ k => XS.icmpNo X1455.here hx rfl (hb hby at_218) rfl (teq hc218_1456).2 k) ?_
    show OEnds p.tables e below G (T1455.setTop (mkF m 221 #[.val (.int p1), .val (.int p2), .val (.int p3), .val (.int p4), .val (.int p5), .val (.int (4 : Int32)), .val (.ref b1358), .val (.ref b1370), .val (.int (1 : Int32)), .val (.ref b_1392)] [(.int (1 : Int32))]))
    refine OEnds.st (fun _ k => XS.iconst X1455.here hx rfl (hb hby at_221) k) ?_
    show OEnds p.tables e below G (T1455.setTop (mkF m 222 #[.val (.int p1), .val (.int p2), .val (.int p3), .val (.int p4), .val (.int p5), .val (.int (4 : Int32)), .val (.ref b1358), .val (.ref b1370), .val (.int (1 : Int32)), .val (.ref b_1392)] [(.int (1 : Int32)), (.int (1 : Int32))]))
    refine OEnds.st (fun _ k => XS.goto X1455.here hx rfl (pc0 := 222) (pc' := 226) rfl (hb hby at_222) (by decide) (by decide) k) ?_
    show OEnds p.tables e below G (T1455.setTop (mkF m 226 #[.val (.int p1), .val (.int p2), .val (.int p3), .val (.int p4), .val (.int p5), .val (.int (4 : Int32)), .val (.ref b1358), .val (.ref b1370), .val (.int (1 : Int32)), .val (.ref b_1392)] [(.int (1 : Int32)), (.int (1 : Int32))]))
    refine OEnds.st (fun _ k => XS.iand X1455.here hx rfl (hb hby at_226) rfl k) ?_
    show OEnds p.tables e below G (T1455.setTop (mkF m 227 #[.val (.int p1), .val (.int p2), .val (.int p3), .val (.int p4), .val (.int p5), .val (.int (4 : Int32)), .val (.ref b1358), .val (.ref b1370), .val (.int (1 : Int32)), .val (.ref b_1392)] [(.int ((1 : Int32) &&& (1 : Int32)))]))
    refine OEnds.st (fun _ k => XS.istore X1455.here hx rfl (hb hby at_227) rfl (l' := #[.val (.int p1), .val (.int p2), .val (.int p3), .val (.int p4), .val (.int p5), .val (.int (4 : Int32)), .val (.ref b1358), .val (.ref b1370), .val (.int ((1 : Int32) &&& (1 : Int32))), .val (.ref b_1392)]) rfl k) ?_
    show OEnds p.tables e below G (T1455.setTop (mkF m 229 #[.val (.int p1), .val (.int p2), .val (.int p3), .val (.int p4), .val (.int p5), .val (.int (4 : Int32)), .val (.ref b1358), .val (.ref b1370), .val (.int ((1 : Int32) &&& (1 : Int32))), .val (.ref b_1392)] []))
    rw [show ((1 : Int32) &&& (1 : Int32)) = (1 : Int32) from by decide]
    show OEnds p.tables e below G (T1455.setTop (mkF m 229 #[.val (.int p1), .val (.int p2), .val (.int p3), .val (.int p4), .val (.int p5), .val (.int (4 : Int32)), .val (.ref b1358), .val (.ref b1370), .val (.int (1 : Int32)), .val (.ref b_1392)] []))
    refine OEnds.st (fun _ k => XS.iload X1455.here hx rfl (hb hby at_229) rfl k) ?_
    show OEnds p.tables e below G (T1455.setTop (mkF m 231 #[.val (.int p1), .val (.int p2), .val (.int p3), .val (.int p4), .val (.int p5), .val (.int (4 : Int32)), .val (.ref b1358), .val (.ref b1370), .val (.int (1 : Int32)), .val (.ref b_1392)] [(.int (4 : Int32))]))
    refine OEnds.st (fun _ k => XS.iconst X1455.here hx rfl (hb hby at_231) k) ?_
    show OEnds p.tables e below G (T1455.setTop (mkF m 232 #[.val (.int p1), .val (.int p2), .val (.int p3), .val (.int p4), .val (.int p5), .val (.int (4 : Int32)), .val (.ref b1358), .val (.ref b1370), .val (.int (1 : Int32)), .val (.ref b_1392)] [(.int (3 : Int32)), (.int (4 : Int32))]))
    refine OEnds.st (fun _ k => XS.icmpNo X1455.here hx rfl (hb hby at_232) rfl (flt (by decide : ¬ ((4 : Int32) < (3 : Int32)))).1 k) ?_
    show OEnds p.tables e below G (T1455.setTop (mkF m 235 #[.val (.int p1), .val (.int p2), .val (.int p3), .val (.int p4), .val (.int p5), .val (.int (4 : Int32)), .val (.ref b1358), .val (.ref b1370), .val (.int (1 : Int32)), .val (.ref b_1392)] []))
    refine OEnds.st (fun _ k => XS.aload X1455.here hx rfl (hb hby at_235) rfl rfl k) ?_
    show OEnds p.tables e below G (T1455.setTop (mkF m 237 #[.val (.int p1), .val (.int p2), .val (.int p3), .val (.int p4), .val (.int p5), .val (.int (4 : Int32)), .val (.ref b1358), .val (.ref b1370), .val (.int (1 : Int32)), .val (.ref b_1392)] [(.ref b_1392)]))
    obtain ⟨cq1457, kq1457, q1457a, q1457b, q1457c⟩ := isOf hZ e1455 p1439
    obtain ⟨_, _, ⟨T1457, L1457, k1457c, n1457c⟩, -, X1457, ⟨Lc1457, hQ1457, l1457, y1457, z1457⟩, st1457⟩ := X1455.virtualBack hx (y := (⟨"com/example/nearfar/nearfar/ProtoReader", "varint", "()J"⟩ : MethodName)) (z := (⟨"com/example/nearfar/nearfar/ProtoReader", "varint", "()J"⟩ : MethodName)) hown (mvT hZ (hw _ (List.mem_of_getElem? (i := 46) rfl))) (mvT hZ (hw _ (List.mem_of_getElem? (i := 37) rfl))) (notFace_of_selects (args := #[]) (mvT hZ (hw _ (List.mem_of_getElem? (i := 39) rfl)))) (mvT hZ (hw _ (List.mem_of_getElem? (i := 39) rfl))) (mvT hZ (hw _ (List.mem_of_getElem? (i := 38) rfl))) (by decide) (backOf (W := 0) (rm7 l Z a0 hw [] b_1392 b1358 (3 : Int32) (5 : Int32) (0 : Int32) k1358 (5 : Int32) ([(.int ((4 : Int32).toInt8.toInt32)), (.int ((p2 &&& (127 : Int32)).toInt8.toInt32)), (.int ((p3 &&& (127 : Int32)).toInt8.toInt32)), (.int ((p4 &&& (127 : Int32)).toInt8.toInt32)), (.int ((p5 &&& (127 : Int32)).toInt8.toInt32))]) (.int (0 : Int32)) ((p4 &&& (127 : Int32)).toInt8.toInt32) (4 : Int32) T1437.heap n0 Z1437 p1439 p1440 p1441 p1442 p1443 f1444 ge_b_1392 ne1405 (by decide) (by decide) (by decide) rfl (own_b8 _) rfl (own_nn p4)) hZ (hw _ (List.mem_of_getElem? (i := 40) rfl)) (hw _ (List.mem_of_getElem? (i := 4) rfl)) (by decide) (by decide)) q1457a q1457c (g := (mkF m 237 #[.val (.int p1), .val (.int p2), .val (.int p3), .val (.int p4), .val (.int p5), .val (.int (4 : Int32)), .val (.ref b1358), .val (.ref b1370), .val (.int (1 : Int32)), .val (.ref b_1392)] [(.ref b_1392)])) rfl (by rw [hml]; rfl) (Steps.refl _) (argsL := []) (rest := []) (lenOf pd_2 rfl) rfl (by show 2 * 0 + _ ≤ _; exact Nat.le_of_eq rfl) (hb hby at_237) (fun _ _ => ⟨rfl, e1455, (by decide : 0 + 1 + 1 + 0 + 0 + 1 + 0 + 0 + 0 + 0 + 0 + 0 + 0 ≤ _), (by decide : 0 + 5 + 4 + 0 + 0 + 4 + 0 + 0 + 0 + 0 + 0 + 0 + 0 ≤ _)⟩)
    dsimp only [Pt.U, Pt.locs, Pt.cells, Pt.slots] at X1457 l1457 y1457 z1457 st1457 hQ1457
    subst l1457 y1457 z1457
    obtain ⟨rfl, N1457q, p1458, p1459, p1460, p1461, p1462, p1463⟩ := hQ1457
    have N1457 := Fr.app N1455 N1457q
    refine OEnds.st (fun _ k => st1457.trans k) ?_
    have f1464 : Arv Z T1457.heap b1358 k1358 .byte (5 : Int32) [(.int ((4 : Int32).toInt8.toInt32)), (.int ((p2 &&& (127 : Int32)).toInt8.toInt32)), (.int ((p3 &&& (127 : Int32)).toInt8.toInt32)), (.int ((p4 &&& (127 : Int32)).toInt8.toInt32)), (.int ((p5 &&& (127 : Int32)).toInt8.toInt32))] (.int (0 : Int32)) := f1444.keep p1458 (by simp only [List.mem_cons, List.not_mem_nil, or_false, not_or]; exact ne1405)
    have f1465 : Exa Z T1457.heap b1370 "com/example/nearfar/nearfar/ProtoReader" := f1445.keep p1458
    have f1466 : Fld Z T1457.heap b1370 "com/example/nearfar/nearfar/ProtoReader" "bytes" "[B" (.ref b1358) := f1446.keep p1458 (by simp only [List.mem_cons, List.not_mem_nil, or_false, not_or]; exact ne1406)
    have f1467 : Fld Z T1457.heap b1370 "com/example/nearfar/nearfar/ProtoReader" "position" "I" (.int (5 : Int32)) := f1447.keep p1458 (by simp only [List.mem_cons, List.not_mem_nil, or_false, not_or]; exact ne1406)
    have f1468 : Fld Z T1457.heap b1370 "com/example/nearfar/nearfar/ProtoReader" "end" "I" (.int (5 : Int32)) := f1448.keep p1458 (by simp only [List.mem_cons, List.not_mem_nil, or_false, not_or]; exact ne1406)
    have f1469 : Fld Z T1457.heap b1370 "com/example/nearfar/nearfar/ProtoReader" "depth" "I" (.int (0 : Int32)) := f1449.keep p1458 (by simp only [List.mem_cons, List.not_mem_nil, or_false, not_or]; exact ne1406)
    have f1470 : Exa Z T1457.heap b_1392 "com/example/nearfar/nearfar/ProtoReader" := p1439.keep p1458
    have KK1457 : Keep h0 T1457.heap [] := KK1437.trans p1458 (fun x hx => by cases List.mem_singleton.mp hx; exact Or.inr sz_b_1392)
    have Z1457 := Nat.le_trans Z1437 p1458.1
    show OEnds p.tables e below G (T1457.setTop (mkF m 240 #[.val (.int p1), .val (.int p2), .val (.int p3), .val (.int p4), .val (.int p5), .val (.int (4 : Int32)), .val (.ref b1358), .val (.ref b1370), .val (.int (1 : Int32)), .val (.ref b_1392)] [(.long (own_vi ((p4 &&& (127 : Int32)).toInt8.toInt32)))]))
    refine OEnds.st (B := T1457.setTop (mkF m 241 #[.val (.int p1), .val (.int p2), .val (.int p3), .val (.int p4), .val (.int p5), .val (.int (4 : Int32)), .val (.ref b1358), .val (.ref b1370), .val (.int (1 : Int32)), .val (.ref b_1392)] [])) (fun _ k => ?_) ?_
    · jvm_step X1457.here [X1457.here.top, hx, (hb hby at_240), Value.category]
      exact k
    show OEnds p.tables e below G (T1457.setTop (mkF m 241 #[.val (.int p1), .val (.int p2), .val (.int p3), .val (.int p4), .val (.int p5), .val (.int (4 : Int32)), .val (.ref b1358), .val (.ref b1370), .val (.int (1 : Int32)), .val (.ref b_1392)] []))
    refine OEnds.st (fun _ k => XS.iload X1457.here hx rfl (hb hby at_241) rfl k) ?_
    show OEnds p.tables e below G (T1457.setTop (mkF m 243 #[.val (.int p1), .val (.int p2), .val (.int p3), .val (.int p4), .val (.int p5), .val (.int (4 : Int32)), .val (.ref b1358), .val (.ref b1370), .val (.int (1 : Int32)), .val (.ref b_1392)] [(.int (1 : Int32))]))
    refine OEnds.st (fun _ k => XS.aload X1457.here hx rfl (hb hby at_243) rfl rfl k) ?_
    show OEnds p.tables e below G (T1457.setTop (mkF m 245 #[.val (.int p1), .val (.int p2), .val (.int p3), .val (.int p4), .val (.int p5), .val (.int (4 : Int32)), .val (.ref b1358), .val (.ref b1370), .val (.int (1 : Int32)), .val (.ref b_1392)] [(.ref b_1392), (.int (1 : Int32))]))
    obtain ⟨cq1475, kq1475, q1475a, q1475b, q1475c⟩ := isOf hZ rfl p1459
    obtain ⟨_, _, ⟨T1475, L1475, k1475c, n1475c⟩, -, X1475, ⟨Lc1475, hQ1475, l1475, y1475, z1475⟩, st1475⟩ := X1457.virtualBack hx (y := (⟨"com/example/nearfar/nearfar/ProtoReader", "atEnd", "()Z"⟩ : MethodName)) (z := (⟨"com/example/nearfar/nearfar/ProtoReader", "atEnd", "()Z"⟩ : MethodName)) hown (mvT hZ (hw _ (List.mem_of_getElem? (i := 22) rfl))) (mvT hZ (hw _ (List.mem_of_getElem? (i := 23) rfl))) (notFace_of_selects (args := #[]) (mvT hZ (hw _ (List.mem_of_getElem? (i := 25) rfl)))) (mvT hZ (hw _ (List.mem_of_getElem? (i := 25) rfl))) (mvT hZ (hw _ (List.mem_of_getElem? (i := 24) rfl))) (by decide) (backOf (W := 1) (rm4 l Z a0 hw [] b_1392 (4 : Int32) (5 : Int32) T1457.heap n0 Z1457 p1461 p1462) hZ (hw _ (List.mem_of_getElem? (i := 26) rfl)) (hw _ (List.mem_of_getElem? (i := 4) rfl)) (by decide) (by decide)) q1475a q1475c (g := (mkF m 245 #[.val (.int p1), .val (.int p2), .val (.int p3), .val (.int p4), .val (.int p5), .val (.int (4 : Int32)), .val (.ref b1358), .val (.ref b1370), .val (.int (1 : Int32)), .val (.ref b_1392)] [(.ref b_1392), (.int (1 : Int32))])) rfl (by rw [hml]; rfl) (Steps.refl _) (argsL := []) (rest := [(.int (1 : Int32))]) (lenOf pd_5 rfl) rfl (by show 2 * 0 + _ ≤ _; exact Nat.le_of_eq rfl) (hb hby at_245) (fun _ _ => ⟨rfl, rfl, (by decide : 0 + 1 + 1 + 0 + 0 + 1 + 0 + 0 + 0 + 0 + 0 + 0 + 0 + 0 ≤ _), (by decide : 0 + 5 + 4 + 0 + 0 + 4 + 0 + 0 + 0 + 0 + 0 + 0 + 0 + 0 ≤ _)⟩)
    dsimp only [Pt.U, Pt.locs, Pt.cells, Pt.slots] at X1475 l1475 y1475 z1475 st1475 hQ1475
    subst l1475 y1475 z1475
    obtain ⟨rfl, N1475q, e1475⟩ := hQ1475
    have N1475 := Fr.app N1457 N1475q
    refine OEnds.st (fun _ k => st1475.trans k) ?_
    show OEnds p.tables e below G (T1475.setTop (mkF m 248 #[.val (.int p1), .val (.int p2), .val (.int p3), .val (.int p4), .val (.int p5), .val (.int (4 : Int32)), .val (.ref b1358), .val (.ref b1370), .val (.int (1 : Int32)), .val (.ref b_1392)] [(.int (own_eq (4 : Int32) (5 : Int32))), (.int (1 : Int32))]))
    refine OEnds.st (fun _ k => XS.iload X1475.here hx rfl (hb hby at_248) rfl k) ?_
    show OEnds p.tables e below G (T1475.setTop (mkF m 250 #[.val (.int p1), .val (.int p2), .val (.int p3), .val (.int p4), .val (.int p5), .val (.int (4 : Int32)), .val (.ref b1358), .val (.ref b1370), .val (.int (1 : Int32)), .val (.ref b_1392)] [(.int (4 : Int32)), (.int (own_eq (4 : Int32) (5 : Int32))), (.int (1 : Int32))]))
    refine OEnds.st (fun _ k => XS.iconst X1475.here hx rfl (hb hby at_250) k) ?_
    show OEnds p.tables e below G (T1475.setTop (mkF m 251 #[.val (.int p1), .val (.int p2), .val (.int p3), .val (.int p4), .val (.int p5), .val (.int (4 : Int32)), .val (.ref b1358), .val (.ref b1370), .val (.int (1 : Int32)), .val (.ref b_1392)] [(.int (3 : Int32)), (.int (4 : Int32)), (.int (own_eq (4 : Int32) (5 : Int32))), (.int (1 : Int32))]))
    refine OEnds.st (fun _ k => XS.icmpYes X1475.here hx rfl (pc0 := 251) (pc' := 258) rfl (hb hby at_251) rfl (feq (by decide : ¬ ((4 : Int32) = (3 : Int32)))).2 (by decide) (by decide) k) ?_
    show OEnds p.tables e below G (T1475.setTop (mkF m 258 #[.val (.int p1), .val (.int p2), .val (.int p3), .val (.int p4), .val (.int p5), .val (.int (4 : Int32)), .val (.ref b1358), .val (.ref b1370), .val (.int (1 : Int32)), .val (.ref b_1392)] [(.int (own_eq (4 : Int32) (5 : Int32))), (.int (1 : Int32))]))
    refine OEnds.st (fun _ k => XS.iconst X1475.here hx rfl (hb hby at_258) k) ?_
    show OEnds p.tables e below G (T1475.setTop (mkF m 259 #[.val (.int p1), .val (.int p2), .val (.int p3), .val (.int p4), .val (.int p5), .val (.int (4 : Int32)), .val (.ref b1358), .val (.ref b1370), .val (.int (1 : Int32)), .val (.ref b_1392)] [(.int (0 : Int32)), (.int (own_eq (4 : Int32) (5 : Int32))), (.int (1 : Int32))]))
    have hc259_1476 : (own_eq (4 : Int32) (5 : Int32)) = (0 : Int32) := by decide
    refine OEnds.st (fun _ k => XS.icmpNo X1475.here hx rfl (hb hby at_259) rfl (teq hc259_1476).2 k) ?_
    show OEnds p.tables e below G (T1475.setTop (mkF m 262 #[.val (.int p1), .val (.int p2), .val (.int p3), .val (.int p4), .val (.int p5), .val (.int (4 : Int32)), .val (.ref b1358), .val (.ref b1370), .val (.int (1 : Int32)), .val (.ref b_1392)] [(.int (1 : Int32))]))
    refine OEnds.st (fun _ k => XS.iconst X1475.here hx rfl (hb hby at_262) k) ?_
    show OEnds p.tables e below G (T1475.setTop (mkF m 263 #[.val (.int p1), .val (.int p2), .val (.int p3), .val (.int p4), .val (.int p5), .val (.int (4 : Int32)), .val (.ref b1358), .val (.ref b1370), .val (.int (1 : Int32)), .val (.ref b_1392)] [(.int (1 : Int32)), (.int (1 : Int32))]))
    refine OEnds.st (fun _ k => XS.goto X1475.here hx rfl (pc0 := 263) (pc' := 267) rfl (hb hby at_263) (by decide) (by decide) k) ?_
    show OEnds p.tables e below G (T1475.setTop (mkF m 267 #[.val (.int p1), .val (.int p2), .val (.int p3), .val (.int p4), .val (.int p5), .val (.int (4 : Int32)), .val (.ref b1358), .val (.ref b1370), .val (.int (1 : Int32)), .val (.ref b_1392)] [(.int (1 : Int32)), (.int (1 : Int32))]))
    refine OEnds.st (fun _ k => XS.iand X1475.here hx rfl (hb hby at_267) rfl k) ?_
    show OEnds p.tables e below G (T1475.setTop (mkF m 268 #[.val (.int p1), .val (.int p2), .val (.int p3), .val (.int p4), .val (.int p5), .val (.int (4 : Int32)), .val (.ref b1358), .val (.ref b1370), .val (.int (1 : Int32)), .val (.ref b_1392)] [(.int ((1 : Int32) &&& (1 : Int32)))]))
    refine OEnds.st (fun _ k => XS.istore X1475.here hx rfl (hb hby at_268) rfl (l' := #[.val (.int p1), .val (.int p2), .val (.int p3), .val (.int p4), .val (.int p5), .val (.int (4 : Int32)), .val (.ref b1358), .val (.ref b1370), .val (.int ((1 : Int32) &&& (1 : Int32))), .val (.ref b_1392)]) rfl k) ?_
    show OEnds p.tables e below G (T1475.setTop (mkF m 270 #[.val (.int p1), .val (.int p2), .val (.int p3), .val (.int p4), .val (.int p5), .val (.int (4 : Int32)), .val (.ref b1358), .val (.ref b1370), .val (.int ((1 : Int32) &&& (1 : Int32))), .val (.ref b_1392)] []))
    rw [show ((1 : Int32) &&& (1 : Int32)) = (1 : Int32) from by decide]
    show OEnds p.tables e below G (T1475.setTop (mkF m 270 #[.val (.int p1), .val (.int p2), .val (.int p3), .val (.int p4), .val (.int p5), .val (.int (4 : Int32)), .val (.ref b1358), .val (.ref b1370), .val (.int (1 : Int32)), .val (.ref b_1392)] []))
    refine OEnds.st (fun _ k => XS.iload X1475.here hx rfl (hb hby at_270) rfl k) ?_
    show OEnds p.tables e below G (T1475.setTop (mkF m 272 #[.val (.int p1), .val (.int p2), .val (.int p3), .val (.int p4), .val (.int p5), .val (.int (4 : Int32)), .val (.ref b1358), .val (.ref b1370), .val (.int (1 : Int32)), .val (.ref b_1392)] [(.int (1 : Int32))]))
    rw [← hG]
    refine OEnds.retZ X1475 hx hlk Bd.returns rfl (hb hby at_272) (by decide) (by decide) ?_
    rw [e1475]
    exact ⟨rfl, N1475⟩
set_option maxRecDepth 65536 in
set_option maxHeartbeats 40000000 in
theorem comes_1 {Post : Tables → Env → Array Value → State → Outcome → State → Prop} (hpost : ∀ tb e args s v u, (limb_1_1.after args s (.returned v) u = true ∧ limb_1_2.after args s (.returned v) u = true ∧ True) → FrameEnd s (.returned v) u (Jvm.fieldLocs frame_1_writes args s ++ Jvm.arrayLocs frame_1_arrays args s ++ Jvm.staticLocs frame_1_statics s) 16 128 → Post tb e args s (.returned v) u) :
    ArmFor flags0 classFile x code maxLocals ret World_1 tables_1 room_1 Calls_1 rest_1 Pre_1 Post := by
  intro l hfl _ _ p e ha hc hk s m args below hf hA hF happ hP
  obtain ⟨hcalls, hrest, hpre⟩ := hP
  obtain ⟨-, -, -, hnamed, -, -, -, hat⟩ := (Spec.applies_iff hf).mp happ
  obtain ⟨hg, hn⟩ := and_e (Cond.before_iff.mp (show (Jvm.Cond.and given_1 narrow_1).before args s = true from hpre))
  obtain ⟨gc, gr0⟩ := and_e hg
  obtain ⟨ga0, gr1⟩ := and_e gr0
  obtain ⟨ga1, gr2⟩ := and_e gr1
  obtain ⟨ga2, gr3⟩ := and_e gr2
  obtain ⟨ga3, gr4⟩ := and_e gr3
  obtain ⟨w0, w1, w2, w3, w4, rfl⟩ : ∃ w0 w1 w2 w3 w4 : Value, args = #[w0, w1, w2, w3, w4] := by
    have hs : args.size = 5 := by simpa [Cond.value, given_1] using gc
    obtain ⟨L⟩ := args
    match L, hs with
    | [w0, w1, w2, w3, w4], _ => exact ⟨w0, w1, w2, w3, w4, rfl⟩
  have hw := fun d (hd : d ∈ tables_1) => atoms_spec (ws := Jvm.Cond.code x code maxLocals ret :: tables_1) hat d (List.mem_cons_of_mem _ hd)
  have hfit : Fit s := fun {y c} hc i hi => by
    obtain ⟨ha, rfl⟩ := Array.getElem?_eq_some_iff.mp hc
    have q := List.all_eq_true.mp ((Array.all_eq_true_iff_forall_mem.mp hF) _ (Array.getElem_mem ha)) i (List.mem_range.mpr hi)
    simpa [Array.getElem?_eq_getElem hi] using q
  obtain ⟨i0, ei0⟩ := is_v ga0
  obtain rfl : w0 = (.int i0) := Option.some.inj ei0
  obtain ⟨i1, ei1⟩ := is_v ga1
  obtain rfl : w1 = (.int i1) := Option.some.inj ei1
  obtain ⟨i2, ei2⟩ := is_v ga2
  obtain rfl : w2 = (.int i2) := Option.some.inj ei2
  obtain ⟨i3, ei3⟩ := is_v ga3
  obtain rfl : w3 = (.int i3) := Option.some.inj ei3
  obtain ⟨i4, ei4⟩ := is_v gr4
  obtain rfl : w4 = (.int i4) := Option.some.inj ei4
  obtain ⟨n, o, h1, h2, h3, _, L, rfl, ⟨rfl, N⟩, hq⟩ := rm0 l s _ hw tables_1 i0 i1 i2 i3 i4  s.heap s.heap.size (Nat.le_refl _)  p e ha hc hk s m _ below hf ((Spec.applies_iff_loose hf).mp happ).1 ⟨rfl, State.Warmed39.refl s, rfl⟩ trivial
  refine ⟨n, _, h1, h2, h3, hpost _ _ _ _ _ _ ⟨Cond.after_iff.mpr rfl, Cond.after_iff.mpr (eq_i res_at (Term.int_eval (1)) rfl), trivial⟩ ⟨hq.1, hq.2.1, (hq.2.2.sift fun y hy => Or.inr (N y hy)).mono (by decide) (by decide)⟩⟩
theorem main_1_1 : Claimed_1_1 := comes_1 fun _ _ _ _ _ _ h hF => ⟨h.1, hF⟩
theorem main_1_2 : Claimed_1_2 := comes_1 fun _ _ _ _ _ _ h hF => ⟨h.2.1, hF⟩
end Jvm.Pilot.@@N@@
namespace Jvm.Pilot.@@N@@
open Jvm Jvm.ClassFile Sem Op Lib Jvm.Free Jvm.Stand Jvm.Pilot.@@N@@.Jvm.D
/-! MADE BY PROGRAM (witnessworld.py) out of the Statement's table words and the real class files: 9 classes; the members and pool entries that the words name. The judged class is class 1, her method 1. -/
namespace start1
open Jvm.ClassFile
def u (s : String) : CpInfo := .utf8 (stringToUtf16 s)
/-- a pool by its gaps: so many unusable entries, then the entry; so many at the end -/
def gap : Nat → List CpInfo → List CpInfo
  | 0, r => r
  | n + 1, r => .unusable :: gap n r
def poolList (es : List (Nat × CpInfo)) (last : Nat) : List CpInfo := es.foldr (fun e r => gap e.1 (e.2 :: r)) (gap last [])
def pool (es : List (Nat × CpInfo)) (last : Nat) : Array CpInfo := ⟨poolList es last⟩
def fileOf (pool : Array CpInfo) (this : Nat) (attrs : Array Attribute := #[]) (ms : Array MethodInfo := #[]) (fl : Nat := 33) (sup : Nat := 0) (ifs : Array Nat := #[]) (fds : Array FieldInfo := #[]) : ClassFile where
  minorVersion := 0
  majorVersion := 65
  constantPool := pool
  accessFlags := fl
  thisClass := this
  superClass := sup
  interfaces := ifs
  fields := fds
  methods := ms
  attributes := attrs
def plain (name : String) (sup : Option ClassId) : Class where
  name := name
  kind := .ordinary
  loader := none
  accessFlags := 33
  super := sup
  interfaces := #[]
  cf := none
  fields := #[]
  methods := #[]
  instanceTypes := #[]
  staticTypes := #[]
  resolved := #[]
  callSites := []
  init := .initialized
  statics := none
  mirror := none

def pool0 : Array CpInfo := pool [(5, u "<init>"), (0, u "()V"), (1, .class_ 10), (1, u "java/lang/Object")] 113

def k0c0 : Code := { maxStack := 0, maxLocals := 1, code := object_method_1_code, exceptionTable := #[], attributes := #[] }
def k0m0 : Method := { name := "<init>", desc := "()V", sig := { parameters := [], returnType := none }, accessFlags := 1, code := some k0c0 }
/-- java/lang/Object -/
def k0 : Class := { plain "java/lang/Object" none with
  accessFlags := 33
  interfaces := #[]
  cf := some (fileOf pool0 8 #[] #[{ accessFlags := 1, nameIndex := 5, descriptorIndex := 6, attributes := #[] }] 33 0 #[] #[])
  fields := #[]
  methods := #[k0m0]
  instanceTypes := #[]
  staticTypes := #[]
  resolved := Array.replicate 124 none
  statics := none }

def pool1 : Array CpInfo := pool [(2, .class_ 4), (1, u "java/lang/Object"), (0, u "<init>"), (0, u "()V"), (0, .integer 2147483647), (0, .class_ 9), (0, u "com/example/nearfar/nearfar/ProtoReader"), (0, .methodref 8 11), (0, .nameAndType 5 12), (0, u "([B)V"), (0, .methodref 8 14), (0, .nameAndType 15 16), (0, u "atEnd"), (0, u "()Z"), (0, .methodref 8 18), (0, .nameAndType 19 20), (0, u "embedded"), (0, u "()Lcom/example/nearfar/nearfar/ProtoReader;"), (0, .methodref 8 22), (0, .nameAndType 23 24), (0, u "varint"), (0, u "()J"), (0, .class_ 26), (0, u "com/example/nearfar/nearfar/ProtoReaderAtEndPinLaw"), (2, u "law"), (0, u "(IIIII)Z")] 5

def k1m0 : Method := { name := "<init>", desc := "()V", sig := { parameters := [], returnType := none }, accessFlags := 1, code := none }
def k1c1 : Code := { maxStack := 4, maxLocals := 10, code := code, exceptionTable := #[], attributes := #[] }
def k1m1 : Method := { name := "law", desc := "(IIIII)Z", sig := { parameters := [.int, .int, .int, .int, .int], returnType := some .boolean }, accessFlags := 9, code := some k1c1 }
/-- com/example/nearfar/nearfar/ProtoReaderAtEndPinLaw -/
def k1 : Class := { plain "com/example/nearfar/nearfar/ProtoReaderAtEndPinLaw" (some 0) with
  accessFlags := 49
  interfaces := #[]
  cf := some (fileOf pool1 25 #[] #[{ accessFlags := 1, nameIndex := 5, descriptorIndex := 6, attributes := #[] }, { accessFlags := 9, nameIndex := 29, descriptorIndex := 30, attributes := #[] }] 49 2 #[] #[])
  fields := #[]
  methods := #[k1m0, k1m1]
  instanceTypes := #[]
  staticTypes := #[]
  resolved := Array.replicate 36 none
  statics := none }

def pool2 : Array CpInfo := pool [(1, .methodref 2 3), (0, .class_ 4), (0, .nameAndType 5 6), (0, u "com/example/nearfar/nearfar/ProtoReader"), (0, u "<init>"), (0, u "([BIII)V"), (0, .methodref 8 9), (0, .class_ 10), (0, .nameAndType 5 11), (0, u "java/lang/Object"), (0, u "()V"), (0, .fieldref 2 13), (0, .nameAndType 14 15), (0, u "bytes"), (0, u "[B"), (0, .fieldref 2 17), (0, .nameAndType 18 19), (0, u "position"), (0, u "I"), (0, .fieldref 2 21), (0, .nameAndType 22 19), (0, u "end"), (0, .fieldref 2 24), (0, .nameAndType 25 19), (0, u "depth"), (0, .methodref 2 27), (0, .nameAndType 28 29), (0, u "varint"), (0, u "()J"), (6, .methodref 2 37), (0, .nameAndType 38 39), (0, u "next"), (0, u "(I)B"), (6, .methodref 2 47), (0, .nameAndType 48 49), (0, u "payloadStart"), (0, u "()I"), (81, u "MAX_VARINT_BYTES"), (2, u "REPLACEMENT_CHARACTER"), (0, u "C"), (0, u "([B)V"), (2, u "atEnd"), (0, u "()Z"), (5, u "embedded"), (0, u "()Lcom/example/nearfar/nearfar/ProtoReader;")] 27

def k2c0 : Code := { maxStack := 5, maxLocals := 2, code := prog_32_method_1_code, exceptionTable := #[], attributes := #[] }
def k2m0 : Method := { name := "<init>", desc := "([B)V", sig := { parameters := [(.array .byte)], returnType := none }, accessFlags := 0, code := some k2c0 }
def k2c1 : Code := { maxStack := 2, maxLocals := 5, code := prog_32_method_2_code, exceptionTable := #[], attributes := #[] }
def k2m1 : Method := { name := "<init>", desc := "([BIII)V", sig := { parameters := [(.array .byte), .int, .int, .int], returnType := none }, accessFlags := 2, code := some k2c1 }
def k2c2 : Code := { maxStack := 2, maxLocals := 1, code := prog_32_method_3_code, exceptionTable := #[], attributes := #[] }
def k2m2 : Method := { name := "atEnd", desc := "()Z", sig := { parameters := [], returnType := some .boolean }, accessFlags := 0, code := some k2c2 }
def k2c3 : Code := { maxStack := 6, maxLocals := 6, code := prog_32_method_5_code, exceptionTable := #[], attributes := #[] }
def k2m3 : Method := { name := "varint", desc := "()J", sig := { parameters := [], returnType := some .long }, accessFlags := 0, code := some k2c3 }
def k2c4 : Code := { maxStack := 6, maxLocals := 2, code := prog_32_method_11_code, exceptionTable := #[], attributes := #[] }
def k2m4 : Method := { name := "embedded", desc := "()Lcom/example/nearfar/nearfar/ProtoReader;", sig := { parameters := [], returnType := some (.object "com/example/nearfar/nearfar/ProtoReader") }, accessFlags := 0, code := some k2c4 }
def k2c5 : Code := { maxStack := 4, maxLocals := 5, code := prog_32_method_16_code, exceptionTable := #[], attributes := #[] }
def k2m5 : Method := { name := "payloadStart", desc := "()I", sig := { parameters := [], returnType := some .int }, accessFlags := 2, code := some k2c5 }
def k2c6 : Code := { maxStack := 5, maxLocals := 2, code := prog_32_method_17_code, exceptionTable := #[], attributes := #[] }
def k2m6 : Method := { name := "next", desc := "(I)B", sig := { parameters := [.int], returnType := some .byte }, accessFlags := 2, code := some k2c6 }
/-- com/example/nearfar/nearfar/ProtoReader -/
def k2 : Class := { plain "com/example/nearfar/nearfar/ProtoReader" (some 0) with
  accessFlags := 32
  interfaces := #[]
  cf := some (fileOf pool2 2 #[] #[{ accessFlags := 0, nameIndex := 5, descriptorIndex := 136, attributes := #[] }, { accessFlags := 2, nameIndex := 5, descriptorIndex := 6, attributes := #[] }, { accessFlags := 0, nameIndex := 139, descriptorIndex := 140, attributes := #[] }, { accessFlags := 0, nameIndex := 28, descriptorIndex := 29, attributes := #[] }, { accessFlags := 0, nameIndex := 146, descriptorIndex := 147, attributes := #[] }, { accessFlags := 2, nameIndex := 48, descriptorIndex := 49, attributes := #[] }, { accessFlags := 2, nameIndex := 38, descriptorIndex := 39, attributes := #[] }] 32 8 #[] #[{ accessFlags := 26, nameIndex := 131, descriptorIndex := 19, attributes := #[] }, { accessFlags := 26, nameIndex := 134, descriptorIndex := 135, attributes := #[] }, { accessFlags := 18, nameIndex := 14, descriptorIndex := 15, attributes := #[] }, { accessFlags := 18, nameIndex := 22, descriptorIndex := 19, attributes := #[] }, { accessFlags := 18, nameIndex := 25, descriptorIndex := 19, attributes := #[] }, { accessFlags := 2, nameIndex := 18, descriptorIndex := 19, attributes := #[] }])
  fields := #[{ name := "MAX_VARINT_BYTES", type := .int, accessFlags := 26, slot := 0, constantValue := 0 }, { name := "REPLACEMENT_CHARACTER", type := .char, accessFlags := 26, slot := 1, constantValue := 0 }, { name := "bytes", type := (.array .byte), accessFlags := 18, slot := 0, constantValue := 0 }, { name := "end", type := .int, accessFlags := 18, slot := 1, constantValue := 0 }, { name := "depth", type := .int, accessFlags := 18, slot := 2, constantValue := 0 }, { name := "position", type := .int, accessFlags := 2, slot := 3, constantValue := 0 }]
  methods := #[k2m0, k2m1, k2m2, k2m3, k2m4, k2m5, k2m6]
  instanceTypes := #[(.array .byte), .int, .int, .int]
  staticTypes := #[.int, .char]
  resolved := Array.replicate 175 none
  statics := none }

def pool3 : Array CpInfo := pool [(1, u "java/lang/Cloneable"), (0, .class_ 1), (0, u "java/lang/Object"), (0, .class_ 3)] 3

/-- java/lang/Cloneable -/
def k3 : Class := { plain "java/lang/Cloneable" (some 0) with
  accessFlags := 1537
  interfaces := #[]
  cf := some (fileOf pool3 2 #[] #[] 1537 4 #[] #[])
  fields := #[]
  methods := #[]
  instanceTypes := #[]
  staticTypes := #[]
  resolved := Array.replicate 8 none
  statics := none }

def pool4 : Array CpInfo := pool [(1, u "java/io/Serializable"), (0, .class_ 1), (0, u "java/lang/Object"), (0, .class_ 3)] 3

/-- java/io/Serializable -/
def k4 : Class := { plain "java/io/Serializable" (some 0) with
  accessFlags := 1537
  interfaces := #[]
  cf := some (fileOf pool4 2 #[] #[] 1537 4 #[] #[])
  fields := #[]
  methods := #[]
  instanceTypes := #[]
  staticTypes := #[]
  resolved := Array.replicate 8 none
  statics := none }

/-- the primitive byte -/
def k5 : Class := { plain "byte" none with kind := .primitive 'B', accessFlags := 0x411 }
/-- [B -/
def k6 : Class := { plain "[B" (some 0) with kind := .array 5 .byte, interfaces := #[3, 4], accessFlags := 1041 }

/-- the primitive int -/
def k7 : Class := { plain "int" none with kind := .primitive 'I', accessFlags := 0x411 }
/-- [I -/
def k8 : Class := { plain "[I" (some 0) with kind := .array 7 .int, interfaces := #[3, 4], accessFlags := 1041 }

def heap : Heap := #[]
def classes : Array Class := #[k0, k1, k2, k3, k4, k5, k6, k7, k8]
def interned : List (Array UInt16 × Addr) := []
def slotsUsed : Nat := 0
def theMethod : MethodId := ⟨1, 1⟩
def args0 : Array Value := #[.int 1, .int 2, .int 3, .int 4, .int 5]
def aboutOver (below : List Frame) : State where
  vm := { classes := classes, interned := interned.toArray }
  heap := heap
  slotsUsed := slotsUsed
  threads := #[{ frames := .invoking theMethod args0 :: below }]
def below0 : List Frame := [.native { method := ⟨0, 0⟩, args := #[] }]
def about1 : State := aboutOver below0
def p0 : Program := .bare "" "" ""
def e0 : Env := launch0.env 0 0 0
theorem w_frames : about1.frames = Frame.invoking theMethod args0 :: below0 := rfl
set_option maxRecDepth 65536 in
theorem w_args : argsFit about1.vm theMethod args0 = true := by decide +kernel
set_option maxRecDepth 65536 in
theorem w_heap : heapFits about1 = true := by decide +kernel
set_option maxRecDepth 65536 in
theorem w_runnable : about1.curStatus? = some .runnable := by decide +kernel
set_option maxRecDepth 65536 in
theorem w_alone : about1.alone = true := by decide +kernel
set_option maxRecDepth 65536 in
theorem w_named : about1.methodNamed? x = some theMethod := by decide +kernel
set_option maxRecDepth 65536 in
theorem w_hears : about1.hears theMethod below0 = true := by decide +kernel
set_option maxRecDepth 65536 in
theorem w_ripe : about1.ripe theMethod args0 below0 = true := by decide +kernel
theorem w_running : about1.status = .running := rfl
set_option maxRecDepth 65536 in
theorem w_room : about1.hasRoom e0.platform room_1 = true :=
  launch0.hasRoom_least _ room_1 (by decide +kernel) (by decide +kernel) (by decide +kernel) (by decide +kernel) (by decide +kernel) (by decide +kernel)
theorem allAtoms_all (ts : List Jvm.Cond) (a : Array Jvm.Value) (st : Jvm.State) : (allAtoms ts).before a st = ts.all (fun c => c.before a st) := by
  induction ts with
  | nil => rfl
  | cons c t ih =>
    show (Jvm.Cond.and c (allAtoms t)).before a st = _
    rw [Jvm.Cond.before_and, ih, List.all_cons]
def words1 : List Jvm.Cond := Jvm.Cond.code x code maxLocals ret :: tables_1
/-- a 'code' word, met by the world's own term for the bytes: nothing is compared byte by byte -/
theorem code_word {y : MethodName} {bytes : ByteArray} {mx : Nat} {rt : Option FieldType} {a : Array Value} {s : State} {m : MethodId} {meth : Method} {c : Code} (h1 : s.methodNamed? y = some m) (h2 : s.vm.method? m = some meth) (h3 : meth.code = some c) (h4 : c.code = bytes)
    (h5 : (c.maxLocals == mx && c.exceptionTable.isEmpty && decide (c.maxStack ≤ mostOperands) && decide (meth.sig.returnType = rt) && !meth.locks && decide (parseMethodDescriptor y.desc = some meth.sig)) = true) : (Jvm.Cond.code y bytes mx rt).before a s = true := by
  simp only [Bool.and_eq_true, beq_iff_eq, Bool.not_eq_true', decide_eq_true_eq] at h5
  obtain ⟨⟨⟨⟨⟨g1, g2⟩, g3⟩, g4⟩, g5⟩, g6⟩ := h5
  simp [Cond.before, Cond.holds, Cond.value, h1, h2, h3, h4, g1, g2, g3, g4, g5, g6]
def isCode : Jvm.Cond → Bool
  | .code _ _ _ _ => true
  | _ => false
theorem all_split {L : List Jvm.Cond} {P : Jvm.Cond → Bool} (h1 : L.all (fun c => isCode c || P c) = true) (h2 : ∀ c ∈ L.filter isCode, P c = true) : L.all P = true := by
  refine List.all_eq_true.mpr fun c hc => ?_
  have h := List.all_eq_true.mp h1 c hc
  rcases Bool.eq_false_or_eq_true (isCode c) with hi | hi
  · exact h2 c (List.mem_filter.mpr ⟨hc, hi⟩)
  · simpa [hi] using h
set_option maxRecDepth 65536 in
theorem w_c0 : (Jvm.Cond.code x code maxLocals ret).before args0 about1 = true := code_word (m := ⟨1, 1⟩) (meth := k1m1) (c := k1c1) (by decide +kernel) rfl rfl rfl (by decide +kernel)
set_option maxRecDepth 65536 in
theorem w_c1 : (Jvm.Cond.code ({ cls := "com/example/nearfar/nearfar/ProtoReader", name := "<init>", desc := "([B)V" } : Jvm.MethodName) prog_32_method_1_code (2 : Nat) (Option.none : Option Jvm.ClassFile.FieldType)).before args0 about1 = true := code_word (m := ⟨2, 0⟩) (meth := k2m0) (c := k2c0) (by decide +kernel) rfl rfl rfl (by decide +kernel)
set_option maxRecDepth 65536 in
theorem w_c2 : (Jvm.Cond.code ({ cls := "com/example/nearfar/nearfar/ProtoReader", name := "<init>", desc := "([BIII)V" } : Jvm.MethodName) prog_32_method_2_code (5 : Nat) (Option.none : Option Jvm.ClassFile.FieldType)).before args0 about1 = true := code_word (m := ⟨2, 1⟩) (meth := k2m1) (c := k2c1) (by decide +kernel) rfl rfl rfl (by decide +kernel)
set_option maxRecDepth 65536 in
theorem w_c3 : (Jvm.Cond.code ({ cls := "java/lang/Object", name := "<init>", desc := "()V" } : Jvm.MethodName) object_method_1_code (1 : Nat) (Option.none : Option Jvm.ClassFile.FieldType)).before args0 about1 = true := code_word (m := ⟨0, 0⟩) (meth := k0m0) (c := k0c0) (by decide +kernel) rfl rfl rfl (by decide +kernel)
set_option maxRecDepth 65536 in
theorem w_c4 : (Jvm.Cond.code ({ cls := "com/example/nearfar/nearfar/ProtoReader", name := "atEnd", desc := "()Z" } : Jvm.MethodName) prog_32_method_3_code (1 : Nat) (Option.some Jvm.ClassFile.FieldType.boolean)).before args0 about1 = true := code_word (m := ⟨2, 2⟩) (meth := k2m2) (c := k2c2) (by decide +kernel) rfl rfl rfl (by decide +kernel)
set_option maxRecDepth 65536 in
theorem w_c5 : (Jvm.Cond.code ({ cls := "com/example/nearfar/nearfar/ProtoReader", name := "embedded", desc := "()Lcom/example/nearfar/nearfar/ProtoReader;" } : Jvm.MethodName) prog_32_method_11_code (2 : Nat) (Option.some (Jvm.ClassFile.FieldType.object "com/example/nearfar/nearfar/ProtoReader"))).before args0 about1 = true := code_word (m := ⟨2, 4⟩) (meth := k2m4) (c := k2c4) (by decide +kernel) rfl rfl rfl (by decide +kernel)
set_option maxRecDepth 65536 in
theorem w_c6 : (Jvm.Cond.code ({ cls := "com/example/nearfar/nearfar/ProtoReader", name := "payloadStart", desc := "()I" } : Jvm.MethodName) prog_32_method_16_code (5 : Nat) (Option.some Jvm.ClassFile.FieldType.int)).before args0 about1 = true := code_word (m := ⟨2, 5⟩) (meth := k2m5) (c := k2c5) (by decide +kernel) rfl rfl rfl (by decide +kernel)
set_option maxRecDepth 65536 in
theorem w_c7 : (Jvm.Cond.code ({ cls := "com/example/nearfar/nearfar/ProtoReader", name := "varint", desc := "()J" } : Jvm.MethodName) prog_32_method_5_code (6 : Nat) (Option.some Jvm.ClassFile.FieldType.long)).before args0 about1 = true := code_word (m := ⟨2, 3⟩) (meth := k2m3) (c := k2c3) (by decide +kernel) rfl rfl rfl (by decide +kernel)
set_option maxRecDepth 65536 in
theorem w_c8 : (Jvm.Cond.code ({ cls := "com/example/nearfar/nearfar/ProtoReader", name := "next", desc := "(I)B" } : Jvm.MethodName) prog_32_method_17_code (2 : Nat) (Option.some Jvm.ClassFile.FieldType.byte)).before args0 about1 = true := code_word (m := ⟨2, 6⟩) (meth := k2m6) (c := k2c6) (by decide +kernel) rfl rfl rfl (by decide +kernel)
def codes1 : List Jvm.Cond := [Jvm.Cond.code x code maxLocals ret, Jvm.Cond.code ({ cls := "com/example/nearfar/nearfar/ProtoReader", name := "<init>", desc := "([B)V" } : Jvm.MethodName) prog_32_method_1_code (2 : Nat) (Option.none : Option Jvm.ClassFile.FieldType), Jvm.Cond.code ({ cls := "com/example/nearfar/nearfar/ProtoReader", name := "<init>", desc := "([BIII)V" } : Jvm.MethodName) prog_32_method_2_code (5 : Nat) (Option.none : Option Jvm.ClassFile.FieldType), Jvm.Cond.code ({ cls := "java/lang/Object", name := "<init>", desc := "()V" } : Jvm.MethodName) object_method_1_code (1 : Nat) (Option.none : Option Jvm.ClassFile.FieldType), Jvm.Cond.code ({ cls := "com/example/nearfar/nearfar/ProtoReader", name := "atEnd", desc := "()Z" } : Jvm.MethodName) prog_32_method_3_code (1 : Nat) (Option.some Jvm.ClassFile.FieldType.boolean), Jvm.Cond.code ({ cls := "com/example/nearfar/nearfar/ProtoReader", name := "embedded", desc := "()Lcom/example/nearfar/nearfar/ProtoReader;" } : Jvm.MethodName) prog_32_method_11_code (2 : Nat) (Option.some (Jvm.ClassFile.FieldType.object "com/example/nearfar/nearfar/ProtoReader")), Jvm.Cond.code ({ cls := "com/example/nearfar/nearfar/ProtoReader", name := "payloadStart", desc := "()I" } : Jvm.MethodName) prog_32_method_16_code (5 : Nat) (Option.some Jvm.ClassFile.FieldType.int), Jvm.Cond.code ({ cls := "com/example/nearfar/nearfar/ProtoReader", name := "varint", desc := "()J" } : Jvm.MethodName) prog_32_method_5_code (6 : Nat) (Option.some Jvm.ClassFile.FieldType.long), Jvm.Cond.code ({ cls := "com/example/nearfar/nearfar/ProtoReader", name := "next", desc := "(I)B" } : Jvm.MethodName) prog_32_method_17_code (2 : Nat) (Option.some Jvm.ClassFile.FieldType.byte)]
set_option maxRecDepth 65536 in
theorem codes_eq : words1.filter isCode = codes1 := rfl
theorem w_codes : ∀ c ∈ words1.filter isCode, c.before args0 about1 = true := by
  rw [codes_eq]
  intro c hc
  simp only [codes1, List.mem_cons, List.not_mem_nil, or_false] at hc
  rcases hc with rfl | rfl | rfl | rfl | rfl | rfl | rfl | rfl | rfl
  · exact w_c0
  · exact w_c1
  · exact w_c2
  · exact w_c3
  · exact w_c4
  · exact w_c5
  · exact w_c6
  · exact w_c7
  · exact w_c8
set_option maxRecDepth 65536 in
theorem w_t1 : (words1.take 24).all (fun c => isCode c || c.before args0 about1) = true := by decide +kernel
set_option maxRecDepth 65536 in
theorem w_t2 : (words1.drop 24).all (fun c => isCode c || c.before args0 about1) = true := by decide +kernel
theorem w_tables : (allAtoms (Jvm.Cond.code x code maxLocals ret :: tables_1)).before args0 about1 = true := by
  rw [allAtoms_all]
  show words1.all (fun c => c.before args0 about1) = true
  refine all_split ?_ w_codes
  rw [← List.take_append_drop 24 words1, List.all_append, w_t1, w_t2]
  rfl
set_option maxRecDepth 65536 in
theorem w_case : (Jvm.Cond.and given_1 narrow_1).before args0 about1 = true := by decide +kernel
theorem w_applies : (headSpec (Jvm.Cond.code x code maxLocals ret :: tables_1) room_1).applies x e0.platform about1 = true :=
  (Spec.applies_iff w_frames).mpr ⟨w_running, w_runnable, w_alone, w_named, w_hears, w_ripe, w_room, w_tables⟩
theorem atStart : AtStart classFile x code maxLocals ret World_1 tables_1 room_1 Calls_1 rest_1 Pre_1 launch0 p0 e0 about1 theMethod args0 below0 :=
  ⟨lists_1, trivial, launch0.admits_env _ _ _, launch0.least_env, fairChoices_fair.cas, fairChoices_fair.clock, w_frames, w_args, w_heap, w_applies, trivial, trivial, w_case⟩
end start1
theorem witness_1 : WitnessClaimed_1 := ⟨start1.p0, start1.e0, start1.about1, start1.theMethod, start1.args0, start1.below0, start1.atStart⟩
end Jvm.Pilot.@@N@@
