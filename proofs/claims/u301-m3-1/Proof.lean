import JvmDerived
import JvmDerived.Pilot.@@N@@Statement
import JvmDerived.Pilot.@@N@@Code
set_option linter.unusedVariables false
set_option linter.unusedSimpArgs false
namespace Jvm.Pilot.@@N@@
open Jvm Jvm.ClassFile Sem Op Lib Jvm.Free Jvm.Stand Jvm.LawKit Jvm.RoadKit Bundle Jvm.Pilot.@@N@@.Jvm.D
section OwnRoad
variable {p : Program} {l : Launch} {e : Env} {R : Room} {s : State} {m : MethodId} {args : Array Value} {below : List Frame} {meth : Method} {c : Code} {T : State} {locs : List Loc} {cells slots : Nat}
/-- from A the run comes to an end of which G speaks -/
def OEnds (tb : Tables) (e : Env) (below : List Frame) (G : Outcome → State → Prop) (A : State) : Prop := ∃ s₂ o, Steps tb e below A s₂ ∧ s₂.status = .running ∧ Ended s₂ below o ∧ G o s₂
theorem OEnds.st {tb : Tables} {e : Env} {below : List Frame} {G : Outcome → State → Prop} {A B : State} (h : ∀ t, Steps tb e below B t → Steps tb e below A t) (k : OEnds tb e below G B) : OEnds tb e below G A := by
  obtain ⟨s, o, h1, h2⟩ := k
  exact ⟨s, o, h _ h1, h2⟩
def OGoal (Q : Option Value → Heap → List Loc → Prop) (s : State) (C S : Nat) (o : Outcome) (t : State) : Prop := ∃ v L, o = .returned v ∧ Q v t.heap L ∧ FrameEnd s o t L C S
theorem OEnds.out (X : Stand p l e R s m args below meth c T locs cells slots) (hlk : meth.locks = false) {v : Option Value} (hv : meth.sig.returnType = none → v = none) {Q : Option Value → Heap → List Loc → Prop} {C S : Nat} {A : State}
    (st : ∀ fs, (∀ (f : JFrame) (acts : List Action), f.method = m → f.locked = none → f.entered = [] → (doReturn e (T.setTop f) acts v).1 = T.setFrames fs) → Steps p.tables e below A (T.setFrames fs)) (hc : cells ≤ C) (hs : slots ≤ S) (hQ : Q v T.heap locs) : OEnds p.tables e below (OGoal Q s C S) A := by
  obtain ⟨fs, hr, hrun, hended, hW, hsame⟩ := X.leave (v := v) hv hlk
  exact ⟨_, _, st fs hr, hrun, hended, _, _, rfl, hQ, ⟨_, rfl⟩, hW, hsame.mono hc hs⟩
theorem OEnds.retI (X : Stand p l e R s m args below meth c T locs cells slots) (hx : p.tables.exec = Jvm.exec) (hlk : meth.locks = false) (hret : meth.sig.returnType = some .int) {pc : Nat} {Ls : Array Slot} {z : Int32} {rest : List Value} (hd : decode c.code pc = .ok (.ireturn, 1)) {Q : Option Value → Heap → List Loc → Prop} {C S : Nat} (hc : cells ≤ C) (hs : slots ≤ S) (hQ : Q (some (.int z)) T.heap locs) :
    OEnds p.tables e below (OGoal Q s C S) (T.setTop (mkF m pc Ls (.int z :: rest))) :=
  OEnds.out X hlk (fun h => by rw [hret] at h; cases h) (fun fs hr => retOut X hx hret rfl (Or.inl ⟨rfl, Or.inl rfl, _, rfl⟩) hd hr) hc hs hQ
theorem OEnds.retZ (X : Stand p l e R s m args below meth c T locs cells slots) (hx : p.tables.exec = Jvm.exec) (hlk : meth.locks = false) (hret : meth.sig.returnType = some .boolean) {pc : Nat} {Ls : Array Slot} {z : Int32} {rest : List Value} (hz : nar .boolean z = z) (hd : decode c.code pc = .ok (.ireturn, 1)) {Q : Option Value → Heap → List Loc → Prop} {C S : Nat} (hc : cells ≤ C) (hs : slots ≤ S) (hQ : Q (some (.int z)) T.heap locs) :
    OEnds p.tables e below (OGoal Q s C S) (T.setTop (mkF m pc Ls (.int z :: rest))) :=
  OEnds.out X hlk (fun h => by rw [hret] at h; cases h) (fun fs hr => retN X hx (t := .boolean) hret (Or.inl rfl) hd (by rw [hz]; exact hr)) hc hs hQ
theorem OEnds.retB (X : Stand p l e R s m args below meth c T locs cells slots) (hx : p.tables.exec = Jvm.exec) (hlk : meth.locks = false) (hret : meth.sig.returnType = some .byte) {pc : Nat} {Ls : Array Slot} {z : Int32} {rest : List Value} (hz : nar .byte z = z) (hd : decode c.code pc = .ok (.ireturn, 1)) {Q : Option Value → Heap → List Loc → Prop} {C S : Nat} (hc : cells ≤ C) (hs : slots ≤ S) (hQ : Q (some (.int z)) T.heap locs) :
    OEnds p.tables e below (OGoal Q s C S) (T.setTop (mkF m pc Ls (.int z :: rest))) :=
  OEnds.out X hlk (fun h => by rw [hret] at h; cases h) (fun fs hr => retN X hx (t := .byte) hret (Or.inr (Or.inl rfl)) hd (by rw [hz]; exact hr)) hc hs hQ
theorem OEnds.retJ (X : Stand p l e R s m args below meth c T locs cells slots) (hx : p.tables.exec = Jvm.exec) (hlk : meth.locks = false) (hret : meth.sig.returnType = some .long) {pc : Nat} {Ls : Array Slot} {z : Int64} {rest : List Value} (hd : decode c.code pc = .ok (.lreturn, 1)) {Q : Option Value → Heap → List Loc → Prop} {C S : Nat} (hc : cells ≤ C) (hs : slots ≤ S) (hQ : Q (some (.long z)) T.heap locs) :
    OEnds p.tables e below (OGoal Q s C S) (T.setTop (mkF m pc Ls (.long z :: rest))) :=
  OEnds.out X hlk (fun h => by rw [hret] at h; cases h) (fun fs hr => retOut X hx hret rfl (Or.inr (Or.inl ⟨rfl, rfl, _, rfl⟩)) hd hr) hc hs hQ
theorem OEnds.retA (X : Stand p l e R s m args below meth c T locs cells slots) (hx : p.tables.exec = Jvm.exec) (hlk : meth.locks = false) {t : FieldType} (hret : meth.sig.returnType = some t) {pc : Nat} {Ls : Array Slot} {w : Value} {rest : List Value} (hw : w.isRef = true) (ht : t.isReference = true) (hd : decode c.code pc = .ok (.areturn, 1)) {Q : Option Value → Heap → List Loc → Prop} {C S : Nat} (hc : cells ≤ C) (hs : slots ≤ S) (hQ : Q (some w) T.heap locs) :
    OEnds p.tables e below (OGoal Q s C S) (T.setTop (mkF m pc Ls (w :: rest))) :=
  OEnds.out X hlk (fun h => by rw [hret] at h; cases h) (fun fs hr => retOut X hx hret (by cases t <;> cases w <;> first | rfl | (cases ht; done) | (cases hw; done)) (Or.inr (Or.inr (Or.inr (Or.inr ⟨rfl, ht, hw⟩)))) hd hr) hc hs hQ
theorem OEnds.retV (X : Stand p l e R s m args below meth c T locs cells slots) (hx : p.tables.exec = Jvm.exec) (hlk : meth.locks = false) (hret : meth.sig.returnType = none) {pc : Nat} {Ls : Array Slot} (hd : decode c.code pc = .ok (.return_, 1)) {Q : Option Value → Heap → List Loc → Prop} {C S : Nat} (hc : cells ≤ C) (hs : slots ≤ S) (hQ : Q none T.heap locs) :
    OEnds p.tables e below (OGoal Q s C S) (T.setTop (mkF m pc Ls [])) :=
  OEnds.out X hlk (fun _ => rfl) (fun fs hr => X.returnOut hx hret hd hr) hc hs hQ
def OGoalW (Q : Option Value → Heap → List Loc → Prop) (s : State) (C S : Nat) (o : Outcome) (t : State) : Prop := ∃ v L, o = .returned v ∧ Q v t.heap L ∧ Jvm.ReturnedEndW s o t L C S
theorem own_growW {s t : State} {o : Outcome} {L : List Loc} {k n k' n' : Nat} (h : Jvm.ReturnedEndW s o t L k n) (hk : k ≤ k') (hn : n ≤ n') : Jvm.ReturnedEndW s o t L k' n' := ⟨h.1, h.2.1, h.2.2.1, h.2.2.2.mono hk hn⟩
theorem OEnds.retZW {vm0 : Vm} (X : Stand p l e R (s.setVm vm0) m args below meth c T locs cells slots) {n : Nat} (hS : s.Since vm0 n) (hn : n ≤ T.heap.size) (hx : p.tables.exec = Jvm.exec) (hlk : meth.locks = false) (hret : meth.sig.returnType = some .boolean) {pc : Nat} {Ls : Array Slot} {z : Int32} {rest : List Value} (hz : nar .boolean z = z) (hd : decode c.code pc = .ok (.ireturn, 1)) {Q : Option Value → Heap → List Loc → Prop} {C S : Nat} (hc : cells ≤ C) (hs : slots ≤ S) (hQ : Q (some (.int z)) T.heap locs) :
    OEnds p.tables e below (OGoalW Q s C S) (T.setTop (mkF m pc Ls (.int z :: rest))) := by
  obtain ⟨fs, hr, hrun, hended, hW⟩ := X.leaveW hS hn (v := some (.int z)) (fun h => by rw [hret] at h; cases h) hlk
  exact ⟨_, _, retN X hx (t := .boolean) hret (Or.inl rfl) hd (by rw [hz]; exact hr), hrun, hended, _, _, rfl, hQ, own_growW hW hc hs⟩
theorem own_b8 (x : Int32) : nar .byte (x.toInt8.toInt32) = x.toInt8.toInt32 := by
  show (x.toInt8.toInt32).toInt8.toInt32 = _
  rw [Int8.toInt8_toInt32]
theorem own_selP {s : State} {args : Array Value} {n : Nat} {y : MethodName} (hins : (Jvm.Cond.instantiable y.cls n).before args s = true) (hpriv : (Jvm.Cond.privateMethod y).before args s = true) (hinst : (Jvm.Cond.instanceMethod y).before args s = true) (hy : y.cls ≠ "java/lang/invoke/MethodHandle" ∧ y.cls ≠ "java/lang/invoke/VarHandle") :
    (Jvm.Cond.selects y.cls y y).before args s = true := by
  obtain ⟨c, k, hc, hk, -, hniab, -, -⟩ := Cond.instantiable_spec hins
  have hni : k.isInterface = false := (Bool.or_eq_false_iff.mp hniab).1
  obtain ⟨mk, methM, hnamed, hmethM, -, -⟩ := Cond.instanceMethod_spec hinst
  have hfound : s.methodFound? y.cls y.name y.desc = some mk := State.methodFound?_of_named hnamed hy
  have hcls : mk.cls = c := Option.some.inj ((findClass_of_methodNamed hnamed).symm.trans hc)
  have hsel : selectMethod {} s.vm c mk = .method mk := selectMethod_private hmethM (Cond.privateMethod_at hpriv mk methM hnamed hmethM)
  simp only [Cond.before, Cond.holds, Cond.value, hc, hfound, hnamed, hsel, hcls, hk]
  simp; exact hni
theorem own_exa_ns {Z : State} {h : Heap} {a : Addr} {C : String} (E : Exa Z h a C) : ∀ cell : Cell, h[a]? = some cell → cell.vm.isStatics = false := fun cell q => by
  obtain ⟨c, k, h1, -, -, h4, -⟩ := E
  cases h1.symm.trans q
  exact h4
theorem own_Sta_keep {Z : State} {h h' : Heap} {C n d : String} {v : Value} {ws : List Addr} (F : Sta Z h C n d v) (K : Keep h h' ws) (q : ∀ x ∈ ws, ∀ cell : Cell, h[x]? = some cell → cell.vm.isStatics = false) : Sta Z h' C n d v := by
  obtain ⟨cf, i, k, f, st, cell, h1, h2, h3, h4, h5, h6, h7⟩ := F
  refine ⟨cf, i, k, f, st, cell, h1, h2, h3, h4, K.2.1 _ _ h5 (fun hm => ?_), h6, h7⟩
  rw [q _ hm _ h5] at h6
  cases h6
theorem own_grow (X : Stand p l e R s m args below meth c T locs cells slots) {C S : Nat} (hc : cells ≤ C) (hs : slots ≤ S) : Stand p l e R s m args below meth c T locs C S :=
  ⟨X.admits, X.cas, X.clock, X.frames, X.room, X.hears, X.method, X.code, X.here, X.tail, X.warmed, X.limits, X.bytes, X.same.mono hc hs⟩
end OwnRoad
def own_st (k : Int32) (o0 o1 o2 o3 o4 o5 o6 o7 o8 o9 : Addr) : Addr := if k = (0 : Int32) then o0 else if k = (1 : Int32) then o1 else if k = (2 : Int32) then o2 else if k = (3 : Int32) then o3 else if k = (4 : Int32) then o4 else if k = (5 : Int32) then o5 else if k = (6 : Int32) then o6 else if k = (7 : Int32) then o7 else if k = (8 : Int32) then o8 else o9
def own_wire (k : Int32) : Int32 := if k = (0 : Int32) then 2 else if k = (1 : Int32) then 2 else if k = (8 : Int32) then 2 else if k = (9 : Int32) then 2 else if k = (4 : Int32) then 1 else if k = (5 : Int32) then 5 else 0
def own_packed (w : Int32) : Int32 := if w = (2 : Int32) then 0 else 1
def own_al (p w r : Int32) : Int32 := if p = w then 1 else if r = (0 : Int32) then 0 else if own_packed w = (0 : Int32) then 0 else if p = (2 : Int32) then 1 else 0
def own_b2 (p : Int32) : Int32 := if p = (2 : Int32) then 1 else 0
theorem own_elf (k : Int32) : ((k &&& (2147483647 : Int32)) % (11 : Int32)) = (10 : Int32) ∨ (((k &&& (2147483647 : Int32)) % (11 : Int32)) = (0 : Int32) ∨ ((k &&& (2147483647 : Int32)) % (11 : Int32)) = (1 : Int32) ∨ ((k &&& (2147483647 : Int32)) % (11 : Int32)) = (2 : Int32) ∨ ((k &&& (2147483647 : Int32)) % (11 : Int32)) = (3 : Int32) ∨ ((k &&& (2147483647 : Int32)) % (11 : Int32)) = (4 : Int32) ∨ ((k &&& (2147483647 : Int32)) % (11 : Int32)) = (5 : Int32) ∨ ((k &&& (2147483647 : Int32)) % (11 : Int32)) = (6 : Int32) ∨ ((k &&& (2147483647 : Int32)) % (11 : Int32)) = (7 : Int32) ∨ ((k &&& (2147483647 : Int32)) % (11 : Int32)) = (8 : Int32) ∨ ((k &&& (2147483647 : Int32)) % (11 : Int32)) = (9 : Int32)) := by
  have e1 := c_mask k (2147483647 : Int32) 31 (by decide) (by decide)
  have e2 := (c_irem (k &&& (2147483647 : Int32)) (11 : Int32) 11 (by decide)).1 (by omega)
  generalize ((k &&& (2147483647 : Int32)) % (11 : Int32)) = v at *
  have z : ∀ n : Int32, v.toInt = n.toInt → v = n := fun n h => Int32.toInt_inj.mp h
  have b : v.toInt = 10 ∨ v.toInt = 0 ∨ v.toInt = 1 ∨ v.toInt = 2 ∨ v.toInt = 3 ∨ v.toInt = 4 ∨ v.toInt = 5 ∨ v.toInt = 6 ∨ v.toInt = 7 ∨ v.toInt = 8 ∨ v.toInt = 9 := by omega
  rcases b with b | b | b | b | b | b | b | b | b | b | b
  · exact Or.inl (z 10 b)
  · exact Or.inr (Or.inl (z 0 b))
  · exact Or.inr (Or.inr (Or.inl (z 1 b)))
  · exact Or.inr (Or.inr (Or.inr (Or.inl (z 2 b))))
  · exact Or.inr (Or.inr (Or.inr (Or.inr (Or.inl (z 3 b)))))
  · exact Or.inr (Or.inr (Or.inr (Or.inr (Or.inr (Or.inl (z 4 b))))))
  · exact Or.inr (Or.inr (Or.inr (Or.inr (Or.inr (Or.inr (Or.inl (z 5 b)))))))
  · exact Or.inr (Or.inr (Or.inr (Or.inr (Or.inr (Or.inr (Or.inr (Or.inl (z 6 b))))))))
  · exact Or.inr (Or.inr (Or.inr (Or.inr (Or.inr (Or.inr (Or.inr (Or.inr (Or.inl (z 7 b)))))))))
  · exact Or.inr (Or.inr (Or.inr (Or.inr (Or.inr (Or.inr (Or.inr (Or.inr (Or.inr (Or.inl (z 8 b))))))))))
  · exact Or.inr (Or.inr (Or.inr (Or.inr (Or.inr (Or.inr (Or.inr (Or.inr (Or.inr (Or.inr ((z 9 b)))))))))))
theorem own_fld {Z : State} {args : Array Value} {t : Term} {a : Addr} {C n d : String} {k : Int32} (ev : t.eval args Z none [] Z = some (.ref a)) (h : (Jvm.Cond.eq (.field t C n d) (.int k)).value args Z none Z [] = some true) : Fld Z Z.heap a C n d (.int k) := by
  obtain ⟨x, y, h1, h2, h3, h4⟩ := cmp_v (Or.inl h)
  rw [fld_at ev] at h1
  refine Fld.start ?_
  rw [h1]
  cases h2
  cases x <;> simp [Kin] at h3 h4
  rename_i z
  have q : (Jvm.Cond.eq (.field t C n d) (.int k)).value args Z none Z [] = some (decide (z = k)) := by
    simp [Jvm.Cond.value, Term.eval, ev, h1]
  rw [gotT q h]
theorem d1_0 : decode method_2_code 0 = .ok (.iload_n 0, 1) := by decide +kernel
theorem d1_1 : decode method_2_code 1 = .ok (.ifCond .ne 7, 3) := by decide +kernel
theorem d1_4 : decode method_2_code 4 = .ok (.getstatic 7, 3) := by decide +kernel
theorem d1_7 : decode method_2_code 7 = .ok (.areturn, 1) := by decide +kernel
theorem d1_8 : decode method_2_code 8 = .ok (.iload_n 0, 1) := by decide +kernel
theorem d1_9 : decode method_2_code 9 = .ok (.iconst 1, 1) := by decide +kernel
theorem d1_10 : decode method_2_code 10 = .ok (.if_icmp .ne 7, 3) := by decide +kernel
theorem d1_13 : decode method_2_code 13 = .ok (.getstatic 13, 3) := by decide +kernel
theorem d1_16 : decode method_2_code 16 = .ok (.areturn, 1) := by decide +kernel
theorem d1_17 : decode method_2_code 17 = .ok (.iload_n 0, 1) := by decide +kernel
theorem d1_18 : decode method_2_code 18 = .ok (.iconst 2, 1) := by decide +kernel
theorem d1_19 : decode method_2_code 19 = .ok (.if_icmp .ne 7, 3) := by decide +kernel
theorem d1_22 : decode method_2_code 22 = .ok (.getstatic 16, 3) := by decide +kernel
theorem d1_25 : decode method_2_code 25 = .ok (.areturn, 1) := by decide +kernel
theorem d1_26 : decode method_2_code 26 = .ok (.iload_n 0, 1) := by decide +kernel
theorem d1_27 : decode method_2_code 27 = .ok (.iconst 3, 1) := by decide +kernel
theorem d1_28 : decode method_2_code 28 = .ok (.if_icmp .ne 7, 3) := by decide +kernel
theorem d1_31 : decode method_2_code 31 = .ok (.getstatic 19, 3) := by decide +kernel
theorem d1_34 : decode method_2_code 34 = .ok (.areturn, 1) := by decide +kernel
theorem d1_35 : decode method_2_code 35 = .ok (.iload_n 0, 1) := by decide +kernel
theorem d1_36 : decode method_2_code 36 = .ok (.iconst 4, 1) := by decide +kernel
theorem d1_37 : decode method_2_code 37 = .ok (.if_icmp .ne 7, 3) := by decide +kernel
theorem d1_40 : decode method_2_code 40 = .ok (.getstatic 22, 3) := by decide +kernel
theorem d1_43 : decode method_2_code 43 = .ok (.areturn, 1) := by decide +kernel
theorem d1_44 : decode method_2_code 44 = .ok (.iload_n 0, 1) := by decide +kernel
theorem d1_45 : decode method_2_code 45 = .ok (.iconst 5, 1) := by decide +kernel
theorem d1_46 : decode method_2_code 46 = .ok (.if_icmp .ne 7, 3) := by decide +kernel
theorem d1_49 : decode method_2_code 49 = .ok (.getstatic 25, 3) := by decide +kernel
theorem d1_52 : decode method_2_code 52 = .ok (.areturn, 1) := by decide +kernel
theorem d1_53 : decode method_2_code 53 = .ok (.iload_n 0, 1) := by decide +kernel
theorem d1_54 : decode method_2_code 54 = .ok (.bipush 6, 2) := by decide +kernel
theorem d1_56 : decode method_2_code 56 = .ok (.if_icmp .ne 7, 3) := by decide +kernel
theorem d1_59 : decode method_2_code 59 = .ok (.getstatic 28, 3) := by decide +kernel
theorem d1_62 : decode method_2_code 62 = .ok (.areturn, 1) := by decide +kernel
theorem d1_63 : decode method_2_code 63 = .ok (.iload_n 0, 1) := by decide +kernel
theorem d1_64 : decode method_2_code 64 = .ok (.bipush 7, 2) := by decide +kernel
theorem d1_66 : decode method_2_code 66 = .ok (.if_icmp .ne 7, 3) := by decide +kernel
theorem d1_69 : decode method_2_code 69 = .ok (.getstatic 31, 3) := by decide +kernel
theorem d1_72 : decode method_2_code 72 = .ok (.areturn, 1) := by decide +kernel
theorem d1_73 : decode method_2_code 73 = .ok (.iload_n 0, 1) := by decide +kernel
theorem d1_74 : decode method_2_code 74 = .ok (.bipush 8, 2) := by decide +kernel
theorem d1_76 : decode method_2_code 76 = .ok (.if_icmp .ne 7, 3) := by decide +kernel
theorem d1_79 : decode method_2_code 79 = .ok (.getstatic 34, 3) := by decide +kernel
theorem d1_82 : decode method_2_code 82 = .ok (.areturn, 1) := by decide +kernel
theorem d1_83 : decode method_2_code 83 = .ok (.iload_n 0, 1) := by decide +kernel
theorem d1_84 : decode method_2_code 84 = .ok (.bipush 9, 2) := by decide +kernel
theorem d1_86 : decode method_2_code 86 = .ok (.if_icmp .ne 7, 3) := by decide +kernel
theorem d1_89 : decode method_2_code 89 = .ok (.getstatic 37, 3) := by decide +kernel
theorem d1_92 : decode method_2_code 92 = .ok (.areturn, 1) := by decide +kernel
theorem d1_93 : decode method_2_code 93 = .ok (.aconst_null, 1) := by decide +kernel
theorem d1_94 : decode method_2_code 94 = .ok (.areturn, 1) := by decide +kernel
theorem pn_0 : plainName "com/example/nearfar/nearfar/FieldAllowsPinLaw" = true := by first | (simp [plainName, overriddenIn]; done) | decide +kernel
theorem ef_stN (m : MethodId)  : entryFrame m #[(.int (10 : Int32))] 1 = mkF m 0 #[.val (.int (10 : Int32))] [] := by first | (simp [entryFrame, mkF, argsToLocals, Value.category]; done) | rfl
def QstN (Z : State)  (h0 : Heap) (n0 : Nat) (v : Option Value) (h : Heap) (L : List Loc) : Prop := v = some .null ∧ Fr n0 L ∧ h = h0
set_option maxRecDepth 65536 in
set_option maxHeartbeats 40000000 in
theorem rmstN (l : Launch) (Z : State) (a0 : Array Value) (hw : ∀ d ∈ tables_1, d.before a0 Z = true) (ws : List Jvm.Cond)  (h0 : Heap) (n0 : Nat) (Z0 : n0 ≤ h0.size) :
    MetFree l (⟨"com/example/nearfar/nearfar/FieldAllowsPinLaw", "storedOf", "(I)Lcom/example/nearfar/nearfar/StoredType;"⟩ : MethodName) (head1 (Jvm.Cond.code (⟨"com/example/nearfar/nearfar/FieldAllowsPinLaw", "storedOf", "(I)Lcom/example/nearfar/nearfar/StoredType;"⟩ : MethodName) method_2_code 1 (some (.object "com/example/nearfar/nearfar/StoredType")) :: ws) ({ frames := 0, cells := 0, slots := 0, locals := 0 } : Room)) (fun a U => a = #[(.int (10 : Int32))] ∧ Z.Warmed39 U.vm ∧ U.heap = h0) (fun _ _ _ _ _ => True) (fun _ U o U' => ∃ v L, o = .returned v ∧ QstN Z  h0 n0 v U'.heap L ∧ FrameEnd U o U' L ({ frames := 0, cells := 0, slots := 0, locals := 0 } : Room).cells ({ frames := 0, cells := 0, slots := 0, locals := 0 } : Room).slots) := by
  refine MetFree.of_bodySF (plainFor_of_name pn_0) hisR ?_
  intro p e s m args below meth c s₁ Bd hml0 hP hK
  obtain ⟨rfl, hZ, hh⟩ := hP
  have hx := Bd.exec
  have hby := Bd.bytes
  have hml : c.maxLocals = 1 := hml0
  have hown : s.vm.findClass "com/example/nearfar/nearfar/FieldAllowsPinLaw" = some m.cls := findClass_of_methodNamed Bd.named
  have hnm := (name_of_methodNamed Bd.named Bd.method).1
  have hlk : meth.locks = false := BodyLoose.notSynchronized Bd
  have X0 : Stand p l e ({ frames := 0, cells := 0, slots := 0, locals := 0 } : Room) s m #[(.int (10 : Int32))] below meth c s₁ [] 0 0 := Stand.of_body Bd
  have e0 : s₁.heap = h0 := by rw [← hh, Bd.state]; rfl
  have N0 := Fr.nil n0
  show OEnds p.tables e below (OGoal (QstN Z  h0 n0) s 0 0) (s₁.setTop (entryFrame m #[(.int (10 : Int32))] 1))
  refine OEnds.st (fun t k => castTop (ef_stN m ) k) ?_
  generalize hG : OGoal (QstN Z  h0 n0) s 0 0 = G
  have KK0 : Keep h0 h0 [] := Keep.refl h0 []
  show OEnds p.tables e below G (s₁.setTop (mkF m 0 #[.val (.int (10 : Int32))] []))
  refine OEnds.st (fun _ k => XS.iloadN X0.here hx rfl (hb hby d1_0) rfl k) ?_
  show OEnds p.tables e below G (s₁.setTop (mkF m 1 #[.val (.int (10 : Int32))] [(.int (10 : Int32))]))
  refine OEnds.st (fun _ k => XS.ifYes X0.here hx rfl (pc0 := 1) (pc' := 8) rfl (hb hby d1_1) rfl ((if0 _ _).trans (feq (by decide : ¬ ((10 : Int32) = (0 : Int32)))).2) (by decide) (by decide) k) ?_
  show OEnds p.tables e below G (s₁.setTop (mkF m 8 #[.val (.int (10 : Int32))] []))
  refine OEnds.st (fun _ k => XS.iloadN X0.here hx rfl (hb hby d1_8) rfl k) ?_
  show OEnds p.tables e below G (s₁.setTop (mkF m 9 #[.val (.int (10 : Int32))] [(.int (10 : Int32))]))
  refine OEnds.st (fun _ k => XS.iconst X0.here hx rfl (hb hby d1_9) k) ?_
  show OEnds p.tables e below G (s₁.setTop (mkF m 10 #[.val (.int (10 : Int32))] [(.int (1 : Int32)), (.int (10 : Int32))]))
  refine OEnds.st (fun _ k => XS.icmpYes X0.here hx rfl (pc0 := 10) (pc' := 17) rfl (hb hby d1_10) rfl (feq (by decide : ¬ ((10 : Int32) = (1 : Int32)))).2 (by decide) (by decide) k) ?_
  show OEnds p.tables e below G (s₁.setTop (mkF m 17 #[.val (.int (10 : Int32))] []))
  refine OEnds.st (fun _ k => XS.iloadN X0.here hx rfl (hb hby d1_17) rfl k) ?_
  show OEnds p.tables e below G (s₁.setTop (mkF m 18 #[.val (.int (10 : Int32))] [(.int (10 : Int32))]))
  refine OEnds.st (fun _ k => XS.iconst X0.here hx rfl (hb hby d1_18) k) ?_
  show OEnds p.tables e below G (s₁.setTop (mkF m 19 #[.val (.int (10 : Int32))] [(.int (2 : Int32)), (.int (10 : Int32))]))
  refine OEnds.st (fun _ k => XS.icmpYes X0.here hx rfl (pc0 := 19) (pc' := 26) rfl (hb hby d1_19) rfl (feq (by decide : ¬ ((10 : Int32) = (2 : Int32)))).2 (by decide) (by decide) k) ?_
  show OEnds p.tables e below G (s₁.setTop (mkF m 26 #[.val (.int (10 : Int32))] []))
  refine OEnds.st (fun _ k => XS.iloadN X0.here hx rfl (hb hby d1_26) rfl k) ?_
  show OEnds p.tables e below G (s₁.setTop (mkF m 27 #[.val (.int (10 : Int32))] [(.int (10 : Int32))]))
  refine OEnds.st (fun _ k => XS.iconst X0.here hx rfl (hb hby d1_27) k) ?_
  show OEnds p.tables e below G (s₁.setTop (mkF m 28 #[.val (.int (10 : Int32))] [(.int (3 : Int32)), (.int (10 : Int32))]))
  refine OEnds.st (fun _ k => XS.icmpYes X0.here hx rfl (pc0 := 28) (pc' := 35) rfl (hb hby d1_28) rfl (feq (by decide : ¬ ((10 : Int32) = (3 : Int32)))).2 (by decide) (by decide) k) ?_
  show OEnds p.tables e below G (s₁.setTop (mkF m 35 #[.val (.int (10 : Int32))] []))
  refine OEnds.st (fun _ k => XS.iloadN X0.here hx rfl (hb hby d1_35) rfl k) ?_
  show OEnds p.tables e below G (s₁.setTop (mkF m 36 #[.val (.int (10 : Int32))] [(.int (10 : Int32))]))
  refine OEnds.st (fun _ k => XS.iconst X0.here hx rfl (hb hby d1_36) k) ?_
  show OEnds p.tables e below G (s₁.setTop (mkF m 37 #[.val (.int (10 : Int32))] [(.int (4 : Int32)), (.int (10 : Int32))]))
  refine OEnds.st (fun _ k => XS.icmpYes X0.here hx rfl (pc0 := 37) (pc' := 44) rfl (hb hby d1_37) rfl (feq (by decide : ¬ ((10 : Int32) = (4 : Int32)))).2 (by decide) (by decide) k) ?_
  show OEnds p.tables e below G (s₁.setTop (mkF m 44 #[.val (.int (10 : Int32))] []))
  refine OEnds.st (fun _ k => XS.iloadN X0.here hx rfl (hb hby d1_44) rfl k) ?_
  show OEnds p.tables e below G (s₁.setTop (mkF m 45 #[.val (.int (10 : Int32))] [(.int (10 : Int32))]))
  refine OEnds.st (fun _ k => XS.iconst X0.here hx rfl (hb hby d1_45) k) ?_
  show OEnds p.tables e below G (s₁.setTop (mkF m 46 #[.val (.int (10 : Int32))] [(.int (5 : Int32)), (.int (10 : Int32))]))
  refine OEnds.st (fun _ k => XS.icmpYes X0.here hx rfl (pc0 := 46) (pc' := 53) rfl (hb hby d1_46) rfl (feq (by decide : ¬ ((10 : Int32) = (5 : Int32)))).2 (by decide) (by decide) k) ?_
  show OEnds p.tables e below G (s₁.setTop (mkF m 53 #[.val (.int (10 : Int32))] []))
  refine OEnds.st (fun _ k => XS.iloadN X0.here hx rfl (hb hby d1_53) rfl k) ?_
  show OEnds p.tables e below G (s₁.setTop (mkF m 54 #[.val (.int (10 : Int32))] [(.int (10 : Int32))]))
  refine OEnds.st (fun _ k => XS.bipush X0.here hx rfl (hb hby d1_54) k) ?_
  show OEnds p.tables e below G (s₁.setTop (mkF m 56 #[.val (.int (10 : Int32))] [(.int (6 : Int32)), (.int (10 : Int32))]))
  refine OEnds.st (fun _ k => XS.icmpYes X0.here hx rfl (pc0 := 56) (pc' := 63) rfl (hb hby d1_56) rfl (feq (by decide : ¬ ((10 : Int32) = (6 : Int32)))).2 (by decide) (by decide) k) ?_
  show OEnds p.tables e below G (s₁.setTop (mkF m 63 #[.val (.int (10 : Int32))] []))
  refine OEnds.st (fun _ k => XS.iloadN X0.here hx rfl (hb hby d1_63) rfl k) ?_
  show OEnds p.tables e below G (s₁.setTop (mkF m 64 #[.val (.int (10 : Int32))] [(.int (10 : Int32))]))
  refine OEnds.st (fun _ k => XS.bipush X0.here hx rfl (hb hby d1_64) k) ?_
  show OEnds p.tables e below G (s₁.setTop (mkF m 66 #[.val (.int (10 : Int32))] [(.int (7 : Int32)), (.int (10 : Int32))]))
  refine OEnds.st (fun _ k => XS.icmpYes X0.here hx rfl (pc0 := 66) (pc' := 73) rfl (hb hby d1_66) rfl (feq (by decide : ¬ ((10 : Int32) = (7 : Int32)))).2 (by decide) (by decide) k) ?_
  show OEnds p.tables e below G (s₁.setTop (mkF m 73 #[.val (.int (10 : Int32))] []))
  refine OEnds.st (fun _ k => XS.iloadN X0.here hx rfl (hb hby d1_73) rfl k) ?_
  show OEnds p.tables e below G (s₁.setTop (mkF m 74 #[.val (.int (10 : Int32))] [(.int (10 : Int32))]))
  refine OEnds.st (fun _ k => XS.bipush X0.here hx rfl (hb hby d1_74) k) ?_
  show OEnds p.tables e below G (s₁.setTop (mkF m 76 #[.val (.int (10 : Int32))] [(.int (8 : Int32)), (.int (10 : Int32))]))
  refine OEnds.st (fun _ k => XS.icmpYes X0.here hx rfl (pc0 := 76) (pc' := 83) rfl (hb hby d1_76) rfl (feq (by decide : ¬ ((10 : Int32) = (8 : Int32)))).2 (by decide) (by decide) k) ?_
  show OEnds p.tables e below G (s₁.setTop (mkF m 83 #[.val (.int (10 : Int32))] []))
  refine OEnds.st (fun _ k => XS.iloadN X0.here hx rfl (hb hby d1_83) rfl k) ?_
  show OEnds p.tables e below G (s₁.setTop (mkF m 84 #[.val (.int (10 : Int32))] [(.int (10 : Int32))]))
  refine OEnds.st (fun _ k => XS.bipush X0.here hx rfl (hb hby d1_84) k) ?_
  show OEnds p.tables e below G (s₁.setTop (mkF m 86 #[.val (.int (10 : Int32))] [(.int (9 : Int32)), (.int (10 : Int32))]))
  refine OEnds.st (fun _ k => XS.icmpYes X0.here hx rfl (pc0 := 86) (pc' := 93) rfl (hb hby d1_86) rfl (feq (by decide : ¬ ((10 : Int32) = (9 : Int32)))).2 (by decide) (by decide) k) ?_
  show OEnds p.tables e below G (s₁.setTop (mkF m 93 #[.val (.int (10 : Int32))] []))
  refine OEnds.st (fun _ k => XS.aconstNull X0.here hx rfl (hb hby d1_93) k) ?_
  show OEnds p.tables e below G (s₁.setTop (mkF m 94 #[.val (.int (10 : Int32))] [.null]))
  rw [← hG]
  refine OEnds.retA X0 hx hlk Bd.returns (by first | rfl | exact rfl) rfl (hb hby d1_94) (by decide) (by decide) ?_
  rw [e0]
  exact ⟨rfl, N0, rfl⟩
theorem ef_stS (m : MethodId) (p1 : Int32) : entryFrame m #[(.int p1)] 1 = mkF m 0 #[.val (.int p1)] [] := by first | (simp [entryFrame, mkF, argsToLocals, Value.category]; done) | rfl
def QstS (Z : State) (p1 : Int32) (o0 : Addr) (o1 : Addr) (o2 : Addr) (o3 : Addr) (o4 : Addr) (o5 : Addr) (o6 : Addr) (o7 : Addr) (o8 : Addr) (o9 : Addr) (h0 : Heap) (n0 : Nat) (v : Option Value) (h : Heap) (L : List Loc) : Prop := v = some (.ref (own_st p1 o0 o1 o2 o3 o4 o5 o6 o7 o8 o9)) ∧ Fr n0 L ∧ h = h0
set_option maxRecDepth 65536 in
set_option maxHeartbeats 40000000 in
theorem rmstS (l : Launch) (Z : State) (a0 : Array Value) (hw : ∀ d ∈ tables_1, d.before a0 Z = true) (ws : List Jvm.Cond) (p1 : Int32) (o0 : Addr) (o1 : Addr) (o2 : Addr) (o3 : Addr) (o4 : Addr) (o5 : Addr) (o6 : Addr) (o7 : Addr) (o8 : Addr) (o9 : Addr) (h0 : Heap) (n0 : Nat) (Z0 : n0 ≤ h0.size) (St0 : Sta Z h0 "com/example/nearfar/nearfar/StoredType" "STRING" "Lcom/example/nearfar/nearfar/StoredType;" (.ref o0)) (St1 : Sta Z h0 "com/example/nearfar/nearfar/StoredType" "BYTES" "Lcom/example/nearfar/nearfar/StoredType;" (.ref o1)) (St2 : Sta Z h0 "com/example/nearfar/nearfar/StoredType" "SINT32" "Lcom/example/nearfar/nearfar/StoredType;" (.ref o2)) (St3 : Sta Z h0 "com/example/nearfar/nearfar/StoredType" "SINT64" "Lcom/example/nearfar/nearfar/StoredType;" (.ref o3)) (St4 : Sta Z h0 "com/example/nearfar/nearfar/StoredType" "DOUBLE" "Lcom/example/nearfar/nearfar/StoredType;" (.ref o4)) (St5 : Sta Z h0 "com/example/nearfar/nearfar/StoredType" "FLOAT" "Lcom/example/nearfar/nearfar/StoredType;" (.ref o5)) (St6 : Sta Z h0 "com/example/nearfar/nearfar/StoredType" "BOOL" "Lcom/example/nearfar/nearfar/StoredType;" (.ref o6)) (St7 : Sta Z h0 "com/example/nearfar/nearfar/StoredType" "ENUM" "Lcom/example/nearfar/nearfar/StoredType;" (.ref o7)) (St8 : Sta Z h0 "com/example/nearfar/nearfar/StoredType" "TIMESTAMP" "Lcom/example/nearfar/nearfar/StoredType;" (.ref o8)) (St9 : Sta Z h0 "com/example/nearfar/nearfar/StoredType" "DURATION" "Lcom/example/nearfar/nearfar/StoredType;" (.ref o9)) (hten : p1 = (0 : Int32) ∨ p1 = (1 : Int32) ∨ p1 = (2 : Int32) ∨ p1 = (3 : Int32) ∨ p1 = (4 : Int32) ∨ p1 = (5 : Int32) ∨ p1 = (6 : Int32) ∨ p1 = (7 : Int32) ∨ p1 = (8 : Int32) ∨ p1 = (9 : Int32)) :
    MetFree l (⟨"com/example/nearfar/nearfar/FieldAllowsPinLaw", "storedOf", "(I)Lcom/example/nearfar/nearfar/StoredType;"⟩ : MethodName) (head1 (Jvm.Cond.code (⟨"com/example/nearfar/nearfar/FieldAllowsPinLaw", "storedOf", "(I)Lcom/example/nearfar/nearfar/StoredType;"⟩ : MethodName) method_2_code 1 (some (.object "com/example/nearfar/nearfar/StoredType")) :: ws) ({ frames := 0, cells := 0, slots := 0, locals := 0 } : Room)) (fun a U => a = #[(.int p1)] ∧ Z.Warmed39 U.vm ∧ U.heap = h0) (fun _ _ _ _ _ => True) (fun _ U o U' => ∃ v L, o = .returned v ∧ QstS Z p1 o0 o1 o2 o3 o4 o5 o6 o7 o8 o9 h0 n0 v U'.heap L ∧ FrameEnd U o U' L ({ frames := 0, cells := 0, slots := 0, locals := 0 } : Room).cells ({ frames := 0, cells := 0, slots := 0, locals := 0 } : Room).slots) := by
  refine MetFree.of_bodySF (plainFor_of_name pn_0) hisR ?_
  intro p e s m args below meth c s₁ Bd hml0 hP hK
  obtain ⟨rfl, hZ, hh⟩ := hP
  have hx := Bd.exec
  have hby := Bd.bytes
  have hml : c.maxLocals = 1 := hml0
  have hown : s.vm.findClass "com/example/nearfar/nearfar/FieldAllowsPinLaw" = some m.cls := findClass_of_methodNamed Bd.named
  have hnm := (name_of_methodNamed Bd.named Bd.method).1
  have hlk : meth.locks = false := BodyLoose.notSynchronized Bd
  have X0 : Stand p l e ({ frames := 0, cells := 0, slots := 0, locals := 0 } : Room) s m #[(.int p1)] below meth c s₁ [] 0 0 := Stand.of_body Bd
  have e0 : s₁.heap = h0 := by rw [← hh, Bd.state]; rfl
  have N0 := Fr.nil n0
  show OEnds p.tables e below (OGoal (QstS Z p1 o0 o1 o2 o3 o4 o5 o6 o7 o8 o9 h0 n0) s 0 0) (s₁.setTop (entryFrame m #[(.int p1)] 1))
  refine OEnds.st (fun t k => castTop (ef_stS m p1) k) ?_
  generalize hG : OGoal (QstS Z p1 o0 o1 o2 o3 o4 o5 o6 o7 o8 o9 h0 n0) s 0 0 = G
  have KK0 : Keep h0 h0 [] := Keep.refl h0 []
  show OEnds p.tables e below G (s₁.setTop (mkF m 0 #[.val (.int p1)] []))
  refine OEnds.st (fun _ k => XS.iloadN X0.here hx rfl (hb hby d1_0) rfl k) ?_
  show OEnds p.tables e below G (s₁.setTop (mkF m 1 #[.val (.int p1)] [(.int p1)]))
  by_cases hc1_1001 : p1 = (0 : Int32)
  · -- pc 1: yes
    refine OEnds.st (fun _ k => XS.ifNo X0.here hx rfl (hb hby d1_1) rfl ((if0 _ _).trans (teq hc1_1001).2) k) ?_
    show OEnds p.tables e below G (s₁.setTop (mkF m 4 #[.val (.int p1)] []))
    obtain ⟨T1002, X1002, e1002, st1002⟩ := getS2 X0 hx hZ hown (host := "") (Or.inl (hw _ (List.mem_of_getElem? (i := 67) rfl))) Via.refl e0 St0 (g := (mkF m 4 #[.val (.int p1)] [])) rfl (hb hby d1_4)
    refine OEnds.st st1002 ?_
    show OEnds p.tables e below G (T1002.setTop (mkF m 7 #[.val (.int p1)] [(.ref o0)]))
    rw [← hG]
    refine OEnds.retA X1002 hx hlk Bd.returns (by first | rfl | exact rfl) rfl (hb hby d1_7) (by decide) (by decide) ?_
    rw [e1002]
    exact ⟨congrArg (fun z => some (Value.ref z)) (by simp [own_st, hc1_1001]), N0, rfl⟩
  · -- pc 1: no
    refine OEnds.st (fun _ k => XS.ifYes X0.here hx rfl (pc0 := 1) (pc' := 8) rfl (hb hby d1_1) rfl ((if0 _ _).trans (feq hc1_1001).2) (by decide) (by decide) k) ?_
    show OEnds p.tables e below G (s₁.setTop (mkF m 8 #[.val (.int p1)] []))
    refine OEnds.st (fun _ k => XS.iloadN X0.here hx rfl (hb hby d1_8) rfl k) ?_
    show OEnds p.tables e below G (s₁.setTop (mkF m 9 #[.val (.int p1)] [(.int p1)]))
    refine OEnds.st (fun _ k => XS.iconst X0.here hx rfl (hb hby d1_9) k) ?_
    show OEnds p.tables e below G (s₁.setTop (mkF m 10 #[.val (.int p1)] [(.int (1 : Int32)), (.int p1)]))
    by_cases hc10_1003 : p1 = (1 : Int32)
    · -- pc 10: yes
      refine OEnds.st (fun _ k => XS.icmpNo X0.here hx rfl (hb hby d1_10) rfl (teq hc10_1003).2 k) ?_
      show OEnds p.tables e below G (s₁.setTop (mkF m 13 #[.val (.int p1)] []))
      obtain ⟨T1004, X1004, e1004, st1004⟩ := getS2 X0 hx hZ hown (host := "") (Or.inl (hw _ (List.mem_of_getElem? (i := 53) rfl))) Via.refl e0 St1 (g := (mkF m 13 #[.val (.int p1)] [])) rfl (hb hby d1_13)
      refine OEnds.st st1004 ?_
      show OEnds p.tables e below G (T1004.setTop (mkF m 16 #[.val (.int p1)] [(.ref o1)]))
      rw [← hG]
      refine OEnds.retA X1004 hx hlk Bd.returns (by first | rfl | exact rfl) rfl (hb hby d1_16) (by decide) (by decide) ?_
      rw [e1004]
      exact ⟨congrArg (fun z => some (Value.ref z)) (by simp [own_st, hc1_1001, hc10_1003]), N0, rfl⟩
    · -- pc 10: no
      refine OEnds.st (fun _ k => XS.icmpYes X0.here hx rfl (pc0 := 10) (pc' := 17) rfl (hb hby d1_10) rfl (feq hc10_1003).2 (by decide) (by decide) k) ?_
      show OEnds p.tables e below G (s₁.setTop (mkF m 17 #[.val (.int p1)] []))
      refine OEnds.st (fun _ k => XS.iloadN X0.here hx rfl (hb hby d1_17) rfl k) ?_
      show OEnds p.tables e below G (s₁.setTop (mkF m 18 #[.val (.int p1)] [(.int p1)]))
      refine OEnds.st (fun _ k => XS.iconst X0.here hx rfl (hb hby d1_18) k) ?_
      show OEnds p.tables e below G (s₁.setTop (mkF m 19 #[.val (.int p1)] [(.int (2 : Int32)), (.int p1)]))
      by_cases hc19_1005 : p1 = (2 : Int32)
      · -- pc 19: yes
        refine OEnds.st (fun _ k => XS.icmpNo X0.here hx rfl (hb hby d1_19) rfl (teq hc19_1005).2 k) ?_
        show OEnds p.tables e below G (s₁.setTop (mkF m 22 #[.val (.int p1)] []))
        obtain ⟨T1006, X1006, e1006, st1006⟩ := getS2 X0 hx hZ hown (host := "") (Or.inl (hw _ (List.mem_of_getElem? (i := 82) rfl))) Via.refl e0 St2 (g := (mkF m 22 #[.val (.int p1)] [])) rfl (hb hby d1_22)
        refine OEnds.st st1006 ?_
        show OEnds p.tables e below G (T1006.setTop (mkF m 25 #[.val (.int p1)] [(.ref o2)]))
        rw [← hG]
        refine OEnds.retA X1006 hx hlk Bd.returns (by first | rfl | exact rfl) rfl (hb hby d1_25) (by decide) (by decide) ?_
        rw [e1006]
        exact ⟨congrArg (fun z => some (Value.ref z)) (by simp [own_st, hc1_1001, hc10_1003, hc19_1005]), N0, rfl⟩
      · -- pc 19: no
        refine OEnds.st (fun _ k => XS.icmpYes X0.here hx rfl (pc0 := 19) (pc' := 26) rfl (hb hby d1_19) rfl (feq hc19_1005).2 (by decide) (by decide) k) ?_
        show OEnds p.tables e below G (s₁.setTop (mkF m 26 #[.val (.int p1)] []))
        refine OEnds.st (fun _ k => XS.iloadN X0.here hx rfl (hb hby d1_26) rfl k) ?_
        show OEnds p.tables e below G (s₁.setTop (mkF m 27 #[.val (.int p1)] [(.int p1)]))
        refine OEnds.st (fun _ k => XS.iconst X0.here hx rfl (hb hby d1_27) k) ?_
        show OEnds p.tables e below G (s₁.setTop (mkF m 28 #[.val (.int p1)] [(.int (3 : Int32)), (.int p1)]))
        by_cases hc28_1007 : p1 = (3 : Int32)
        · -- pc 28: yes
          refine OEnds.st (fun _ k => XS.icmpNo X0.here hx rfl (hb hby d1_28) rfl (teq hc28_1007).2 k) ?_
          show OEnds p.tables e below G (s₁.setTop (mkF m 31 #[.val (.int p1)] []))
          obtain ⟨T1008, X1008, e1008, st1008⟩ := getS2 X0 hx hZ hown (host := "") (Or.inl (hw _ (List.mem_of_getElem? (i := 5) rfl))) Via.refl e0 St3 (g := (mkF m 31 #[.val (.int p1)] [])) rfl (hb hby d1_31)
          refine OEnds.st st1008 ?_
          show OEnds p.tables e below G (T1008.setTop (mkF m 34 #[.val (.int p1)] [(.ref o3)]))
          rw [← hG]
          refine OEnds.retA X1008 hx hlk Bd.returns (by first | rfl | exact rfl) rfl (hb hby d1_34) (by decide) (by decide) ?_
          rw [e1008]
          exact ⟨congrArg (fun z => some (Value.ref z)) (by simp [own_st, hc1_1001, hc10_1003, hc19_1005, hc28_1007]), N0, rfl⟩
        · -- pc 28: no
          refine OEnds.st (fun _ k => XS.icmpYes X0.here hx rfl (pc0 := 28) (pc' := 35) rfl (hb hby d1_28) rfl (feq hc28_1007).2 (by decide) (by decide) k) ?_
          show OEnds p.tables e below G (s₁.setTop (mkF m 35 #[.val (.int p1)] []))
          refine OEnds.st (fun _ k => XS.iloadN X0.here hx rfl (hb hby d1_35) rfl k) ?_
          show OEnds p.tables e below G (s₁.setTop (mkF m 36 #[.val (.int p1)] [(.int p1)]))
          refine OEnds.st (fun _ k => XS.iconst X0.here hx rfl (hb hby d1_36) k) ?_
          show OEnds p.tables e below G (s₁.setTop (mkF m 37 #[.val (.int p1)] [(.int (4 : Int32)), (.int p1)]))
          by_cases hc37_1009 : p1 = (4 : Int32)
          · -- pc 37: yes
            refine OEnds.st (fun _ k => XS.icmpNo X0.here hx rfl (hb hby d1_37) rfl (teq hc37_1009).2 k) ?_
            show OEnds p.tables e below G (s₁.setTop (mkF m 40 #[.val (.int p1)] []))
            obtain ⟨T1010, X1010, e1010, st1010⟩ := getS2 X0 hx hZ hown (host := "") (Or.inl (hw _ (List.mem_of_getElem? (i := 98) rfl))) Via.refl e0 St4 (g := (mkF m 40 #[.val (.int p1)] [])) rfl (hb hby d1_40)
            refine OEnds.st st1010 ?_
            show OEnds p.tables e below G (T1010.setTop (mkF m 43 #[.val (.int p1)] [(.ref o4)]))
            rw [← hG]
            refine OEnds.retA X1010 hx hlk Bd.returns (by first | rfl | exact rfl) rfl (hb hby d1_43) (by decide) (by decide) ?_
            rw [e1010]
            exact ⟨congrArg (fun z => some (Value.ref z)) (by simp [own_st, hc1_1001, hc10_1003, hc19_1005, hc28_1007, hc37_1009]), N0, rfl⟩
          · -- pc 37: no
            refine OEnds.st (fun _ k => XS.icmpYes X0.here hx rfl (pc0 := 37) (pc' := 44) rfl (hb hby d1_37) rfl (feq hc37_1009).2 (by decide) (by decide) k) ?_
            show OEnds p.tables e below G (s₁.setTop (mkF m 44 #[.val (.int p1)] []))
            refine OEnds.st (fun _ k => XS.iloadN X0.here hx rfl (hb hby d1_44) rfl k) ?_
            show OEnds p.tables e below G (s₁.setTop (mkF m 45 #[.val (.int p1)] [(.int p1)]))
            refine OEnds.st (fun _ k => XS.iconst X0.here hx rfl (hb hby d1_45) k) ?_
            show OEnds p.tables e below G (s₁.setTop (mkF m 46 #[.val (.int p1)] [(.int (5 : Int32)), (.int p1)]))
            by_cases hc46_1011 : p1 = (5 : Int32)
            · -- pc 46: yes
              refine OEnds.st (fun _ k => XS.icmpNo X0.here hx rfl (hb hby d1_46) rfl (teq hc46_1011).2 k) ?_
              show OEnds p.tables e below G (s₁.setTop (mkF m 49 #[.val (.int p1)] []))
              obtain ⟨T1012, X1012, e1012, st1012⟩ := getS2 X0 hx hZ hown (host := "") (Or.inl (hw _ (List.mem_of_getElem? (i := 77) rfl))) Via.refl e0 St5 (g := (mkF m 49 #[.val (.int p1)] [])) rfl (hb hby d1_49)
              refine OEnds.st st1012 ?_
              show OEnds p.tables e below G (T1012.setTop (mkF m 52 #[.val (.int p1)] [(.ref o5)]))
              rw [← hG]
              refine OEnds.retA X1012 hx hlk Bd.returns (by first | rfl | exact rfl) rfl (hb hby d1_52) (by decide) (by decide) ?_
              rw [e1012]
              exact ⟨congrArg (fun z => some (Value.ref z)) (by simp [own_st, hc1_1001, hc10_1003, hc19_1005, hc28_1007, hc37_1009, hc46_1011]), N0, rfl⟩
            · -- pc 46: no
              refine OEnds.st (fun _ k => XS.icmpYes X0.here hx rfl (pc0 := 46) (pc' := 53) rfl (hb hby d1_46) rfl (feq hc46_1011).2 (by decide) (by decide) k) ?_
              show OEnds p.tables e below G (s₁.setTop (mkF m 53 #[.val (.int p1)] []))
              refine OEnds.st (fun _ k => XS.iloadN X0.here hx rfl (hb hby d1_53) rfl k) ?_
              show OEnds p.tables e below G (s₁.setTop (mkF m 54 #[.val (.int p1)] [(.int p1)]))
              refine OEnds.st (fun _ k => XS.bipush X0.here hx rfl (hb hby d1_54) k) ?_
              show OEnds p.tables e below G (s₁.setTop (mkF m 56 #[.val (.int p1)] [(.int (6 : Int32)), (.int p1)]))
              by_cases hc56_1013 : p1 = (6 : Int32)
              · -- pc 56: yes
                refine OEnds.st (fun _ k => XS.icmpNo X0.here hx rfl (hb hby d1_56) rfl (teq hc56_1013).2 k) ?_
                show OEnds p.tables e below G (s₁.setTop (mkF m 59 #[.val (.int p1)] []))
                obtain ⟨T1014, X1014, e1014, st1014⟩ := getS2 X0 hx hZ hown (host := "") (Or.inl (hw _ (List.mem_of_getElem? (i := 88) rfl))) Via.refl e0 St6 (g := (mkF m 59 #[.val (.int p1)] [])) rfl (hb hby d1_59)
                refine OEnds.st st1014 ?_
                show OEnds p.tables e below G (T1014.setTop (mkF m 62 #[.val (.int p1)] [(.ref o6)]))
                rw [← hG]
                refine OEnds.retA X1014 hx hlk Bd.returns (by first | rfl | exact rfl) rfl (hb hby d1_62) (by decide) (by decide) ?_
                rw [e1014]
                exact ⟨congrArg (fun z => some (Value.ref z)) (by simp [own_st, hc1_1001, hc10_1003, hc19_1005, hc28_1007, hc37_1009, hc46_1011, hc56_1013]), N0, rfl⟩
              · -- pc 56: no
                refine OEnds.st (fun _ k => XS.icmpYes X0.here hx rfl (pc0 := 56) (pc' := 63) rfl (hb hby d1_56) rfl (feq hc56_1013).2 (by decide) (by decide) k) ?_
                show OEnds p.tables e below G (s₁.setTop (mkF m 63 #[.val (.int p1)] []))
                refine OEnds.st (fun _ k => XS.iloadN X0.here hx rfl (hb hby d1_63) rfl k) ?_
                show OEnds p.tables e below G (s₁.setTop (mkF m 64 #[.val (.int p1)] [(.int p1)]))
                refine OEnds.st (fun _ k => XS.bipush X0.here hx rfl (hb hby d1_64) k) ?_
                show OEnds p.tables e below G (s₁.setTop (mkF m 66 #[.val (.int p1)] [(.int (7 : Int32)), (.int p1)]))
                by_cases hc66_1015 : p1 = (7 : Int32)
                · -- pc 66: yes
                  refine OEnds.st (fun _ k => XS.icmpNo X0.here hx rfl (hb hby d1_66) rfl (teq hc66_1015).2 k) ?_
                  show OEnds p.tables e below G (s₁.setTop (mkF m 69 #[.val (.int p1)] []))
                  obtain ⟨T1016, X1016, e1016, st1016⟩ := getS2 X0 hx hZ hown (host := "") (Or.inl (hw _ (List.mem_of_getElem? (i := 72) rfl))) Via.refl e0 St7 (g := (mkF m 69 #[.val (.int p1)] [])) rfl (hb hby d1_69)
                  refine OEnds.st st1016 ?_
                  show OEnds p.tables e below G (T1016.setTop (mkF m 72 #[.val (.int p1)] [(.ref o7)]))
                  rw [← hG]
                  refine OEnds.retA X1016 hx hlk Bd.returns (by first | rfl | exact rfl) rfl (hb hby d1_72) (by decide) (by decide) ?_
                  rw [e1016]
                  exact ⟨congrArg (fun z => some (Value.ref z)) (by simp [own_st, hc1_1001, hc10_1003, hc19_1005, hc28_1007, hc37_1009, hc46_1011, hc56_1013, hc66_1015]), N0, rfl⟩
                · -- pc 66: no
                  refine OEnds.st (fun _ k => XS.icmpYes X0.here hx rfl (pc0 := 66) (pc' := 73) rfl (hb hby d1_66) rfl (feq hc66_1015).2 (by decide) (by decide) k) ?_
                  show OEnds p.tables e below G (s₁.setTop (mkF m 73 #[.val (.int p1)] []))
                  refine OEnds.st (fun _ k => XS.iloadN X0.here hx rfl (hb hby d1_73) rfl k) ?_
                  show OEnds p.tables e below G (s₁.setTop (mkF m 74 #[.val (.int p1)] [(.int p1)]))
                  refine OEnds.st (fun _ k => XS.bipush X0.here hx rfl (hb hby d1_74) k) ?_
                  show OEnds p.tables e below G (s₁.setTop (mkF m 76 #[.val (.int p1)] [(.int (8 : Int32)), (.int p1)]))
                  by_cases hc76_1017 : p1 = (8 : Int32)
                  · -- pc 76: yes
                    refine OEnds.st (fun _ k => XS.icmpNo X0.here hx rfl (hb hby d1_76) rfl (teq hc76_1017).2 k) ?_
                    show OEnds p.tables e below G (s₁.setTop (mkF m 79 #[.val (.int p1)] []))
                    obtain ⟨T1018, X1018, e1018, st1018⟩ := getS2 X0 hx hZ hown (host := "") (Or.inl (hw _ (List.mem_of_getElem? (i := 62) rfl))) Via.refl e0 St8 (g := (mkF m 79 #[.val (.int p1)] [])) rfl (hb hby d1_79)
                    refine OEnds.st st1018 ?_
                    show OEnds p.tables e below G (T1018.setTop (mkF m 82 #[.val (.int p1)] [(.ref o8)]))
                    rw [← hG]
                    refine OEnds.retA X1018 hx hlk Bd.returns (by first | rfl | exact rfl) rfl (hb hby d1_82) (by decide) (by decide) ?_
                    rw [e1018]
                    exact ⟨congrArg (fun z => some (Value.ref z)) (by simp [own_st, hc1_1001, hc10_1003, hc19_1005, hc28_1007, hc37_1009, hc46_1011, hc56_1013, hc66_1015, hc76_1017]), N0, rfl⟩
                  · -- pc 76: no
                    refine OEnds.st (fun _ k => XS.icmpYes X0.here hx rfl (pc0 := 76) (pc' := 83) rfl (hb hby d1_76) rfl (feq hc76_1017).2 (by decide) (by decide) k) ?_
                    show OEnds p.tables e below G (s₁.setTop (mkF m 83 #[.val (.int p1)] []))
                    refine OEnds.st (fun _ k => XS.iloadN X0.here hx rfl (hb hby d1_83) rfl k) ?_
                    show OEnds p.tables e below G (s₁.setTop (mkF m 84 #[.val (.int p1)] [(.int p1)]))
                    refine OEnds.st (fun _ k => XS.bipush X0.here hx rfl (hb hby d1_84) k) ?_
                    show OEnds p.tables e below G (s₁.setTop (mkF m 86 #[.val (.int p1)] [(.int (9 : Int32)), (.int p1)]))
                    have hc86_1019 : p1 = (9 : Int32) := by rcases hten with h | h | h | h | h | h | h | h | h | h <;> first | exact h | exact absurd h (by assumption)
                    refine OEnds.st (fun _ k => XS.icmpNo X0.here hx rfl (hb hby d1_86) rfl (teq hc86_1019).2 k) ?_
                    show OEnds p.tables e below G (s₁.setTop (mkF m 89 #[.val (.int p1)] []))
                    obtain ⟨T1020, X1020, e1020, st1020⟩ := getS2 X0 hx hZ hown (host := "") (Or.inl (hw _ (List.mem_of_getElem? (i := 93) rfl))) Via.refl e0 St9 (g := (mkF m 89 #[.val (.int p1)] [])) rfl (hb hby d1_89)
                    refine OEnds.st st1020 ?_
                    show OEnds p.tables e below G (T1020.setTop (mkF m 92 #[.val (.int p1)] [(.ref o9)]))
                    rw [← hG]
                    refine OEnds.retA X1020 hx hlk Bd.returns (by first | rfl | exact rfl) rfl (hb hby d1_92) (by decide) (by decide) ?_
                    rw [e1020]
                    exact ⟨congrArg (fun z => some (Value.ref z)) (by simp [own_st, hc1_1001, hc10_1003, hc19_1005, hc28_1007, hc37_1009, hc46_1011, hc56_1013, hc66_1015, hc76_1017, hc86_1019]), N0, rfl⟩
theorem d4_0 : decode method_3_code 0 = .ok (.iload_n 0, 1) := by decide +kernel
theorem d4_1 : decode method_3_code 1 = .ok (.ifCond .eq 20, 3) := by decide +kernel
theorem d4_4 : decode method_3_code 4 = .ok (.iload_n 0, 1) := by decide +kernel
theorem d4_5 : decode method_3_code 5 = .ok (.iconst 1, 1) := by decide +kernel
theorem d4_6 : decode method_3_code 6 = .ok (.if_icmp .eq 15, 3) := by decide +kernel
theorem d4_9 : decode method_3_code 9 = .ok (.iload_n 0, 1) := by decide +kernel
theorem d4_10 : decode method_3_code 10 = .ok (.bipush 8, 2) := by decide +kernel
theorem d4_12 : decode method_3_code 12 = .ok (.if_icmp .eq 9, 3) := by decide +kernel
theorem d4_15 : decode method_3_code 15 = .ok (.iload_n 0, 1) := by decide +kernel
theorem d4_16 : decode method_3_code 16 = .ok (.bipush 9, 2) := by decide +kernel
theorem d4_18 : decode method_3_code 18 = .ok (.if_icmp .ne 5, 3) := by decide +kernel
theorem d4_21 : decode method_3_code 21 = .ok (.iconst 2, 1) := by decide +kernel
theorem d4_22 : decode method_3_code 22 = .ok (.ireturn, 1) := by decide +kernel
theorem d4_23 : decode method_3_code 23 = .ok (.iload_n 0, 1) := by decide +kernel
theorem d4_24 : decode method_3_code 24 = .ok (.iconst 4, 1) := by decide +kernel
theorem d4_25 : decode method_3_code 25 = .ok (.if_icmp .ne 5, 3) := by decide +kernel
theorem d4_28 : decode method_3_code 28 = .ok (.iconst 1, 1) := by decide +kernel
theorem d4_29 : decode method_3_code 29 = .ok (.ireturn, 1) := by decide +kernel
theorem d4_30 : decode method_3_code 30 = .ok (.iload_n 0, 1) := by decide +kernel
theorem d4_31 : decode method_3_code 31 = .ok (.iconst 5, 1) := by decide +kernel
theorem d4_32 : decode method_3_code 32 = .ok (.if_icmp .ne 5, 3) := by decide +kernel
theorem d4_35 : decode method_3_code 35 = .ok (.iconst 5, 1) := by decide +kernel
theorem d4_36 : decode method_3_code 36 = .ok (.ireturn, 1) := by decide +kernel
theorem d4_37 : decode method_3_code 37 = .ok (.iconst 0, 1) := by decide +kernel
theorem d4_38 : decode method_3_code 38 = .ok (.ireturn, 1) := by decide +kernel
theorem ef_4 (m : MethodId) (p1 : Int32) : entryFrame m #[(.int p1)] 1 = mkF m 0 #[.val (.int p1)] [] := by first | (simp [entryFrame, mkF, argsToLocals, Value.category]; done) | rfl
def Q4 (Z : State) (p1 : Int32) (h0 : Heap) (n0 : Nat) (v : Option Value) (h : Heap) (L : List Loc) : Prop := v = some (.int (own_wire p1)) ∧ Fr n0 L ∧ h = h0
set_option maxRecDepth 65536 in
set_option maxHeartbeats 40000000 in
theorem rm4 (l : Launch) (Z : State) (a0 : Array Value) (hw : ∀ d ∈ tables_1, d.before a0 Z = true) (ws : List Jvm.Cond) (p1 : Int32) (h0 : Heap) (n0 : Nat) (Z0 : n0 ≤ h0.size) :
    MetFree l (⟨"com/example/nearfar/nearfar/FieldAllowsPinLaw", "wireOf", "(I)I"⟩ : MethodName) (head1 (Jvm.Cond.code (⟨"com/example/nearfar/nearfar/FieldAllowsPinLaw", "wireOf", "(I)I"⟩ : MethodName) method_3_code 1 (some .int) :: ws) ({ frames := 0, cells := 0, slots := 0, locals := 0 } : Room)) (fun a U => a = #[(.int p1)] ∧ Z.Warmed39 U.vm ∧ U.heap = h0) (fun _ _ _ _ _ => True) (fun _ U o U' => ∃ v L, o = .returned v ∧ Q4 Z p1 h0 n0 v U'.heap L ∧ FrameEnd U o U' L ({ frames := 0, cells := 0, slots := 0, locals := 0 } : Room).cells ({ frames := 0, cells := 0, slots := 0, locals := 0 } : Room).slots) := by
  refine MetFree.of_bodySF (plainFor_of_name pn_0) hisR ?_
  intro p e s m args below meth c s₁ Bd hml0 hP hK
  obtain ⟨rfl, hZ, hh⟩ := hP
  have hx := Bd.exec
  have hby := Bd.bytes
  have hml : c.maxLocals = 1 := hml0
  have hown : s.vm.findClass "com/example/nearfar/nearfar/FieldAllowsPinLaw" = some m.cls := findClass_of_methodNamed Bd.named
  have hnm := (name_of_methodNamed Bd.named Bd.method).1
  have hlk : meth.locks = false := BodyLoose.notSynchronized Bd
  have X0 : Stand p l e ({ frames := 0, cells := 0, slots := 0, locals := 0 } : Room) s m #[(.int p1)] below meth c s₁ [] 0 0 := Stand.of_body Bd
  have e0 : s₁.heap = h0 := by rw [← hh, Bd.state]; rfl
  have N0 := Fr.nil n0
  show OEnds p.tables e below (OGoal (Q4 Z p1 h0 n0) s 0 0) (s₁.setTop (entryFrame m #[(.int p1)] 1))
  refine OEnds.st (fun t k => castTop (ef_4 m p1) k) ?_
  generalize hG : OGoal (Q4 Z p1 h0 n0) s 0 0 = G
  have KK0 : Keep h0 h0 [] := Keep.refl h0 []
  show OEnds p.tables e below G (s₁.setTop (mkF m 0 #[.val (.int p1)] []))
  refine OEnds.st (fun _ k => XS.iloadN X0.here hx rfl (hb hby d4_0) rfl k) ?_
  show OEnds p.tables e below G (s₁.setTop (mkF m 1 #[.val (.int p1)] [(.int p1)]))
  by_cases hc1_1001 : p1 = (0 : Int32)
  · -- pc 1: yes
    refine OEnds.st (fun _ k => XS.ifYes X0.here hx rfl (pc0 := 1) (pc' := 21) rfl (hb hby d4_1) rfl ((if0 _ _).trans (teq hc1_1001).1) (by decide) (by decide) k) ?_
    show OEnds p.tables e below G (s₁.setTop (mkF m 21 #[.val (.int p1)] []))
    refine OEnds.st (fun _ k => XS.iconst X0.here hx rfl (hb hby d4_21) k) ?_
    show OEnds p.tables e below G (s₁.setTop (mkF m 22 #[.val (.int p1)] [(.int (2 : Int32))]))
    rw [← hG]
    refine OEnds.retI X0 hx hlk Bd.returns (hb hby d4_22) (by decide) (by decide) ?_
    rw [e0]
    exact ⟨by simp [own_wire, hc1_1001], N0, rfl⟩
  · -- pc 1: no
    refine OEnds.st (fun _ k => XS.ifNo X0.here hx rfl (hb hby d4_1) rfl ((if0 _ _).trans (feq hc1_1001).1) k) ?_
    show OEnds p.tables e below G (s₁.setTop (mkF m 4 #[.val (.int p1)] []))
    refine OEnds.st (fun _ k => XS.iloadN X0.here hx rfl (hb hby d4_4) rfl k) ?_
    show OEnds p.tables e below G (s₁.setTop (mkF m 5 #[.val (.int p1)] [(.int p1)]))
    refine OEnds.st (fun _ k => XS.iconst X0.here hx rfl (hb hby d4_5) k) ?_
    show OEnds p.tables e below G (s₁.setTop (mkF m 6 #[.val (.int p1)] [(.int (1 : Int32)), (.int p1)]))
    by_cases hc6_1002 : p1 = (1 : Int32)
    · -- pc 6: yes
      refine OEnds.st (fun _ k => XS.icmpYes X0.here hx rfl (pc0 := 6) (pc' := 21) rfl (hb hby d4_6) rfl (teq hc6_1002).1 (by decide) (by decide) k) ?_
      show OEnds p.tables e below G (s₁.setTop (mkF m 21 #[.val (.int p1)] []))
      refine OEnds.st (fun _ k => XS.iconst X0.here hx rfl (hb hby d4_21) k) ?_
      show OEnds p.tables e below G (s₁.setTop (mkF m 22 #[.val (.int p1)] [(.int (2 : Int32))]))
      rw [← hG]
      refine OEnds.retI X0 hx hlk Bd.returns (hb hby d4_22) (by decide) (by decide) ?_
      rw [e0]
      exact ⟨by simp [own_wire, hc1_1001, hc6_1002], N0, rfl⟩
    · -- pc 6: no
      refine OEnds.st (fun _ k => XS.icmpNo X0.here hx rfl (hb hby d4_6) rfl (feq hc6_1002).1 k) ?_
      show OEnds p.tables e below G (s₁.setTop (mkF m 9 #[.val (.int p1)] []))
      refine OEnds.st (fun _ k => XS.iloadN X0.here hx rfl (hb hby d4_9) rfl k) ?_
      show OEnds p.tables e below G (s₁.setTop (mkF m 10 #[.val (.int p1)] [(.int p1)]))
      refine OEnds.st (fun _ k => XS.bipush X0.here hx rfl (hb hby d4_10) k) ?_
      show OEnds p.tables e below G (s₁.setTop (mkF m 12 #[.val (.int p1)] [(.int (8 : Int32)), (.int p1)]))
      by_cases hc12_1003 : p1 = (8 : Int32)
      · -- pc 12: yes
        refine OEnds.st (fun _ k => XS.icmpYes X0.here hx rfl (pc0 := 12) (pc' := 21) rfl (hb hby d4_12) rfl (teq hc12_1003).1 (by decide) (by decide) k) ?_
        show OEnds p.tables e below G (s₁.setTop (mkF m 21 #[.val (.int p1)] []))
        refine OEnds.st (fun _ k => XS.iconst X0.here hx rfl (hb hby d4_21) k) ?_
        show OEnds p.tables e below G (s₁.setTop (mkF m 22 #[.val (.int p1)] [(.int (2 : Int32))]))
        rw [← hG]
        refine OEnds.retI X0 hx hlk Bd.returns (hb hby d4_22) (by decide) (by decide) ?_
        rw [e0]
        exact ⟨by simp [own_wire, hc1_1001, hc6_1002, hc12_1003], N0, rfl⟩
      · -- pc 12: no
        refine OEnds.st (fun _ k => XS.icmpNo X0.here hx rfl (hb hby d4_12) rfl (feq hc12_1003).1 k) ?_
        show OEnds p.tables e below G (s₁.setTop (mkF m 15 #[.val (.int p1)] []))
        refine OEnds.st (fun _ k => XS.iloadN X0.here hx rfl (hb hby d4_15) rfl k) ?_
        show OEnds p.tables e below G (s₁.setTop (mkF m 16 #[.val (.int p1)] [(.int p1)]))
        refine OEnds.st (fun _ k => XS.bipush X0.here hx rfl (hb hby d4_16) k) ?_
        show OEnds p.tables e below G (s₁.setTop (mkF m 18 #[.val (.int p1)] [(.int (9 : Int32)), (.int p1)]))
        by_cases hc18_1004 : p1 = (9 : Int32)
        · -- pc 18: yes
          refine OEnds.st (fun _ k => XS.icmpNo X0.here hx rfl (hb hby d4_18) rfl (teq hc18_1004).2 k) ?_
          show OEnds p.tables e below G (s₁.setTop (mkF m 21 #[.val (.int p1)] []))
          refine OEnds.st (fun _ k => XS.iconst X0.here hx rfl (hb hby d4_21) k) ?_
          show OEnds p.tables e below G (s₁.setTop (mkF m 22 #[.val (.int p1)] [(.int (2 : Int32))]))
          rw [← hG]
          refine OEnds.retI X0 hx hlk Bd.returns (hb hby d4_22) (by decide) (by decide) ?_
          rw [e0]
          exact ⟨by simp [own_wire, hc1_1001, hc6_1002, hc12_1003, hc18_1004], N0, rfl⟩
        · -- pc 18: no
          refine OEnds.st (fun _ k => XS.icmpYes X0.here hx rfl (pc0 := 18) (pc' := 23) rfl (hb hby d4_18) rfl (feq hc18_1004).2 (by decide) (by decide) k) ?_
          show OEnds p.tables e below G (s₁.setTop (mkF m 23 #[.val (.int p1)] []))
          refine OEnds.st (fun _ k => XS.iloadN X0.here hx rfl (hb hby d4_23) rfl k) ?_
          show OEnds p.tables e below G (s₁.setTop (mkF m 24 #[.val (.int p1)] [(.int p1)]))
          refine OEnds.st (fun _ k => XS.iconst X0.here hx rfl (hb hby d4_24) k) ?_
          show OEnds p.tables e below G (s₁.setTop (mkF m 25 #[.val (.int p1)] [(.int (4 : Int32)), (.int p1)]))
          by_cases hc25_1005 : p1 = (4 : Int32)
          · -- pc 25: yes
            refine OEnds.st (fun _ k => XS.icmpNo X0.here hx rfl (hb hby d4_25) rfl (teq hc25_1005).2 k) ?_
            show OEnds p.tables e below G (s₁.setTop (mkF m 28 #[.val (.int p1)] []))
            refine OEnds.st (fun _ k => XS.iconst X0.here hx rfl (hb hby d4_28) k) ?_
            show OEnds p.tables e below G (s₁.setTop (mkF m 29 #[.val (.int p1)] [(.int (1 : Int32))]))
            rw [← hG]
            refine OEnds.retI X0 hx hlk Bd.returns (hb hby d4_29) (by decide) (by decide) ?_
            rw [e0]
            exact ⟨by simp [own_wire, hc1_1001, hc6_1002, hc12_1003, hc18_1004, hc25_1005], N0, rfl⟩
          · -- pc 25: no
            refine OEnds.st (fun _ k => XS.icmpYes X0.here hx rfl (pc0 := 25) (pc' := 30) rfl (hb hby d4_25) rfl (feq hc25_1005).2 (by decide) (by decide) k) ?_
            show OEnds p.tables e below G (s₁.setTop (mkF m 30 #[.val (.int p1)] []))
            refine OEnds.st (fun _ k => XS.iloadN X0.here hx rfl (hb hby d4_30) rfl k) ?_
            show OEnds p.tables e below G (s₁.setTop (mkF m 31 #[.val (.int p1)] [(.int p1)]))
            refine OEnds.st (fun _ k => XS.iconst X0.here hx rfl (hb hby d4_31) k) ?_
            show OEnds p.tables e below G (s₁.setTop (mkF m 32 #[.val (.int p1)] [(.int (5 : Int32)), (.int p1)]))
            by_cases hc32_1006 : p1 = (5 : Int32)
            · -- pc 32: yes
              refine OEnds.st (fun _ k => XS.icmpNo X0.here hx rfl (hb hby d4_32) rfl (teq hc32_1006).2 k) ?_
              show OEnds p.tables e below G (s₁.setTop (mkF m 35 #[.val (.int p1)] []))
              refine OEnds.st (fun _ k => XS.iconst X0.here hx rfl (hb hby d4_35) k) ?_
              show OEnds p.tables e below G (s₁.setTop (mkF m 36 #[.val (.int p1)] [(.int (5 : Int32))]))
              rw [← hG]
              refine OEnds.retI X0 hx hlk Bd.returns (hb hby d4_36) (by decide) (by decide) ?_
              rw [e0]
              exact ⟨by simp [own_wire, hc1_1001, hc6_1002, hc12_1003, hc18_1004, hc25_1005, hc32_1006], N0, rfl⟩
            · -- pc 32: no
              refine OEnds.st (fun _ k => XS.icmpYes X0.here hx rfl (pc0 := 32) (pc' := 37) rfl (hb hby d4_32) rfl (feq hc32_1006).2 (by decide) (by decide) k) ?_
              show OEnds p.tables e below G (s₁.setTop (mkF m 37 #[.val (.int p1)] []))
              refine OEnds.st (fun _ k => XS.iconst X0.here hx rfl (hb hby d4_37) k) ?_
              show OEnds p.tables e below G (s₁.setTop (mkF m 38 #[.val (.int p1)] [(.int (0 : Int32))]))
              rw [← hG]
              refine OEnds.retI X0 hx hlk Bd.returns (hb hby d4_38) (by decide) (by decide) ?_
              rw [e0]
              exact ⟨by simp [own_wire, hc1_1001, hc6_1002, hc12_1003, hc18_1004, hc25_1005, hc32_1006], N0, rfl⟩
theorem d2_0 : decode prog_16_method_1_code 0 = .ok (.aload_n 0, 1) := by decide +kernel
theorem d2_1 : decode prog_16_method_1_code 1 = .ok (.invokespecial 1, 3) := by decide +kernel
theorem d2_4 : decode prog_16_method_1_code 4 = .ok (.aload_n 0, 1) := by decide +kernel
theorem d2_5 : decode prog_16_method_1_code 5 = .ok (.aload_n 1, 1) := by decide +kernel
theorem d2_6 : decode prog_16_method_1_code 6 = .ok (.putfield 7, 3) := by decide +kernel
theorem d2_9 : decode prog_16_method_1_code 9 = .ok (.aload_n 0, 1) := by decide +kernel
theorem d2_10 : decode prog_16_method_1_code 10 = .ok (.iload_n 2, 1) := by decide +kernel
theorem d2_11 : decode prog_16_method_1_code 11 = .ok (.putfield 13, 3) := by decide +kernel
theorem d2_14 : decode prog_16_method_1_code 14 = .ok (.aload_n 0, 1) := by decide +kernel
theorem d2_15 : decode prog_16_method_1_code 15 = .ok (.iload_n 3, 1) := by decide +kernel
theorem d2_16 : decode prog_16_method_1_code 16 = .ok (.putfield 17, 3) := by decide +kernel
theorem d2_19 : decode prog_16_method_1_code 19 = .ok (.aload_n 0, 1) := by decide +kernel
theorem d2_20 : decode prog_16_method_1_code 20 = .ok (.aload 4, 2) := by decide +kernel
theorem d2_22 : decode prog_16_method_1_code 22 = .ok (.putfield 21, 3) := by decide +kernel
theorem d2_25 : decode prog_16_method_1_code 25 = .ok (.aload_n 0, 1) := by decide +kernel
theorem d2_26 : decode prog_16_method_1_code 26 = .ok (.aload 5, 2) := by decide +kernel
theorem d2_28 : decode prog_16_method_1_code 28 = .ok (.putfield 25, 3) := by decide +kernel
theorem d2_31 : decode prog_16_method_1_code 31 = .ok (.aload_n 0, 1) := by decide +kernel
theorem d2_32 : decode prog_16_method_1_code 32 = .ok (.aload 6, 2) := by decide +kernel
theorem d2_34 : decode prog_16_method_1_code 34 = .ok (.putfield 28, 3) := by decide +kernel
theorem d2_37 : decode prog_16_method_1_code 37 = .ok (.return_, 1) := by decide +kernel
theorem pn_1 : plainName "com/example/nearfar/nearfar/DescriptorSet$Field" = true := by first | (simp [plainName, overriddenIn]; done) | decide +kernel
theorem ef_fi00 (m : MethodId) (a1 : Addr) (a2 : Addr) (p4 : Int32) : entryFrame m #[(.ref a1), (.ref a2), (.int (2 : Int32)), (.int p4), .null, .null, .null] 7 = mkF m 0 #[.val (.ref a1), .val (.ref a2), .val (.int (2 : Int32)), .val (.int p4), .val .null, .val .null, .val .null] [] := by first | (simp [entryFrame, mkF, argsToLocals, Value.category]; done) | rfl
def Qfi00 (Z : State) (a1 : Addr) (a2 : Addr) (p4 : Int32) (h0 : Heap) (n0 : Nat) (v : Option Value) (h : Heap) (L : List Loc) : Prop := v = none ∧ Fr n0 L ∧ Keep h0 h [a1] ∧ Exa Z h a1 "com/example/nearfar/nearfar/DescriptorSet$Field" ∧ Fld Z h a1 "com/example/nearfar/nearfar/DescriptorSet$Field" "name" "Ljava/lang/String;" (.ref a2) ∧ Fld Z h a1 "com/example/nearfar/nearfar/DescriptorSet$Field" "number" "I" (.int (2 : Int32)) ∧ Fld Z h a1 "com/example/nearfar/nearfar/DescriptorSet$Field" "repeated" "Z" (.int p4) ∧ Fld Z h a1 "com/example/nearfar/nearfar/DescriptorSet$Field" "stored" "Lcom/example/nearfar/nearfar/StoredType;" .null ∧ Fld Z h a1 "com/example/nearfar/nearfar/DescriptorSet$Field" "messageType" "Ljava/lang/String;" .null ∧ Fld Z h a1 "com/example/nearfar/nearfar/DescriptorSet$Field" "enumType" "Ljava/lang/String;" .null
set_option maxRecDepth 65536 in
set_option maxHeartbeats 40000000 in
theorem rmfi00 (l : Launch) (Z : State) (a0 : Array Value) (hw : ∀ d ∈ tables_1, d.before a0 Z = true) (ws : List Jvm.Cond) (a1 : Addr) (a2 : Addr) (p4 : Int32) (h0 : Heap) (n0 : Nat) (Z0 : n0 ≤ h0.size) (E : Exa Z h0 a1 "com/example/nearfar/nearfar/DescriptorSet$Field") (Fname : Fld Z h0 a1 "com/example/nearfar/nearfar/DescriptorSet$Field" "name" "Ljava/lang/String;" .null) (Fnumber : Fld Z h0 a1 "com/example/nearfar/nearfar/DescriptorSet$Field" "number" "I" (.int (0 : Int32))) (Frepeated : Fld Z h0 a1 "com/example/nearfar/nearfar/DescriptorSet$Field" "repeated" "Z" (.int (0 : Int32))) (Fstored : Fld Z h0 a1 "com/example/nearfar/nearfar/DescriptorSet$Field" "stored" "Lcom/example/nearfar/nearfar/StoredType;" .null) (FmessageType : Fld Z h0 a1 "com/example/nearfar/nearfar/DescriptorSet$Field" "messageType" "Ljava/lang/String;" .null) (FenumType : Fld Z h0 a1 "com/example/nearfar/nearfar/DescriptorSet$Field" "enumType" "Ljava/lang/String;" .null) (g_a1 : n0 ≤ a1) (hp4 : p4 = (0 : Int32) ∨ p4 = (1 : Int32)) :
    MetFree l (⟨"com/example/nearfar/nearfar/DescriptorSet$Field", "<init>", "(Ljava/lang/String;IZLcom/example/nearfar/nearfar/StoredType;Ljava/lang/String;Ljava/lang/String;)V"⟩ : MethodName) (head1 (Jvm.Cond.code (⟨"com/example/nearfar/nearfar/DescriptorSet$Field", "<init>", "(Ljava/lang/String;IZLcom/example/nearfar/nearfar/StoredType;Ljava/lang/String;Ljava/lang/String;)V"⟩ : MethodName) prog_16_method_1_code 7 none :: ws) ({ frames := 1, cells := 0, slots := 0, locals := 12 } : Room)) (fun a U => a = #[(.ref a1), (.ref a2), (.int (2 : Int32)), (.int p4), .null, .null, .null] ∧ Z.Warmed39 U.vm ∧ U.heap = h0) (fun _ _ _ _ _ => True) (fun _ U o U' => ∃ v L, o = .returned v ∧ Qfi00 Z a1 a2 p4 h0 n0 v U'.heap L ∧ FrameEnd U o U' L ({ frames := 1, cells := 0, slots := 0, locals := 12 } : Room).cells ({ frames := 1, cells := 0, slots := 0, locals := 12 } : Room).slots) := by
  refine MetFree.of_bodySF (plainFor_of_name pn_1) hisR ?_
  intro p e s m args below meth c s₁ Bd hml0 hP hK
  obtain ⟨rfl, hZ, hh⟩ := hP
  have hx := Bd.exec
  have hby := Bd.bytes
  have hml : c.maxLocals = 7 := hml0
  have hown : s.vm.findClass "com/example/nearfar/nearfar/DescriptorSet$Field" = some m.cls := findClass_of_methodNamed Bd.named
  have hnm := (name_of_methodNamed Bd.named Bd.method).1
  have hlk : meth.locks = false := BodyLoose.notSynchronized Bd
  have X0 : Stand p l e ({ frames := 1, cells := 0, slots := 0, locals := 12 } : Room) s m #[(.ref a1), (.ref a2), (.int (2 : Int32)), (.int p4), .null, .null, .null] below meth c s₁ [] 0 0 := Stand.of_body Bd
  have e0 : s₁.heap = h0 := by rw [← hh, Bd.state]; rfl
  have N0 := Fr.nil n0
  show OEnds p.tables e below (OGoal (Qfi00 Z a1 a2 p4 h0 n0) s 0 0) (s₁.setTop (entryFrame m #[(.ref a1), (.ref a2), (.int (2 : Int32)), (.int p4), .null, .null, .null] 7))
  refine OEnds.st (fun t k => castTop (ef_fi00 m a1 a2 p4) k) ?_
  generalize hG : OGoal (Qfi00 Z a1 a2 p4 h0 n0) s 0 0 = G
  have KK0 : Keep h0 h0 [a1] := Keep.refl h0 [a1]
  show OEnds p.tables e below G (s₁.setTop (mkF m 0 #[.val (.ref a1), .val (.ref a2), .val (.int (2 : Int32)), .val (.int p4), .val .null, .val .null, .val .null] []))
  refine OEnds.st (fun _ k => XS.aloadN X0.here hx rfl (hb hby d2_0) rfl rfl k) ?_
  show OEnds p.tables e below G (s₁.setTop (mkF m 1 #[.val (.ref a1), .val (.ref a2), .val (.int (2 : Int32)), .val (.int p4), .val .null, .val .null, .val .null] [(.ref a1)]))
  obtain ⟨T1001, X1001, e1001, st1001⟩ := initO X0 hx hZ hown (hw _ (List.mem_of_getElem? (i := 23) rfl)) (hw _ (List.mem_of_getElem? (i := 24) rfl)) (hw _ (List.mem_of_getElem? (i := 25) rfl)) e0 (g := (mkF m 1 #[.val (.ref a1), .val (.ref a2), .val (.int (2 : Int32)), .val (.int p4), .val .null, .val .null, .val .null] [(.ref a1)])) rfl (by rw [hml]; rfl) rfl (hb hby d2_1) (by decide) (W := 0) (by show 2 * 0 + _ ≤ _; exact Nat.le_of_eq rfl) (by decide)
  refine OEnds.st st1001 ?_
  show OEnds p.tables e below G (T1001.setTop (mkF m 4 #[.val (.ref a1), .val (.ref a2), .val (.int (2 : Int32)), .val (.int p4), .val .null, .val .null, .val .null] []))
  refine OEnds.st (fun _ k => XS.aloadN X1001.here hx rfl (hb hby d2_4) rfl rfl k) ?_
  show OEnds p.tables e below G (T1001.setTop (mkF m 5 #[.val (.ref a1), .val (.ref a2), .val (.int (2 : Int32)), .val (.int p4), .val .null, .val .null, .val .null] [(.ref a1)]))
  refine OEnds.st (fun _ k => XS.aloadN X1001.here hx rfl (hb hby d2_5) rfl rfl k) ?_
  show OEnds p.tables e below G (T1001.setTop (mkF m 6 #[.val (.ref a1), .val (.ref a2), .val (.int (2 : Int32)), .val (.int p4), .val .null, .val .null, .val .null] [(.ref a2), (.ref a1)]))
  obtain ⟨T1002, h1002, X1002, e1002, W1002, st1002⟩ := putF X1001 hx hZ hown (host := "") (Or.inl (hw _ (List.mem_of_getElem? (i := 26) rfl))) Via.refl e1001 Fname E (Or.inr ⟨(hw _ (List.mem_of_getElem? (i := 27) rfl)), rfl, hnm⟩) (hw _ (List.mem_of_getElem? (i := 17) rfl)) (ty := (.object "java/lang/String")) (by decide) rfl rfl (g := (mkF m 6 #[.val (.ref a1), .val (.ref a2), .val (.int (2 : Int32)), .val (.int p4), .val .null, .val .null, .val .null] [(.ref a2), (.ref a1)])) rfl rfl (hb hby d2_6)
  refine OEnds.st st1002 ?_
  have f1003 : Fld Z h1002 a1 "com/example/nearfar/nearfar/DescriptorSet$Field" "name" "Ljava/lang/String;" (.ref a2) := Fname.same W1002
  have f1004 : Exa Z h1002 a1 "com/example/nearfar/nearfar/DescriptorSet$Field" := E.wr W1002
  have f1006 : Fld Z h1002 a1 "com/example/nearfar/nearfar/DescriptorSet$Field" "number" "I" (.int (0 : Int32)) := Fnumber.other W1002 (Or.inr (slot_ne (Or.inr (hw _ (List.mem_of_getElem? (i := 29) rfl))) (Or.inr (hw _ (List.mem_of_getElem? (i := 27) rfl))) (by decide) (t := .int) (t' := (.object "java/lang/String")) (by decide) (by decide)))
  have f1007 : Fld Z h1002 a1 "com/example/nearfar/nearfar/DescriptorSet$Field" "repeated" "Z" (.int (0 : Int32)) := Frepeated.other W1002 (Or.inr (slot_ne (Or.inr (hw _ (List.mem_of_getElem? (i := 31) rfl))) (Or.inr (hw _ (List.mem_of_getElem? (i := 27) rfl))) (by decide) (t := .boolean) (t' := (.object "java/lang/String")) (by decide) (by decide)))
  have f1008 : Fld Z h1002 a1 "com/example/nearfar/nearfar/DescriptorSet$Field" "stored" "Lcom/example/nearfar/nearfar/StoredType;" .null := Fstored.other W1002 (Or.inr (slot_ne (Or.inr (hw _ (List.mem_of_getElem? (i := 33) rfl))) (Or.inr (hw _ (List.mem_of_getElem? (i := 27) rfl))) (by decide) (t := (.object "com/example/nearfar/nearfar/StoredType")) (t' := (.object "java/lang/String")) (by decide) (by decide)))
  have f1009 : Fld Z h1002 a1 "com/example/nearfar/nearfar/DescriptorSet$Field" "messageType" "Ljava/lang/String;" .null := FmessageType.other W1002 (Or.inr (slot_ne (Or.inr (hw _ (List.mem_of_getElem? (i := 35) rfl))) (Or.inr (hw _ (List.mem_of_getElem? (i := 27) rfl))) (by decide) (t := (.object "java/lang/String")) (t' := (.object "java/lang/String")) (by decide) (by decide)))
  have f1010 : Fld Z h1002 a1 "com/example/nearfar/nearfar/DescriptorSet$Field" "enumType" "Ljava/lang/String;" .null := FenumType.other W1002 (Or.inr (slot_ne (Or.inr (hw _ (List.mem_of_getElem? (i := 37) rfl))) (Or.inr (hw _ (List.mem_of_getElem? (i := 27) rfl))) (by decide) (t := (.object "java/lang/String")) (t' := (.object "java/lang/String")) (by decide) (by decide)))
  have N1002 := Fr.snoc X1002 N0 g_a1
  have KK1002 : Keep h0 h1002 [a1] := KK0.wr W1002 (Or.inl (List.mem_of_getElem? (i := 0) rfl))
  have Z1002 := Nat.le_trans Z0 (Keep.of_wr W1002).1
  show OEnds p.tables e below G (T1002.setTop (mkF m 9 #[.val (.ref a1), .val (.ref a2), .val (.int (2 : Int32)), .val (.int p4), .val .null, .val .null, .val .null] []))
  refine OEnds.st (fun _ k => XS.aloadN X1002.here hx rfl (hb hby d2_9) rfl rfl k) ?_
  show OEnds p.tables e below G (T1002.setTop (mkF m 10 #[.val (.ref a1), .val (.ref a2), .val (.int (2 : Int32)), .val (.int p4), .val .null, .val .null, .val .null] [(.ref a1)]))
  refine OEnds.st (fun _ k => XS.iloadN X1002.here hx rfl (hb hby d2_10) rfl k) ?_
  show OEnds p.tables e below G (T1002.setTop (mkF m 11 #[.val (.ref a1), .val (.ref a2), .val (.int (2 : Int32)), .val (.int p4), .val .null, .val .null, .val .null] [(.int (2 : Int32)), (.ref a1)]))
  obtain ⟨T1011, h1011, X1011, e1011, W1011, st1011⟩ := putF X1002 hx hZ hown (host := "") (Or.inl (hw _ (List.mem_of_getElem? (i := 28) rfl))) Via.refl e1002 f1006 f1004 (Or.inr ⟨(hw _ (List.mem_of_getElem? (i := 29) rfl)), rfl, hnm⟩) (hw _ (List.mem_of_getElem? (i := 17) rfl)) (ty := .int) (by decide) rfl rfl (g := (mkF m 11 #[.val (.ref a1), .val (.ref a2), .val (.int (2 : Int32)), .val (.int p4), .val .null, .val .null, .val .null] [(.int (2 : Int32)), (.ref a1)])) rfl rfl (hb hby d2_11)
  refine OEnds.st st1011 ?_
  have f1012 : Fld Z h1011 a1 "com/example/nearfar/nearfar/DescriptorSet$Field" "number" "I" (.int (2 : Int32)) := f1006.same W1011
  have f1013 : Exa Z h1011 a1 "com/example/nearfar/nearfar/DescriptorSet$Field" := f1004.wr W1011
  have f1015 : Fld Z h1011 a1 "com/example/nearfar/nearfar/DescriptorSet$Field" "repeated" "Z" (.int (0 : Int32)) := f1007.other W1011 (Or.inr (slot_ne (Or.inr (hw _ (List.mem_of_getElem? (i := 31) rfl))) (Or.inr (hw _ (List.mem_of_getElem? (i := 29) rfl))) (by decide) (t := .boolean) (t' := .int) (by decide) (by decide)))
  have f1016 : Fld Z h1011 a1 "com/example/nearfar/nearfar/DescriptorSet$Field" "stored" "Lcom/example/nearfar/nearfar/StoredType;" .null := f1008.other W1011 (Or.inr (slot_ne (Or.inr (hw _ (List.mem_of_getElem? (i := 33) rfl))) (Or.inr (hw _ (List.mem_of_getElem? (i := 29) rfl))) (by decide) (t := (.object "com/example/nearfar/nearfar/StoredType")) (t' := .int) (by decide) (by decide)))
  have f1017 : Fld Z h1011 a1 "com/example/nearfar/nearfar/DescriptorSet$Field" "messageType" "Ljava/lang/String;" .null := f1009.other W1011 (Or.inr (slot_ne (Or.inr (hw _ (List.mem_of_getElem? (i := 35) rfl))) (Or.inr (hw _ (List.mem_of_getElem? (i := 29) rfl))) (by decide) (t := (.object "java/lang/String")) (t' := .int) (by decide) (by decide)))
  have f1018 : Fld Z h1011 a1 "com/example/nearfar/nearfar/DescriptorSet$Field" "enumType" "Ljava/lang/String;" .null := f1010.other W1011 (Or.inr (slot_ne (Or.inr (hw _ (List.mem_of_getElem? (i := 37) rfl))) (Or.inr (hw _ (List.mem_of_getElem? (i := 29) rfl))) (by decide) (t := (.object "java/lang/String")) (t' := .int) (by decide) (by decide)))
  have f1019 : Fld Z h1011 a1 "com/example/nearfar/nearfar/DescriptorSet$Field" "name" "Ljava/lang/String;" (.ref a2) := f1003.other W1011 (Or.inr (slot_ne (Or.inr (hw _ (List.mem_of_getElem? (i := 27) rfl))) (Or.inr (hw _ (List.mem_of_getElem? (i := 29) rfl))) (by decide) (t := (.object "java/lang/String")) (t' := .int) (by decide) (by decide)))
  have N1011 := Fr.snoc X1011 N1002 g_a1
  have KK1011 : Keep h0 h1011 [a1] := KK1002.wr W1011 (Or.inl (List.mem_of_getElem? (i := 0) rfl))
  have Z1011 := Nat.le_trans Z1002 (Keep.of_wr W1011).1
  show OEnds p.tables e below G (T1011.setTop (mkF m 14 #[.val (.ref a1), .val (.ref a2), .val (.int (2 : Int32)), .val (.int p4), .val .null, .val .null, .val .null] []))
  refine OEnds.st (fun _ k => XS.aloadN X1011.here hx rfl (hb hby d2_14) rfl rfl k) ?_
  show OEnds p.tables e below G (T1011.setTop (mkF m 15 #[.val (.ref a1), .val (.ref a2), .val (.int (2 : Int32)), .val (.int p4), .val .null, .val .null, .val .null] [(.ref a1)]))
  refine OEnds.st (fun _ k => XS.iloadN X1011.here hx rfl (hb hby d2_15) rfl k) ?_
  show OEnds p.tables e below G (T1011.setTop (mkF m 16 #[.val (.ref a1), .val (.ref a2), .val (.int (2 : Int32)), .val (.int p4), .val .null, .val .null, .val .null] [(.int p4), (.ref a1)]))
  obtain ⟨T1020, h1020, X1020, e1020, W1020, st1020⟩ := putFN X1011 hx hZ hown (hw _ (List.mem_of_getElem? (i := 30) rfl)) Via.refl e1011 f1015 f1013 (Or.inr ⟨(hw _ (List.mem_of_getElem? (i := 31) rfl)), rfl, hnm⟩) (hw _ (List.mem_of_getElem? (i := 17) rfl)) (ty := .boolean) (v' := (.int p4)) (by decide) (by rcases hp4 with rfl | rfl <;> rfl) (by rcases hp4 with rfl | rfl <;> decide) (g := (mkF m 16 #[.val (.ref a1), .val (.ref a2), .val (.int (2 : Int32)), .val (.int p4), .val .null, .val .null, .val .null] [(.int p4), (.ref a1)])) rfl rfl (hb hby d2_16)
  refine OEnds.st st1020 ?_
  have f1021 : Fld Z h1020 a1 "com/example/nearfar/nearfar/DescriptorSet$Field" "repeated" "Z" (.int p4) := f1015.same W1020
  have f1022 : Exa Z h1020 a1 "com/example/nearfar/nearfar/DescriptorSet$Field" := f1013.wr W1020
  have f1024 : Fld Z h1020 a1 "com/example/nearfar/nearfar/DescriptorSet$Field" "stored" "Lcom/example/nearfar/nearfar/StoredType;" .null := f1016.other W1020 (Or.inr (slot_ne (Or.inr (hw _ (List.mem_of_getElem? (i := 33) rfl))) (Or.inr (hw _ (List.mem_of_getElem? (i := 31) rfl))) (by decide) (t := (.object "com/example/nearfar/nearfar/StoredType")) (t' := .boolean) (by decide) (by decide)))
  have f1025 : Fld Z h1020 a1 "com/example/nearfar/nearfar/DescriptorSet$Field" "messageType" "Ljava/lang/String;" .null := f1017.other W1020 (Or.inr (slot_ne (Or.inr (hw _ (List.mem_of_getElem? (i := 35) rfl))) (Or.inr (hw _ (List.mem_of_getElem? (i := 31) rfl))) (by decide) (t := (.object "java/lang/String")) (t' := .boolean) (by decide) (by decide)))
  have f1026 : Fld Z h1020 a1 "com/example/nearfar/nearfar/DescriptorSet$Field" "enumType" "Ljava/lang/String;" .null := f1018.other W1020 (Or.inr (slot_ne (Or.inr (hw _ (List.mem_of_getElem? (i := 37) rfl))) (Or.inr (hw _ (List.mem_of_getElem? (i := 31) rfl))) (by decide) (t := (.object "java/lang/String")) (t' := .boolean) (by decide) (by decide)))
  have f1027 : Fld Z h1020 a1 "com/example/nearfar/nearfar/DescriptorSet$Field" "name" "Ljava/lang/String;" (.ref a2) := f1019.other W1020 (Or.inr (slot_ne (Or.inr (hw _ (List.mem_of_getElem? (i := 27) rfl))) (Or.inr (hw _ (List.mem_of_getElem? (i := 31) rfl))) (by decide) (t := (.object "java/lang/String")) (t' := .boolean) (by decide) (by decide)))
  have f1028 : Fld Z h1020 a1 "com/example/nearfar/nearfar/DescriptorSet$Field" "number" "I" (.int (2 : Int32)) := f1012.other W1020 (Or.inr (slot_ne (Or.inr (hw _ (List.mem_of_getElem? (i := 29) rfl))) (Or.inr (hw _ (List.mem_of_getElem? (i := 31) rfl))) (by decide) (t := .int) (t' := .boolean) (by decide) (by decide)))
  have N1020 := Fr.snoc X1020 N1011 g_a1
  have KK1020 : Keep h0 h1020 [a1] := KK1011.wr W1020 (Or.inl (List.mem_of_getElem? (i := 0) rfl))
  have Z1020 := Nat.le_trans Z1011 (Keep.of_wr W1020).1
  show OEnds p.tables e below G (T1020.setTop (mkF m 19 #[.val (.ref a1), .val (.ref a2), .val (.int (2 : Int32)), .val (.int p4), .val .null, .val .null, .val .null] []))
  refine OEnds.st (fun _ k => XS.aloadN X1020.here hx rfl (hb hby d2_19) rfl rfl k) ?_
  show OEnds p.tables e below G (T1020.setTop (mkF m 20 #[.val (.ref a1), .val (.ref a2), .val (.int (2 : Int32)), .val (.int p4), .val .null, .val .null, .val .null] [(.ref a1)]))
  refine OEnds.st (fun _ k => XS.aload X1020.here hx rfl (hb hby d2_20) rfl rfl k) ?_
  show OEnds p.tables e below G (T1020.setTop (mkF m 22 #[.val (.ref a1), .val (.ref a2), .val (.int (2 : Int32)), .val (.int p4), .val .null, .val .null, .val .null] [.null, (.ref a1)]))
  obtain ⟨T1029, h1029, X1029, e1029, W1029, st1029⟩ := putF X1020 hx hZ hown (host := "") (Or.inl (hw _ (List.mem_of_getElem? (i := 32) rfl))) Via.refl e1020 f1024 f1022 (Or.inr ⟨(hw _ (List.mem_of_getElem? (i := 33) rfl)), rfl, hnm⟩) (hw _ (List.mem_of_getElem? (i := 17) rfl)) (ty := (.object "com/example/nearfar/nearfar/StoredType")) (by decide) rfl rfl (g := (mkF m 22 #[.val (.ref a1), .val (.ref a2), .val (.int (2 : Int32)), .val (.int p4), .val .null, .val .null, .val .null] [.null, (.ref a1)])) rfl rfl (hb hby d2_22)
  refine OEnds.st st1029 ?_
  have f1030 : Fld Z h1029 a1 "com/example/nearfar/nearfar/DescriptorSet$Field" "stored" "Lcom/example/nearfar/nearfar/StoredType;" .null := f1024.same W1029
  have f1031 : Exa Z h1029 a1 "com/example/nearfar/nearfar/DescriptorSet$Field" := f1022.wr W1029
  have f1033 : Fld Z h1029 a1 "com/example/nearfar/nearfar/DescriptorSet$Field" "messageType" "Ljava/lang/String;" .null := f1025.other W1029 (Or.inr (slot_ne (Or.inr (hw _ (List.mem_of_getElem? (i := 35) rfl))) (Or.inr (hw _ (List.mem_of_getElem? (i := 33) rfl))) (by decide) (t := (.object "java/lang/String")) (t' := (.object "com/example/nearfar/nearfar/StoredType")) (by decide) (by decide)))
  have f1034 : Fld Z h1029 a1 "com/example/nearfar/nearfar/DescriptorSet$Field" "enumType" "Ljava/lang/String;" .null := f1026.other W1029 (Or.inr (slot_ne (Or.inr (hw _ (List.mem_of_getElem? (i := 37) rfl))) (Or.inr (hw _ (List.mem_of_getElem? (i := 33) rfl))) (by decide) (t := (.object "java/lang/String")) (t' := (.object "com/example/nearfar/nearfar/StoredType")) (by decide) (by decide)))
  have f1035 : Fld Z h1029 a1 "com/example/nearfar/nearfar/DescriptorSet$Field" "name" "Ljava/lang/String;" (.ref a2) := f1027.other W1029 (Or.inr (slot_ne (Or.inr (hw _ (List.mem_of_getElem? (i := 27) rfl))) (Or.inr (hw _ (List.mem_of_getElem? (i := 33) rfl))) (by decide) (t := (.object "java/lang/String")) (t' := (.object "com/example/nearfar/nearfar/StoredType")) (by decide) (by decide)))
  have f1036 : Fld Z h1029 a1 "com/example/nearfar/nearfar/DescriptorSet$Field" "number" "I" (.int (2 : Int32)) := f1028.other W1029 (Or.inr (slot_ne (Or.inr (hw _ (List.mem_of_getElem? (i := 29) rfl))) (Or.inr (hw _ (List.mem_of_getElem? (i := 33) rfl))) (by decide) (t := .int) (t' := (.object "com/example/nearfar/nearfar/StoredType")) (by decide) (by decide)))
  have f1037 : Fld Z h1029 a1 "com/example/nearfar/nearfar/DescriptorSet$Field" "repeated" "Z" (.int p4) := f1021.other W1029 (Or.inr (slot_ne (Or.inr (hw _ (List.mem_of_getElem? (i := 31) rfl))) (Or.inr (hw _ (List.mem_of_getElem? (i := 33) rfl))) (by decide) (t := .boolean) (t' := (.object "com/example/nearfar/nearfar/StoredType")) (by decide) (by decide)))
  have N1029 := Fr.snoc X1029 N1020 g_a1
  have KK1029 : Keep h0 h1029 [a1] := KK1020.wr W1029 (Or.inl (List.mem_of_getElem? (i := 0) rfl))
  have Z1029 := Nat.le_trans Z1020 (Keep.of_wr W1029).1
  show OEnds p.tables e below G (T1029.setTop (mkF m 25 #[.val (.ref a1), .val (.ref a2), .val (.int (2 : Int32)), .val (.int p4), .val .null, .val .null, .val .null] []))
  refine OEnds.st (fun _ k => XS.aloadN X1029.here hx rfl (hb hby d2_25) rfl rfl k) ?_
  show OEnds p.tables e below G (T1029.setTop (mkF m 26 #[.val (.ref a1), .val (.ref a2), .val (.int (2 : Int32)), .val (.int p4), .val .null, .val .null, .val .null] [(.ref a1)]))
  refine OEnds.st (fun _ k => XS.aload X1029.here hx rfl (hb hby d2_26) rfl rfl k) ?_
  show OEnds p.tables e below G (T1029.setTop (mkF m 28 #[.val (.ref a1), .val (.ref a2), .val (.int (2 : Int32)), .val (.int p4), .val .null, .val .null, .val .null] [.null, (.ref a1)]))
  obtain ⟨T1038, h1038, X1038, e1038, W1038, st1038⟩ := putF X1029 hx hZ hown (host := "") (Or.inl (hw _ (List.mem_of_getElem? (i := 34) rfl))) Via.refl e1029 f1033 f1031 (Or.inr ⟨(hw _ (List.mem_of_getElem? (i := 35) rfl)), rfl, hnm⟩) (hw _ (List.mem_of_getElem? (i := 17) rfl)) (ty := (.object "java/lang/String")) (by decide) rfl rfl (g := (mkF m 28 #[.val (.ref a1), .val (.ref a2), .val (.int (2 : Int32)), .val (.int p4), .val .null, .val .null, .val .null] [.null, (.ref a1)])) rfl rfl (hb hby d2_28)
  refine OEnds.st st1038 ?_
  have f1039 : Fld Z h1038 a1 "com/example/nearfar/nearfar/DescriptorSet$Field" "messageType" "Ljava/lang/String;" .null := f1033.same W1038
  have f1040 : Exa Z h1038 a1 "com/example/nearfar/nearfar/DescriptorSet$Field" := f1031.wr W1038
  have f1042 : Fld Z h1038 a1 "com/example/nearfar/nearfar/DescriptorSet$Field" "enumType" "Ljava/lang/String;" .null := f1034.other W1038 (Or.inr (slot_ne (Or.inr (hw _ (List.mem_of_getElem? (i := 37) rfl))) (Or.inr (hw _ (List.mem_of_getElem? (i := 35) rfl))) (by decide) (t := (.object "java/lang/String")) (t' := (.object "java/lang/String")) (by decide) (by decide)))
  have f1043 : Fld Z h1038 a1 "com/example/nearfar/nearfar/DescriptorSet$Field" "name" "Ljava/lang/String;" (.ref a2) := f1035.other W1038 (Or.inr (slot_ne (Or.inr (hw _ (List.mem_of_getElem? (i := 27) rfl))) (Or.inr (hw _ (List.mem_of_getElem? (i := 35) rfl))) (by decide) (t := (.object "java/lang/String")) (t' := (.object "java/lang/String")) (by decide) (by decide)))
  have f1044 : Fld Z h1038 a1 "com/example/nearfar/nearfar/DescriptorSet$Field" "number" "I" (.int (2 : Int32)) := f1036.other W1038 (Or.inr (slot_ne (Or.inr (hw _ (List.mem_of_getElem? (i := 29) rfl))) (Or.inr (hw _ (List.mem_of_getElem? (i := 35) rfl))) (by decide) (t := .int) (t' := (.object "java/lang/String")) (by decide) (by decide)))
  have f1045 : Fld Z h1038 a1 "com/example/nearfar/nearfar/DescriptorSet$Field" "repeated" "Z" (.int p4) := f1037.other W1038 (Or.inr (slot_ne (Or.inr (hw _ (List.mem_of_getElem? (i := 31) rfl))) (Or.inr (hw _ (List.mem_of_getElem? (i := 35) rfl))) (by decide) (t := .boolean) (t' := (.object "java/lang/String")) (by decide) (by decide)))
  have f1046 : Fld Z h1038 a1 "com/example/nearfar/nearfar/DescriptorSet$Field" "stored" "Lcom/example/nearfar/nearfar/StoredType;" .null := f1030.other W1038 (Or.inr (slot_ne (Or.inr (hw _ (List.mem_of_getElem? (i := 33) rfl))) (Or.inr (hw _ (List.mem_of_getElem? (i := 35) rfl))) (by decide) (t := (.object "com/example/nearfar/nearfar/StoredType")) (t' := (.object "java/lang/String")) (by decide) (by decide)))
  have N1038 := Fr.snoc X1038 N1029 g_a1
  have KK1038 : Keep h0 h1038 [a1] := KK1029.wr W1038 (Or.inl (List.mem_of_getElem? (i := 0) rfl))
  have Z1038 := Nat.le_trans Z1029 (Keep.of_wr W1038).1
  show OEnds p.tables e below G (T1038.setTop (mkF m 31 #[.val (.ref a1), .val (.ref a2), .val (.int (2 : Int32)), .val (.int p4), .val .null, .val .null, .val .null] []))
  refine OEnds.st (fun _ k => XS.aloadN X1038.here hx rfl (hb hby d2_31) rfl rfl k) ?_
  show OEnds p.tables e below G (T1038.setTop (mkF m 32 #[.val (.ref a1), .val (.ref a2), .val (.int (2 : Int32)), .val (.int p4), .val .null, .val .null, .val .null] [(.ref a1)]))
  refine OEnds.st (fun _ k => XS.aload X1038.here hx rfl (hb hby d2_32) rfl rfl k) ?_
  show OEnds p.tables e below G (T1038.setTop (mkF m 34 #[.val (.ref a1), .val (.ref a2), .val (.int (2 : Int32)), .val (.int p4), .val .null, .val .null, .val .null] [.null, (.ref a1)]))
  obtain ⟨T1047, h1047, X1047, e1047, W1047, st1047⟩ := putF X1038 hx hZ hown (host := "") (Or.inl (hw _ (List.mem_of_getElem? (i := 36) rfl))) Via.refl e1038 f1042 f1040 (Or.inr ⟨(hw _ (List.mem_of_getElem? (i := 37) rfl)), rfl, hnm⟩) (hw _ (List.mem_of_getElem? (i := 17) rfl)) (ty := (.object "java/lang/String")) (by decide) rfl rfl (g := (mkF m 34 #[.val (.ref a1), .val (.ref a2), .val (.int (2 : Int32)), .val (.int p4), .val .null, .val .null, .val .null] [.null, (.ref a1)])) rfl rfl (hb hby d2_34)
  refine OEnds.st st1047 ?_
  have f1048 : Fld Z h1047 a1 "com/example/nearfar/nearfar/DescriptorSet$Field" "enumType" "Ljava/lang/String;" .null := f1042.same W1047
  have f1049 : Exa Z h1047 a1 "com/example/nearfar/nearfar/DescriptorSet$Field" := f1040.wr W1047
  have f1051 : Fld Z h1047 a1 "com/example/nearfar/nearfar/DescriptorSet$Field" "name" "Ljava/lang/String;" (.ref a2) := f1043.other W1047 (Or.inr (slot_ne (Or.inr (hw _ (List.mem_of_getElem? (i := 27) rfl))) (Or.inr (hw _ (List.mem_of_getElem? (i := 37) rfl))) (by decide) (t := (.object "java/lang/String")) (t' := (.object "java/lang/String")) (by decide) (by decide)))
  have f1052 : Fld Z h1047 a1 "com/example/nearfar/nearfar/DescriptorSet$Field" "number" "I" (.int (2 : Int32)) := f1044.other W1047 (Or.inr (slot_ne (Or.inr (hw _ (List.mem_of_getElem? (i := 29) rfl))) (Or.inr (hw _ (List.mem_of_getElem? (i := 37) rfl))) (by decide) (t := .int) (t' := (.object "java/lang/String")) (by decide) (by decide)))
  have f1053 : Fld Z h1047 a1 "com/example/nearfar/nearfar/DescriptorSet$Field" "repeated" "Z" (.int p4) := f1045.other W1047 (Or.inr (slot_ne (Or.inr (hw _ (List.mem_of_getElem? (i := 31) rfl))) (Or.inr (hw _ (List.mem_of_getElem? (i := 37) rfl))) (by decide) (t := .boolean) (t' := (.object "java/lang/String")) (by decide) (by decide)))
  have f1054 : Fld Z h1047 a1 "com/example/nearfar/nearfar/DescriptorSet$Field" "stored" "Lcom/example/nearfar/nearfar/StoredType;" .null := f1046.other W1047 (Or.inr (slot_ne (Or.inr (hw _ (List.mem_of_getElem? (i := 33) rfl))) (Or.inr (hw _ (List.mem_of_getElem? (i := 37) rfl))) (by decide) (t := (.object "com/example/nearfar/nearfar/StoredType")) (t' := (.object "java/lang/String")) (by decide) (by decide)))
  have f1055 : Fld Z h1047 a1 "com/example/nearfar/nearfar/DescriptorSet$Field" "messageType" "Ljava/lang/String;" .null := f1039.other W1047 (Or.inr (slot_ne (Or.inr (hw _ (List.mem_of_getElem? (i := 35) rfl))) (Or.inr (hw _ (List.mem_of_getElem? (i := 37) rfl))) (by decide) (t := (.object "java/lang/String")) (t' := (.object "java/lang/String")) (by decide) (by decide)))
  have N1047 := Fr.snoc X1047 N1038 g_a1
  have KK1047 : Keep h0 h1047 [a1] := KK1038.wr W1047 (Or.inl (List.mem_of_getElem? (i := 0) rfl))
  have Z1047 := Nat.le_trans Z1038 (Keep.of_wr W1047).1
  show OEnds p.tables e below G (T1047.setTop (mkF m 37 #[.val (.ref a1), .val (.ref a2), .val (.int (2 : Int32)), .val (.int p4), .val .null, .val .null, .val .null] []))
  rw [← hG]
  refine OEnds.retV X1047 hx hlk Bd.returns (hb hby d2_37) (by decide) (by decide) ?_
  rw [e1047]
  exact ⟨rfl, N1047, KK1047, f1049, f1051, f1052, f1053, f1054, f1055, f1048⟩
theorem ef_fi01 (m : MethodId) (a1 : Addr) (a2 : Addr) (p4 : Int32) (a6 : Addr) : entryFrame m #[(.ref a1), (.ref a2), (.int (2 : Int32)), (.int p4), .null, (.ref a6), .null] 7 = mkF m 0 #[.val (.ref a1), .val (.ref a2), .val (.int (2 : Int32)), .val (.int p4), .val .null, .val (.ref a6), .val .null] [] := by first | (simp [entryFrame, mkF, argsToLocals, Value.category]; done) | rfl
def Qfi01 (Z : State) (a1 : Addr) (a2 : Addr) (p4 : Int32) (a6 : Addr) (h0 : Heap) (n0 : Nat) (v : Option Value) (h : Heap) (L : List Loc) : Prop := v = none ∧ Fr n0 L ∧ Keep h0 h [a1] ∧ Exa Z h a1 "com/example/nearfar/nearfar/DescriptorSet$Field" ∧ Fld Z h a1 "com/example/nearfar/nearfar/DescriptorSet$Field" "name" "Ljava/lang/String;" (.ref a2) ∧ Fld Z h a1 "com/example/nearfar/nearfar/DescriptorSet$Field" "number" "I" (.int (2 : Int32)) ∧ Fld Z h a1 "com/example/nearfar/nearfar/DescriptorSet$Field" "repeated" "Z" (.int p4) ∧ Fld Z h a1 "com/example/nearfar/nearfar/DescriptorSet$Field" "stored" "Lcom/example/nearfar/nearfar/StoredType;" .null ∧ Fld Z h a1 "com/example/nearfar/nearfar/DescriptorSet$Field" "messageType" "Ljava/lang/String;" (.ref a6) ∧ Fld Z h a1 "com/example/nearfar/nearfar/DescriptorSet$Field" "enumType" "Ljava/lang/String;" .null
set_option maxRecDepth 65536 in
set_option maxHeartbeats 40000000 in
theorem rmfi01 (l : Launch) (Z : State) (a0 : Array Value) (hw : ∀ d ∈ tables_1, d.before a0 Z = true) (ws : List Jvm.Cond) (a1 : Addr) (a2 : Addr) (p4 : Int32) (a6 : Addr) (h0 : Heap) (n0 : Nat) (Z0 : n0 ≤ h0.size) (E : Exa Z h0 a1 "com/example/nearfar/nearfar/DescriptorSet$Field") (Fname : Fld Z h0 a1 "com/example/nearfar/nearfar/DescriptorSet$Field" "name" "Ljava/lang/String;" .null) (Fnumber : Fld Z h0 a1 "com/example/nearfar/nearfar/DescriptorSet$Field" "number" "I" (.int (0 : Int32))) (Frepeated : Fld Z h0 a1 "com/example/nearfar/nearfar/DescriptorSet$Field" "repeated" "Z" (.int (0 : Int32))) (Fstored : Fld Z h0 a1 "com/example/nearfar/nearfar/DescriptorSet$Field" "stored" "Lcom/example/nearfar/nearfar/StoredType;" .null) (FmessageType : Fld Z h0 a1 "com/example/nearfar/nearfar/DescriptorSet$Field" "messageType" "Ljava/lang/String;" .null) (FenumType : Fld Z h0 a1 "com/example/nearfar/nearfar/DescriptorSet$Field" "enumType" "Ljava/lang/String;" .null) (g_a1 : n0 ≤ a1) (hp4 : p4 = (0 : Int32) ∨ p4 = (1 : Int32)) :
    MetFree l (⟨"com/example/nearfar/nearfar/DescriptorSet$Field", "<init>", "(Ljava/lang/String;IZLcom/example/nearfar/nearfar/StoredType;Ljava/lang/String;Ljava/lang/String;)V"⟩ : MethodName) (head1 (Jvm.Cond.code (⟨"com/example/nearfar/nearfar/DescriptorSet$Field", "<init>", "(Ljava/lang/String;IZLcom/example/nearfar/nearfar/StoredType;Ljava/lang/String;Ljava/lang/String;)V"⟩ : MethodName) prog_16_method_1_code 7 none :: ws) ({ frames := 1, cells := 0, slots := 0, locals := 12 } : Room)) (fun a U => a = #[(.ref a1), (.ref a2), (.int (2 : Int32)), (.int p4), .null, (.ref a6), .null] ∧ Z.Warmed39 U.vm ∧ U.heap = h0) (fun _ _ _ _ _ => True) (fun _ U o U' => ∃ v L, o = .returned v ∧ Qfi01 Z a1 a2 p4 a6 h0 n0 v U'.heap L ∧ FrameEnd U o U' L ({ frames := 1, cells := 0, slots := 0, locals := 12 } : Room).cells ({ frames := 1, cells := 0, slots := 0, locals := 12 } : Room).slots) := by
  refine MetFree.of_bodySF (plainFor_of_name pn_1) hisR ?_
  intro p e s m args below meth c s₁ Bd hml0 hP hK
  obtain ⟨rfl, hZ, hh⟩ := hP
  have hx := Bd.exec
  have hby := Bd.bytes
  have hml : c.maxLocals = 7 := hml0
  have hown : s.vm.findClass "com/example/nearfar/nearfar/DescriptorSet$Field" = some m.cls := findClass_of_methodNamed Bd.named
  have hnm := (name_of_methodNamed Bd.named Bd.method).1
  have hlk : meth.locks = false := BodyLoose.notSynchronized Bd
  have X0 : Stand p l e ({ frames := 1, cells := 0, slots := 0, locals := 12 } : Room) s m #[(.ref a1), (.ref a2), (.int (2 : Int32)), (.int p4), .null, (.ref a6), .null] below meth c s₁ [] 0 0 := Stand.of_body Bd
  have e0 : s₁.heap = h0 := by rw [← hh, Bd.state]; rfl
  have N0 := Fr.nil n0
  show OEnds p.tables e below (OGoal (Qfi01 Z a1 a2 p4 a6 h0 n0) s 0 0) (s₁.setTop (entryFrame m #[(.ref a1), (.ref a2), (.int (2 : Int32)), (.int p4), .null, (.ref a6), .null] 7))
  refine OEnds.st (fun t k => castTop (ef_fi01 m a1 a2 p4 a6) k) ?_
  generalize hG : OGoal (Qfi01 Z a1 a2 p4 a6 h0 n0) s 0 0 = G
  have KK0 : Keep h0 h0 [a1] := Keep.refl h0 [a1]
  show OEnds p.tables e below G (s₁.setTop (mkF m 0 #[.val (.ref a1), .val (.ref a2), .val (.int (2 : Int32)), .val (.int p4), .val .null, .val (.ref a6), .val .null] []))
  refine OEnds.st (fun _ k => XS.aloadN X0.here hx rfl (hb hby d2_0) rfl rfl k) ?_
  show OEnds p.tables e below G (s₁.setTop (mkF m 1 #[.val (.ref a1), .val (.ref a2), .val (.int (2 : Int32)), .val (.int p4), .val .null, .val (.ref a6), .val .null] [(.ref a1)]))
  obtain ⟨T1001, X1001, e1001, st1001⟩ := initO X0 hx hZ hown (hw _ (List.mem_of_getElem? (i := 23) rfl)) (hw _ (List.mem_of_getElem? (i := 24) rfl)) (hw _ (List.mem_of_getElem? (i := 25) rfl)) e0 (g := (mkF m 1 #[.val (.ref a1), .val (.ref a2), .val (.int (2 : Int32)), .val (.int p4), .val .null, .val (.ref a6), .val .null] [(.ref a1)])) rfl (by rw [hml]; rfl) rfl (hb hby d2_1) (by decide) (W := 0) (by show 2 * 0 + _ ≤ _; exact Nat.le_of_eq rfl) (by decide)
  refine OEnds.st st1001 ?_
  show OEnds p.tables e below G (T1001.setTop (mkF m 4 #[.val (.ref a1), .val (.ref a2), .val (.int (2 : Int32)), .val (.int p4), .val .null, .val (.ref a6), .val .null] []))
  refine OEnds.st (fun _ k => XS.aloadN X1001.here hx rfl (hb hby d2_4) rfl rfl k) ?_
  show OEnds p.tables e below G (T1001.setTop (mkF m 5 #[.val (.ref a1), .val (.ref a2), .val (.int (2 : Int32)), .val (.int p4), .val .null, .val (.ref a6), .val .null] [(.ref a1)]))
  refine OEnds.st (fun _ k => XS.aloadN X1001.here hx rfl (hb hby d2_5) rfl rfl k) ?_
  show OEnds p.tables e below G (T1001.setTop (mkF m 6 #[.val (.ref a1), .val (.ref a2), .val (.int (2 : Int32)), .val (.int p4), .val .null, .val (.ref a6), .val .null] [(.ref a2), (.ref a1)]))
  obtain ⟨T1002, h1002, X1002, e1002, W1002, st1002⟩ := putF X1001 hx hZ hown (host := "") (Or.inl (hw _ (List.mem_of_getElem? (i := 26) rfl))) Via.refl e1001 Fname E (Or.inr ⟨(hw _ (List.mem_of_getElem? (i := 27) rfl)), rfl, hnm⟩) (hw _ (List.mem_of_getElem? (i := 17) rfl)) (ty := (.object "java/lang/String")) (by decide) rfl rfl (g := (mkF m 6 #[.val (.ref a1), .val (.ref a2), .val (.int (2 : Int32)), .val (.int p4), .val .null, .val (.ref a6), .val .null] [(.ref a2), (.ref a1)])) rfl rfl (hb hby d2_6)
  refine OEnds.st st1002 ?_
  have f1003 : Fld Z h1002 a1 "com/example/nearfar/nearfar/DescriptorSet$Field" "name" "Ljava/lang/String;" (.ref a2) := Fname.same W1002
  have f1004 : Exa Z h1002 a1 "com/example/nearfar/nearfar/DescriptorSet$Field" := E.wr W1002
  have f1006 : Fld Z h1002 a1 "com/example/nearfar/nearfar/DescriptorSet$Field" "number" "I" (.int (0 : Int32)) := Fnumber.other W1002 (Or.inr (slot_ne (Or.inr (hw _ (List.mem_of_getElem? (i := 29) rfl))) (Or.inr (hw _ (List.mem_of_getElem? (i := 27) rfl))) (by decide) (t := .int) (t' := (.object "java/lang/String")) (by decide) (by decide)))
  have f1007 : Fld Z h1002 a1 "com/example/nearfar/nearfar/DescriptorSet$Field" "repeated" "Z" (.int (0 : Int32)) := Frepeated.other W1002 (Or.inr (slot_ne (Or.inr (hw _ (List.mem_of_getElem? (i := 31) rfl))) (Or.inr (hw _ (List.mem_of_getElem? (i := 27) rfl))) (by decide) (t := .boolean) (t' := (.object "java/lang/String")) (by decide) (by decide)))
  have f1008 : Fld Z h1002 a1 "com/example/nearfar/nearfar/DescriptorSet$Field" "stored" "Lcom/example/nearfar/nearfar/StoredType;" .null := Fstored.other W1002 (Or.inr (slot_ne (Or.inr (hw _ (List.mem_of_getElem? (i := 33) rfl))) (Or.inr (hw _ (List.mem_of_getElem? (i := 27) rfl))) (by decide) (t := (.object "com/example/nearfar/nearfar/StoredType")) (t' := (.object "java/lang/String")) (by decide) (by decide)))
  have f1009 : Fld Z h1002 a1 "com/example/nearfar/nearfar/DescriptorSet$Field" "messageType" "Ljava/lang/String;" .null := FmessageType.other W1002 (Or.inr (slot_ne (Or.inr (hw _ (List.mem_of_getElem? (i := 35) rfl))) (Or.inr (hw _ (List.mem_of_getElem? (i := 27) rfl))) (by decide) (t := (.object "java/lang/String")) (t' := (.object "java/lang/String")) (by decide) (by decide)))
  have f1010 : Fld Z h1002 a1 "com/example/nearfar/nearfar/DescriptorSet$Field" "enumType" "Ljava/lang/String;" .null := FenumType.other W1002 (Or.inr (slot_ne (Or.inr (hw _ (List.mem_of_getElem? (i := 37) rfl))) (Or.inr (hw _ (List.mem_of_getElem? (i := 27) rfl))) (by decide) (t := (.object "java/lang/String")) (t' := (.object "java/lang/String")) (by decide) (by decide)))
  have N1002 := Fr.snoc X1002 N0 g_a1
  have KK1002 : Keep h0 h1002 [a1] := KK0.wr W1002 (Or.inl (List.mem_of_getElem? (i := 0) rfl))
  have Z1002 := Nat.le_trans Z0 (Keep.of_wr W1002).1
  show OEnds p.tables e below G (T1002.setTop (mkF m 9 #[.val (.ref a1), .val (.ref a2), .val (.int (2 : Int32)), .val (.int p4), .val .null, .val (.ref a6), .val .null] []))
  refine OEnds.st (fun _ k => XS.aloadN X1002.here hx rfl (hb hby d2_9) rfl rfl k) ?_
  show OEnds p.tables e below G (T1002.setTop (mkF m 10 #[.val (.ref a1), .val (.ref a2), .val (.int (2 : Int32)), .val (.int p4), .val .null, .val (.ref a6), .val .null] [(.ref a1)]))
  refine OEnds.st (fun _ k => XS.iloadN X1002.here hx rfl (hb hby d2_10) rfl k) ?_
  show OEnds p.tables e below G (T1002.setTop (mkF m 11 #[.val (.ref a1), .val (.ref a2), .val (.int (2 : Int32)), .val (.int p4), .val .null, .val (.ref a6), .val .null] [(.int (2 : Int32)), (.ref a1)]))
  obtain ⟨T1011, h1011, X1011, e1011, W1011, st1011⟩ := putF X1002 hx hZ hown (host := "") (Or.inl (hw _ (List.mem_of_getElem? (i := 28) rfl))) Via.refl e1002 f1006 f1004 (Or.inr ⟨(hw _ (List.mem_of_getElem? (i := 29) rfl)), rfl, hnm⟩) (hw _ (List.mem_of_getElem? (i := 17) rfl)) (ty := .int) (by decide) rfl rfl (g := (mkF m 11 #[.val (.ref a1), .val (.ref a2), .val (.int (2 : Int32)), .val (.int p4), .val .null, .val (.ref a6), .val .null] [(.int (2 : Int32)), (.ref a1)])) rfl rfl (hb hby d2_11)
  refine OEnds.st st1011 ?_
  have f1012 : Fld Z h1011 a1 "com/example/nearfar/nearfar/DescriptorSet$Field" "number" "I" (.int (2 : Int32)) := f1006.same W1011
  have f1013 : Exa Z h1011 a1 "com/example/nearfar/nearfar/DescriptorSet$Field" := f1004.wr W1011
  have f1015 : Fld Z h1011 a1 "com/example/nearfar/nearfar/DescriptorSet$Field" "repeated" "Z" (.int (0 : Int32)) := f1007.other W1011 (Or.inr (slot_ne (Or.inr (hw _ (List.mem_of_getElem? (i := 31) rfl))) (Or.inr (hw _ (List.mem_of_getElem? (i := 29) rfl))) (by decide) (t := .boolean) (t' := .int) (by decide) (by decide)))
  have f1016 : Fld Z h1011 a1 "com/example/nearfar/nearfar/DescriptorSet$Field" "stored" "Lcom/example/nearfar/nearfar/StoredType;" .null := f1008.other W1011 (Or.inr (slot_ne (Or.inr (hw _ (List.mem_of_getElem? (i := 33) rfl))) (Or.inr (hw _ (List.mem_of_getElem? (i := 29) rfl))) (by decide) (t := (.object "com/example/nearfar/nearfar/StoredType")) (t' := .int) (by decide) (by decide)))
  have f1017 : Fld Z h1011 a1 "com/example/nearfar/nearfar/DescriptorSet$Field" "messageType" "Ljava/lang/String;" .null := f1009.other W1011 (Or.inr (slot_ne (Or.inr (hw _ (List.mem_of_getElem? (i := 35) rfl))) (Or.inr (hw _ (List.mem_of_getElem? (i := 29) rfl))) (by decide) (t := (.object "java/lang/String")) (t' := .int) (by decide) (by decide)))
  have f1018 : Fld Z h1011 a1 "com/example/nearfar/nearfar/DescriptorSet$Field" "enumType" "Ljava/lang/String;" .null := f1010.other W1011 (Or.inr (slot_ne (Or.inr (hw _ (List.mem_of_getElem? (i := 37) rfl))) (Or.inr (hw _ (List.mem_of_getElem? (i := 29) rfl))) (by decide) (t := (.object "java/lang/String")) (t' := .int) (by decide) (by decide)))
  have f1019 : Fld Z h1011 a1 "com/example/nearfar/nearfar/DescriptorSet$Field" "name" "Ljava/lang/String;" (.ref a2) := f1003.other W1011 (Or.inr (slot_ne (Or.inr (hw _ (List.mem_of_getElem? (i := 27) rfl))) (Or.inr (hw _ (List.mem_of_getElem? (i := 29) rfl))) (by decide) (t := (.object "java/lang/String")) (t' := .int) (by decide) (by decide)))
  have N1011 := Fr.snoc X1011 N1002 g_a1
  have KK1011 : Keep h0 h1011 [a1] := KK1002.wr W1011 (Or.inl (List.mem_of_getElem? (i := 0) rfl))
  have Z1011 := Nat.le_trans Z1002 (Keep.of_wr W1011).1
  show OEnds p.tables e below G (T1011.setTop (mkF m 14 #[.val (.ref a1), .val (.ref a2), .val (.int (2 : Int32)), .val (.int p4), .val .null, .val (.ref a6), .val .null] []))
  refine OEnds.st (fun _ k => XS.aloadN X1011.here hx rfl (hb hby d2_14) rfl rfl k) ?_
  show OEnds p.tables e below G (T1011.setTop (mkF m 15 #[.val (.ref a1), .val (.ref a2), .val (.int (2 : Int32)), .val (.int p4), .val .null, .val (.ref a6), .val .null] [(.ref a1)]))
  refine OEnds.st (fun _ k => XS.iloadN X1011.here hx rfl (hb hby d2_15) rfl k) ?_
  show OEnds p.tables e below G (T1011.setTop (mkF m 16 #[.val (.ref a1), .val (.ref a2), .val (.int (2 : Int32)), .val (.int p4), .val .null, .val (.ref a6), .val .null] [(.int p4), (.ref a1)]))
  obtain ⟨T1020, h1020, X1020, e1020, W1020, st1020⟩ := putFN X1011 hx hZ hown (hw _ (List.mem_of_getElem? (i := 30) rfl)) Via.refl e1011 f1015 f1013 (Or.inr ⟨(hw _ (List.mem_of_getElem? (i := 31) rfl)), rfl, hnm⟩) (hw _ (List.mem_of_getElem? (i := 17) rfl)) (ty := .boolean) (v' := (.int p4)) (by decide) (by rcases hp4 with rfl | rfl <;> rfl) (by rcases hp4 with rfl | rfl <;> decide) (g := (mkF m 16 #[.val (.ref a1), .val (.ref a2), .val (.int (2 : Int32)), .val (.int p4), .val .null, .val (.ref a6), .val .null] [(.int p4), (.ref a1)])) rfl rfl (hb hby d2_16)
  refine OEnds.st st1020 ?_
  have f1021 : Fld Z h1020 a1 "com/example/nearfar/nearfar/DescriptorSet$Field" "repeated" "Z" (.int p4) := f1015.same W1020
  have f1022 : Exa Z h1020 a1 "com/example/nearfar/nearfar/DescriptorSet$Field" := f1013.wr W1020
  have f1024 : Fld Z h1020 a1 "com/example/nearfar/nearfar/DescriptorSet$Field" "stored" "Lcom/example/nearfar/nearfar/StoredType;" .null := f1016.other W1020 (Or.inr (slot_ne (Or.inr (hw _ (List.mem_of_getElem? (i := 33) rfl))) (Or.inr (hw _ (List.mem_of_getElem? (i := 31) rfl))) (by decide) (t := (.object "com/example/nearfar/nearfar/StoredType")) (t' := .boolean) (by decide) (by decide)))
  have f1025 : Fld Z h1020 a1 "com/example/nearfar/nearfar/DescriptorSet$Field" "messageType" "Ljava/lang/String;" .null := f1017.other W1020 (Or.inr (slot_ne (Or.inr (hw _ (List.mem_of_getElem? (i := 35) rfl))) (Or.inr (hw _ (List.mem_of_getElem? (i := 31) rfl))) (by decide) (t := (.object "java/lang/String")) (t' := .boolean) (by decide) (by decide)))
  have f1026 : Fld Z h1020 a1 "com/example/nearfar/nearfar/DescriptorSet$Field" "enumType" "Ljava/lang/String;" .null := f1018.other W1020 (Or.inr (slot_ne (Or.inr (hw _ (List.mem_of_getElem? (i := 37) rfl))) (Or.inr (hw _ (List.mem_of_getElem? (i := 31) rfl))) (by decide) (t := (.object "java/lang/String")) (t' := .boolean) (by decide) (by decide)))
  have f1027 : Fld Z h1020 a1 "com/example/nearfar/nearfar/DescriptorSet$Field" "name" "Ljava/lang/String;" (.ref a2) := f1019.other W1020 (Or.inr (slot_ne (Or.inr (hw _ (List.mem_of_getElem? (i := 27) rfl))) (Or.inr (hw _ (List.mem_of_getElem? (i := 31) rfl))) (by decide) (t := (.object "java/lang/String")) (t' := .boolean) (by decide) (by decide)))
  have f1028 : Fld Z h1020 a1 "com/example/nearfar/nearfar/DescriptorSet$Field" "number" "I" (.int (2 : Int32)) := f1012.other W1020 (Or.inr (slot_ne (Or.inr (hw _ (List.mem_of_getElem? (i := 29) rfl))) (Or.inr (hw _ (List.mem_of_getElem? (i := 31) rfl))) (by decide) (t := .int) (t' := .boolean) (by decide) (by decide)))
  have N1020 := Fr.snoc X1020 N1011 g_a1
  have KK1020 : Keep h0 h1020 [a1] := KK1011.wr W1020 (Or.inl (List.mem_of_getElem? (i := 0) rfl))
  have Z1020 := Nat.le_trans Z1011 (Keep.of_wr W1020).1
  show OEnds p.tables e below G (T1020.setTop (mkF m 19 #[.val (.ref a1), .val (.ref a2), .val (.int (2 : Int32)), .val (.int p4), .val .null, .val (.ref a6), .val .null] []))
  refine OEnds.st (fun _ k => XS.aloadN X1020.here hx rfl (hb hby d2_19) rfl rfl k) ?_
  show OEnds p.tables e below G (T1020.setTop (mkF m 20 #[.val (.ref a1), .val (.ref a2), .val (.int (2 : Int32)), .val (.int p4), .val .null, .val (.ref a6), .val .null] [(.ref a1)]))
  refine OEnds.st (fun _ k => XS.aload X1020.here hx rfl (hb hby d2_20) rfl rfl k) ?_
  show OEnds p.tables e below G (T1020.setTop (mkF m 22 #[.val (.ref a1), .val (.ref a2), .val (.int (2 : Int32)), .val (.int p4), .val .null, .val (.ref a6), .val .null] [.null, (.ref a1)]))
  obtain ⟨T1029, h1029, X1029, e1029, W1029, st1029⟩ := putF X1020 hx hZ hown (host := "") (Or.inl (hw _ (List.mem_of_getElem? (i := 32) rfl))) Via.refl e1020 f1024 f1022 (Or.inr ⟨(hw _ (List.mem_of_getElem? (i := 33) rfl)), rfl, hnm⟩) (hw _ (List.mem_of_getElem? (i := 17) rfl)) (ty := (.object "com/example/nearfar/nearfar/StoredType")) (by decide) rfl rfl (g := (mkF m 22 #[.val (.ref a1), .val (.ref a2), .val (.int (2 : Int32)), .val (.int p4), .val .null, .val (.ref a6), .val .null] [.null, (.ref a1)])) rfl rfl (hb hby d2_22)
  refine OEnds.st st1029 ?_
  have f1030 : Fld Z h1029 a1 "com/example/nearfar/nearfar/DescriptorSet$Field" "stored" "Lcom/example/nearfar/nearfar/StoredType;" .null := f1024.same W1029
  have f1031 : Exa Z h1029 a1 "com/example/nearfar/nearfar/DescriptorSet$Field" := f1022.wr W1029
  have f1033 : Fld Z h1029 a1 "com/example/nearfar/nearfar/DescriptorSet$Field" "messageType" "Ljava/lang/String;" .null := f1025.other W1029 (Or.inr (slot_ne (Or.inr (hw _ (List.mem_of_getElem? (i := 35) rfl))) (Or.inr (hw _ (List.mem_of_getElem? (i := 33) rfl))) (by decide) (t := (.object "java/lang/String")) (t' := (.object "com/example/nearfar/nearfar/StoredType")) (by decide) (by decide)))
  have f1034 : Fld Z h1029 a1 "com/example/nearfar/nearfar/DescriptorSet$Field" "enumType" "Ljava/lang/String;" .null := f1026.other W1029 (Or.inr (slot_ne (Or.inr (hw _ (List.mem_of_getElem? (i := 37) rfl))) (Or.inr (hw _ (List.mem_of_getElem? (i := 33) rfl))) (by decide) (t := (.object "java/lang/String")) (t' := (.object "com/example/nearfar/nearfar/StoredType")) (by decide) (by decide)))
  have f1035 : Fld Z h1029 a1 "com/example/nearfar/nearfar/DescriptorSet$Field" "name" "Ljava/lang/String;" (.ref a2) := f1027.other W1029 (Or.inr (slot_ne (Or.inr (hw _ (List.mem_of_getElem? (i := 27) rfl))) (Or.inr (hw _ (List.mem_of_getElem? (i := 33) rfl))) (by decide) (t := (.object "java/lang/String")) (t' := (.object "com/example/nearfar/nearfar/StoredType")) (by decide) (by decide)))
  have f1036 : Fld Z h1029 a1 "com/example/nearfar/nearfar/DescriptorSet$Field" "number" "I" (.int (2 : Int32)) := f1028.other W1029 (Or.inr (slot_ne (Or.inr (hw _ (List.mem_of_getElem? (i := 29) rfl))) (Or.inr (hw _ (List.mem_of_getElem? (i := 33) rfl))) (by decide) (t := .int) (t' := (.object "com/example/nearfar/nearfar/StoredType")) (by decide) (by decide)))
  have f1037 : Fld Z h1029 a1 "com/example/nearfar/nearfar/DescriptorSet$Field" "repeated" "Z" (.int p4) := f1021.other W1029 (Or.inr (slot_ne (Or.inr (hw _ (List.mem_of_getElem? (i := 31) rfl))) (Or.inr (hw _ (List.mem_of_getElem? (i := 33) rfl))) (by decide) (t := .boolean) (t' := (.object "com/example/nearfar/nearfar/StoredType")) (by decide) (by decide)))
  have N1029 := Fr.snoc X1029 N1020 g_a1
  have KK1029 : Keep h0 h1029 [a1] := KK1020.wr W1029 (Or.inl (List.mem_of_getElem? (i := 0) rfl))
  have Z1029 := Nat.le_trans Z1020 (Keep.of_wr W1029).1
  show OEnds p.tables e below G (T1029.setTop (mkF m 25 #[.val (.ref a1), .val (.ref a2), .val (.int (2 : Int32)), .val (.int p4), .val .null, .val (.ref a6), .val .null] []))
  refine OEnds.st (fun _ k => XS.aloadN X1029.here hx rfl (hb hby d2_25) rfl rfl k) ?_
  show OEnds p.tables e below G (T1029.setTop (mkF m 26 #[.val (.ref a1), .val (.ref a2), .val (.int (2 : Int32)), .val (.int p4), .val .null, .val (.ref a6), .val .null] [(.ref a1)]))
  refine OEnds.st (fun _ k => XS.aload X1029.here hx rfl (hb hby d2_26) rfl rfl k) ?_
  show OEnds p.tables e below G (T1029.setTop (mkF m 28 #[.val (.ref a1), .val (.ref a2), .val (.int (2 : Int32)), .val (.int p4), .val .null, .val (.ref a6), .val .null] [(.ref a6), (.ref a1)]))
  obtain ⟨T1038, h1038, X1038, e1038, W1038, st1038⟩ := putF X1029 hx hZ hown (host := "") (Or.inl (hw _ (List.mem_of_getElem? (i := 34) rfl))) Via.refl e1029 f1033 f1031 (Or.inr ⟨(hw _ (List.mem_of_getElem? (i := 35) rfl)), rfl, hnm⟩) (hw _ (List.mem_of_getElem? (i := 17) rfl)) (ty := (.object "java/lang/String")) (by decide) rfl rfl (g := (mkF m 28 #[.val (.ref a1), .val (.ref a2), .val (.int (2 : Int32)), .val (.int p4), .val .null, .val (.ref a6), .val .null] [(.ref a6), (.ref a1)])) rfl rfl (hb hby d2_28)
  refine OEnds.st st1038 ?_
  have f1039 : Fld Z h1038 a1 "com/example/nearfar/nearfar/DescriptorSet$Field" "messageType" "Ljava/lang/String;" (.ref a6) := f1033.same W1038
  have f1040 : Exa Z h1038 a1 "com/example/nearfar/nearfar/DescriptorSet$Field" := f1031.wr W1038
  have f1042 : Fld Z h1038 a1 "com/example/nearfar/nearfar/DescriptorSet$Field" "enumType" "Ljava/lang/String;" .null := f1034.other W1038 (Or.inr (slot_ne (Or.inr (hw _ (List.mem_of_getElem? (i := 37) rfl))) (Or.inr (hw _ (List.mem_of_getElem? (i := 35) rfl))) (by decide) (t := (.object "java/lang/String")) (t' := (.object "java/lang/String")) (by decide) (by decide)))
  have f1043 : Fld Z h1038 a1 "com/example/nearfar/nearfar/DescriptorSet$Field" "name" "Ljava/lang/String;" (.ref a2) := f1035.other W1038 (Or.inr (slot_ne (Or.inr (hw _ (List.mem_of_getElem? (i := 27) rfl))) (Or.inr (hw _ (List.mem_of_getElem? (i := 35) rfl))) (by decide) (t := (.object "java/lang/String")) (t' := (.object "java/lang/String")) (by decide) (by decide)))
  have f1044 : Fld Z h1038 a1 "com/example/nearfar/nearfar/DescriptorSet$Field" "number" "I" (.int (2 : Int32)) := f1036.other W1038 (Or.inr (slot_ne (Or.inr (hw _ (List.mem_of_getElem? (i := 29) rfl))) (Or.inr (hw _ (List.mem_of_getElem? (i := 35) rfl))) (by decide) (t := .int) (t' := (.object "java/lang/String")) (by decide) (by decide)))
  have f1045 : Fld Z h1038 a1 "com/example/nearfar/nearfar/DescriptorSet$Field" "repeated" "Z" (.int p4) := f1037.other W1038 (Or.inr (slot_ne (Or.inr (hw _ (List.mem_of_getElem? (i := 31) rfl))) (Or.inr (hw _ (List.mem_of_getElem? (i := 35) rfl))) (by decide) (t := .boolean) (t' := (.object "java/lang/String")) (by decide) (by decide)))
  have f1046 : Fld Z h1038 a1 "com/example/nearfar/nearfar/DescriptorSet$Field" "stored" "Lcom/example/nearfar/nearfar/StoredType;" .null := f1030.other W1038 (Or.inr (slot_ne (Or.inr (hw _ (List.mem_of_getElem? (i := 33) rfl))) (Or.inr (hw _ (List.mem_of_getElem? (i := 35) rfl))) (by decide) (t := (.object "com/example/nearfar/nearfar/StoredType")) (t' := (.object "java/lang/String")) (by decide) (by decide)))
  have N1038 := Fr.snoc X1038 N1029 g_a1
  have KK1038 : Keep h0 h1038 [a1] := KK1029.wr W1038 (Or.inl (List.mem_of_getElem? (i := 0) rfl))
  have Z1038 := Nat.le_trans Z1029 (Keep.of_wr W1038).1
  show OEnds p.tables e below G (T1038.setTop (mkF m 31 #[.val (.ref a1), .val (.ref a2), .val (.int (2 : Int32)), .val (.int p4), .val .null, .val (.ref a6), .val .null] []))
  refine OEnds.st (fun _ k => XS.aloadN X1038.here hx rfl (hb hby d2_31) rfl rfl k) ?_
  show OEnds p.tables e below G (T1038.setTop (mkF m 32 #[.val (.ref a1), .val (.ref a2), .val (.int (2 : Int32)), .val (.int p4), .val .null, .val (.ref a6), .val .null] [(.ref a1)]))
  refine OEnds.st (fun _ k => XS.aload X1038.here hx rfl (hb hby d2_32) rfl rfl k) ?_
  show OEnds p.tables e below G (T1038.setTop (mkF m 34 #[.val (.ref a1), .val (.ref a2), .val (.int (2 : Int32)), .val (.int p4), .val .null, .val (.ref a6), .val .null] [.null, (.ref a1)]))
  obtain ⟨T1047, h1047, X1047, e1047, W1047, st1047⟩ := putF X1038 hx hZ hown (host := "") (Or.inl (hw _ (List.mem_of_getElem? (i := 36) rfl))) Via.refl e1038 f1042 f1040 (Or.inr ⟨(hw _ (List.mem_of_getElem? (i := 37) rfl)), rfl, hnm⟩) (hw _ (List.mem_of_getElem? (i := 17) rfl)) (ty := (.object "java/lang/String")) (by decide) rfl rfl (g := (mkF m 34 #[.val (.ref a1), .val (.ref a2), .val (.int (2 : Int32)), .val (.int p4), .val .null, .val (.ref a6), .val .null] [.null, (.ref a1)])) rfl rfl (hb hby d2_34)
  refine OEnds.st st1047 ?_
  have f1048 : Fld Z h1047 a1 "com/example/nearfar/nearfar/DescriptorSet$Field" "enumType" "Ljava/lang/String;" .null := f1042.same W1047
  have f1049 : Exa Z h1047 a1 "com/example/nearfar/nearfar/DescriptorSet$Field" := f1040.wr W1047
  have f1051 : Fld Z h1047 a1 "com/example/nearfar/nearfar/DescriptorSet$Field" "name" "Ljava/lang/String;" (.ref a2) := f1043.other W1047 (Or.inr (slot_ne (Or.inr (hw _ (List.mem_of_getElem? (i := 27) rfl))) (Or.inr (hw _ (List.mem_of_getElem? (i := 37) rfl))) (by decide) (t := (.object "java/lang/String")) (t' := (.object "java/lang/String")) (by decide) (by decide)))
  have f1052 : Fld Z h1047 a1 "com/example/nearfar/nearfar/DescriptorSet$Field" "number" "I" (.int (2 : Int32)) := f1044.other W1047 (Or.inr (slot_ne (Or.inr (hw _ (List.mem_of_getElem? (i := 29) rfl))) (Or.inr (hw _ (List.mem_of_getElem? (i := 37) rfl))) (by decide) (t := .int) (t' := (.object "java/lang/String")) (by decide) (by decide)))
  have f1053 : Fld Z h1047 a1 "com/example/nearfar/nearfar/DescriptorSet$Field" "repeated" "Z" (.int p4) := f1045.other W1047 (Or.inr (slot_ne (Or.inr (hw _ (List.mem_of_getElem? (i := 31) rfl))) (Or.inr (hw _ (List.mem_of_getElem? (i := 37) rfl))) (by decide) (t := .boolean) (t' := (.object "java/lang/String")) (by decide) (by decide)))
  have f1054 : Fld Z h1047 a1 "com/example/nearfar/nearfar/DescriptorSet$Field" "stored" "Lcom/example/nearfar/nearfar/StoredType;" .null := f1046.other W1047 (Or.inr (slot_ne (Or.inr (hw _ (List.mem_of_getElem? (i := 33) rfl))) (Or.inr (hw _ (List.mem_of_getElem? (i := 37) rfl))) (by decide) (t := (.object "com/example/nearfar/nearfar/StoredType")) (t' := (.object "java/lang/String")) (by decide) (by decide)))
  have f1055 : Fld Z h1047 a1 "com/example/nearfar/nearfar/DescriptorSet$Field" "messageType" "Ljava/lang/String;" (.ref a6) := f1039.other W1047 (Or.inr (slot_ne (Or.inr (hw _ (List.mem_of_getElem? (i := 35) rfl))) (Or.inr (hw _ (List.mem_of_getElem? (i := 37) rfl))) (by decide) (t := (.object "java/lang/String")) (t' := (.object "java/lang/String")) (by decide) (by decide)))
  have N1047 := Fr.snoc X1047 N1038 g_a1
  have KK1047 : Keep h0 h1047 [a1] := KK1038.wr W1047 (Or.inl (List.mem_of_getElem? (i := 0) rfl))
  have Z1047 := Nat.le_trans Z1038 (Keep.of_wr W1047).1
  show OEnds p.tables e below G (T1047.setTop (mkF m 37 #[.val (.ref a1), .val (.ref a2), .val (.int (2 : Int32)), .val (.int p4), .val .null, .val (.ref a6), .val .null] []))
  rw [← hG]
  refine OEnds.retV X1047 hx hlk Bd.returns (hb hby d2_37) (by decide) (by decide) ?_
  rw [e1047]
  exact ⟨rfl, N1047, KK1047, f1049, f1051, f1052, f1053, f1054, f1055, f1048⟩
theorem ef_fi10 (m : MethodId) (a1 : Addr) (a2 : Addr) (p4 : Int32) (a5 : Addr) : entryFrame m #[(.ref a1), (.ref a2), (.int (2 : Int32)), (.int p4), (.ref a5), .null, .null] 7 = mkF m 0 #[.val (.ref a1), .val (.ref a2), .val (.int (2 : Int32)), .val (.int p4), .val (.ref a5), .val .null, .val .null] [] := by first | (simp [entryFrame, mkF, argsToLocals, Value.category]; done) | rfl
def Qfi10 (Z : State) (a1 : Addr) (a2 : Addr) (p4 : Int32) (a5 : Addr) (h0 : Heap) (n0 : Nat) (v : Option Value) (h : Heap) (L : List Loc) : Prop := v = none ∧ Fr n0 L ∧ Keep h0 h [a1] ∧ Exa Z h a1 "com/example/nearfar/nearfar/DescriptorSet$Field" ∧ Fld Z h a1 "com/example/nearfar/nearfar/DescriptorSet$Field" "name" "Ljava/lang/String;" (.ref a2) ∧ Fld Z h a1 "com/example/nearfar/nearfar/DescriptorSet$Field" "number" "I" (.int (2 : Int32)) ∧ Fld Z h a1 "com/example/nearfar/nearfar/DescriptorSet$Field" "repeated" "Z" (.int p4) ∧ Fld Z h a1 "com/example/nearfar/nearfar/DescriptorSet$Field" "stored" "Lcom/example/nearfar/nearfar/StoredType;" (.ref a5) ∧ Fld Z h a1 "com/example/nearfar/nearfar/DescriptorSet$Field" "messageType" "Ljava/lang/String;" .null ∧ Fld Z h a1 "com/example/nearfar/nearfar/DescriptorSet$Field" "enumType" "Ljava/lang/String;" .null
set_option maxRecDepth 65536 in
set_option maxHeartbeats 40000000 in
theorem rmfi10 (l : Launch) (Z : State) (a0 : Array Value) (hw : ∀ d ∈ tables_1, d.before a0 Z = true) (ws : List Jvm.Cond) (a1 : Addr) (a2 : Addr) (p4 : Int32) (a5 : Addr) (h0 : Heap) (n0 : Nat) (Z0 : n0 ≤ h0.size) (E : Exa Z h0 a1 "com/example/nearfar/nearfar/DescriptorSet$Field") (Fname : Fld Z h0 a1 "com/example/nearfar/nearfar/DescriptorSet$Field" "name" "Ljava/lang/String;" .null) (Fnumber : Fld Z h0 a1 "com/example/nearfar/nearfar/DescriptorSet$Field" "number" "I" (.int (0 : Int32))) (Frepeated : Fld Z h0 a1 "com/example/nearfar/nearfar/DescriptorSet$Field" "repeated" "Z" (.int (0 : Int32))) (Fstored : Fld Z h0 a1 "com/example/nearfar/nearfar/DescriptorSet$Field" "stored" "Lcom/example/nearfar/nearfar/StoredType;" .null) (FmessageType : Fld Z h0 a1 "com/example/nearfar/nearfar/DescriptorSet$Field" "messageType" "Ljava/lang/String;" .null) (FenumType : Fld Z h0 a1 "com/example/nearfar/nearfar/DescriptorSet$Field" "enumType" "Ljava/lang/String;" .null) (g_a1 : n0 ≤ a1) (hp4 : p4 = (0 : Int32) ∨ p4 = (1 : Int32)) :
    MetFree l (⟨"com/example/nearfar/nearfar/DescriptorSet$Field", "<init>", "(Ljava/lang/String;IZLcom/example/nearfar/nearfar/StoredType;Ljava/lang/String;Ljava/lang/String;)V"⟩ : MethodName) (head1 (Jvm.Cond.code (⟨"com/example/nearfar/nearfar/DescriptorSet$Field", "<init>", "(Ljava/lang/String;IZLcom/example/nearfar/nearfar/StoredType;Ljava/lang/String;Ljava/lang/String;)V"⟩ : MethodName) prog_16_method_1_code 7 none :: ws) ({ frames := 1, cells := 0, slots := 0, locals := 12 } : Room)) (fun a U => a = #[(.ref a1), (.ref a2), (.int (2 : Int32)), (.int p4), (.ref a5), .null, .null] ∧ Z.Warmed39 U.vm ∧ U.heap = h0) (fun _ _ _ _ _ => True) (fun _ U o U' => ∃ v L, o = .returned v ∧ Qfi10 Z a1 a2 p4 a5 h0 n0 v U'.heap L ∧ FrameEnd U o U' L ({ frames := 1, cells := 0, slots := 0, locals := 12 } : Room).cells ({ frames := 1, cells := 0, slots := 0, locals := 12 } : Room).slots) := by
  refine MetFree.of_bodySF (plainFor_of_name pn_1) hisR ?_
  intro p e s m args below meth c s₁ Bd hml0 hP hK
  obtain ⟨rfl, hZ, hh⟩ := hP
  have hx := Bd.exec
  have hby := Bd.bytes
  have hml : c.maxLocals = 7 := hml0
  have hown : s.vm.findClass "com/example/nearfar/nearfar/DescriptorSet$Field" = some m.cls := findClass_of_methodNamed Bd.named
  have hnm := (name_of_methodNamed Bd.named Bd.method).1
  have hlk : meth.locks = false := BodyLoose.notSynchronized Bd
  have X0 : Stand p l e ({ frames := 1, cells := 0, slots := 0, locals := 12 } : Room) s m #[(.ref a1), (.ref a2), (.int (2 : Int32)), (.int p4), (.ref a5), .null, .null] below meth c s₁ [] 0 0 := Stand.of_body Bd
  have e0 : s₁.heap = h0 := by rw [← hh, Bd.state]; rfl
  have N0 := Fr.nil n0
  show OEnds p.tables e below (OGoal (Qfi10 Z a1 a2 p4 a5 h0 n0) s 0 0) (s₁.setTop (entryFrame m #[(.ref a1), (.ref a2), (.int (2 : Int32)), (.int p4), (.ref a5), .null, .null] 7))
  refine OEnds.st (fun t k => castTop (ef_fi10 m a1 a2 p4 a5) k) ?_
  generalize hG : OGoal (Qfi10 Z a1 a2 p4 a5 h0 n0) s 0 0 = G
  have KK0 : Keep h0 h0 [a1] := Keep.refl h0 [a1]
  show OEnds p.tables e below G (s₁.setTop (mkF m 0 #[.val (.ref a1), .val (.ref a2), .val (.int (2 : Int32)), .val (.int p4), .val (.ref a5), .val .null, .val .null] []))
  refine OEnds.st (fun _ k => XS.aloadN X0.here hx rfl (hb hby d2_0) rfl rfl k) ?_
  show OEnds p.tables e below G (s₁.setTop (mkF m 1 #[.val (.ref a1), .val (.ref a2), .val (.int (2 : Int32)), .val (.int p4), .val (.ref a5), .val .null, .val .null] [(.ref a1)]))
  obtain ⟨T1001, X1001, e1001, st1001⟩ := initO X0 hx hZ hown (hw _ (List.mem_of_getElem? (i := 23) rfl)) (hw _ (List.mem_of_getElem? (i := 24) rfl)) (hw _ (List.mem_of_getElem? (i := 25) rfl)) e0 (g := (mkF m 1 #[.val (.ref a1), .val (.ref a2), .val (.int (2 : Int32)), .val (.int p4), .val (.ref a5), .val .null, .val .null] [(.ref a1)])) rfl (by rw [hml]; rfl) rfl (hb hby d2_1) (by decide) (W := 0) (by show 2 * 0 + _ ≤ _; exact Nat.le_of_eq rfl) (by decide)
  refine OEnds.st st1001 ?_
  show OEnds p.tables e below G (T1001.setTop (mkF m 4 #[.val (.ref a1), .val (.ref a2), .val (.int (2 : Int32)), .val (.int p4), .val (.ref a5), .val .null, .val .null] []))
  refine OEnds.st (fun _ k => XS.aloadN X1001.here hx rfl (hb hby d2_4) rfl rfl k) ?_
  show OEnds p.tables e below G (T1001.setTop (mkF m 5 #[.val (.ref a1), .val (.ref a2), .val (.int (2 : Int32)), .val (.int p4), .val (.ref a5), .val .null, .val .null] [(.ref a1)]))
  refine OEnds.st (fun _ k => XS.aloadN X1001.here hx rfl (hb hby d2_5) rfl rfl k) ?_
  show OEnds p.tables e below G (T1001.setTop (mkF m 6 #[.val (.ref a1), .val (.ref a2), .val (.int (2 : Int32)), .val (.int p4), .val (.ref a5), .val .null, .val .null] [(.ref a2), (.ref a1)]))
  obtain ⟨T1002, h1002, X1002, e1002, W1002, st1002⟩ := putF X1001 hx hZ hown (host := "") (Or.inl (hw _ (List.mem_of_getElem? (i := 26) rfl))) Via.refl e1001 Fname E (Or.inr ⟨(hw _ (List.mem_of_getElem? (i := 27) rfl)), rfl, hnm⟩) (hw _ (List.mem_of_getElem? (i := 17) rfl)) (ty := (.object "java/lang/String")) (by decide) rfl rfl (g := (mkF m 6 #[.val (.ref a1), .val (.ref a2), .val (.int (2 : Int32)), .val (.int p4), .val (.ref a5), .val .null, .val .null] [(.ref a2), (.ref a1)])) rfl rfl (hb hby d2_6)
  refine OEnds.st st1002 ?_
  have f1003 : Fld Z h1002 a1 "com/example/nearfar/nearfar/DescriptorSet$Field" "name" "Ljava/lang/String;" (.ref a2) := Fname.same W1002
  have f1004 : Exa Z h1002 a1 "com/example/nearfar/nearfar/DescriptorSet$Field" := E.wr W1002
  have f1006 : Fld Z h1002 a1 "com/example/nearfar/nearfar/DescriptorSet$Field" "number" "I" (.int (0 : Int32)) := Fnumber.other W1002 (Or.inr (slot_ne (Or.inr (hw _ (List.mem_of_getElem? (i := 29) rfl))) (Or.inr (hw _ (List.mem_of_getElem? (i := 27) rfl))) (by decide) (t := .int) (t' := (.object "java/lang/String")) (by decide) (by decide)))
  have f1007 : Fld Z h1002 a1 "com/example/nearfar/nearfar/DescriptorSet$Field" "repeated" "Z" (.int (0 : Int32)) := Frepeated.other W1002 (Or.inr (slot_ne (Or.inr (hw _ (List.mem_of_getElem? (i := 31) rfl))) (Or.inr (hw _ (List.mem_of_getElem? (i := 27) rfl))) (by decide) (t := .boolean) (t' := (.object "java/lang/String")) (by decide) (by decide)))
  have f1008 : Fld Z h1002 a1 "com/example/nearfar/nearfar/DescriptorSet$Field" "stored" "Lcom/example/nearfar/nearfar/StoredType;" .null := Fstored.other W1002 (Or.inr (slot_ne (Or.inr (hw _ (List.mem_of_getElem? (i := 33) rfl))) (Or.inr (hw _ (List.mem_of_getElem? (i := 27) rfl))) (by decide) (t := (.object "com/example/nearfar/nearfar/StoredType")) (t' := (.object "java/lang/String")) (by decide) (by decide)))
  have f1009 : Fld Z h1002 a1 "com/example/nearfar/nearfar/DescriptorSet$Field" "messageType" "Ljava/lang/String;" .null := FmessageType.other W1002 (Or.inr (slot_ne (Or.inr (hw _ (List.mem_of_getElem? (i := 35) rfl))) (Or.inr (hw _ (List.mem_of_getElem? (i := 27) rfl))) (by decide) (t := (.object "java/lang/String")) (t' := (.object "java/lang/String")) (by decide) (by decide)))
  have f1010 : Fld Z h1002 a1 "com/example/nearfar/nearfar/DescriptorSet$Field" "enumType" "Ljava/lang/String;" .null := FenumType.other W1002 (Or.inr (slot_ne (Or.inr (hw _ (List.mem_of_getElem? (i := 37) rfl))) (Or.inr (hw _ (List.mem_of_getElem? (i := 27) rfl))) (by decide) (t := (.object "java/lang/String")) (t' := (.object "java/lang/String")) (by decide) (by decide)))
  have N1002 := Fr.snoc X1002 N0 g_a1
  have KK1002 : Keep h0 h1002 [a1] := KK0.wr W1002 (Or.inl (List.mem_of_getElem? (i := 0) rfl))
  have Z1002 := Nat.le_trans Z0 (Keep.of_wr W1002).1
  show OEnds p.tables e below G (T1002.setTop (mkF m 9 #[.val (.ref a1), .val (.ref a2), .val (.int (2 : Int32)), .val (.int p4), .val (.ref a5), .val .null, .val .null] []))
  refine OEnds.st (fun _ k => XS.aloadN X1002.here hx rfl (hb hby d2_9) rfl rfl k) ?_
  show OEnds p.tables e below G (T1002.setTop (mkF m 10 #[.val (.ref a1), .val (.ref a2), .val (.int (2 : Int32)), .val (.int p4), .val (.ref a5), .val .null, .val .null] [(.ref a1)]))
  refine OEnds.st (fun _ k => XS.iloadN X1002.here hx rfl (hb hby d2_10) rfl k) ?_
  show OEnds p.tables e below G (T1002.setTop (mkF m 11 #[.val (.ref a1), .val (.ref a2), .val (.int (2 : Int32)), .val (.int p4), .val (.ref a5), .val .null, .val .null] [(.int (2 : Int32)), (.ref a1)]))
  obtain ⟨T1011, h1011, X1011, e1011, W1011, st1011⟩ := putF X1002 hx hZ hown (host := "") (Or.inl (hw _ (List.mem_of_getElem? (i := 28) rfl))) Via.refl e1002 f1006 f1004 (Or.inr ⟨(hw _ (List.mem_of_getElem? (i := 29) rfl)), rfl, hnm⟩) (hw _ (List.mem_of_getElem? (i := 17) rfl)) (ty := .int) (by decide) rfl rfl (g := (mkF m 11 #[.val (.ref a1), .val (.ref a2), .val (.int (2 : Int32)), .val (.int p4), .val (.ref a5), .val .null, .val .null] [(.int (2 : Int32)), (.ref a1)])) rfl rfl (hb hby d2_11)
  refine OEnds.st st1011 ?_
  have f1012 : Fld Z h1011 a1 "com/example/nearfar/nearfar/DescriptorSet$Field" "number" "I" (.int (2 : Int32)) := f1006.same W1011
  have f1013 : Exa Z h1011 a1 "com/example/nearfar/nearfar/DescriptorSet$Field" := f1004.wr W1011
  have f1015 : Fld Z h1011 a1 "com/example/nearfar/nearfar/DescriptorSet$Field" "repeated" "Z" (.int (0 : Int32)) := f1007.other W1011 (Or.inr (slot_ne (Or.inr (hw _ (List.mem_of_getElem? (i := 31) rfl))) (Or.inr (hw _ (List.mem_of_getElem? (i := 29) rfl))) (by decide) (t := .boolean) (t' := .int) (by decide) (by decide)))
  have f1016 : Fld Z h1011 a1 "com/example/nearfar/nearfar/DescriptorSet$Field" "stored" "Lcom/example/nearfar/nearfar/StoredType;" .null := f1008.other W1011 (Or.inr (slot_ne (Or.inr (hw _ (List.mem_of_getElem? (i := 33) rfl))) (Or.inr (hw _ (List.mem_of_getElem? (i := 29) rfl))) (by decide) (t := (.object "com/example/nearfar/nearfar/StoredType")) (t' := .int) (by decide) (by decide)))
  have f1017 : Fld Z h1011 a1 "com/example/nearfar/nearfar/DescriptorSet$Field" "messageType" "Ljava/lang/String;" .null := f1009.other W1011 (Or.inr (slot_ne (Or.inr (hw _ (List.mem_of_getElem? (i := 35) rfl))) (Or.inr (hw _ (List.mem_of_getElem? (i := 29) rfl))) (by decide) (t := (.object "java/lang/String")) (t' := .int) (by decide) (by decide)))
  have f1018 : Fld Z h1011 a1 "com/example/nearfar/nearfar/DescriptorSet$Field" "enumType" "Ljava/lang/String;" .null := f1010.other W1011 (Or.inr (slot_ne (Or.inr (hw _ (List.mem_of_getElem? (i := 37) rfl))) (Or.inr (hw _ (List.mem_of_getElem? (i := 29) rfl))) (by decide) (t := (.object "java/lang/String")) (t' := .int) (by decide) (by decide)))
  have f1019 : Fld Z h1011 a1 "com/example/nearfar/nearfar/DescriptorSet$Field" "name" "Ljava/lang/String;" (.ref a2) := f1003.other W1011 (Or.inr (slot_ne (Or.inr (hw _ (List.mem_of_getElem? (i := 27) rfl))) (Or.inr (hw _ (List.mem_of_getElem? (i := 29) rfl))) (by decide) (t := (.object "java/lang/String")) (t' := .int) (by decide) (by decide)))
  have N1011 := Fr.snoc X1011 N1002 g_a1
  have KK1011 : Keep h0 h1011 [a1] := KK1002.wr W1011 (Or.inl (List.mem_of_getElem? (i := 0) rfl))
  have Z1011 := Nat.le_trans Z1002 (Keep.of_wr W1011).1
  show OEnds p.tables e below G (T1011.setTop (mkF m 14 #[.val (.ref a1), .val (.ref a2), .val (.int (2 : Int32)), .val (.int p4), .val (.ref a5), .val .null, .val .null] []))
  refine OEnds.st (fun _ k => XS.aloadN X1011.here hx rfl (hb hby d2_14) rfl rfl k) ?_
  show OEnds p.tables e below G (T1011.setTop (mkF m 15 #[.val (.ref a1), .val (.ref a2), .val (.int (2 : Int32)), .val (.int p4), .val (.ref a5), .val .null, .val .null] [(.ref a1)]))
  refine OEnds.st (fun _ k => XS.iloadN X1011.here hx rfl (hb hby d2_15) rfl k) ?_
  show OEnds p.tables e below G (T1011.setTop (mkF m 16 #[.val (.ref a1), .val (.ref a2), .val (.int (2 : Int32)), .val (.int p4), .val (.ref a5), .val .null, .val .null] [(.int p4), (.ref a1)]))
  obtain ⟨T1020, h1020, X1020, e1020, W1020, st1020⟩ := putFN X1011 hx hZ hown (hw _ (List.mem_of_getElem? (i := 30) rfl)) Via.refl e1011 f1015 f1013 (Or.inr ⟨(hw _ (List.mem_of_getElem? (i := 31) rfl)), rfl, hnm⟩) (hw _ (List.mem_of_getElem? (i := 17) rfl)) (ty := .boolean) (v' := (.int p4)) (by decide) (by rcases hp4 with rfl | rfl <;> rfl) (by rcases hp4 with rfl | rfl <;> decide) (g := (mkF m 16 #[.val (.ref a1), .val (.ref a2), .val (.int (2 : Int32)), .val (.int p4), .val (.ref a5), .val .null, .val .null] [(.int p4), (.ref a1)])) rfl rfl (hb hby d2_16)
  refine OEnds.st st1020 ?_
  have f1021 : Fld Z h1020 a1 "com/example/nearfar/nearfar/DescriptorSet$Field" "repeated" "Z" (.int p4) := f1015.same W1020
  have f1022 : Exa Z h1020 a1 "com/example/nearfar/nearfar/DescriptorSet$Field" := f1013.wr W1020
  have f1024 : Fld Z h1020 a1 "com/example/nearfar/nearfar/DescriptorSet$Field" "stored" "Lcom/example/nearfar/nearfar/StoredType;" .null := f1016.other W1020 (Or.inr (slot_ne (Or.inr (hw _ (List.mem_of_getElem? (i := 33) rfl))) (Or.inr (hw _ (List.mem_of_getElem? (i := 31) rfl))) (by decide) (t := (.object "com/example/nearfar/nearfar/StoredType")) (t' := .boolean) (by decide) (by decide)))
  have f1025 : Fld Z h1020 a1 "com/example/nearfar/nearfar/DescriptorSet$Field" "messageType" "Ljava/lang/String;" .null := f1017.other W1020 (Or.inr (slot_ne (Or.inr (hw _ (List.mem_of_getElem? (i := 35) rfl))) (Or.inr (hw _ (List.mem_of_getElem? (i := 31) rfl))) (by decide) (t := (.object "java/lang/String")) (t' := .boolean) (by decide) (by decide)))
  have f1026 : Fld Z h1020 a1 "com/example/nearfar/nearfar/DescriptorSet$Field" "enumType" "Ljava/lang/String;" .null := f1018.other W1020 (Or.inr (slot_ne (Or.inr (hw _ (List.mem_of_getElem? (i := 37) rfl))) (Or.inr (hw _ (List.mem_of_getElem? (i := 31) rfl))) (by decide) (t := (.object "java/lang/String")) (t' := .boolean) (by decide) (by decide)))
  have f1027 : Fld Z h1020 a1 "com/example/nearfar/nearfar/DescriptorSet$Field" "name" "Ljava/lang/String;" (.ref a2) := f1019.other W1020 (Or.inr (slot_ne (Or.inr (hw _ (List.mem_of_getElem? (i := 27) rfl))) (Or.inr (hw _ (List.mem_of_getElem? (i := 31) rfl))) (by decide) (t := (.object "java/lang/String")) (t' := .boolean) (by decide) (by decide)))
  have f1028 : Fld Z h1020 a1 "com/example/nearfar/nearfar/DescriptorSet$Field" "number" "I" (.int (2 : Int32)) := f1012.other W1020 (Or.inr (slot_ne (Or.inr (hw _ (List.mem_of_getElem? (i := 29) rfl))) (Or.inr (hw _ (List.mem_of_getElem? (i := 31) rfl))) (by decide) (t := .int) (t' := .boolean) (by decide) (by decide)))
  have N1020 := Fr.snoc X1020 N1011 g_a1
  have KK1020 : Keep h0 h1020 [a1] := KK1011.wr W1020 (Or.inl (List.mem_of_getElem? (i := 0) rfl))
  have Z1020 := Nat.le_trans Z1011 (Keep.of_wr W1020).1
  show OEnds p.tables e below G (T1020.setTop (mkF m 19 #[.val (.ref a1), .val (.ref a2), .val (.int (2 : Int32)), .val (.int p4), .val (.ref a5), .val .null, .val .null] []))
  refine OEnds.st (fun _ k => XS.aloadN X1020.here hx rfl (hb hby d2_19) rfl rfl k) ?_
  show OEnds p.tables e below G (T1020.setTop (mkF m 20 #[.val (.ref a1), .val (.ref a2), .val (.int (2 : Int32)), .val (.int p4), .val (.ref a5), .val .null, .val .null] [(.ref a1)]))
  refine OEnds.st (fun _ k => XS.aload X1020.here hx rfl (hb hby d2_20) rfl rfl k) ?_
  show OEnds p.tables e below G (T1020.setTop (mkF m 22 #[.val (.ref a1), .val (.ref a2), .val (.int (2 : Int32)), .val (.int p4), .val (.ref a5), .val .null, .val .null] [(.ref a5), (.ref a1)]))
  obtain ⟨T1029, h1029, X1029, e1029, W1029, st1029⟩ := putF X1020 hx hZ hown (host := "") (Or.inl (hw _ (List.mem_of_getElem? (i := 32) rfl))) Via.refl e1020 f1024 f1022 (Or.inr ⟨(hw _ (List.mem_of_getElem? (i := 33) rfl)), rfl, hnm⟩) (hw _ (List.mem_of_getElem? (i := 17) rfl)) (ty := (.object "com/example/nearfar/nearfar/StoredType")) (by decide) rfl rfl (g := (mkF m 22 #[.val (.ref a1), .val (.ref a2), .val (.int (2 : Int32)), .val (.int p4), .val (.ref a5), .val .null, .val .null] [(.ref a5), (.ref a1)])) rfl rfl (hb hby d2_22)
  refine OEnds.st st1029 ?_
  have f1030 : Fld Z h1029 a1 "com/example/nearfar/nearfar/DescriptorSet$Field" "stored" "Lcom/example/nearfar/nearfar/StoredType;" (.ref a5) := f1024.same W1029
  have f1031 : Exa Z h1029 a1 "com/example/nearfar/nearfar/DescriptorSet$Field" := f1022.wr W1029
  have f1033 : Fld Z h1029 a1 "com/example/nearfar/nearfar/DescriptorSet$Field" "messageType" "Ljava/lang/String;" .null := f1025.other W1029 (Or.inr (slot_ne (Or.inr (hw _ (List.mem_of_getElem? (i := 35) rfl))) (Or.inr (hw _ (List.mem_of_getElem? (i := 33) rfl))) (by decide) (t := (.object "java/lang/String")) (t' := (.object "com/example/nearfar/nearfar/StoredType")) (by decide) (by decide)))
  have f1034 : Fld Z h1029 a1 "com/example/nearfar/nearfar/DescriptorSet$Field" "enumType" "Ljava/lang/String;" .null := f1026.other W1029 (Or.inr (slot_ne (Or.inr (hw _ (List.mem_of_getElem? (i := 37) rfl))) (Or.inr (hw _ (List.mem_of_getElem? (i := 33) rfl))) (by decide) (t := (.object "java/lang/String")) (t' := (.object "com/example/nearfar/nearfar/StoredType")) (by decide) (by decide)))
  have f1035 : Fld Z h1029 a1 "com/example/nearfar/nearfar/DescriptorSet$Field" "name" "Ljava/lang/String;" (.ref a2) := f1027.other W1029 (Or.inr (slot_ne (Or.inr (hw _ (List.mem_of_getElem? (i := 27) rfl))) (Or.inr (hw _ (List.mem_of_getElem? (i := 33) rfl))) (by decide) (t := (.object "java/lang/String")) (t' := (.object "com/example/nearfar/nearfar/StoredType")) (by decide) (by decide)))
  have f1036 : Fld Z h1029 a1 "com/example/nearfar/nearfar/DescriptorSet$Field" "number" "I" (.int (2 : Int32)) := f1028.other W1029 (Or.inr (slot_ne (Or.inr (hw _ (List.mem_of_getElem? (i := 29) rfl))) (Or.inr (hw _ (List.mem_of_getElem? (i := 33) rfl))) (by decide) (t := .int) (t' := (.object "com/example/nearfar/nearfar/StoredType")) (by decide) (by decide)))
  have f1037 : Fld Z h1029 a1 "com/example/nearfar/nearfar/DescriptorSet$Field" "repeated" "Z" (.int p4) := f1021.other W1029 (Or.inr (slot_ne (Or.inr (hw _ (List.mem_of_getElem? (i := 31) rfl))) (Or.inr (hw _ (List.mem_of_getElem? (i := 33) rfl))) (by decide) (t := .boolean) (t' := (.object "com/example/nearfar/nearfar/StoredType")) (by decide) (by decide)))
  have N1029 := Fr.snoc X1029 N1020 g_a1
  have KK1029 : Keep h0 h1029 [a1] := KK1020.wr W1029 (Or.inl (List.mem_of_getElem? (i := 0) rfl))
  have Z1029 := Nat.le_trans Z1020 (Keep.of_wr W1029).1
  show OEnds p.tables e below G (T1029.setTop (mkF m 25 #[.val (.ref a1), .val (.ref a2), .val (.int (2 : Int32)), .val (.int p4), .val (.ref a5), .val .null, .val .null] []))
  refine OEnds.st (fun _ k => XS.aloadN X1029.here hx rfl (hb hby d2_25) rfl rfl k) ?_
  show OEnds p.tables e below G (T1029.setTop (mkF m 26 #[.val (.ref a1), .val (.ref a2), .val (.int (2 : Int32)), .val (.int p4), .val (.ref a5), .val .null, .val .null] [(.ref a1)]))
  refine OEnds.st (fun _ k => XS.aload X1029.here hx rfl (hb hby d2_26) rfl rfl k) ?_
  show OEnds p.tables e below G (T1029.setTop (mkF m 28 #[.val (.ref a1), .val (.ref a2), .val (.int (2 : Int32)), .val (.int p4), .val (.ref a5), .val .null, .val .null] [.null, (.ref a1)]))
  obtain ⟨T1038, h1038, X1038, e1038, W1038, st1038⟩ := putF X1029 hx hZ hown (host := "") (Or.inl (hw _ (List.mem_of_getElem? (i := 34) rfl))) Via.refl e1029 f1033 f1031 (Or.inr ⟨(hw _ (List.mem_of_getElem? (i := 35) rfl)), rfl, hnm⟩) (hw _ (List.mem_of_getElem? (i := 17) rfl)) (ty := (.object "java/lang/String")) (by decide) rfl rfl (g := (mkF m 28 #[.val (.ref a1), .val (.ref a2), .val (.int (2 : Int32)), .val (.int p4), .val (.ref a5), .val .null, .val .null] [.null, (.ref a1)])) rfl rfl (hb hby d2_28)
  refine OEnds.st st1038 ?_
  have f1039 : Fld Z h1038 a1 "com/example/nearfar/nearfar/DescriptorSet$Field" "messageType" "Ljava/lang/String;" .null := f1033.same W1038
  have f1040 : Exa Z h1038 a1 "com/example/nearfar/nearfar/DescriptorSet$Field" := f1031.wr W1038
  have f1042 : Fld Z h1038 a1 "com/example/nearfar/nearfar/DescriptorSet$Field" "enumType" "Ljava/lang/String;" .null := f1034.other W1038 (Or.inr (slot_ne (Or.inr (hw _ (List.mem_of_getElem? (i := 37) rfl))) (Or.inr (hw _ (List.mem_of_getElem? (i := 35) rfl))) (by decide) (t := (.object "java/lang/String")) (t' := (.object "java/lang/String")) (by decide) (by decide)))
  have f1043 : Fld Z h1038 a1 "com/example/nearfar/nearfar/DescriptorSet$Field" "name" "Ljava/lang/String;" (.ref a2) := f1035.other W1038 (Or.inr (slot_ne (Or.inr (hw _ (List.mem_of_getElem? (i := 27) rfl))) (Or.inr (hw _ (List.mem_of_getElem? (i := 35) rfl))) (by decide) (t := (.object "java/lang/String")) (t' := (.object "java/lang/String")) (by decide) (by decide)))
  have f1044 : Fld Z h1038 a1 "com/example/nearfar/nearfar/DescriptorSet$Field" "number" "I" (.int (2 : Int32)) := f1036.other W1038 (Or.inr (slot_ne (Or.inr (hw _ (List.mem_of_getElem? (i := 29) rfl))) (Or.inr (hw _ (List.mem_of_getElem? (i := 35) rfl))) (by decide) (t := .int) (t' := (.object "java/lang/String")) (by decide) (by decide)))
  have f1045 : Fld Z h1038 a1 "com/example/nearfar/nearfar/DescriptorSet$Field" "repeated" "Z" (.int p4) := f1037.other W1038 (Or.inr (slot_ne (Or.inr (hw _ (List.mem_of_getElem? (i := 31) rfl))) (Or.inr (hw _ (List.mem_of_getElem? (i := 35) rfl))) (by decide) (t := .boolean) (t' := (.object "java/lang/String")) (by decide) (by decide)))
  have f1046 : Fld Z h1038 a1 "com/example/nearfar/nearfar/DescriptorSet$Field" "stored" "Lcom/example/nearfar/nearfar/StoredType;" (.ref a5) := f1030.other W1038 (Or.inr (slot_ne (Or.inr (hw _ (List.mem_of_getElem? (i := 33) rfl))) (Or.inr (hw _ (List.mem_of_getElem? (i := 35) rfl))) (by decide) (t := (.object "com/example/nearfar/nearfar/StoredType")) (t' := (.object "java/lang/String")) (by decide) (by decide)))
  have N1038 := Fr.snoc X1038 N1029 g_a1
  have KK1038 : Keep h0 h1038 [a1] := KK1029.wr W1038 (Or.inl (List.mem_of_getElem? (i := 0) rfl))
  have Z1038 := Nat.le_trans Z1029 (Keep.of_wr W1038).1
  show OEnds p.tables e below G (T1038.setTop (mkF m 31 #[.val (.ref a1), .val (.ref a2), .val (.int (2 : Int32)), .val (.int p4), .val (.ref a5), .val .null, .val .null] []))
  refine OEnds.st (fun _ k => XS.aloadN X1038.here hx rfl (hb hby d2_31) rfl rfl k) ?_
  show OEnds p.tables e below G (T1038.setTop (mkF m 32 #[.val (.ref a1), .val (.ref a2), .val (.int (2 : Int32)), .val (.int p4), .val (.ref a5), .val .null, .val .null] [(.ref a1)]))
  refine OEnds.st (fun _ k => XS.aload X1038.here hx rfl (hb hby d2_32) rfl rfl k) ?_
  show OEnds p.tables e below G (T1038.setTop (mkF m 34 #[.val (.ref a1), .val (.ref a2), .val (.int (2 : Int32)), .val (.int p4), .val (.ref a5), .val .null, .val .null] [.null, (.ref a1)]))
  obtain ⟨T1047, h1047, X1047, e1047, W1047, st1047⟩ := putF X1038 hx hZ hown (host := "") (Or.inl (hw _ (List.mem_of_getElem? (i := 36) rfl))) Via.refl e1038 f1042 f1040 (Or.inr ⟨(hw _ (List.mem_of_getElem? (i := 37) rfl)), rfl, hnm⟩) (hw _ (List.mem_of_getElem? (i := 17) rfl)) (ty := (.object "java/lang/String")) (by decide) rfl rfl (g := (mkF m 34 #[.val (.ref a1), .val (.ref a2), .val (.int (2 : Int32)), .val (.int p4), .val (.ref a5), .val .null, .val .null] [.null, (.ref a1)])) rfl rfl (hb hby d2_34)
  refine OEnds.st st1047 ?_
  have f1048 : Fld Z h1047 a1 "com/example/nearfar/nearfar/DescriptorSet$Field" "enumType" "Ljava/lang/String;" .null := f1042.same W1047
  have f1049 : Exa Z h1047 a1 "com/example/nearfar/nearfar/DescriptorSet$Field" := f1040.wr W1047
  have f1051 : Fld Z h1047 a1 "com/example/nearfar/nearfar/DescriptorSet$Field" "name" "Ljava/lang/String;" (.ref a2) := f1043.other W1047 (Or.inr (slot_ne (Or.inr (hw _ (List.mem_of_getElem? (i := 27) rfl))) (Or.inr (hw _ (List.mem_of_getElem? (i := 37) rfl))) (by decide) (t := (.object "java/lang/String")) (t' := (.object "java/lang/String")) (by decide) (by decide)))
  have f1052 : Fld Z h1047 a1 "com/example/nearfar/nearfar/DescriptorSet$Field" "number" "I" (.int (2 : Int32)) := f1044.other W1047 (Or.inr (slot_ne (Or.inr (hw _ (List.mem_of_getElem? (i := 29) rfl))) (Or.inr (hw _ (List.mem_of_getElem? (i := 37) rfl))) (by decide) (t := .int) (t' := (.object "java/lang/String")) (by decide) (by decide)))
  have f1053 : Fld Z h1047 a1 "com/example/nearfar/nearfar/DescriptorSet$Field" "repeated" "Z" (.int p4) := f1045.other W1047 (Or.inr (slot_ne (Or.inr (hw _ (List.mem_of_getElem? (i := 31) rfl))) (Or.inr (hw _ (List.mem_of_getElem? (i := 37) rfl))) (by decide) (t := .boolean) (t' := (.object "java/lang/String")) (by decide) (by decide)))
  have f1054 : Fld Z h1047 a1 "com/example/nearfar/nearfar/DescriptorSet$Field" "stored" "Lcom/example/nearfar/nearfar/StoredType;" (.ref a5) := f1046.other W1047 (Or.inr (slot_ne (Or.inr (hw _ (List.mem_of_getElem? (i := 33) rfl))) (Or.inr (hw _ (List.mem_of_getElem? (i := 37) rfl))) (by decide) (t := (.object "com/example/nearfar/nearfar/StoredType")) (t' := (.object "java/lang/String")) (by decide) (by decide)))
  have f1055 : Fld Z h1047 a1 "com/example/nearfar/nearfar/DescriptorSet$Field" "messageType" "Ljava/lang/String;" .null := f1039.other W1047 (Or.inr (slot_ne (Or.inr (hw _ (List.mem_of_getElem? (i := 35) rfl))) (Or.inr (hw _ (List.mem_of_getElem? (i := 37) rfl))) (by decide) (t := (.object "java/lang/String")) (t' := (.object "java/lang/String")) (by decide) (by decide)))
  have N1047 := Fr.snoc X1047 N1038 g_a1
  have KK1047 : Keep h0 h1047 [a1] := KK1038.wr W1047 (Or.inl (List.mem_of_getElem? (i := 0) rfl))
  have Z1047 := Nat.le_trans Z1038 (Keep.of_wr W1047).1
  show OEnds p.tables e below G (T1047.setTop (mkF m 37 #[.val (.ref a1), .val (.ref a2), .val (.int (2 : Int32)), .val (.int p4), .val (.ref a5), .val .null, .val .null] []))
  rw [← hG]
  refine OEnds.retV X1047 hx hlk Bd.returns (hb hby d2_37) (by decide) (by decide) ?_
  rw [e1047]
  exact ⟨rfl, N1047, KK1047, f1049, f1051, f1052, f1053, f1054, f1055, f1048⟩
theorem ef_fi11 (m : MethodId) (a1 : Addr) (a2 : Addr) (p4 : Int32) (a5 : Addr) (a6 : Addr) : entryFrame m #[(.ref a1), (.ref a2), (.int (2 : Int32)), (.int p4), (.ref a5), (.ref a6), .null] 7 = mkF m 0 #[.val (.ref a1), .val (.ref a2), .val (.int (2 : Int32)), .val (.int p4), .val (.ref a5), .val (.ref a6), .val .null] [] := by first | (simp [entryFrame, mkF, argsToLocals, Value.category]; done) | rfl
def Qfi11 (Z : State) (a1 : Addr) (a2 : Addr) (p4 : Int32) (a5 : Addr) (a6 : Addr) (h0 : Heap) (n0 : Nat) (v : Option Value) (h : Heap) (L : List Loc) : Prop := v = none ∧ Fr n0 L ∧ Keep h0 h [a1] ∧ Exa Z h a1 "com/example/nearfar/nearfar/DescriptorSet$Field" ∧ Fld Z h a1 "com/example/nearfar/nearfar/DescriptorSet$Field" "name" "Ljava/lang/String;" (.ref a2) ∧ Fld Z h a1 "com/example/nearfar/nearfar/DescriptorSet$Field" "number" "I" (.int (2 : Int32)) ∧ Fld Z h a1 "com/example/nearfar/nearfar/DescriptorSet$Field" "repeated" "Z" (.int p4) ∧ Fld Z h a1 "com/example/nearfar/nearfar/DescriptorSet$Field" "stored" "Lcom/example/nearfar/nearfar/StoredType;" (.ref a5) ∧ Fld Z h a1 "com/example/nearfar/nearfar/DescriptorSet$Field" "messageType" "Ljava/lang/String;" (.ref a6) ∧ Fld Z h a1 "com/example/nearfar/nearfar/DescriptorSet$Field" "enumType" "Ljava/lang/String;" .null
set_option maxRecDepth 65536 in
set_option maxHeartbeats 40000000 in
theorem rmfi11 (l : Launch) (Z : State) (a0 : Array Value) (hw : ∀ d ∈ tables_1, d.before a0 Z = true) (ws : List Jvm.Cond) (a1 : Addr) (a2 : Addr) (p4 : Int32) (a5 : Addr) (a6 : Addr) (h0 : Heap) (n0 : Nat) (Z0 : n0 ≤ h0.size) (E : Exa Z h0 a1 "com/example/nearfar/nearfar/DescriptorSet$Field") (Fname : Fld Z h0 a1 "com/example/nearfar/nearfar/DescriptorSet$Field" "name" "Ljava/lang/String;" .null) (Fnumber : Fld Z h0 a1 "com/example/nearfar/nearfar/DescriptorSet$Field" "number" "I" (.int (0 : Int32))) (Frepeated : Fld Z h0 a1 "com/example/nearfar/nearfar/DescriptorSet$Field" "repeated" "Z" (.int (0 : Int32))) (Fstored : Fld Z h0 a1 "com/example/nearfar/nearfar/DescriptorSet$Field" "stored" "Lcom/example/nearfar/nearfar/StoredType;" .null) (FmessageType : Fld Z h0 a1 "com/example/nearfar/nearfar/DescriptorSet$Field" "messageType" "Ljava/lang/String;" .null) (FenumType : Fld Z h0 a1 "com/example/nearfar/nearfar/DescriptorSet$Field" "enumType" "Ljava/lang/String;" .null) (g_a1 : n0 ≤ a1) (hp4 : p4 = (0 : Int32) ∨ p4 = (1 : Int32)) :
    MetFree l (⟨"com/example/nearfar/nearfar/DescriptorSet$Field", "<init>", "(Ljava/lang/String;IZLcom/example/nearfar/nearfar/StoredType;Ljava/lang/String;Ljava/lang/String;)V"⟩ : MethodName) (head1 (Jvm.Cond.code (⟨"com/example/nearfar/nearfar/DescriptorSet$Field", "<init>", "(Ljava/lang/String;IZLcom/example/nearfar/nearfar/StoredType;Ljava/lang/String;Ljava/lang/String;)V"⟩ : MethodName) prog_16_method_1_code 7 none :: ws) ({ frames := 1, cells := 0, slots := 0, locals := 12 } : Room)) (fun a U => a = #[(.ref a1), (.ref a2), (.int (2 : Int32)), (.int p4), (.ref a5), (.ref a6), .null] ∧ Z.Warmed39 U.vm ∧ U.heap = h0) (fun _ _ _ _ _ => True) (fun _ U o U' => ∃ v L, o = .returned v ∧ Qfi11 Z a1 a2 p4 a5 a6 h0 n0 v U'.heap L ∧ FrameEnd U o U' L ({ frames := 1, cells := 0, slots := 0, locals := 12 } : Room).cells ({ frames := 1, cells := 0, slots := 0, locals := 12 } : Room).slots) := by
  refine MetFree.of_bodySF (plainFor_of_name pn_1) hisR ?_
  intro p e s m args below meth c s₁ Bd hml0 hP hK
  obtain ⟨rfl, hZ, hh⟩ := hP
  have hx := Bd.exec
  have hby := Bd.bytes
  have hml : c.maxLocals = 7 := hml0
  have hown : s.vm.findClass "com/example/nearfar/nearfar/DescriptorSet$Field" = some m.cls := findClass_of_methodNamed Bd.named
  have hnm := (name_of_methodNamed Bd.named Bd.method).1
  have hlk : meth.locks = false := BodyLoose.notSynchronized Bd
  have X0 : Stand p l e ({ frames := 1, cells := 0, slots := 0, locals := 12 } : Room) s m #[(.ref a1), (.ref a2), (.int (2 : Int32)), (.int p4), (.ref a5), (.ref a6), .null] below meth c s₁ [] 0 0 := Stand.of_body Bd
  have e0 : s₁.heap = h0 := by rw [← hh, Bd.state]; rfl
  have N0 := Fr.nil n0
  show OEnds p.tables e below (OGoal (Qfi11 Z a1 a2 p4 a5 a6 h0 n0) s 0 0) (s₁.setTop (entryFrame m #[(.ref a1), (.ref a2), (.int (2 : Int32)), (.int p4), (.ref a5), (.ref a6), .null] 7))
  refine OEnds.st (fun t k => castTop (ef_fi11 m a1 a2 p4 a5 a6) k) ?_
  generalize hG : OGoal (Qfi11 Z a1 a2 p4 a5 a6 h0 n0) s 0 0 = G
  have KK0 : Keep h0 h0 [a1] := Keep.refl h0 [a1]
  show OEnds p.tables e below G (s₁.setTop (mkF m 0 #[.val (.ref a1), .val (.ref a2), .val (.int (2 : Int32)), .val (.int p4), .val (.ref a5), .val (.ref a6), .val .null] []))
  refine OEnds.st (fun _ k => XS.aloadN X0.here hx rfl (hb hby d2_0) rfl rfl k) ?_
  show OEnds p.tables e below G (s₁.setTop (mkF m 1 #[.val (.ref a1), .val (.ref a2), .val (.int (2 : Int32)), .val (.int p4), .val (.ref a5), .val (.ref a6), .val .null] [(.ref a1)]))
  obtain ⟨T1001, X1001, e1001, st1001⟩ := initO X0 hx hZ hown (hw _ (List.mem_of_getElem? (i := 23) rfl)) (hw _ (List.mem_of_getElem? (i := 24) rfl)) (hw _ (List.mem_of_getElem? (i := 25) rfl)) e0 (g := (mkF m 1 #[.val (.ref a1), .val (.ref a2), .val (.int (2 : Int32)), .val (.int p4), .val (.ref a5), .val (.ref a6), .val .null] [(.ref a1)])) rfl (by rw [hml]; rfl) rfl (hb hby d2_1) (by decide) (W := 0) (by show 2 * 0 + _ ≤ _; exact Nat.le_of_eq rfl) (by decide)
  refine OEnds.st st1001 ?_
  show OEnds p.tables e below G (T1001.setTop (mkF m 4 #[.val (.ref a1), .val (.ref a2), .val (.int (2 : Int32)), .val (.int p4), .val (.ref a5), .val (.ref a6), .val .null] []))
  refine OEnds.st (fun _ k => XS.aloadN X1001.here hx rfl (hb hby d2_4) rfl rfl k) ?_
  show OEnds p.tables e below G (T1001.setTop (mkF m 5 #[.val (.ref a1), .val (.ref a2), .val (.int (2 : Int32)), .val (.int p4), .val (.ref a5), .val (.ref a6), .val .null] [(.ref a1)]))
  refine OEnds.st (fun _ k => XS.aloadN X1001.here hx rfl (hb hby d2_5) rfl rfl k) ?_
  show OEnds p.tables e below G (T1001.setTop (mkF m 6 #[.val (.ref a1), .val (.ref a2), .val (.int (2 : Int32)), .val (.int p4), .val (.ref a5), .val (.ref a6), .val .null] [(.ref a2), (.ref a1)]))
  obtain ⟨T1002, h1002, X1002, e1002, W1002, st1002⟩ := putF X1001 hx hZ hown (host := "") (Or.inl (hw _ (List.mem_of_getElem? (i := 26) rfl))) Via.refl e1001 Fname E (Or.inr ⟨(hw _ (List.mem_of_getElem? (i := 27) rfl)), rfl, hnm⟩) (hw _ (List.mem_of_getElem? (i := 17) rfl)) (ty := (.object "java/lang/String")) (by decide) rfl rfl (g := (mkF m 6 #[.val (.ref a1), .val (.ref a2), .val (.int (2 : Int32)), .val (.int p4), .val (.ref a5), .val (.ref a6), .val .null] [(.ref a2), (.ref a1)])) rfl rfl (hb hby d2_6)
  refine OEnds.st st1002 ?_
  have f1003 : Fld Z h1002 a1 "com/example/nearfar/nearfar/DescriptorSet$Field" "name" "Ljava/lang/String;" (.ref a2) := Fname.same W1002
  have f1004 : Exa Z h1002 a1 "com/example/nearfar/nearfar/DescriptorSet$Field" := E.wr W1002
  have f1006 : Fld Z h1002 a1 "com/example/nearfar/nearfar/DescriptorSet$Field" "number" "I" (.int (0 : Int32)) := Fnumber.other W1002 (Or.inr (slot_ne (Or.inr (hw _ (List.mem_of_getElem? (i := 29) rfl))) (Or.inr (hw _ (List.mem_of_getElem? (i := 27) rfl))) (by decide) (t := .int) (t' := (.object "java/lang/String")) (by decide) (by decide)))
  have f1007 : Fld Z h1002 a1 "com/example/nearfar/nearfar/DescriptorSet$Field" "repeated" "Z" (.int (0 : Int32)) := Frepeated.other W1002 (Or.inr (slot_ne (Or.inr (hw _ (List.mem_of_getElem? (i := 31) rfl))) (Or.inr (hw _ (List.mem_of_getElem? (i := 27) rfl))) (by decide) (t := .boolean) (t' := (.object "java/lang/String")) (by decide) (by decide)))
  have f1008 : Fld Z h1002 a1 "com/example/nearfar/nearfar/DescriptorSet$Field" "stored" "Lcom/example/nearfar/nearfar/StoredType;" .null := Fstored.other W1002 (Or.inr (slot_ne (Or.inr (hw _ (List.mem_of_getElem? (i := 33) rfl))) (Or.inr (hw _ (List.mem_of_getElem? (i := 27) rfl))) (by decide) (t := (.object "com/example/nearfar/nearfar/StoredType")) (t' := (.object "java/lang/String")) (by decide) (by decide)))
  have f1009 : Fld Z h1002 a1 "com/example/nearfar/nearfar/DescriptorSet$Field" "messageType" "Ljava/lang/String;" .null := FmessageType.other W1002 (Or.inr (slot_ne (Or.inr (hw _ (List.mem_of_getElem? (i := 35) rfl))) (Or.inr (hw _ (List.mem_of_getElem? (i := 27) rfl))) (by decide) (t := (.object "java/lang/String")) (t' := (.object "java/lang/String")) (by decide) (by decide)))
  have f1010 : Fld Z h1002 a1 "com/example/nearfar/nearfar/DescriptorSet$Field" "enumType" "Ljava/lang/String;" .null := FenumType.other W1002 (Or.inr (slot_ne (Or.inr (hw _ (List.mem_of_getElem? (i := 37) rfl))) (Or.inr (hw _ (List.mem_of_getElem? (i := 27) rfl))) (by decide) (t := (.object "java/lang/String")) (t' := (.object "java/lang/String")) (by decide) (by decide)))
  have N1002 := Fr.snoc X1002 N0 g_a1
  have KK1002 : Keep h0 h1002 [a1] := KK0.wr W1002 (Or.inl (List.mem_of_getElem? (i := 0) rfl))
  have Z1002 := Nat.le_trans Z0 (Keep.of_wr W1002).1
  show OEnds p.tables e below G (T1002.setTop (mkF m 9 #[.val (.ref a1), .val (.ref a2), .val (.int (2 : Int32)), .val (.int p4), .val (.ref a5), .val (.ref a6), .val .null] []))
  refine OEnds.st (fun _ k => XS.aloadN X1002.here hx rfl (hb hby d2_9) rfl rfl k) ?_
  show OEnds p.tables e below G (T1002.setTop (mkF m 10 #[.val (.ref a1), .val (.ref a2), .val (.int (2 : Int32)), .val (.int p4), .val (.ref a5), .val (.ref a6), .val .null] [(.ref a1)]))
  refine OEnds.st (fun _ k => XS.iloadN X1002.here hx rfl (hb hby d2_10) rfl k) ?_
  show OEnds p.tables e below G (T1002.setTop (mkF m 11 #[.val (.ref a1), .val (.ref a2), .val (.int (2 : Int32)), .val (.int p4), .val (.ref a5), .val (.ref a6), .val .null] [(.int (2 : Int32)), (.ref a1)]))
  obtain ⟨T1011, h1011, X1011, e1011, W1011, st1011⟩ := putF X1002 hx hZ hown (host := "") (Or.inl (hw _ (List.mem_of_getElem? (i := 28) rfl))) Via.refl e1002 f1006 f1004 (Or.inr ⟨(hw _ (List.mem_of_getElem? (i := 29) rfl)), rfl, hnm⟩) (hw _ (List.mem_of_getElem? (i := 17) rfl)) (ty := .int) (by decide) rfl rfl (g := (mkF m 11 #[.val (.ref a1), .val (.ref a2), .val (.int (2 : Int32)), .val (.int p4), .val (.ref a5), .val (.ref a6), .val .null] [(.int (2 : Int32)), (.ref a1)])) rfl rfl (hb hby d2_11)
  refine OEnds.st st1011 ?_
  have f1012 : Fld Z h1011 a1 "com/example/nearfar/nearfar/DescriptorSet$Field" "number" "I" (.int (2 : Int32)) := f1006.same W1011
  have f1013 : Exa Z h1011 a1 "com/example/nearfar/nearfar/DescriptorSet$Field" := f1004.wr W1011
  have f1015 : Fld Z h1011 a1 "com/example/nearfar/nearfar/DescriptorSet$Field" "repeated" "Z" (.int (0 : Int32)) := f1007.other W1011 (Or.inr (slot_ne (Or.inr (hw _ (List.mem_of_getElem? (i := 31) rfl))) (Or.inr (hw _ (List.mem_of_getElem? (i := 29) rfl))) (by decide) (t := .boolean) (t' := .int) (by decide) (by decide)))
  have f1016 : Fld Z h1011 a1 "com/example/nearfar/nearfar/DescriptorSet$Field" "stored" "Lcom/example/nearfar/nearfar/StoredType;" .null := f1008.other W1011 (Or.inr (slot_ne (Or.inr (hw _ (List.mem_of_getElem? (i := 33) rfl))) (Or.inr (hw _ (List.mem_of_getElem? (i := 29) rfl))) (by decide) (t := (.object "com/example/nearfar/nearfar/StoredType")) (t' := .int) (by decide) (by decide)))
  have f1017 : Fld Z h1011 a1 "com/example/nearfar/nearfar/DescriptorSet$Field" "messageType" "Ljava/lang/String;" .null := f1009.other W1011 (Or.inr (slot_ne (Or.inr (hw _ (List.mem_of_getElem? (i := 35) rfl))) (Or.inr (hw _ (List.mem_of_getElem? (i := 29) rfl))) (by decide) (t := (.object "java/lang/String")) (t' := .int) (by decide) (by decide)))
  have f1018 : Fld Z h1011 a1 "com/example/nearfar/nearfar/DescriptorSet$Field" "enumType" "Ljava/lang/String;" .null := f1010.other W1011 (Or.inr (slot_ne (Or.inr (hw _ (List.mem_of_getElem? (i := 37) rfl))) (Or.inr (hw _ (List.mem_of_getElem? (i := 29) rfl))) (by decide) (t := (.object "java/lang/String")) (t' := .int) (by decide) (by decide)))
  have f1019 : Fld Z h1011 a1 "com/example/nearfar/nearfar/DescriptorSet$Field" "name" "Ljava/lang/String;" (.ref a2) := f1003.other W1011 (Or.inr (slot_ne (Or.inr (hw _ (List.mem_of_getElem? (i := 27) rfl))) (Or.inr (hw _ (List.mem_of_getElem? (i := 29) rfl))) (by decide) (t := (.object "java/lang/String")) (t' := .int) (by decide) (by decide)))
  have N1011 := Fr.snoc X1011 N1002 g_a1
  have KK1011 : Keep h0 h1011 [a1] := KK1002.wr W1011 (Or.inl (List.mem_of_getElem? (i := 0) rfl))
  have Z1011 := Nat.le_trans Z1002 (Keep.of_wr W1011).1
  show OEnds p.tables e below G (T1011.setTop (mkF m 14 #[.val (.ref a1), .val (.ref a2), .val (.int (2 : Int32)), .val (.int p4), .val (.ref a5), .val (.ref a6), .val .null] []))
  refine OEnds.st (fun _ k => XS.aloadN X1011.here hx rfl (hb hby d2_14) rfl rfl k) ?_
  show OEnds p.tables e below G (T1011.setTop (mkF m 15 #[.val (.ref a1), .val (.ref a2), .val (.int (2 : Int32)), .val (.int p4), .val (.ref a5), .val (.ref a6), .val .null] [(.ref a1)]))
  refine OEnds.st (fun _ k => XS.iloadN X1011.here hx rfl (hb hby d2_15) rfl k) ?_
  show OEnds p.tables e below G (T1011.setTop (mkF m 16 #[.val (.ref a1), .val (.ref a2), .val (.int (2 : Int32)), .val (.int p4), .val (.ref a5), .val (.ref a6), .val .null] [(.int p4), (.ref a1)]))
  obtain ⟨T1020, h1020, X1020, e1020, W1020, st1020⟩ := putFN X1011 hx hZ hown (hw _ (List.mem_of_getElem? (i := 30) rfl)) Via.refl e1011 f1015 f1013 (Or.inr ⟨(hw _ (List.mem_of_getElem? (i := 31) rfl)), rfl, hnm⟩) (hw _ (List.mem_of_getElem? (i := 17) rfl)) (ty := .boolean) (v' := (.int p4)) (by decide) (by rcases hp4 with rfl | rfl <;> rfl) (by rcases hp4 with rfl | rfl <;> decide) (g := (mkF m 16 #[.val (.ref a1), .val (.ref a2), .val (.int (2 : Int32)), .val (.int p4), .val (.ref a5), .val (.ref a6), .val .null] [(.int p4), (.ref a1)])) rfl rfl (hb hby d2_16)
  refine OEnds.st st1020 ?_
  have f1021 : Fld Z h1020 a1 "com/example/nearfar/nearfar/DescriptorSet$Field" "repeated" "Z" (.int p4) := f1015.same W1020
  have f1022 : Exa Z h1020 a1 "com/example/nearfar/nearfar/DescriptorSet$Field" := f1013.wr W1020
  have f1024 : Fld Z h1020 a1 "com/example/nearfar/nearfar/DescriptorSet$Field" "stored" "Lcom/example/nearfar/nearfar/StoredType;" .null := f1016.other W1020 (Or.inr (slot_ne (Or.inr (hw _ (List.mem_of_getElem? (i := 33) rfl))) (Or.inr (hw _ (List.mem_of_getElem? (i := 31) rfl))) (by decide) (t := (.object "com/example/nearfar/nearfar/StoredType")) (t' := .boolean) (by decide) (by decide)))
  have f1025 : Fld Z h1020 a1 "com/example/nearfar/nearfar/DescriptorSet$Field" "messageType" "Ljava/lang/String;" .null := f1017.other W1020 (Or.inr (slot_ne (Or.inr (hw _ (List.mem_of_getElem? (i := 35) rfl))) (Or.inr (hw _ (List.mem_of_getElem? (i := 31) rfl))) (by decide) (t := (.object "java/lang/String")) (t' := .boolean) (by decide) (by decide)))
  have f1026 : Fld Z h1020 a1 "com/example/nearfar/nearfar/DescriptorSet$Field" "enumType" "Ljava/lang/String;" .null := f1018.other W1020 (Or.inr (slot_ne (Or.inr (hw _ (List.mem_of_getElem? (i := 37) rfl))) (Or.inr (hw _ (List.mem_of_getElem? (i := 31) rfl))) (by decide) (t := (.object "java/lang/String")) (t' := .boolean) (by decide) (by decide)))
  have f1027 : Fld Z h1020 a1 "com/example/nearfar/nearfar/DescriptorSet$Field" "name" "Ljava/lang/String;" (.ref a2) := f1019.other W1020 (Or.inr (slot_ne (Or.inr (hw _ (List.mem_of_getElem? (i := 27) rfl))) (Or.inr (hw _ (List.mem_of_getElem? (i := 31) rfl))) (by decide) (t := (.object "java/lang/String")) (t' := .boolean) (by decide) (by decide)))
  have f1028 : Fld Z h1020 a1 "com/example/nearfar/nearfar/DescriptorSet$Field" "number" "I" (.int (2 : Int32)) := f1012.other W1020 (Or.inr (slot_ne (Or.inr (hw _ (List.mem_of_getElem? (i := 29) rfl))) (Or.inr (hw _ (List.mem_of_getElem? (i := 31) rfl))) (by decide) (t := .int) (t' := .boolean) (by decide) (by decide)))
  have N1020 := Fr.snoc X1020 N1011 g_a1
  have KK1020 : Keep h0 h1020 [a1] := KK1011.wr W1020 (Or.inl (List.mem_of_getElem? (i := 0) rfl))
  have Z1020 := Nat.le_trans Z1011 (Keep.of_wr W1020).1
  show OEnds p.tables e below G (T1020.setTop (mkF m 19 #[.val (.ref a1), .val (.ref a2), .val (.int (2 : Int32)), .val (.int p4), .val (.ref a5), .val (.ref a6), .val .null] []))
  refine OEnds.st (fun _ k => XS.aloadN X1020.here hx rfl (hb hby d2_19) rfl rfl k) ?_
  show OEnds p.tables e below G (T1020.setTop (mkF m 20 #[.val (.ref a1), .val (.ref a2), .val (.int (2 : Int32)), .val (.int p4), .val (.ref a5), .val (.ref a6), .val .null] [(.ref a1)]))
  refine OEnds.st (fun _ k => XS.aload X1020.here hx rfl (hb hby d2_20) rfl rfl k) ?_
  show OEnds p.tables e below G (T1020.setTop (mkF m 22 #[.val (.ref a1), .val (.ref a2), .val (.int (2 : Int32)), .val (.int p4), .val (.ref a5), .val (.ref a6), .val .null] [(.ref a5), (.ref a1)]))
  obtain ⟨T1029, h1029, X1029, e1029, W1029, st1029⟩ := putF X1020 hx hZ hown (host := "") (Or.inl (hw _ (List.mem_of_getElem? (i := 32) rfl))) Via.refl e1020 f1024 f1022 (Or.inr ⟨(hw _ (List.mem_of_getElem? (i := 33) rfl)), rfl, hnm⟩) (hw _ (List.mem_of_getElem? (i := 17) rfl)) (ty := (.object "com/example/nearfar/nearfar/StoredType")) (by decide) rfl rfl (g := (mkF m 22 #[.val (.ref a1), .val (.ref a2), .val (.int (2 : Int32)), .val (.int p4), .val (.ref a5), .val (.ref a6), .val .null] [(.ref a5), (.ref a1)])) rfl rfl (hb hby d2_22)
  refine OEnds.st st1029 ?_
  have f1030 : Fld Z h1029 a1 "com/example/nearfar/nearfar/DescriptorSet$Field" "stored" "Lcom/example/nearfar/nearfar/StoredType;" (.ref a5) := f1024.same W1029
  have f1031 : Exa Z h1029 a1 "com/example/nearfar/nearfar/DescriptorSet$Field" := f1022.wr W1029
  have f1033 : Fld Z h1029 a1 "com/example/nearfar/nearfar/DescriptorSet$Field" "messageType" "Ljava/lang/String;" .null := f1025.other W1029 (Or.inr (slot_ne (Or.inr (hw _ (List.mem_of_getElem? (i := 35) rfl))) (Or.inr (hw _ (List.mem_of_getElem? (i := 33) rfl))) (by decide) (t := (.object "java/lang/String")) (t' := (.object "com/example/nearfar/nearfar/StoredType")) (by decide) (by decide)))
  have f1034 : Fld Z h1029 a1 "com/example/nearfar/nearfar/DescriptorSet$Field" "enumType" "Ljava/lang/String;" .null := f1026.other W1029 (Or.inr (slot_ne (Or.inr (hw _ (List.mem_of_getElem? (i := 37) rfl))) (Or.inr (hw _ (List.mem_of_getElem? (i := 33) rfl))) (by decide) (t := (.object "java/lang/String")) (t' := (.object "com/example/nearfar/nearfar/StoredType")) (by decide) (by decide)))
  have f1035 : Fld Z h1029 a1 "com/example/nearfar/nearfar/DescriptorSet$Field" "name" "Ljava/lang/String;" (.ref a2) := f1027.other W1029 (Or.inr (slot_ne (Or.inr (hw _ (List.mem_of_getElem? (i := 27) rfl))) (Or.inr (hw _ (List.mem_of_getElem? (i := 33) rfl))) (by decide) (t := (.object "java/lang/String")) (t' := (.object "com/example/nearfar/nearfar/StoredType")) (by decide) (by decide)))
  have f1036 : Fld Z h1029 a1 "com/example/nearfar/nearfar/DescriptorSet$Field" "number" "I" (.int (2 : Int32)) := f1028.other W1029 (Or.inr (slot_ne (Or.inr (hw _ (List.mem_of_getElem? (i := 29) rfl))) (Or.inr (hw _ (List.mem_of_getElem? (i := 33) rfl))) (by decide) (t := .int) (t' := (.object "com/example/nearfar/nearfar/StoredType")) (by decide) (by decide)))
  have f1037 : Fld Z h1029 a1 "com/example/nearfar/nearfar/DescriptorSet$Field" "repeated" "Z" (.int p4) := f1021.other W1029 (Or.inr (slot_ne (Or.inr (hw _ (List.mem_of_getElem? (i := 31) rfl))) (Or.inr (hw _ (List.mem_of_getElem? (i := 33) rfl))) (by decide) (t := .boolean) (t' := (.object "com/example/nearfar/nearfar/StoredType")) (by decide) (by decide)))
  have N1029 := Fr.snoc X1029 N1020 g_a1
  have KK1029 : Keep h0 h1029 [a1] := KK1020.wr W1029 (Or.inl (List.mem_of_getElem? (i := 0) rfl))
  have Z1029 := Nat.le_trans Z1020 (Keep.of_wr W1029).1
  show OEnds p.tables e below G (T1029.setTop (mkF m 25 #[.val (.ref a1), .val (.ref a2), .val (.int (2 : Int32)), .val (.int p4), .val (.ref a5), .val (.ref a6), .val .null] []))
  refine OEnds.st (fun _ k => XS.aloadN X1029.here hx rfl (hb hby d2_25) rfl rfl k) ?_
  show OEnds p.tables e below G (T1029.setTop (mkF m 26 #[.val (.ref a1), .val (.ref a2), .val (.int (2 : Int32)), .val (.int p4), .val (.ref a5), .val (.ref a6), .val .null] [(.ref a1)]))
  refine OEnds.st (fun _ k => XS.aload X1029.here hx rfl (hb hby d2_26) rfl rfl k) ?_
  show OEnds p.tables e below G (T1029.setTop (mkF m 28 #[.val (.ref a1), .val (.ref a2), .val (.int (2 : Int32)), .val (.int p4), .val (.ref a5), .val (.ref a6), .val .null] [(.ref a6), (.ref a1)]))
  obtain ⟨T1038, h1038, X1038, e1038, W1038, st1038⟩ := putF X1029 hx hZ hown (host := "") (Or.inl (hw _ (List.mem_of_getElem? (i := 34) rfl))) Via.refl e1029 f1033 f1031 (Or.inr ⟨(hw _ (List.mem_of_getElem? (i := 35) rfl)), rfl, hnm⟩) (hw _ (List.mem_of_getElem? (i := 17) rfl)) (ty := (.object "java/lang/String")) (by decide) rfl rfl (g := (mkF m 28 #[.val (.ref a1), .val (.ref a2), .val (.int (2 : Int32)), .val (.int p4), .val (.ref a5), .val (.ref a6), .val .null] [(.ref a6), (.ref a1)])) rfl rfl (hb hby d2_28)
  refine OEnds.st st1038 ?_
  have f1039 : Fld Z h1038 a1 "com/example/nearfar/nearfar/DescriptorSet$Field" "messageType" "Ljava/lang/String;" (.ref a6) := f1033.same W1038
  have f1040 : Exa Z h1038 a1 "com/example/nearfar/nearfar/DescriptorSet$Field" := f1031.wr W1038
  have f1042 : Fld Z h1038 a1 "com/example/nearfar/nearfar/DescriptorSet$Field" "enumType" "Ljava/lang/String;" .null := f1034.other W1038 (Or.inr (slot_ne (Or.inr (hw _ (List.mem_of_getElem? (i := 37) rfl))) (Or.inr (hw _ (List.mem_of_getElem? (i := 35) rfl))) (by decide) (t := (.object "java/lang/String")) (t' := (.object "java/lang/String")) (by decide) (by decide)))
  have f1043 : Fld Z h1038 a1 "com/example/nearfar/nearfar/DescriptorSet$Field" "name" "Ljava/lang/String;" (.ref a2) := f1035.other W1038 (Or.inr (slot_ne (Or.inr (hw _ (List.mem_of_getElem? (i := 27) rfl))) (Or.inr (hw _ (List.mem_of_getElem? (i := 35) rfl))) (by decide) (t := (.object "java/lang/String")) (t' := (.object "java/lang/String")) (by decide) (by decide)))
  have f1044 : Fld Z h1038 a1 "com/example/nearfar/nearfar/DescriptorSet$Field" "number" "I" (.int (2 : Int32)) := f1036.other W1038 (Or.inr (slot_ne (Or.inr (hw _ (List.mem_of_getElem? (i := 29) rfl))) (Or.inr (hw _ (List.mem_of_getElem? (i := 35) rfl))) (by decide) (t := .int) (t' := (.object "java/lang/String")) (by decide) (by decide)))
  have f1045 : Fld Z h1038 a1 "com/example/nearfar/nearfar/DescriptorSet$Field" "repeated" "Z" (.int p4) := f1037.other W1038 (Or.inr (slot_ne (Or.inr (hw _ (List.mem_of_getElem? (i := 31) rfl))) (Or.inr (hw _ (List.mem_of_getElem? (i := 35) rfl))) (by decide) (t := .boolean) (t' := (.object "java/lang/String")) (by decide) (by decide)))
  have f1046 : Fld Z h1038 a1 "com/example/nearfar/nearfar/DescriptorSet$Field" "stored" "Lcom/example/nearfar/nearfar/StoredType;" (.ref a5) := f1030.other W1038 (Or.inr (slot_ne (Or.inr (hw _ (List.mem_of_getElem? (i := 33) rfl))) (Or.inr (hw _ (List.mem_of_getElem? (i := 35) rfl))) (by decide) (t := (.object "com/example/nearfar/nearfar/StoredType")) (t' := (.object "java/lang/String")) (by decide) (by decide)))
  have N1038 := Fr.snoc X1038 N1029 g_a1
  have KK1038 : Keep h0 h1038 [a1] := KK1029.wr W1038 (Or.inl (List.mem_of_getElem? (i := 0) rfl))
  have Z1038 := Nat.le_trans Z1029 (Keep.of_wr W1038).1
  show OEnds p.tables e below G (T1038.setTop (mkF m 31 #[.val (.ref a1), .val (.ref a2), .val (.int (2 : Int32)), .val (.int p4), .val (.ref a5), .val (.ref a6), .val .null] []))
  refine OEnds.st (fun _ k => XS.aloadN X1038.here hx rfl (hb hby d2_31) rfl rfl k) ?_
  show OEnds p.tables e below G (T1038.setTop (mkF m 32 #[.val (.ref a1), .val (.ref a2), .val (.int (2 : Int32)), .val (.int p4), .val (.ref a5), .val (.ref a6), .val .null] [(.ref a1)]))
  refine OEnds.st (fun _ k => XS.aload X1038.here hx rfl (hb hby d2_32) rfl rfl k) ?_
  show OEnds p.tables e below G (T1038.setTop (mkF m 34 #[.val (.ref a1), .val (.ref a2), .val (.int (2 : Int32)), .val (.int p4), .val (.ref a5), .val (.ref a6), .val .null] [.null, (.ref a1)]))
  obtain ⟨T1047, h1047, X1047, e1047, W1047, st1047⟩ := putF X1038 hx hZ hown (host := "") (Or.inl (hw _ (List.mem_of_getElem? (i := 36) rfl))) Via.refl e1038 f1042 f1040 (Or.inr ⟨(hw _ (List.mem_of_getElem? (i := 37) rfl)), rfl, hnm⟩) (hw _ (List.mem_of_getElem? (i := 17) rfl)) (ty := (.object "java/lang/String")) (by decide) rfl rfl (g := (mkF m 34 #[.val (.ref a1), .val (.ref a2), .val (.int (2 : Int32)), .val (.int p4), .val (.ref a5), .val (.ref a6), .val .null] [.null, (.ref a1)])) rfl rfl (hb hby d2_34)
  refine OEnds.st st1047 ?_
  have f1048 : Fld Z h1047 a1 "com/example/nearfar/nearfar/DescriptorSet$Field" "enumType" "Ljava/lang/String;" .null := f1042.same W1047
  have f1049 : Exa Z h1047 a1 "com/example/nearfar/nearfar/DescriptorSet$Field" := f1040.wr W1047
  have f1051 : Fld Z h1047 a1 "com/example/nearfar/nearfar/DescriptorSet$Field" "name" "Ljava/lang/String;" (.ref a2) := f1043.other W1047 (Or.inr (slot_ne (Or.inr (hw _ (List.mem_of_getElem? (i := 27) rfl))) (Or.inr (hw _ (List.mem_of_getElem? (i := 37) rfl))) (by decide) (t := (.object "java/lang/String")) (t' := (.object "java/lang/String")) (by decide) (by decide)))
  have f1052 : Fld Z h1047 a1 "com/example/nearfar/nearfar/DescriptorSet$Field" "number" "I" (.int (2 : Int32)) := f1044.other W1047 (Or.inr (slot_ne (Or.inr (hw _ (List.mem_of_getElem? (i := 29) rfl))) (Or.inr (hw _ (List.mem_of_getElem? (i := 37) rfl))) (by decide) (t := .int) (t' := (.object "java/lang/String")) (by decide) (by decide)))
  have f1053 : Fld Z h1047 a1 "com/example/nearfar/nearfar/DescriptorSet$Field" "repeated" "Z" (.int p4) := f1045.other W1047 (Or.inr (slot_ne (Or.inr (hw _ (List.mem_of_getElem? (i := 31) rfl))) (Or.inr (hw _ (List.mem_of_getElem? (i := 37) rfl))) (by decide) (t := .boolean) (t' := (.object "java/lang/String")) (by decide) (by decide)))
  have f1054 : Fld Z h1047 a1 "com/example/nearfar/nearfar/DescriptorSet$Field" "stored" "Lcom/example/nearfar/nearfar/StoredType;" (.ref a5) := f1046.other W1047 (Or.inr (slot_ne (Or.inr (hw _ (List.mem_of_getElem? (i := 33) rfl))) (Or.inr (hw _ (List.mem_of_getElem? (i := 37) rfl))) (by decide) (t := (.object "com/example/nearfar/nearfar/StoredType")) (t' := (.object "java/lang/String")) (by decide) (by decide)))
  have f1055 : Fld Z h1047 a1 "com/example/nearfar/nearfar/DescriptorSet$Field" "messageType" "Ljava/lang/String;" (.ref a6) := f1039.other W1047 (Or.inr (slot_ne (Or.inr (hw _ (List.mem_of_getElem? (i := 35) rfl))) (Or.inr (hw _ (List.mem_of_getElem? (i := 37) rfl))) (by decide) (t := (.object "java/lang/String")) (t' := (.object "java/lang/String")) (by decide) (by decide)))
  have N1047 := Fr.snoc X1047 N1038 g_a1
  have KK1047 : Keep h0 h1047 [a1] := KK1038.wr W1047 (Or.inl (List.mem_of_getElem? (i := 0) rfl))
  have Z1047 := Nat.le_trans Z1038 (Keep.of_wr W1047).1
  show OEnds p.tables e below G (T1047.setTop (mkF m 37 #[.val (.ref a1), .val (.ref a2), .val (.int (2 : Int32)), .val (.int p4), .val (.ref a5), .val (.ref a6), .val .null] []))
  rw [← hG]
  refine OEnds.retV X1047 hx hlk Bd.returns (hb hby d2_37) (by decide) (by decide) ?_
  rw [e1047]
  exact ⟨rfl, N1047, KK1047, f1049, f1051, f1052, f1053, f1054, f1055, f1048⟩
theorem d6_0 : decode prog_51_method_6_code 0 = .ok (.aload_n 0, 1) := by decide +kernel
theorem d6_1 : decode prog_51_method_6_code 1 = .ok (.getfield 57, 3) := by decide +kernel
theorem d6_4 : decode prog_51_method_6_code 4 = .ok (.ireturn, 1) := by decide +kernel
theorem pn_2 : plainName "com/example/nearfar/nearfar/StoredType" = true := by first | (simp [plainName, overriddenIn]; done) | decide +kernel
theorem ef_6 (m : MethodId) (a1 : Addr) : entryFrame m #[(.ref a1)] 1 = mkF m 0 #[.val (.ref a1)] [] := by first | (simp [entryFrame, mkF, argsToLocals, Value.category]; done) | rfl
def Q6 (Z : State) (a1 : Addr) (w : Int32) (h0 : Heap) (n0 : Nat) (v : Option Value) (h : Heap) (L : List Loc) : Prop := v = some (.int w) ∧ Fr n0 L ∧ h = h0
set_option maxRecDepth 65536 in
set_option maxHeartbeats 40000000 in
theorem rm6 (l : Launch) (Z : State) (a0 : Array Value) (hw : ∀ d ∈ tables_1, d.before a0 Z = true) (ws : List Jvm.Cond) (a1 : Addr) (w : Int32) (h0 : Heap) (n0 : Nat) (Z0 : n0 ≤ h0.size) (F : Fld Z h0 a1 "com/example/nearfar/nearfar/StoredType" "wireType" "I" (.int w)) :
    MetFree l (⟨"com/example/nearfar/nearfar/StoredType", "wireType", "()I"⟩ : MethodName) (head1 (Jvm.Cond.code (⟨"com/example/nearfar/nearfar/StoredType", "wireType", "()I"⟩ : MethodName) prog_51_method_6_code 1 (some .int) :: ws) ({ frames := 0, cells := 0, slots := 0, locals := 0 } : Room)) (fun a U => a = #[(.ref a1)] ∧ Z.Warmed39 U.vm ∧ U.heap = h0) (fun _ _ _ _ _ => True) (fun _ U o U' => ∃ v L, o = .returned v ∧ Q6 Z a1 w h0 n0 v U'.heap L ∧ FrameEnd U o U' L ({ frames := 0, cells := 0, slots := 0, locals := 0 } : Room).cells ({ frames := 0, cells := 0, slots := 0, locals := 0 } : Room).slots) := by
  refine MetFree.of_bodySF (plainFor_of_name pn_2) hisR ?_
  intro p e s m args below meth c s₁ Bd hml0 hP hK
  obtain ⟨rfl, hZ, hh⟩ := hP
  have hx := Bd.exec
  have hby := Bd.bytes
  have hml : c.maxLocals = 1 := hml0
  have hown : s.vm.findClass "com/example/nearfar/nearfar/StoredType" = some m.cls := findClass_of_methodNamed Bd.named
  have hnm := (name_of_methodNamed Bd.named Bd.method).1
  have hlk : meth.locks = false := BodyLoose.notSynchronized Bd
  have X0 : Stand p l e ({ frames := 0, cells := 0, slots := 0, locals := 0 } : Room) s m #[(.ref a1)] below meth c s₁ [] 0 0 := Stand.of_body Bd
  have e0 : s₁.heap = h0 := by rw [← hh, Bd.state]; rfl
  have N0 := Fr.nil n0
  show OEnds p.tables e below (OGoal (Q6 Z a1 w h0 n0) s 0 0) (s₁.setTop (entryFrame m #[(.ref a1)] 1))
  refine OEnds.st (fun t k => castTop (ef_6 m a1) k) ?_
  generalize hG : OGoal (Q6 Z a1 w h0 n0) s 0 0 = G
  have KK0 : Keep h0 h0 [] := Keep.refl h0 []
  show OEnds p.tables e below G (s₁.setTop (mkF m 0 #[.val (.ref a1)] []))
  refine OEnds.st (fun _ k => XS.aloadN X0.here hx rfl (hb hby d6_0) rfl rfl k) ?_
  show OEnds p.tables e below G (s₁.setTop (mkF m 1 #[.val (.ref a1)] [(.ref a1)]))
  obtain ⟨T1001, X1001, e1001, st1001⟩ := getF X0 hx hZ hown (host := "") (Or.inl (hw _ (List.mem_of_getElem? (i := 51) rfl))) Via.refl e0 F (g := (mkF m 1 #[.val (.ref a1)] [(.ref a1)])) rfl rfl (hb hby d6_1)
  refine OEnds.st st1001 ?_
  show OEnds p.tables e below G (T1001.setTop (mkF m 4 #[.val (.ref a1)] [(.int w)]))
  rw [← hG]
  refine OEnds.retI X1001 hx hlk Bd.returns (hb hby d6_4) (by decide) (by decide) ?_
  rw [e1001]
  exact ⟨rfl, N0, rfl⟩
theorem d7_0 : decode prog_51_method_7_code 0 = .ok (.aload_n 0, 1) := by decide +kernel
theorem d7_1 : decode prog_51_method_7_code 1 = .ok (.getfield 57, 3) := by decide +kernel
theorem d7_4 : decode prog_51_method_7_code 4 = .ok (.iconst 2, 1) := by decide +kernel
theorem d7_5 : decode prog_51_method_7_code 5 = .ok (.if_icmp .eq 7, 3) := by decide +kernel
theorem d7_8 : decode prog_51_method_7_code 8 = .ok (.iconst 1, 1) := by decide +kernel
theorem d7_9 : decode prog_51_method_7_code 9 = .ok (.goto 4, 3) := by decide +kernel
theorem d7_12 : decode prog_51_method_7_code 12 = .ok (.iconst 0, 1) := by decide +kernel
theorem d7_13 : decode prog_51_method_7_code 13 = .ok (.ireturn, 1) := by decide +kernel
theorem ef_7 (m : MethodId) (a1 : Addr) : entryFrame m #[(.ref a1)] 1 = mkF m 0 #[.val (.ref a1)] [] := by first | (simp [entryFrame, mkF, argsToLocals, Value.category]; done) | rfl
def Q7 (Z : State) (a1 : Addr) (w : Int32) (h0 : Heap) (n0 : Nat) (v : Option Value) (h : Heap) (L : List Loc) : Prop := v = some (.int (own_packed w)) ∧ Fr n0 L ∧ h = h0
set_option maxRecDepth 65536 in
set_option maxHeartbeats 40000000 in
theorem rm7 (l : Launch) (Z : State) (a0 : Array Value) (hw : ∀ d ∈ tables_1, d.before a0 Z = true) (ws : List Jvm.Cond) (a1 : Addr) (w : Int32) (h0 : Heap) (n0 : Nat) (Z0 : n0 ≤ h0.size) (F : Fld Z h0 a1 "com/example/nearfar/nearfar/StoredType" "wireType" "I" (.int w)) :
    MetFree l (⟨"com/example/nearfar/nearfar/StoredType", "packed", "()Z"⟩ : MethodName) (head1 (Jvm.Cond.code (⟨"com/example/nearfar/nearfar/StoredType", "packed", "()Z"⟩ : MethodName) prog_51_method_7_code 1 (some .boolean) :: ws) ({ frames := 0, cells := 0, slots := 0, locals := 0 } : Room)) (fun a U => a = #[(.ref a1)] ∧ Z.Warmed39 U.vm ∧ U.heap = h0) (fun _ _ _ _ _ => True) (fun _ U o U' => ∃ v L, o = .returned v ∧ Q7 Z a1 w h0 n0 v U'.heap L ∧ FrameEnd U o U' L ({ frames := 0, cells := 0, slots := 0, locals := 0 } : Room).cells ({ frames := 0, cells := 0, slots := 0, locals := 0 } : Room).slots) := by
  refine MetFree.of_bodySF (plainFor_of_name pn_2) hisR ?_
  intro p e s m args below meth c s₁ Bd hml0 hP hK
  obtain ⟨rfl, hZ, hh⟩ := hP
  have hx := Bd.exec
  have hby := Bd.bytes
  have hml : c.maxLocals = 1 := hml0
  have hown : s.vm.findClass "com/example/nearfar/nearfar/StoredType" = some m.cls := findClass_of_methodNamed Bd.named
  have hnm := (name_of_methodNamed Bd.named Bd.method).1
  have hlk : meth.locks = false := BodyLoose.notSynchronized Bd
  have X0 : Stand p l e ({ frames := 0, cells := 0, slots := 0, locals := 0 } : Room) s m #[(.ref a1)] below meth c s₁ [] 0 0 := Stand.of_body Bd
  have e0 : s₁.heap = h0 := by rw [← hh, Bd.state]; rfl
  have N0 := Fr.nil n0
  show OEnds p.tables e below (OGoal (Q7 Z a1 w h0 n0) s 0 0) (s₁.setTop (entryFrame m #[(.ref a1)] 1))
  refine OEnds.st (fun t k => castTop (ef_7 m a1) k) ?_
  generalize hG : OGoal (Q7 Z a1 w h0 n0) s 0 0 = G
  have KK0 : Keep h0 h0 [] := Keep.refl h0 []
  show OEnds p.tables e below G (s₁.setTop (mkF m 0 #[.val (.ref a1)] []))
  refine OEnds.st (fun _ k => XS.aloadN X0.here hx rfl (hb hby d7_0) rfl rfl k) ?_
  show OEnds p.tables e below G (s₁.setTop (mkF m 1 #[.val (.ref a1)] [(.ref a1)]))
  obtain ⟨T1001, X1001, e1001, st1001⟩ := getF X0 hx hZ hown (host := "") (Or.inl (hw _ (List.mem_of_getElem? (i := 51) rfl))) Via.refl e0 F (g := (mkF m 1 #[.val (.ref a1)] [(.ref a1)])) rfl rfl (hb hby d7_1)
  refine OEnds.st st1001 ?_
  show OEnds p.tables e below G (T1001.setTop (mkF m 4 #[.val (.ref a1)] [(.int w)]))
  refine OEnds.st (fun _ k => XS.iconst X1001.here hx rfl (hb hby d7_4) k) ?_
  show OEnds p.tables e below G (T1001.setTop (mkF m 5 #[.val (.ref a1)] [(.int (2 : Int32)), (.int w)]))
  by_cases hc5_1002 : w = (2 : Int32)
  · -- pc 5: yes
    refine OEnds.st (fun _ k => XS.icmpYes X1001.here hx rfl (pc0 := 5) (pc' := 12) rfl (hb hby d7_5) rfl (teq hc5_1002).1 (by decide) (by decide) k) ?_
    show OEnds p.tables e below G (T1001.setTop (mkF m 12 #[.val (.ref a1)] []))
    refine OEnds.st (fun _ k => XS.iconst X1001.here hx rfl (hb hby d7_12) k) ?_
    show OEnds p.tables e below G (T1001.setTop (mkF m 13 #[.val (.ref a1)] [(.int (0 : Int32))]))
    rw [← hG]
    refine OEnds.retZ X1001 hx hlk Bd.returns rfl (hb hby d7_13) (by decide) (by decide) ?_
    rw [e1001]
    exact ⟨by simp [own_packed, hc5_1002], N0, rfl⟩
  · -- pc 5: no
    refine OEnds.st (fun _ k => XS.icmpNo X1001.here hx rfl (hb hby d7_5) rfl (feq hc5_1002).1 k) ?_
    show OEnds p.tables e below G (T1001.setTop (mkF m 8 #[.val (.ref a1)] []))
    refine OEnds.st (fun _ k => XS.iconst X1001.here hx rfl (hb hby d7_8) k) ?_
    show OEnds p.tables e below G (T1001.setTop (mkF m 9 #[.val (.ref a1)] [(.int (1 : Int32))]))
    refine OEnds.st (fun _ k => XS.goto X1001.here hx rfl (pc0 := 9) (pc' := 13) rfl (hb hby d7_9) (by decide) (by decide) k) ?_
    show OEnds p.tables e below G (T1001.setTop (mkF m 13 #[.val (.ref a1)] [(.int (1 : Int32))]))
    rw [← hG]
    refine OEnds.retZ X1001 hx hlk Bd.returns rfl (hb hby d7_13) (by decide) (by decide) ?_
    rw [e1001]
    exact ⟨by simp [own_packed, hc5_1002], N0, rfl⟩
theorem d5_0 : decode prog_16_method_5_code 0 = .ok (.aload_n 0, 1) := by decide +kernel
theorem d5_1 : decode prog_16_method_5_code 1 = .ok (.getfield 21, 3) := by decide +kernel
theorem d5_4 : decode prog_16_method_5_code 4 = .ok (.ifnull 42, 3) := by decide +kernel
theorem d5_7 : decode prog_16_method_5_code 7 = .ok (.iload_n 1, 1) := by decide +kernel
theorem d5_8 : decode prog_16_method_5_code 8 = .ok (.aload_n 0, 1) := by decide +kernel
theorem d5_9 : decode prog_16_method_5_code 9 = .ok (.getfield 21, 3) := by decide +kernel
theorem d5_12 : decode prog_16_method_5_code 12 = .ok (.invokevirtual 31, 3) := by decide +kernel
theorem d5_15 : decode prog_16_method_5_code 15 = .ok (.if_icmp .eq 25, 3) := by decide +kernel
theorem d5_18 : decode prog_16_method_5_code 18 = .ok (.aload_n 0, 1) := by decide +kernel
theorem d5_19 : decode prog_16_method_5_code 19 = .ok (.getfield 17, 3) := by decide +kernel
theorem d5_22 : decode prog_16_method_5_code 22 = .ok (.ifCond .eq 22, 3) := by decide +kernel
theorem d5_25 : decode prog_16_method_5_code 25 = .ok (.aload_n 0, 1) := by decide +kernel
theorem d5_26 : decode prog_16_method_5_code 26 = .ok (.getfield 21, 3) := by decide +kernel
theorem d5_29 : decode prog_16_method_5_code 29 = .ok (.invokevirtual 37, 3) := by decide +kernel
theorem d5_32 : decode prog_16_method_5_code 32 = .ok (.ifCond .eq 12, 3) := by decide +kernel
theorem d5_35 : decode prog_16_method_5_code 35 = .ok (.iload_n 1, 1) := by decide +kernel
theorem d5_36 : decode prog_16_method_5_code 36 = .ok (.iconst 2, 1) := by decide +kernel
theorem d5_37 : decode prog_16_method_5_code 37 = .ok (.if_icmp .ne 7, 3) := by decide +kernel
theorem d5_40 : decode prog_16_method_5_code 40 = .ok (.iconst 1, 1) := by decide +kernel
theorem d5_41 : decode prog_16_method_5_code 41 = .ok (.goto 4, 3) := by decide +kernel
theorem d5_44 : decode prog_16_method_5_code 44 = .ok (.iconst 0, 1) := by decide +kernel
theorem d5_45 : decode prog_16_method_5_code 45 = .ok (.ireturn, 1) := by decide +kernel
theorem d5_46 : decode prog_16_method_5_code 46 = .ok (.aload_n 0, 1) := by decide +kernel
theorem d5_47 : decode prog_16_method_5_code 47 = .ok (.getfield 25, 3) := by decide +kernel
theorem d5_50 : decode prog_16_method_5_code 50 = .ok (.ifnull 8, 3) := by decide +kernel
theorem d5_53 : decode prog_16_method_5_code 53 = .ok (.iload_n 1, 1) := by decide +kernel
theorem d5_54 : decode prog_16_method_5_code 54 = .ok (.iconst 2, 1) := by decide +kernel
theorem d5_55 : decode prog_16_method_5_code 55 = .ok (.if_icmp .ne 7, 3) := by decide +kernel
theorem d5_58 : decode prog_16_method_5_code 58 = .ok (.iconst 1, 1) := by decide +kernel
theorem d5_59 : decode prog_16_method_5_code 59 = .ok (.goto 4, 3) := by decide +kernel
theorem d5_62 : decode prog_16_method_5_code 62 = .ok (.iconst 0, 1) := by decide +kernel
theorem d5_63 : decode prog_16_method_5_code 63 = .ok (.ireturn, 1) := by decide +kernel
theorem ef_alO (m : MethodId) (a1 : Addr) (p2 : Int32) : entryFrame m #[(.ref a1), (.int p2)] 2 = mkF m 0 #[.val (.ref a1), .val (.int p2)] [] := by first | (simp [entryFrame, mkF, argsToLocals, Value.category]; done) | rfl
def QalO (Z : State) (a1 : Addr) (p2 : Int32) (ob : Addr) (K : String) (w : Int32) (rp : Int32) (h0 : Heap) (n0 : Nat) (v : Option Value) (h : Heap) (L : List Loc) : Prop := v = some (.int (own_al p2 w rp)) ∧ Fr n0 L ∧ h = h0
theorem pd_0 : parseMethodDescriptor "()I" = some ⟨[], some .int⟩ := by decide +kernel
theorem pd_1 : parseMethodDescriptor "()Z" = some ⟨[], some .boolean⟩ := by decide +kernel
set_option maxRecDepth 65536 in
set_option maxHeartbeats 40000000 in
theorem rmalO (l : Launch) (Z : State) (a0 : Array Value) (hw : ∀ d ∈ tables_1, d.before a0 Z = true) (ws : List Jvm.Cond) (a1 : Addr) (p2 : Int32) (ob : Addr) (K : String) (w : Int32) (rp : Int32) (h0 : Heap) (n0 : Nat) (Z0 : n0 ≤ h0.size) (Fstored : Fld Z h0 a1 "com/example/nearfar/nearfar/DescriptorSet$Field" "stored" "Lcom/example/nearfar/nearfar/StoredType;" (.ref ob)) (Frepeated : Fld Z h0 a1 "com/example/nearfar/nearfar/DescriptorSet$Field" "repeated" "Z" (.int rp)) (Eo : Exa Z h0 ob K) (Fo : Fld Z h0 ob "com/example/nearfar/nearfar/StoredType" "wireType" "I" (.int w)) (hsW : (Jvm.Cond.selects K ({ cls := "com/example/nearfar/nearfar/StoredType", name := "wireType", desc := "()I" } : MethodName) ({ cls := "com/example/nearfar/nearfar/StoredType", name := "wireType", desc := "()I" } : MethodName)).before a0 Z = true) (hsP : (Jvm.Cond.selects K ({ cls := "com/example/nearfar/nearfar/StoredType", name := "packed", desc := "()Z" } : MethodName) ({ cls := "com/example/nearfar/nearfar/StoredType", name := "packed", desc := "()Z" } : MethodName)).before a0 Z = true) :
    MetFree l (⟨"com/example/nearfar/nearfar/DescriptorSet$Field", "allows", "(I)Z"⟩ : MethodName) (head1 (Jvm.Cond.code (⟨"com/example/nearfar/nearfar/DescriptorSet$Field", "allows", "(I)Z"⟩ : MethodName) prog_16_method_5_code 2 (some .boolean) :: ws) ({ frames := 1, cells := 0, slots := 0, locals := 13 } : Room)) (fun a U => a = #[(.ref a1), (.int p2)] ∧ Z.Warmed39 U.vm ∧ U.heap = h0) (fun _ _ _ _ _ => True) (fun _ U o U' => ∃ v L, o = .returned v ∧ QalO Z a1 p2 ob K w rp h0 n0 v U'.heap L ∧ FrameEnd U o U' L ({ frames := 1, cells := 0, slots := 0, locals := 13 } : Room).cells ({ frames := 1, cells := 0, slots := 0, locals := 13 } : Room).slots) := by
  refine MetFree.of_bodySF (plainFor_of_name pn_1) hisR ?_
  intro p e s m args below meth c s₁ Bd hml0 hP hK
  obtain ⟨rfl, hZ, hh⟩ := hP
  have hx := Bd.exec
  have hby := Bd.bytes
  have hml : c.maxLocals = 2 := hml0
  have hown : s.vm.findClass "com/example/nearfar/nearfar/DescriptorSet$Field" = some m.cls := findClass_of_methodNamed Bd.named
  have hnm := (name_of_methodNamed Bd.named Bd.method).1
  have hlk : meth.locks = false := BodyLoose.notSynchronized Bd
  have X0 : Stand p l e ({ frames := 1, cells := 0, slots := 0, locals := 13 } : Room) s m #[(.ref a1), (.int p2)] below meth c s₁ [] 0 0 := Stand.of_body Bd
  have e0 : s₁.heap = h0 := by rw [← hh, Bd.state]; rfl
  have N0 := Fr.nil n0
  show OEnds p.tables e below (OGoal (QalO Z a1 p2 ob K w rp h0 n0) s 0 0) (s₁.setTop (entryFrame m #[(.ref a1), (.int p2)] 2))
  refine OEnds.st (fun t k => castTop (ef_alO m a1 p2) k) ?_
  generalize hG : OGoal (QalO Z a1 p2 ob K w rp h0 n0) s 0 0 = G
  have KK0 : Keep h0 h0 [] := Keep.refl h0 []
  show OEnds p.tables e below G (s₁.setTop (mkF m 0 #[.val (.ref a1), .val (.int p2)] []))
  refine OEnds.st (fun _ k => XS.aloadN X0.here hx rfl (hb hby d5_0) rfl rfl k) ?_
  show OEnds p.tables e below G (s₁.setTop (mkF m 1 #[.val (.ref a1), .val (.int p2)] [(.ref a1)]))
  obtain ⟨T1001, X1001, e1001, st1001⟩ := getF X0 hx hZ hown (host := "") (Or.inl (hw _ (List.mem_of_getElem? (i := 32) rfl))) Via.refl e0 Fstored (g := (mkF m 1 #[.val (.ref a1), .val (.int p2)] [(.ref a1)])) rfl rfl (hb hby d5_1)
  refine OEnds.st st1001 ?_
  show OEnds p.tables e below G (T1001.setTop (mkF m 4 #[.val (.ref a1), .val (.int p2)] [(.ref ob)]))
  refine OEnds.st (fun _ k => XS.ifnullNo X1001.here hx rfl (hb hby d5_4) rfl k) ?_
  show OEnds p.tables e below G (T1001.setTop (mkF m 7 #[.val (.ref a1), .val (.int p2)] []))
  refine OEnds.st (fun _ k => XS.iloadN X1001.here hx rfl (hb hby d5_7) rfl k) ?_
  show OEnds p.tables e below G (T1001.setTop (mkF m 8 #[.val (.ref a1), .val (.int p2)] [(.int p2)]))
  refine OEnds.st (fun _ k => XS.aloadN X1001.here hx rfl (hb hby d5_8) rfl rfl k) ?_
  show OEnds p.tables e below G (T1001.setTop (mkF m 9 #[.val (.ref a1), .val (.int p2)] [(.ref a1), (.int p2)]))
  obtain ⟨T1002, X1002, e1002, st1002⟩ := getF X1001 hx hZ hown (host := "") (Or.inl (hw _ (List.mem_of_getElem? (i := 32) rfl))) Via.refl e1001 Fstored (g := (mkF m 9 #[.val (.ref a1), .val (.int p2)] [(.ref a1), (.int p2)])) rfl rfl (hb hby d5_9)
  refine OEnds.st st1002 ?_
  show OEnds p.tables e below G (T1002.setTop (mkF m 12 #[.val (.ref a1), .val (.int p2)] [(.ref ob), (.int p2)]))
  obtain ⟨cq1003, kq1003, q1003a, q1003b, q1003c⟩ := isOf hZ e1002 Eo
  obtain ⟨_, _, ⟨T1003, L1003, k1003c, n1003c⟩, -, X1003, ⟨Lc1003, hQ1003, l1003, y1003, z1003⟩, st1003⟩ := X1002.virtualBack hx (y := (⟨"com/example/nearfar/nearfar/StoredType", "wireType", "()I"⟩ : MethodName)) (z := (⟨"com/example/nearfar/nearfar/StoredType", "wireType", "()I"⟩ : MethodName)) hown (mvT hZ (hw _ (List.mem_of_getElem? (i := 46) rfl))) (mvT hZ (hw _ (List.mem_of_getElem? (i := 47) rfl))) (notFace_of_selects (args := #[]) (mvT hZ hsW)) (mvT hZ hsW) (mvT hZ (hw _ (List.mem_of_getElem? (i := 48) rfl))) (by decide) (backOf (W := 1) (rm6 l Z a0 hw [] ob w h0 n0 Z0 Fo) hZ (hw _ (List.mem_of_getElem? (i := 50) rfl)) (hw _ (List.mem_of_getElem? (i := 6) rfl)) (by decide) (by decide)) q1003a q1003c (g := (mkF m 12 #[.val (.ref a1), .val (.int p2)] [(.ref ob), (.int p2)])) rfl (by rw [hml]; rfl) (Steps.refl _) (argsL := []) (rest := [(.int p2)]) (lenOf pd_0 rfl) rfl (by show 2 * 0 + _ ≤ _; exact Nat.le_of_eq rfl) (hb hby d5_12) (fun _ _ => ⟨rfl, e1002, (by decide : 0 + 0 ≤ _), (by decide : 0 + 0 ≤ _)⟩)
  dsimp only [Pt.U, Pt.locs, Pt.cells, Pt.slots] at X1003 l1003 y1003 z1003 st1003 hQ1003
  subst l1003 y1003 z1003
  obtain ⟨rfl, N1003q, e1003⟩ := hQ1003
  have N1003 := Fr.app N0 N1003q
  refine OEnds.st (fun _ k => st1003.trans k) ?_
  show OEnds p.tables e below G (T1003.setTop (mkF m 15 #[.val (.ref a1), .val (.int p2)] [(.int w), (.int p2)]))
  by_cases hc15_1004 : p2 = w
  · -- pc 15: yes
    refine OEnds.st (fun _ k => XS.icmpYes X1003.here hx rfl (pc0 := 15) (pc' := 40) rfl (hb hby d5_15) rfl (teq hc15_1004).1 (by decide) (by decide) k) ?_
    show OEnds p.tables e below G (T1003.setTop (mkF m 40 #[.val (.ref a1), .val (.int p2)] []))
    refine OEnds.st (fun _ k => XS.iconst X1003.here hx rfl (hb hby d5_40) k) ?_
    show OEnds p.tables e below G (T1003.setTop (mkF m 41 #[.val (.ref a1), .val (.int p2)] [(.int (1 : Int32))]))
    refine OEnds.st (fun _ k => XS.goto X1003.here hx rfl (pc0 := 41) (pc' := 45) rfl (hb hby d5_41) (by decide) (by decide) k) ?_
    show OEnds p.tables e below G (T1003.setTop (mkF m 45 #[.val (.ref a1), .val (.int p2)] [(.int (1 : Int32))]))
    rw [← hG]
    refine OEnds.retZ X1003 hx hlk Bd.returns rfl (hb hby d5_45) (by decide) (by decide) ?_
    rw [e1003]
    exact ⟨by simp [own_al, hc15_1004], N1003, rfl⟩
  · -- pc 15: no
    refine OEnds.st (fun _ k => XS.icmpNo X1003.here hx rfl (hb hby d5_15) rfl (feq hc15_1004).1 k) ?_
    show OEnds p.tables e below G (T1003.setTop (mkF m 18 #[.val (.ref a1), .val (.int p2)] []))
    refine OEnds.st (fun _ k => XS.aloadN X1003.here hx rfl (hb hby d5_18) rfl rfl k) ?_
    show OEnds p.tables e below G (T1003.setTop (mkF m 19 #[.val (.ref a1), .val (.int p2)] [(.ref a1)]))
    obtain ⟨T1005, X1005, e1005, st1005⟩ := getF X1003 hx hZ hown (host := "") (Or.inl (hw _ (List.mem_of_getElem? (i := 30) rfl))) Via.refl e1003 Frepeated (g := (mkF m 19 #[.val (.ref a1), .val (.int p2)] [(.ref a1)])) rfl rfl (hb hby d5_19)
    refine OEnds.st st1005 ?_
    show OEnds p.tables e below G (T1005.setTop (mkF m 22 #[.val (.ref a1), .val (.int p2)] [(.int rp)]))
    by_cases hc22_1006 : rp = (0 : Int32)
    · -- pc 22: yes
      refine OEnds.st (fun _ k => XS.ifYes X1005.here hx rfl (pc0 := 22) (pc' := 44) rfl (hb hby d5_22) rfl ((if0 _ _).trans (teq hc22_1006).1) (by decide) (by decide) k) ?_
      show OEnds p.tables e below G (T1005.setTop (mkF m 44 #[.val (.ref a1), .val (.int p2)] []))
      refine OEnds.st (fun _ k => XS.iconst X1005.here hx rfl (hb hby d5_44) k) ?_
      show OEnds p.tables e below G (T1005.setTop (mkF m 45 #[.val (.ref a1), .val (.int p2)] [(.int (0 : Int32))]))
      rw [← hG]
      refine OEnds.retZ X1005 hx hlk Bd.returns rfl (hb hby d5_45) (by decide) (by decide) ?_
      rw [e1005]
      exact ⟨by simp [own_al, hc15_1004, hc22_1006], N1003, rfl⟩
    · -- pc 22: no
      refine OEnds.st (fun _ k => XS.ifNo X1005.here hx rfl (hb hby d5_22) rfl ((if0 _ _).trans (feq hc22_1006).1) k) ?_
      show OEnds p.tables e below G (T1005.setTop (mkF m 25 #[.val (.ref a1), .val (.int p2)] []))
      refine OEnds.st (fun _ k => XS.aloadN X1005.here hx rfl (hb hby d5_25) rfl rfl k) ?_
      show OEnds p.tables e below G (T1005.setTop (mkF m 26 #[.val (.ref a1), .val (.int p2)] [(.ref a1)]))
      obtain ⟨T1007, X1007, e1007, st1007⟩ := getF X1005 hx hZ hown (host := "") (Or.inl (hw _ (List.mem_of_getElem? (i := 32) rfl))) Via.refl e1005 Fstored (g := (mkF m 26 #[.val (.ref a1), .val (.int p2)] [(.ref a1)])) rfl rfl (hb hby d5_26)
      refine OEnds.st st1007 ?_
      show OEnds p.tables e below G (T1007.setTop (mkF m 29 #[.val (.ref a1), .val (.int p2)] [(.ref ob)]))
      obtain ⟨cq1008, kq1008, q1008a, q1008b, q1008c⟩ := isOf hZ e1007 Eo
      obtain ⟨_, _, ⟨T1008, L1008, k1008c, n1008c⟩, -, X1008, ⟨Lc1008, hQ1008, l1008, y1008, z1008⟩, st1008⟩ := X1007.virtualBack hx (y := (⟨"com/example/nearfar/nearfar/StoredType", "packed", "()Z"⟩ : MethodName)) (z := (⟨"com/example/nearfar/nearfar/StoredType", "packed", "()Z"⟩ : MethodName)) hown (mvT hZ (hw _ (List.mem_of_getElem? (i := 57) rfl))) (mvT hZ (hw _ (List.mem_of_getElem? (i := 58) rfl))) (notFace_of_selects (args := #[]) (mvT hZ hsP)) (mvT hZ hsP) (mvT hZ (hw _ (List.mem_of_getElem? (i := 59) rfl))) (by decide) (backOf (W := 0) (rm7 l Z a0 hw [] ob w h0 n0 Z0 Fo) hZ (hw _ (List.mem_of_getElem? (i := 61) rfl)) (hw _ (List.mem_of_getElem? (i := 6) rfl)) (by decide) (by decide)) q1008a q1008c (g := (mkF m 29 #[.val (.ref a1), .val (.int p2)] [(.ref ob)])) rfl (by rw [hml]; rfl) (Steps.refl _) (argsL := []) (rest := []) (lenOf pd_1 rfl) rfl (by show 2 * 0 + _ ≤ _; exact Nat.le_of_eq rfl) (hb hby d5_29) (fun _ _ => ⟨rfl, e1007, (by decide : 0 + 0 + 0 ≤ _), (by decide : 0 + 0 + 0 ≤ _)⟩)
      dsimp only [Pt.U, Pt.locs, Pt.cells, Pt.slots] at X1008 l1008 y1008 z1008 st1008 hQ1008
      subst l1008 y1008 z1008
      obtain ⟨rfl, N1008q, e1008⟩ := hQ1008
      have N1008 := Fr.app N1003 N1008q
      refine OEnds.st (fun _ k => st1008.trans k) ?_
      show OEnds p.tables e below G (T1008.setTop (mkF m 32 #[.val (.ref a1), .val (.int p2)] [(.int (own_packed w))]))
      by_cases hc32_1009 : (own_packed w) = (0 : Int32)
      · -- pc 32: yes
        refine OEnds.st (fun _ k => XS.ifYes X1008.here hx rfl (pc0 := 32) (pc' := 44) rfl (hb hby d5_32) rfl ((if0 _ _).trans (teq hc32_1009).1) (by decide) (by decide) k) ?_
        show OEnds p.tables e below G (T1008.setTop (mkF m 44 #[.val (.ref a1), .val (.int p2)] []))
        refine OEnds.st (fun _ k => XS.iconst X1008.here hx rfl (hb hby d5_44) k) ?_
        show OEnds p.tables e below G (T1008.setTop (mkF m 45 #[.val (.ref a1), .val (.int p2)] [(.int (0 : Int32))]))
        rw [← hG]
        refine OEnds.retZ X1008 hx hlk Bd.returns rfl (hb hby d5_45) (by decide) (by decide) ?_
        rw [e1008]
        exact ⟨by simp [own_al, hc15_1004, hc22_1006, hc32_1009], N1008, rfl⟩
      · -- pc 32: no
        refine OEnds.st (fun _ k => XS.ifNo X1008.here hx rfl (hb hby d5_32) rfl ((if0 _ _).trans (feq hc32_1009).1) k) ?_
        show OEnds p.tables e below G (T1008.setTop (mkF m 35 #[.val (.ref a1), .val (.int p2)] []))
        refine OEnds.st (fun _ k => XS.iloadN X1008.here hx rfl (hb hby d5_35) rfl k) ?_
        show OEnds p.tables e below G (T1008.setTop (mkF m 36 #[.val (.ref a1), .val (.int p2)] [(.int p2)]))
        refine OEnds.st (fun _ k => XS.iconst X1008.here hx rfl (hb hby d5_36) k) ?_
        show OEnds p.tables e below G (T1008.setTop (mkF m 37 #[.val (.ref a1), .val (.int p2)] [(.int (2 : Int32)), (.int p2)]))
        by_cases hc37_1010 : p2 = (2 : Int32)
        · -- pc 37: yes
          refine OEnds.st (fun _ k => XS.icmpNo X1008.here hx rfl (hb hby d5_37) rfl (teq hc37_1010).2 k) ?_
          show OEnds p.tables e below G (T1008.setTop (mkF m 40 #[.val (.ref a1), .val (.int p2)] []))
          refine OEnds.st (fun _ k => XS.iconst X1008.here hx rfl (hb hby d5_40) k) ?_
          show OEnds p.tables e below G (T1008.setTop (mkF m 41 #[.val (.ref a1), .val (.int p2)] [(.int (1 : Int32))]))
          refine OEnds.st (fun _ k => XS.goto X1008.here hx rfl (pc0 := 41) (pc' := 45) rfl (hb hby d5_41) (by decide) (by decide) k) ?_
          show OEnds p.tables e below G (T1008.setTop (mkF m 45 #[.val (.ref a1), .val (.int p2)] [(.int (1 : Int32))]))
          rw [← hG]
          refine OEnds.retZ X1008 hx hlk Bd.returns rfl (hb hby d5_45) (by decide) (by decide) ?_
          rw [e1008]
          exact ⟨by simp [own_al, hc15_1004, hc22_1006, hc32_1009, hc37_1010], N1008, rfl⟩
        · -- pc 37: no
          refine OEnds.st (fun _ k => XS.icmpYes X1008.here hx rfl (pc0 := 37) (pc' := 44) rfl (hb hby d5_37) rfl (feq hc37_1010).2 (by decide) (by decide) k) ?_
          show OEnds p.tables e below G (T1008.setTop (mkF m 44 #[.val (.ref a1), .val (.int p2)] []))
          refine OEnds.st (fun _ k => XS.iconst X1008.here hx rfl (hb hby d5_44) k) ?_
          show OEnds p.tables e below G (T1008.setTop (mkF m 45 #[.val (.ref a1), .val (.int p2)] [(.int (0 : Int32))]))
          rw [← hG]
          refine OEnds.retZ X1008 hx hlk Bd.returns rfl (hb hby d5_45) (by decide) (by decide) ?_
          rw [e1008]
          exact ⟨by simp [own_al, hc15_1004, hc22_1006, hc32_1009, hc37_1010], N1008, rfl⟩
theorem ef_alN (m : MethodId) (a1 : Addr) (p2 : Int32) : entryFrame m #[(.ref a1), (.int p2)] 2 = mkF m 0 #[.val (.ref a1), .val (.int p2)] [] := by first | (simp [entryFrame, mkF, argsToLocals, Value.category]; done) | rfl
def QalN (Z : State) (a1 : Addr) (p2 : Int32) (h0 : Heap) (n0 : Nat) (v : Option Value) (h : Heap) (L : List Loc) : Prop := v = some (.int (1 : Int32)) ∧ Fr n0 L ∧ h = h0
set_option maxRecDepth 65536 in
set_option maxHeartbeats 40000000 in
theorem rmalN (l : Launch) (Z : State) (a0 : Array Value) (hw : ∀ d ∈ tables_1, d.before a0 Z = true) (ws : List Jvm.Cond) (a1 : Addr) (p2 : Int32) (h0 : Heap) (n0 : Nat) (Z0 : n0 ≤ h0.size) (Fstored : Fld Z h0 a1 "com/example/nearfar/nearfar/DescriptorSet$Field" "stored" "Lcom/example/nearfar/nearfar/StoredType;" .null) (FmessageType : Fld Z h0 a1 "com/example/nearfar/nearfar/DescriptorSet$Field" "messageType" "Ljava/lang/String;" .null) :
    MetFree l (⟨"com/example/nearfar/nearfar/DescriptorSet$Field", "allows", "(I)Z"⟩ : MethodName) (head1 (Jvm.Cond.code (⟨"com/example/nearfar/nearfar/DescriptorSet$Field", "allows", "(I)Z"⟩ : MethodName) prog_16_method_5_code 2 (some .boolean) :: ws) ({ frames := 0, cells := 0, slots := 0, locals := 0 } : Room)) (fun a U => a = #[(.ref a1), (.int p2)] ∧ Z.Warmed39 U.vm ∧ U.heap = h0) (fun _ _ _ _ _ => True) (fun _ U o U' => ∃ v L, o = .returned v ∧ QalN Z a1 p2 h0 n0 v U'.heap L ∧ FrameEnd U o U' L ({ frames := 0, cells := 0, slots := 0, locals := 0 } : Room).cells ({ frames := 0, cells := 0, slots := 0, locals := 0 } : Room).slots) := by
  refine MetFree.of_bodySF (plainFor_of_name pn_1) hisR ?_
  intro p e s m args below meth c s₁ Bd hml0 hP hK
  obtain ⟨rfl, hZ, hh⟩ := hP
  have hx := Bd.exec
  have hby := Bd.bytes
  have hml : c.maxLocals = 2 := hml0
  have hown : s.vm.findClass "com/example/nearfar/nearfar/DescriptorSet$Field" = some m.cls := findClass_of_methodNamed Bd.named
  have hnm := (name_of_methodNamed Bd.named Bd.method).1
  have hlk : meth.locks = false := BodyLoose.notSynchronized Bd
  have X0 : Stand p l e ({ frames := 0, cells := 0, slots := 0, locals := 0 } : Room) s m #[(.ref a1), (.int p2)] below meth c s₁ [] 0 0 := Stand.of_body Bd
  have e0 : s₁.heap = h0 := by rw [← hh, Bd.state]; rfl
  have N0 := Fr.nil n0
  show OEnds p.tables e below (OGoal (QalN Z a1 p2 h0 n0) s 0 0) (s₁.setTop (entryFrame m #[(.ref a1), (.int p2)] 2))
  refine OEnds.st (fun t k => castTop (ef_alN m a1 p2) k) ?_
  generalize hG : OGoal (QalN Z a1 p2 h0 n0) s 0 0 = G
  have KK0 : Keep h0 h0 [] := Keep.refl h0 []
  show OEnds p.tables e below G (s₁.setTop (mkF m 0 #[.val (.ref a1), .val (.int p2)] []))
  refine OEnds.st (fun _ k => XS.aloadN X0.here hx rfl (hb hby d5_0) rfl rfl k) ?_
  show OEnds p.tables e below G (s₁.setTop (mkF m 1 #[.val (.ref a1), .val (.int p2)] [(.ref a1)]))
  obtain ⟨T1001, X1001, e1001, st1001⟩ := getF X0 hx hZ hown (host := "") (Or.inl (hw _ (List.mem_of_getElem? (i := 32) rfl))) Via.refl e0 Fstored (g := (mkF m 1 #[.val (.ref a1), .val (.int p2)] [(.ref a1)])) rfl rfl (hb hby d5_1)
  refine OEnds.st st1001 ?_
  show OEnds p.tables e below G (T1001.setTop (mkF m 4 #[.val (.ref a1), .val (.int p2)] [.null]))
  refine OEnds.st (fun _ k => XS.ifnullYes X1001.here hx rfl (pc0 := 4) (pc' := 46) rfl (hb hby d5_4) rfl (by decide) (by decide) k) ?_
  show OEnds p.tables e below G (T1001.setTop (mkF m 46 #[.val (.ref a1), .val (.int p2)] []))
  refine OEnds.st (fun _ k => XS.aloadN X1001.here hx rfl (hb hby d5_46) rfl rfl k) ?_
  show OEnds p.tables e below G (T1001.setTop (mkF m 47 #[.val (.ref a1), .val (.int p2)] [(.ref a1)]))
  obtain ⟨T1002, X1002, e1002, st1002⟩ := getF X1001 hx hZ hown (host := "") (Or.inl (hw _ (List.mem_of_getElem? (i := 34) rfl))) Via.refl e1001 FmessageType (g := (mkF m 47 #[.val (.ref a1), .val (.int p2)] [(.ref a1)])) rfl rfl (hb hby d5_47)
  refine OEnds.st st1002 ?_
  show OEnds p.tables e below G (T1002.setTop (mkF m 50 #[.val (.ref a1), .val (.int p2)] [.null]))
  refine OEnds.st (fun _ k => XS.ifnullYes X1002.here hx rfl (pc0 := 50) (pc' := 58) rfl (hb hby d5_50) rfl (by decide) (by decide) k) ?_
  show OEnds p.tables e below G (T1002.setTop (mkF m 58 #[.val (.ref a1), .val (.int p2)] []))
  refine OEnds.st (fun _ k => XS.iconst X1002.here hx rfl (hb hby d5_58) k) ?_
  show OEnds p.tables e below G (T1002.setTop (mkF m 59 #[.val (.ref a1), .val (.int p2)] [(.int (1 : Int32))]))
  refine OEnds.st (fun _ k => XS.goto X1002.here hx rfl (pc0 := 59) (pc' := 63) rfl (hb hby d5_59) (by decide) (by decide) k) ?_
  show OEnds p.tables e below G (T1002.setTop (mkF m 63 #[.val (.ref a1), .val (.int p2)] [(.int (1 : Int32))]))
  rw [← hG]
  refine OEnds.retZ X1002 hx hlk Bd.returns rfl (hb hby d5_63) (by decide) (by decide) ?_
  rw [e1002]
  exact ⟨rfl, N0, rfl⟩
theorem ef_alM (m : MethodId) (a1 : Addr) (p2 : Int32) : entryFrame m #[(.ref a1), (.int p2)] 2 = mkF m 0 #[.val (.ref a1), .val (.int p2)] [] := by first | (simp [entryFrame, mkF, argsToLocals, Value.category]; done) | rfl
def QalM (Z : State) (a1 : Addr) (p2 : Int32) (m1 : Addr) (h0 : Heap) (n0 : Nat) (v : Option Value) (h : Heap) (L : List Loc) : Prop := v = some (.int (own_b2 p2)) ∧ Fr n0 L ∧ h = h0
set_option maxRecDepth 65536 in
set_option maxHeartbeats 40000000 in
theorem rmalM (l : Launch) (Z : State) (a0 : Array Value) (hw : ∀ d ∈ tables_1, d.before a0 Z = true) (ws : List Jvm.Cond) (a1 : Addr) (p2 : Int32) (m1 : Addr) (h0 : Heap) (n0 : Nat) (Z0 : n0 ≤ h0.size) (Fstored : Fld Z h0 a1 "com/example/nearfar/nearfar/DescriptorSet$Field" "stored" "Lcom/example/nearfar/nearfar/StoredType;" .null) (FmessageType : Fld Z h0 a1 "com/example/nearfar/nearfar/DescriptorSet$Field" "messageType" "Ljava/lang/String;" (.ref m1)) :
    MetFree l (⟨"com/example/nearfar/nearfar/DescriptorSet$Field", "allows", "(I)Z"⟩ : MethodName) (head1 (Jvm.Cond.code (⟨"com/example/nearfar/nearfar/DescriptorSet$Field", "allows", "(I)Z"⟩ : MethodName) prog_16_method_5_code 2 (some .boolean) :: ws) ({ frames := 0, cells := 0, slots := 0, locals := 0 } : Room)) (fun a U => a = #[(.ref a1), (.int p2)] ∧ Z.Warmed39 U.vm ∧ U.heap = h0) (fun _ _ _ _ _ => True) (fun _ U o U' => ∃ v L, o = .returned v ∧ QalM Z a1 p2 m1 h0 n0 v U'.heap L ∧ FrameEnd U o U' L ({ frames := 0, cells := 0, slots := 0, locals := 0 } : Room).cells ({ frames := 0, cells := 0, slots := 0, locals := 0 } : Room).slots) := by
  refine MetFree.of_bodySF (plainFor_of_name pn_1) hisR ?_
  intro p e s m args below meth c s₁ Bd hml0 hP hK
  obtain ⟨rfl, hZ, hh⟩ := hP
  have hx := Bd.exec
  have hby := Bd.bytes
  have hml : c.maxLocals = 2 := hml0
  have hown : s.vm.findClass "com/example/nearfar/nearfar/DescriptorSet$Field" = some m.cls := findClass_of_methodNamed Bd.named
  have hnm := (name_of_methodNamed Bd.named Bd.method).1
  have hlk : meth.locks = false := BodyLoose.notSynchronized Bd
  have X0 : Stand p l e ({ frames := 0, cells := 0, slots := 0, locals := 0 } : Room) s m #[(.ref a1), (.int p2)] below meth c s₁ [] 0 0 := Stand.of_body Bd
  have e0 : s₁.heap = h0 := by rw [← hh, Bd.state]; rfl
  have N0 := Fr.nil n0
  show OEnds p.tables e below (OGoal (QalM Z a1 p2 m1 h0 n0) s 0 0) (s₁.setTop (entryFrame m #[(.ref a1), (.int p2)] 2))
  refine OEnds.st (fun t k => castTop (ef_alM m a1 p2) k) ?_
  generalize hG : OGoal (QalM Z a1 p2 m1 h0 n0) s 0 0 = G
  have KK0 : Keep h0 h0 [] := Keep.refl h0 []
  show OEnds p.tables e below G (s₁.setTop (mkF m 0 #[.val (.ref a1), .val (.int p2)] []))
  refine OEnds.st (fun _ k => XS.aloadN X0.here hx rfl (hb hby d5_0) rfl rfl k) ?_
  show OEnds p.tables e below G (s₁.setTop (mkF m 1 #[.val (.ref a1), .val (.int p2)] [(.ref a1)]))
  obtain ⟨T1001, X1001, e1001, st1001⟩ := getF X0 hx hZ hown (host := "") (Or.inl (hw _ (List.mem_of_getElem? (i := 32) rfl))) Via.refl e0 Fstored (g := (mkF m 1 #[.val (.ref a1), .val (.int p2)] [(.ref a1)])) rfl rfl (hb hby d5_1)
  refine OEnds.st st1001 ?_
  show OEnds p.tables e below G (T1001.setTop (mkF m 4 #[.val (.ref a1), .val (.int p2)] [.null]))
  refine OEnds.st (fun _ k => XS.ifnullYes X1001.here hx rfl (pc0 := 4) (pc' := 46) rfl (hb hby d5_4) rfl (by decide) (by decide) k) ?_
  show OEnds p.tables e below G (T1001.setTop (mkF m 46 #[.val (.ref a1), .val (.int p2)] []))
  refine OEnds.st (fun _ k => XS.aloadN X1001.here hx rfl (hb hby d5_46) rfl rfl k) ?_
  show OEnds p.tables e below G (T1001.setTop (mkF m 47 #[.val (.ref a1), .val (.int p2)] [(.ref a1)]))
  obtain ⟨T1002, X1002, e1002, st1002⟩ := getF X1001 hx hZ hown (host := "") (Or.inl (hw _ (List.mem_of_getElem? (i := 34) rfl))) Via.refl e1001 FmessageType (g := (mkF m 47 #[.val (.ref a1), .val (.int p2)] [(.ref a1)])) rfl rfl (hb hby d5_47)
  refine OEnds.st st1002 ?_
  show OEnds p.tables e below G (T1002.setTop (mkF m 50 #[.val (.ref a1), .val (.int p2)] [(.ref m1)]))
  refine OEnds.st (fun _ k => XS.ifnullNo X1002.here hx rfl (hb hby d5_50) rfl k) ?_
  show OEnds p.tables e below G (T1002.setTop (mkF m 53 #[.val (.ref a1), .val (.int p2)] []))
  refine OEnds.st (fun _ k => XS.iloadN X1002.here hx rfl (hb hby d5_53) rfl k) ?_
  show OEnds p.tables e below G (T1002.setTop (mkF m 54 #[.val (.ref a1), .val (.int p2)] [(.int p2)]))
  refine OEnds.st (fun _ k => XS.iconst X1002.here hx rfl (hb hby d5_54) k) ?_
  show OEnds p.tables e below G (T1002.setTop (mkF m 55 #[.val (.ref a1), .val (.int p2)] [(.int (2 : Int32)), (.int p2)]))
  by_cases hc55_1003 : p2 = (2 : Int32)
  · -- pc 55: yes
    refine OEnds.st (fun _ k => XS.icmpNo X1002.here hx rfl (hb hby d5_55) rfl (teq hc55_1003).2 k) ?_
    show OEnds p.tables e below G (T1002.setTop (mkF m 58 #[.val (.ref a1), .val (.int p2)] []))
    refine OEnds.st (fun _ k => XS.iconst X1002.here hx rfl (hb hby d5_58) k) ?_
    show OEnds p.tables e below G (T1002.setTop (mkF m 59 #[.val (.ref a1), .val (.int p2)] [(.int (1 : Int32))]))
    refine OEnds.st (fun _ k => XS.goto X1002.here hx rfl (pc0 := 59) (pc' := 63) rfl (hb hby d5_59) (by decide) (by decide) k) ?_
    show OEnds p.tables e below G (T1002.setTop (mkF m 63 #[.val (.ref a1), .val (.int p2)] [(.int (1 : Int32))]))
    rw [← hG]
    refine OEnds.retZ X1002 hx hlk Bd.returns rfl (hb hby d5_63) (by decide) (by decide) ?_
    rw [e1002]
    exact ⟨by simp [own_b2, hc55_1003], N0, rfl⟩
  · -- pc 55: no
    refine OEnds.st (fun _ k => XS.icmpYes X1002.here hx rfl (pc0 := 55) (pc' := 62) rfl (hb hby d5_55) rfl (feq hc55_1003).2 (by decide) (by decide) k) ?_
    show OEnds p.tables e below G (T1002.setTop (mkF m 62 #[.val (.ref a1), .val (.int p2)] []))
    refine OEnds.st (fun _ k => XS.iconst X1002.here hx rfl (hb hby d5_62) k) ?_
    show OEnds p.tables e below G (T1002.setTop (mkF m 63 #[.val (.ref a1), .val (.int p2)] [(.int (0 : Int32))]))
    rw [← hG]
    refine OEnds.retZ X1002 hx hlk Bd.returns rfl (hb hby d5_63) (by decide) (by decide) ?_
    rw [e1002]
    exact ⟨by simp [own_b2, hc55_1003], N0, rfl⟩
theorem ef_0 (m : MethodId) (p1 : Int32) (p2 : Int32) (p3 : Int32) : entryFrame m #[(.int p1), (.int p2), (.int p3)] maxLocals = mkF m 0 #[.val (.int p1), .val (.int p2), .val (.int p3), .unset, .unset, .unset, .unset, .unset, .unset, .unset, .unset, .unset] [] := by first | (simp [entryFrame, mkF, argsToLocals, Value.category, maxLocals]; done) | rfl
def Q0 (Z : State) (p1 : Int32) (p2 : Int32) (p3 : Int32) (o0 : Addr) (o1 : Addr) (o2 : Addr) (o3 : Addr) (o4 : Addr) (o5 : Addr) (o6 : Addr) (o7 : Addr) (o8 : Addr) (o9 : Addr) (h0 : Heap) (n0 : Nat) (v : Option Value) (h : Heap) (L : List Loc) : Prop := v = some (.int (1 : Int32)) ∧ Fr n0 L
theorem pd_2 : parseMethodDescriptor "(I)Lcom/example/nearfar/nearfar/StoredType;" = some ⟨[.int], some (.object "com/example/nearfar/nearfar/StoredType")⟩ := by decide +kernel
theorem pd_3 : parseMethodDescriptor "(Ljava/lang/String;IZLcom/example/nearfar/nearfar/StoredType;Ljava/lang/String;Ljava/lang/String;)V" = some ⟨[(.object "java/lang/String"), .int, .boolean, (.object "com/example/nearfar/nearfar/StoredType"), (.object "java/lang/String"), (.object "java/lang/String")], none⟩ := by decide +kernel
theorem pd_4 : parseMethodDescriptor "(I)Z" = some ⟨[.int], some .boolean⟩ := by decide +kernel
theorem pd_5 : parseMethodDescriptor "(I)I" = some ⟨[.int], some .int⟩ := by decide +kernel
set_option maxRecDepth 65536 in
set_option maxHeartbeats 40000000 in
theorem rm0 (l : Launch) (Z : State) (a0 : Array Value) (hw : ∀ d ∈ tables_1, d.before a0 Z = true) (ws : List Jvm.Cond) (p1 : Int32) (p2 : Int32) (p3 : Int32) (o0 : Addr) (o1 : Addr) (o2 : Addr) (o3 : Addr) (o4 : Addr) (o5 : Addr) (o6 : Addr) (o7 : Addr) (o8 : Addr) (o9 : Addr) (h0 : Heap) (n0 : Nat) (Z0 : n0 ≤ h0.size) (St0 : Sta Z h0 "com/example/nearfar/nearfar/StoredType" "STRING" "Lcom/example/nearfar/nearfar/StoredType;" (.ref o0)) (Ex0 : Exa Z h0 o0 "com/example/nearfar/nearfar/StoredType$1") (Fl0 : Fld Z h0 o0 "com/example/nearfar/nearfar/StoredType" "wireType" "I" (.int (2 : Int32))) (St1 : Sta Z h0 "com/example/nearfar/nearfar/StoredType" "BYTES" "Lcom/example/nearfar/nearfar/StoredType;" (.ref o1)) (Ex1 : Exa Z h0 o1 "com/example/nearfar/nearfar/StoredType$2") (Fl1 : Fld Z h0 o1 "com/example/nearfar/nearfar/StoredType" "wireType" "I" (.int (2 : Int32))) (St2 : Sta Z h0 "com/example/nearfar/nearfar/StoredType" "SINT32" "Lcom/example/nearfar/nearfar/StoredType;" (.ref o2)) (Ex2 : Exa Z h0 o2 "com/example/nearfar/nearfar/StoredType$3") (Fl2 : Fld Z h0 o2 "com/example/nearfar/nearfar/StoredType" "wireType" "I" (.int (0 : Int32))) (St3 : Sta Z h0 "com/example/nearfar/nearfar/StoredType" "SINT64" "Lcom/example/nearfar/nearfar/StoredType;" (.ref o3)) (Ex3 : Exa Z h0 o3 "com/example/nearfar/nearfar/StoredType$4") (Fl3 : Fld Z h0 o3 "com/example/nearfar/nearfar/StoredType" "wireType" "I" (.int (0 : Int32))) (St4 : Sta Z h0 "com/example/nearfar/nearfar/StoredType" "DOUBLE" "Lcom/example/nearfar/nearfar/StoredType;" (.ref o4)) (Ex4 : Exa Z h0 o4 "com/example/nearfar/nearfar/StoredType$5") (Fl4 : Fld Z h0 o4 "com/example/nearfar/nearfar/StoredType" "wireType" "I" (.int (1 : Int32))) (St5 : Sta Z h0 "com/example/nearfar/nearfar/StoredType" "FLOAT" "Lcom/example/nearfar/nearfar/StoredType;" (.ref o5)) (Ex5 : Exa Z h0 o5 "com/example/nearfar/nearfar/StoredType$6") (Fl5 : Fld Z h0 o5 "com/example/nearfar/nearfar/StoredType" "wireType" "I" (.int (5 : Int32))) (St6 : Sta Z h0 "com/example/nearfar/nearfar/StoredType" "BOOL" "Lcom/example/nearfar/nearfar/StoredType;" (.ref o6)) (Ex6 : Exa Z h0 o6 "com/example/nearfar/nearfar/StoredType$7") (Fl6 : Fld Z h0 o6 "com/example/nearfar/nearfar/StoredType" "wireType" "I" (.int (0 : Int32))) (St7 : Sta Z h0 "com/example/nearfar/nearfar/StoredType" "ENUM" "Lcom/example/nearfar/nearfar/StoredType;" (.ref o7)) (Ex7 : Exa Z h0 o7 "com/example/nearfar/nearfar/StoredType$8") (Fl7 : Fld Z h0 o7 "com/example/nearfar/nearfar/StoredType" "wireType" "I" (.int (0 : Int32))) (St8 : Sta Z h0 "com/example/nearfar/nearfar/StoredType" "TIMESTAMP" "Lcom/example/nearfar/nearfar/StoredType;" (.ref o8)) (Ex8 : Exa Z h0 o8 "com/example/nearfar/nearfar/StoredType$9") (Fl8 : Fld Z h0 o8 "com/example/nearfar/nearfar/StoredType" "wireType" "I" (.int (2 : Int32))) (St9 : Sta Z h0 "com/example/nearfar/nearfar/StoredType" "DURATION" "Lcom/example/nearfar/nearfar/StoredType;" (.ref o9)) (Ex9 : Exa Z h0 o9 "com/example/nearfar/nearfar/StoredType$10") (Fl9 : Fld Z h0 o9 "com/example/nearfar/nearfar/StoredType" "wireType" "I" (.int (2 : Int32))) :
    MetFree l x (head1 (Jvm.Cond.code x code maxLocals ret :: ws) room_1) (fun a U => a = #[(.int p1), (.int p2), (.int p3)] ∧ Z.Warmed39 U.vm ∧ U.heap = h0) (fun _ _ _ _ _ => True) (fun _ U o U' => ∃ v L, o = .returned v ∧ Q0 Z p1 p2 p3 o0 o1 o2 o3 o4 o5 o6 o7 o8 o9 h0 n0 v U'.heap L ∧ Jvm.ReturnedEndW U o U' L room_1.cells room_1.slots) := by
  refine MetFree.of_bodySF (plainFor_of_name pn_0) hisR ?_
  intro p e s m args below meth c s₁ Bd hml0 hP hK
  obtain ⟨rfl, hZ, hh⟩ := hP
  have hx := Bd.exec
  have hby := Bd.bytes
  have hml : c.maxLocals = 12 := hml0
  have hown : s.vm.findClass "com/example/nearfar/nearfar/FieldAllowsPinLaw" = some m.cls := findClass_of_methodNamed Bd.named
  have hnm := (name_of_methodNamed Bd.named Bd.method).1
  have hlk : meth.locks = false := BodyLoose.notSynchronized Bd
  have X0 : Stand p l e room_1 s m #[(.int p1), (.int p2), (.int p3)] below meth c s₁ [] 0 0 := Stand.of_body Bd
  have e0 : s₁.heap = h0 := by rw [← hh, Bd.state]; rfl
  have N0 := Fr.nil n0
  show OEnds p.tables e below (OGoalW (Q0 Z p1 p2 p3 o0 o1 o2 o3 o4 o5 o6 o7 o8 o9 h0 n0) s 16 2176) (s₁.setTop (entryFrame m #[(.int p1), (.int p2), (.int p3)] maxLocals))
  refine OEnds.st (fun t k => castTop (ef_0 m p1 p2 p3) k) ?_
  generalize hG : OGoalW (Q0 Z p1 p2 p3 o0 o1 o2 o3 o4 o5 o6 o7 o8 o9 h0 n0) s 16 2176 = G
  have X0 : Stand p l e room_1 (s.setVm s.vm) m #[(.int p1), (.int p2), (.int p3)] below meth c s₁ [] 0 0 := X0
  have hS : s.Since s.vm 0 := (State.WarmedH.refl s).since 0
  have hkk : 0 ≤ h0.size := Nat.zero_le _
  have wS : ∀ a ∈ Bundle.stringAtoms, a.before a0 Z = true := fun a ha => hw a ((by decide +kernel : ∀ a ∈ Bundle.stringAtoms, a ∈ tables_1) a ha)
  have KK0 : Keep h0 h0 [] := Keep.refl h0 []
  show OEnds p.tables e below G (s₁.setTop (mkF m 0 #[.val (.int p1), .val (.int p2), .val (.int p3), .unset, .unset, .unset, .unset, .unset, .unset, .unset, .unset, .unset] []))
  refine OEnds.st (fun _ k => XS.iloadN X0.here hx rfl (hb hby at_0) rfl k) ?_
  show OEnds p.tables e below G (s₁.setTop (mkF m 1 #[.val (.int p1), .val (.int p2), .val (.int p3), .unset, .unset, .unset, .unset, .unset, .unset, .unset, .unset, .unset] [(.int p2)]))
  refine OEnds.st (X0.ldcInt hx hown (mvT hZ (hw _ (List.mem_of_getElem? (i := 0) rfl))) (g := (mkF m 1 #[.val (.int p1), .val (.int p2), .val (.int p3), .unset, .unset, .unset, .unset, .unset, .unset, .unset, .unset, .unset] [(.int p2)])) rfl (hb hby at_1)) ?_
  show OEnds p.tables e below G (s₁.setTop (mkF m 3 #[.val (.int p1), .val (.int p2), .val (.int p3), .unset, .unset, .unset, .unset, .unset, .unset, .unset, .unset, .unset] [(.int (2147483647 : Int32)), (.int p2)]))
  refine OEnds.st (fun _ k => XS.iand X0.here hx rfl (hb hby at_3) rfl k) ?_
  show OEnds p.tables e below G (s₁.setTop (mkF m 4 #[.val (.int p1), .val (.int p2), .val (.int p3), .unset, .unset, .unset, .unset, .unset, .unset, .unset, .unset, .unset] [(.int (p2 &&& (2147483647 : Int32)))]))
  refine OEnds.st (fun _ k => XS.bipush X0.here hx rfl (hb hby at_4) k) ?_
  show OEnds p.tables e below G (s₁.setTop (mkF m 6 #[.val (.int p1), .val (.int p2), .val (.int p3), .unset, .unset, .unset, .unset, .unset, .unset, .unset, .unset, .unset] [(.int (11 : Int32)), (.int (p2 &&& (2147483647 : Int32)))]))
  refine OEnds.st (fun _ k => iremM X0 hx rfl (hb hby at_6) rfl (by decide) k) ?_
  show OEnds p.tables e below G (s₁.setTop (mkF m 7 #[.val (.int p1), .val (.int p2), .val (.int p3), .unset, .unset, .unset, .unset, .unset, .unset, .unset, .unset, .unset] [(.int ((p2 &&& (2147483647 : Int32)) % (11 : Int32)))]))
  refine OEnds.st (fun _ k => XS.istoreN X0.here hx rfl (hb hby at_7) rfl (l' := #[.val (.int p1), .val (.int p2), .val (.int p3), .val (.int ((p2 &&& (2147483647 : Int32)) % (11 : Int32))), .unset, .unset, .unset, .unset, .unset, .unset, .unset, .unset]) rfl k) ?_
  show OEnds p.tables e below G (s₁.setTop (mkF m 8 #[.val (.int p1), .val (.int p2), .val (.int p3), .val (.int ((p2 &&& (2147483647 : Int32)) % (11 : Int32))), .unset, .unset, .unset, .unset, .unset, .unset, .unset, .unset] []))
  generalize hv_v1001 : ((p2 &&& (2147483647 : Int32)) % (11 : Int32)) = v1001
  have helf : v1001 = (10 : Int32) ∨ (v1001 = (0 : Int32) ∨ v1001 = (1 : Int32) ∨ v1001 = (2 : Int32) ∨ v1001 = (3 : Int32) ∨ v1001 = (4 : Int32) ∨ v1001 = (5 : Int32) ∨ v1001 = (6 : Int32) ∨ v1001 = (7 : Int32) ∨ v1001 = (8 : Int32) ∨ v1001 = (9 : Int32)) := by rw [← hv_v1001]; exact own_elf p2
  have rest21_1002 : ∀ (rp : Int32) (hrp : rp = (0 : Int32) ∨ rp = (1 : Int32)), OEnds p.tables e below G (s₁.setTop (mkF m 21 #[.val (.int p1), .val (.int p2), .val (.int p3), .val (.int v1001), .val (.int rp), .unset, .unset, .unset, .unset, .unset, .unset, .unset] [])) := by
    intro rp hrp
    show OEnds p.tables e below G (s₁.setTop (mkF m 21 #[.val (.int p1), .val (.int p2), .val (.int p3), .val (.int v1001), .val (.int rp), .unset, .unset, .unset, .unset, .unset, .unset, .unset] []))
    refine OEnds.st (fun _ k => XS.iloadN X0.here hx rfl (hb hby at_21) rfl k) ?_
    show OEnds p.tables e below G (s₁.setTop (mkF m 22 #[.val (.int p1), .val (.int p2), .val (.int p3), .val (.int v1001), .val (.int rp), .unset, .unset, .unset, .unset, .unset, .unset, .unset] [(.int p3)]))
    refine OEnds.st (fun _ k => XS.iconst X0.here hx rfl (hb hby at_22) k) ?_
    show OEnds p.tables e below G (s₁.setTop (mkF m 23 #[.val (.int p1), .val (.int p2), .val (.int p3), .val (.int v1001), .val (.int rp), .unset, .unset, .unset, .unset, .unset, .unset, .unset] [(.int (2 : Int32)), (.int p3)]))
    refine OEnds.st (fun _ k => XS.iand X0.here hx rfl (hb hby at_23) rfl k) ?_
    show OEnds p.tables e below G (s₁.setTop (mkF m 24 #[.val (.int p1), .val (.int p2), .val (.int p3), .val (.int v1001), .val (.int rp), .unset, .unset, .unset, .unset, .unset, .unset, .unset] [(.int (p3 &&& (2 : Int32)))]))
    by_cases hc24_1003 : (p3 &&& (2 : Int32)) = (0 : Int32)
    · -- pc 24: yes
      refine OEnds.st (fun _ k => XS.ifYes X0.here hx rfl (pc0 := 24) (pc' := 31) rfl (hb hby at_24) rfl ((if0 _ _).trans (teq hc24_1003).1) (by decide) (by decide) k) ?_
      show OEnds p.tables e below G (s₁.setTop (mkF m 31 #[.val (.int p1), .val (.int p2), .val (.int p3), .val (.int v1001), .val (.int rp), .unset, .unset, .unset, .unset, .unset, .unset, .unset] []))
      refine OEnds.st (fun _ k => XS.iconst X0.here hx rfl (hb hby at_31) k) ?_
      show OEnds p.tables e below G (s₁.setTop (mkF m 32 #[.val (.int p1), .val (.int p2), .val (.int p3), .val (.int v1001), .val (.int rp), .unset, .unset, .unset, .unset, .unset, .unset, .unset] [(.int (0 : Int32))]))
      refine OEnds.st (fun _ k => XS.istore X0.here hx rfl (hb hby at_32) rfl (l' := #[.val (.int p1), .val (.int p2), .val (.int p3), .val (.int v1001), .val (.int rp), .val (.int (0 : Int32)), .unset, .unset, .unset, .unset, .unset, .unset]) rfl k) ?_
      rcases helf with hk | hten
      · -- null
        have hk0 := hk
        rw [hk]
        show OEnds p.tables e below G (s₁.setTop (mkF m 34 #[.val (.int p1), .val (.int p2), .val (.int p3), .val (.int (10 : Int32)), .val (.int rp), .val (.int (0 : Int32)), .unset, .unset, .unset, .unset, .unset, .unset] []))
        refine OEnds.st (fun _ k => XS.iloadN X0.here hx rfl (hb hby at_34) rfl k) ?_
        show OEnds p.tables e below G (s₁.setTop (mkF m 35 #[.val (.int p1), .val (.int p2), .val (.int p3), .val (.int (10 : Int32)), .val (.int rp), .val (.int (0 : Int32)), .unset, .unset, .unset, .unset, .unset, .unset] [(.int (10 : Int32))]))
        obtain ⟨_, _, ⟨T1004, L1004, k1004c, n1004c⟩, -, X1004, ⟨Lc1004, hQ1004, l1004, y1004, z1004⟩, st1004⟩ := Jvm.LawKit.callS X0 hx (y := (⟨"com/example/nearfar/nearfar/FieldAllowsPinLaw", "storedOf", "(I)Lcom/example/nearfar/nearfar/StoredType;"⟩ : MethodName)) hown (mvT hZ (hw _ (List.mem_of_getElem? (i := 1) rfl))) (mvT hZ (hw _ (List.mem_of_getElem? (i := 2) rfl))) (mvT hZ (hw _ (List.mem_of_getElem? (i := 3) rfl))) (mvT hZ (hw _ (List.mem_of_getElem? (i := 4) rfl))) (by decide) (backOf (W := 0) (rmstN l Z a0 hw []  h0 n0 Z0 ) hZ (hw _ (List.mem_of_getElem? (i := 4) rfl)) (hw _ (List.mem_of_getElem? (i := 3) rfl)) (by decide) (by decide)) (g := (mkF m 35 #[.val (.int p1), .val (.int p2), .val (.int p3), .val (.int (10 : Int32)), .val (.int rp), .val (.int (0 : Int32)), .unset, .unset, .unset, .unset, .unset, .unset] [(.int (10 : Int32))])) rfl (by rw [hml]; rfl) (argsL := [(.int (10 : Int32))]) (rest := []) (lenOf pd_2 rfl) rfl (by show 2 * 0 + _ ≤ _; exact Nat.le_of_eq rfl) (hb hby at_35) (fun _ _ => ⟨rfl, e0, (by decide : 0 + 0 ≤ _), (by decide : 0 + 0 ≤ _)⟩)
        dsimp only [Pt.U, Pt.locs, Pt.cells, Pt.slots] at X1004 l1004 y1004 z1004 st1004 hQ1004
        subst l1004 y1004 z1004
        obtain ⟨rfl, N1004q, e1004⟩ := hQ1004
        have N1004 := Fr.app N0 N1004q
        refine OEnds.st st1004 ?_
        show OEnds p.tables e below G (T1004.setTop (mkF m 38 #[.val (.int p1), .val (.int p2), .val (.int p3), .val (.int (10 : Int32)), .val (.int rp), .val (.int (0 : Int32)), .unset, .unset, .unset, .unset, .unset, .unset] [.null]))
        refine OEnds.st (fun _ k => XS.astore X1004.here hx rfl (hb hby at_38) rfl rfl (l' := #[.val (.int p1), .val (.int p2), .val (.int p3), .val (.int (10 : Int32)), .val (.int rp), .val (.int (0 : Int32)), .val .null, .unset, .unset, .unset, .unset, .unset]) rfl k) ?_
        show OEnds p.tables e below G (T1004.setTop (mkF m 40 #[.val (.int p1), .val (.int p2), .val (.int p3), .val (.int (10 : Int32)), .val (.int rp), .val (.int (0 : Int32)), .val .null, .unset, .unset, .unset, .unset, .unset] []))
        refine OEnds.st (fun _ k => XS.iload X1004.here hx rfl (hb hby at_40) rfl k) ?_
        show OEnds p.tables e below G (T1004.setTop (mkF m 42 #[.val (.int p1), .val (.int p2), .val (.int p3), .val (.int (10 : Int32)), .val (.int rp), .val (.int (0 : Int32)), .val .null, .unset, .unset, .unset, .unset, .unset] [(.int (0 : Int32))]))
        refine OEnds.st (fun _ k => XS.ifYes X1004.here hx rfl (pc0 := 42) (pc' := 50) rfl (hb hby at_42) rfl ((if0 _ _).trans (teq (by decide : (0 : Int32) = (0 : Int32))).1) (by decide) (by decide) k) ?_
        show OEnds p.tables e below G (T1004.setTop (mkF m 50 #[.val (.int p1), .val (.int p2), .val (.int p3), .val (.int (10 : Int32)), .val (.int rp), .val (.int (0 : Int32)), .val .null, .unset, .unset, .unset, .unset, .unset] []))
        refine OEnds.st (fun _ k => XS.aconstNull X1004.here hx rfl (hb hby at_50) k) ?_
        show OEnds p.tables e below G (T1004.setTop (mkF m 51 #[.val (.int p1), .val (.int p2), .val (.int p3), .val (.int (10 : Int32)), .val (.int rp), .val (.int (0 : Int32)), .val .null, .unset, .unset, .unset, .unset, .unset] [.null]))
        refine OEnds.st (fun _ k => XS.astore X1004.here hx rfl (hb hby at_51) rfl rfl (l' := #[.val (.int p1), .val (.int p2), .val (.int p3), .val (.int (10 : Int32)), .val (.int rp), .val (.int (0 : Int32)), .val .null, .val .null, .unset, .unset, .unset, .unset]) rfl k) ?_
        show OEnds p.tables e below G (T1004.setTop (mkF m 53 #[.val (.int p1), .val (.int p2), .val (.int p3), .val (.int (10 : Int32)), .val (.int rp), .val (.int (0 : Int32)), .val .null, .val .null, .unset, .unset, .unset, .unset] []))
        obtain ⟨T1005, h1005, X1005, e1005, E1005, A1005, D1005, -, st1005⟩ := newO X1004 hx hZ hown (hw _ (List.mem_of_getElem? (i := 16) rfl)) (hw _ (List.mem_of_getElem? (i := 17) rfl)) (hw _ (List.mem_of_getElem? (i := 18) rfl)) e1004 (g := (mkF m 53 #[.val (.int p1), .val (.int p2), .val (.int p3), .val (.int (10 : Int32)), .val (.int rp), .val (.int (0 : Int32)), .val .null, .val .null, .unset, .unset, .unset, .unset] [])) rfl (hb hby at_53) (by decide) (by decide)
        obtain ⟨b1005, g1005⟩ : ∃ z, z = h0.size := ⟨_, rfl⟩
        rw [← g1005] at A1005 D1005 st1005
        refine OEnds.st st1005 ?_
        have ge_b1005 : n0 ≤ b1005 := Nat.le_trans Z0 (Nat.le_of_eq g1005.symm)
        have sz_b1005 : h0.size ≤ b1005 := Nat.le_trans KK0.1 (Nat.le_of_eq g1005.symm)
        have KK1005 : Keep h0 h1005 [] := KK0.ext E1005
        have Z1005 := Nat.le_trans Z0 E1005.1
        have hkk := Nat.le_trans hkk E1005.1
        have ex_b1005 := A1005
        have f1006 : Fld Z h1005 b1005 "com/example/nearfar/nearfar/DescriptorSet$Field" "name" "Ljava/lang/String;" .null := D1005 (Or.inr (hw _ (List.mem_of_getElem? (i := 27) rfl))) (ty := (.object "java/lang/String")) (by decide)
        have f1007 : Fld Z h1005 b1005 "com/example/nearfar/nearfar/DescriptorSet$Field" "number" "I" (.int (0 : Int32)) := D1005 (Or.inr (hw _ (List.mem_of_getElem? (i := 29) rfl))) (ty := .int) (by decide)
        have f1008 : Fld Z h1005 b1005 "com/example/nearfar/nearfar/DescriptorSet$Field" "repeated" "Z" (.int (0 : Int32)) := D1005 (Or.inr (hw _ (List.mem_of_getElem? (i := 31) rfl))) (ty := .boolean) (by decide)
        have f1009 : Fld Z h1005 b1005 "com/example/nearfar/nearfar/DescriptorSet$Field" "stored" "Lcom/example/nearfar/nearfar/StoredType;" .null := D1005 (Or.inr (hw _ (List.mem_of_getElem? (i := 33) rfl))) (ty := (.object "com/example/nearfar/nearfar/StoredType")) (by decide)
        have f1010 : Fld Z h1005 b1005 "com/example/nearfar/nearfar/DescriptorSet$Field" "messageType" "Ljava/lang/String;" .null := D1005 (Or.inr (hw _ (List.mem_of_getElem? (i := 35) rfl))) (ty := (.object "java/lang/String")) (by decide)
        have f1011 : Fld Z h1005 b1005 "com/example/nearfar/nearfar/DescriptorSet$Field" "enumType" "Ljava/lang/String;" .null := D1005 (Or.inr (hw _ (List.mem_of_getElem? (i := 37) rfl))) (ty := (.object "java/lang/String")) (by decide)
        show OEnds p.tables e below G (T1005.setTop (mkF m 56 #[.val (.int p1), .val (.int p2), .val (.int p3), .val (.int (10 : Int32)), .val (.int rp), .val (.int (0 : Int32)), .val .null, .val .null, .unset, .unset, .unset, .unset] [(.ref b1005)]))
        refine OEnds.st (fun _ k => XS.dup X1005.here hx rfl (hb hby at_56) rfl rfl k) ?_
        show OEnds p.tables e below G (T1005.setTop (mkF m 57 #[.val (.int p1), .val (.int p2), .val (.int p3), .val (.int (10 : Int32)), .val (.int rp), .val (.int (0 : Int32)), .val .null, .val .null, .unset, .unset, .unset, .unset] [(.ref b1005), (.ref b1005)]))
        obtain ⟨str1012, T1012, h1012, kS1012, X1012, e1012, E1012, hS, hkk, hZ, hown, st1012⟩ := ldcS X1005 hx hZ hown (hw _ (List.mem_of_getElem? (i := 19) rfl)) wS e1005 hS hkk (g := (mkF m 57 #[.val (.int p1), .val (.int p2), .val (.int p3), .val (.int (10 : Int32)), .val (.int rp), .val (.int (0 : Int32)), .val .null, .val .null, .unset, .unset, .unset, .unset] [(.ref b1005), (.ref b1005)])) rfl (hb hby at_57) (n := 1024) (by decide) (by decide) (by decide) (by decide)
        refine OEnds.st st1012 ?_
        have f1013 : Exa Z h1012 b1005 "com/example/nearfar/nearfar/DescriptorSet$Field" := ex_b1005.ext E1012
        have f1014 : Fld Z h1012 b1005 "com/example/nearfar/nearfar/DescriptorSet$Field" "name" "Ljava/lang/String;" .null := f1006.ext E1012
        have f1015 : Fld Z h1012 b1005 "com/example/nearfar/nearfar/DescriptorSet$Field" "number" "I" (.int (0 : Int32)) := f1007.ext E1012
        have f1016 : Fld Z h1012 b1005 "com/example/nearfar/nearfar/DescriptorSet$Field" "repeated" "Z" (.int (0 : Int32)) := f1008.ext E1012
        have f1017 : Fld Z h1012 b1005 "com/example/nearfar/nearfar/DescriptorSet$Field" "stored" "Lcom/example/nearfar/nearfar/StoredType;" .null := f1009.ext E1012
        have f1018 : Fld Z h1012 b1005 "com/example/nearfar/nearfar/DescriptorSet$Field" "messageType" "Ljava/lang/String;" .null := f1010.ext E1012
        have f1019 : Fld Z h1012 b1005 "com/example/nearfar/nearfar/DescriptorSet$Field" "enumType" "Ljava/lang/String;" .null := f1011.ext E1012
        have KK1012 : Keep h0 h1012 [] := KK1005.ext E1012
        have Z1012 := Nat.le_trans Z1005 E1012.1
        show OEnds p.tables e below G (T1012.setTop (mkF m 59 #[.val (.int p1), .val (.int p2), .val (.int p3), .val (.int (10 : Int32)), .val (.int rp), .val (.int (0 : Int32)), .val .null, .val .null, .unset, .unset, .unset, .unset] [(.ref str1012), (.ref b1005), (.ref b1005)]))
        refine OEnds.st (fun _ k => XS.iconst X1012.here hx rfl (hb hby at_59) k) ?_
        show OEnds p.tables e below G (T1012.setTop (mkF m 60 #[.val (.int p1), .val (.int p2), .val (.int p3), .val (.int (10 : Int32)), .val (.int rp), .val (.int (0 : Int32)), .val .null, .val .null, .unset, .unset, .unset, .unset] [(.int (2 : Int32)), (.ref str1012), (.ref b1005), (.ref b1005)]))
        refine OEnds.st (fun _ k => XS.iload X1012.here hx rfl (hb hby at_60) rfl k) ?_
        show OEnds p.tables e below G (T1012.setTop (mkF m 62 #[.val (.int p1), .val (.int p2), .val (.int p3), .val (.int (10 : Int32)), .val (.int rp), .val (.int (0 : Int32)), .val .null, .val .null, .unset, .unset, .unset, .unset] [(.int rp), (.int (2 : Int32)), (.ref str1012), (.ref b1005), (.ref b1005)]))
        refine OEnds.st (fun _ k => XS.aload X1012.here hx rfl (hb hby at_62) rfl rfl k) ?_
        show OEnds p.tables e below G (T1012.setTop (mkF m 64 #[.val (.int p1), .val (.int p2), .val (.int p3), .val (.int (10 : Int32)), .val (.int rp), .val (.int (0 : Int32)), .val .null, .val .null, .unset, .unset, .unset, .unset] [.null, (.int rp), (.int (2 : Int32)), (.ref str1012), (.ref b1005), (.ref b1005)]))
        refine OEnds.st (fun _ k => XS.aload X1012.here hx rfl (hb hby at_64) rfl rfl k) ?_
        show OEnds p.tables e below G (T1012.setTop (mkF m 66 #[.val (.int p1), .val (.int p2), .val (.int p3), .val (.int (10 : Int32)), .val (.int rp), .val (.int (0 : Int32)), .val .null, .val .null, .unset, .unset, .unset, .unset] [.null, .null, (.int rp), (.int (2 : Int32)), (.ref str1012), (.ref b1005), (.ref b1005)]))
        refine OEnds.st (fun _ k => XS.aconstNull X1012.here hx rfl (hb hby at_66) k) ?_
        show OEnds p.tables e below G (T1012.setTop (mkF m 67 #[.val (.int p1), .val (.int p2), .val (.int p3), .val (.int (10 : Int32)), .val (.int rp), .val (.int (0 : Int32)), .val .null, .val .null, .unset, .unset, .unset, .unset] [.null, .null, .null, (.int rp), (.int (2 : Int32)), (.ref str1012), (.ref b1005), (.ref b1005)]))
        obtain ⟨_, _, ⟨T1020, L1020, k1020c, n1020c⟩, -, X1020, ⟨Lc1020, hQ1020, l1020, y1020, z1020⟩, st1020⟩ := X1012.specialBack hx (y := (⟨"com/example/nearfar/nearfar/DescriptorSet$Field", "<init>", "(Ljava/lang/String;IZLcom/example/nearfar/nearfar/StoredType;Ljava/lang/String;Ljava/lang/String;)V"⟩ : MethodName)) rfl hown (mvT hZ (hw _ (List.mem_of_getElem? (i := 20) rfl))) (mvT hZ (hw _ (List.mem_of_getElem? (i := 21) rfl))) (mvT hZ (hw _ (List.mem_of_getElem? (i := 22) rfl))) (by decide) (backOf (W := 1) (rmfi00 l Z a0 hw [] b1005 str1012 rp h1012 n0 Z1012 f1013 f1014 f1015 f1016 f1017 f1018 f1019 ge_b1005 hrp) hZ (hw _ (List.mem_of_getElem? (i := 22) rfl)) (hw _ (List.mem_of_getElem? (i := 18) rfl)) (by decide) (by decide)) (g := (mkF m 67 #[.val (.int p1), .val (.int p2), .val (.int p3), .val (.int (10 : Int32)), .val (.int rp), .val (.int (0 : Int32)), .val .null, .val .null, .unset, .unset, .unset, .unset] [.null, .null, .null, (.int rp), (.int (2 : Int32)), (.ref str1012), (.ref b1005), (.ref b1005)])) rfl (by rw [hml]; rfl) (Steps.refl _) (a := b1005) (argsL := [(.ref str1012), (.int (2 : Int32)), (.int rp), .null, .null, .null]) (rest := [(.ref b1005)]) (lenOf pd_3 rfl) rfl (by show 2 * 0 + _ ≤ _; exact Nat.le_of_eq rfl) (hb hby at_67) (fun _ _ => ⟨rfl, e1012, (by decide : 0 + 0 + 1 + 2 + 0 ≤ _), (by decide : 0 + 0 + 6 + 1028 + 0 ≤ _)⟩)
        dsimp only [Pt.U, Pt.locs, Pt.cells, Pt.slots] at X1020 l1020 y1020 z1020 st1020 hQ1020
        subst l1020 y1020 z1020
        obtain ⟨rfl, N1020q, p1021, p1022, p1023, p1024, p1025, p1026, p1027, p1028⟩ := hQ1020
        have N1020 := Fr.app N1004 N1020q
        refine OEnds.st (fun _ k => st1020.trans k) ?_
        have f1029 : Exa Z T1020.heap b1005 "com/example/nearfar/nearfar/DescriptorSet$Field" := f1013.keep p1021
        have KK1020 : Keep h0 T1020.heap [] := KK1012.trans p1021 (fun x hx => by cases List.mem_singleton.mp hx; exact Or.inr sz_b1005)
        have Z1020 := Nat.le_trans Z1012 p1021.1
        have hkk := Nat.le_trans hkk p1021.1
        show OEnds p.tables e below G (T1020.setTop (mkF m 70 #[.val (.int p1), .val (.int p2), .val (.int p3), .val (.int (10 : Int32)), .val (.int rp), .val (.int (0 : Int32)), .val .null, .val .null, .unset, .unset, .unset, .unset] [(.ref b1005)]))
        refine OEnds.st (fun _ k => XS.astore X1020.here hx rfl (hb hby at_70) rfl rfl (l' := #[.val (.int p1), .val (.int p2), .val (.int p3), .val (.int (10 : Int32)), .val (.int rp), .val (.int (0 : Int32)), .val .null, .val .null, .val (.ref b1005), .unset, .unset, .unset]) rfl k) ?_
        show OEnds p.tables e below G (T1020.setTop (mkF m 72 #[.val (.int p1), .val (.int p2), .val (.int p3), .val (.int (10 : Int32)), .val (.int rp), .val (.int (0 : Int32)), .val .null, .val .null, .val (.ref b1005), .unset, .unset, .unset] []))
        refine OEnds.st (fun _ k => XS.iloadN X1020.here hx rfl (hb hby at_72) rfl k) ?_
        show OEnds p.tables e below G (T1020.setTop (mkF m 73 #[.val (.int p1), .val (.int p2), .val (.int p3), .val (.int (10 : Int32)), .val (.int rp), .val (.int (0 : Int32)), .val .null, .val .null, .val (.ref b1005), .unset, .unset, .unset] [(.int (10 : Int32))]))
        refine OEnds.st (fun _ k => XS.bipush X1020.here hx rfl (hb hby at_73) k) ?_
        show OEnds p.tables e below G (T1020.setTop (mkF m 75 #[.val (.int p1), .val (.int p2), .val (.int p3), .val (.int (10 : Int32)), .val (.int rp), .val (.int (0 : Int32)), .val .null, .val .null, .val (.ref b1005), .unset, .unset, .unset] [(.int (10 : Int32)), (.int (10 : Int32))]))
        refine OEnds.st (fun _ k => XS.icmpNo X1020.here hx rfl (hb hby at_75) rfl (teq (by decide : (10 : Int32) = (10 : Int32))).2 k) ?_
        show OEnds p.tables e below G (T1020.setTop (mkF m 78 #[.val (.int p1), .val (.int p2), .val (.int p3), .val (.int (10 : Int32)), .val (.int rp), .val (.int (0 : Int32)), .val .null, .val .null, .val (.ref b1005), .unset, .unset, .unset] []))
        refine OEnds.st (fun _ k => XS.iload X1020.here hx rfl (hb hby at_78) rfl k) ?_
        show OEnds p.tables e below G (T1020.setTop (mkF m 80 #[.val (.int p1), .val (.int p2), .val (.int p3), .val (.int (10 : Int32)), .val (.int rp), .val (.int (0 : Int32)), .val .null, .val .null, .val (.ref b1005), .unset, .unset, .unset] [(.int (0 : Int32))]))
        refine OEnds.st (fun _ k => XS.ifYes X1020.here hx rfl (pc0 := 80) (pc' := 88) rfl (hb hby at_80) rfl ((if0 _ _).trans (teq (by decide : (0 : Int32) = (0 : Int32))).1) (by decide) (by decide) k) ?_
        show OEnds p.tables e below G (T1020.setTop (mkF m 88 #[.val (.int p1), .val (.int p2), .val (.int p3), .val (.int (10 : Int32)), .val (.int rp), .val (.int (0 : Int32)), .val .null, .val .null, .val (.ref b1005), .unset, .unset, .unset] []))
        refine OEnds.st (fun _ k => XS.iconst X1020.here hx rfl (hb hby at_88) k) ?_
        show OEnds p.tables e below G (T1020.setTop (mkF m 89 #[.val (.int p1), .val (.int p2), .val (.int p3), .val (.int (10 : Int32)), .val (.int rp), .val (.int (0 : Int32)), .val .null, .val .null, .val (.ref b1005), .unset, .unset, .unset] [(.int (1 : Int32))]))
        refine OEnds.st (fun _ k => XS.goto X1020.here hx rfl (pc0 := 89) (pc' := 93) rfl (hb hby at_89) (by decide) (by decide) k) ?_
        show OEnds p.tables e below G (T1020.setTop (mkF m 93 #[.val (.int p1), .val (.int p2), .val (.int p3), .val (.int (10 : Int32)), .val (.int rp), .val (.int (0 : Int32)), .val .null, .val .null, .val (.ref b1005), .unset, .unset, .unset] [(.int (1 : Int32))]))
        refine OEnds.st (fun _ k => XS.istore X1020.here hx rfl (hb hby at_93) rfl (l' := #[.val (.int p1), .val (.int p2), .val (.int p3), .val (.int (10 : Int32)), .val (.int rp), .val (.int (0 : Int32)), .val .null, .val .null, .val (.ref b1005), .val (.int (1 : Int32)), .unset, .unset]) rfl k) ?_
        show OEnds p.tables e below G (T1020.setTop (mkF m 95 #[.val (.int p1), .val (.int p2), .val (.int p3), .val (.int (10 : Int32)), .val (.int rp), .val (.int (0 : Int32)), .val .null, .val .null, .val (.ref b1005), .val (.int (1 : Int32)), .unset, .unset] []))
        refine OEnds.st (fun _ k => XS.goto X1020.here hx rfl (pc0 := 95) (pc' := 145) rfl (hb hby at_95) (by decide) (by decide) k) ?_
        show OEnds p.tables e below G (T1020.setTop (mkF m 145 #[.val (.int p1), .val (.int p2), .val (.int p3), .val (.int (10 : Int32)), .val (.int rp), .val (.int (0 : Int32)), .val .null, .val .null, .val (.ref b1005), .val (.int (1 : Int32)), .unset, .unset] []))
        refine OEnds.st (fun _ k => XS.aload X1020.here hx rfl (hb hby at_145) rfl rfl k) ?_
        show OEnds p.tables e below G (T1020.setTop (mkF m 147 #[.val (.int p1), .val (.int p2), .val (.int p3), .val (.int (10 : Int32)), .val (.int rp), .val (.int (0 : Int32)), .val .null, .val .null, .val (.ref b1005), .val (.int (1 : Int32)), .unset, .unset] [(.ref b1005)]))
        refine OEnds.st (fun _ k => XS.iloadN X1020.here hx rfl (hb hby at_147) rfl k) ?_
        show OEnds p.tables e below G (T1020.setTop (mkF m 148 #[.val (.int p1), .val (.int p2), .val (.int p3), .val (.int (10 : Int32)), .val (.int rp), .val (.int (0 : Int32)), .val .null, .val .null, .val (.ref b1005), .val (.int (1 : Int32)), .unset, .unset] [(.int p1), (.ref b1005)]))
        obtain ⟨cq1036, kq1036, q1036a, q1036b, q1036c⟩ := isOf hZ rfl p1022
        obtain ⟨_, _, ⟨T1036, L1036, k1036c, n1036c⟩, -, X1036, ⟨Lc1036, hQ1036, l1036, y1036, z1036⟩, st1036⟩ := X1020.virtualBack hx (y := (⟨"com/example/nearfar/nearfar/DescriptorSet$Field", "allows", "(I)Z"⟩ : MethodName)) (z := (⟨"com/example/nearfar/nearfar/DescriptorSet$Field", "allows", "(I)Z"⟩ : MethodName)) hown (mvT hZ (hw _ (List.mem_of_getElem? (i := 41) rfl))) (mvT hZ (hw _ (List.mem_of_getElem? (i := 42) rfl))) (notFace_of_selects (args := #[]) (mvT hZ (hw _ (List.mem_of_getElem? (i := 44) rfl)))) (mvT hZ (hw _ (List.mem_of_getElem? (i := 44) rfl))) (mvT hZ (hw _ (List.mem_of_getElem? (i := 43) rfl))) (by decide) (backOf (W := 0) (rmalN l Z a0 hw [] b1005 p1 T1020.heap n0 Z1020 p1026 p1027) hZ (hw _ (List.mem_of_getElem? (i := 45) rfl)) (hw _ (List.mem_of_getElem? (i := 18) rfl)) (by decide) (by decide)) q1036a q1036c (g := (mkF m 148 #[.val (.int p1), .val (.int p2), .val (.int p3), .val (.int (10 : Int32)), .val (.int rp), .val (.int (0 : Int32)), .val .null, .val .null, .val (.ref b1005), .val (.int (1 : Int32)), .unset, .unset] [(.int p1), (.ref b1005)])) rfl (by rw [hml]; rfl) (Steps.refl _) (argsL := [(.int p1)]) (rest := []) (lenOf pd_4 rfl) rfl (by show 2 * 0 + _ ≤ _; exact Nat.le_of_eq rfl) (hb hby at_148) (fun _ _ => ⟨rfl, rfl, (by decide : 0 + 0 + 1 + 2 + 0 + 0 ≤ _), (by decide : 0 + 0 + 6 + 1028 + 0 + 0 ≤ _)⟩)
        dsimp only [Pt.U, Pt.locs, Pt.cells, Pt.slots] at X1036 l1036 y1036 z1036 st1036 hQ1036
        subst l1036 y1036 z1036
        obtain ⟨rfl, N1036q, e1036⟩ := hQ1036
        have N1036 := Fr.app N1020 N1036q
        refine OEnds.st (fun _ k => st1036.trans k) ?_
        show OEnds p.tables e below G (T1036.setTop (mkF m 151 #[.val (.int p1), .val (.int p2), .val (.int p3), .val (.int (10 : Int32)), .val (.int rp), .val (.int (0 : Int32)), .val .null, .val .null, .val (.ref b1005), .val (.int (1 : Int32)), .unset, .unset] [(.int (1 : Int32))]))
        refine OEnds.st (fun _ k => XS.iload X1036.here hx rfl (hb hby at_151) rfl k) ?_
        show OEnds p.tables e below G (T1036.setTop (mkF m 153 #[.val (.int p1), .val (.int p2), .val (.int p3), .val (.int (10 : Int32)), .val (.int rp), .val (.int (0 : Int32)), .val .null, .val .null, .val (.ref b1005), .val (.int (1 : Int32)), .unset, .unset] [(.int (1 : Int32)), (.int (1 : Int32))]))
        refine OEnds.st (fun _ k => XS.icmpNo X1036.here hx rfl (hb hby at_153) rfl (teq (by decide : (1 : Int32) = (1 : Int32))).2 k) ?_
        show OEnds p.tables e below G (T1036.setTop (mkF m 156 #[.val (.int p1), .val (.int p2), .val (.int p3), .val (.int (10 : Int32)), .val (.int rp), .val (.int (0 : Int32)), .val .null, .val .null, .val (.ref b1005), .val (.int (1 : Int32)), .unset, .unset] []))
        refine OEnds.st (fun _ k => XS.iconst X1036.here hx rfl (hb hby at_156) k) ?_
        show OEnds p.tables e below G (T1036.setTop (mkF m 157 #[.val (.int p1), .val (.int p2), .val (.int p3), .val (.int (10 : Int32)), .val (.int rp), .val (.int (0 : Int32)), .val .null, .val .null, .val (.ref b1005), .val (.int (1 : Int32)), .unset, .unset] [(.int (1 : Int32))]))
        refine OEnds.st (fun _ k => XS.goto X1036.here hx rfl (pc0 := 157) (pc' := 161) rfl (hb hby at_157) (by decide) (by decide) k) ?_
        show OEnds p.tables e below G (T1036.setTop (mkF m 161 #[.val (.int p1), .val (.int p2), .val (.int p3), .val (.int (10 : Int32)), .val (.int rp), .val (.int (0 : Int32)), .val .null, .val .null, .val (.ref b1005), .val (.int (1 : Int32)), .unset, .unset] [(.int (1 : Int32))]))
        rw [← hG]
        refine OEnds.retZW X1036 hS (by rw [e1036]; exact hkk) hx hlk Bd.returns rfl (hb hby at_161) (by decide) (by decide) ?_
        rw [e1036]
        exact ⟨rfl, N1036⟩
      · -- an object
        have hn10 : ¬ v1001 = (10 : Int32) := by rcases hten with h | h | h | h | h | h | h | h | h | h <;> rw [h] <;> decide
        show OEnds p.tables e below G (s₁.setTop (mkF m 34 #[.val (.int p1), .val (.int p2), .val (.int p3), .val (.int v1001), .val (.int rp), .val (.int (0 : Int32)), .unset, .unset, .unset, .unset, .unset, .unset] []))
        refine OEnds.st (fun _ k => XS.iloadN X0.here hx rfl (hb hby at_34) rfl k) ?_
        show OEnds p.tables e below G (s₁.setTop (mkF m 35 #[.val (.int p1), .val (.int p2), .val (.int p3), .val (.int v1001), .val (.int rp), .val (.int (0 : Int32)), .unset, .unset, .unset, .unset, .unset, .unset] [(.int v1001)]))
        obtain ⟨_, _, ⟨T1037, L1037, k1037c, n1037c⟩, -, X1037, ⟨Lc1037, hQ1037, l1037, y1037, z1037⟩, st1037⟩ := Jvm.LawKit.callS X0 hx (y := (⟨"com/example/nearfar/nearfar/FieldAllowsPinLaw", "storedOf", "(I)Lcom/example/nearfar/nearfar/StoredType;"⟩ : MethodName)) hown (mvT hZ (hw _ (List.mem_of_getElem? (i := 1) rfl))) (mvT hZ (hw _ (List.mem_of_getElem? (i := 2) rfl))) (mvT hZ (hw _ (List.mem_of_getElem? (i := 3) rfl))) (mvT hZ (hw _ (List.mem_of_getElem? (i := 4) rfl))) (by decide) (backOf (W := 0) (rmstS l Z a0 hw [] v1001 o0 o1 o2 o3 o4 o5 o6 o7 o8 o9 h0 n0 Z0 St0 St1 St2 St3 St4 St5 St6 St7 St8 St9 hten) hZ (hw _ (List.mem_of_getElem? (i := 4) rfl)) (hw _ (List.mem_of_getElem? (i := 3) rfl)) (by decide) (by decide)) (g := (mkF m 35 #[.val (.int p1), .val (.int p2), .val (.int p3), .val (.int v1001), .val (.int rp), .val (.int (0 : Int32)), .unset, .unset, .unset, .unset, .unset, .unset] [(.int v1001)])) rfl (by rw [hml]; rfl) (argsL := [(.int v1001)]) (rest := []) (lenOf pd_2 rfl) rfl (by show 2 * 0 + _ ≤ _; exact Nat.le_of_eq rfl) (hb hby at_35) (fun _ _ => ⟨rfl, e0, (by decide : 0 + 0 ≤ _), (by decide : 0 + 0 ≤ _)⟩)
        dsimp only [Pt.U, Pt.locs, Pt.cells, Pt.slots] at X1037 l1037 y1037 z1037 st1037 hQ1037
        subst l1037 y1037 z1037
        obtain ⟨rfl, N1037q, e1037⟩ := hQ1037
        have N1037 := Fr.app N0 N1037q
        refine OEnds.st st1037 ?_
        generalize hO : (own_st v1001 o0 o1 o2 o3 o4 o5 o6 o7 o8 o9) = oS
        obtain ⟨K, w, EK, FK, hsW, hsP, hwk⟩ : ∃ (K : String) (w : Int32), Exa Z h0 oS K ∧ Fld Z h0 oS "com/example/nearfar/nearfar/StoredType" "wireType" "I" (.int w) ∧ (Jvm.Cond.selects K ({ cls := "com/example/nearfar/nearfar/StoredType", name := "wireType", desc := "()I" } : MethodName) ({ cls := "com/example/nearfar/nearfar/StoredType", name := "wireType", desc := "()I" } : MethodName)).before a0 Z = true ∧ (Jvm.Cond.selects K ({ cls := "com/example/nearfar/nearfar/StoredType", name := "packed", desc := "()Z" } : MethodName) ({ cls := "com/example/nearfar/nearfar/StoredType", name := "packed", desc := "()Z" } : MethodName)).before a0 Z = true ∧ w = own_wire v1001 := by
          rw [← hO]
          rcases hten with h | h | h | h | h | h | h | h | h | h
          · rw [h]; exact ⟨"com/example/nearfar/nearfar/StoredType$1", (2 : Int32), Ex0, Fl0, (hw _ (List.mem_of_getElem? (i := 69) rfl)), (hw _ (List.mem_of_getElem? (i := 71) rfl)), by decide⟩
          · rw [h]; exact ⟨"com/example/nearfar/nearfar/StoredType$2", (2 : Int32), Ex1, Fl1, (hw _ (List.mem_of_getElem? (i := 55) rfl)), (hw _ (List.mem_of_getElem? (i := 60) rfl)), by decide⟩
          · rw [h]; exact ⟨"com/example/nearfar/nearfar/StoredType$3", (0 : Int32), Ex2, Fl2, (hw _ (List.mem_of_getElem? (i := 84) rfl)), (hw _ (List.mem_of_getElem? (i := 86) rfl)), by decide⟩
          · rw [h]; exact ⟨"com/example/nearfar/nearfar/StoredType$4", (0 : Int32), Ex3, Fl3, (hw _ (List.mem_of_getElem? (i := 49) rfl)), (hw _ (List.mem_of_getElem? (i := 87) rfl)), by decide⟩
          · rw [h]; exact ⟨"com/example/nearfar/nearfar/StoredType$5", (1 : Int32), Ex4, Fl4, (hw _ (List.mem_of_getElem? (i := 100) rfl)), (hw _ (List.mem_of_getElem? (i := 102) rfl)), by decide⟩
          · rw [h]; exact ⟨"com/example/nearfar/nearfar/StoredType$6", (5 : Int32), Ex5, Fl5, (hw _ (List.mem_of_getElem? (i := 79) rfl)), (hw _ (List.mem_of_getElem? (i := 81) rfl)), by decide⟩
          · rw [h]; exact ⟨"com/example/nearfar/nearfar/StoredType$7", (0 : Int32), Ex6, Fl6, (hw _ (List.mem_of_getElem? (i := 90) rfl)), (hw _ (List.mem_of_getElem? (i := 92) rfl)), by decide⟩
          · rw [h]; exact ⟨"com/example/nearfar/nearfar/StoredType$8", (0 : Int32), Ex7, Fl7, (hw _ (List.mem_of_getElem? (i := 74) rfl)), (hw _ (List.mem_of_getElem? (i := 76) rfl)), by decide⟩
          · rw [h]; exact ⟨"com/example/nearfar/nearfar/StoredType$9", (2 : Int32), Ex8, Fl8, (hw _ (List.mem_of_getElem? (i := 64) rfl)), (hw _ (List.mem_of_getElem? (i := 66) rfl)), by decide⟩
          · rw [h]; exact ⟨"com/example/nearfar/nearfar/StoredType$10", (2 : Int32), Ex9, Fl9, (hw _ (List.mem_of_getElem? (i := 95) rfl)), (hw _ (List.mem_of_getElem? (i := 97) rfl)), by decide⟩
        show OEnds p.tables e below G (T1037.setTop (mkF m 38 #[.val (.int p1), .val (.int p2), .val (.int p3), .val (.int v1001), .val (.int rp), .val (.int (0 : Int32)), .unset, .unset, .unset, .unset, .unset, .unset] [(.ref oS)]))
        refine OEnds.st (fun _ k => XS.astore X1037.here hx rfl (hb hby at_38) rfl rfl (l' := #[.val (.int p1), .val (.int p2), .val (.int p3), .val (.int v1001), .val (.int rp), .val (.int (0 : Int32)), .val (.ref oS), .unset, .unset, .unset, .unset, .unset]) rfl k) ?_
        show OEnds p.tables e below G (T1037.setTop (mkF m 40 #[.val (.int p1), .val (.int p2), .val (.int p3), .val (.int v1001), .val (.int rp), .val (.int (0 : Int32)), .val (.ref oS), .unset, .unset, .unset, .unset, .unset] []))
        refine OEnds.st (fun _ k => XS.iload X1037.here hx rfl (hb hby at_40) rfl k) ?_
        show OEnds p.tables e below G (T1037.setTop (mkF m 42 #[.val (.int p1), .val (.int p2), .val (.int p3), .val (.int v1001), .val (.int rp), .val (.int (0 : Int32)), .val (.ref oS), .unset, .unset, .unset, .unset, .unset] [(.int (0 : Int32))]))
        refine OEnds.st (fun _ k => XS.ifYes X1037.here hx rfl (pc0 := 42) (pc' := 50) rfl (hb hby at_42) rfl ((if0 _ _).trans (teq (by decide : (0 : Int32) = (0 : Int32))).1) (by decide) (by decide) k) ?_
        show OEnds p.tables e below G (T1037.setTop (mkF m 50 #[.val (.int p1), .val (.int p2), .val (.int p3), .val (.int v1001), .val (.int rp), .val (.int (0 : Int32)), .val (.ref oS), .unset, .unset, .unset, .unset, .unset] []))
        refine OEnds.st (fun _ k => XS.aconstNull X1037.here hx rfl (hb hby at_50) k) ?_
        show OEnds p.tables e below G (T1037.setTop (mkF m 51 #[.val (.int p1), .val (.int p2), .val (.int p3), .val (.int v1001), .val (.int rp), .val (.int (0 : Int32)), .val (.ref oS), .unset, .unset, .unset, .unset, .unset] [.null]))
        refine OEnds.st (fun _ k => XS.astore X1037.here hx rfl (hb hby at_51) rfl rfl (l' := #[.val (.int p1), .val (.int p2), .val (.int p3), .val (.int v1001), .val (.int rp), .val (.int (0 : Int32)), .val (.ref oS), .val .null, .unset, .unset, .unset, .unset]) rfl k) ?_
        show OEnds p.tables e below G (T1037.setTop (mkF m 53 #[.val (.int p1), .val (.int p2), .val (.int p3), .val (.int v1001), .val (.int rp), .val (.int (0 : Int32)), .val (.ref oS), .val .null, .unset, .unset, .unset, .unset] []))
        obtain ⟨T1038, h1038, X1038, e1038, E1038, A1038, D1038, -, st1038⟩ := newO X1037 hx hZ hown (hw _ (List.mem_of_getElem? (i := 16) rfl)) (hw _ (List.mem_of_getElem? (i := 17) rfl)) (hw _ (List.mem_of_getElem? (i := 18) rfl)) e1037 (g := (mkF m 53 #[.val (.int p1), .val (.int p2), .val (.int p3), .val (.int v1001), .val (.int rp), .val (.int (0 : Int32)), .val (.ref oS), .val .null, .unset, .unset, .unset, .unset] [])) rfl (hb hby at_53) (by decide) (by decide)
        obtain ⟨b1038, g1038⟩ : ∃ z, z = h0.size := ⟨_, rfl⟩
        rw [← g1038] at A1038 D1038 st1038
        refine OEnds.st st1038 ?_
        have ne1039 : oS ≠ b1038 := Nat.ne_of_lt (Nat.lt_of_lt_of_le (EK).lt (Nat.le_of_eq g1038.symm))
        have ge_b1038 : n0 ≤ b1038 := Nat.le_trans Z0 (Nat.le_of_eq g1038.symm)
        have sz_b1038 : h0.size ≤ b1038 := Nat.le_trans KK0.1 (Nat.le_of_eq g1038.symm)
        have f1040 : Exa Z h1038 oS K := EK.ext E1038
        have f1041 : Fld Z h1038 oS "com/example/nearfar/nearfar/StoredType" "wireType" "I" (.int w) := FK.ext E1038
        have KK1038 : Keep h0 h1038 [] := KK0.ext E1038
        have Z1038 := Nat.le_trans Z0 E1038.1
        have hkk := Nat.le_trans hkk E1038.1
        have ex_b1038 := A1038
        have f1042 : Fld Z h1038 b1038 "com/example/nearfar/nearfar/DescriptorSet$Field" "name" "Ljava/lang/String;" .null := D1038 (Or.inr (hw _ (List.mem_of_getElem? (i := 27) rfl))) (ty := (.object "java/lang/String")) (by decide)
        have f1043 : Fld Z h1038 b1038 "com/example/nearfar/nearfar/DescriptorSet$Field" "number" "I" (.int (0 : Int32)) := D1038 (Or.inr (hw _ (List.mem_of_getElem? (i := 29) rfl))) (ty := .int) (by decide)
        have f1044 : Fld Z h1038 b1038 "com/example/nearfar/nearfar/DescriptorSet$Field" "repeated" "Z" (.int (0 : Int32)) := D1038 (Or.inr (hw _ (List.mem_of_getElem? (i := 31) rfl))) (ty := .boolean) (by decide)
        have f1045 : Fld Z h1038 b1038 "com/example/nearfar/nearfar/DescriptorSet$Field" "stored" "Lcom/example/nearfar/nearfar/StoredType;" .null := D1038 (Or.inr (hw _ (List.mem_of_getElem? (i := 33) rfl))) (ty := (.object "com/example/nearfar/nearfar/StoredType")) (by decide)
        have f1046 : Fld Z h1038 b1038 "com/example/nearfar/nearfar/DescriptorSet$Field" "messageType" "Ljava/lang/String;" .null := D1038 (Or.inr (hw _ (List.mem_of_getElem? (i := 35) rfl))) (ty := (.object "java/lang/String")) (by decide)
        have f1047 : Fld Z h1038 b1038 "com/example/nearfar/nearfar/DescriptorSet$Field" "enumType" "Ljava/lang/String;" .null := D1038 (Or.inr (hw _ (List.mem_of_getElem? (i := 37) rfl))) (ty := (.object "java/lang/String")) (by decide)
        show OEnds p.tables e below G (T1038.setTop (mkF m 56 #[.val (.int p1), .val (.int p2), .val (.int p3), .val (.int v1001), .val (.int rp), .val (.int (0 : Int32)), .val (.ref oS), .val .null, .unset, .unset, .unset, .unset] [(.ref b1038)]))
        refine OEnds.st (fun _ k => XS.dup X1038.here hx rfl (hb hby at_56) rfl rfl k) ?_
        show OEnds p.tables e below G (T1038.setTop (mkF m 57 #[.val (.int p1), .val (.int p2), .val (.int p3), .val (.int v1001), .val (.int rp), .val (.int (0 : Int32)), .val (.ref oS), .val .null, .unset, .unset, .unset, .unset] [(.ref b1038), (.ref b1038)]))
        obtain ⟨str1048, T1048, h1048, kS1048, X1048, e1048, E1048, hS, hkk, hZ, hown, st1048⟩ := ldcS X1038 hx hZ hown (hw _ (List.mem_of_getElem? (i := 19) rfl)) wS e1038 hS hkk (g := (mkF m 57 #[.val (.int p1), .val (.int p2), .val (.int p3), .val (.int v1001), .val (.int rp), .val (.int (0 : Int32)), .val (.ref oS), .val .null, .unset, .unset, .unset, .unset] [(.ref b1038), (.ref b1038)])) rfl (hb hby at_57) (n := 1024) (by decide) (by decide) (by decide) (by decide)
        refine OEnds.st st1048 ?_
        have f1049 : Exa Z h1048 oS K := f1040.ext E1048
        have f1050 : Fld Z h1048 oS "com/example/nearfar/nearfar/StoredType" "wireType" "I" (.int w) := f1041.ext E1048
        have f1051 : Exa Z h1048 b1038 "com/example/nearfar/nearfar/DescriptorSet$Field" := ex_b1038.ext E1048
        have f1052 : Fld Z h1048 b1038 "com/example/nearfar/nearfar/DescriptorSet$Field" "name" "Ljava/lang/String;" .null := f1042.ext E1048
        have f1053 : Fld Z h1048 b1038 "com/example/nearfar/nearfar/DescriptorSet$Field" "number" "I" (.int (0 : Int32)) := f1043.ext E1048
        have f1054 : Fld Z h1048 b1038 "com/example/nearfar/nearfar/DescriptorSet$Field" "repeated" "Z" (.int (0 : Int32)) := f1044.ext E1048
        have f1055 : Fld Z h1048 b1038 "com/example/nearfar/nearfar/DescriptorSet$Field" "stored" "Lcom/example/nearfar/nearfar/StoredType;" .null := f1045.ext E1048
        have f1056 : Fld Z h1048 b1038 "com/example/nearfar/nearfar/DescriptorSet$Field" "messageType" "Ljava/lang/String;" .null := f1046.ext E1048
        have f1057 : Fld Z h1048 b1038 "com/example/nearfar/nearfar/DescriptorSet$Field" "enumType" "Ljava/lang/String;" .null := f1047.ext E1048
        have KK1048 : Keep h0 h1048 [] := KK1038.ext E1048
        have Z1048 := Nat.le_trans Z1038 E1048.1
        show OEnds p.tables e below G (T1048.setTop (mkF m 59 #[.val (.int p1), .val (.int p2), .val (.int p3), .val (.int v1001), .val (.int rp), .val (.int (0 : Int32)), .val (.ref oS), .val .null, .unset, .unset, .unset, .unset] [(.ref str1048), (.ref b1038), (.ref b1038)]))
        refine OEnds.st (fun _ k => XS.iconst X1048.here hx rfl (hb hby at_59) k) ?_
        show OEnds p.tables e below G (T1048.setTop (mkF m 60 #[.val (.int p1), .val (.int p2), .val (.int p3), .val (.int v1001), .val (.int rp), .val (.int (0 : Int32)), .val (.ref oS), .val .null, .unset, .unset, .unset, .unset] [(.int (2 : Int32)), (.ref str1048), (.ref b1038), (.ref b1038)]))
        refine OEnds.st (fun _ k => XS.iload X1048.here hx rfl (hb hby at_60) rfl k) ?_
        show OEnds p.tables e below G (T1048.setTop (mkF m 62 #[.val (.int p1), .val (.int p2), .val (.int p3), .val (.int v1001), .val (.int rp), .val (.int (0 : Int32)), .val (.ref oS), .val .null, .unset, .unset, .unset, .unset] [(.int rp), (.int (2 : Int32)), (.ref str1048), (.ref b1038), (.ref b1038)]))
        refine OEnds.st (fun _ k => XS.aload X1048.here hx rfl (hb hby at_62) rfl rfl k) ?_
        show OEnds p.tables e below G (T1048.setTop (mkF m 64 #[.val (.int p1), .val (.int p2), .val (.int p3), .val (.int v1001), .val (.int rp), .val (.int (0 : Int32)), .val (.ref oS), .val .null, .unset, .unset, .unset, .unset] [(.ref oS), (.int rp), (.int (2 : Int32)), (.ref str1048), (.ref b1038), (.ref b1038)]))
        refine OEnds.st (fun _ k => XS.aload X1048.here hx rfl (hb hby at_64) rfl rfl k) ?_
        show OEnds p.tables e below G (T1048.setTop (mkF m 66 #[.val (.int p1), .val (.int p2), .val (.int p3), .val (.int v1001), .val (.int rp), .val (.int (0 : Int32)), .val (.ref oS), .val .null, .unset, .unset, .unset, .unset] [.null, (.ref oS), (.int rp), (.int (2 : Int32)), (.ref str1048), (.ref b1038), (.ref b1038)]))
        refine OEnds.st (fun _ k => XS.aconstNull X1048.here hx rfl (hb hby at_66) k) ?_
        show OEnds p.tables e below G (T1048.setTop (mkF m 67 #[.val (.int p1), .val (.int p2), .val (.int p3), .val (.int v1001), .val (.int rp), .val (.int (0 : Int32)), .val (.ref oS), .val .null, .unset, .unset, .unset, .unset] [.null, .null, (.ref oS), (.int rp), (.int (2 : Int32)), (.ref str1048), (.ref b1038), (.ref b1038)]))
        obtain ⟨_, _, ⟨T1058, L1058, k1058c, n1058c⟩, -, X1058, ⟨Lc1058, hQ1058, l1058, y1058, z1058⟩, st1058⟩ := X1048.specialBack hx (y := (⟨"com/example/nearfar/nearfar/DescriptorSet$Field", "<init>", "(Ljava/lang/String;IZLcom/example/nearfar/nearfar/StoredType;Ljava/lang/String;Ljava/lang/String;)V"⟩ : MethodName)) rfl hown (mvT hZ (hw _ (List.mem_of_getElem? (i := 20) rfl))) (mvT hZ (hw _ (List.mem_of_getElem? (i := 21) rfl))) (mvT hZ (hw _ (List.mem_of_getElem? (i := 22) rfl))) (by decide) (backOf (W := 1) (rmfi10 l Z a0 hw [] b1038 str1048 rp oS h1048 n0 Z1048 f1051 f1052 f1053 f1054 f1055 f1056 f1057 ge_b1038 hrp) hZ (hw _ (List.mem_of_getElem? (i := 22) rfl)) (hw _ (List.mem_of_getElem? (i := 18) rfl)) (by decide) (by decide)) (g := (mkF m 67 #[.val (.int p1), .val (.int p2), .val (.int p3), .val (.int v1001), .val (.int rp), .val (.int (0 : Int32)), .val (.ref oS), .val .null, .unset, .unset, .unset, .unset] [.null, .null, (.ref oS), (.int rp), (.int (2 : Int32)), (.ref str1048), (.ref b1038), (.ref b1038)])) rfl (by rw [hml]; rfl) (Steps.refl _) (a := b1038) (argsL := [(.ref str1048), (.int (2 : Int32)), (.int rp), (.ref oS), .null, .null]) (rest := [(.ref b1038)]) (lenOf pd_3 rfl) rfl (by show 2 * 0 + _ ≤ _; exact Nat.le_of_eq rfl) (hb hby at_67) (fun _ _ => ⟨rfl, e1048, (by decide : 0 + 0 + 1 + 2 + 0 ≤ _), (by decide : 0 + 0 + 6 + 1028 + 0 ≤ _)⟩)
        dsimp only [Pt.U, Pt.locs, Pt.cells, Pt.slots] at X1058 l1058 y1058 z1058 st1058 hQ1058
        subst l1058 y1058 z1058
        obtain ⟨rfl, N1058q, p1059, p1060, p1061, p1062, p1063, p1064, p1065, p1066⟩ := hQ1058
        have N1058 := Fr.app N1037 N1058q
        refine OEnds.st (fun _ k => st1058.trans k) ?_
        have f1067 : Exa Z T1058.heap oS K := f1049.keep p1059
        have f1068 : Fld Z T1058.heap oS "com/example/nearfar/nearfar/StoredType" "wireType" "I" (.int w) := f1050.keep p1059 (by simp only [List.mem_cons, List.not_mem_nil, or_false, not_or]; exact ne1039)
        have f1069 : Exa Z T1058.heap b1038 "com/example/nearfar/nearfar/DescriptorSet$Field" := f1051.keep p1059
        have KK1058 : Keep h0 T1058.heap [] := KK1048.trans p1059 (fun x hx => by cases List.mem_singleton.mp hx; exact Or.inr sz_b1038)
        have Z1058 := Nat.le_trans Z1048 p1059.1
        have hkk := Nat.le_trans hkk p1059.1
        show OEnds p.tables e below G (T1058.setTop (mkF m 70 #[.val (.int p1), .val (.int p2), .val (.int p3), .val (.int v1001), .val (.int rp), .val (.int (0 : Int32)), .val (.ref oS), .val .null, .unset, .unset, .unset, .unset] [(.ref b1038)]))
        refine OEnds.st (fun _ k => XS.astore X1058.here hx rfl (hb hby at_70) rfl rfl (l' := #[.val (.int p1), .val (.int p2), .val (.int p3), .val (.int v1001), .val (.int rp), .val (.int (0 : Int32)), .val (.ref oS), .val .null, .val (.ref b1038), .unset, .unset, .unset]) rfl k) ?_
        show OEnds p.tables e below G (T1058.setTop (mkF m 72 #[.val (.int p1), .val (.int p2), .val (.int p3), .val (.int v1001), .val (.int rp), .val (.int (0 : Int32)), .val (.ref oS), .val .null, .val (.ref b1038), .unset, .unset, .unset] []))
        refine OEnds.st (fun _ k => XS.iloadN X1058.here hx rfl (hb hby at_72) rfl k) ?_
        show OEnds p.tables e below G (T1058.setTop (mkF m 73 #[.val (.int p1), .val (.int p2), .val (.int p3), .val (.int v1001), .val (.int rp), .val (.int (0 : Int32)), .val (.ref oS), .val .null, .val (.ref b1038), .unset, .unset, .unset] [(.int v1001)]))
        refine OEnds.st (fun _ k => XS.bipush X1058.here hx rfl (hb hby at_73) k) ?_
        show OEnds p.tables e below G (T1058.setTop (mkF m 75 #[.val (.int p1), .val (.int p2), .val (.int p3), .val (.int v1001), .val (.int rp), .val (.int (0 : Int32)), .val (.ref oS), .val .null, .val (.ref b1038), .unset, .unset, .unset] [(.int (10 : Int32)), (.int v1001)]))
        refine OEnds.st (fun _ k => XS.icmpYes X1058.here hx rfl (pc0 := 75) (pc' := 98) rfl (hb hby at_75) rfl (feq hn10).2 (by decide) (by decide) k) ?_
        show OEnds p.tables e below G (T1058.setTop (mkF m 98 #[.val (.int p1), .val (.int p2), .val (.int p3), .val (.int v1001), .val (.int rp), .val (.int (0 : Int32)), .val (.ref oS), .val .null, .val (.ref b1038), .unset, .unset, .unset] []))
        refine OEnds.st (fun _ k => XS.iloadN X1058.here hx rfl (hb hby at_98) rfl k) ?_
        show OEnds p.tables e below G (T1058.setTop (mkF m 99 #[.val (.int p1), .val (.int p2), .val (.int p3), .val (.int v1001), .val (.int rp), .val (.int (0 : Int32)), .val (.ref oS), .val .null, .val (.ref b1038), .unset, .unset, .unset] [(.int v1001)]))
        obtain ⟨_, _, ⟨T1076, L1076, k1076c, n1076c⟩, -, X1076, ⟨Lc1076, hQ1076, l1076, y1076, z1076⟩, st1076⟩ := Jvm.LawKit.callS X1058 hx (y := (⟨"com/example/nearfar/nearfar/FieldAllowsPinLaw", "wireOf", "(I)I"⟩ : MethodName)) hown (mvT hZ (hw _ (List.mem_of_getElem? (i := 38) rfl))) (mvT hZ (hw _ (List.mem_of_getElem? (i := 39) rfl))) (mvT hZ (hw _ (List.mem_of_getElem? (i := 3) rfl))) (mvT hZ (hw _ (List.mem_of_getElem? (i := 40) rfl))) (by decide) (backOf (W := 0) (rm4 l Z a0 hw [] v1001 T1058.heap n0 Z1058 ) hZ (hw _ (List.mem_of_getElem? (i := 40) rfl)) (hw _ (List.mem_of_getElem? (i := 3) rfl)) (by decide) (by decide)) (g := (mkF m 99 #[.val (.int p1), .val (.int p2), .val (.int p3), .val (.int v1001), .val (.int rp), .val (.int (0 : Int32)), .val (.ref oS), .val .null, .val (.ref b1038), .unset, .unset, .unset] [(.int v1001)])) rfl (by rw [hml]; rfl) (argsL := [(.int v1001)]) (rest := []) (lenOf pd_5 rfl) rfl (by show 2 * 0 + _ ≤ _; exact Nat.le_of_eq rfl) (hb hby at_99) (fun _ _ => ⟨rfl, rfl, (by decide : 0 + 0 + 1 + 2 + 0 + 0 ≤ _), (by decide : 0 + 0 + 6 + 1028 + 0 + 0 ≤ _)⟩)
        dsimp only [Pt.U, Pt.locs, Pt.cells, Pt.slots] at X1076 l1076 y1076 z1076 st1076 hQ1076
        subst l1076 y1076 z1076
        obtain ⟨rfl, N1076q, e1076⟩ := hQ1076
        have N1076 := Fr.app N1058 N1076q
        refine OEnds.st st1076 ?_
        show OEnds p.tables e below G (T1076.setTop (mkF m 102 #[.val (.int p1), .val (.int p2), .val (.int p3), .val (.int v1001), .val (.int rp), .val (.int (0 : Int32)), .val (.ref oS), .val .null, .val (.ref b1038), .unset, .unset, .unset] [(.int (own_wire v1001))]))
        refine OEnds.st (fun _ k => XS.istore X1076.here hx rfl (hb hby at_102) rfl (l' := #[.val (.int p1), .val (.int p2), .val (.int p3), .val (.int v1001), .val (.int rp), .val (.int (0 : Int32)), .val (.ref oS), .val .null, .val (.ref b1038), .unset, .val (.int (own_wire v1001)), .unset]) rfl k) ?_
        show OEnds p.tables e below G (T1076.setTop (mkF m 104 #[.val (.int p1), .val (.int p2), .val (.int p3), .val (.int v1001), .val (.int rp), .val (.int (0 : Int32)), .val (.ref oS), .val .null, .val (.ref b1038), .unset, .val (.int (own_wire v1001)), .unset] []))
        generalize hv_v1077 : (own_wire v1001) = v1077
        show OEnds p.tables e below G (T1076.setTop (mkF m 104 #[.val (.int p1), .val (.int p2), .val (.int p3), .val (.int v1001), .val (.int rp), .val (.int (0 : Int32)), .val (.ref oS), .val .null, .val (.ref b1038), .unset, .val (.int v1077), .unset] []))
        refine OEnds.st (fun _ k => XS.iload X1076.here hx rfl (hb hby at_104) rfl k) ?_
        show OEnds p.tables e below G (T1076.setTop (mkF m 106 #[.val (.int p1), .val (.int p2), .val (.int p3), .val (.int v1001), .val (.int rp), .val (.int (0 : Int32)), .val (.ref oS), .val .null, .val (.ref b1038), .unset, .val (.int v1077), .unset] [(.int v1077)]))
        refine OEnds.st (fun _ k => XS.iconst X1076.here hx rfl (hb hby at_106) k) ?_
        show OEnds p.tables e below G (T1076.setTop (mkF m 107 #[.val (.int p1), .val (.int p2), .val (.int p3), .val (.int v1001), .val (.int rp), .val (.int (0 : Int32)), .val (.ref oS), .val .null, .val (.ref b1038), .unset, .val (.int v1077), .unset] [(.int (2 : Int32)), (.int v1077)]))
        by_cases hc107_1078 : v1077 = (2 : Int32)
        · -- pc 107: yes
          refine OEnds.st (fun _ k => XS.icmpYes X1076.here hx rfl (pc0 := 107) (pc' := 114) rfl (hb hby at_107) rfl (teq hc107_1078).1 (by decide) (by decide) k) ?_
          show OEnds p.tables e below G (T1076.setTop (mkF m 114 #[.val (.int p1), .val (.int p2), .val (.int p3), .val (.int v1001), .val (.int rp), .val (.int (0 : Int32)), .val (.ref oS), .val .null, .val (.ref b1038), .unset, .val (.int v1077), .unset] []))
          refine OEnds.st (fun _ k => XS.iconst X1076.here hx rfl (hb hby at_114) k) ?_
          show OEnds p.tables e below G (T1076.setTop (mkF m 115 #[.val (.int p1), .val (.int p2), .val (.int p3), .val (.int v1001), .val (.int rp), .val (.int (0 : Int32)), .val (.ref oS), .val .null, .val (.ref b1038), .unset, .val (.int v1077), .unset] [(.int (0 : Int32))]))
          refine OEnds.st (fun _ k => XS.istore X1076.here hx rfl (hb hby at_115) rfl (l' := #[.val (.int p1), .val (.int p2), .val (.int p3), .val (.int v1001), .val (.int rp), .val (.int (0 : Int32)), .val (.ref oS), .val .null, .val (.ref b1038), .unset, .val (.int v1077), .val (.int (0 : Int32))]) rfl k) ?_
          show OEnds p.tables e below G (T1076.setTop (mkF m 117 #[.val (.int p1), .val (.int p2), .val (.int p3), .val (.int v1001), .val (.int rp), .val (.int (0 : Int32)), .val (.ref oS), .val .null, .val (.ref b1038), .unset, .val (.int v1077), .val (.int (0 : Int32))] []))
          refine OEnds.st (fun _ k => XS.iloadN X1076.here hx rfl (hb hby at_117) rfl k) ?_
          show OEnds p.tables e below G (T1076.setTop (mkF m 118 #[.val (.int p1), .val (.int p2), .val (.int p3), .val (.int v1001), .val (.int rp), .val (.int (0 : Int32)), .val (.ref oS), .val .null, .val (.ref b1038), .unset, .val (.int v1077), .val (.int (0 : Int32))] [(.int p1)]))
          refine OEnds.st (fun _ k => XS.iload X1076.here hx rfl (hb hby at_118) rfl k) ?_
          show OEnds p.tables e below G (T1076.setTop (mkF m 120 #[.val (.int p1), .val (.int p2), .val (.int p3), .val (.int v1001), .val (.int rp), .val (.int (0 : Int32)), .val (.ref oS), .val .null, .val (.ref b1038), .unset, .val (.int v1077), .val (.int (0 : Int32))] [(.int v1077), (.int p1)]))
          by_cases hc120_1079 : p1 = v1077
          · -- pc 120: yes
            refine OEnds.st (fun _ k => XS.icmpYes X1076.here hx rfl (pc0 := 120) (pc' := 138) rfl (hb hby at_120) rfl (teq hc120_1079).1 (by decide) (by decide) k) ?_
            show OEnds p.tables e below G (T1076.setTop (mkF m 138 #[.val (.int p1), .val (.int p2), .val (.int p3), .val (.int v1001), .val (.int rp), .val (.int (0 : Int32)), .val (.ref oS), .val .null, .val (.ref b1038), .unset, .val (.int v1077), .val (.int (0 : Int32))] []))
            refine OEnds.st (fun _ k => XS.iconst X1076.here hx rfl (hb hby at_138) k) ?_
            show OEnds p.tables e below G (T1076.setTop (mkF m 139 #[.val (.int p1), .val (.int p2), .val (.int p3), .val (.int v1001), .val (.int rp), .val (.int (0 : Int32)), .val (.ref oS), .val .null, .val (.ref b1038), .unset, .val (.int v1077), .val (.int (0 : Int32))] [(.int (1 : Int32))]))
            refine OEnds.st (fun _ k => XS.goto X1076.here hx rfl (pc0 := 139) (pc' := 143) rfl (hb hby at_139) (by decide) (by decide) k) ?_
            show OEnds p.tables e below G (T1076.setTop (mkF m 143 #[.val (.int p1), .val (.int p2), .val (.int p3), .val (.int v1001), .val (.int rp), .val (.int (0 : Int32)), .val (.ref oS), .val .null, .val (.ref b1038), .unset, .val (.int v1077), .val (.int (0 : Int32))] [(.int (1 : Int32))]))
            refine OEnds.st (fun _ k => XS.istore X1076.here hx rfl (hb hby at_143) rfl (l' := #[.val (.int p1), .val (.int p2), .val (.int p3), .val (.int v1001), .val (.int rp), .val (.int (0 : Int32)), .val (.ref oS), .val .null, .val (.ref b1038), .val (.int (1 : Int32)), .val (.int v1077), .val (.int (0 : Int32))]) rfl k) ?_
            show OEnds p.tables e below G (T1076.setTop (mkF m 145 #[.val (.int p1), .val (.int p2), .val (.int p3), .val (.int v1001), .val (.int rp), .val (.int (0 : Int32)), .val (.ref oS), .val .null, .val (.ref b1038), .val (.int (1 : Int32)), .val (.int v1077), .val (.int (0 : Int32))] []))
            refine OEnds.st (fun _ k => XS.aload X1076.here hx rfl (hb hby at_145) rfl rfl k) ?_
            show OEnds p.tables e below G (T1076.setTop (mkF m 147 #[.val (.int p1), .val (.int p2), .val (.int p3), .val (.int v1001), .val (.int rp), .val (.int (0 : Int32)), .val (.ref oS), .val .null, .val (.ref b1038), .val (.int (1 : Int32)), .val (.int v1077), .val (.int (0 : Int32))] [(.ref b1038)]))
            refine OEnds.st (fun _ k => XS.iloadN X1076.here hx rfl (hb hby at_147) rfl k) ?_
            show OEnds p.tables e below G (T1076.setTop (mkF m 148 #[.val (.int p1), .val (.int p2), .val (.int p3), .val (.int v1001), .val (.int rp), .val (.int (0 : Int32)), .val (.ref oS), .val .null, .val (.ref b1038), .val (.int (1 : Int32)), .val (.int v1077), .val (.int (0 : Int32))] [(.int p1), (.ref b1038)]))
            obtain ⟨cq1080, kq1080, q1080a, q1080b, q1080c⟩ := isOf hZ e1076 p1060
            obtain ⟨_, _, ⟨T1080, L1080, k1080c, n1080c⟩, -, X1080, ⟨Lc1080, hQ1080, l1080, y1080, z1080⟩, st1080⟩ := X1076.virtualBack hx (y := (⟨"com/example/nearfar/nearfar/DescriptorSet$Field", "allows", "(I)Z"⟩ : MethodName)) (z := (⟨"com/example/nearfar/nearfar/DescriptorSet$Field", "allows", "(I)Z"⟩ : MethodName)) hown (mvT hZ (hw _ (List.mem_of_getElem? (i := 41) rfl))) (mvT hZ (hw _ (List.mem_of_getElem? (i := 42) rfl))) (notFace_of_selects (args := #[]) (mvT hZ (hw _ (List.mem_of_getElem? (i := 44) rfl)))) (mvT hZ (hw _ (List.mem_of_getElem? (i := 44) rfl))) (mvT hZ (hw _ (List.mem_of_getElem? (i := 43) rfl))) (by decide) (backOf (W := 0) (rmalO l Z a0 hw [] b1038 p1 oS K w rp T1058.heap n0 Z1058 p1064 p1063 f1067 f1068 hsW hsP) hZ (hw _ (List.mem_of_getElem? (i := 45) rfl)) (hw _ (List.mem_of_getElem? (i := 18) rfl)) (by decide) (by decide)) q1080a q1080c (g := (mkF m 148 #[.val (.int p1), .val (.int p2), .val (.int p3), .val (.int v1001), .val (.int rp), .val (.int (0 : Int32)), .val (.ref oS), .val .null, .val (.ref b1038), .val (.int (1 : Int32)), .val (.int v1077), .val (.int (0 : Int32))] [(.int p1), (.ref b1038)])) rfl (by rw [hml]; rfl) (Steps.refl _) (argsL := [(.int p1)]) (rest := []) (lenOf pd_4 rfl) rfl (by show 2 * 0 + _ ≤ _; exact Nat.le_of_eq rfl) (hb hby at_148) (fun _ _ => ⟨rfl, e1076, (by decide : 0 + 0 + 1 + 2 + 0 + 0 + 0 ≤ _), (by decide : 0 + 0 + 6 + 1028 + 0 + 0 + 0 ≤ _)⟩)
            dsimp only [Pt.U, Pt.locs, Pt.cells, Pt.slots] at X1080 l1080 y1080 z1080 st1080 hQ1080
            subst l1080 y1080 z1080
            obtain ⟨rfl, N1080q, e1080⟩ := hQ1080
            have N1080 := Fr.app N1076 N1080q
            refine OEnds.st (fun _ k => st1080.trans k) ?_
            show OEnds p.tables e below G (T1080.setTop (mkF m 151 #[.val (.int p1), .val (.int p2), .val (.int p3), .val (.int v1001), .val (.int rp), .val (.int (0 : Int32)), .val (.ref oS), .val .null, .val (.ref b1038), .val (.int (1 : Int32)), .val (.int v1077), .val (.int (0 : Int32))] [(.int (own_al p1 w rp))]))
            refine OEnds.st (fun _ k => XS.iload X1080.here hx rfl (hb hby at_151) rfl k) ?_
            show OEnds p.tables e below G (T1080.setTop (mkF m 153 #[.val (.int p1), .val (.int p2), .val (.int p3), .val (.int v1001), .val (.int rp), .val (.int (0 : Int32)), .val (.ref oS), .val .null, .val (.ref b1038), .val (.int (1 : Int32)), .val (.int v1077), .val (.int (0 : Int32))] [(.int (1 : Int32)), (.int (own_al p1 w rp))]))
            have hc153_1081 : (own_al p1 w rp) = (1 : Int32) := by rw [hwk, hv_v1077]; simp [own_al, own_packed, hc24_1003, hc107_1078, hc120_1079]; try exact fun q => hc120_1079 (q.trans hc107_1078.symm)
            refine OEnds.st (fun _ k => XS.icmpNo X1080.here hx rfl (hb hby at_153) rfl (teq hc153_1081).2 k) ?_
            show OEnds p.tables e below G (T1080.setTop (mkF m 156 #[.val (.int p1), .val (.int p2), .val (.int p3), .val (.int v1001), .val (.int rp), .val (.int (0 : Int32)), .val (.ref oS), .val .null, .val (.ref b1038), .val (.int (1 : Int32)), .val (.int v1077), .val (.int (0 : Int32))] []))
            refine OEnds.st (fun _ k => XS.iconst X1080.here hx rfl (hb hby at_156) k) ?_
            show OEnds p.tables e below G (T1080.setTop (mkF m 157 #[.val (.int p1), .val (.int p2), .val (.int p3), .val (.int v1001), .val (.int rp), .val (.int (0 : Int32)), .val (.ref oS), .val .null, .val (.ref b1038), .val (.int (1 : Int32)), .val (.int v1077), .val (.int (0 : Int32))] [(.int (1 : Int32))]))
            refine OEnds.st (fun _ k => XS.goto X1080.here hx rfl (pc0 := 157) (pc' := 161) rfl (hb hby at_157) (by decide) (by decide) k) ?_
            show OEnds p.tables e below G (T1080.setTop (mkF m 161 #[.val (.int p1), .val (.int p2), .val (.int p3), .val (.int v1001), .val (.int rp), .val (.int (0 : Int32)), .val (.ref oS), .val .null, .val (.ref b1038), .val (.int (1 : Int32)), .val (.int v1077), .val (.int (0 : Int32))] [(.int (1 : Int32))]))
            rw [← hG]
            refine OEnds.retZW X1080 hS (by rw [e1080]; exact hkk) hx hlk Bd.returns rfl (hb hby at_161) (by decide) (by decide) ?_
            rw [e1080]
            exact ⟨rfl, N1080⟩
          · -- pc 120: no
            refine OEnds.st (fun _ k => XS.icmpNo X1076.here hx rfl (hb hby at_120) rfl (feq hc120_1079).1 k) ?_
            show OEnds p.tables e below G (T1076.setTop (mkF m 123 #[.val (.int p1), .val (.int p2), .val (.int p3), .val (.int v1001), .val (.int rp), .val (.int (0 : Int32)), .val (.ref oS), .val .null, .val (.ref b1038), .unset, .val (.int v1077), .val (.int (0 : Int32))] []))
            refine OEnds.st (fun _ k => XS.iload X1076.here hx rfl (hb hby at_123) rfl k) ?_
            show OEnds p.tables e below G (T1076.setTop (mkF m 125 #[.val (.int p1), .val (.int p2), .val (.int p3), .val (.int v1001), .val (.int rp), .val (.int (0 : Int32)), .val (.ref oS), .val .null, .val (.ref b1038), .unset, .val (.int v1077), .val (.int (0 : Int32))] [(.int rp)]))
            by_cases hc125_1082 : rp = (0 : Int32)
            · -- pc 125: yes
              refine OEnds.st (fun _ k => XS.ifYes X1076.here hx rfl (pc0 := 125) (pc' := 142) rfl (hb hby at_125) rfl ((if0 _ _).trans (teq hc125_1082).1) (by decide) (by decide) k) ?_
              show OEnds p.tables e below G (T1076.setTop (mkF m 142 #[.val (.int p1), .val (.int p2), .val (.int p3), .val (.int v1001), .val (.int rp), .val (.int (0 : Int32)), .val (.ref oS), .val .null, .val (.ref b1038), .unset, .val (.int v1077), .val (.int (0 : Int32))] []))
              refine OEnds.st (fun _ k => XS.iconst X1076.here hx rfl (hb hby at_142) k) ?_
              show OEnds p.tables e below G (T1076.setTop (mkF m 143 #[.val (.int p1), .val (.int p2), .val (.int p3), .val (.int v1001), .val (.int rp), .val (.int (0 : Int32)), .val (.ref oS), .val .null, .val (.ref b1038), .unset, .val (.int v1077), .val (.int (0 : Int32))] [(.int (0 : Int32))]))
              refine OEnds.st (fun _ k => XS.istore X1076.here hx rfl (hb hby at_143) rfl (l' := #[.val (.int p1), .val (.int p2), .val (.int p3), .val (.int v1001), .val (.int rp), .val (.int (0 : Int32)), .val (.ref oS), .val .null, .val (.ref b1038), .val (.int (0 : Int32)), .val (.int v1077), .val (.int (0 : Int32))]) rfl k) ?_
              show OEnds p.tables e below G (T1076.setTop (mkF m 145 #[.val (.int p1), .val (.int p2), .val (.int p3), .val (.int v1001), .val (.int rp), .val (.int (0 : Int32)), .val (.ref oS), .val .null, .val (.ref b1038), .val (.int (0 : Int32)), .val (.int v1077), .val (.int (0 : Int32))] []))
              refine OEnds.st (fun _ k => XS.aload X1076.here hx rfl (hb hby at_145) rfl rfl k) ?_
              show OEnds p.tables e below G (T1076.setTop (mkF m 147 #[.val (.int p1), .val (.int p2), .val (.int p3), .val (.int v1001), .val (.int rp), .val (.int (0 : Int32)), .val (.ref oS), .val .null, .val (.ref b1038), .val (.int (0 : Int32)), .val (.int v1077), .val (.int (0 : Int32))] [(.ref b1038)]))
              refine OEnds.st (fun _ k => XS.iloadN X1076.here hx rfl (hb hby at_147) rfl k) ?_
              show OEnds p.tables e below G (T1076.setTop (mkF m 148 #[.val (.int p1), .val (.int p2), .val (.int p3), .val (.int v1001), .val (.int rp), .val (.int (0 : Int32)), .val (.ref oS), .val .null, .val (.ref b1038), .val (.int (0 : Int32)), .val (.int v1077), .val (.int (0 : Int32))] [(.int p1), (.ref b1038)]))
              obtain ⟨cq1083, kq1083, q1083a, q1083b, q1083c⟩ := isOf hZ e1076 p1060
              obtain ⟨_, _, ⟨T1083, L1083, k1083c, n1083c⟩, -, X1083, ⟨Lc1083, hQ1083, l1083, y1083, z1083⟩, st1083⟩ := X1076.virtualBack hx (y := (⟨"com/example/nearfar/nearfar/DescriptorSet$Field", "allows", "(I)Z"⟩ : MethodName)) (z := (⟨"com/example/nearfar/nearfar/DescriptorSet$Field", "allows", "(I)Z"⟩ : MethodName)) hown (mvT hZ (hw _ (List.mem_of_getElem? (i := 41) rfl))) (mvT hZ (hw _ (List.mem_of_getElem? (i := 42) rfl))) (notFace_of_selects (args := #[]) (mvT hZ (hw _ (List.mem_of_getElem? (i := 44) rfl)))) (mvT hZ (hw _ (List.mem_of_getElem? (i := 44) rfl))) (mvT hZ (hw _ (List.mem_of_getElem? (i := 43) rfl))) (by decide) (backOf (W := 0) (rmalO l Z a0 hw [] b1038 p1 oS K w rp T1058.heap n0 Z1058 p1064 p1063 f1067 f1068 hsW hsP) hZ (hw _ (List.mem_of_getElem? (i := 45) rfl)) (hw _ (List.mem_of_getElem? (i := 18) rfl)) (by decide) (by decide)) q1083a q1083c (g := (mkF m 148 #[.val (.int p1), .val (.int p2), .val (.int p3), .val (.int v1001), .val (.int rp), .val (.int (0 : Int32)), .val (.ref oS), .val .null, .val (.ref b1038), .val (.int (0 : Int32)), .val (.int v1077), .val (.int (0 : Int32))] [(.int p1), (.ref b1038)])) rfl (by rw [hml]; rfl) (Steps.refl _) (argsL := [(.int p1)]) (rest := []) (lenOf pd_4 rfl) rfl (by show 2 * 0 + _ ≤ _; exact Nat.le_of_eq rfl) (hb hby at_148) (fun _ _ => ⟨rfl, e1076, (by decide : 0 + 0 + 1 + 2 + 0 + 0 + 0 ≤ _), (by decide : 0 + 0 + 6 + 1028 + 0 + 0 + 0 ≤ _)⟩)
              dsimp only [Pt.U, Pt.locs, Pt.cells, Pt.slots] at X1083 l1083 y1083 z1083 st1083 hQ1083
              subst l1083 y1083 z1083
              obtain ⟨rfl, N1083q, e1083⟩ := hQ1083
              have N1083 := Fr.app N1076 N1083q
              refine OEnds.st (fun _ k => st1083.trans k) ?_
              show OEnds p.tables e below G (T1083.setTop (mkF m 151 #[.val (.int p1), .val (.int p2), .val (.int p3), .val (.int v1001), .val (.int rp), .val (.int (0 : Int32)), .val (.ref oS), .val .null, .val (.ref b1038), .val (.int (0 : Int32)), .val (.int v1077), .val (.int (0 : Int32))] [(.int (own_al p1 w rp))]))
              refine OEnds.st (fun _ k => XS.iload X1083.here hx rfl (hb hby at_151) rfl k) ?_
              show OEnds p.tables e below G (T1083.setTop (mkF m 153 #[.val (.int p1), .val (.int p2), .val (.int p3), .val (.int v1001), .val (.int rp), .val (.int (0 : Int32)), .val (.ref oS), .val .null, .val (.ref b1038), .val (.int (0 : Int32)), .val (.int v1077), .val (.int (0 : Int32))] [(.int (0 : Int32)), (.int (own_al p1 w rp))]))
              have hc153_1084 : (own_al p1 w rp) = (0 : Int32) := by rw [hwk, hv_v1077]; simp [own_al, own_packed, hc24_1003, hc107_1078, hc120_1079, hc125_1082]; try exact fun q => hc120_1079 (q.trans hc107_1078.symm)
              refine OEnds.st (fun _ k => XS.icmpNo X1083.here hx rfl (hb hby at_153) rfl (teq hc153_1084).2 k) ?_
              show OEnds p.tables e below G (T1083.setTop (mkF m 156 #[.val (.int p1), .val (.int p2), .val (.int p3), .val (.int v1001), .val (.int rp), .val (.int (0 : Int32)), .val (.ref oS), .val .null, .val (.ref b1038), .val (.int (0 : Int32)), .val (.int v1077), .val (.int (0 : Int32))] []))
              refine OEnds.st (fun _ k => XS.iconst X1083.here hx rfl (hb hby at_156) k) ?_
              show OEnds p.tables e below G (T1083.setTop (mkF m 157 #[.val (.int p1), .val (.int p2), .val (.int p3), .val (.int v1001), .val (.int rp), .val (.int (0 : Int32)), .val (.ref oS), .val .null, .val (.ref b1038), .val (.int (0 : Int32)), .val (.int v1077), .val (.int (0 : Int32))] [(.int (1 : Int32))]))
              refine OEnds.st (fun _ k => XS.goto X1083.here hx rfl (pc0 := 157) (pc' := 161) rfl (hb hby at_157) (by decide) (by decide) k) ?_
              show OEnds p.tables e below G (T1083.setTop (mkF m 161 #[.val (.int p1), .val (.int p2), .val (.int p3), .val (.int v1001), .val (.int rp), .val (.int (0 : Int32)), .val (.ref oS), .val .null, .val (.ref b1038), .val (.int (0 : Int32)), .val (.int v1077), .val (.int (0 : Int32))] [(.int (1 : Int32))]))
              rw [← hG]
              refine OEnds.retZW X1083 hS (by rw [e1083]; exact hkk) hx hlk Bd.returns rfl (hb hby at_161) (by decide) (by decide) ?_
              rw [e1083]
              exact ⟨rfl, N1083⟩
            · -- pc 125: no
              refine OEnds.st (fun _ k => XS.ifNo X1076.here hx rfl (hb hby at_125) rfl ((if0 _ _).trans (feq hc125_1082).1) k) ?_
              show OEnds p.tables e below G (T1076.setTop (mkF m 128 #[.val (.int p1), .val (.int p2), .val (.int p3), .val (.int v1001), .val (.int rp), .val (.int (0 : Int32)), .val (.ref oS), .val .null, .val (.ref b1038), .unset, .val (.int v1077), .val (.int (0 : Int32))] []))
              refine OEnds.st (fun _ k => XS.iload X1076.here hx rfl (hb hby at_128) rfl k) ?_
              show OEnds p.tables e below G (T1076.setTop (mkF m 130 #[.val (.int p1), .val (.int p2), .val (.int p3), .val (.int v1001), .val (.int rp), .val (.int (0 : Int32)), .val (.ref oS), .val .null, .val (.ref b1038), .unset, .val (.int v1077), .val (.int (0 : Int32))] [(.int (0 : Int32))]))
              refine OEnds.st (fun _ k => XS.ifYes X1076.here hx rfl (pc0 := 130) (pc' := 142) rfl (hb hby at_130) rfl ((if0 _ _).trans (teq (by decide : (0 : Int32) = (0 : Int32))).1) (by decide) (by decide) k) ?_
              show OEnds p.tables e below G (T1076.setTop (mkF m 142 #[.val (.int p1), .val (.int p2), .val (.int p3), .val (.int v1001), .val (.int rp), .val (.int (0 : Int32)), .val (.ref oS), .val .null, .val (.ref b1038), .unset, .val (.int v1077), .val (.int (0 : Int32))] []))
              refine OEnds.st (fun _ k => XS.iconst X1076.here hx rfl (hb hby at_142) k) ?_
              show OEnds p.tables e below G (T1076.setTop (mkF m 143 #[.val (.int p1), .val (.int p2), .val (.int p3), .val (.int v1001), .val (.int rp), .val (.int (0 : Int32)), .val (.ref oS), .val .null, .val (.ref b1038), .unset, .val (.int v1077), .val (.int (0 : Int32))] [(.int (0 : Int32))]))
              refine OEnds.st (fun _ k => XS.istore X1076.here hx rfl (hb hby at_143) rfl (l' := #[.val (.int p1), .val (.int p2), .val (.int p3), .val (.int v1001), .val (.int rp), .val (.int (0 : Int32)), .val (.ref oS), .val .null, .val (.ref b1038), .val (.int (0 : Int32)), .val (.int v1077), .val (.int (0 : Int32))]) rfl k) ?_
              show OEnds p.tables e below G (T1076.setTop (mkF m 145 #[.val (.int p1), .val (.int p2), .val (.int p3), .val (.int v1001), .val (.int rp), .val (.int (0 : Int32)), .val (.ref oS), .val .null, .val (.ref b1038), .val (.int (0 : Int32)), .val (.int v1077), .val (.int (0 : Int32))] []))
              refine OEnds.st (fun _ k => XS.aload X1076.here hx rfl (hb hby at_145) rfl rfl k) ?_
              show OEnds p.tables e below G (T1076.setTop (mkF m 147 #[.val (.int p1), .val (.int p2), .val (.int p3), .val (.int v1001), .val (.int rp), .val (.int (0 : Int32)), .val (.ref oS), .val .null, .val (.ref b1038), .val (.int (0 : Int32)), .val (.int v1077), .val (.int (0 : Int32))] [(.ref b1038)]))
              refine OEnds.st (fun _ k => XS.iloadN X1076.here hx rfl (hb hby at_147) rfl k) ?_
              show OEnds p.tables e below G (T1076.setTop (mkF m 148 #[.val (.int p1), .val (.int p2), .val (.int p3), .val (.int v1001), .val (.int rp), .val (.int (0 : Int32)), .val (.ref oS), .val .null, .val (.ref b1038), .val (.int (0 : Int32)), .val (.int v1077), .val (.int (0 : Int32))] [(.int p1), (.ref b1038)]))
              obtain ⟨cq1085, kq1085, q1085a, q1085b, q1085c⟩ := isOf hZ e1076 p1060
              obtain ⟨_, _, ⟨T1085, L1085, k1085c, n1085c⟩, -, X1085, ⟨Lc1085, hQ1085, l1085, y1085, z1085⟩, st1085⟩ := X1076.virtualBack hx (y := (⟨"com/example/nearfar/nearfar/DescriptorSet$Field", "allows", "(I)Z"⟩ : MethodName)) (z := (⟨"com/example/nearfar/nearfar/DescriptorSet$Field", "allows", "(I)Z"⟩ : MethodName)) hown (mvT hZ (hw _ (List.mem_of_getElem? (i := 41) rfl))) (mvT hZ (hw _ (List.mem_of_getElem? (i := 42) rfl))) (notFace_of_selects (args := #[]) (mvT hZ (hw _ (List.mem_of_getElem? (i := 44) rfl)))) (mvT hZ (hw _ (List.mem_of_getElem? (i := 44) rfl))) (mvT hZ (hw _ (List.mem_of_getElem? (i := 43) rfl))) (by decide) (backOf (W := 0) (rmalO l Z a0 hw [] b1038 p1 oS K w rp T1058.heap n0 Z1058 p1064 p1063 f1067 f1068 hsW hsP) hZ (hw _ (List.mem_of_getElem? (i := 45) rfl)) (hw _ (List.mem_of_getElem? (i := 18) rfl)) (by decide) (by decide)) q1085a q1085c (g := (mkF m 148 #[.val (.int p1), .val (.int p2), .val (.int p3), .val (.int v1001), .val (.int rp), .val (.int (0 : Int32)), .val (.ref oS), .val .null, .val (.ref b1038), .val (.int (0 : Int32)), .val (.int v1077), .val (.int (0 : Int32))] [(.int p1), (.ref b1038)])) rfl (by rw [hml]; rfl) (Steps.refl _) (argsL := [(.int p1)]) (rest := []) (lenOf pd_4 rfl) rfl (by show 2 * 0 + _ ≤ _; exact Nat.le_of_eq rfl) (hb hby at_148) (fun _ _ => ⟨rfl, e1076, (by decide : 0 + 0 + 1 + 2 + 0 + 0 + 0 ≤ _), (by decide : 0 + 0 + 6 + 1028 + 0 + 0 + 0 ≤ _)⟩)
              dsimp only [Pt.U, Pt.locs, Pt.cells, Pt.slots] at X1085 l1085 y1085 z1085 st1085 hQ1085
              subst l1085 y1085 z1085
              obtain ⟨rfl, N1085q, e1085⟩ := hQ1085
              have N1085 := Fr.app N1076 N1085q
              refine OEnds.st (fun _ k => st1085.trans k) ?_
              show OEnds p.tables e below G (T1085.setTop (mkF m 151 #[.val (.int p1), .val (.int p2), .val (.int p3), .val (.int v1001), .val (.int rp), .val (.int (0 : Int32)), .val (.ref oS), .val .null, .val (.ref b1038), .val (.int (0 : Int32)), .val (.int v1077), .val (.int (0 : Int32))] [(.int (own_al p1 w rp))]))
              refine OEnds.st (fun _ k => XS.iload X1085.here hx rfl (hb hby at_151) rfl k) ?_
              show OEnds p.tables e below G (T1085.setTop (mkF m 153 #[.val (.int p1), .val (.int p2), .val (.int p3), .val (.int v1001), .val (.int rp), .val (.int (0 : Int32)), .val (.ref oS), .val .null, .val (.ref b1038), .val (.int (0 : Int32)), .val (.int v1077), .val (.int (0 : Int32))] [(.int (0 : Int32)), (.int (own_al p1 w rp))]))
              have hc153_1086 : (own_al p1 w rp) = (0 : Int32) := by rw [hwk, hv_v1077]; simp [own_al, own_packed, hc24_1003, hc107_1078, hc120_1079, hc125_1082]; try exact fun q => hc120_1079 (q.trans hc107_1078.symm)
              refine OEnds.st (fun _ k => XS.icmpNo X1085.here hx rfl (hb hby at_153) rfl (teq hc153_1086).2 k) ?_
              show OEnds p.tables e below G (T1085.setTop (mkF m 156 #[.val (.int p1), .val (.int p2), .val (.int p3), .val (.int v1001), .val (.int rp), .val (.int (0 : Int32)), .val (.ref oS), .val .null, .val (.ref b1038), .val (.int (0 : Int32)), .val (.int v1077), .val (.int (0 : Int32))] []))
              refine OEnds.st (fun _ k => XS.iconst X1085.here hx rfl (hb hby at_156) k) ?_
              show OEnds p.tables e below G (T1085.setTop (mkF m 157 #[.val (.int p1), .val (.int p2), .val (.int p3), .val (.int v1001), .val (.int rp), .val (.int (0 : Int32)), .val (.ref oS), .val .null, .val (.ref b1038), .val (.int (0 : Int32)), .val (.int v1077), .val (.int (0 : Int32))] [(.int (1 : Int32))]))
              refine OEnds.st (fun _ k => XS.goto X1085.here hx rfl (pc0 := 157) (pc' := 161) rfl (hb hby at_157) (by decide) (by decide) k) ?_
              show OEnds p.tables e below G (T1085.setTop (mkF m 161 #[.val (.int p1), .val (.int p2), .val (.int p3), .val (.int v1001), .val (.int rp), .val (.int (0 : Int32)), .val (.ref oS), .val .null, .val (.ref b1038), .val (.int (0 : Int32)), .val (.int v1077), .val (.int (0 : Int32))] [(.int (1 : Int32))]))
              rw [← hG]
              refine OEnds.retZW X1085 hS (by rw [e1085]; exact hkk) hx hlk Bd.returns rfl (hb hby at_161) (by decide) (by decide) ?_
              rw [e1085]
              exact ⟨rfl, N1085⟩
        · -- pc 107: no
          refine OEnds.st (fun _ k => XS.icmpNo X1076.here hx rfl (hb hby at_107) rfl (feq hc107_1078).1 k) ?_
          show OEnds p.tables e below G (T1076.setTop (mkF m 110 #[.val (.int p1), .val (.int p2), .val (.int p3), .val (.int v1001), .val (.int rp), .val (.int (0 : Int32)), .val (.ref oS), .val .null, .val (.ref b1038), .unset, .val (.int v1077), .unset] []))
          refine OEnds.st (fun _ k => XS.iconst X1076.here hx rfl (hb hby at_110) k) ?_
          show OEnds p.tables e below G (T1076.setTop (mkF m 111 #[.val (.int p1), .val (.int p2), .val (.int p3), .val (.int v1001), .val (.int rp), .val (.int (0 : Int32)), .val (.ref oS), .val .null, .val (.ref b1038), .unset, .val (.int v1077), .unset] [(.int (1 : Int32))]))
          refine OEnds.st (fun _ k => XS.goto X1076.here hx rfl (pc0 := 111) (pc' := 115) rfl (hb hby at_111) (by decide) (by decide) k) ?_
          show OEnds p.tables e below G (T1076.setTop (mkF m 115 #[.val (.int p1), .val (.int p2), .val (.int p3), .val (.int v1001), .val (.int rp), .val (.int (0 : Int32)), .val (.ref oS), .val .null, .val (.ref b1038), .unset, .val (.int v1077), .unset] [(.int (1 : Int32))]))
          refine OEnds.st (fun _ k => XS.istore X1076.here hx rfl (hb hby at_115) rfl (l' := #[.val (.int p1), .val (.int p2), .val (.int p3), .val (.int v1001), .val (.int rp), .val (.int (0 : Int32)), .val (.ref oS), .val .null, .val (.ref b1038), .unset, .val (.int v1077), .val (.int (1 : Int32))]) rfl k) ?_
          show OEnds p.tables e below G (T1076.setTop (mkF m 117 #[.val (.int p1), .val (.int p2), .val (.int p3), .val (.int v1001), .val (.int rp), .val (.int (0 : Int32)), .val (.ref oS), .val .null, .val (.ref b1038), .unset, .val (.int v1077), .val (.int (1 : Int32))] []))
          refine OEnds.st (fun _ k => XS.iloadN X1076.here hx rfl (hb hby at_117) rfl k) ?_
          show OEnds p.tables e below G (T1076.setTop (mkF m 118 #[.val (.int p1), .val (.int p2), .val (.int p3), .val (.int v1001), .val (.int rp), .val (.int (0 : Int32)), .val (.ref oS), .val .null, .val (.ref b1038), .unset, .val (.int v1077), .val (.int (1 : Int32))] [(.int p1)]))
          refine OEnds.st (fun _ k => XS.iload X1076.here hx rfl (hb hby at_118) rfl k) ?_
          show OEnds p.tables e below G (T1076.setTop (mkF m 120 #[.val (.int p1), .val (.int p2), .val (.int p3), .val (.int v1001), .val (.int rp), .val (.int (0 : Int32)), .val (.ref oS), .val .null, .val (.ref b1038), .unset, .val (.int v1077), .val (.int (1 : Int32))] [(.int v1077), (.int p1)]))
          by_cases hc120_1087 : p1 = v1077
          · -- pc 120: yes
            refine OEnds.st (fun _ k => XS.icmpYes X1076.here hx rfl (pc0 := 120) (pc' := 138) rfl (hb hby at_120) rfl (teq hc120_1087).1 (by decide) (by decide) k) ?_
            show OEnds p.tables e below G (T1076.setTop (mkF m 138 #[.val (.int p1), .val (.int p2), .val (.int p3), .val (.int v1001), .val (.int rp), .val (.int (0 : Int32)), .val (.ref oS), .val .null, .val (.ref b1038), .unset, .val (.int v1077), .val (.int (1 : Int32))] []))
            refine OEnds.st (fun _ k => XS.iconst X1076.here hx rfl (hb hby at_138) k) ?_
            show OEnds p.tables e below G (T1076.setTop (mkF m 139 #[.val (.int p1), .val (.int p2), .val (.int p3), .val (.int v1001), .val (.int rp), .val (.int (0 : Int32)), .val (.ref oS), .val .null, .val (.ref b1038), .unset, .val (.int v1077), .val (.int (1 : Int32))] [(.int (1 : Int32))]))
            refine OEnds.st (fun _ k => XS.goto X1076.here hx rfl (pc0 := 139) (pc' := 143) rfl (hb hby at_139) (by decide) (by decide) k) ?_
            show OEnds p.tables e below G (T1076.setTop (mkF m 143 #[.val (.int p1), .val (.int p2), .val (.int p3), .val (.int v1001), .val (.int rp), .val (.int (0 : Int32)), .val (.ref oS), .val .null, .val (.ref b1038), .unset, .val (.int v1077), .val (.int (1 : Int32))] [(.int (1 : Int32))]))
            refine OEnds.st (fun _ k => XS.istore X1076.here hx rfl (hb hby at_143) rfl (l' := #[.val (.int p1), .val (.int p2), .val (.int p3), .val (.int v1001), .val (.int rp), .val (.int (0 : Int32)), .val (.ref oS), .val .null, .val (.ref b1038), .val (.int (1 : Int32)), .val (.int v1077), .val (.int (1 : Int32))]) rfl k) ?_
            show OEnds p.tables e below G (T1076.setTop (mkF m 145 #[.val (.int p1), .val (.int p2), .val (.int p3), .val (.int v1001), .val (.int rp), .val (.int (0 : Int32)), .val (.ref oS), .val .null, .val (.ref b1038), .val (.int (1 : Int32)), .val (.int v1077), .val (.int (1 : Int32))] []))
            refine OEnds.st (fun _ k => XS.aload X1076.here hx rfl (hb hby at_145) rfl rfl k) ?_
            show OEnds p.tables e below G (T1076.setTop (mkF m 147 #[.val (.int p1), .val (.int p2), .val (.int p3), .val (.int v1001), .val (.int rp), .val (.int (0 : Int32)), .val (.ref oS), .val .null, .val (.ref b1038), .val (.int (1 : Int32)), .val (.int v1077), .val (.int (1 : Int32))] [(.ref b1038)]))
            refine OEnds.st (fun _ k => XS.iloadN X1076.here hx rfl (hb hby at_147) rfl k) ?_
            show OEnds p.tables e below G (T1076.setTop (mkF m 148 #[.val (.int p1), .val (.int p2), .val (.int p3), .val (.int v1001), .val (.int rp), .val (.int (0 : Int32)), .val (.ref oS), .val .null, .val (.ref b1038), .val (.int (1 : Int32)), .val (.int v1077), .val (.int (1 : Int32))] [(.int p1), (.ref b1038)]))
            obtain ⟨cq1088, kq1088, q1088a, q1088b, q1088c⟩ := isOf hZ e1076 p1060
            obtain ⟨_, _, ⟨T1088, L1088, k1088c, n1088c⟩, -, X1088, ⟨Lc1088, hQ1088, l1088, y1088, z1088⟩, st1088⟩ := X1076.virtualBack hx (y := (⟨"com/example/nearfar/nearfar/DescriptorSet$Field", "allows", "(I)Z"⟩ : MethodName)) (z := (⟨"com/example/nearfar/nearfar/DescriptorSet$Field", "allows", "(I)Z"⟩ : MethodName)) hown (mvT hZ (hw _ (List.mem_of_getElem? (i := 41) rfl))) (mvT hZ (hw _ (List.mem_of_getElem? (i := 42) rfl))) (notFace_of_selects (args := #[]) (mvT hZ (hw _ (List.mem_of_getElem? (i := 44) rfl)))) (mvT hZ (hw _ (List.mem_of_getElem? (i := 44) rfl))) (mvT hZ (hw _ (List.mem_of_getElem? (i := 43) rfl))) (by decide) (backOf (W := 0) (rmalO l Z a0 hw [] b1038 p1 oS K w rp T1058.heap n0 Z1058 p1064 p1063 f1067 f1068 hsW hsP) hZ (hw _ (List.mem_of_getElem? (i := 45) rfl)) (hw _ (List.mem_of_getElem? (i := 18) rfl)) (by decide) (by decide)) q1088a q1088c (g := (mkF m 148 #[.val (.int p1), .val (.int p2), .val (.int p3), .val (.int v1001), .val (.int rp), .val (.int (0 : Int32)), .val (.ref oS), .val .null, .val (.ref b1038), .val (.int (1 : Int32)), .val (.int v1077), .val (.int (1 : Int32))] [(.int p1), (.ref b1038)])) rfl (by rw [hml]; rfl) (Steps.refl _) (argsL := [(.int p1)]) (rest := []) (lenOf pd_4 rfl) rfl (by show 2 * 0 + _ ≤ _; exact Nat.le_of_eq rfl) (hb hby at_148) (fun _ _ => ⟨rfl, e1076, (by decide : 0 + 0 + 1 + 2 + 0 + 0 + 0 ≤ _), (by decide : 0 + 0 + 6 + 1028 + 0 + 0 + 0 ≤ _)⟩)
            dsimp only [Pt.U, Pt.locs, Pt.cells, Pt.slots] at X1088 l1088 y1088 z1088 st1088 hQ1088
            subst l1088 y1088 z1088
            obtain ⟨rfl, N1088q, e1088⟩ := hQ1088
            have N1088 := Fr.app N1076 N1088q
            refine OEnds.st (fun _ k => st1088.trans k) ?_
            show OEnds p.tables e below G (T1088.setTop (mkF m 151 #[.val (.int p1), .val (.int p2), .val (.int p3), .val (.int v1001), .val (.int rp), .val (.int (0 : Int32)), .val (.ref oS), .val .null, .val (.ref b1038), .val (.int (1 : Int32)), .val (.int v1077), .val (.int (1 : Int32))] [(.int (own_al p1 w rp))]))
            refine OEnds.st (fun _ k => XS.iload X1088.here hx rfl (hb hby at_151) rfl k) ?_
            show OEnds p.tables e below G (T1088.setTop (mkF m 153 #[.val (.int p1), .val (.int p2), .val (.int p3), .val (.int v1001), .val (.int rp), .val (.int (0 : Int32)), .val (.ref oS), .val .null, .val (.ref b1038), .val (.int (1 : Int32)), .val (.int v1077), .val (.int (1 : Int32))] [(.int (1 : Int32)), (.int (own_al p1 w rp))]))
            have hc153_1089 : (own_al p1 w rp) = (1 : Int32) := by rw [hwk, hv_v1077]; simp [own_al, own_packed, hc24_1003, hc107_1078, hc120_1087]; try exact fun q => hc120_1087 (q.trans hc107_1078.symm)
            refine OEnds.st (fun _ k => XS.icmpNo X1088.here hx rfl (hb hby at_153) rfl (teq hc153_1089).2 k) ?_
            show OEnds p.tables e below G (T1088.setTop (mkF m 156 #[.val (.int p1), .val (.int p2), .val (.int p3), .val (.int v1001), .val (.int rp), .val (.int (0 : Int32)), .val (.ref oS), .val .null, .val (.ref b1038), .val (.int (1 : Int32)), .val (.int v1077), .val (.int (1 : Int32))] []))
            refine OEnds.st (fun _ k => XS.iconst X1088.here hx rfl (hb hby at_156) k) ?_
            show OEnds p.tables e below G (T1088.setTop (mkF m 157 #[.val (.int p1), .val (.int p2), .val (.int p3), .val (.int v1001), .val (.int rp), .val (.int (0 : Int32)), .val (.ref oS), .val .null, .val (.ref b1038), .val (.int (1 : Int32)), .val (.int v1077), .val (.int (1 : Int32))] [(.int (1 : Int32))]))
            refine OEnds.st (fun _ k => XS.goto X1088.here hx rfl (pc0 := 157) (pc' := 161) rfl (hb hby at_157) (by decide) (by decide) k) ?_
            show OEnds p.tables e below G (T1088.setTop (mkF m 161 #[.val (.int p1), .val (.int p2), .val (.int p3), .val (.int v1001), .val (.int rp), .val (.int (0 : Int32)), .val (.ref oS), .val .null, .val (.ref b1038), .val (.int (1 : Int32)), .val (.int v1077), .val (.int (1 : Int32))] [(.int (1 : Int32))]))
            rw [← hG]
            refine OEnds.retZW X1088 hS (by rw [e1088]; exact hkk) hx hlk Bd.returns rfl (hb hby at_161) (by decide) (by decide) ?_
            rw [e1088]
            exact ⟨rfl, N1088⟩
          · -- pc 120: no
            refine OEnds.st (fun _ k => XS.icmpNo X1076.here hx rfl (hb hby at_120) rfl (feq hc120_1087).1 k) ?_
            show OEnds p.tables e below G (T1076.setTop (mkF m 123 #[.val (.int p1), .val (.int p2), .val (.int p3), .val (.int v1001), .val (.int rp), .val (.int (0 : Int32)), .val (.ref oS), .val .null, .val (.ref b1038), .unset, .val (.int v1077), .val (.int (1 : Int32))] []))
            refine OEnds.st (fun _ k => XS.iload X1076.here hx rfl (hb hby at_123) rfl k) ?_
            show OEnds p.tables e below G (T1076.setTop (mkF m 125 #[.val (.int p1), .val (.int p2), .val (.int p3), .val (.int v1001), .val (.int rp), .val (.int (0 : Int32)), .val (.ref oS), .val .null, .val (.ref b1038), .unset, .val (.int v1077), .val (.int (1 : Int32))] [(.int rp)]))
            by_cases hc125_1090 : rp = (0 : Int32)
            · -- pc 125: yes
              refine OEnds.st (fun _ k => XS.ifYes X1076.here hx rfl (pc0 := 125) (pc' := 142) rfl (hb hby at_125) rfl ((if0 _ _).trans (teq hc125_1090).1) (by decide) (by decide) k) ?_
              show OEnds p.tables e below G (T1076.setTop (mkF m 142 #[.val (.int p1), .val (.int p2), .val (.int p3), .val (.int v1001), .val (.int rp), .val (.int (0 : Int32)), .val (.ref oS), .val .null, .val (.ref b1038), .unset, .val (.int v1077), .val (.int (1 : Int32))] []))
              refine OEnds.st (fun _ k => XS.iconst X1076.here hx rfl (hb hby at_142) k) ?_
              show OEnds p.tables e below G (T1076.setTop (mkF m 143 #[.val (.int p1), .val (.int p2), .val (.int p3), .val (.int v1001), .val (.int rp), .val (.int (0 : Int32)), .val (.ref oS), .val .null, .val (.ref b1038), .unset, .val (.int v1077), .val (.int (1 : Int32))] [(.int (0 : Int32))]))
              refine OEnds.st (fun _ k => XS.istore X1076.here hx rfl (hb hby at_143) rfl (l' := #[.val (.int p1), .val (.int p2), .val (.int p3), .val (.int v1001), .val (.int rp), .val (.int (0 : Int32)), .val (.ref oS), .val .null, .val (.ref b1038), .val (.int (0 : Int32)), .val (.int v1077), .val (.int (1 : Int32))]) rfl k) ?_
              show OEnds p.tables e below G (T1076.setTop (mkF m 145 #[.val (.int p1), .val (.int p2), .val (.int p3), .val (.int v1001), .val (.int rp), .val (.int (0 : Int32)), .val (.ref oS), .val .null, .val (.ref b1038), .val (.int (0 : Int32)), .val (.int v1077), .val (.int (1 : Int32))] []))
              refine OEnds.st (fun _ k => XS.aload X1076.here hx rfl (hb hby at_145) rfl rfl k) ?_
              show OEnds p.tables e below G (T1076.setTop (mkF m 147 #[.val (.int p1), .val (.int p2), .val (.int p3), .val (.int v1001), .val (.int rp), .val (.int (0 : Int32)), .val (.ref oS), .val .null, .val (.ref b1038), .val (.int (0 : Int32)), .val (.int v1077), .val (.int (1 : Int32))] [(.ref b1038)]))
              refine OEnds.st (fun _ k => XS.iloadN X1076.here hx rfl (hb hby at_147) rfl k) ?_
              show OEnds p.tables e below G (T1076.setTop (mkF m 148 #[.val (.int p1), .val (.int p2), .val (.int p3), .val (.int v1001), .val (.int rp), .val (.int (0 : Int32)), .val (.ref oS), .val .null, .val (.ref b1038), .val (.int (0 : Int32)), .val (.int v1077), .val (.int (1 : Int32))] [(.int p1), (.ref b1038)]))
              obtain ⟨cq1091, kq1091, q1091a, q1091b, q1091c⟩ := isOf hZ e1076 p1060
              obtain ⟨_, _, ⟨T1091, L1091, k1091c, n1091c⟩, -, X1091, ⟨Lc1091, hQ1091, l1091, y1091, z1091⟩, st1091⟩ := X1076.virtualBack hx (y := (⟨"com/example/nearfar/nearfar/DescriptorSet$Field", "allows", "(I)Z"⟩ : MethodName)) (z := (⟨"com/example/nearfar/nearfar/DescriptorSet$Field", "allows", "(I)Z"⟩ : MethodName)) hown (mvT hZ (hw _ (List.mem_of_getElem? (i := 41) rfl))) (mvT hZ (hw _ (List.mem_of_getElem? (i := 42) rfl))) (notFace_of_selects (args := #[]) (mvT hZ (hw _ (List.mem_of_getElem? (i := 44) rfl)))) (mvT hZ (hw _ (List.mem_of_getElem? (i := 44) rfl))) (mvT hZ (hw _ (List.mem_of_getElem? (i := 43) rfl))) (by decide) (backOf (W := 0) (rmalO l Z a0 hw [] b1038 p1 oS K w rp T1058.heap n0 Z1058 p1064 p1063 f1067 f1068 hsW hsP) hZ (hw _ (List.mem_of_getElem? (i := 45) rfl)) (hw _ (List.mem_of_getElem? (i := 18) rfl)) (by decide) (by decide)) q1091a q1091c (g := (mkF m 148 #[.val (.int p1), .val (.int p2), .val (.int p3), .val (.int v1001), .val (.int rp), .val (.int (0 : Int32)), .val (.ref oS), .val .null, .val (.ref b1038), .val (.int (0 : Int32)), .val (.int v1077), .val (.int (1 : Int32))] [(.int p1), (.ref b1038)])) rfl (by rw [hml]; rfl) (Steps.refl _) (argsL := [(.int p1)]) (rest := []) (lenOf pd_4 rfl) rfl (by show 2 * 0 + _ ≤ _; exact Nat.le_of_eq rfl) (hb hby at_148) (fun _ _ => ⟨rfl, e1076, (by decide : 0 + 0 + 1 + 2 + 0 + 0 + 0 ≤ _), (by decide : 0 + 0 + 6 + 1028 + 0 + 0 + 0 ≤ _)⟩)
              dsimp only [Pt.U, Pt.locs, Pt.cells, Pt.slots] at X1091 l1091 y1091 z1091 st1091 hQ1091
              subst l1091 y1091 z1091
              obtain ⟨rfl, N1091q, e1091⟩ := hQ1091
              have N1091 := Fr.app N1076 N1091q
              refine OEnds.st (fun _ k => st1091.trans k) ?_
              show OEnds p.tables e below G (T1091.setTop (mkF m 151 #[.val (.int p1), .val (.int p2), .val (.int p3), .val (.int v1001), .val (.int rp), .val (.int (0 : Int32)), .val (.ref oS), .val .null, .val (.ref b1038), .val (.int (0 : Int32)), .val (.int v1077), .val (.int (1 : Int32))] [(.int (own_al p1 w rp))]))
              refine OEnds.st (fun _ k => XS.iload X1091.here hx rfl (hb hby at_151) rfl k) ?_
              show OEnds p.tables e below G (T1091.setTop (mkF m 153 #[.val (.int p1), .val (.int p2), .val (.int p3), .val (.int v1001), .val (.int rp), .val (.int (0 : Int32)), .val (.ref oS), .val .null, .val (.ref b1038), .val (.int (0 : Int32)), .val (.int v1077), .val (.int (1 : Int32))] [(.int (0 : Int32)), (.int (own_al p1 w rp))]))
              have hc153_1092 : (own_al p1 w rp) = (0 : Int32) := by rw [hwk, hv_v1077]; simp [own_al, own_packed, hc24_1003, hc107_1078, hc120_1087, hc125_1090]; try exact fun q => hc120_1087 (q.trans hc107_1078.symm)
              refine OEnds.st (fun _ k => XS.icmpNo X1091.here hx rfl (hb hby at_153) rfl (teq hc153_1092).2 k) ?_
              show OEnds p.tables e below G (T1091.setTop (mkF m 156 #[.val (.int p1), .val (.int p2), .val (.int p3), .val (.int v1001), .val (.int rp), .val (.int (0 : Int32)), .val (.ref oS), .val .null, .val (.ref b1038), .val (.int (0 : Int32)), .val (.int v1077), .val (.int (1 : Int32))] []))
              refine OEnds.st (fun _ k => XS.iconst X1091.here hx rfl (hb hby at_156) k) ?_
              show OEnds p.tables e below G (T1091.setTop (mkF m 157 #[.val (.int p1), .val (.int p2), .val (.int p3), .val (.int v1001), .val (.int rp), .val (.int (0 : Int32)), .val (.ref oS), .val .null, .val (.ref b1038), .val (.int (0 : Int32)), .val (.int v1077), .val (.int (1 : Int32))] [(.int (1 : Int32))]))
              refine OEnds.st (fun _ k => XS.goto X1091.here hx rfl (pc0 := 157) (pc' := 161) rfl (hb hby at_157) (by decide) (by decide) k) ?_
              show OEnds p.tables e below G (T1091.setTop (mkF m 161 #[.val (.int p1), .val (.int p2), .val (.int p3), .val (.int v1001), .val (.int rp), .val (.int (0 : Int32)), .val (.ref oS), .val .null, .val (.ref b1038), .val (.int (0 : Int32)), .val (.int v1077), .val (.int (1 : Int32))] [(.int (1 : Int32))]))
              rw [← hG]
              refine OEnds.retZW X1091 hS (by rw [e1091]; exact hkk) hx hlk Bd.returns rfl (hb hby at_161) (by decide) (by decide) ?_
              rw [e1091]
              exact ⟨rfl, N1091⟩
            · -- pc 125: no
              refine OEnds.st (fun _ k => XS.ifNo X1076.here hx rfl (hb hby at_125) rfl ((if0 _ _).trans (feq hc125_1090).1) k) ?_
              show OEnds p.tables e below G (T1076.setTop (mkF m 128 #[.val (.int p1), .val (.int p2), .val (.int p3), .val (.int v1001), .val (.int rp), .val (.int (0 : Int32)), .val (.ref oS), .val .null, .val (.ref b1038), .unset, .val (.int v1077), .val (.int (1 : Int32))] []))
              refine OEnds.st (fun _ k => XS.iload X1076.here hx rfl (hb hby at_128) rfl k) ?_
              show OEnds p.tables e below G (T1076.setTop (mkF m 130 #[.val (.int p1), .val (.int p2), .val (.int p3), .val (.int v1001), .val (.int rp), .val (.int (0 : Int32)), .val (.ref oS), .val .null, .val (.ref b1038), .unset, .val (.int v1077), .val (.int (1 : Int32))] [(.int (1 : Int32))]))
              refine OEnds.st (fun _ k => XS.ifNo X1076.here hx rfl (hb hby at_130) rfl ((if0 _ _).trans (feq (by decide : ¬ ((1 : Int32) = (0 : Int32)))).1) k) ?_
              show OEnds p.tables e below G (T1076.setTop (mkF m 133 #[.val (.int p1), .val (.int p2), .val (.int p3), .val (.int v1001), .val (.int rp), .val (.int (0 : Int32)), .val (.ref oS), .val .null, .val (.ref b1038), .unset, .val (.int v1077), .val (.int (1 : Int32))] []))
              refine OEnds.st (fun _ k => XS.iloadN X1076.here hx rfl (hb hby at_133) rfl k) ?_
              show OEnds p.tables e below G (T1076.setTop (mkF m 134 #[.val (.int p1), .val (.int p2), .val (.int p3), .val (.int v1001), .val (.int rp), .val (.int (0 : Int32)), .val (.ref oS), .val .null, .val (.ref b1038), .unset, .val (.int v1077), .val (.int (1 : Int32))] [(.int p1)]))
              refine OEnds.st (fun _ k => XS.iconst X1076.here hx rfl (hb hby at_134) k) ?_
              show OEnds p.tables e below G (T1076.setTop (mkF m 135 #[.val (.int p1), .val (.int p2), .val (.int p3), .val (.int v1001), .val (.int rp), .val (.int (0 : Int32)), .val (.ref oS), .val .null, .val (.ref b1038), .unset, .val (.int v1077), .val (.int (1 : Int32))] [(.int (2 : Int32)), (.int p1)]))
              by_cases hc135_1093 : p1 = (2 : Int32)
              · -- pc 135: yes
                refine OEnds.st (fun _ k => XS.icmpNo X1076.here hx rfl (hb hby at_135) rfl (teq hc135_1093).2 k) ?_
                show OEnds p.tables e below G (T1076.setTop (mkF m 138 #[.val (.int p1), .val (.int p2), .val (.int p3), .val (.int v1001), .val (.int rp), .val (.int (0 : Int32)), .val (.ref oS), .val .null, .val (.ref b1038), .unset, .val (.int v1077), .val (.int (1 : Int32))] []))
                refine OEnds.st (fun _ k => XS.iconst X1076.here hx rfl (hb hby at_138) k) ?_
                show OEnds p.tables e below G (T1076.setTop (mkF m 139 #[.val (.int p1), .val (.int p2), .val (.int p3), .val (.int v1001), .val (.int rp), .val (.int (0 : Int32)), .val (.ref oS), .val .null, .val (.ref b1038), .unset, .val (.int v1077), .val (.int (1 : Int32))] [(.int (1 : Int32))]))
                refine OEnds.st (fun _ k => XS.goto X1076.here hx rfl (pc0 := 139) (pc' := 143) rfl (hb hby at_139) (by decide) (by decide) k) ?_
                show OEnds p.tables e below G (T1076.setTop (mkF m 143 #[.val (.int p1), .val (.int p2), .val (.int p3), .val (.int v1001), .val (.int rp), .val (.int (0 : Int32)), .val (.ref oS), .val .null, .val (.ref b1038), .unset, .val (.int v1077), .val (.int (1 : Int32))] [(.int (1 : Int32))]))
                refine OEnds.st (fun _ k => XS.istore X1076.here hx rfl (hb hby at_143) rfl (l' := #[.val (.int p1), .val (.int p2), .val (.int p3), .val (.int v1001), .val (.int rp), .val (.int (0 : Int32)), .val (.ref oS), .val .null, .val (.ref b1038), .val (.int (1 : Int32)), .val (.int v1077), .val (.int (1 : Int32))]) rfl k) ?_
                show OEnds p.tables e below G (T1076.setTop (mkF m 145 #[.val (.int p1), .val (.int p2), .val (.int p3), .val (.int v1001), .val (.int rp), .val (.int (0 : Int32)), .val (.ref oS), .val .null, .val (.ref b1038), .val (.int (1 : Int32)), .val (.int v1077), .val (.int (1 : Int32))] []))
                refine OEnds.st (fun _ k => XS.aload X1076.here hx rfl (hb hby at_145) rfl rfl k) ?_
                show OEnds p.tables e below G (T1076.setTop (mkF m 147 #[.val (.int p1), .val (.int p2), .val (.int p3), .val (.int v1001), .val (.int rp), .val (.int (0 : Int32)), .val (.ref oS), .val .null, .val (.ref b1038), .val (.int (1 : Int32)), .val (.int v1077), .val (.int (1 : Int32))] [(.ref b1038)]))
                refine OEnds.st (fun _ k => XS.iloadN X1076.here hx rfl (hb hby at_147) rfl k) ?_
                show OEnds p.tables e below G (T1076.setTop (mkF m 148 #[.val (.int p1), .val (.int p2), .val (.int p3), .val (.int v1001), .val (.int rp), .val (.int (0 : Int32)), .val (.ref oS), .val .null, .val (.ref b1038), .val (.int (1 : Int32)), .val (.int v1077), .val (.int (1 : Int32))] [(.int p1), (.ref b1038)]))
                obtain ⟨cq1094, kq1094, q1094a, q1094b, q1094c⟩ := isOf hZ e1076 p1060
                obtain ⟨_, _, ⟨T1094, L1094, k1094c, n1094c⟩, -, X1094, ⟨Lc1094, hQ1094, l1094, y1094, z1094⟩, st1094⟩ := X1076.virtualBack hx (y := (⟨"com/example/nearfar/nearfar/DescriptorSet$Field", "allows", "(I)Z"⟩ : MethodName)) (z := (⟨"com/example/nearfar/nearfar/DescriptorSet$Field", "allows", "(I)Z"⟩ : MethodName)) hown (mvT hZ (hw _ (List.mem_of_getElem? (i := 41) rfl))) (mvT hZ (hw _ (List.mem_of_getElem? (i := 42) rfl))) (notFace_of_selects (args := #[]) (mvT hZ (hw _ (List.mem_of_getElem? (i := 44) rfl)))) (mvT hZ (hw _ (List.mem_of_getElem? (i := 44) rfl))) (mvT hZ (hw _ (List.mem_of_getElem? (i := 43) rfl))) (by decide) (backOf (W := 0) (rmalO l Z a0 hw [] b1038 p1 oS K w rp T1058.heap n0 Z1058 p1064 p1063 f1067 f1068 hsW hsP) hZ (hw _ (List.mem_of_getElem? (i := 45) rfl)) (hw _ (List.mem_of_getElem? (i := 18) rfl)) (by decide) (by decide)) q1094a q1094c (g := (mkF m 148 #[.val (.int p1), .val (.int p2), .val (.int p3), .val (.int v1001), .val (.int rp), .val (.int (0 : Int32)), .val (.ref oS), .val .null, .val (.ref b1038), .val (.int (1 : Int32)), .val (.int v1077), .val (.int (1 : Int32))] [(.int p1), (.ref b1038)])) rfl (by rw [hml]; rfl) (Steps.refl _) (argsL := [(.int p1)]) (rest := []) (lenOf pd_4 rfl) rfl (by show 2 * 0 + _ ≤ _; exact Nat.le_of_eq rfl) (hb hby at_148) (fun _ _ => ⟨rfl, e1076, (by decide : 0 + 0 + 1 + 2 + 0 + 0 + 0 ≤ _), (by decide : 0 + 0 + 6 + 1028 + 0 + 0 + 0 ≤ _)⟩)
                dsimp only [Pt.U, Pt.locs, Pt.cells, Pt.slots] at X1094 l1094 y1094 z1094 st1094 hQ1094
                subst l1094 y1094 z1094
                obtain ⟨rfl, N1094q, e1094⟩ := hQ1094
                have N1094 := Fr.app N1076 N1094q
                refine OEnds.st (fun _ k => st1094.trans k) ?_
                show OEnds p.tables e below G (T1094.setTop (mkF m 151 #[.val (.int p1), .val (.int p2), .val (.int p3), .val (.int v1001), .val (.int rp), .val (.int (0 : Int32)), .val (.ref oS), .val .null, .val (.ref b1038), .val (.int (1 : Int32)), .val (.int v1077), .val (.int (1 : Int32))] [(.int (own_al p1 w rp))]))
                refine OEnds.st (fun _ k => XS.iload X1094.here hx rfl (hb hby at_151) rfl k) ?_
                show OEnds p.tables e below G (T1094.setTop (mkF m 153 #[.val (.int p1), .val (.int p2), .val (.int p3), .val (.int v1001), .val (.int rp), .val (.int (0 : Int32)), .val (.ref oS), .val .null, .val (.ref b1038), .val (.int (1 : Int32)), .val (.int v1077), .val (.int (1 : Int32))] [(.int (1 : Int32)), (.int (own_al p1 w rp))]))
                have hc153_1095 : (own_al p1 w rp) = (1 : Int32) := by rw [hwk, hv_v1077]; simp [own_al, own_packed, hc24_1003, hc107_1078, hc120_1087, hc125_1090, hc135_1093]; try exact fun q => hc120_1087 (q.trans hc107_1078.symm)
                refine OEnds.st (fun _ k => XS.icmpNo X1094.here hx rfl (hb hby at_153) rfl (teq hc153_1095).2 k) ?_
                show OEnds p.tables e below G (T1094.setTop (mkF m 156 #[.val (.int p1), .val (.int p2), .val (.int p3), .val (.int v1001), .val (.int rp), .val (.int (0 : Int32)), .val (.ref oS), .val .null, .val (.ref b1038), .val (.int (1 : Int32)), .val (.int v1077), .val (.int (1 : Int32))] []))
                refine OEnds.st (fun _ k => XS.iconst X1094.here hx rfl (hb hby at_156) k) ?_
                show OEnds p.tables e below G (T1094.setTop (mkF m 157 #[.val (.int p1), .val (.int p2), .val (.int p3), .val (.int v1001), .val (.int rp), .val (.int (0 : Int32)), .val (.ref oS), .val .null, .val (.ref b1038), .val (.int (1 : Int32)), .val (.int v1077), .val (.int (1 : Int32))] [(.int (1 : Int32))]))
                refine OEnds.st (fun _ k => XS.goto X1094.here hx rfl (pc0 := 157) (pc' := 161) rfl (hb hby at_157) (by decide) (by decide) k) ?_
                show OEnds p.tables e below G (T1094.setTop (mkF m 161 #[.val (.int p1), .val (.int p2), .val (.int p3), .val (.int v1001), .val (.int rp), .val (.int (0 : Int32)), .val (.ref oS), .val .null, .val (.ref b1038), .val (.int (1 : Int32)), .val (.int v1077), .val (.int (1 : Int32))] [(.int (1 : Int32))]))
                rw [← hG]
                refine OEnds.retZW X1094 hS (by rw [e1094]; exact hkk) hx hlk Bd.returns rfl (hb hby at_161) (by decide) (by decide) ?_
                rw [e1094]
                exact ⟨rfl, N1094⟩
              · -- pc 135: no
                refine OEnds.st (fun _ k => XS.icmpYes X1076.here hx rfl (pc0 := 135) (pc' := 142) rfl (hb hby at_135) rfl (feq hc135_1093).2 (by decide) (by decide) k) ?_
                show OEnds p.tables e below G (T1076.setTop (mkF m 142 #[.val (.int p1), .val (.int p2), .val (.int p3), .val (.int v1001), .val (.int rp), .val (.int (0 : Int32)), .val (.ref oS), .val .null, .val (.ref b1038), .unset, .val (.int v1077), .val (.int (1 : Int32))] []))
                refine OEnds.st (fun _ k => XS.iconst X1076.here hx rfl (hb hby at_142) k) ?_
                show OEnds p.tables e below G (T1076.setTop (mkF m 143 #[.val (.int p1), .val (.int p2), .val (.int p3), .val (.int v1001), .val (.int rp), .val (.int (0 : Int32)), .val (.ref oS), .val .null, .val (.ref b1038), .unset, .val (.int v1077), .val (.int (1 : Int32))] [(.int (0 : Int32))]))
                refine OEnds.st (fun _ k => XS.istore X1076.here hx rfl (hb hby at_143) rfl (l' := #[.val (.int p1), .val (.int p2), .val (.int p3), .val (.int v1001), .val (.int rp), .val (.int (0 : Int32)), .val (.ref oS), .val .null, .val (.ref b1038), .val (.int (0 : Int32)), .val (.int v1077), .val (.int (1 : Int32))]) rfl k) ?_
                show OEnds p.tables e below G (T1076.setTop (mkF m 145 #[.val (.int p1), .val (.int p2), .val (.int p3), .val (.int v1001), .val (.int rp), .val (.int (0 : Int32)), .val (.ref oS), .val .null, .val (.ref b1038), .val (.int (0 : Int32)), .val (.int v1077), .val (.int (1 : Int32))] []))
                refine OEnds.st (fun _ k => XS.aload X1076.here hx rfl (hb hby at_145) rfl rfl k) ?_
                show OEnds p.tables e below G (T1076.setTop (mkF m 147 #[.val (.int p1), .val (.int p2), .val (.int p3), .val (.int v1001), .val (.int rp), .val (.int (0 : Int32)), .val (.ref oS), .val .null, .val (.ref b1038), .val (.int (0 : Int32)), .val (.int v1077), .val (.int (1 : Int32))] [(.ref b1038)]))
                refine OEnds.st (fun _ k => XS.iloadN X1076.here hx rfl (hb hby at_147) rfl k) ?_
                show OEnds p.tables e below G (T1076.setTop (mkF m 148 #[.val (.int p1), .val (.int p2), .val (.int p3), .val (.int v1001), .val (.int rp), .val (.int (0 : Int32)), .val (.ref oS), .val .null, .val (.ref b1038), .val (.int (0 : Int32)), .val (.int v1077), .val (.int (1 : Int32))] [(.int p1), (.ref b1038)]))
                obtain ⟨cq1096, kq1096, q1096a, q1096b, q1096c⟩ := isOf hZ e1076 p1060
                obtain ⟨_, _, ⟨T1096, L1096, k1096c, n1096c⟩, -, X1096, ⟨Lc1096, hQ1096, l1096, y1096, z1096⟩, st1096⟩ := X1076.virtualBack hx (y := (⟨"com/example/nearfar/nearfar/DescriptorSet$Field", "allows", "(I)Z"⟩ : MethodName)) (z := (⟨"com/example/nearfar/nearfar/DescriptorSet$Field", "allows", "(I)Z"⟩ : MethodName)) hown (mvT hZ (hw _ (List.mem_of_getElem? (i := 41) rfl))) (mvT hZ (hw _ (List.mem_of_getElem? (i := 42) rfl))) (notFace_of_selects (args := #[]) (mvT hZ (hw _ (List.mem_of_getElem? (i := 44) rfl)))) (mvT hZ (hw _ (List.mem_of_getElem? (i := 44) rfl))) (mvT hZ (hw _ (List.mem_of_getElem? (i := 43) rfl))) (by decide) (backOf (W := 0) (rmalO l Z a0 hw [] b1038 p1 oS K w rp T1058.heap n0 Z1058 p1064 p1063 f1067 f1068 hsW hsP) hZ (hw _ (List.mem_of_getElem? (i := 45) rfl)) (hw _ (List.mem_of_getElem? (i := 18) rfl)) (by decide) (by decide)) q1096a q1096c (g := (mkF m 148 #[.val (.int p1), .val (.int p2), .val (.int p3), .val (.int v1001), .val (.int rp), .val (.int (0 : Int32)), .val (.ref oS), .val .null, .val (.ref b1038), .val (.int (0 : Int32)), .val (.int v1077), .val (.int (1 : Int32))] [(.int p1), (.ref b1038)])) rfl (by rw [hml]; rfl) (Steps.refl _) (argsL := [(.int p1)]) (rest := []) (lenOf pd_4 rfl) rfl (by show 2 * 0 + _ ≤ _; exact Nat.le_of_eq rfl) (hb hby at_148) (fun _ _ => ⟨rfl, e1076, (by decide : 0 + 0 + 1 + 2 + 0 + 0 + 0 ≤ _), (by decide : 0 + 0 + 6 + 1028 + 0 + 0 + 0 ≤ _)⟩)
                dsimp only [Pt.U, Pt.locs, Pt.cells, Pt.slots] at X1096 l1096 y1096 z1096 st1096 hQ1096
                subst l1096 y1096 z1096
                obtain ⟨rfl, N1096q, e1096⟩ := hQ1096
                have N1096 := Fr.app N1076 N1096q
                refine OEnds.st (fun _ k => st1096.trans k) ?_
                show OEnds p.tables e below G (T1096.setTop (mkF m 151 #[.val (.int p1), .val (.int p2), .val (.int p3), .val (.int v1001), .val (.int rp), .val (.int (0 : Int32)), .val (.ref oS), .val .null, .val (.ref b1038), .val (.int (0 : Int32)), .val (.int v1077), .val (.int (1 : Int32))] [(.int (own_al p1 w rp))]))
                refine OEnds.st (fun _ k => XS.iload X1096.here hx rfl (hb hby at_151) rfl k) ?_
                show OEnds p.tables e below G (T1096.setTop (mkF m 153 #[.val (.int p1), .val (.int p2), .val (.int p3), .val (.int v1001), .val (.int rp), .val (.int (0 : Int32)), .val (.ref oS), .val .null, .val (.ref b1038), .val (.int (0 : Int32)), .val (.int v1077), .val (.int (1 : Int32))] [(.int (0 : Int32)), (.int (own_al p1 w rp))]))
                have hc153_1097 : (own_al p1 w rp) = (0 : Int32) := by rw [hwk, hv_v1077]; simp [own_al, own_packed, hc24_1003, hc107_1078, hc120_1087, hc125_1090, hc135_1093]; try exact fun q => hc120_1087 (q.trans hc107_1078.symm)
                refine OEnds.st (fun _ k => XS.icmpNo X1096.here hx rfl (hb hby at_153) rfl (teq hc153_1097).2 k) ?_
                show OEnds p.tables e below G (T1096.setTop (mkF m 156 #[.val (.int p1), .val (.int p2), .val (.int p3), .val (.int v1001), .val (.int rp), .val (.int (0 : Int32)), .val (.ref oS), .val .null, .val (.ref b1038), .val (.int (0 : Int32)), .val (.int v1077), .val (.int (1 : Int32))] []))
                refine OEnds.st (fun _ k => XS.iconst X1096.here hx rfl (hb hby at_156) k) ?_
                show OEnds p.tables e below G (T1096.setTop (mkF m 157 #[.val (.int p1), .val (.int p2), .val (.int p3), .val (.int v1001), .val (.int rp), .val (.int (0 : Int32)), .val (.ref oS), .val .null, .val (.ref b1038), .val (.int (0 : Int32)), .val (.int v1077), .val (.int (1 : Int32))] [(.int (1 : Int32))]))
                refine OEnds.st (fun _ k => XS.goto X1096.here hx rfl (pc0 := 157) (pc' := 161) rfl (hb hby at_157) (by decide) (by decide) k) ?_
                show OEnds p.tables e below G (T1096.setTop (mkF m 161 #[.val (.int p1), .val (.int p2), .val (.int p3), .val (.int v1001), .val (.int rp), .val (.int (0 : Int32)), .val (.ref oS), .val .null, .val (.ref b1038), .val (.int (0 : Int32)), .val (.int v1077), .val (.int (1 : Int32))] [(.int (1 : Int32))]))
                rw [← hG]
                refine OEnds.retZW X1096 hS (by rw [e1096]; exact hkk) hx hlk Bd.returns rfl (hb hby at_161) (by decide) (by decide) ?_
                rw [e1096]
                exact ⟨rfl, N1096⟩
    · -- pc 24: no
      refine OEnds.st (fun _ k => XS.ifNo X0.here hx rfl (hb hby at_24) rfl ((if0 _ _).trans (feq hc24_1003).1) k) ?_
      show OEnds p.tables e below G (s₁.setTop (mkF m 27 #[.val (.int p1), .val (.int p2), .val (.int p3), .val (.int v1001), .val (.int rp), .unset, .unset, .unset, .unset, .unset, .unset, .unset] []))
      refine OEnds.st (fun _ k => XS.iconst X0.here hx rfl (hb hby at_27) k) ?_
      show OEnds p.tables e below G (s₁.setTop (mkF m 28 #[.val (.int p1), .val (.int p2), .val (.int p3), .val (.int v1001), .val (.int rp), .unset, .unset, .unset, .unset, .unset, .unset, .unset] [(.int (1 : Int32))]))
      refine OEnds.st (fun _ k => XS.goto X0.here hx rfl (pc0 := 28) (pc' := 32) rfl (hb hby at_28) (by decide) (by decide) k) ?_
      show OEnds p.tables e below G (s₁.setTop (mkF m 32 #[.val (.int p1), .val (.int p2), .val (.int p3), .val (.int v1001), .val (.int rp), .unset, .unset, .unset, .unset, .unset, .unset, .unset] [(.int (1 : Int32))]))
      refine OEnds.st (fun _ k => XS.istore X0.here hx rfl (hb hby at_32) rfl (l' := #[.val (.int p1), .val (.int p2), .val (.int p3), .val (.int v1001), .val (.int rp), .val (.int (1 : Int32)), .unset, .unset, .unset, .unset, .unset, .unset]) rfl k) ?_
      rcases helf with hk | hten
      · -- null
        have hk0 := hk
        rw [hk]
        show OEnds p.tables e below G (s₁.setTop (mkF m 34 #[.val (.int p1), .val (.int p2), .val (.int p3), .val (.int (10 : Int32)), .val (.int rp), .val (.int (1 : Int32)), .unset, .unset, .unset, .unset, .unset, .unset] []))
        refine OEnds.st (fun _ k => XS.iloadN X0.here hx rfl (hb hby at_34) rfl k) ?_
        show OEnds p.tables e below G (s₁.setTop (mkF m 35 #[.val (.int p1), .val (.int p2), .val (.int p3), .val (.int (10 : Int32)), .val (.int rp), .val (.int (1 : Int32)), .unset, .unset, .unset, .unset, .unset, .unset] [(.int (10 : Int32))]))
        obtain ⟨_, _, ⟨T1098, L1098, k1098c, n1098c⟩, -, X1098, ⟨Lc1098, hQ1098, l1098, y1098, z1098⟩, st1098⟩ := Jvm.LawKit.callS X0 hx (y := (⟨"com/example/nearfar/nearfar/FieldAllowsPinLaw", "storedOf", "(I)Lcom/example/nearfar/nearfar/StoredType;"⟩ : MethodName)) hown (mvT hZ (hw _ (List.mem_of_getElem? (i := 1) rfl))) (mvT hZ (hw _ (List.mem_of_getElem? (i := 2) rfl))) (mvT hZ (hw _ (List.mem_of_getElem? (i := 3) rfl))) (mvT hZ (hw _ (List.mem_of_getElem? (i := 4) rfl))) (by decide) (backOf (W := 0) (rmstN l Z a0 hw []  h0 n0 Z0 ) hZ (hw _ (List.mem_of_getElem? (i := 4) rfl)) (hw _ (List.mem_of_getElem? (i := 3) rfl)) (by decide) (by decide)) (g := (mkF m 35 #[.val (.int p1), .val (.int p2), .val (.int p3), .val (.int (10 : Int32)), .val (.int rp), .val (.int (1 : Int32)), .unset, .unset, .unset, .unset, .unset, .unset] [(.int (10 : Int32))])) rfl (by rw [hml]; rfl) (argsL := [(.int (10 : Int32))]) (rest := []) (lenOf pd_2 rfl) rfl (by show 2 * 0 + _ ≤ _; exact Nat.le_of_eq rfl) (hb hby at_35) (fun _ _ => ⟨rfl, e0, (by decide : 0 + 0 ≤ _), (by decide : 0 + 0 ≤ _)⟩)
        dsimp only [Pt.U, Pt.locs, Pt.cells, Pt.slots] at X1098 l1098 y1098 z1098 st1098 hQ1098
        subst l1098 y1098 z1098
        obtain ⟨rfl, N1098q, e1098⟩ := hQ1098
        have N1098 := Fr.app N0 N1098q
        refine OEnds.st st1098 ?_
        show OEnds p.tables e below G (T1098.setTop (mkF m 38 #[.val (.int p1), .val (.int p2), .val (.int p3), .val (.int (10 : Int32)), .val (.int rp), .val (.int (1 : Int32)), .unset, .unset, .unset, .unset, .unset, .unset] [.null]))
        refine OEnds.st (fun _ k => XS.astore X1098.here hx rfl (hb hby at_38) rfl rfl (l' := #[.val (.int p1), .val (.int p2), .val (.int p3), .val (.int (10 : Int32)), .val (.int rp), .val (.int (1 : Int32)), .val .null, .unset, .unset, .unset, .unset, .unset]) rfl k) ?_
        show OEnds p.tables e below G (T1098.setTop (mkF m 40 #[.val (.int p1), .val (.int p2), .val (.int p3), .val (.int (10 : Int32)), .val (.int rp), .val (.int (1 : Int32)), .val .null, .unset, .unset, .unset, .unset, .unset] []))
        refine OEnds.st (fun _ k => XS.iload X1098.here hx rfl (hb hby at_40) rfl k) ?_
        show OEnds p.tables e below G (T1098.setTop (mkF m 42 #[.val (.int p1), .val (.int p2), .val (.int p3), .val (.int (10 : Int32)), .val (.int rp), .val (.int (1 : Int32)), .val .null, .unset, .unset, .unset, .unset, .unset] [(.int (1 : Int32))]))
        refine OEnds.st (fun _ k => XS.ifNo X1098.here hx rfl (hb hby at_42) rfl ((if0 _ _).trans (feq (by decide : ¬ ((1 : Int32) = (0 : Int32)))).1) k) ?_
        show OEnds p.tables e below G (T1098.setTop (mkF m 45 #[.val (.int p1), .val (.int p2), .val (.int p3), .val (.int (10 : Int32)), .val (.int rp), .val (.int (1 : Int32)), .val .null, .unset, .unset, .unset, .unset, .unset] []))
        obtain ⟨str1099, T1099, h1099, kS1099, X1099, e1099, E1099, hS, hkk, hZ, hown, st1099⟩ := ldcS X1098 hx hZ hown (hw _ (List.mem_of_getElem? (i := 8) rfl)) wS e1098 hS hkk (g := (mkF m 45 #[.val (.int p1), .val (.int p2), .val (.int p3), .val (.int (10 : Int32)), .val (.int rp), .val (.int (1 : Int32)), .val .null, .unset, .unset, .unset, .unset, .unset] [])) rfl (hb hby at_45) (n := 1024) (by decide) (by decide) (by decide) (by decide)
        refine OEnds.st st1099 ?_
        have KK1099 : Keep h0 h1099 [] := KK0.ext E1099
        have Z1099 := Nat.le_trans Z0 E1099.1
        show OEnds p.tables e below G (T1099.setTop (mkF m 47 #[.val (.int p1), .val (.int p2), .val (.int p3), .val (.int (10 : Int32)), .val (.int rp), .val (.int (1 : Int32)), .val .null, .unset, .unset, .unset, .unset, .unset] [(.ref str1099)]))
        refine OEnds.st (fun _ k => XS.goto X1099.here hx rfl (pc0 := 47) (pc' := 51) rfl (hb hby at_47) (by decide) (by decide) k) ?_
        show OEnds p.tables e below G (T1099.setTop (mkF m 51 #[.val (.int p1), .val (.int p2), .val (.int p3), .val (.int (10 : Int32)), .val (.int rp), .val (.int (1 : Int32)), .val .null, .unset, .unset, .unset, .unset, .unset] [(.ref str1099)]))
        refine OEnds.st (fun _ k => XS.astore X1099.here hx rfl (hb hby at_51) rfl rfl (l' := #[.val (.int p1), .val (.int p2), .val (.int p3), .val (.int (10 : Int32)), .val (.int rp), .val (.int (1 : Int32)), .val .null, .val (.ref str1099), .unset, .unset, .unset, .unset]) rfl k) ?_
        show OEnds p.tables e below G (T1099.setTop (mkF m 53 #[.val (.int p1), .val (.int p2), .val (.int p3), .val (.int (10 : Int32)), .val (.int rp), .val (.int (1 : Int32)), .val .null, .val (.ref str1099), .unset, .unset, .unset, .unset] []))
        obtain ⟨T1100, h1100, X1100, e1100, E1100, A1100, D1100, -, st1100⟩ := newO X1099 hx hZ hown (hw _ (List.mem_of_getElem? (i := 16) rfl)) (hw _ (List.mem_of_getElem? (i := 17) rfl)) (hw _ (List.mem_of_getElem? (i := 18) rfl)) e1099 (g := (mkF m 53 #[.val (.int p1), .val (.int p2), .val (.int p3), .val (.int (10 : Int32)), .val (.int rp), .val (.int (1 : Int32)), .val .null, .val (.ref str1099), .unset, .unset, .unset, .unset] [])) rfl (hb hby at_53) (by decide) (by decide)
        obtain ⟨b1100, g1100⟩ : ∃ z, z = h1099.size := ⟨_, rfl⟩
        rw [← g1100] at A1100 D1100 st1100
        refine OEnds.st st1100 ?_
        have ge_b1100 : n0 ≤ b1100 := Nat.le_trans Z1099 (Nat.le_of_eq g1100.symm)
        have sz_b1100 : h0.size ≤ b1100 := Nat.le_trans KK1099.1 (Nat.le_of_eq g1100.symm)
        have KK1100 : Keep h0 h1100 [] := KK1099.ext E1100
        have Z1100 := Nat.le_trans Z1099 E1100.1
        have hkk := Nat.le_trans hkk E1100.1
        have ex_b1100 := A1100
        have f1101 : Fld Z h1100 b1100 "com/example/nearfar/nearfar/DescriptorSet$Field" "name" "Ljava/lang/String;" .null := D1100 (Or.inr (hw _ (List.mem_of_getElem? (i := 27) rfl))) (ty := (.object "java/lang/String")) (by decide)
        have f1102 : Fld Z h1100 b1100 "com/example/nearfar/nearfar/DescriptorSet$Field" "number" "I" (.int (0 : Int32)) := D1100 (Or.inr (hw _ (List.mem_of_getElem? (i := 29) rfl))) (ty := .int) (by decide)
        have f1103 : Fld Z h1100 b1100 "com/example/nearfar/nearfar/DescriptorSet$Field" "repeated" "Z" (.int (0 : Int32)) := D1100 (Or.inr (hw _ (List.mem_of_getElem? (i := 31) rfl))) (ty := .boolean) (by decide)
        have f1104 : Fld Z h1100 b1100 "com/example/nearfar/nearfar/DescriptorSet$Field" "stored" "Lcom/example/nearfar/nearfar/StoredType;" .null := D1100 (Or.inr (hw _ (List.mem_of_getElem? (i := 33) rfl))) (ty := (.object "com/example/nearfar/nearfar/StoredType")) (by decide)
        have f1105 : Fld Z h1100 b1100 "com/example/nearfar/nearfar/DescriptorSet$Field" "messageType" "Ljava/lang/String;" .null := D1100 (Or.inr (hw _ (List.mem_of_getElem? (i := 35) rfl))) (ty := (.object "java/lang/String")) (by decide)
        have f1106 : Fld Z h1100 b1100 "com/example/nearfar/nearfar/DescriptorSet$Field" "enumType" "Ljava/lang/String;" .null := D1100 (Or.inr (hw _ (List.mem_of_getElem? (i := 37) rfl))) (ty := (.object "java/lang/String")) (by decide)
        show OEnds p.tables e below G (T1100.setTop (mkF m 56 #[.val (.int p1), .val (.int p2), .val (.int p3), .val (.int (10 : Int32)), .val (.int rp), .val (.int (1 : Int32)), .val .null, .val (.ref str1099), .unset, .unset, .unset, .unset] [(.ref b1100)]))
        refine OEnds.st (fun _ k => XS.dup X1100.here hx rfl (hb hby at_56) rfl rfl k) ?_
        show OEnds p.tables e below G (T1100.setTop (mkF m 57 #[.val (.int p1), .val (.int p2), .val (.int p3), .val (.int (10 : Int32)), .val (.int rp), .val (.int (1 : Int32)), .val .null, .val (.ref str1099), .unset, .unset, .unset, .unset] [(.ref b1100), (.ref b1100)]))
        obtain ⟨str1107, T1107, h1107, kS1107, X1107, e1107, E1107, hS, hkk, hZ, hown, st1107⟩ := ldcS X1100 hx hZ hown (hw _ (List.mem_of_getElem? (i := 19) rfl)) wS e1100 hS hkk (g := (mkF m 57 #[.val (.int p1), .val (.int p2), .val (.int p3), .val (.int (10 : Int32)), .val (.int rp), .val (.int (1 : Int32)), .val .null, .val (.ref str1099), .unset, .unset, .unset, .unset] [(.ref b1100), (.ref b1100)])) rfl (hb hby at_57) (n := 1024) (by decide) (by decide) (by decide) (by decide)
        refine OEnds.st st1107 ?_
        have f1108 : Exa Z h1107 b1100 "com/example/nearfar/nearfar/DescriptorSet$Field" := ex_b1100.ext E1107
        have f1109 : Fld Z h1107 b1100 "com/example/nearfar/nearfar/DescriptorSet$Field" "name" "Ljava/lang/String;" .null := f1101.ext E1107
        have f1110 : Fld Z h1107 b1100 "com/example/nearfar/nearfar/DescriptorSet$Field" "number" "I" (.int (0 : Int32)) := f1102.ext E1107
        have f1111 : Fld Z h1107 b1100 "com/example/nearfar/nearfar/DescriptorSet$Field" "repeated" "Z" (.int (0 : Int32)) := f1103.ext E1107
        have f1112 : Fld Z h1107 b1100 "com/example/nearfar/nearfar/DescriptorSet$Field" "stored" "Lcom/example/nearfar/nearfar/StoredType;" .null := f1104.ext E1107
        have f1113 : Fld Z h1107 b1100 "com/example/nearfar/nearfar/DescriptorSet$Field" "messageType" "Ljava/lang/String;" .null := f1105.ext E1107
        have f1114 : Fld Z h1107 b1100 "com/example/nearfar/nearfar/DescriptorSet$Field" "enumType" "Ljava/lang/String;" .null := f1106.ext E1107
        have KK1107 : Keep h0 h1107 [] := KK1100.ext E1107
        have Z1107 := Nat.le_trans Z1100 E1107.1
        show OEnds p.tables e below G (T1107.setTop (mkF m 59 #[.val (.int p1), .val (.int p2), .val (.int p3), .val (.int (10 : Int32)), .val (.int rp), .val (.int (1 : Int32)), .val .null, .val (.ref str1099), .unset, .unset, .unset, .unset] [(.ref str1107), (.ref b1100), (.ref b1100)]))
        refine OEnds.st (fun _ k => XS.iconst X1107.here hx rfl (hb hby at_59) k) ?_
        show OEnds p.tables e below G (T1107.setTop (mkF m 60 #[.val (.int p1), .val (.int p2), .val (.int p3), .val (.int (10 : Int32)), .val (.int rp), .val (.int (1 : Int32)), .val .null, .val (.ref str1099), .unset, .unset, .unset, .unset] [(.int (2 : Int32)), (.ref str1107), (.ref b1100), (.ref b1100)]))
        refine OEnds.st (fun _ k => XS.iload X1107.here hx rfl (hb hby at_60) rfl k) ?_
        show OEnds p.tables e below G (T1107.setTop (mkF m 62 #[.val (.int p1), .val (.int p2), .val (.int p3), .val (.int (10 : Int32)), .val (.int rp), .val (.int (1 : Int32)), .val .null, .val (.ref str1099), .unset, .unset, .unset, .unset] [(.int rp), (.int (2 : Int32)), (.ref str1107), (.ref b1100), (.ref b1100)]))
        refine OEnds.st (fun _ k => XS.aload X1107.here hx rfl (hb hby at_62) rfl rfl k) ?_
        show OEnds p.tables e below G (T1107.setTop (mkF m 64 #[.val (.int p1), .val (.int p2), .val (.int p3), .val (.int (10 : Int32)), .val (.int rp), .val (.int (1 : Int32)), .val .null, .val (.ref str1099), .unset, .unset, .unset, .unset] [.null, (.int rp), (.int (2 : Int32)), (.ref str1107), (.ref b1100), (.ref b1100)]))
        refine OEnds.st (fun _ k => XS.aload X1107.here hx rfl (hb hby at_64) rfl rfl k) ?_
        show OEnds p.tables e below G (T1107.setTop (mkF m 66 #[.val (.int p1), .val (.int p2), .val (.int p3), .val (.int (10 : Int32)), .val (.int rp), .val (.int (1 : Int32)), .val .null, .val (.ref str1099), .unset, .unset, .unset, .unset] [(.ref str1099), .null, (.int rp), (.int (2 : Int32)), (.ref str1107), (.ref b1100), (.ref b1100)]))
        refine OEnds.st (fun _ k => XS.aconstNull X1107.here hx rfl (hb hby at_66) k) ?_
        show OEnds p.tables e below G (T1107.setTop (mkF m 67 #[.val (.int p1), .val (.int p2), .val (.int p3), .val (.int (10 : Int32)), .val (.int rp), .val (.int (1 : Int32)), .val .null, .val (.ref str1099), .unset, .unset, .unset, .unset] [.null, (.ref str1099), .null, (.int rp), (.int (2 : Int32)), (.ref str1107), (.ref b1100), (.ref b1100)]))
        obtain ⟨_, _, ⟨T1115, L1115, k1115c, n1115c⟩, -, X1115, ⟨Lc1115, hQ1115, l1115, y1115, z1115⟩, st1115⟩ := X1107.specialBack hx (y := (⟨"com/example/nearfar/nearfar/DescriptorSet$Field", "<init>", "(Ljava/lang/String;IZLcom/example/nearfar/nearfar/StoredType;Ljava/lang/String;Ljava/lang/String;)V"⟩ : MethodName)) rfl hown (mvT hZ (hw _ (List.mem_of_getElem? (i := 20) rfl))) (mvT hZ (hw _ (List.mem_of_getElem? (i := 21) rfl))) (mvT hZ (hw _ (List.mem_of_getElem? (i := 22) rfl))) (by decide) (backOf (W := 1) (rmfi01 l Z a0 hw [] b1100 str1107 rp str1099 h1107 n0 Z1107 f1108 f1109 f1110 f1111 f1112 f1113 f1114 ge_b1100 hrp) hZ (hw _ (List.mem_of_getElem? (i := 22) rfl)) (hw _ (List.mem_of_getElem? (i := 18) rfl)) (by decide) (by decide)) (g := (mkF m 67 #[.val (.int p1), .val (.int p2), .val (.int p3), .val (.int (10 : Int32)), .val (.int rp), .val (.int (1 : Int32)), .val .null, .val (.ref str1099), .unset, .unset, .unset, .unset] [.null, (.ref str1099), .null, (.int rp), (.int (2 : Int32)), (.ref str1107), (.ref b1100), (.ref b1100)])) rfl (by rw [hml]; rfl) (Steps.refl _) (a := b1100) (argsL := [(.ref str1107), (.int (2 : Int32)), (.int rp), .null, (.ref str1099), .null]) (rest := [(.ref b1100)]) (lenOf pd_3 rfl) rfl (by show 2 * 0 + _ ≤ _; exact Nat.le_of_eq rfl) (hb hby at_67) (fun _ _ => ⟨rfl, e1107, (by decide : 0 + 0 + 2 + 1 + 2 + 0 ≤ _), (by decide : 0 + 0 + 1028 + 6 + 1028 + 0 ≤ _)⟩)
        dsimp only [Pt.U, Pt.locs, Pt.cells, Pt.slots] at X1115 l1115 y1115 z1115 st1115 hQ1115
        subst l1115 y1115 z1115
        obtain ⟨rfl, N1115q, p1116, p1117, p1118, p1119, p1120, p1121, p1122, p1123⟩ := hQ1115
        have N1115 := Fr.app N1098 N1115q
        refine OEnds.st (fun _ k => st1115.trans k) ?_
        have f1124 : Exa Z T1115.heap b1100 "com/example/nearfar/nearfar/DescriptorSet$Field" := f1108.keep p1116
        have KK1115 : Keep h0 T1115.heap [] := KK1107.trans p1116 (fun x hx => by cases List.mem_singleton.mp hx; exact Or.inr sz_b1100)
        have Z1115 := Nat.le_trans Z1107 p1116.1
        have hkk := Nat.le_trans hkk p1116.1
        show OEnds p.tables e below G (T1115.setTop (mkF m 70 #[.val (.int p1), .val (.int p2), .val (.int p3), .val (.int (10 : Int32)), .val (.int rp), .val (.int (1 : Int32)), .val .null, .val (.ref str1099), .unset, .unset, .unset, .unset] [(.ref b1100)]))
        refine OEnds.st (fun _ k => XS.astore X1115.here hx rfl (hb hby at_70) rfl rfl (l' := #[.val (.int p1), .val (.int p2), .val (.int p3), .val (.int (10 : Int32)), .val (.int rp), .val (.int (1 : Int32)), .val .null, .val (.ref str1099), .val (.ref b1100), .unset, .unset, .unset]) rfl k) ?_
        show OEnds p.tables e below G (T1115.setTop (mkF m 72 #[.val (.int p1), .val (.int p2), .val (.int p3), .val (.int (10 : Int32)), .val (.int rp), .val (.int (1 : Int32)), .val .null, .val (.ref str1099), .val (.ref b1100), .unset, .unset, .unset] []))
        refine OEnds.st (fun _ k => XS.iloadN X1115.here hx rfl (hb hby at_72) rfl k) ?_
        show OEnds p.tables e below G (T1115.setTop (mkF m 73 #[.val (.int p1), .val (.int p2), .val (.int p3), .val (.int (10 : Int32)), .val (.int rp), .val (.int (1 : Int32)), .val .null, .val (.ref str1099), .val (.ref b1100), .unset, .unset, .unset] [(.int (10 : Int32))]))
        refine OEnds.st (fun _ k => XS.bipush X1115.here hx rfl (hb hby at_73) k) ?_
        show OEnds p.tables e below G (T1115.setTop (mkF m 75 #[.val (.int p1), .val (.int p2), .val (.int p3), .val (.int (10 : Int32)), .val (.int rp), .val (.int (1 : Int32)), .val .null, .val (.ref str1099), .val (.ref b1100), .unset, .unset, .unset] [(.int (10 : Int32)), (.int (10 : Int32))]))
        refine OEnds.st (fun _ k => XS.icmpNo X1115.here hx rfl (hb hby at_75) rfl (teq (by decide : (10 : Int32) = (10 : Int32))).2 k) ?_
        show OEnds p.tables e below G (T1115.setTop (mkF m 78 #[.val (.int p1), .val (.int p2), .val (.int p3), .val (.int (10 : Int32)), .val (.int rp), .val (.int (1 : Int32)), .val .null, .val (.ref str1099), .val (.ref b1100), .unset, .unset, .unset] []))
        refine OEnds.st (fun _ k => XS.iload X1115.here hx rfl (hb hby at_78) rfl k) ?_
        show OEnds p.tables e below G (T1115.setTop (mkF m 80 #[.val (.int p1), .val (.int p2), .val (.int p3), .val (.int (10 : Int32)), .val (.int rp), .val (.int (1 : Int32)), .val .null, .val (.ref str1099), .val (.ref b1100), .unset, .unset, .unset] [(.int (1 : Int32))]))
        refine OEnds.st (fun _ k => XS.ifNo X1115.here hx rfl (hb hby at_80) rfl ((if0 _ _).trans (feq (by decide : ¬ ((1 : Int32) = (0 : Int32)))).1) k) ?_
        show OEnds p.tables e below G (T1115.setTop (mkF m 83 #[.val (.int p1), .val (.int p2), .val (.int p3), .val (.int (10 : Int32)), .val (.int rp), .val (.int (1 : Int32)), .val .null, .val (.ref str1099), .val (.ref b1100), .unset, .unset, .unset] []))
        refine OEnds.st (fun _ k => XS.iloadN X1115.here hx rfl (hb hby at_83) rfl k) ?_
        show OEnds p.tables e below G (T1115.setTop (mkF m 84 #[.val (.int p1), .val (.int p2), .val (.int p3), .val (.int (10 : Int32)), .val (.int rp), .val (.int (1 : Int32)), .val .null, .val (.ref str1099), .val (.ref b1100), .unset, .unset, .unset] [(.int p1)]))
        refine OEnds.st (fun _ k => XS.iconst X1115.here hx rfl (hb hby at_84) k) ?_
        show OEnds p.tables e below G (T1115.setTop (mkF m 85 #[.val (.int p1), .val (.int p2), .val (.int p3), .val (.int (10 : Int32)), .val (.int rp), .val (.int (1 : Int32)), .val .null, .val (.ref str1099), .val (.ref b1100), .unset, .unset, .unset] [(.int (2 : Int32)), (.int p1)]))
        by_cases hc85_1131 : p1 = (2 : Int32)
        · -- pc 85: yes
          refine OEnds.st (fun _ k => XS.icmpNo X1115.here hx rfl (hb hby at_85) rfl (teq hc85_1131).2 k) ?_
          show OEnds p.tables e below G (T1115.setTop (mkF m 88 #[.val (.int p1), .val (.int p2), .val (.int p3), .val (.int (10 : Int32)), .val (.int rp), .val (.int (1 : Int32)), .val .null, .val (.ref str1099), .val (.ref b1100), .unset, .unset, .unset] []))
          refine OEnds.st (fun _ k => XS.iconst X1115.here hx rfl (hb hby at_88) k) ?_
          show OEnds p.tables e below G (T1115.setTop (mkF m 89 #[.val (.int p1), .val (.int p2), .val (.int p3), .val (.int (10 : Int32)), .val (.int rp), .val (.int (1 : Int32)), .val .null, .val (.ref str1099), .val (.ref b1100), .unset, .unset, .unset] [(.int (1 : Int32))]))
          refine OEnds.st (fun _ k => XS.goto X1115.here hx rfl (pc0 := 89) (pc' := 93) rfl (hb hby at_89) (by decide) (by decide) k) ?_
          show OEnds p.tables e below G (T1115.setTop (mkF m 93 #[.val (.int p1), .val (.int p2), .val (.int p3), .val (.int (10 : Int32)), .val (.int rp), .val (.int (1 : Int32)), .val .null, .val (.ref str1099), .val (.ref b1100), .unset, .unset, .unset] [(.int (1 : Int32))]))
          refine OEnds.st (fun _ k => XS.istore X1115.here hx rfl (hb hby at_93) rfl (l' := #[.val (.int p1), .val (.int p2), .val (.int p3), .val (.int (10 : Int32)), .val (.int rp), .val (.int (1 : Int32)), .val .null, .val (.ref str1099), .val (.ref b1100), .val (.int (1 : Int32)), .unset, .unset]) rfl k) ?_
          show OEnds p.tables e below G (T1115.setTop (mkF m 95 #[.val (.int p1), .val (.int p2), .val (.int p3), .val (.int (10 : Int32)), .val (.int rp), .val (.int (1 : Int32)), .val .null, .val (.ref str1099), .val (.ref b1100), .val (.int (1 : Int32)), .unset, .unset] []))
          refine OEnds.st (fun _ k => XS.goto X1115.here hx rfl (pc0 := 95) (pc' := 145) rfl (hb hby at_95) (by decide) (by decide) k) ?_
          show OEnds p.tables e below G (T1115.setTop (mkF m 145 #[.val (.int p1), .val (.int p2), .val (.int p3), .val (.int (10 : Int32)), .val (.int rp), .val (.int (1 : Int32)), .val .null, .val (.ref str1099), .val (.ref b1100), .val (.int (1 : Int32)), .unset, .unset] []))
          refine OEnds.st (fun _ k => XS.aload X1115.here hx rfl (hb hby at_145) rfl rfl k) ?_
          show OEnds p.tables e below G (T1115.setTop (mkF m 147 #[.val (.int p1), .val (.int p2), .val (.int p3), .val (.int (10 : Int32)), .val (.int rp), .val (.int (1 : Int32)), .val .null, .val (.ref str1099), .val (.ref b1100), .val (.int (1 : Int32)), .unset, .unset] [(.ref b1100)]))
          refine OEnds.st (fun _ k => XS.iloadN X1115.here hx rfl (hb hby at_147) rfl k) ?_
          show OEnds p.tables e below G (T1115.setTop (mkF m 148 #[.val (.int p1), .val (.int p2), .val (.int p3), .val (.int (10 : Int32)), .val (.int rp), .val (.int (1 : Int32)), .val .null, .val (.ref str1099), .val (.ref b1100), .val (.int (1 : Int32)), .unset, .unset] [(.int p1), (.ref b1100)]))
          obtain ⟨cq1132, kq1132, q1132a, q1132b, q1132c⟩ := isOf hZ rfl p1117
          obtain ⟨_, _, ⟨T1132, L1132, k1132c, n1132c⟩, -, X1132, ⟨Lc1132, hQ1132, l1132, y1132, z1132⟩, st1132⟩ := X1115.virtualBack hx (y := (⟨"com/example/nearfar/nearfar/DescriptorSet$Field", "allows", "(I)Z"⟩ : MethodName)) (z := (⟨"com/example/nearfar/nearfar/DescriptorSet$Field", "allows", "(I)Z"⟩ : MethodName)) hown (mvT hZ (hw _ (List.mem_of_getElem? (i := 41) rfl))) (mvT hZ (hw _ (List.mem_of_getElem? (i := 42) rfl))) (notFace_of_selects (args := #[]) (mvT hZ (hw _ (List.mem_of_getElem? (i := 44) rfl)))) (mvT hZ (hw _ (List.mem_of_getElem? (i := 44) rfl))) (mvT hZ (hw _ (List.mem_of_getElem? (i := 43) rfl))) (by decide) (backOf (W := 0) (rmalM l Z a0 hw [] b1100 p1 str1099 T1115.heap n0 Z1115 p1121 p1122) hZ (hw _ (List.mem_of_getElem? (i := 45) rfl)) (hw _ (List.mem_of_getElem? (i := 18) rfl)) (by decide) (by decide)) q1132a q1132c (g := (mkF m 148 #[.val (.int p1), .val (.int p2), .val (.int p3), .val (.int (10 : Int32)), .val (.int rp), .val (.int (1 : Int32)), .val .null, .val (.ref str1099), .val (.ref b1100), .val (.int (1 : Int32)), .unset, .unset] [(.int p1), (.ref b1100)])) rfl (by rw [hml]; rfl) (Steps.refl _) (argsL := [(.int p1)]) (rest := []) (lenOf pd_4 rfl) rfl (by show 2 * 0 + _ ≤ _; exact Nat.le_of_eq rfl) (hb hby at_148) (fun _ _ => ⟨rfl, rfl, (by decide : 0 + 0 + 2 + 1 + 2 + 0 + 0 ≤ _), (by decide : 0 + 0 + 1028 + 6 + 1028 + 0 + 0 ≤ _)⟩)
          dsimp only [Pt.U, Pt.locs, Pt.cells, Pt.slots] at X1132 l1132 y1132 z1132 st1132 hQ1132
          subst l1132 y1132 z1132
          obtain ⟨rfl, N1132q, e1132⟩ := hQ1132
          have N1132 := Fr.app N1115 N1132q
          refine OEnds.st (fun _ k => st1132.trans k) ?_
          show OEnds p.tables e below G (T1132.setTop (mkF m 151 #[.val (.int p1), .val (.int p2), .val (.int p3), .val (.int (10 : Int32)), .val (.int rp), .val (.int (1 : Int32)), .val .null, .val (.ref str1099), .val (.ref b1100), .val (.int (1 : Int32)), .unset, .unset] [(.int (own_b2 p1))]))
          refine OEnds.st (fun _ k => XS.iload X1132.here hx rfl (hb hby at_151) rfl k) ?_
          show OEnds p.tables e below G (T1132.setTop (mkF m 153 #[.val (.int p1), .val (.int p2), .val (.int p3), .val (.int (10 : Int32)), .val (.int rp), .val (.int (1 : Int32)), .val .null, .val (.ref str1099), .val (.ref b1100), .val (.int (1 : Int32)), .unset, .unset] [(.int (1 : Int32)), (.int (own_b2 p1))]))
          have hc153_1133 : (own_b2 p1) = (1 : Int32) := by simp [own_b2, hc24_1003, hc85_1131]
          refine OEnds.st (fun _ k => XS.icmpNo X1132.here hx rfl (hb hby at_153) rfl (teq hc153_1133).2 k) ?_
          show OEnds p.tables e below G (T1132.setTop (mkF m 156 #[.val (.int p1), .val (.int p2), .val (.int p3), .val (.int (10 : Int32)), .val (.int rp), .val (.int (1 : Int32)), .val .null, .val (.ref str1099), .val (.ref b1100), .val (.int (1 : Int32)), .unset, .unset] []))
          refine OEnds.st (fun _ k => XS.iconst X1132.here hx rfl (hb hby at_156) k) ?_
          show OEnds p.tables e below G (T1132.setTop (mkF m 157 #[.val (.int p1), .val (.int p2), .val (.int p3), .val (.int (10 : Int32)), .val (.int rp), .val (.int (1 : Int32)), .val .null, .val (.ref str1099), .val (.ref b1100), .val (.int (1 : Int32)), .unset, .unset] [(.int (1 : Int32))]))
          refine OEnds.st (fun _ k => XS.goto X1132.here hx rfl (pc0 := 157) (pc' := 161) rfl (hb hby at_157) (by decide) (by decide) k) ?_
          show OEnds p.tables e below G (T1132.setTop (mkF m 161 #[.val (.int p1), .val (.int p2), .val (.int p3), .val (.int (10 : Int32)), .val (.int rp), .val (.int (1 : Int32)), .val .null, .val (.ref str1099), .val (.ref b1100), .val (.int (1 : Int32)), .unset, .unset] [(.int (1 : Int32))]))
          rw [← hG]
          refine OEnds.retZW X1132 hS (by rw [e1132]; exact hkk) hx hlk Bd.returns rfl (hb hby at_161) (by decide) (by decide) ?_
          rw [e1132]
          exact ⟨rfl, N1132⟩
        · -- pc 85: no
          refine OEnds.st (fun _ k => XS.icmpYes X1115.here hx rfl (pc0 := 85) (pc' := 92) rfl (hb hby at_85) rfl (feq hc85_1131).2 (by decide) (by decide) k) ?_
          show OEnds p.tables e below G (T1115.setTop (mkF m 92 #[.val (.int p1), .val (.int p2), .val (.int p3), .val (.int (10 : Int32)), .val (.int rp), .val (.int (1 : Int32)), .val .null, .val (.ref str1099), .val (.ref b1100), .unset, .unset, .unset] []))
          refine OEnds.st (fun _ k => XS.iconst X1115.here hx rfl (hb hby at_92) k) ?_
          show OEnds p.tables e below G (T1115.setTop (mkF m 93 #[.val (.int p1), .val (.int p2), .val (.int p3), .val (.int (10 : Int32)), .val (.int rp), .val (.int (1 : Int32)), .val .null, .val (.ref str1099), .val (.ref b1100), .unset, .unset, .unset] [(.int (0 : Int32))]))
          refine OEnds.st (fun _ k => XS.istore X1115.here hx rfl (hb hby at_93) rfl (l' := #[.val (.int p1), .val (.int p2), .val (.int p3), .val (.int (10 : Int32)), .val (.int rp), .val (.int (1 : Int32)), .val .null, .val (.ref str1099), .val (.ref b1100), .val (.int (0 : Int32)), .unset, .unset]) rfl k) ?_
          show OEnds p.tables e below G (T1115.setTop (mkF m 95 #[.val (.int p1), .val (.int p2), .val (.int p3), .val (.int (10 : Int32)), .val (.int rp), .val (.int (1 : Int32)), .val .null, .val (.ref str1099), .val (.ref b1100), .val (.int (0 : Int32)), .unset, .unset] []))
          refine OEnds.st (fun _ k => XS.goto X1115.here hx rfl (pc0 := 95) (pc' := 145) rfl (hb hby at_95) (by decide) (by decide) k) ?_
          show OEnds p.tables e below G (T1115.setTop (mkF m 145 #[.val (.int p1), .val (.int p2), .val (.int p3), .val (.int (10 : Int32)), .val (.int rp), .val (.int (1 : Int32)), .val .null, .val (.ref str1099), .val (.ref b1100), .val (.int (0 : Int32)), .unset, .unset] []))
          refine OEnds.st (fun _ k => XS.aload X1115.here hx rfl (hb hby at_145) rfl rfl k) ?_
          show OEnds p.tables e below G (T1115.setTop (mkF m 147 #[.val (.int p1), .val (.int p2), .val (.int p3), .val (.int (10 : Int32)), .val (.int rp), .val (.int (1 : Int32)), .val .null, .val (.ref str1099), .val (.ref b1100), .val (.int (0 : Int32)), .unset, .unset] [(.ref b1100)]))
          refine OEnds.st (fun _ k => XS.iloadN X1115.here hx rfl (hb hby at_147) rfl k) ?_
          show OEnds p.tables e below G (T1115.setTop (mkF m 148 #[.val (.int p1), .val (.int p2), .val (.int p3), .val (.int (10 : Int32)), .val (.int rp), .val (.int (1 : Int32)), .val .null, .val (.ref str1099), .val (.ref b1100), .val (.int (0 : Int32)), .unset, .unset] [(.int p1), (.ref b1100)]))
          obtain ⟨cq1134, kq1134, q1134a, q1134b, q1134c⟩ := isOf hZ rfl p1117
          obtain ⟨_, _, ⟨T1134, L1134, k1134c, n1134c⟩, -, X1134, ⟨Lc1134, hQ1134, l1134, y1134, z1134⟩, st1134⟩ := X1115.virtualBack hx (y := (⟨"com/example/nearfar/nearfar/DescriptorSet$Field", "allows", "(I)Z"⟩ : MethodName)) (z := (⟨"com/example/nearfar/nearfar/DescriptorSet$Field", "allows", "(I)Z"⟩ : MethodName)) hown (mvT hZ (hw _ (List.mem_of_getElem? (i := 41) rfl))) (mvT hZ (hw _ (List.mem_of_getElem? (i := 42) rfl))) (notFace_of_selects (args := #[]) (mvT hZ (hw _ (List.mem_of_getElem? (i := 44) rfl)))) (mvT hZ (hw _ (List.mem_of_getElem? (i := 44) rfl))) (mvT hZ (hw _ (List.mem_of_getElem? (i := 43) rfl))) (by decide) (backOf (W := 0) (rmalM l Z a0 hw [] b1100 p1 str1099 T1115.heap n0 Z1115 p1121 p1122) hZ (hw _ (List.mem_of_getElem? (i := 45) rfl)) (hw _ (List.mem_of_getElem? (i := 18) rfl)) (by decide) (by decide)) q1134a q1134c (g := (mkF m 148 #[.val (.int p1), .val (.int p2), .val (.int p3), .val (.int (10 : Int32)), .val (.int rp), .val (.int (1 : Int32)), .val .null, .val (.ref str1099), .val (.ref b1100), .val (.int (0 : Int32)), .unset, .unset] [(.int p1), (.ref b1100)])) rfl (by rw [hml]; rfl) (Steps.refl _) (argsL := [(.int p1)]) (rest := []) (lenOf pd_4 rfl) rfl (by show 2 * 0 + _ ≤ _; exact Nat.le_of_eq rfl) (hb hby at_148) (fun _ _ => ⟨rfl, rfl, (by decide : 0 + 0 + 2 + 1 + 2 + 0 + 0 ≤ _), (by decide : 0 + 0 + 1028 + 6 + 1028 + 0 + 0 ≤ _)⟩)
          dsimp only [Pt.U, Pt.locs, Pt.cells, Pt.slots] at X1134 l1134 y1134 z1134 st1134 hQ1134
          subst l1134 y1134 z1134
          obtain ⟨rfl, N1134q, e1134⟩ := hQ1134
          have N1134 := Fr.app N1115 N1134q
          refine OEnds.st (fun _ k => st1134.trans k) ?_
          show OEnds p.tables e below G (T1134.setTop (mkF m 151 #[.val (.int p1), .val (.int p2), .val (.int p3), .val (.int (10 : Int32)), .val (.int rp), .val (.int (1 : Int32)), .val .null, .val (.ref str1099), .val (.ref b1100), .val (.int (0 : Int32)), .unset, .unset] [(.int (own_b2 p1))]))
          refine OEnds.st (fun _ k => XS.iload X1134.here hx rfl (hb hby at_151) rfl k) ?_
          show OEnds p.tables e below G (T1134.setTop (mkF m 153 #[.val (.int p1), .val (.int p2), .val (.int p3), .val (.int (10 : Int32)), .val (.int rp), .val (.int (1 : Int32)), .val .null, .val (.ref str1099), .val (.ref b1100), .val (.int (0 : Int32)), .unset, .unset] [(.int (0 : Int32)), (.int (own_b2 p1))]))
          have hc153_1135 : (own_b2 p1) = (0 : Int32) := by simp [own_b2, hc24_1003, hc85_1131]
          refine OEnds.st (fun _ k => XS.icmpNo X1134.here hx rfl (hb hby at_153) rfl (teq hc153_1135).2 k) ?_
          show OEnds p.tables e below G (T1134.setTop (mkF m 156 #[.val (.int p1), .val (.int p2), .val (.int p3), .val (.int (10 : Int32)), .val (.int rp), .val (.int (1 : Int32)), .val .null, .val (.ref str1099), .val (.ref b1100), .val (.int (0 : Int32)), .unset, .unset] []))
          refine OEnds.st (fun _ k => XS.iconst X1134.here hx rfl (hb hby at_156) k) ?_
          show OEnds p.tables e below G (T1134.setTop (mkF m 157 #[.val (.int p1), .val (.int p2), .val (.int p3), .val (.int (10 : Int32)), .val (.int rp), .val (.int (1 : Int32)), .val .null, .val (.ref str1099), .val (.ref b1100), .val (.int (0 : Int32)), .unset, .unset] [(.int (1 : Int32))]))
          refine OEnds.st (fun _ k => XS.goto X1134.here hx rfl (pc0 := 157) (pc' := 161) rfl (hb hby at_157) (by decide) (by decide) k) ?_
          show OEnds p.tables e below G (T1134.setTop (mkF m 161 #[.val (.int p1), .val (.int p2), .val (.int p3), .val (.int (10 : Int32)), .val (.int rp), .val (.int (1 : Int32)), .val .null, .val (.ref str1099), .val (.ref b1100), .val (.int (0 : Int32)), .unset, .unset] [(.int (1 : Int32))]))
          rw [← hG]
          refine OEnds.retZW X1134 hS (by rw [e1134]; exact hkk) hx hlk Bd.returns rfl (hb hby at_161) (by decide) (by decide) ?_
          rw [e1134]
          exact ⟨rfl, N1134⟩
      · -- an object
        have hn10 : ¬ v1001 = (10 : Int32) := by rcases hten with h | h | h | h | h | h | h | h | h | h <;> rw [h] <;> decide
        show OEnds p.tables e below G (s₁.setTop (mkF m 34 #[.val (.int p1), .val (.int p2), .val (.int p3), .val (.int v1001), .val (.int rp), .val (.int (1 : Int32)), .unset, .unset, .unset, .unset, .unset, .unset] []))
        refine OEnds.st (fun _ k => XS.iloadN X0.here hx rfl (hb hby at_34) rfl k) ?_
        show OEnds p.tables e below G (s₁.setTop (mkF m 35 #[.val (.int p1), .val (.int p2), .val (.int p3), .val (.int v1001), .val (.int rp), .val (.int (1 : Int32)), .unset, .unset, .unset, .unset, .unset, .unset] [(.int v1001)]))
        obtain ⟨_, _, ⟨T1136, L1136, k1136c, n1136c⟩, -, X1136, ⟨Lc1136, hQ1136, l1136, y1136, z1136⟩, st1136⟩ := Jvm.LawKit.callS X0 hx (y := (⟨"com/example/nearfar/nearfar/FieldAllowsPinLaw", "storedOf", "(I)Lcom/example/nearfar/nearfar/StoredType;"⟩ : MethodName)) hown (mvT hZ (hw _ (List.mem_of_getElem? (i := 1) rfl))) (mvT hZ (hw _ (List.mem_of_getElem? (i := 2) rfl))) (mvT hZ (hw _ (List.mem_of_getElem? (i := 3) rfl))) (mvT hZ (hw _ (List.mem_of_getElem? (i := 4) rfl))) (by decide) (backOf (W := 0) (rmstS l Z a0 hw [] v1001 o0 o1 o2 o3 o4 o5 o6 o7 o8 o9 h0 n0 Z0 St0 St1 St2 St3 St4 St5 St6 St7 St8 St9 hten) hZ (hw _ (List.mem_of_getElem? (i := 4) rfl)) (hw _ (List.mem_of_getElem? (i := 3) rfl)) (by decide) (by decide)) (g := (mkF m 35 #[.val (.int p1), .val (.int p2), .val (.int p3), .val (.int v1001), .val (.int rp), .val (.int (1 : Int32)), .unset, .unset, .unset, .unset, .unset, .unset] [(.int v1001)])) rfl (by rw [hml]; rfl) (argsL := [(.int v1001)]) (rest := []) (lenOf pd_2 rfl) rfl (by show 2 * 0 + _ ≤ _; exact Nat.le_of_eq rfl) (hb hby at_35) (fun _ _ => ⟨rfl, e0, (by decide : 0 + 0 ≤ _), (by decide : 0 + 0 ≤ _)⟩)
        dsimp only [Pt.U, Pt.locs, Pt.cells, Pt.slots] at X1136 l1136 y1136 z1136 st1136 hQ1136
        subst l1136 y1136 z1136
        obtain ⟨rfl, N1136q, e1136⟩ := hQ1136
        have N1136 := Fr.app N0 N1136q
        refine OEnds.st st1136 ?_
        generalize hO : (own_st v1001 o0 o1 o2 o3 o4 o5 o6 o7 o8 o9) = oS
        obtain ⟨K, w, EK, FK, hsW, hsP, hwk⟩ : ∃ (K : String) (w : Int32), Exa Z h0 oS K ∧ Fld Z h0 oS "com/example/nearfar/nearfar/StoredType" "wireType" "I" (.int w) ∧ (Jvm.Cond.selects K ({ cls := "com/example/nearfar/nearfar/StoredType", name := "wireType", desc := "()I" } : MethodName) ({ cls := "com/example/nearfar/nearfar/StoredType", name := "wireType", desc := "()I" } : MethodName)).before a0 Z = true ∧ (Jvm.Cond.selects K ({ cls := "com/example/nearfar/nearfar/StoredType", name := "packed", desc := "()Z" } : MethodName) ({ cls := "com/example/nearfar/nearfar/StoredType", name := "packed", desc := "()Z" } : MethodName)).before a0 Z = true ∧ w = own_wire v1001 := by
          rw [← hO]
          rcases hten with h | h | h | h | h | h | h | h | h | h
          · rw [h]; exact ⟨"com/example/nearfar/nearfar/StoredType$1", (2 : Int32), Ex0, Fl0, (hw _ (List.mem_of_getElem? (i := 69) rfl)), (hw _ (List.mem_of_getElem? (i := 71) rfl)), by decide⟩
          · rw [h]; exact ⟨"com/example/nearfar/nearfar/StoredType$2", (2 : Int32), Ex1, Fl1, (hw _ (List.mem_of_getElem? (i := 55) rfl)), (hw _ (List.mem_of_getElem? (i := 60) rfl)), by decide⟩
          · rw [h]; exact ⟨"com/example/nearfar/nearfar/StoredType$3", (0 : Int32), Ex2, Fl2, (hw _ (List.mem_of_getElem? (i := 84) rfl)), (hw _ (List.mem_of_getElem? (i := 86) rfl)), by decide⟩
          · rw [h]; exact ⟨"com/example/nearfar/nearfar/StoredType$4", (0 : Int32), Ex3, Fl3, (hw _ (List.mem_of_getElem? (i := 49) rfl)), (hw _ (List.mem_of_getElem? (i := 87) rfl)), by decide⟩
          · rw [h]; exact ⟨"com/example/nearfar/nearfar/StoredType$5", (1 : Int32), Ex4, Fl4, (hw _ (List.mem_of_getElem? (i := 100) rfl)), (hw _ (List.mem_of_getElem? (i := 102) rfl)), by decide⟩
          · rw [h]; exact ⟨"com/example/nearfar/nearfar/StoredType$6", (5 : Int32), Ex5, Fl5, (hw _ (List.mem_of_getElem? (i := 79) rfl)), (hw _ (List.mem_of_getElem? (i := 81) rfl)), by decide⟩
          · rw [h]; exact ⟨"com/example/nearfar/nearfar/StoredType$7", (0 : Int32), Ex6, Fl6, (hw _ (List.mem_of_getElem? (i := 90) rfl)), (hw _ (List.mem_of_getElem? (i := 92) rfl)), by decide⟩
          · rw [h]; exact ⟨"com/example/nearfar/nearfar/StoredType$8", (0 : Int32), Ex7, Fl7, (hw _ (List.mem_of_getElem? (i := 74) rfl)), (hw _ (List.mem_of_getElem? (i := 76) rfl)), by decide⟩
          · rw [h]; exact ⟨"com/example/nearfar/nearfar/StoredType$9", (2 : Int32), Ex8, Fl8, (hw _ (List.mem_of_getElem? (i := 64) rfl)), (hw _ (List.mem_of_getElem? (i := 66) rfl)), by decide⟩
          · rw [h]; exact ⟨"com/example/nearfar/nearfar/StoredType$10", (2 : Int32), Ex9, Fl9, (hw _ (List.mem_of_getElem? (i := 95) rfl)), (hw _ (List.mem_of_getElem? (i := 97) rfl)), by decide⟩
        show OEnds p.tables e below G (T1136.setTop (mkF m 38 #[.val (.int p1), .val (.int p2), .val (.int p3), .val (.int v1001), .val (.int rp), .val (.int (1 : Int32)), .unset, .unset, .unset, .unset, .unset, .unset] [(.ref oS)]))
        refine OEnds.st (fun _ k => XS.astore X1136.here hx rfl (hb hby at_38) rfl rfl (l' := #[.val (.int p1), .val (.int p2), .val (.int p3), .val (.int v1001), .val (.int rp), .val (.int (1 : Int32)), .val (.ref oS), .unset, .unset, .unset, .unset, .unset]) rfl k) ?_
        show OEnds p.tables e below G (T1136.setTop (mkF m 40 #[.val (.int p1), .val (.int p2), .val (.int p3), .val (.int v1001), .val (.int rp), .val (.int (1 : Int32)), .val (.ref oS), .unset, .unset, .unset, .unset, .unset] []))
        refine OEnds.st (fun _ k => XS.iload X1136.here hx rfl (hb hby at_40) rfl k) ?_
        show OEnds p.tables e below G (T1136.setTop (mkF m 42 #[.val (.int p1), .val (.int p2), .val (.int p3), .val (.int v1001), .val (.int rp), .val (.int (1 : Int32)), .val (.ref oS), .unset, .unset, .unset, .unset, .unset] [(.int (1 : Int32))]))
        refine OEnds.st (fun _ k => XS.ifNo X1136.here hx rfl (hb hby at_42) rfl ((if0 _ _).trans (feq (by decide : ¬ ((1 : Int32) = (0 : Int32)))).1) k) ?_
        show OEnds p.tables e below G (T1136.setTop (mkF m 45 #[.val (.int p1), .val (.int p2), .val (.int p3), .val (.int v1001), .val (.int rp), .val (.int (1 : Int32)), .val (.ref oS), .unset, .unset, .unset, .unset, .unset] []))
        obtain ⟨str1137, T1137, h1137, kS1137, X1137, e1137, E1137, hS, hkk, hZ, hown, st1137⟩ := ldcS X1136 hx hZ hown (hw _ (List.mem_of_getElem? (i := 8) rfl)) wS e1136 hS hkk (g := (mkF m 45 #[.val (.int p1), .val (.int p2), .val (.int p3), .val (.int v1001), .val (.int rp), .val (.int (1 : Int32)), .val (.ref oS), .unset, .unset, .unset, .unset, .unset] [])) rfl (hb hby at_45) (n := 1024) (by decide) (by decide) (by decide) (by decide)
        refine OEnds.st st1137 ?_
        have f1138 : Exa Z h1137 oS K := EK.ext E1137
        have f1139 : Fld Z h1137 oS "com/example/nearfar/nearfar/StoredType" "wireType" "I" (.int w) := FK.ext E1137
        have KK1137 : Keep h0 h1137 [] := KK0.ext E1137
        have Z1137 := Nat.le_trans Z0 E1137.1
        show OEnds p.tables e below G (T1137.setTop (mkF m 47 #[.val (.int p1), .val (.int p2), .val (.int p3), .val (.int v1001), .val (.int rp), .val (.int (1 : Int32)), .val (.ref oS), .unset, .unset, .unset, .unset, .unset] [(.ref str1137)]))
        refine OEnds.st (fun _ k => XS.goto X1137.here hx rfl (pc0 := 47) (pc' := 51) rfl (hb hby at_47) (by decide) (by decide) k) ?_
        show OEnds p.tables e below G (T1137.setTop (mkF m 51 #[.val (.int p1), .val (.int p2), .val (.int p3), .val (.int v1001), .val (.int rp), .val (.int (1 : Int32)), .val (.ref oS), .unset, .unset, .unset, .unset, .unset] [(.ref str1137)]))
        refine OEnds.st (fun _ k => XS.astore X1137.here hx rfl (hb hby at_51) rfl rfl (l' := #[.val (.int p1), .val (.int p2), .val (.int p3), .val (.int v1001), .val (.int rp), .val (.int (1 : Int32)), .val (.ref oS), .val (.ref str1137), .unset, .unset, .unset, .unset]) rfl k) ?_
        show OEnds p.tables e below G (T1137.setTop (mkF m 53 #[.val (.int p1), .val (.int p2), .val (.int p3), .val (.int v1001), .val (.int rp), .val (.int (1 : Int32)), .val (.ref oS), .val (.ref str1137), .unset, .unset, .unset, .unset] []))
        obtain ⟨T1140, h1140, X1140, e1140, E1140, A1140, D1140, -, st1140⟩ := newO X1137 hx hZ hown (hw _ (List.mem_of_getElem? (i := 16) rfl)) (hw _ (List.mem_of_getElem? (i := 17) rfl)) (hw _ (List.mem_of_getElem? (i := 18) rfl)) e1137 (g := (mkF m 53 #[.val (.int p1), .val (.int p2), .val (.int p3), .val (.int v1001), .val (.int rp), .val (.int (1 : Int32)), .val (.ref oS), .val (.ref str1137), .unset, .unset, .unset, .unset] [])) rfl (hb hby at_53) (by decide) (by decide)
        obtain ⟨b1140, g1140⟩ : ∃ z, z = h1137.size := ⟨_, rfl⟩
        rw [← g1140] at A1140 D1140 st1140
        refine OEnds.st st1140 ?_
        have ne1141 : oS ≠ b1140 := Nat.ne_of_lt (Nat.lt_of_lt_of_le (f1138).lt (Nat.le_of_eq g1140.symm))
        have ge_b1140 : n0 ≤ b1140 := Nat.le_trans Z1137 (Nat.le_of_eq g1140.symm)
        have sz_b1140 : h0.size ≤ b1140 := Nat.le_trans KK1137.1 (Nat.le_of_eq g1140.symm)
        have f1142 : Exa Z h1140 oS K := f1138.ext E1140
        have f1143 : Fld Z h1140 oS "com/example/nearfar/nearfar/StoredType" "wireType" "I" (.int w) := f1139.ext E1140
        have KK1140 : Keep h0 h1140 [] := KK1137.ext E1140
        have Z1140 := Nat.le_trans Z1137 E1140.1
        have hkk := Nat.le_trans hkk E1140.1
        have ex_b1140 := A1140
        have f1144 : Fld Z h1140 b1140 "com/example/nearfar/nearfar/DescriptorSet$Field" "name" "Ljava/lang/String;" .null := D1140 (Or.inr (hw _ (List.mem_of_getElem? (i := 27) rfl))) (ty := (.object "java/lang/String")) (by decide)
        have f1145 : Fld Z h1140 b1140 "com/example/nearfar/nearfar/DescriptorSet$Field" "number" "I" (.int (0 : Int32)) := D1140 (Or.inr (hw _ (List.mem_of_getElem? (i := 29) rfl))) (ty := .int) (by decide)
        have f1146 : Fld Z h1140 b1140 "com/example/nearfar/nearfar/DescriptorSet$Field" "repeated" "Z" (.int (0 : Int32)) := D1140 (Or.inr (hw _ (List.mem_of_getElem? (i := 31) rfl))) (ty := .boolean) (by decide)
        have f1147 : Fld Z h1140 b1140 "com/example/nearfar/nearfar/DescriptorSet$Field" "stored" "Lcom/example/nearfar/nearfar/StoredType;" .null := D1140 (Or.inr (hw _ (List.mem_of_getElem? (i := 33) rfl))) (ty := (.object "com/example/nearfar/nearfar/StoredType")) (by decide)
        have f1148 : Fld Z h1140 b1140 "com/example/nearfar/nearfar/DescriptorSet$Field" "messageType" "Ljava/lang/String;" .null := D1140 (Or.inr (hw _ (List.mem_of_getElem? (i := 35) rfl))) (ty := (.object "java/lang/String")) (by decide)
        have f1149 : Fld Z h1140 b1140 "com/example/nearfar/nearfar/DescriptorSet$Field" "enumType" "Ljava/lang/String;" .null := D1140 (Or.inr (hw _ (List.mem_of_getElem? (i := 37) rfl))) (ty := (.object "java/lang/String")) (by decide)
        show OEnds p.tables e below G (T1140.setTop (mkF m 56 #[.val (.int p1), .val (.int p2), .val (.int p3), .val (.int v1001), .val (.int rp), .val (.int (1 : Int32)), .val (.ref oS), .val (.ref str1137), .unset, .unset, .unset, .unset] [(.ref b1140)]))
        refine OEnds.st (fun _ k => XS.dup X1140.here hx rfl (hb hby at_56) rfl rfl k) ?_
        show OEnds p.tables e below G (T1140.setTop (mkF m 57 #[.val (.int p1), .val (.int p2), .val (.int p3), .val (.int v1001), .val (.int rp), .val (.int (1 : Int32)), .val (.ref oS), .val (.ref str1137), .unset, .unset, .unset, .unset] [(.ref b1140), (.ref b1140)]))
        obtain ⟨str1150, T1150, h1150, kS1150, X1150, e1150, E1150, hS, hkk, hZ, hown, st1150⟩ := ldcS X1140 hx hZ hown (hw _ (List.mem_of_getElem? (i := 19) rfl)) wS e1140 hS hkk (g := (mkF m 57 #[.val (.int p1), .val (.int p2), .val (.int p3), .val (.int v1001), .val (.int rp), .val (.int (1 : Int32)), .val (.ref oS), .val (.ref str1137), .unset, .unset, .unset, .unset] [(.ref b1140), (.ref b1140)])) rfl (hb hby at_57) (n := 1024) (by decide) (by decide) (by decide) (by decide)
        refine OEnds.st st1150 ?_
        have f1151 : Exa Z h1150 oS K := f1142.ext E1150
        have f1152 : Fld Z h1150 oS "com/example/nearfar/nearfar/StoredType" "wireType" "I" (.int w) := f1143.ext E1150
        have f1153 : Exa Z h1150 b1140 "com/example/nearfar/nearfar/DescriptorSet$Field" := ex_b1140.ext E1150
        have f1154 : Fld Z h1150 b1140 "com/example/nearfar/nearfar/DescriptorSet$Field" "name" "Ljava/lang/String;" .null := f1144.ext E1150
        have f1155 : Fld Z h1150 b1140 "com/example/nearfar/nearfar/DescriptorSet$Field" "number" "I" (.int (0 : Int32)) := f1145.ext E1150
        have f1156 : Fld Z h1150 b1140 "com/example/nearfar/nearfar/DescriptorSet$Field" "repeated" "Z" (.int (0 : Int32)) := f1146.ext E1150
        have f1157 : Fld Z h1150 b1140 "com/example/nearfar/nearfar/DescriptorSet$Field" "stored" "Lcom/example/nearfar/nearfar/StoredType;" .null := f1147.ext E1150
        have f1158 : Fld Z h1150 b1140 "com/example/nearfar/nearfar/DescriptorSet$Field" "messageType" "Ljava/lang/String;" .null := f1148.ext E1150
        have f1159 : Fld Z h1150 b1140 "com/example/nearfar/nearfar/DescriptorSet$Field" "enumType" "Ljava/lang/String;" .null := f1149.ext E1150
        have KK1150 : Keep h0 h1150 [] := KK1140.ext E1150
        have Z1150 := Nat.le_trans Z1140 E1150.1
        show OEnds p.tables e below G (T1150.setTop (mkF m 59 #[.val (.int p1), .val (.int p2), .val (.int p3), .val (.int v1001), .val (.int rp), .val (.int (1 : Int32)), .val (.ref oS), .val (.ref str1137), .unset, .unset, .unset, .unset] [(.ref str1150), (.ref b1140), (.ref b1140)]))
        refine OEnds.st (fun _ k => XS.iconst X1150.here hx rfl (hb hby at_59) k) ?_
        show OEnds p.tables e below G (T1150.setTop (mkF m 60 #[.val (.int p1), .val (.int p2), .val (.int p3), .val (.int v1001), .val (.int rp), .val (.int (1 : Int32)), .val (.ref oS), .val (.ref str1137), .unset, .unset, .unset, .unset] [(.int (2 : Int32)), (.ref str1150), (.ref b1140), (.ref b1140)]))
        refine OEnds.st (fun _ k => XS.iload X1150.here hx rfl (hb hby at_60) rfl k) ?_
        show OEnds p.tables e below G (T1150.setTop (mkF m 62 #[.val (.int p1), .val (.int p2), .val (.int p3), .val (.int v1001), .val (.int rp), .val (.int (1 : Int32)), .val (.ref oS), .val (.ref str1137), .unset, .unset, .unset, .unset] [(.int rp), (.int (2 : Int32)), (.ref str1150), (.ref b1140), (.ref b1140)]))
        refine OEnds.st (fun _ k => XS.aload X1150.here hx rfl (hb hby at_62) rfl rfl k) ?_
        show OEnds p.tables e below G (T1150.setTop (mkF m 64 #[.val (.int p1), .val (.int p2), .val (.int p3), .val (.int v1001), .val (.int rp), .val (.int (1 : Int32)), .val (.ref oS), .val (.ref str1137), .unset, .unset, .unset, .unset] [(.ref oS), (.int rp), (.int (2 : Int32)), (.ref str1150), (.ref b1140), (.ref b1140)]))
        refine OEnds.st (fun _ k => XS.aload X1150.here hx rfl (hb hby at_64) rfl rfl k) ?_
        show OEnds p.tables e below G (T1150.setTop (mkF m 66 #[.val (.int p1), .val (.int p2), .val (.int p3), .val (.int v1001), .val (.int rp), .val (.int (1 : Int32)), .val (.ref oS), .val (.ref str1137), .unset, .unset, .unset, .unset] [(.ref str1137), (.ref oS), (.int rp), (.int (2 : Int32)), (.ref str1150), (.ref b1140), (.ref b1140)]))
        refine OEnds.st (fun _ k => XS.aconstNull X1150.here hx rfl (hb hby at_66) k) ?_
        show OEnds p.tables e below G (T1150.setTop (mkF m 67 #[.val (.int p1), .val (.int p2), .val (.int p3), .val (.int v1001), .val (.int rp), .val (.int (1 : Int32)), .val (.ref oS), .val (.ref str1137), .unset, .unset, .unset, .unset] [.null, (.ref str1137), (.ref oS), (.int rp), (.int (2 : Int32)), (.ref str1150), (.ref b1140), (.ref b1140)]))
        obtain ⟨_, _, ⟨T1160, L1160, k1160c, n1160c⟩, -, X1160, ⟨Lc1160, hQ1160, l1160, y1160, z1160⟩, st1160⟩ := X1150.specialBack hx (y := (⟨"com/example/nearfar/nearfar/DescriptorSet$Field", "<init>", "(Ljava/lang/String;IZLcom/example/nearfar/nearfar/StoredType;Ljava/lang/String;Ljava/lang/String;)V"⟩ : MethodName)) rfl hown (mvT hZ (hw _ (List.mem_of_getElem? (i := 20) rfl))) (mvT hZ (hw _ (List.mem_of_getElem? (i := 21) rfl))) (mvT hZ (hw _ (List.mem_of_getElem? (i := 22) rfl))) (by decide) (backOf (W := 1) (rmfi11 l Z a0 hw [] b1140 str1150 rp oS str1137 h1150 n0 Z1150 f1153 f1154 f1155 f1156 f1157 f1158 f1159 ge_b1140 hrp) hZ (hw _ (List.mem_of_getElem? (i := 22) rfl)) (hw _ (List.mem_of_getElem? (i := 18) rfl)) (by decide) (by decide)) (g := (mkF m 67 #[.val (.int p1), .val (.int p2), .val (.int p3), .val (.int v1001), .val (.int rp), .val (.int (1 : Int32)), .val (.ref oS), .val (.ref str1137), .unset, .unset, .unset, .unset] [.null, (.ref str1137), (.ref oS), (.int rp), (.int (2 : Int32)), (.ref str1150), (.ref b1140), (.ref b1140)])) rfl (by rw [hml]; rfl) (Steps.refl _) (a := b1140) (argsL := [(.ref str1150), (.int (2 : Int32)), (.int rp), (.ref oS), (.ref str1137), .null]) (rest := [(.ref b1140)]) (lenOf pd_3 rfl) rfl (by show 2 * 0 + _ ≤ _; exact Nat.le_of_eq rfl) (hb hby at_67) (fun _ _ => ⟨rfl, e1150, (by decide : 0 + 0 + 2 + 1 + 2 + 0 ≤ _), (by decide : 0 + 0 + 1028 + 6 + 1028 + 0 ≤ _)⟩)
        dsimp only [Pt.U, Pt.locs, Pt.cells, Pt.slots] at X1160 l1160 y1160 z1160 st1160 hQ1160
        subst l1160 y1160 z1160
        obtain ⟨rfl, N1160q, p1161, p1162, p1163, p1164, p1165, p1166, p1167, p1168⟩ := hQ1160
        have N1160 := Fr.app N1136 N1160q
        refine OEnds.st (fun _ k => st1160.trans k) ?_
        have f1169 : Exa Z T1160.heap oS K := f1151.keep p1161
        have f1170 : Fld Z T1160.heap oS "com/example/nearfar/nearfar/StoredType" "wireType" "I" (.int w) := f1152.keep p1161 (by simp only [List.mem_cons, List.not_mem_nil, or_false, not_or]; exact ne1141)
        have f1171 : Exa Z T1160.heap b1140 "com/example/nearfar/nearfar/DescriptorSet$Field" := f1153.keep p1161
        have KK1160 : Keep h0 T1160.heap [] := KK1150.trans p1161 (fun x hx => by cases List.mem_singleton.mp hx; exact Or.inr sz_b1140)
        have Z1160 := Nat.le_trans Z1150 p1161.1
        have hkk := Nat.le_trans hkk p1161.1
        show OEnds p.tables e below G (T1160.setTop (mkF m 70 #[.val (.int p1), .val (.int p2), .val (.int p3), .val (.int v1001), .val (.int rp), .val (.int (1 : Int32)), .val (.ref oS), .val (.ref str1137), .unset, .unset, .unset, .unset] [(.ref b1140)]))
        refine OEnds.st (fun _ k => XS.astore X1160.here hx rfl (hb hby at_70) rfl rfl (l' := #[.val (.int p1), .val (.int p2), .val (.int p3), .val (.int v1001), .val (.int rp), .val (.int (1 : Int32)), .val (.ref oS), .val (.ref str1137), .val (.ref b1140), .unset, .unset, .unset]) rfl k) ?_
        show OEnds p.tables e below G (T1160.setTop (mkF m 72 #[.val (.int p1), .val (.int p2), .val (.int p3), .val (.int v1001), .val (.int rp), .val (.int (1 : Int32)), .val (.ref oS), .val (.ref str1137), .val (.ref b1140), .unset, .unset, .unset] []))
        refine OEnds.st (fun _ k => XS.iloadN X1160.here hx rfl (hb hby at_72) rfl k) ?_
        show OEnds p.tables e below G (T1160.setTop (mkF m 73 #[.val (.int p1), .val (.int p2), .val (.int p3), .val (.int v1001), .val (.int rp), .val (.int (1 : Int32)), .val (.ref oS), .val (.ref str1137), .val (.ref b1140), .unset, .unset, .unset] [(.int v1001)]))
        refine OEnds.st (fun _ k => XS.bipush X1160.here hx rfl (hb hby at_73) k) ?_
        show OEnds p.tables e below G (T1160.setTop (mkF m 75 #[.val (.int p1), .val (.int p2), .val (.int p3), .val (.int v1001), .val (.int rp), .val (.int (1 : Int32)), .val (.ref oS), .val (.ref str1137), .val (.ref b1140), .unset, .unset, .unset] [(.int (10 : Int32)), (.int v1001)]))
        refine OEnds.st (fun _ k => XS.icmpYes X1160.here hx rfl (pc0 := 75) (pc' := 98) rfl (hb hby at_75) rfl (feq hn10).2 (by decide) (by decide) k) ?_
        show OEnds p.tables e below G (T1160.setTop (mkF m 98 #[.val (.int p1), .val (.int p2), .val (.int p3), .val (.int v1001), .val (.int rp), .val (.int (1 : Int32)), .val (.ref oS), .val (.ref str1137), .val (.ref b1140), .unset, .unset, .unset] []))
        refine OEnds.st (fun _ k => XS.iloadN X1160.here hx rfl (hb hby at_98) rfl k) ?_
        show OEnds p.tables e below G (T1160.setTop (mkF m 99 #[.val (.int p1), .val (.int p2), .val (.int p3), .val (.int v1001), .val (.int rp), .val (.int (1 : Int32)), .val (.ref oS), .val (.ref str1137), .val (.ref b1140), .unset, .unset, .unset] [(.int v1001)]))
        obtain ⟨_, _, ⟨T1178, L1178, k1178c, n1178c⟩, -, X1178, ⟨Lc1178, hQ1178, l1178, y1178, z1178⟩, st1178⟩ := Jvm.LawKit.callS X1160 hx (y := (⟨"com/example/nearfar/nearfar/FieldAllowsPinLaw", "wireOf", "(I)I"⟩ : MethodName)) hown (mvT hZ (hw _ (List.mem_of_getElem? (i := 38) rfl))) (mvT hZ (hw _ (List.mem_of_getElem? (i := 39) rfl))) (mvT hZ (hw _ (List.mem_of_getElem? (i := 3) rfl))) (mvT hZ (hw _ (List.mem_of_getElem? (i := 40) rfl))) (by decide) (backOf (W := 0) (rm4 l Z a0 hw [] v1001 T1160.heap n0 Z1160 ) hZ (hw _ (List.mem_of_getElem? (i := 40) rfl)) (hw _ (List.mem_of_getElem? (i := 3) rfl)) (by decide) (by decide)) (g := (mkF m 99 #[.val (.int p1), .val (.int p2), .val (.int p3), .val (.int v1001), .val (.int rp), .val (.int (1 : Int32)), .val (.ref oS), .val (.ref str1137), .val (.ref b1140), .unset, .unset, .unset] [(.int v1001)])) rfl (by rw [hml]; rfl) (argsL := [(.int v1001)]) (rest := []) (lenOf pd_5 rfl) rfl (by show 2 * 0 + _ ≤ _; exact Nat.le_of_eq rfl) (hb hby at_99) (fun _ _ => ⟨rfl, rfl, (by decide : 0 + 0 + 2 + 1 + 2 + 0 + 0 ≤ _), (by decide : 0 + 0 + 1028 + 6 + 1028 + 0 + 0 ≤ _)⟩)
        dsimp only [Pt.U, Pt.locs, Pt.cells, Pt.slots] at X1178 l1178 y1178 z1178 st1178 hQ1178
        subst l1178 y1178 z1178
        obtain ⟨rfl, N1178q, e1178⟩ := hQ1178
        have N1178 := Fr.app N1160 N1178q
        refine OEnds.st st1178 ?_
        show OEnds p.tables e below G (T1178.setTop (mkF m 102 #[.val (.int p1), .val (.int p2), .val (.int p3), .val (.int v1001), .val (.int rp), .val (.int (1 : Int32)), .val (.ref oS), .val (.ref str1137), .val (.ref b1140), .unset, .unset, .unset] [(.int (own_wire v1001))]))
        refine OEnds.st (fun _ k => XS.istore X1178.here hx rfl (hb hby at_102) rfl (l' := #[.val (.int p1), .val (.int p2), .val (.int p3), .val (.int v1001), .val (.int rp), .val (.int (1 : Int32)), .val (.ref oS), .val (.ref str1137), .val (.ref b1140), .unset, .val (.int (own_wire v1001)), .unset]) rfl k) ?_
        show OEnds p.tables e below G (T1178.setTop (mkF m 104 #[.val (.int p1), .val (.int p2), .val (.int p3), .val (.int v1001), .val (.int rp), .val (.int (1 : Int32)), .val (.ref oS), .val (.ref str1137), .val (.ref b1140), .unset, .val (.int (own_wire v1001)), .unset] []))
        generalize hv_v1179 : (own_wire v1001) = v1179
        show OEnds p.tables e below G (T1178.setTop (mkF m 104 #[.val (.int p1), .val (.int p2), .val (.int p3), .val (.int v1001), .val (.int rp), .val (.int (1 : Int32)), .val (.ref oS), .val (.ref str1137), .val (.ref b1140), .unset, .val (.int v1179), .unset] []))
        refine OEnds.st (fun _ k => XS.iload X1178.here hx rfl (hb hby at_104) rfl k) ?_
        show OEnds p.tables e below G (T1178.setTop (mkF m 106 #[.val (.int p1), .val (.int p2), .val (.int p3), .val (.int v1001), .val (.int rp), .val (.int (1 : Int32)), .val (.ref oS), .val (.ref str1137), .val (.ref b1140), .unset, .val (.int v1179), .unset] [(.int v1179)]))
        refine OEnds.st (fun _ k => XS.iconst X1178.here hx rfl (hb hby at_106) k) ?_
        show OEnds p.tables e below G (T1178.setTop (mkF m 107 #[.val (.int p1), .val (.int p2), .val (.int p3), .val (.int v1001), .val (.int rp), .val (.int (1 : Int32)), .val (.ref oS), .val (.ref str1137), .val (.ref b1140), .unset, .val (.int v1179), .unset] [(.int (2 : Int32)), (.int v1179)]))
        by_cases hc107_1180 : v1179 = (2 : Int32)
        · -- pc 107: yes
          refine OEnds.st (fun _ k => XS.icmpYes X1178.here hx rfl (pc0 := 107) (pc' := 114) rfl (hb hby at_107) rfl (teq hc107_1180).1 (by decide) (by decide) k) ?_
          show OEnds p.tables e below G (T1178.setTop (mkF m 114 #[.val (.int p1), .val (.int p2), .val (.int p3), .val (.int v1001), .val (.int rp), .val (.int (1 : Int32)), .val (.ref oS), .val (.ref str1137), .val (.ref b1140), .unset, .val (.int v1179), .unset] []))
          refine OEnds.st (fun _ k => XS.iconst X1178.here hx rfl (hb hby at_114) k) ?_
          show OEnds p.tables e below G (T1178.setTop (mkF m 115 #[.val (.int p1), .val (.int p2), .val (.int p3), .val (.int v1001), .val (.int rp), .val (.int (1 : Int32)), .val (.ref oS), .val (.ref str1137), .val (.ref b1140), .unset, .val (.int v1179), .unset] [(.int (0 : Int32))]))
          refine OEnds.st (fun _ k => XS.istore X1178.here hx rfl (hb hby at_115) rfl (l' := #[.val (.int p1), .val (.int p2), .val (.int p3), .val (.int v1001), .val (.int rp), .val (.int (1 : Int32)), .val (.ref oS), .val (.ref str1137), .val (.ref b1140), .unset, .val (.int v1179), .val (.int (0 : Int32))]) rfl k) ?_
          show OEnds p.tables e below G (T1178.setTop (mkF m 117 #[.val (.int p1), .val (.int p2), .val (.int p3), .val (.int v1001), .val (.int rp), .val (.int (1 : Int32)), .val (.ref oS), .val (.ref str1137), .val (.ref b1140), .unset, .val (.int v1179), .val (.int (0 : Int32))] []))
          refine OEnds.st (fun _ k => XS.iloadN X1178.here hx rfl (hb hby at_117) rfl k) ?_
          show OEnds p.tables e below G (T1178.setTop (mkF m 118 #[.val (.int p1), .val (.int p2), .val (.int p3), .val (.int v1001), .val (.int rp), .val (.int (1 : Int32)), .val (.ref oS), .val (.ref str1137), .val (.ref b1140), .unset, .val (.int v1179), .val (.int (0 : Int32))] [(.int p1)]))
          refine OEnds.st (fun _ k => XS.iload X1178.here hx rfl (hb hby at_118) rfl k) ?_
          show OEnds p.tables e below G (T1178.setTop (mkF m 120 #[.val (.int p1), .val (.int p2), .val (.int p3), .val (.int v1001), .val (.int rp), .val (.int (1 : Int32)), .val (.ref oS), .val (.ref str1137), .val (.ref b1140), .unset, .val (.int v1179), .val (.int (0 : Int32))] [(.int v1179), (.int p1)]))
          by_cases hc120_1181 : p1 = v1179
          · -- pc 120: yes
            refine OEnds.st (fun _ k => XS.icmpYes X1178.here hx rfl (pc0 := 120) (pc' := 138) rfl (hb hby at_120) rfl (teq hc120_1181).1 (by decide) (by decide) k) ?_
            show OEnds p.tables e below G (T1178.setTop (mkF m 138 #[.val (.int p1), .val (.int p2), .val (.int p3), .val (.int v1001), .val (.int rp), .val (.int (1 : Int32)), .val (.ref oS), .val (.ref str1137), .val (.ref b1140), .unset, .val (.int v1179), .val (.int (0 : Int32))] []))
            refine OEnds.st (fun _ k => XS.iconst X1178.here hx rfl (hb hby at_138) k) ?_
            show OEnds p.tables e below G (T1178.setTop (mkF m 139 #[.val (.int p1), .val (.int p2), .val (.int p3), .val (.int v1001), .val (.int rp), .val (.int (1 : Int32)), .val (.ref oS), .val (.ref str1137), .val (.ref b1140), .unset, .val (.int v1179), .val (.int (0 : Int32))] [(.int (1 : Int32))]))
            refine OEnds.st (fun _ k => XS.goto X1178.here hx rfl (pc0 := 139) (pc' := 143) rfl (hb hby at_139) (by decide) (by decide) k) ?_
            show OEnds p.tables e below G (T1178.setTop (mkF m 143 #[.val (.int p1), .val (.int p2), .val (.int p3), .val (.int v1001), .val (.int rp), .val (.int (1 : Int32)), .val (.ref oS), .val (.ref str1137), .val (.ref b1140), .unset, .val (.int v1179), .val (.int (0 : Int32))] [(.int (1 : Int32))]))
            refine OEnds.st (fun _ k => XS.istore X1178.here hx rfl (hb hby at_143) rfl (l' := #[.val (.int p1), .val (.int p2), .val (.int p3), .val (.int v1001), .val (.int rp), .val (.int (1 : Int32)), .val (.ref oS), .val (.ref str1137), .val (.ref b1140), .val (.int (1 : Int32)), .val (.int v1179), .val (.int (0 : Int32))]) rfl k) ?_
            show OEnds p.tables e below G (T1178.setTop (mkF m 145 #[.val (.int p1), .val (.int p2), .val (.int p3), .val (.int v1001), .val (.int rp), .val (.int (1 : Int32)), .val (.ref oS), .val (.ref str1137), .val (.ref b1140), .val (.int (1 : Int32)), .val (.int v1179), .val (.int (0 : Int32))] []))
            refine OEnds.st (fun _ k => XS.aload X1178.here hx rfl (hb hby at_145) rfl rfl k) ?_
            show OEnds p.tables e below G (T1178.setTop (mkF m 147 #[.val (.int p1), .val (.int p2), .val (.int p3), .val (.int v1001), .val (.int rp), .val (.int (1 : Int32)), .val (.ref oS), .val (.ref str1137), .val (.ref b1140), .val (.int (1 : Int32)), .val (.int v1179), .val (.int (0 : Int32))] [(.ref b1140)]))
            refine OEnds.st (fun _ k => XS.iloadN X1178.here hx rfl (hb hby at_147) rfl k) ?_
            show OEnds p.tables e below G (T1178.setTop (mkF m 148 #[.val (.int p1), .val (.int p2), .val (.int p3), .val (.int v1001), .val (.int rp), .val (.int (1 : Int32)), .val (.ref oS), .val (.ref str1137), .val (.ref b1140), .val (.int (1 : Int32)), .val (.int v1179), .val (.int (0 : Int32))] [(.int p1), (.ref b1140)]))
            obtain ⟨cq1182, kq1182, q1182a, q1182b, q1182c⟩ := isOf hZ e1178 p1162
            obtain ⟨_, _, ⟨T1182, L1182, k1182c, n1182c⟩, -, X1182, ⟨Lc1182, hQ1182, l1182, y1182, z1182⟩, st1182⟩ := X1178.virtualBack hx (y := (⟨"com/example/nearfar/nearfar/DescriptorSet$Field", "allows", "(I)Z"⟩ : MethodName)) (z := (⟨"com/example/nearfar/nearfar/DescriptorSet$Field", "allows", "(I)Z"⟩ : MethodName)) hown (mvT hZ (hw _ (List.mem_of_getElem? (i := 41) rfl))) (mvT hZ (hw _ (List.mem_of_getElem? (i := 42) rfl))) (notFace_of_selects (args := #[]) (mvT hZ (hw _ (List.mem_of_getElem? (i := 44) rfl)))) (mvT hZ (hw _ (List.mem_of_getElem? (i := 44) rfl))) (mvT hZ (hw _ (List.mem_of_getElem? (i := 43) rfl))) (by decide) (backOf (W := 0) (rmalO l Z a0 hw [] b1140 p1 oS K w rp T1160.heap n0 Z1160 p1166 p1165 f1169 f1170 hsW hsP) hZ (hw _ (List.mem_of_getElem? (i := 45) rfl)) (hw _ (List.mem_of_getElem? (i := 18) rfl)) (by decide) (by decide)) q1182a q1182c (g := (mkF m 148 #[.val (.int p1), .val (.int p2), .val (.int p3), .val (.int v1001), .val (.int rp), .val (.int (1 : Int32)), .val (.ref oS), .val (.ref str1137), .val (.ref b1140), .val (.int (1 : Int32)), .val (.int v1179), .val (.int (0 : Int32))] [(.int p1), (.ref b1140)])) rfl (by rw [hml]; rfl) (Steps.refl _) (argsL := [(.int p1)]) (rest := []) (lenOf pd_4 rfl) rfl (by show 2 * 0 + _ ≤ _; exact Nat.le_of_eq rfl) (hb hby at_148) (fun _ _ => ⟨rfl, e1178, (by decide : 0 + 0 + 2 + 1 + 2 + 0 + 0 + 0 ≤ _), (by decide : 0 + 0 + 1028 + 6 + 1028 + 0 + 0 + 0 ≤ _)⟩)
            dsimp only [Pt.U, Pt.locs, Pt.cells, Pt.slots] at X1182 l1182 y1182 z1182 st1182 hQ1182
            subst l1182 y1182 z1182
            obtain ⟨rfl, N1182q, e1182⟩ := hQ1182
            have N1182 := Fr.app N1178 N1182q
            refine OEnds.st (fun _ k => st1182.trans k) ?_
            show OEnds p.tables e below G (T1182.setTop (mkF m 151 #[.val (.int p1), .val (.int p2), .val (.int p3), .val (.int v1001), .val (.int rp), .val (.int (1 : Int32)), .val (.ref oS), .val (.ref str1137), .val (.ref b1140), .val (.int (1 : Int32)), .val (.int v1179), .val (.int (0 : Int32))] [(.int (own_al p1 w rp))]))
            refine OEnds.st (fun _ k => XS.iload X1182.here hx rfl (hb hby at_151) rfl k) ?_
            show OEnds p.tables e below G (T1182.setTop (mkF m 153 #[.val (.int p1), .val (.int p2), .val (.int p3), .val (.int v1001), .val (.int rp), .val (.int (1 : Int32)), .val (.ref oS), .val (.ref str1137), .val (.ref b1140), .val (.int (1 : Int32)), .val (.int v1179), .val (.int (0 : Int32))] [(.int (1 : Int32)), (.int (own_al p1 w rp))]))
            have hc153_1183 : (own_al p1 w rp) = (1 : Int32) := by rw [hwk, hv_v1179]; simp [own_al, own_packed, hc24_1003, hc107_1180, hc120_1181]; try exact fun q => hc120_1181 (q.trans hc107_1180.symm)
            refine OEnds.st (fun _ k => XS.icmpNo X1182.here hx rfl (hb hby at_153) rfl (teq hc153_1183).2 k) ?_
            show OEnds p.tables e below G (T1182.setTop (mkF m 156 #[.val (.int p1), .val (.int p2), .val (.int p3), .val (.int v1001), .val (.int rp), .val (.int (1 : Int32)), .val (.ref oS), .val (.ref str1137), .val (.ref b1140), .val (.int (1 : Int32)), .val (.int v1179), .val (.int (0 : Int32))] []))
            refine OEnds.st (fun _ k => XS.iconst X1182.here hx rfl (hb hby at_156) k) ?_
            show OEnds p.tables e below G (T1182.setTop (mkF m 157 #[.val (.int p1), .val (.int p2), .val (.int p3), .val (.int v1001), .val (.int rp), .val (.int (1 : Int32)), .val (.ref oS), .val (.ref str1137), .val (.ref b1140), .val (.int (1 : Int32)), .val (.int v1179), .val (.int (0 : Int32))] [(.int (1 : Int32))]))
            refine OEnds.st (fun _ k => XS.goto X1182.here hx rfl (pc0 := 157) (pc' := 161) rfl (hb hby at_157) (by decide) (by decide) k) ?_
            show OEnds p.tables e below G (T1182.setTop (mkF m 161 #[.val (.int p1), .val (.int p2), .val (.int p3), .val (.int v1001), .val (.int rp), .val (.int (1 : Int32)), .val (.ref oS), .val (.ref str1137), .val (.ref b1140), .val (.int (1 : Int32)), .val (.int v1179), .val (.int (0 : Int32))] [(.int (1 : Int32))]))
            rw [← hG]
            refine OEnds.retZW X1182 hS (by rw [e1182]; exact hkk) hx hlk Bd.returns rfl (hb hby at_161) (by decide) (by decide) ?_
            rw [e1182]
            exact ⟨rfl, N1182⟩
          · -- pc 120: no
            refine OEnds.st (fun _ k => XS.icmpNo X1178.here hx rfl (hb hby at_120) rfl (feq hc120_1181).1 k) ?_
            show OEnds p.tables e below G (T1178.setTop (mkF m 123 #[.val (.int p1), .val (.int p2), .val (.int p3), .val (.int v1001), .val (.int rp), .val (.int (1 : Int32)), .val (.ref oS), .val (.ref str1137), .val (.ref b1140), .unset, .val (.int v1179), .val (.int (0 : Int32))] []))
            refine OEnds.st (fun _ k => XS.iload X1178.here hx rfl (hb hby at_123) rfl k) ?_
            show OEnds p.tables e below G (T1178.setTop (mkF m 125 #[.val (.int p1), .val (.int p2), .val (.int p3), .val (.int v1001), .val (.int rp), .val (.int (1 : Int32)), .val (.ref oS), .val (.ref str1137), .val (.ref b1140), .unset, .val (.int v1179), .val (.int (0 : Int32))] [(.int rp)]))
            by_cases hc125_1184 : rp = (0 : Int32)
            · -- pc 125: yes
              refine OEnds.st (fun _ k => XS.ifYes X1178.here hx rfl (pc0 := 125) (pc' := 142) rfl (hb hby at_125) rfl ((if0 _ _).trans (teq hc125_1184).1) (by decide) (by decide) k) ?_
              show OEnds p.tables e below G (T1178.setTop (mkF m 142 #[.val (.int p1), .val (.int p2), .val (.int p3), .val (.int v1001), .val (.int rp), .val (.int (1 : Int32)), .val (.ref oS), .val (.ref str1137), .val (.ref b1140), .unset, .val (.int v1179), .val (.int (0 : Int32))] []))
              refine OEnds.st (fun _ k => XS.iconst X1178.here hx rfl (hb hby at_142) k) ?_
              show OEnds p.tables e below G (T1178.setTop (mkF m 143 #[.val (.int p1), .val (.int p2), .val (.int p3), .val (.int v1001), .val (.int rp), .val (.int (1 : Int32)), .val (.ref oS), .val (.ref str1137), .val (.ref b1140), .unset, .val (.int v1179), .val (.int (0 : Int32))] [(.int (0 : Int32))]))
              refine OEnds.st (fun _ k => XS.istore X1178.here hx rfl (hb hby at_143) rfl (l' := #[.val (.int p1), .val (.int p2), .val (.int p3), .val (.int v1001), .val (.int rp), .val (.int (1 : Int32)), .val (.ref oS), .val (.ref str1137), .val (.ref b1140), .val (.int (0 : Int32)), .val (.int v1179), .val (.int (0 : Int32))]) rfl k) ?_
              show OEnds p.tables e below G (T1178.setTop (mkF m 145 #[.val (.int p1), .val (.int p2), .val (.int p3), .val (.int v1001), .val (.int rp), .val (.int (1 : Int32)), .val (.ref oS), .val (.ref str1137), .val (.ref b1140), .val (.int (0 : Int32)), .val (.int v1179), .val (.int (0 : Int32))] []))
              refine OEnds.st (fun _ k => XS.aload X1178.here hx rfl (hb hby at_145) rfl rfl k) ?_
              show OEnds p.tables e below G (T1178.setTop (mkF m 147 #[.val (.int p1), .val (.int p2), .val (.int p3), .val (.int v1001), .val (.int rp), .val (.int (1 : Int32)), .val (.ref oS), .val (.ref str1137), .val (.ref b1140), .val (.int (0 : Int32)), .val (.int v1179), .val (.int (0 : Int32))] [(.ref b1140)]))
              refine OEnds.st (fun _ k => XS.iloadN X1178.here hx rfl (hb hby at_147) rfl k) ?_
              show OEnds p.tables e below G (T1178.setTop (mkF m 148 #[.val (.int p1), .val (.int p2), .val (.int p3), .val (.int v1001), .val (.int rp), .val (.int (1 : Int32)), .val (.ref oS), .val (.ref str1137), .val (.ref b1140), .val (.int (0 : Int32)), .val (.int v1179), .val (.int (0 : Int32))] [(.int p1), (.ref b1140)]))
              obtain ⟨cq1185, kq1185, q1185a, q1185b, q1185c⟩ := isOf hZ e1178 p1162
              obtain ⟨_, _, ⟨T1185, L1185, k1185c, n1185c⟩, -, X1185, ⟨Lc1185, hQ1185, l1185, y1185, z1185⟩, st1185⟩ := X1178.virtualBack hx (y := (⟨"com/example/nearfar/nearfar/DescriptorSet$Field", "allows", "(I)Z"⟩ : MethodName)) (z := (⟨"com/example/nearfar/nearfar/DescriptorSet$Field", "allows", "(I)Z"⟩ : MethodName)) hown (mvT hZ (hw _ (List.mem_of_getElem? (i := 41) rfl))) (mvT hZ (hw _ (List.mem_of_getElem? (i := 42) rfl))) (notFace_of_selects (args := #[]) (mvT hZ (hw _ (List.mem_of_getElem? (i := 44) rfl)))) (mvT hZ (hw _ (List.mem_of_getElem? (i := 44) rfl))) (mvT hZ (hw _ (List.mem_of_getElem? (i := 43) rfl))) (by decide) (backOf (W := 0) (rmalO l Z a0 hw [] b1140 p1 oS K w rp T1160.heap n0 Z1160 p1166 p1165 f1169 f1170 hsW hsP) hZ (hw _ (List.mem_of_getElem? (i := 45) rfl)) (hw _ (List.mem_of_getElem? (i := 18) rfl)) (by decide) (by decide)) q1185a q1185c (g := (mkF m 148 #[.val (.int p1), .val (.int p2), .val (.int p3), .val (.int v1001), .val (.int rp), .val (.int (1 : Int32)), .val (.ref oS), .val (.ref str1137), .val (.ref b1140), .val (.int (0 : Int32)), .val (.int v1179), .val (.int (0 : Int32))] [(.int p1), (.ref b1140)])) rfl (by rw [hml]; rfl) (Steps.refl _) (argsL := [(.int p1)]) (rest := []) (lenOf pd_4 rfl) rfl (by show 2 * 0 + _ ≤ _; exact Nat.le_of_eq rfl) (hb hby at_148) (fun _ _ => ⟨rfl, e1178, (by decide : 0 + 0 + 2 + 1 + 2 + 0 + 0 + 0 ≤ _), (by decide : 0 + 0 + 1028 + 6 + 1028 + 0 + 0 + 0 ≤ _)⟩)
              dsimp only [Pt.U, Pt.locs, Pt.cells, Pt.slots] at X1185 l1185 y1185 z1185 st1185 hQ1185
              subst l1185 y1185 z1185
              obtain ⟨rfl, N1185q, e1185⟩ := hQ1185
              have N1185 := Fr.app N1178 N1185q
              refine OEnds.st (fun _ k => st1185.trans k) ?_
              show OEnds p.tables e below G (T1185.setTop (mkF m 151 #[.val (.int p1), .val (.int p2), .val (.int p3), .val (.int v1001), .val (.int rp), .val (.int (1 : Int32)), .val (.ref oS), .val (.ref str1137), .val (.ref b1140), .val (.int (0 : Int32)), .val (.int v1179), .val (.int (0 : Int32))] [(.int (own_al p1 w rp))]))
              refine OEnds.st (fun _ k => XS.iload X1185.here hx rfl (hb hby at_151) rfl k) ?_
              show OEnds p.tables e below G (T1185.setTop (mkF m 153 #[.val (.int p1), .val (.int p2), .val (.int p3), .val (.int v1001), .val (.int rp), .val (.int (1 : Int32)), .val (.ref oS), .val (.ref str1137), .val (.ref b1140), .val (.int (0 : Int32)), .val (.int v1179), .val (.int (0 : Int32))] [(.int (0 : Int32)), (.int (own_al p1 w rp))]))
              have hc153_1186 : (own_al p1 w rp) = (0 : Int32) := by rw [hwk, hv_v1179]; simp [own_al, own_packed, hc24_1003, hc107_1180, hc120_1181, hc125_1184]; try exact fun q => hc120_1181 (q.trans hc107_1180.symm)
              refine OEnds.st (fun _ k => XS.icmpNo X1185.here hx rfl (hb hby at_153) rfl (teq hc153_1186).2 k) ?_
              show OEnds p.tables e below G (T1185.setTop (mkF m 156 #[.val (.int p1), .val (.int p2), .val (.int p3), .val (.int v1001), .val (.int rp), .val (.int (1 : Int32)), .val (.ref oS), .val (.ref str1137), .val (.ref b1140), .val (.int (0 : Int32)), .val (.int v1179), .val (.int (0 : Int32))] []))
              refine OEnds.st (fun _ k => XS.iconst X1185.here hx rfl (hb hby at_156) k) ?_
              show OEnds p.tables e below G (T1185.setTop (mkF m 157 #[.val (.int p1), .val (.int p2), .val (.int p3), .val (.int v1001), .val (.int rp), .val (.int (1 : Int32)), .val (.ref oS), .val (.ref str1137), .val (.ref b1140), .val (.int (0 : Int32)), .val (.int v1179), .val (.int (0 : Int32))] [(.int (1 : Int32))]))
              refine OEnds.st (fun _ k => XS.goto X1185.here hx rfl (pc0 := 157) (pc' := 161) rfl (hb hby at_157) (by decide) (by decide) k) ?_
              show OEnds p.tables e below G (T1185.setTop (mkF m 161 #[.val (.int p1), .val (.int p2), .val (.int p3), .val (.int v1001), .val (.int rp), .val (.int (1 : Int32)), .val (.ref oS), .val (.ref str1137), .val (.ref b1140), .val (.int (0 : Int32)), .val (.int v1179), .val (.int (0 : Int32))] [(.int (1 : Int32))]))
              rw [← hG]
              refine OEnds.retZW X1185 hS (by rw [e1185]; exact hkk) hx hlk Bd.returns rfl (hb hby at_161) (by decide) (by decide) ?_
              rw [e1185]
              exact ⟨rfl, N1185⟩
            · -- pc 125: no
              refine OEnds.st (fun _ k => XS.ifNo X1178.here hx rfl (hb hby at_125) rfl ((if0 _ _).trans (feq hc125_1184).1) k) ?_
              show OEnds p.tables e below G (T1178.setTop (mkF m 128 #[.val (.int p1), .val (.int p2), .val (.int p3), .val (.int v1001), .val (.int rp), .val (.int (1 : Int32)), .val (.ref oS), .val (.ref str1137), .val (.ref b1140), .unset, .val (.int v1179), .val (.int (0 : Int32))] []))
              refine OEnds.st (fun _ k => XS.iload X1178.here hx rfl (hb hby at_128) rfl k) ?_
              show OEnds p.tables e below G (T1178.setTop (mkF m 130 #[.val (.int p1), .val (.int p2), .val (.int p3), .val (.int v1001), .val (.int rp), .val (.int (1 : Int32)), .val (.ref oS), .val (.ref str1137), .val (.ref b1140), .unset, .val (.int v1179), .val (.int (0 : Int32))] [(.int (0 : Int32))]))
              refine OEnds.st (fun _ k => XS.ifYes X1178.here hx rfl (pc0 := 130) (pc' := 142) rfl (hb hby at_130) rfl ((if0 _ _).trans (teq (by decide : (0 : Int32) = (0 : Int32))).1) (by decide) (by decide) k) ?_
              show OEnds p.tables e below G (T1178.setTop (mkF m 142 #[.val (.int p1), .val (.int p2), .val (.int p3), .val (.int v1001), .val (.int rp), .val (.int (1 : Int32)), .val (.ref oS), .val (.ref str1137), .val (.ref b1140), .unset, .val (.int v1179), .val (.int (0 : Int32))] []))
              refine OEnds.st (fun _ k => XS.iconst X1178.here hx rfl (hb hby at_142) k) ?_
              show OEnds p.tables e below G (T1178.setTop (mkF m 143 #[.val (.int p1), .val (.int p2), .val (.int p3), .val (.int v1001), .val (.int rp), .val (.int (1 : Int32)), .val (.ref oS), .val (.ref str1137), .val (.ref b1140), .unset, .val (.int v1179), .val (.int (0 : Int32))] [(.int (0 : Int32))]))
              refine OEnds.st (fun _ k => XS.istore X1178.here hx rfl (hb hby at_143) rfl (l' := #[.val (.int p1), .val (.int p2), .val (.int p3), .val (.int v1001), .val (.int rp), .val (.int (1 : Int32)), .val (.ref oS), .val (.ref str1137), .val (.ref b1140), .val (.int (0 : Int32)), .val (.int v1179), .val (.int (0 : Int32))]) rfl k) ?_
              show OEnds p.tables e below G (T1178.setTop (mkF m 145 #[.val (.int p1), .val (.int p2), .val (.int p3), .val (.int v1001), .val (.int rp), .val (.int (1 : Int32)), .val (.ref oS), .val (.ref str1137), .val (.ref b1140), .val (.int (0 : Int32)), .val (.int v1179), .val (.int (0 : Int32))] []))
              refine OEnds.st (fun _ k => XS.aload X1178.here hx rfl (hb hby at_145) rfl rfl k) ?_
              show OEnds p.tables e below G (T1178.setTop (mkF m 147 #[.val (.int p1), .val (.int p2), .val (.int p3), .val (.int v1001), .val (.int rp), .val (.int (1 : Int32)), .val (.ref oS), .val (.ref str1137), .val (.ref b1140), .val (.int (0 : Int32)), .val (.int v1179), .val (.int (0 : Int32))] [(.ref b1140)]))
              refine OEnds.st (fun _ k => XS.iloadN X1178.here hx rfl (hb hby at_147) rfl k) ?_
              show OEnds p.tables e below G (T1178.setTop (mkF m 148 #[.val (.int p1), .val (.int p2), .val (.int p3), .val (.int v1001), .val (.int rp), .val (.int (1 : Int32)), .val (.ref oS), .val (.ref str1137), .val (.ref b1140), .val (.int (0 : Int32)), .val (.int v1179), .val (.int (0 : Int32))] [(.int p1), (.ref b1140)]))
              obtain ⟨cq1187, kq1187, q1187a, q1187b, q1187c⟩ := isOf hZ e1178 p1162
              obtain ⟨_, _, ⟨T1187, L1187, k1187c, n1187c⟩, -, X1187, ⟨Lc1187, hQ1187, l1187, y1187, z1187⟩, st1187⟩ := X1178.virtualBack hx (y := (⟨"com/example/nearfar/nearfar/DescriptorSet$Field", "allows", "(I)Z"⟩ : MethodName)) (z := (⟨"com/example/nearfar/nearfar/DescriptorSet$Field", "allows", "(I)Z"⟩ : MethodName)) hown (mvT hZ (hw _ (List.mem_of_getElem? (i := 41) rfl))) (mvT hZ (hw _ (List.mem_of_getElem? (i := 42) rfl))) (notFace_of_selects (args := #[]) (mvT hZ (hw _ (List.mem_of_getElem? (i := 44) rfl)))) (mvT hZ (hw _ (List.mem_of_getElem? (i := 44) rfl))) (mvT hZ (hw _ (List.mem_of_getElem? (i := 43) rfl))) (by decide) (backOf (W := 0) (rmalO l Z a0 hw [] b1140 p1 oS K w rp T1160.heap n0 Z1160 p1166 p1165 f1169 f1170 hsW hsP) hZ (hw _ (List.mem_of_getElem? (i := 45) rfl)) (hw _ (List.mem_of_getElem? (i := 18) rfl)) (by decide) (by decide)) q1187a q1187c (g := (mkF m 148 #[.val (.int p1), .val (.int p2), .val (.int p3), .val (.int v1001), .val (.int rp), .val (.int (1 : Int32)), .val (.ref oS), .val (.ref str1137), .val (.ref b1140), .val (.int (0 : Int32)), .val (.int v1179), .val (.int (0 : Int32))] [(.int p1), (.ref b1140)])) rfl (by rw [hml]; rfl) (Steps.refl _) (argsL := [(.int p1)]) (rest := []) (lenOf pd_4 rfl) rfl (by show 2 * 0 + _ ≤ _; exact Nat.le_of_eq rfl) (hb hby at_148) (fun _ _ => ⟨rfl, e1178, (by decide : 0 + 0 + 2 + 1 + 2 + 0 + 0 + 0 ≤ _), (by decide : 0 + 0 + 1028 + 6 + 1028 + 0 + 0 + 0 ≤ _)⟩)
              dsimp only [Pt.U, Pt.locs, Pt.cells, Pt.slots] at X1187 l1187 y1187 z1187 st1187 hQ1187
              subst l1187 y1187 z1187
              obtain ⟨rfl, N1187q, e1187⟩ := hQ1187
              have N1187 := Fr.app N1178 N1187q
              refine OEnds.st (fun _ k => st1187.trans k) ?_
              show OEnds p.tables e below G (T1187.setTop (mkF m 151 #[.val (.int p1), .val (.int p2), .val (.int p3), .val (.int v1001), .val (.int rp), .val (.int (1 : Int32)), .val (.ref oS), .val (.ref str1137), .val (.ref b1140), .val (.int (0 : Int32)), .val (.int v1179), .val (.int (0 : Int32))] [(.int (own_al p1 w rp))]))
              refine OEnds.st (fun _ k => XS.iload X1187.here hx rfl (hb hby at_151) rfl k) ?_
              show OEnds p.tables e below G (T1187.setTop (mkF m 153 #[.val (.int p1), .val (.int p2), .val (.int p3), .val (.int v1001), .val (.int rp), .val (.int (1 : Int32)), .val (.ref oS), .val (.ref str1137), .val (.ref b1140), .val (.int (0 : Int32)), .val (.int v1179), .val (.int (0 : Int32))] [(.int (0 : Int32)), (.int (own_al p1 w rp))]))
              have hc153_1188 : (own_al p1 w rp) = (0 : Int32) := by rw [hwk, hv_v1179]; simp [own_al, own_packed, hc24_1003, hc107_1180, hc120_1181, hc125_1184]; try exact fun q => hc120_1181 (q.trans hc107_1180.symm)
              refine OEnds.st (fun _ k => XS.icmpNo X1187.here hx rfl (hb hby at_153) rfl (teq hc153_1188).2 k) ?_
              show OEnds p.tables e below G (T1187.setTop (mkF m 156 #[.val (.int p1), .val (.int p2), .val (.int p3), .val (.int v1001), .val (.int rp), .val (.int (1 : Int32)), .val (.ref oS), .val (.ref str1137), .val (.ref b1140), .val (.int (0 : Int32)), .val (.int v1179), .val (.int (0 : Int32))] []))
              refine OEnds.st (fun _ k => XS.iconst X1187.here hx rfl (hb hby at_156) k) ?_
              show OEnds p.tables e below G (T1187.setTop (mkF m 157 #[.val (.int p1), .val (.int p2), .val (.int p3), .val (.int v1001), .val (.int rp), .val (.int (1 : Int32)), .val (.ref oS), .val (.ref str1137), .val (.ref b1140), .val (.int (0 : Int32)), .val (.int v1179), .val (.int (0 : Int32))] [(.int (1 : Int32))]))
              refine OEnds.st (fun _ k => XS.goto X1187.here hx rfl (pc0 := 157) (pc' := 161) rfl (hb hby at_157) (by decide) (by decide) k) ?_
              show OEnds p.tables e below G (T1187.setTop (mkF m 161 #[.val (.int p1), .val (.int p2), .val (.int p3), .val (.int v1001), .val (.int rp), .val (.int (1 : Int32)), .val (.ref oS), .val (.ref str1137), .val (.ref b1140), .val (.int (0 : Int32)), .val (.int v1179), .val (.int (0 : Int32))] [(.int (1 : Int32))]))
              rw [← hG]
              refine OEnds.retZW X1187 hS (by rw [e1187]; exact hkk) hx hlk Bd.returns rfl (hb hby at_161) (by decide) (by decide) ?_
              rw [e1187]
              exact ⟨rfl, N1187⟩
        · -- pc 107: no
          refine OEnds.st (fun _ k => XS.icmpNo X1178.here hx rfl (hb hby at_107) rfl (feq hc107_1180).1 k) ?_
          show OEnds p.tables e below G (T1178.setTop (mkF m 110 #[.val (.int p1), .val (.int p2), .val (.int p3), .val (.int v1001), .val (.int rp), .val (.int (1 : Int32)), .val (.ref oS), .val (.ref str1137), .val (.ref b1140), .unset, .val (.int v1179), .unset] []))
          refine OEnds.st (fun _ k => XS.iconst X1178.here hx rfl (hb hby at_110) k) ?_
          show OEnds p.tables e below G (T1178.setTop (mkF m 111 #[.val (.int p1), .val (.int p2), .val (.int p3), .val (.int v1001), .val (.int rp), .val (.int (1 : Int32)), .val (.ref oS), .val (.ref str1137), .val (.ref b1140), .unset, .val (.int v1179), .unset] [(.int (1 : Int32))]))
          refine OEnds.st (fun _ k => XS.goto X1178.here hx rfl (pc0 := 111) (pc' := 115) rfl (hb hby at_111) (by decide) (by decide) k) ?_
          show OEnds p.tables e below G (T1178.setTop (mkF m 115 #[.val (.int p1), .val (.int p2), .val (.int p3), .val (.int v1001), .val (.int rp), .val (.int (1 : Int32)), .val (.ref oS), .val (.ref str1137), .val (.ref b1140), .unset, .val (.int v1179), .unset] [(.int (1 : Int32))]))
          refine OEnds.st (fun _ k => XS.istore X1178.here hx rfl (hb hby at_115) rfl (l' := #[.val (.int p1), .val (.int p2), .val (.int p3), .val (.int v1001), .val (.int rp), .val (.int (1 : Int32)), .val (.ref oS), .val (.ref str1137), .val (.ref b1140), .unset, .val (.int v1179), .val (.int (1 : Int32))]) rfl k) ?_
          show OEnds p.tables e below G (T1178.setTop (mkF m 117 #[.val (.int p1), .val (.int p2), .val (.int p3), .val (.int v1001), .val (.int rp), .val (.int (1 : Int32)), .val (.ref oS), .val (.ref str1137), .val (.ref b1140), .unset, .val (.int v1179), .val (.int (1 : Int32))] []))
          refine OEnds.st (fun _ k => XS.iloadN X1178.here hx rfl (hb hby at_117) rfl k) ?_
          show OEnds p.tables e below G (T1178.setTop (mkF m 118 #[.val (.int p1), .val (.int p2), .val (.int p3), .val (.int v1001), .val (.int rp), .val (.int (1 : Int32)), .val (.ref oS), .val (.ref str1137), .val (.ref b1140), .unset, .val (.int v1179), .val (.int (1 : Int32))] [(.int p1)]))
          refine OEnds.st (fun _ k => XS.iload X1178.here hx rfl (hb hby at_118) rfl k) ?_
          show OEnds p.tables e below G (T1178.setTop (mkF m 120 #[.val (.int p1), .val (.int p2), .val (.int p3), .val (.int v1001), .val (.int rp), .val (.int (1 : Int32)), .val (.ref oS), .val (.ref str1137), .val (.ref b1140), .unset, .val (.int v1179), .val (.int (1 : Int32))] [(.int v1179), (.int p1)]))
          by_cases hc120_1189 : p1 = v1179
          · -- pc 120: yes
            refine OEnds.st (fun _ k => XS.icmpYes X1178.here hx rfl (pc0 := 120) (pc' := 138) rfl (hb hby at_120) rfl (teq hc120_1189).1 (by decide) (by decide) k) ?_
            show OEnds p.tables e below G (T1178.setTop (mkF m 138 #[.val (.int p1), .val (.int p2), .val (.int p3), .val (.int v1001), .val (.int rp), .val (.int (1 : Int32)), .val (.ref oS), .val (.ref str1137), .val (.ref b1140), .unset, .val (.int v1179), .val (.int (1 : Int32))] []))
            refine OEnds.st (fun _ k => XS.iconst X1178.here hx rfl (hb hby at_138) k) ?_
            show OEnds p.tables e below G (T1178.setTop (mkF m 139 #[.val (.int p1), .val (.int p2), .val (.int p3), .val (.int v1001), .val (.int rp), .val (.int (1 : Int32)), .val (.ref oS), .val (.ref str1137), .val (.ref b1140), .unset, .val (.int v1179), .val (.int (1 : Int32))] [(.int (1 : Int32))]))
            refine OEnds.st (fun _ k => XS.goto X1178.here hx rfl (pc0 := 139) (pc' := 143) rfl (hb hby at_139) (by decide) (by decide) k) ?_
            show OEnds p.tables e below G (T1178.setTop (mkF m 143 #[.val (.int p1), .val (.int p2), .val (.int p3), .val (.int v1001), .val (.int rp), .val (.int (1 : Int32)), .val (.ref oS), .val (.ref str1137), .val (.ref b1140), .unset, .val (.int v1179), .val (.int (1 : Int32))] [(.int (1 : Int32))]))
            refine OEnds.st (fun _ k => XS.istore X1178.here hx rfl (hb hby at_143) rfl (l' := #[.val (.int p1), .val (.int p2), .val (.int p3), .val (.int v1001), .val (.int rp), .val (.int (1 : Int32)), .val (.ref oS), .val (.ref str1137), .val (.ref b1140), .val (.int (1 : Int32)), .val (.int v1179), .val (.int (1 : Int32))]) rfl k) ?_
            show OEnds p.tables e below G (T1178.setTop (mkF m 145 #[.val (.int p1), .val (.int p2), .val (.int p3), .val (.int v1001), .val (.int rp), .val (.int (1 : Int32)), .val (.ref oS), .val (.ref str1137), .val (.ref b1140), .val (.int (1 : Int32)), .val (.int v1179), .val (.int (1 : Int32))] []))
            refine OEnds.st (fun _ k => XS.aload X1178.here hx rfl (hb hby at_145) rfl rfl k) ?_
            show OEnds p.tables e below G (T1178.setTop (mkF m 147 #[.val (.int p1), .val (.int p2), .val (.int p3), .val (.int v1001), .val (.int rp), .val (.int (1 : Int32)), .val (.ref oS), .val (.ref str1137), .val (.ref b1140), .val (.int (1 : Int32)), .val (.int v1179), .val (.int (1 : Int32))] [(.ref b1140)]))
            refine OEnds.st (fun _ k => XS.iloadN X1178.here hx rfl (hb hby at_147) rfl k) ?_
            show OEnds p.tables e below G (T1178.setTop (mkF m 148 #[.val (.int p1), .val (.int p2), .val (.int p3), .val (.int v1001), .val (.int rp), .val (.int (1 : Int32)), .val (.ref oS), .val (.ref str1137), .val (.ref b1140), .val (.int (1 : Int32)), .val (.int v1179), .val (.int (1 : Int32))] [(.int p1), (.ref b1140)]))
            obtain ⟨cq1190, kq1190, q1190a, q1190b, q1190c⟩ := isOf hZ e1178 p1162
            obtain ⟨_, _, ⟨T1190, L1190, k1190c, n1190c⟩, -, X1190, ⟨Lc1190, hQ1190, l1190, y1190, z1190⟩, st1190⟩ := X1178.virtualBack hx (y := (⟨"com/example/nearfar/nearfar/DescriptorSet$Field", "allows", "(I)Z"⟩ : MethodName)) (z := (⟨"com/example/nearfar/nearfar/DescriptorSet$Field", "allows", "(I)Z"⟩ : MethodName)) hown (mvT hZ (hw _ (List.mem_of_getElem? (i := 41) rfl))) (mvT hZ (hw _ (List.mem_of_getElem? (i := 42) rfl))) (notFace_of_selects (args := #[]) (mvT hZ (hw _ (List.mem_of_getElem? (i := 44) rfl)))) (mvT hZ (hw _ (List.mem_of_getElem? (i := 44) rfl))) (mvT hZ (hw _ (List.mem_of_getElem? (i := 43) rfl))) (by decide) (backOf (W := 0) (rmalO l Z a0 hw [] b1140 p1 oS K w rp T1160.heap n0 Z1160 p1166 p1165 f1169 f1170 hsW hsP) hZ (hw _ (List.mem_of_getElem? (i := 45) rfl)) (hw _ (List.mem_of_getElem? (i := 18) rfl)) (by decide) (by decide)) q1190a q1190c (g := (mkF m 148 #[.val (.int p1), .val (.int p2), .val (.int p3), .val (.int v1001), .val (.int rp), .val (.int (1 : Int32)), .val (.ref oS), .val (.ref str1137), .val (.ref b1140), .val (.int (1 : Int32)), .val (.int v1179), .val (.int (1 : Int32))] [(.int p1), (.ref b1140)])) rfl (by rw [hml]; rfl) (Steps.refl _) (argsL := [(.int p1)]) (rest := []) (lenOf pd_4 rfl) rfl (by show 2 * 0 + _ ≤ _; exact Nat.le_of_eq rfl) (hb hby at_148) (fun _ _ => ⟨rfl, e1178, (by decide : 0 + 0 + 2 + 1 + 2 + 0 + 0 + 0 ≤ _), (by decide : 0 + 0 + 1028 + 6 + 1028 + 0 + 0 + 0 ≤ _)⟩)
            dsimp only [Pt.U, Pt.locs, Pt.cells, Pt.slots] at X1190 l1190 y1190 z1190 st1190 hQ1190
            subst l1190 y1190 z1190
            obtain ⟨rfl, N1190q, e1190⟩ := hQ1190
            have N1190 := Fr.app N1178 N1190q
            refine OEnds.st (fun _ k => st1190.trans k) ?_
            show OEnds p.tables e below G (T1190.setTop (mkF m 151 #[.val (.int p1), .val (.int p2), .val (.int p3), .val (.int v1001), .val (.int rp), .val (.int (1 : Int32)), .val (.ref oS), .val (.ref str1137), .val (.ref b1140), .val (.int (1 : Int32)), .val (.int v1179), .val (.int (1 : Int32))] [(.int (own_al p1 w rp))]))
            refine OEnds.st (fun _ k => XS.iload X1190.here hx rfl (hb hby at_151) rfl k) ?_
            show OEnds p.tables e below G (T1190.setTop (mkF m 153 #[.val (.int p1), .val (.int p2), .val (.int p3), .val (.int v1001), .val (.int rp), .val (.int (1 : Int32)), .val (.ref oS), .val (.ref str1137), .val (.ref b1140), .val (.int (1 : Int32)), .val (.int v1179), .val (.int (1 : Int32))] [(.int (1 : Int32)), (.int (own_al p1 w rp))]))
            have hc153_1191 : (own_al p1 w rp) = (1 : Int32) := by rw [hwk, hv_v1179]; simp [own_al, own_packed, hc24_1003, hc107_1180, hc120_1189]; try exact fun q => hc120_1189 (q.trans hc107_1180.symm)
            refine OEnds.st (fun _ k => XS.icmpNo X1190.here hx rfl (hb hby at_153) rfl (teq hc153_1191).2 k) ?_
            show OEnds p.tables e below G (T1190.setTop (mkF m 156 #[.val (.int p1), .val (.int p2), .val (.int p3), .val (.int v1001), .val (.int rp), .val (.int (1 : Int32)), .val (.ref oS), .val (.ref str1137), .val (.ref b1140), .val (.int (1 : Int32)), .val (.int v1179), .val (.int (1 : Int32))] []))
            refine OEnds.st (fun _ k => XS.iconst X1190.here hx rfl (hb hby at_156) k) ?_
            show OEnds p.tables e below G (T1190.setTop (mkF m 157 #[.val (.int p1), .val (.int p2), .val (.int p3), .val (.int v1001), .val (.int rp), .val (.int (1 : Int32)), .val (.ref oS), .val (.ref str1137), .val (.ref b1140), .val (.int (1 : Int32)), .val (.int v1179), .val (.int (1 : Int32))] [(.int (1 : Int32))]))
            refine OEnds.st (fun _ k => XS.goto X1190.here hx rfl (pc0 := 157) (pc' := 161) rfl (hb hby at_157) (by decide) (by decide) k) ?_
            show OEnds p.tables e below G (T1190.setTop (mkF m 161 #[.val (.int p1), .val (.int p2), .val (.int p3), .val (.int v1001), .val (.int rp), .val (.int (1 : Int32)), .val (.ref oS), .val (.ref str1137), .val (.ref b1140), .val (.int (1 : Int32)), .val (.int v1179), .val (.int (1 : Int32))] [(.int (1 : Int32))]))
            rw [← hG]
            refine OEnds.retZW X1190 hS (by rw [e1190]; exact hkk) hx hlk Bd.returns rfl (hb hby at_161) (by decide) (by decide) ?_
            rw [e1190]
            exact ⟨rfl, N1190⟩
          · -- pc 120: no
            refine OEnds.st (fun _ k => XS.icmpNo X1178.here hx rfl (hb hby at_120) rfl (feq hc120_1189).1 k) ?_
            show OEnds p.tables e below G (T1178.setTop (mkF m 123 #[.val (.int p1), .val (.int p2), .val (.int p3), .val (.int v1001), .val (.int rp), .val (.int (1 : Int32)), .val (.ref oS), .val (.ref str1137), .val (.ref b1140), .unset, .val (.int v1179), .val (.int (1 : Int32))] []))
            refine OEnds.st (fun _ k => XS.iload X1178.here hx rfl (hb hby at_123) rfl k) ?_
            show OEnds p.tables e below G (T1178.setTop (mkF m 125 #[.val (.int p1), .val (.int p2), .val (.int p3), .val (.int v1001), .val (.int rp), .val (.int (1 : Int32)), .val (.ref oS), .val (.ref str1137), .val (.ref b1140), .unset, .val (.int v1179), .val (.int (1 : Int32))] [(.int rp)]))
            by_cases hc125_1192 : rp = (0 : Int32)
            · -- pc 125: yes
              refine OEnds.st (fun _ k => XS.ifYes X1178.here hx rfl (pc0 := 125) (pc' := 142) rfl (hb hby at_125) rfl ((if0 _ _).trans (teq hc125_1192).1) (by decide) (by decide) k) ?_
              show OEnds p.tables e below G (T1178.setTop (mkF m 142 #[.val (.int p1), .val (.int p2), .val (.int p3), .val (.int v1001), .val (.int rp), .val (.int (1 : Int32)), .val (.ref oS), .val (.ref str1137), .val (.ref b1140), .unset, .val (.int v1179), .val (.int (1 : Int32))] []))
              refine OEnds.st (fun _ k => XS.iconst X1178.here hx rfl (hb hby at_142) k) ?_
              show OEnds p.tables e below G (T1178.setTop (mkF m 143 #[.val (.int p1), .val (.int p2), .val (.int p3), .val (.int v1001), .val (.int rp), .val (.int (1 : Int32)), .val (.ref oS), .val (.ref str1137), .val (.ref b1140), .unset, .val (.int v1179), .val (.int (1 : Int32))] [(.int (0 : Int32))]))
              refine OEnds.st (fun _ k => XS.istore X1178.here hx rfl (hb hby at_143) rfl (l' := #[.val (.int p1), .val (.int p2), .val (.int p3), .val (.int v1001), .val (.int rp), .val (.int (1 : Int32)), .val (.ref oS), .val (.ref str1137), .val (.ref b1140), .val (.int (0 : Int32)), .val (.int v1179), .val (.int (1 : Int32))]) rfl k) ?_
              show OEnds p.tables e below G (T1178.setTop (mkF m 145 #[.val (.int p1), .val (.int p2), .val (.int p3), .val (.int v1001), .val (.int rp), .val (.int (1 : Int32)), .val (.ref oS), .val (.ref str1137), .val (.ref b1140), .val (.int (0 : Int32)), .val (.int v1179), .val (.int (1 : Int32))] []))
              refine OEnds.st (fun _ k => XS.aload X1178.here hx rfl (hb hby at_145) rfl rfl k) ?_
              show OEnds p.tables e below G (T1178.setTop (mkF m 147 #[.val (.int p1), .val (.int p2), .val (.int p3), .val (.int v1001), .val (.int rp), .val (.int (1 : Int32)), .val (.ref oS), .val (.ref str1137), .val (.ref b1140), .val (.int (0 : Int32)), .val (.int v1179), .val (.int (1 : Int32))] [(.ref b1140)]))
              refine OEnds.st (fun _ k => XS.iloadN X1178.here hx rfl (hb hby at_147) rfl k) ?_
              show OEnds p.tables e below G (T1178.setTop (mkF m 148 #[.val (.int p1), .val (.int p2), .val (.int p3), .val (.int v1001), .val (.int rp), .val (.int (1 : Int32)), .val (.ref oS), .val (.ref str1137), .val (.ref b1140), .val (.int (0 : Int32)), .val (.int v1179), .val (.int (1 : Int32))] [(.int p1), (.ref b1140)]))
              obtain ⟨cq1193, kq1193, q1193a, q1193b, q1193c⟩ := isOf hZ e1178 p1162
              obtain ⟨_, _, ⟨T1193, L1193, k1193c, n1193c⟩, -, X1193, ⟨Lc1193, hQ1193, l1193, y1193, z1193⟩, st1193⟩ := X1178.virtualBack hx (y := (⟨"com/example/nearfar/nearfar/DescriptorSet$Field", "allows", "(I)Z"⟩ : MethodName)) (z := (⟨"com/example/nearfar/nearfar/DescriptorSet$Field", "allows", "(I)Z"⟩ : MethodName)) hown (mvT hZ (hw _ (List.mem_of_getElem? (i := 41) rfl))) (mvT hZ (hw _ (List.mem_of_getElem? (i := 42) rfl))) (notFace_of_selects (args := #[]) (mvT hZ (hw _ (List.mem_of_getElem? (i := 44) rfl)))) (mvT hZ (hw _ (List.mem_of_getElem? (i := 44) rfl))) (mvT hZ (hw _ (List.mem_of_getElem? (i := 43) rfl))) (by decide) (backOf (W := 0) (rmalO l Z a0 hw [] b1140 p1 oS K w rp T1160.heap n0 Z1160 p1166 p1165 f1169 f1170 hsW hsP) hZ (hw _ (List.mem_of_getElem? (i := 45) rfl)) (hw _ (List.mem_of_getElem? (i := 18) rfl)) (by decide) (by decide)) q1193a q1193c (g := (mkF m 148 #[.val (.int p1), .val (.int p2), .val (.int p3), .val (.int v1001), .val (.int rp), .val (.int (1 : Int32)), .val (.ref oS), .val (.ref str1137), .val (.ref b1140), .val (.int (0 : Int32)), .val (.int v1179), .val (.int (1 : Int32))] [(.int p1), (.ref b1140)])) rfl (by rw [hml]; rfl) (Steps.refl _) (argsL := [(.int p1)]) (rest := []) (lenOf pd_4 rfl) rfl (by show 2 * 0 + _ ≤ _; exact Nat.le_of_eq rfl) (hb hby at_148) (fun _ _ => ⟨rfl, e1178, (by decide : 0 + 0 + 2 + 1 + 2 + 0 + 0 + 0 ≤ _), (by decide : 0 + 0 + 1028 + 6 + 1028 + 0 + 0 + 0 ≤ _)⟩)
              dsimp only [Pt.U, Pt.locs, Pt.cells, Pt.slots] at X1193 l1193 y1193 z1193 st1193 hQ1193
              subst l1193 y1193 z1193
              obtain ⟨rfl, N1193q, e1193⟩ := hQ1193
              have N1193 := Fr.app N1178 N1193q
              refine OEnds.st (fun _ k => st1193.trans k) ?_
              show OEnds p.tables e below G (T1193.setTop (mkF m 151 #[.val (.int p1), .val (.int p2), .val (.int p3), .val (.int v1001), .val (.int rp), .val (.int (1 : Int32)), .val (.ref oS), .val (.ref str1137), .val (.ref b1140), .val (.int (0 : Int32)), .val (.int v1179), .val (.int (1 : Int32))] [(.int (own_al p1 w rp))]))
              refine OEnds.st (fun _ k => XS.iload X1193.here hx rfl (hb hby at_151) rfl k) ?_
              show OEnds p.tables e below G (T1193.setTop (mkF m 153 #[.val (.int p1), .val (.int p2), .val (.int p3), .val (.int v1001), .val (.int rp), .val (.int (1 : Int32)), .val (.ref oS), .val (.ref str1137), .val (.ref b1140), .val (.int (0 : Int32)), .val (.int v1179), .val (.int (1 : Int32))] [(.int (0 : Int32)), (.int (own_al p1 w rp))]))
              have hc153_1194 : (own_al p1 w rp) = (0 : Int32) := by rw [hwk, hv_v1179]; simp [own_al, own_packed, hc24_1003, hc107_1180, hc120_1189, hc125_1192]; try exact fun q => hc120_1189 (q.trans hc107_1180.symm)
              refine OEnds.st (fun _ k => XS.icmpNo X1193.here hx rfl (hb hby at_153) rfl (teq hc153_1194).2 k) ?_
              show OEnds p.tables e below G (T1193.setTop (mkF m 156 #[.val (.int p1), .val (.int p2), .val (.int p3), .val (.int v1001), .val (.int rp), .val (.int (1 : Int32)), .val (.ref oS), .val (.ref str1137), .val (.ref b1140), .val (.int (0 : Int32)), .val (.int v1179), .val (.int (1 : Int32))] []))
              refine OEnds.st (fun _ k => XS.iconst X1193.here hx rfl (hb hby at_156) k) ?_
              show OEnds p.tables e below G (T1193.setTop (mkF m 157 #[.val (.int p1), .val (.int p2), .val (.int p3), .val (.int v1001), .val (.int rp), .val (.int (1 : Int32)), .val (.ref oS), .val (.ref str1137), .val (.ref b1140), .val (.int (0 : Int32)), .val (.int v1179), .val (.int (1 : Int32))] [(.int (1 : Int32))]))
              refine OEnds.st (fun _ k => XS.goto X1193.here hx rfl (pc0 := 157) (pc' := 161) rfl (hb hby at_157) (by decide) (by decide) k) ?_
              show OEnds p.tables e below G (T1193.setTop (mkF m 161 #[.val (.int p1), .val (.int p2), .val (.int p3), .val (.int v1001), .val (.int rp), .val (.int (1 : Int32)), .val (.ref oS), .val (.ref str1137), .val (.ref b1140), .val (.int (0 : Int32)), .val (.int v1179), .val (.int (1 : Int32))] [(.int (1 : Int32))]))
              rw [← hG]
              refine OEnds.retZW X1193 hS (by rw [e1193]; exact hkk) hx hlk Bd.returns rfl (hb hby at_161) (by decide) (by decide) ?_
              rw [e1193]
              exact ⟨rfl, N1193⟩
            · -- pc 125: no
              refine OEnds.st (fun _ k => XS.ifNo X1178.here hx rfl (hb hby at_125) rfl ((if0 _ _).trans (feq hc125_1192).1) k) ?_
              show OEnds p.tables e below G (T1178.setTop (mkF m 128 #[.val (.int p1), .val (.int p2), .val (.int p3), .val (.int v1001), .val (.int rp), .val (.int (1 : Int32)), .val (.ref oS), .val (.ref str1137), .val (.ref b1140), .unset, .val (.int v1179), .val (.int (1 : Int32))] []))
              refine OEnds.st (fun _ k => XS.iload X1178.here hx rfl (hb hby at_128) rfl k) ?_
              show OEnds p.tables e below G (T1178.setTop (mkF m 130 #[.val (.int p1), .val (.int p2), .val (.int p3), .val (.int v1001), .val (.int rp), .val (.int (1 : Int32)), .val (.ref oS), .val (.ref str1137), .val (.ref b1140), .unset, .val (.int v1179), .val (.int (1 : Int32))] [(.int (1 : Int32))]))
              refine OEnds.st (fun _ k => XS.ifNo X1178.here hx rfl (hb hby at_130) rfl ((if0 _ _).trans (feq (by decide : ¬ ((1 : Int32) = (0 : Int32)))).1) k) ?_
              show OEnds p.tables e below G (T1178.setTop (mkF m 133 #[.val (.int p1), .val (.int p2), .val (.int p3), .val (.int v1001), .val (.int rp), .val (.int (1 : Int32)), .val (.ref oS), .val (.ref str1137), .val (.ref b1140), .unset, .val (.int v1179), .val (.int (1 : Int32))] []))
              refine OEnds.st (fun _ k => XS.iloadN X1178.here hx rfl (hb hby at_133) rfl k) ?_
              show OEnds p.tables e below G (T1178.setTop (mkF m 134 #[.val (.int p1), .val (.int p2), .val (.int p3), .val (.int v1001), .val (.int rp), .val (.int (1 : Int32)), .val (.ref oS), .val (.ref str1137), .val (.ref b1140), .unset, .val (.int v1179), .val (.int (1 : Int32))] [(.int p1)]))
              refine OEnds.st (fun _ k => XS.iconst X1178.here hx rfl (hb hby at_134) k) ?_
              show OEnds p.tables e below G (T1178.setTop (mkF m 135 #[.val (.int p1), .val (.int p2), .val (.int p3), .val (.int v1001), .val (.int rp), .val (.int (1 : Int32)), .val (.ref oS), .val (.ref str1137), .val (.ref b1140), .unset, .val (.int v1179), .val (.int (1 : Int32))] [(.int (2 : Int32)), (.int p1)]))
              by_cases hc135_1195 : p1 = (2 : Int32)
              · -- pc 135: yes
                refine OEnds.st (fun _ k => XS.icmpNo X1178.here hx rfl (hb hby at_135) rfl (teq hc135_1195).2 k) ?_
                show OEnds p.tables e below G (T1178.setTop (mkF m 138 #[.val (.int p1), .val (.int p2), .val (.int p3), .val (.int v1001), .val (.int rp), .val (.int (1 : Int32)), .val (.ref oS), .val (.ref str1137), .val (.ref b1140), .unset, .val (.int v1179), .val (.int (1 : Int32))] []))
                refine OEnds.st (fun _ k => XS.iconst X1178.here hx rfl (hb hby at_138) k) ?_
                show OEnds p.tables e below G (T1178.setTop (mkF m 139 #[.val (.int p1), .val (.int p2), .val (.int p3), .val (.int v1001), .val (.int rp), .val (.int (1 : Int32)), .val (.ref oS), .val (.ref str1137), .val (.ref b1140), .unset, .val (.int v1179), .val (.int (1 : Int32))] [(.int (1 : Int32))]))
                refine OEnds.st (fun _ k => XS.goto X1178.here hx rfl (pc0 := 139) (pc' := 143) rfl (hb hby at_139) (by decide) (by decide) k) ?_
                show OEnds p.tables e below G (T1178.setTop (mkF m 143 #[.val (.int p1), .val (.int p2), .val (.int p3), .val (.int v1001), .val (.int rp), .val (.int (1 : Int32)), .val (.ref oS), .val (.ref str1137), .val (.ref b1140), .unset, .val (.int v1179), .val (.int (1 : Int32))] [(.int (1 : Int32))]))
                refine OEnds.st (fun _ k => XS.istore X1178.here hx rfl (hb hby at_143) rfl (l' := #[.val (.int p1), .val (.int p2), .val (.int p3), .val (.int v1001), .val (.int rp), .val (.int (1 : Int32)), .val (.ref oS), .val (.ref str1137), .val (.ref b1140), .val (.int (1 : Int32)), .val (.int v1179), .val (.int (1 : Int32))]) rfl k) ?_
                show OEnds p.tables e below G (T1178.setTop (mkF m 145 #[.val (.int p1), .val (.int p2), .val (.int p3), .val (.int v1001), .val (.int rp), .val (.int (1 : Int32)), .val (.ref oS), .val (.ref str1137), .val (.ref b1140), .val (.int (1 : Int32)), .val (.int v1179), .val (.int (1 : Int32))] []))
                refine OEnds.st (fun _ k => XS.aload X1178.here hx rfl (hb hby at_145) rfl rfl k) ?_
                show OEnds p.tables e below G (T1178.setTop (mkF m 147 #[.val (.int p1), .val (.int p2), .val (.int p3), .val (.int v1001), .val (.int rp), .val (.int (1 : Int32)), .val (.ref oS), .val (.ref str1137), .val (.ref b1140), .val (.int (1 : Int32)), .val (.int v1179), .val (.int (1 : Int32))] [(.ref b1140)]))
                refine OEnds.st (fun _ k => XS.iloadN X1178.here hx rfl (hb hby at_147) rfl k) ?_
                show OEnds p.tables e below G (T1178.setTop (mkF m 148 #[.val (.int p1), .val (.int p2), .val (.int p3), .val (.int v1001), .val (.int rp), .val (.int (1 : Int32)), .val (.ref oS), .val (.ref str1137), .val (.ref b1140), .val (.int (1 : Int32)), .val (.int v1179), .val (.int (1 : Int32))] [(.int p1), (.ref b1140)]))
                obtain ⟨cq1196, kq1196, q1196a, q1196b, q1196c⟩ := isOf hZ e1178 p1162
                obtain ⟨_, _, ⟨T1196, L1196, k1196c, n1196c⟩, -, X1196, ⟨Lc1196, hQ1196, l1196, y1196, z1196⟩, st1196⟩ := X1178.virtualBack hx (y := (⟨"com/example/nearfar/nearfar/DescriptorSet$Field", "allows", "(I)Z"⟩ : MethodName)) (z := (⟨"com/example/nearfar/nearfar/DescriptorSet$Field", "allows", "(I)Z"⟩ : MethodName)) hown (mvT hZ (hw _ (List.mem_of_getElem? (i := 41) rfl))) (mvT hZ (hw _ (List.mem_of_getElem? (i := 42) rfl))) (notFace_of_selects (args := #[]) (mvT hZ (hw _ (List.mem_of_getElem? (i := 44) rfl)))) (mvT hZ (hw _ (List.mem_of_getElem? (i := 44) rfl))) (mvT hZ (hw _ (List.mem_of_getElem? (i := 43) rfl))) (by decide) (backOf (W := 0) (rmalO l Z a0 hw [] b1140 p1 oS K w rp T1160.heap n0 Z1160 p1166 p1165 f1169 f1170 hsW hsP) hZ (hw _ (List.mem_of_getElem? (i := 45) rfl)) (hw _ (List.mem_of_getElem? (i := 18) rfl)) (by decide) (by decide)) q1196a q1196c (g := (mkF m 148 #[.val (.int p1), .val (.int p2), .val (.int p3), .val (.int v1001), .val (.int rp), .val (.int (1 : Int32)), .val (.ref oS), .val (.ref str1137), .val (.ref b1140), .val (.int (1 : Int32)), .val (.int v1179), .val (.int (1 : Int32))] [(.int p1), (.ref b1140)])) rfl (by rw [hml]; rfl) (Steps.refl _) (argsL := [(.int p1)]) (rest := []) (lenOf pd_4 rfl) rfl (by show 2 * 0 + _ ≤ _; exact Nat.le_of_eq rfl) (hb hby at_148) (fun _ _ => ⟨rfl, e1178, (by decide : 0 + 0 + 2 + 1 + 2 + 0 + 0 + 0 ≤ _), (by decide : 0 + 0 + 1028 + 6 + 1028 + 0 + 0 + 0 ≤ _)⟩)
                dsimp only [Pt.U, Pt.locs, Pt.cells, Pt.slots] at X1196 l1196 y1196 z1196 st1196 hQ1196
                subst l1196 y1196 z1196
                obtain ⟨rfl, N1196q, e1196⟩ := hQ1196
                have N1196 := Fr.app N1178 N1196q
                refine OEnds.st (fun _ k => st1196.trans k) ?_
                show OEnds p.tables e below G (T1196.setTop (mkF m 151 #[.val (.int p1), .val (.int p2), .val (.int p3), .val (.int v1001), .val (.int rp), .val (.int (1 : Int32)), .val (.ref oS), .val (.ref str1137), .val (.ref b1140), .val (.int (1 : Int32)), .val (.int v1179), .val (.int (1 : Int32))] [(.int (own_al p1 w rp))]))
                refine OEnds.st (fun _ k => XS.iload X1196.here hx rfl (hb hby at_151) rfl k) ?_
                show OEnds p.tables e below G (T1196.setTop (mkF m 153 #[.val (.int p1), .val (.int p2), .val (.int p3), .val (.int v1001), .val (.int rp), .val (.int (1 : Int32)), .val (.ref oS), .val (.ref str1137), .val (.ref b1140), .val (.int (1 : Int32)), .val (.int v1179), .val (.int (1 : Int32))] [(.int (1 : Int32)), (.int (own_al p1 w rp))]))
                have hc153_1197 : (own_al p1 w rp) = (1 : Int32) := by rw [hwk, hv_v1179]; simp [own_al, own_packed, hc24_1003, hc107_1180, hc120_1189, hc125_1192, hc135_1195]; try exact fun q => hc120_1189 (q.trans hc107_1180.symm)
                refine OEnds.st (fun _ k => XS.icmpNo X1196.here hx rfl (hb hby at_153) rfl (teq hc153_1197).2 k) ?_
                show OEnds p.tables e below G (T1196.setTop (mkF m 156 #[.val (.int p1), .val (.int p2), .val (.int p3), .val (.int v1001), .val (.int rp), .val (.int (1 : Int32)), .val (.ref oS), .val (.ref str1137), .val (.ref b1140), .val (.int (1 : Int32)), .val (.int v1179), .val (.int (1 : Int32))] []))
                refine OEnds.st (fun _ k => XS.iconst X1196.here hx rfl (hb hby at_156) k) ?_
                show OEnds p.tables e below G (T1196.setTop (mkF m 157 #[.val (.int p1), .val (.int p2), .val (.int p3), .val (.int v1001), .val (.int rp), .val (.int (1 : Int32)), .val (.ref oS), .val (.ref str1137), .val (.ref b1140), .val (.int (1 : Int32)), .val (.int v1179), .val (.int (1 : Int32))] [(.int (1 : Int32))]))
                refine OEnds.st (fun _ k => XS.goto X1196.here hx rfl (pc0 := 157) (pc' := 161) rfl (hb hby at_157) (by decide) (by decide) k) ?_
                show OEnds p.tables e below G (T1196.setTop (mkF m 161 #[.val (.int p1), .val (.int p2), .val (.int p3), .val (.int v1001), .val (.int rp), .val (.int (1 : Int32)), .val (.ref oS), .val (.ref str1137), .val (.ref b1140), .val (.int (1 : Int32)), .val (.int v1179), .val (.int (1 : Int32))] [(.int (1 : Int32))]))
                rw [← hG]
                refine OEnds.retZW X1196 hS (by rw [e1196]; exact hkk) hx hlk Bd.returns rfl (hb hby at_161) (by decide) (by decide) ?_
                rw [e1196]
                exact ⟨rfl, N1196⟩
              · -- pc 135: no
                refine OEnds.st (fun _ k => XS.icmpYes X1178.here hx rfl (pc0 := 135) (pc' := 142) rfl (hb hby at_135) rfl (feq hc135_1195).2 (by decide) (by decide) k) ?_
                show OEnds p.tables e below G (T1178.setTop (mkF m 142 #[.val (.int p1), .val (.int p2), .val (.int p3), .val (.int v1001), .val (.int rp), .val (.int (1 : Int32)), .val (.ref oS), .val (.ref str1137), .val (.ref b1140), .unset, .val (.int v1179), .val (.int (1 : Int32))] []))
                refine OEnds.st (fun _ k => XS.iconst X1178.here hx rfl (hb hby at_142) k) ?_
                show OEnds p.tables e below G (T1178.setTop (mkF m 143 #[.val (.int p1), .val (.int p2), .val (.int p3), .val (.int v1001), .val (.int rp), .val (.int (1 : Int32)), .val (.ref oS), .val (.ref str1137), .val (.ref b1140), .unset, .val (.int v1179), .val (.int (1 : Int32))] [(.int (0 : Int32))]))
                refine OEnds.st (fun _ k => XS.istore X1178.here hx rfl (hb hby at_143) rfl (l' := #[.val (.int p1), .val (.int p2), .val (.int p3), .val (.int v1001), .val (.int rp), .val (.int (1 : Int32)), .val (.ref oS), .val (.ref str1137), .val (.ref b1140), .val (.int (0 : Int32)), .val (.int v1179), .val (.int (1 : Int32))]) rfl k) ?_
                show OEnds p.tables e below G (T1178.setTop (mkF m 145 #[.val (.int p1), .val (.int p2), .val (.int p3), .val (.int v1001), .val (.int rp), .val (.int (1 : Int32)), .val (.ref oS), .val (.ref str1137), .val (.ref b1140), .val (.int (0 : Int32)), .val (.int v1179), .val (.int (1 : Int32))] []))
                refine OEnds.st (fun _ k => XS.aload X1178.here hx rfl (hb hby at_145) rfl rfl k) ?_
                show OEnds p.tables e below G (T1178.setTop (mkF m 147 #[.val (.int p1), .val (.int p2), .val (.int p3), .val (.int v1001), .val (.int rp), .val (.int (1 : Int32)), .val (.ref oS), .val (.ref str1137), .val (.ref b1140), .val (.int (0 : Int32)), .val (.int v1179), .val (.int (1 : Int32))] [(.ref b1140)]))
                refine OEnds.st (fun _ k => XS.iloadN X1178.here hx rfl (hb hby at_147) rfl k) ?_
                show OEnds p.tables e below G (T1178.setTop (mkF m 148 #[.val (.int p1), .val (.int p2), .val (.int p3), .val (.int v1001), .val (.int rp), .val (.int (1 : Int32)), .val (.ref oS), .val (.ref str1137), .val (.ref b1140), .val (.int (0 : Int32)), .val (.int v1179), .val (.int (1 : Int32))] [(.int p1), (.ref b1140)]))
                obtain ⟨cq1198, kq1198, q1198a, q1198b, q1198c⟩ := isOf hZ e1178 p1162
                obtain ⟨_, _, ⟨T1198, L1198, k1198c, n1198c⟩, -, X1198, ⟨Lc1198, hQ1198, l1198, y1198, z1198⟩, st1198⟩ := X1178.virtualBack hx (y := (⟨"com/example/nearfar/nearfar/DescriptorSet$Field", "allows", "(I)Z"⟩ : MethodName)) (z := (⟨"com/example/nearfar/nearfar/DescriptorSet$Field", "allows", "(I)Z"⟩ : MethodName)) hown (mvT hZ (hw _ (List.mem_of_getElem? (i := 41) rfl))) (mvT hZ (hw _ (List.mem_of_getElem? (i := 42) rfl))) (notFace_of_selects (args := #[]) (mvT hZ (hw _ (List.mem_of_getElem? (i := 44) rfl)))) (mvT hZ (hw _ (List.mem_of_getElem? (i := 44) rfl))) (mvT hZ (hw _ (List.mem_of_getElem? (i := 43) rfl))) (by decide) (backOf (W := 0) (rmalO l Z a0 hw [] b1140 p1 oS K w rp T1160.heap n0 Z1160 p1166 p1165 f1169 f1170 hsW hsP) hZ (hw _ (List.mem_of_getElem? (i := 45) rfl)) (hw _ (List.mem_of_getElem? (i := 18) rfl)) (by decide) (by decide)) q1198a q1198c (g := (mkF m 148 #[.val (.int p1), .val (.int p2), .val (.int p3), .val (.int v1001), .val (.int rp), .val (.int (1 : Int32)), .val (.ref oS), .val (.ref str1137), .val (.ref b1140), .val (.int (0 : Int32)), .val (.int v1179), .val (.int (1 : Int32))] [(.int p1), (.ref b1140)])) rfl (by rw [hml]; rfl) (Steps.refl _) (argsL := [(.int p1)]) (rest := []) (lenOf pd_4 rfl) rfl (by show 2 * 0 + _ ≤ _; exact Nat.le_of_eq rfl) (hb hby at_148) (fun _ _ => ⟨rfl, e1178, (by decide : 0 + 0 + 2 + 1 + 2 + 0 + 0 + 0 ≤ _), (by decide : 0 + 0 + 1028 + 6 + 1028 + 0 + 0 + 0 ≤ _)⟩)
                dsimp only [Pt.U, Pt.locs, Pt.cells, Pt.slots] at X1198 l1198 y1198 z1198 st1198 hQ1198
                subst l1198 y1198 z1198
                obtain ⟨rfl, N1198q, e1198⟩ := hQ1198
                have N1198 := Fr.app N1178 N1198q
                refine OEnds.st (fun _ k => st1198.trans k) ?_
                show OEnds p.tables e below G (T1198.setTop (mkF m 151 #[.val (.int p1), .val (.int p2), .val (.int p3), .val (.int v1001), .val (.int rp), .val (.int (1 : Int32)), .val (.ref oS), .val (.ref str1137), .val (.ref b1140), .val (.int (0 : Int32)), .val (.int v1179), .val (.int (1 : Int32))] [(.int (own_al p1 w rp))]))
                refine OEnds.st (fun _ k => XS.iload X1198.here hx rfl (hb hby at_151) rfl k) ?_
                show OEnds p.tables e below G (T1198.setTop (mkF m 153 #[.val (.int p1), .val (.int p2), .val (.int p3), .val (.int v1001), .val (.int rp), .val (.int (1 : Int32)), .val (.ref oS), .val (.ref str1137), .val (.ref b1140), .val (.int (0 : Int32)), .val (.int v1179), .val (.int (1 : Int32))] [(.int (0 : Int32)), (.int (own_al p1 w rp))]))
                have hc153_1199 : (own_al p1 w rp) = (0 : Int32) := by rw [hwk, hv_v1179]; simp [own_al, own_packed, hc24_1003, hc107_1180, hc120_1189, hc125_1192, hc135_1195]; try exact fun q => hc120_1189 (q.trans hc107_1180.symm)
                refine OEnds.st (fun _ k => XS.icmpNo X1198.here hx rfl (hb hby at_153) rfl (teq hc153_1199).2 k) ?_
                show OEnds p.tables e below G (T1198.setTop (mkF m 156 #[.val (.int p1), .val (.int p2), .val (.int p3), .val (.int v1001), .val (.int rp), .val (.int (1 : Int32)), .val (.ref oS), .val (.ref str1137), .val (.ref b1140), .val (.int (0 : Int32)), .val (.int v1179), .val (.int (1 : Int32))] []))
                refine OEnds.st (fun _ k => XS.iconst X1198.here hx rfl (hb hby at_156) k) ?_
                show OEnds p.tables e below G (T1198.setTop (mkF m 157 #[.val (.int p1), .val (.int p2), .val (.int p3), .val (.int v1001), .val (.int rp), .val (.int (1 : Int32)), .val (.ref oS), .val (.ref str1137), .val (.ref b1140), .val (.int (0 : Int32)), .val (.int v1179), .val (.int (1 : Int32))] [(.int (1 : Int32))]))
                refine OEnds.st (fun _ k => XS.goto X1198.here hx rfl (pc0 := 157) (pc' := 161) rfl (hb hby at_157) (by decide) (by decide) k) ?_
                show OEnds p.tables e below G (T1198.setTop (mkF m 161 #[.val (.int p1), .val (.int p2), .val (.int p3), .val (.int v1001), .val (.int rp), .val (.int (1 : Int32)), .val (.ref oS), .val (.ref str1137), .val (.ref b1140), .val (.int (0 : Int32)), .val (.int v1179), .val (.int (1 : Int32))] [(.int (1 : Int32))]))
                rw [← hG]
                refine OEnds.retZW X1198 hS (by rw [e1198]; exact hkk) hx hlk Bd.returns rfl (hb hby at_161) (by decide) (by decide) ?_
                rw [e1198]
                exact ⟨rfl, N1198⟩
  show OEnds p.tables e below G (s₁.setTop (mkF m 8 #[.val (.int p1), .val (.int p2), .val (.int p3), .val (.int v1001), .unset, .unset, .unset, .unset, .unset, .unset, .unset, .unset] []))
  refine OEnds.st (fun _ k => XS.iloadN X0.here hx rfl (hb hby at_8) rfl k) ?_
  show OEnds p.tables e below G (s₁.setTop (mkF m 9 #[.val (.int p1), .val (.int p2), .val (.int p3), .val (.int v1001), .unset, .unset, .unset, .unset, .unset, .unset, .unset, .unset] [(.int p3)]))
  refine OEnds.st (fun _ k => XS.iconst X0.here hx rfl (hb hby at_9) k) ?_
  show OEnds p.tables e below G (s₁.setTop (mkF m 10 #[.val (.int p1), .val (.int p2), .val (.int p3), .val (.int v1001), .unset, .unset, .unset, .unset, .unset, .unset, .unset, .unset] [(.int (1 : Int32)), (.int p3)]))
  refine OEnds.st (fun _ k => XS.iand X0.here hx rfl (hb hby at_10) rfl k) ?_
  show OEnds p.tables e below G (s₁.setTop (mkF m 11 #[.val (.int p1), .val (.int p2), .val (.int p3), .val (.int v1001), .unset, .unset, .unset, .unset, .unset, .unset, .unset, .unset] [(.int (p3 &&& (1 : Int32)))]))
  by_cases hc11_1200 : (p3 &&& (1 : Int32)) = (0 : Int32)
  · -- pc 11: yes
    refine OEnds.st (fun _ k => XS.ifYes X0.here hx rfl (pc0 := 11) (pc' := 18) rfl (hb hby at_11) rfl ((if0 _ _).trans (teq hc11_1200).1) (by decide) (by decide) k) ?_
    show OEnds p.tables e below G (s₁.setTop (mkF m 18 #[.val (.int p1), .val (.int p2), .val (.int p3), .val (.int v1001), .unset, .unset, .unset, .unset, .unset, .unset, .unset, .unset] []))
    refine OEnds.st (fun _ k => XS.iconst X0.here hx rfl (hb hby at_18) k) ?_
    show OEnds p.tables e below G (s₁.setTop (mkF m 19 #[.val (.int p1), .val (.int p2), .val (.int p3), .val (.int v1001), .unset, .unset, .unset, .unset, .unset, .unset, .unset, .unset] [(.int (0 : Int32))]))
    refine OEnds.st (fun _ k => XS.istore X0.here hx rfl (hb hby at_19) rfl (l' := #[.val (.int p1), .val (.int p2), .val (.int p3), .val (.int v1001), .val (.int (0 : Int32)), .unset, .unset, .unset, .unset, .unset, .unset, .unset]) rfl k) ?_
    exact rest21_1002 (0 : Int32) (Or.inl rfl)
  · -- pc 11: no
    refine OEnds.st (fun _ k => XS.ifNo X0.here hx rfl (hb hby at_11) rfl ((if0 _ _).trans (feq hc11_1200).1) k) ?_
    show OEnds p.tables e below G (s₁.setTop (mkF m 14 #[.val (.int p1), .val (.int p2), .val (.int p3), .val (.int v1001), .unset, .unset, .unset, .unset, .unset, .unset, .unset, .unset] []))
    refine OEnds.st (fun _ k => XS.iconst X0.here hx rfl (hb hby at_14) k) ?_
    show OEnds p.tables e below G (s₁.setTop (mkF m 15 #[.val (.int p1), .val (.int p2), .val (.int p3), .val (.int v1001), .unset, .unset, .unset, .unset, .unset, .unset, .unset, .unset] [(.int (1 : Int32))]))
    refine OEnds.st (fun _ k => XS.goto X0.here hx rfl (pc0 := 15) (pc' := 19) rfl (hb hby at_15) (by decide) (by decide) k) ?_
    show OEnds p.tables e below G (s₁.setTop (mkF m 19 #[.val (.int p1), .val (.int p2), .val (.int p3), .val (.int v1001), .unset, .unset, .unset, .unset, .unset, .unset, .unset, .unset] [(.int (1 : Int32))]))
    refine OEnds.st (fun _ k => XS.istore X0.here hx rfl (hb hby at_19) rfl (l' := #[.val (.int p1), .val (.int p2), .val (.int p3), .val (.int v1001), .val (.int (1 : Int32)), .unset, .unset, .unset, .unset, .unset, .unset, .unset]) rfl k) ?_
    exact rest21_1002 (1 : Int32) (Or.inr rfl)
set_option maxRecDepth 65536 in
set_option maxHeartbeats 40000000 in
theorem comes_1 {Post : Tables → Env → Array Value → State → Outcome → State → Prop} (hpost : ∀ tb e args s v u, (limb_1_1.after args s (.returned v) u = true ∧ limb_1_2.after args s (.returned v) u = true ∧ True) → Jvm.ReturnedEndW s (.returned v) u (Jvm.fieldLocs frame_1_writes args s ++ Jvm.arrayLocs frame_1_arrays args s ++ Jvm.staticLocs frame_1_statics s) 16 2176 → Post tb e args s (.returned v) u) :
    ArmFor flags0 classFile x code maxLocals ret World_1 tables_1 room_1 Calls_1 rest_1 Pre_1 Post := by
  intro l hfl _ _ p e ha hc hk s m args below hf hA hF happ hP
  obtain ⟨hcalls, hrest, hpre⟩ := hP
  obtain ⟨-, -, -, hnamed, -, -, -, hat⟩ := (Spec.applies_iff hf).mp happ
  obtain ⟨hg, hn⟩ := and_e (Cond.before_iff.mp (show (Jvm.Cond.and given_1 narrow_1).before args s = true from hpre))
  obtain ⟨gc, gr0⟩ := and_e hg
  obtain ⟨ga0, gr1⟩ := and_e gr0
  obtain ⟨ga1, gr2⟩ := and_e gr1
  obtain ⟨w0, w1, w2, rfl⟩ : ∃ w0 w1 w2 : Value, args = #[w0, w1, w2] := by
    have hs : args.size = 3 := by simpa [Cond.value, given_1] using gc
    obtain ⟨L⟩ := args
    match L, hs with
    | [w0, w1, w2], _ => exact ⟨w0, w1, w2, rfl⟩
  have hw := fun d (hd : d ∈ tables_1) => atoms_spec (ws := Jvm.Cond.code x code maxLocals ret :: tables_1) hat d (List.mem_cons_of_mem _ hd)
  have hfit : Fit s := fun {y c} hc i hi => by
    obtain ⟨ha, rfl⟩ := Array.getElem?_eq_some_iff.mp hc
    have q := List.all_eq_true.mp ((Array.all_eq_true_iff_forall_mem.mp hF) _ (Array.getElem_mem ha)) i (List.mem_range.mpr hi)
    simpa [Array.getElem?_eq_getElem hi] using q
  obtain ⟨i0, ei0⟩ := is_v ga0
  obtain rfl : w0 = (.int i0) := Option.some.inj ei0
  obtain ⟨i1, ei1⟩ := is_v ga1
  obtain rfl : w1 = (.int i1) := Option.some.inj ei1
  obtain ⟨i2, ei2⟩ := is_v gr2
  obtain rfl : w2 = (.int i2) := Option.some.inj ei2
  obtain ⟨nc0, hm0⟩ := and_e hn
  obtain ⟨nc1, hm1⟩ := and_e hm0
  obtain ⟨nc2, hm2⟩ := and_e hm1
  obtain ⟨nc3, hm3⟩ := and_e hm2
  obtain ⟨nc4, hm4⟩ := and_e hm3
  obtain ⟨nc5, hm5⟩ := and_e hm4
  obtain ⟨nc6, hm6⟩ := and_e hm5
  obtain ⟨nc7, hm7⟩ := and_e hm6
  obtain ⟨nc8, hm8⟩ := and_e hm7
  obtain ⟨nc9, hm9⟩ := and_e hm8
  obtain ⟨nc10, hm10⟩ := and_e hm9
  obtain ⟨nc11, hm11⟩ := and_e hm10
  obtain ⟨nc12, hm12⟩ := and_e hm11
  obtain ⟨nc13, hm13⟩ := and_e hm12
  obtain ⟨nc14, hm14⟩ := and_e hm13
  obtain ⟨nc15, hm15⟩ := and_e hm14
  obtain ⟨nc16, hm16⟩ := and_e hm15
  obtain ⟨nc17, hm17⟩ := and_e hm16
  obtain ⟨nc18, hm18⟩ := and_e hm17
  obtain ⟨o0, ev0⟩ := exa_v nc6
  obtain ⟨o1, ev1⟩ := exa_v nc2
  obtain ⟨o2, ev2⟩ := exa_v nc12
  obtain ⟨o3, ev3⟩ := exa_v nc0
  obtain ⟨o4, ev4⟩ := exa_v nc18
  obtain ⟨o5, ev5⟩ := exa_v nc10
  obtain ⟨o6, ev6⟩ := exa_v nc14
  obtain ⟨o7, ev7⟩ := exa_v nc8
  obtain ⟨o8, ev8⟩ := exa_v nc4
  obtain ⟨o9, ev9⟩ := exa_v nc16
  obtain ⟨n, o, h1, h2, h3, _, L, rfl, ⟨rfl, N⟩, hq⟩ := rm0 l s _ hw tables_1 i0 i1 i2 o0 o1 o2 o3 o4 o5 o6 o7 o8 o9 s.heap s.heap.size (Nat.le_refl _) (Sta.start ev0 (Or.inr ⟨(hw _ (List.mem_of_getElem? (i := 6) rfl)), (hw _ (List.mem_of_getElem? (i := 68) rfl))⟩)) (Exa.start ev0 nc6) (own_fld ev0 nc7) (Sta.start ev1 (Or.inr ⟨(hw _ (List.mem_of_getElem? (i := 6) rfl)), (hw _ (List.mem_of_getElem? (i := 54) rfl))⟩)) (Exa.start ev1 nc2) (own_fld ev1 nc3) (Sta.start ev2 (Or.inr ⟨(hw _ (List.mem_of_getElem? (i := 6) rfl)), (hw _ (List.mem_of_getElem? (i := 83) rfl))⟩)) (Exa.start ev2 nc12) (own_fld ev2 nc13) (Sta.start ev3 (Or.inr ⟨(hw _ (List.mem_of_getElem? (i := 6) rfl)), (hw _ (List.mem_of_getElem? (i := 7) rfl))⟩)) (Exa.start ev3 nc0) (own_fld ev3 nc1) (Sta.start ev4 (Or.inr ⟨(hw _ (List.mem_of_getElem? (i := 6) rfl)), (hw _ (List.mem_of_getElem? (i := 99) rfl))⟩)) (Exa.start ev4 nc18) (own_fld ev4 hm18) (Sta.start ev5 (Or.inr ⟨(hw _ (List.mem_of_getElem? (i := 6) rfl)), (hw _ (List.mem_of_getElem? (i := 78) rfl))⟩)) (Exa.start ev5 nc10) (own_fld ev5 nc11) (Sta.start ev6 (Or.inr ⟨(hw _ (List.mem_of_getElem? (i := 6) rfl)), (hw _ (List.mem_of_getElem? (i := 89) rfl))⟩)) (Exa.start ev6 nc14) (own_fld ev6 nc15) (Sta.start ev7 (Or.inr ⟨(hw _ (List.mem_of_getElem? (i := 6) rfl)), (hw _ (List.mem_of_getElem? (i := 73) rfl))⟩)) (Exa.start ev7 nc8) (own_fld ev7 nc9) (Sta.start ev8 (Or.inr ⟨(hw _ (List.mem_of_getElem? (i := 6) rfl)), (hw _ (List.mem_of_getElem? (i := 63) rfl))⟩)) (Exa.start ev8 nc4) (own_fld ev8 nc5) (Sta.start ev9 (Or.inr ⟨(hw _ (List.mem_of_getElem? (i := 6) rfl)), (hw _ (List.mem_of_getElem? (i := 94) rfl))⟩)) (Exa.start ev9 nc16) (own_fld ev9 nc17) p e ha hc hk s m _ below hf ((Spec.applies_iff_loose hf).mp happ).1 ⟨rfl, State.Warmed39.refl s, rfl⟩ trivial
  refine ⟨n, _, h1, h2, h3, hpost _ _ _ _ _ _ ⟨Cond.after_iff.mpr rfl, Cond.after_iff.mpr (eq_i res_at (Term.int_eval (1)) rfl), trivial⟩ ⟨hq.1, hq.2.1, hq.2.2.1, (hq.2.2.2.sift fun y hy => Or.inr (N y hy)).mono (by decide) (by decide)⟩⟩
theorem main_1_1 : Claimed_1_1 := comes_1 fun _ _ _ _ _ _ h hF => ⟨h.1, hF⟩
theorem main_1_2 : Claimed_1_2 := comes_1 fun _ _ _ _ _ _ h hF => ⟨h.2.1, hF⟩
end Jvm.Pilot.@@N@@
namespace Jvm.Pilot.@@N@@
open Jvm Jvm.ClassFile Sem Op Lib Jvm.Free Jvm.Stand Jvm.Pilot.@@N@@.Jvm.D
/-! MADE BY PROGRAM (witnessworld.py) out of the Statement's table words and the real class files: 26 classes; the members and pool entries that the words name. The judged class is class 1, her method 3. -/
namespace start1
open Jvm.ClassFile
def u (s : String) : CpInfo := .utf8 (stringToUtf16 s)
/-- a pool by its gaps: so many unusable entries, then the entry; so many at the end -/
def gap : Nat → List CpInfo → List CpInfo
  | 0, r => r
  | n + 1, r => .unusable :: gap n r
def poolList (es : List (Nat × CpInfo)) (last : Nat) : List CpInfo := es.foldr (fun e r => gap e.1 (e.2 :: r)) (gap last [])
def pool (es : List (Nat × CpInfo)) (last : Nat) : Array CpInfo := ⟨poolList es last⟩
def fileOf (pool : Array CpInfo) (this : Nat) (attrs : Array Attribute := #[]) (ms : Array MethodInfo := #[]) (fl : Nat := 33) (sup : Nat := 0) (ifs : Array Nat := #[]) (fds : Array FieldInfo := #[]) : ClassFile where
  minorVersion := 0
  majorVersion := 65
  constantPool := pool
  accessFlags := fl
  thisClass := this
  superClass := sup
  interfaces := ifs
  fields := fds
  methods := ms
  attributes := attrs
def plain (name : String) (sup : Option ClassId) : Class where
  name := name
  kind := .ordinary
  loader := none
  accessFlags := 33
  super := sup
  interfaces := #[]
  cf := none
  fields := #[]
  methods := #[]
  instanceTypes := #[]
  staticTypes := #[]
  resolved := #[]
  callSites := []
  init := .initialized
  statics := none
  mirror := none

def pool0 : Array CpInfo := pool [(5, u "<init>"), (0, u "()V"), (1, .class_ 10), (1, u "java/lang/Object")] 113

def k0c0 : Code := { maxStack := 0, maxLocals := 1, code := object_method_1_code, exceptionTable := #[], attributes := #[] }
def k0m0 : Method := { name := "<init>", desc := "()V", sig := { parameters := [], returnType := none }, accessFlags := 1, code := some k0c0 }
/-- java/lang/Object -/
def k0 : Class := { plain "java/lang/Object" none with
  accessFlags := 33
  interfaces := #[]
  cf := some (fileOf pool0 8 #[] #[{ accessFlags := 1, nameIndex := 5, descriptorIndex := 6, attributes := #[] }] 33 0 #[] #[])
  fields := #[]
  methods := #[k0m0]
  instanceTypes := #[]
  staticTypes := #[]
  resolved := Array.replicate 124 none
  statics := none }

def pool1 : Array CpInfo := pool [(2, .class_ 4), (1, u "java/lang/Object"), (0, u "<init>"), (0, u "()V"), (0, .fieldref 8 9), (0, .class_ 10), (0, .nameAndType 11 12), (0, u "com/example/nearfar/nearfar/StoredType"), (0, u "STRING"), (0, u "Lcom/example/nearfar/nearfar/StoredType;"), (0, .fieldref 8 14), (0, .nameAndType 15 12), (0, u "BYTES"), (0, .fieldref 8 17), (0, .nameAndType 18 12), (0, u "SINT32"), (0, .fieldref 8 20), (0, .nameAndType 21 12), (0, u "SINT64"), (0, .fieldref 8 23), (0, .nameAndType 24 12), (0, u "DOUBLE"), (0, .fieldref 8 26), (0, .nameAndType 27 12), (0, u "FLOAT"), (0, .fieldref 8 29), (0, .nameAndType 30 12), (0, u "BOOL"), (0, .fieldref 8 32), (0, .nameAndType 33 12), (0, u "ENUM"), (0, .fieldref 8 35), (0, .nameAndType 36 12), (0, u "TIMESTAMP"), (0, .fieldref 8 38), (0, .nameAndType 39 12), (0, u "DURATION"), (0, .integer 2147483647), (0, .methodref 42 43), (0, .class_ 44), (0, .nameAndType 45 46), (0, u "com/example/nearfar/nearfar/FieldAllowsPinLaw"), (0, u "storedOf"), (0, u "(I)Lcom/example/nearfar/nearfar/StoredType;"), (0, .string 48), (0, u ".M"), (0, .class_ 50), (0, u "com/example/nearfar/nearfar/DescriptorSet$Field"), (0, .string 52), (0, u "a"), (0, .methodref 49 54), (0, .nameAndType 5 55), (0, u "(Ljava/lang/String;IZLcom/example/nearfar/nearfar/StoredType;Ljava/lang/String;Ljava/lang/String;)V"), (0, .methodref 42 57), (0, .nameAndType 58 59), (0, u "wireOf"), (0, u "(I)I"), (0, .methodref 49 61), (0, .nameAndType 62 63), (0, u "allows"), (0, u "(I)Z"), (3, u "law"), (0, u "(III)Z")] 8

def k1m0 : Method := { name := "<init>", desc := "()V", sig := { parameters := [], returnType := none }, accessFlags := 2, code := none }
def k1c1 : Code := { maxStack := 2, maxLocals := 1, code := method_2_code, exceptionTable := #[], attributes := #[] }
def k1m1 : Method := { name := "storedOf", desc := "(I)Lcom/example/nearfar/nearfar/StoredType;", sig := { parameters := [.int], returnType := some (.object "com/example/nearfar/nearfar/StoredType") }, accessFlags := 10, code := some k1c1 }
def k1c2 : Code := { maxStack := 2, maxLocals := 1, code := method_3_code, exceptionTable := #[], attributes := #[] }
def k1m2 : Method := { name := "wireOf", desc := "(I)I", sig := { parameters := [.int], returnType := some .int }, accessFlags := 10, code := some k1c2 }
def k1c3 : Code := { maxStack := 8, maxLocals := 12, code := code, exceptionTable := #[], attributes := #[] }
def k1m3 : Method := { name := "law", desc := "(III)Z", sig := { parameters := [.int, .int, .int], returnType := some .boolean }, accessFlags := 9, code := some k1c3 }
/-- com/example/nearfar/nearfar/FieldAllowsPinLaw -/
def k1 : Class := { plain "com/example/nearfar/nearfar/FieldAllowsPinLaw" (some 0) with
  accessFlags := 49
  interfaces := #[]
  cf := some (fileOf pool1 42 #[] #[{ accessFlags := 2, nameIndex := 5, descriptorIndex := 6, attributes := #[] }, { accessFlags := 10, nameIndex := 45, descriptorIndex := 46, attributes := #[] }, { accessFlags := 10, nameIndex := 58, descriptorIndex := 59, attributes := #[] }, { accessFlags := 9, nameIndex := 67, descriptorIndex := 68, attributes := #[] }] 49 2 #[] #[])
  fields := #[]
  methods := #[k1m0, k1m1, k1m2, k1m3]
  instanceTypes := #[]
  staticTypes := #[]
  resolved := Array.replicate 77 none
  statics := none }

def pool2 : Array CpInfo := pool [(1, .class_ 2), (0, u "java/lang/constant/Constable"), (0, .class_ 4), (0, u "java/lang/Object")] 6

/-- java/lang/constant/Constable -/
def k2 : Class := { plain "java/lang/constant/Constable" (some 0) with
  accessFlags := 1537
  interfaces := #[]
  cf := some (fileOf pool2 1 #[] #[] 1537 3 #[] #[])
  fields := #[]
  methods := #[]
  instanceTypes := #[]
  staticTypes := #[]
  resolved := Array.replicate 11 none
  statics := none }

def pool3 : Array CpInfo := pool [(1, .class_ 2), (0, u "java/lang/Comparable"), (0, .class_ 4), (0, u "java/lang/Object")] 7

/-- java/lang/Comparable -/
def k3 : Class := { plain "java/lang/Comparable" (some 0) with
  accessFlags := 1537
  interfaces := #[]
  cf := some (fileOf pool3 1 #[] #[] 1537 3 #[] #[])
  fields := #[]
  methods := #[]
  instanceTypes := #[]
  staticTypes := #[]
  resolved := Array.replicate 12 none
  statics := none }

def pool4 : Array CpInfo := pool [(1, .class_ 2), (0, u "java/io/Serializable"), (0, .class_ 4), (0, u "java/lang/Object")] 2

/-- java/io/Serializable -/
def k4 : Class := { plain "java/io/Serializable" (some 0) with
  accessFlags := 1537
  interfaces := #[]
  cf := some (fileOf pool4 1 #[] #[] 1537 3 #[] #[])
  fields := #[]
  methods := #[]
  instanceTypes := #[]
  staticTypes := #[]
  resolved := Array.replicate 7 none
  statics := none }

def pool5 : Array CpInfo := pool [(2, .class_ 4), (1, u "java/lang/Enum"), (0, u "name"), (0, u "Ljava/lang/String;"), (2, u "ordinal"), (0, u "I"), (1, .class_ 14), (1, u "java/lang/Object"), (4, u "hash"), (86, .class_ 108), (1, u "java/lang/Enum$EnumDesc"), (2, .class_ 112), (0, u "java/lang/constant/Constable"), (0, .class_ 114), (0, u "java/lang/Comparable"), (0, .class_ 116), (0, u "java/io/Serializable")] 87

/-- java/lang/Enum -/
def k5 : Class := { plain "java/lang/Enum" (some 0) with
  accessFlags := 1057
  interfaces := #[2, 3, 4]
  cf := some (fileOf pool5 2 #[.nestMembers #[106]] #[] 1057 12 #[111, 113, 115] #[{ accessFlags := 18, nameIndex := 5, descriptorIndex := 6, attributes := #[] }, { accessFlags := 18, nameIndex := 9, descriptorIndex := 10, attributes := #[] }, { accessFlags := 2, nameIndex := 19, descriptorIndex := 10, attributes := #[] }])
  fields := #[{ name := "name", type := (.object "java/lang/String"), accessFlags := 18, slot := 0, constantValue := 0 }, { name := "ordinal", type := .int, accessFlags := 18, slot := 1, constantValue := 0 }, { name := "hash", type := .int, accessFlags := 2, slot := 2, constantValue := 0 }]
  methods := #[]
  instanceTypes := #[(.object "java/lang/String"), .int, .int]
  staticTypes := #[]
  resolved := Array.replicate 204 none
  statics := none }

def pool6 : Array CpInfo := pool [(1, .class_ 2), (0, u "com/example/nearfar/nearfar/StoredType"), (2, u "STRING"), (0, u "Lcom/example/nearfar/nearfar/StoredType;"), (2, u "BYTES"), (2, u "SINT32"), (2, u "SINT64"), (2, u "DOUBLE"), (2, u "FLOAT"), (2, u "BOOL"), (2, u "ENUM"), (2, u "TIMESTAMP"), (2, u "DURATION"), (2, u "$VALUES"), (0, u "[Lcom/example/nearfar/nearfar/StoredType;"), (6, .class_ 46), (1, u "java/lang/Enum"), (8, u "descriptorType"), (0, u "I"), (0, .fieldref 1 58), (0, .nameAndType 59 56), (0, u "wireType"), (2, u "integer"), (0, u "Z"), (2, u "defaultValue"), (0, u "Ljava/lang/Object;"), (2, u "fileName"), (0, u "Ljava/lang/String;"), (2, u "messageName"), (42, u "()Z"), (3, u "()I"), (16, .class_ 140), (1, u "com/example/nearfar/nearfar/StoredType$SecondsAndNanos"), (5, .class_ 147), (0, u "com/example/nearfar/nearfar/StoredType$1"), (8, .class_ 157), (0, u "com/example/nearfar/nearfar/StoredType$2"), (2, .class_ 161), (0, u "com/example/nearfar/nearfar/StoredType$3"), (7, .class_ 170), (0, u "com/example/nearfar/nearfar/StoredType$4"), (7, .class_ 179), (0, u "com/example/nearfar/nearfar/StoredType$5"), (7, .class_ 188), (0, u "com/example/nearfar/nearfar/StoredType$6"), (7, .class_ 197), (0, u "com/example/nearfar/nearfar/StoredType$7"), (7, .class_ 206), (0, u "com/example/nearfar/nearfar/StoredType$8"), (2, .class_ 210), (0, u "com/example/nearfar/nearfar/StoredType$9"), (12, .class_ 224), (0, u "com/example/nearfar/nearfar/StoredType$10"), (15, u "WELL_KNOWN_PACKAGE"), (3, u "SECONDS_NUMBER"), (1, u "NANOS_NUMBER"), (1, u "NANOS_PER_SECOND"), (9, u "packed")] 37

def k6c0 : Code := { maxStack := 1, maxLocals := 1, code := prog_51_method_6_code, exceptionTable := #[], attributes := #[] }
def k6m0 : Method := { name := "wireType", desc := "()I", sig := { parameters := [], returnType := some .int }, accessFlags := 0, code := some k6c0 }
def k6c1 : Code := { maxStack := 2, maxLocals := 1, code := prog_51_method_7_code, exceptionTable := #[], attributes := #[] }
def k6m1 : Method := { name := "packed", desc := "()Z", sig := { parameters := [], returnType := some .boolean }, accessFlags := 0, code := some k6c1 }
/-- com/example/nearfar/nearfar/StoredType -/
def k6 : Class := { plain "com/example/nearfar/nearfar/StoredType" (some 5) with
  accessFlags := 17440
  interfaces := #[]
  cf := some (fileOf pool6 1 #[.nestMembers #[138, 223, 209, 205, 196, 187, 178, 169, 160, 156, 146]] #[{ accessFlags := 0, nameIndex := 59, descriptorIndex := 121, attributes := #[] }, { accessFlags := 0, nameIndex := 258, descriptorIndex := 117, attributes := #[] }] 17440 44 #[] #[{ accessFlags := 16409, nameIndex := 5, descriptorIndex := 6, attributes := #[] }, { accessFlags := 16409, nameIndex := 9, descriptorIndex := 6, attributes := #[] }, { accessFlags := 16409, nameIndex := 12, descriptorIndex := 6, attributes := #[] }, { accessFlags := 16409, nameIndex := 15, descriptorIndex := 6, attributes := #[] }, { accessFlags := 16409, nameIndex := 18, descriptorIndex := 6, attributes := #[] }, { accessFlags := 16409, nameIndex := 21, descriptorIndex := 6, attributes := #[] }, { accessFlags := 16409, nameIndex := 24, descriptorIndex := 6, attributes := #[] }, { accessFlags := 16409, nameIndex := 27, descriptorIndex := 6, attributes := #[] }, { accessFlags := 16409, nameIndex := 30, descriptorIndex := 6, attributes := #[] }, { accessFlags := 16409, nameIndex := 33, descriptorIndex := 6, attributes := #[] }, { accessFlags := 24, nameIndex := 240, descriptorIndex := 71, attributes := #[] }, { accessFlags := 24, nameIndex := 244, descriptorIndex := 56, attributes := #[] }, { accessFlags := 24, nameIndex := 246, descriptorIndex := 56, attributes := #[] }, { accessFlags := 26, nameIndex := 248, descriptorIndex := 56, attributes := #[] }, { accessFlags := 18, nameIndex := 55, descriptorIndex := 56, attributes := #[] }, { accessFlags := 18, nameIndex := 59, descriptorIndex := 56, attributes := #[] }, { accessFlags := 18, nameIndex := 62, descriptorIndex := 63, attributes := #[] }, { accessFlags := 18, nameIndex := 66, descriptorIndex := 67, attributes := #[] }, { accessFlags := 18, nameIndex := 70, descriptorIndex := 71, attributes := #[] }, { accessFlags := 18, nameIndex := 74, descriptorIndex := 71, attributes := #[] }, { accessFlags := 4122, nameIndex := 36, descriptorIndex := 37, attributes := #[] }])
  fields := #[{ name := "STRING", type := (.object "com/example/nearfar/nearfar/StoredType"), accessFlags := 16409, slot := 0, constantValue := 0 }, { name := "BYTES", type := (.object "com/example/nearfar/nearfar/StoredType"), accessFlags := 16409, slot := 1, constantValue := 0 }, { name := "SINT32", type := (.object "com/example/nearfar/nearfar/StoredType"), accessFlags := 16409, slot := 2, constantValue := 0 }, { name := "SINT64", type := (.object "com/example/nearfar/nearfar/StoredType"), accessFlags := 16409, slot := 3, constantValue := 0 }, { name := "DOUBLE", type := (.object "com/example/nearfar/nearfar/StoredType"), accessFlags := 16409, slot := 4, constantValue := 0 }, { name := "FLOAT", type := (.object "com/example/nearfar/nearfar/StoredType"), accessFlags := 16409, slot := 5, constantValue := 0 }, { name := "BOOL", type := (.object "com/example/nearfar/nearfar/StoredType"), accessFlags := 16409, slot := 6, constantValue := 0 }, { name := "ENUM", type := (.object "com/example/nearfar/nearfar/StoredType"), accessFlags := 16409, slot := 7, constantValue := 0 }, { name := "TIMESTAMP", type := (.object "com/example/nearfar/nearfar/StoredType"), accessFlags := 16409, slot := 8, constantValue := 0 }, { name := "DURATION", type := (.object "com/example/nearfar/nearfar/StoredType"), accessFlags := 16409, slot := 9, constantValue := 0 }, { name := "WELL_KNOWN_PACKAGE", type := (.object "java/lang/String"), accessFlags := 24, slot := 10, constantValue := 0 }, { name := "SECONDS_NUMBER", type := .int, accessFlags := 24, slot := 11, constantValue := 0 }, { name := "NANOS_NUMBER", type := .int, accessFlags := 24, slot := 12, constantValue := 0 }, { name := "NANOS_PER_SECOND", type := .int, accessFlags := 26, slot := 13, constantValue := 0 }, { name := "descriptorType", type := .int, accessFlags := 18, slot := 3, constantValue := 0 }, { name := "wireType", type := .int, accessFlags := 18, slot := 4, constantValue := 0 }, { name := "integer", type := .boolean, accessFlags := 18, slot := 5, constantValue := 0 }, { name := "defaultValue", type := (.object "java/lang/Object"), accessFlags := 18, slot := 6, constantValue := 0 }, { name := "fileName", type := (.object "java/lang/String"), accessFlags := 18, slot := 7, constantValue := 0 }, { name := "messageName", type := (.object "java/lang/String"), accessFlags := 18, slot := 8, constantValue := 0 }, { name := "$VALUES", type := (.array (.object "com/example/nearfar/nearfar/StoredType")), accessFlags := 4122, slot := 14, constantValue := 0 }]
  methods := #[k6m0, k6m1]
  instanceTypes := #[(.object "java/lang/String"), .int, .int, .int, .int, .boolean, (.object "java/lang/Object"), (.object "java/lang/String"), (.object "java/lang/String")]
  staticTypes := #[(.object "com/example/nearfar/nearfar/StoredType"), (.object "com/example/nearfar/nearfar/StoredType"), (.object "com/example/nearfar/nearfar/StoredType"), (.object "com/example/nearfar/nearfar/StoredType"), (.object "com/example/nearfar/nearfar/StoredType"), (.object "com/example/nearfar/nearfar/StoredType"), (.object "com/example/nearfar/nearfar/StoredType"), (.object "com/example/nearfar/nearfar/StoredType"), (.object "com/example/nearfar/nearfar/StoredType"), (.object "com/example/nearfar/nearfar/StoredType"), (.object "java/lang/String"), .int, .int, .int, (.array (.object "com/example/nearfar/nearfar/StoredType"))]
  resolved := Array.replicate 296 none
  statics := some 0 }

def pool7 : Array CpInfo := pool [(2, .class_ 4), (1, u "java/lang/CharSequence"), (42, .class_ 48), (0, u "java/lang/CharSequence$1CodePointIterator"), (10, .class_ 60), (0, u "java/lang/CharSequence$1CharIterator"), (5, .class_ 67), (0, u "java/lang/Object")] 63

/-- java/lang/CharSequence -/
def k7 : Class := { plain "java/lang/CharSequence" (some 0) with
  accessFlags := 1537
  interfaces := #[]
  cf := some (fileOf pool7 2 #[.nestMembers #[47, 59]] #[] 1537 66 #[] #[])
  fields := #[]
  methods := #[]
  instanceTypes := #[]
  staticTypes := #[]
  resolved := Array.replicate 131 none
  statics := none }

def pool8 : Array CpInfo := pool [(1, .class_ 2), (0, u "java/lang/constant/ConstantDesc"), (0, .class_ 4), (0, u "java/lang/Object")] 32

/-- java/lang/constant/ConstantDesc -/
def k8 : Class := { plain "java/lang/constant/ConstantDesc" (some 0) with
  accessFlags := 1537
  interfaces := #[]
  cf := some (fileOf pool8 1 #[] #[] 1537 3 #[] #[])
  fields := #[]
  methods := #[]
  instanceTypes := #[]
  staticTypes := #[]
  resolved := Array.replicate 37 none
  statics := none }

def pool9 : Array CpInfo := pool [(2, .class_ 4), (1, u "java/lang/Object"), (0, u "<init>"), (0, u "()V"), (3, .class_ 12), (1, u "java/lang/String"), (0, u "value"), (0, u "[B"), (2, u "coder"), (0, u "B"), (2, u "hash"), (0, u "I"), (2, u "hashIsZero"), (0, u "Z"), (13, u "COMPACT_STRINGS"), (534, .class_ 576), (0, u "java/lang/CharSequence"), (22, u "CASE_INSENSITIVE_ORDER"), (0, u "Ljava/util/Comparator;"), (500, u "serialPersistentFields"), (0, u "[Ljava/io/ObjectStreamField;"), (0, .class_ 1104), (0, u "java/lang/String$CaseInsensitiveComparator"), (1, .class_ 1107), (0, u "java/io/Serializable"), (0, .class_ 1109), (0, u "java/lang/Comparable"), (0, .class_ 1111), (0, u "java/lang/constant/Constable"), (0, .class_ 1113), (0, u "java/lang/constant/ConstantDesc"), (2, u "serialVersionUID"), (0, u "J"), (3, u "REPL"), (0, u "C"), (2, u "LATIN1"), (1, u "UTF16")] 323

def k9m0 : Method := { name := "<init>", desc := "()V", sig := { parameters := [], returnType := none }, accessFlags := 1, code := none }
/-- java/lang/String -/
def k9 : Class := { plain "java/lang/String" (some 0) with
  accessFlags := 49
  interfaces := #[4, 3, 7, 2, 8]
  cf := some (fileOf pool9 10 #[.nestMembers #[1103]] #[{ accessFlags := 1, nameIndex := 5, descriptorIndex := 6, attributes := #[] }] 49 2 #[1106, 1108, 575, 1110, 1112] #[{ accessFlags := 18, nameIndex := 13, descriptorIndex := 14, attributes := #[] }, { accessFlags := 18, nameIndex := 17, descriptorIndex := 18, attributes := #[] }, { accessFlags := 2, nameIndex := 21, descriptorIndex := 22, attributes := #[] }, { accessFlags := 2, nameIndex := 25, descriptorIndex := 26, attributes := #[] }, { accessFlags := 26, nameIndex := 1116, descriptorIndex := 1117, attributes := #[] }, { accessFlags := 24, nameIndex := 40, descriptorIndex := 26, attributes := #[] }, { accessFlags := 26, nameIndex := 1101, descriptorIndex := 1102, attributes := #[] }, { accessFlags := 26, nameIndex := 1121, descriptorIndex := 1122, attributes := #[] }, { accessFlags := 25, nameIndex := 599, descriptorIndex := 600, attributes := #[] }, { accessFlags := 24, nameIndex := 1125, descriptorIndex := 18, attributes := #[] }, { accessFlags := 24, nameIndex := 1127, descriptorIndex := 18, attributes := #[] }])
  fields := #[{ name := "value", type := (.array .byte), accessFlags := 18, slot := 0, constantValue := 0 }, { name := "coder", type := .byte, accessFlags := 18, slot := 1, constantValue := 0 }, { name := "hash", type := .int, accessFlags := 2, slot := 2, constantValue := 0 }, { name := "hashIsZero", type := .boolean, accessFlags := 2, slot := 3, constantValue := 0 }, { name := "serialVersionUID", type := .long, accessFlags := 26, slot := 0, constantValue := 0 }, { name := "COMPACT_STRINGS", type := .boolean, accessFlags := 24, slot := 1, constantValue := 0 }, { name := "serialPersistentFields", type := (.array (.object "java/io/ObjectStreamField")), accessFlags := 26, slot := 2, constantValue := 0 }, { name := "REPL", type := .char, accessFlags := 26, slot := 3, constantValue := 0 }, { name := "CASE_INSENSITIVE_ORDER", type := (.object "java/util/Comparator"), accessFlags := 25, slot := 4, constantValue := 0 }, { name := "LATIN1", type := .byte, accessFlags := 24, slot := 5, constantValue := 0 }, { name := "UTF16", type := .byte, accessFlags := 24, slot := 6, constantValue := 0 }]
  methods := #[k9m0]
  instanceTypes := #[(.array .byte), .byte, .int, .boolean]
  staticTypes := #[.long, .boolean, (.array (.object "java/io/ObjectStreamField")), .char, (.object "java/util/Comparator"), .byte, .byte]
  resolved := Array.replicate 1451 none
  statics := none }

def pool10 : Array CpInfo := pool [(1, .methodref 2 3), (0, .class_ 4), (0, .nameAndType 5 6), (0, u "java/lang/Object"), (0, u "<init>"), (0, u "()V"), (0, .fieldref 8 9), (0, .class_ 10), (0, .nameAndType 11 12), (0, u "com/example/nearfar/nearfar/DescriptorSet$Field"), (0, u "name"), (0, u "Ljava/lang/String;"), (0, .fieldref 8 14), (0, .nameAndType 15 16), (0, u "number"), (0, u "I"), (0, .fieldref 8 18), (0, .nameAndType 19 20), (0, u "repeated"), (0, u "Z"), (0, .fieldref 8 22), (0, .nameAndType 23 24), (0, u "stored"), (0, u "Lcom/example/nearfar/nearfar/StoredType;"), (0, .fieldref 8 26), (0, .nameAndType 27 12), (0, u "messageType"), (0, .fieldref 8 29), (0, .nameAndType 30 12), (0, u "enumType"), (0, .methodref 32 33), (0, .class_ 34), (0, .nameAndType 35 36), (0, u "com/example/nearfar/nearfar/StoredType"), (0, u "wireType"), (0, u "()I"), (0, .methodref 32 38), (0, .nameAndType 39 40), (0, u "packed"), (0, u "()Z"), (2, u "(Ljava/lang/String;IZLcom/example/nearfar/nearfar/StoredType;Ljava/lang/String;Ljava/lang/String;)V"), (4, u "allows"), (0, u "(I)Z"), (4, .class_ 55), (0, u "com/example/nearfar/nearfar/DescriptorSet")] 2

def k10c0 : Code := { maxStack := 2, maxLocals := 7, code := prog_16_method_1_code, exceptionTable := #[], attributes := #[] }
def k10m0 : Method := { name := "<init>", desc := "(Ljava/lang/String;IZLcom/example/nearfar/nearfar/StoredType;Ljava/lang/String;Ljava/lang/String;)V", sig := { parameters := [(.object "java/lang/String"), .int, .boolean, (.object "com/example/nearfar/nearfar/StoredType"), (.object "java/lang/String"), (.object "java/lang/String")], returnType := none }, accessFlags := 0, code := some k10c0 }
def k10c1 : Code := { maxStack := 2, maxLocals := 2, code := prog_16_method_5_code, exceptionTable := #[], attributes := #[] }
def k10m1 : Method := { name := "allows", desc := "(I)Z", sig := { parameters := [.int], returnType := some .boolean }, accessFlags := 0, code := some k10c1 }
/-- com/example/nearfar/nearfar/DescriptorSet$Field -/
def k10 : Class := { plain "com/example/nearfar/nearfar/DescriptorSet$Field" (some 0) with
  accessFlags := 32
  interfaces := #[]
  cf := some (fileOf pool10 8 #[.nestHost 54] #[{ accessFlags := 0, nameIndex := 5, descriptorIndex := 43, attributes := #[] }, { accessFlags := 0, nameIndex := 48, descriptorIndex := 49, attributes := #[] }] 32 2 #[] #[{ accessFlags := 18, nameIndex := 11, descriptorIndex := 12, attributes := #[] }, { accessFlags := 18, nameIndex := 15, descriptorIndex := 16, attributes := #[] }, { accessFlags := 18, nameIndex := 19, descriptorIndex := 20, attributes := #[] }, { accessFlags := 18, nameIndex := 23, descriptorIndex := 24, attributes := #[] }, { accessFlags := 18, nameIndex := 27, descriptorIndex := 12, attributes := #[] }, { accessFlags := 18, nameIndex := 30, descriptorIndex := 12, attributes := #[] }])
  fields := #[{ name := "name", type := (.object "java/lang/String"), accessFlags := 18, slot := 0, constantValue := 0 }, { name := "number", type := .int, accessFlags := 18, slot := 1, constantValue := 0 }, { name := "repeated", type := .boolean, accessFlags := 18, slot := 2, constantValue := 0 }, { name := "stored", type := (.object "com/example/nearfar/nearfar/StoredType"), accessFlags := 18, slot := 3, constantValue := 0 }, { name := "messageType", type := (.object "java/lang/String"), accessFlags := 18, slot := 4, constantValue := 0 }, { name := "enumType", type := (.object "java/lang/String"), accessFlags := 18, slot := 5, constantValue := 0 }]
  methods := #[k10m0, k10m1]
  instanceTypes := #[(.object "java/lang/String"), .int, .boolean, (.object "com/example/nearfar/nearfar/StoredType"), (.object "java/lang/String"), (.object "java/lang/String")]
  staticTypes := #[]
  resolved := Array.replicate 58 none
  statics := none }

def pool11 : Array CpInfo := pool [(2, .class_ 4), (1, u "com/example/nearfar/nearfar/StoredType"), (22, .class_ 28), (0, u "com/example/nearfar/nearfar/StoredType$4")] 12

/-- com/example/nearfar/nearfar/StoredType$4 -/
def k11 : Class := { plain "com/example/nearfar/nearfar/StoredType$4" (some 6) with
  accessFlags := 16432
  interfaces := #[]
  cf := some (fileOf pool11 27 #[.nestHost 2] #[] 16432 2 #[] #[])
  fields := #[]
  methods := #[]
  instanceTypes := #[(.object "java/lang/String"), .int, .int, .int, .int, .boolean, (.object "java/lang/Object"), (.object "java/lang/String"), (.object "java/lang/String")]
  staticTypes := #[]
  resolved := Array.replicate 41 none
  statics := none }

def pool12 : Array CpInfo := pool [(2, .class_ 4), (1, u "com/example/nearfar/nearfar/StoredType"), (15, .class_ 21), (0, u "com/example/nearfar/nearfar/StoredType$2")] 12

/-- com/example/nearfar/nearfar/StoredType$2 -/
def k12 : Class := { plain "com/example/nearfar/nearfar/StoredType$2" (some 6) with
  accessFlags := 16432
  interfaces := #[]
  cf := some (fileOf pool12 20 #[.nestHost 2] #[] 16432 2 #[] #[])
  fields := #[]
  methods := #[]
  instanceTypes := #[(.object "java/lang/String"), .int, .int, .int, .int, .boolean, (.object "java/lang/Object"), (.object "java/lang/String"), (.object "java/lang/String")]
  staticTypes := #[]
  resolved := Array.replicate 34 none
  statics := none }

def pool13 : Array CpInfo := pool [(1, .class_ 2), (0, u "com/example/nearfar/nearfar/StoredType"), (33, .class_ 37), (0, u "com/example/nearfar/nearfar/StoredType$9")] 35

/-- com/example/nearfar/nearfar/StoredType$9 -/
def k13 : Class := { plain "com/example/nearfar/nearfar/StoredType$9" (some 6) with
  accessFlags := 16432
  interfaces := #[]
  cf := some (fileOf pool13 36 #[.nestHost 1] #[] 16432 1 #[] #[])
  fields := #[]
  methods := #[]
  instanceTypes := #[(.object "java/lang/String"), .int, .int, .int, .int, .boolean, (.object "java/lang/Object"), (.object "java/lang/String"), (.object "java/lang/String")]
  staticTypes := #[]
  resolved := Array.replicate 73 none
  statics := none }

def pool14 : Array CpInfo := pool [(2, .class_ 4), (1, u "com/example/nearfar/nearfar/StoredType"), (15, .class_ 21), (0, u "com/example/nearfar/nearfar/StoredType$1")] 12

/-- com/example/nearfar/nearfar/StoredType$1 -/
def k14 : Class := { plain "com/example/nearfar/nearfar/StoredType$1" (some 6) with
  accessFlags := 16432
  interfaces := #[]
  cf := some (fileOf pool14 20 #[.nestHost 2] #[] 16432 2 #[] #[])
  fields := #[]
  methods := #[]
  instanceTypes := #[(.object "java/lang/String"), .int, .int, .int, .int, .boolean, (.object "java/lang/Object"), (.object "java/lang/String"), (.object "java/lang/String")]
  staticTypes := #[]
  resolved := Array.replicate 34 none
  statics := none }

def pool15 : Array CpInfo := pool [(2, .class_ 4), (1, u "com/example/nearfar/nearfar/StoredType"), (23, .class_ 29), (0, u "com/example/nearfar/nearfar/StoredType$8")] 12

/-- com/example/nearfar/nearfar/StoredType$8 -/
def k15 : Class := { plain "com/example/nearfar/nearfar/StoredType$8" (some 6) with
  accessFlags := 16432
  interfaces := #[]
  cf := some (fileOf pool15 28 #[.nestHost 2] #[] 16432 2 #[] #[])
  fields := #[]
  methods := #[]
  instanceTypes := #[(.object "java/lang/String"), .int, .int, .int, .int, .boolean, (.object "java/lang/Object"), (.object "java/lang/String"), (.object "java/lang/String")]
  staticTypes := #[]
  resolved := Array.replicate 42 none
  statics := none }

def pool16 : Array CpInfo := pool [(2, .class_ 4), (1, u "com/example/nearfar/nearfar/StoredType"), (31, .class_ 37), (0, u "com/example/nearfar/nearfar/StoredType$6")] 12

/-- com/example/nearfar/nearfar/StoredType$6 -/
def k16 : Class := { plain "com/example/nearfar/nearfar/StoredType$6" (some 6) with
  accessFlags := 16432
  interfaces := #[]
  cf := some (fileOf pool16 36 #[.nestHost 2] #[] 16432 2 #[] #[])
  fields := #[]
  methods := #[]
  instanceTypes := #[(.object "java/lang/String"), .int, .int, .int, .int, .boolean, (.object "java/lang/Object"), (.object "java/lang/String"), (.object "java/lang/String")]
  staticTypes := #[]
  resolved := Array.replicate 50 none
  statics := none }

def pool17 : Array CpInfo := pool [(2, .class_ 4), (1, u "com/example/nearfar/nearfar/StoredType"), (22, .class_ 28), (0, u "com/example/nearfar/nearfar/StoredType$3")] 12

/-- com/example/nearfar/nearfar/StoredType$3 -/
def k17 : Class := { plain "com/example/nearfar/nearfar/StoredType$3" (some 6) with
  accessFlags := 16432
  interfaces := #[]
  cf := some (fileOf pool17 27 #[.nestHost 2] #[] 16432 2 #[] #[])
  fields := #[]
  methods := #[]
  instanceTypes := #[(.object "java/lang/String"), .int, .int, .int, .int, .boolean, (.object "java/lang/Object"), (.object "java/lang/String"), (.object "java/lang/String")]
  staticTypes := #[]
  resolved := Array.replicate 41 none
  statics := none }

def pool18 : Array CpInfo := pool [(2, .class_ 4), (1, u "com/example/nearfar/nearfar/StoredType"), (23, .class_ 29), (0, u "com/example/nearfar/nearfar/StoredType$7")] 15

/-- com/example/nearfar/nearfar/StoredType$7 -/
def k18 : Class := { plain "com/example/nearfar/nearfar/StoredType$7" (some 6) with
  accessFlags := 16432
  interfaces := #[]
  cf := some (fileOf pool18 28 #[.nestHost 2] #[] 16432 2 #[] #[])
  fields := #[]
  methods := #[]
  instanceTypes := #[(.object "java/lang/String"), .int, .int, .int, .int, .boolean, (.object "java/lang/Object"), (.object "java/lang/String"), (.object "java/lang/String")]
  staticTypes := #[]
  resolved := Array.replicate 45 none
  statics := none }

def pool19 : Array CpInfo := pool [(1, .class_ 2), (0, u "com/example/nearfar/nearfar/StoredType"), (34, .class_ 38), (0, u "com/example/nearfar/nearfar/StoredType$10")] 35

/-- com/example/nearfar/nearfar/StoredType$10 -/
def k19 : Class := { plain "com/example/nearfar/nearfar/StoredType$10" (some 6) with
  accessFlags := 16432
  interfaces := #[]
  cf := some (fileOf pool19 37 #[.nestHost 1] #[] 16432 1 #[] #[])
  fields := #[]
  methods := #[]
  instanceTypes := #[(.object "java/lang/String"), .int, .int, .int, .int, .boolean, (.object "java/lang/Object"), (.object "java/lang/String"), (.object "java/lang/String")]
  staticTypes := #[]
  resolved := Array.replicate 74 none
  statics := none }

def pool20 : Array CpInfo := pool [(2, .class_ 4), (1, u "com/example/nearfar/nearfar/StoredType"), (31, .class_ 37), (0, u "com/example/nearfar/nearfar/StoredType$5")] 12

/-- com/example/nearfar/nearfar/StoredType$5 -/
def k20 : Class := { plain "com/example/nearfar/nearfar/StoredType$5" (some 6) with
  accessFlags := 16432
  interfaces := #[]
  cf := some (fileOf pool20 36 #[.nestHost 2] #[] 16432 2 #[] #[])
  fields := #[]
  methods := #[]
  instanceTypes := #[(.object "java/lang/String"), .int, .int, .int, .int, .boolean, (.object "java/lang/Object"), (.object "java/lang/String"), (.object "java/lang/String")]
  staticTypes := #[]
  resolved := Array.replicate 50 none
  statics := none }

def pool21 : Array CpInfo := pool [(1, u "java/lang/Cloneable"), (0, .class_ 1), (0, u "java/lang/Object"), (0, .class_ 3)] 3

/-- java/lang/Cloneable -/
def k21 : Class := { plain "java/lang/Cloneable" (some 0) with
  accessFlags := 1537
  interfaces := #[]
  cf := some (fileOf pool21 2 #[] #[] 1537 4 #[] #[])
  fields := #[]
  methods := #[]
  instanceTypes := #[]
  staticTypes := #[]
  resolved := Array.replicate 8 none
  statics := none }

/-- the primitive byte -/
def k22 : Class := { plain "byte" none with kind := .primitive 'B', accessFlags := 0x411 }
/-- [B -/
def k23 : Class := { plain "[B" (some 0) with kind := .array 22 .byte, interfaces := #[21, 4], accessFlags := 1041 }

/-- the primitive int -/
def k24 : Class := { plain "int" none with kind := .primitive 'I', accessFlags := 0x411 }
/-- [I -/
def k25 : Class := { plain "[I" (some 0) with kind := .array 24 .int, interfaces := #[21, 4], accessFlags := 1041 }

def heap : Heap := #[{ cls := 6, slots := #[.ref 1, .ref 2, .ref 3, .ref 4, .ref 5, .ref 6, .ref 7, .ref 8, .ref 9, .ref 10, .null, .int 0, .int 0, .int 0, .null], vm := .statics 6 },
  { cls := 14, slots := #[.null, .int 0, .int 0, .int 0, .int 2, .int 0, .null, .null, .null], vm := .none },
  { cls := 12, slots := #[.null, .int 0, .int 0, .int 0, .int 2, .int 0, .null, .null, .null], vm := .none },
  { cls := 17, slots := #[.null, .int 0, .int 0, .int 0, .int 0, .int 0, .null, .null, .null], vm := .none },
  { cls := 11, slots := #[.null, .int 0, .int 0, .int 0, .int 0, .int 0, .null, .null, .null], vm := .none },
  { cls := 20, slots := #[.null, .int 0, .int 0, .int 0, .int 1, .int 0, .null, .null, .null], vm := .none },
  { cls := 16, slots := #[.null, .int 0, .int 0, .int 0, .int 5, .int 0, .null, .null, .null], vm := .none },
  { cls := 18, slots := #[.null, .int 0, .int 0, .int 0, .int 0, .int 0, .null, .null, .null], vm := .none },
  { cls := 15, slots := #[.null, .int 0, .int 0, .int 0, .int 0, .int 0, .null, .null, .null], vm := .none },
  { cls := 13, slots := #[.null, .int 0, .int 0, .int 0, .int 2, .int 0, .null, .null, .null], vm := .none },
  { cls := 19, slots := #[.null, .int 0, .int 0, .int 0, .int 2, .int 0, .null, .null, .null], vm := .none }]
def classes : Array Class := #[k0, k1, k2, k3, k4, k5, k6, k7, k8, k9, k10, k11, k12, k13, k14, k15, k16, k17, k18, k19, k20, k21, k22, k23, k24, k25]
def interned : List (Array UInt16 × Addr) := []
def slotsUsed : Nat := 105
def theMethod : MethodId := ⟨1, 3⟩
def args0 : Array Value := #[.int 5, .int 6, .int 7]
def aboutOver (below : List Frame) : State where
  vm := { classes := classes, interned := interned.toArray }
  heap := heap
  slotsUsed := slotsUsed
  threads := #[{ frames := .invoking theMethod args0 :: below }]
def below0 : List Frame := [.native { method := ⟨0, 0⟩, args := #[] }]
def about1 : State := aboutOver below0
def p0 : Program := .bare "" "" ""
def e0 : Env := launch0.env 0 0 0
theorem w_frames : about1.frames = Frame.invoking theMethod args0 :: below0 := rfl
set_option maxRecDepth 65536 in
theorem w_args : argsFit about1.vm theMethod args0 = true := by decide +kernel
set_option maxRecDepth 65536 in
theorem w_heap : heapFits about1 = true := by decide +kernel
set_option maxRecDepth 65536 in
theorem w_runnable : about1.curStatus? = some .runnable := by decide +kernel
set_option maxRecDepth 65536 in
theorem w_alone : about1.alone = true := by decide +kernel
set_option maxRecDepth 65536 in
theorem w_named : about1.methodNamed? x = some theMethod := by decide +kernel
set_option maxRecDepth 65536 in
theorem w_hears : about1.hears theMethod below0 = true := by decide +kernel
set_option maxRecDepth 65536 in
theorem w_ripe : about1.ripe theMethod args0 below0 = true := by decide +kernel
theorem w_running : about1.status = .running := rfl
set_option maxRecDepth 65536 in
theorem w_room : about1.hasRoom e0.platform room_1 = true :=
  launch0.hasRoom_least _ room_1 (by decide +kernel) (by decide +kernel) (by decide +kernel) (by decide +kernel) (by decide +kernel) (by decide +kernel)
theorem allAtoms_all (ts : List Jvm.Cond) (a : Array Jvm.Value) (st : Jvm.State) : (allAtoms ts).before a st = ts.all (fun c => c.before a st) := by
  induction ts with
  | nil => rfl
  | cons c t ih =>
    show (Jvm.Cond.and c (allAtoms t)).before a st = _
    rw [Jvm.Cond.before_and, ih, List.all_cons]
def words1 : List Jvm.Cond := Jvm.Cond.code x code maxLocals ret :: tables_1
/-- a 'code' word, met by the world's own term for the bytes: nothing is compared byte by byte -/
theorem code_word {y : MethodName} {bytes : ByteArray} {mx : Nat} {rt : Option FieldType} {a : Array Value} {s : State} {m : MethodId} {meth : Method} {c : Code} (h1 : s.methodNamed? y = some m) (h2 : s.vm.method? m = some meth) (h3 : meth.code = some c) (h4 : c.code = bytes)
    (h5 : (c.maxLocals == mx && c.exceptionTable.isEmpty && decide (c.maxStack ≤ mostOperands) && decide (meth.sig.returnType = rt) && !meth.locks && decide (parseMethodDescriptor y.desc = some meth.sig)) = true) : (Jvm.Cond.code y bytes mx rt).before a s = true := by
  simp only [Bool.and_eq_true, beq_iff_eq, Bool.not_eq_true', decide_eq_true_eq] at h5
  obtain ⟨⟨⟨⟨⟨g1, g2⟩, g3⟩, g4⟩, g5⟩, g6⟩ := h5
  simp [Cond.before, Cond.holds, Cond.value, h1, h2, h3, h4, g1, g2, g3, g4, g5, g6]
def isCode : Jvm.Cond → Bool
  | .code _ _ _ _ => true
  | _ => false
theorem all_split {L : List Jvm.Cond} {P : Jvm.Cond → Bool} (h1 : L.all (fun c => isCode c || P c) = true) (h2 : ∀ c ∈ L.filter isCode, P c = true) : L.all P = true := by
  refine List.all_eq_true.mpr fun c hc => ?_
  have h := List.all_eq_true.mp h1 c hc
  rcases Bool.eq_false_or_eq_true (isCode c) with hi | hi
  · exact h2 c (List.mem_filter.mpr ⟨hc, hi⟩)
  · simpa [hi] using h
set_option maxRecDepth 65536 in
theorem w_c0 : (Jvm.Cond.code x code maxLocals ret).before args0 about1 = true := code_word (m := ⟨1, 3⟩) (meth := k1m3) (c := k1c3) (by decide +kernel) rfl rfl rfl (by decide +kernel)
set_option maxRecDepth 65536 in
theorem w_c1 : (Jvm.Cond.code ({ cls := "com/example/nearfar/nearfar/FieldAllowsPinLaw", name := "storedOf", desc := "(I)Lcom/example/nearfar/nearfar/StoredType;" } : Jvm.MethodName) method_2_code (1 : Nat) (Option.some (Jvm.ClassFile.FieldType.object "com/example/nearfar/nearfar/StoredType"))).before args0 about1 = true := code_word (m := ⟨1, 1⟩) (meth := k1m1) (c := k1c1) (by decide +kernel) rfl rfl rfl (by decide +kernel)
set_option maxRecDepth 65536 in
theorem w_c2 : (Jvm.Cond.code ({ cls := "com/example/nearfar/nearfar/DescriptorSet$Field", name := "<init>", desc := "(Ljava/lang/String;IZLcom/example/nearfar/nearfar/StoredType;Ljava/lang/String;Ljava/lang/String;)V" } : Jvm.MethodName) prog_16_method_1_code (7 : Nat) (Option.none : Option Jvm.ClassFile.FieldType)).before args0 about1 = true := code_word (m := ⟨10, 0⟩) (meth := k10m0) (c := k10c0) (by decide +kernel) rfl rfl rfl (by decide +kernel)
set_option maxRecDepth 65536 in
theorem w_c3 : (Jvm.Cond.code ({ cls := "java/lang/Object", name := "<init>", desc := "()V" } : Jvm.MethodName) object_method_1_code (1 : Nat) (Option.none : Option Jvm.ClassFile.FieldType)).before args0 about1 = true := code_word (m := ⟨0, 0⟩) (meth := k0m0) (c := k0c0) (by decide +kernel) rfl rfl rfl (by decide +kernel)
set_option maxRecDepth 65536 in
theorem w_c4 : (Jvm.Cond.code ({ cls := "com/example/nearfar/nearfar/FieldAllowsPinLaw", name := "wireOf", desc := "(I)I" } : Jvm.MethodName) method_3_code (1 : Nat) (Option.some Jvm.ClassFile.FieldType.int)).before args0 about1 = true := code_word (m := ⟨1, 2⟩) (meth := k1m2) (c := k1c2) (by decide +kernel) rfl rfl rfl (by decide +kernel)
set_option maxRecDepth 65536 in
theorem w_c5 : (Jvm.Cond.code ({ cls := "com/example/nearfar/nearfar/DescriptorSet$Field", name := "allows", desc := "(I)Z" } : Jvm.MethodName) prog_16_method_5_code (2 : Nat) (Option.some Jvm.ClassFile.FieldType.boolean)).before args0 about1 = true := code_word (m := ⟨10, 1⟩) (meth := k10m1) (c := k10c1) (by decide +kernel) rfl rfl rfl (by decide +kernel)
set_option maxRecDepth 65536 in
theorem w_c6 : (Jvm.Cond.code ({ cls := "com/example/nearfar/nearfar/StoredType", name := "wireType", desc := "()I" } : Jvm.MethodName) prog_51_method_6_code (1 : Nat) (Option.some Jvm.ClassFile.FieldType.int)).before args0 about1 = true := code_word (m := ⟨6, 0⟩) (meth := k6m0) (c := k6c0) (by decide +kernel) rfl rfl rfl (by decide +kernel)
set_option maxRecDepth 65536 in
theorem w_c7 : (Jvm.Cond.code ({ cls := "com/example/nearfar/nearfar/StoredType", name := "packed", desc := "()Z" } : Jvm.MethodName) prog_51_method_7_code (1 : Nat) (Option.some Jvm.ClassFile.FieldType.boolean)).before args0 about1 = true := code_word (m := ⟨6, 1⟩) (meth := k6m1) (c := k6c1) (by decide +kernel) rfl rfl rfl (by decide +kernel)
def codes1 : List Jvm.Cond := [Jvm.Cond.code x code maxLocals ret, Jvm.Cond.code ({ cls := "com/example/nearfar/nearfar/FieldAllowsPinLaw", name := "storedOf", desc := "(I)Lcom/example/nearfar/nearfar/StoredType;" } : Jvm.MethodName) method_2_code (1 : Nat) (Option.some (Jvm.ClassFile.FieldType.object "com/example/nearfar/nearfar/StoredType")), Jvm.Cond.code ({ cls := "com/example/nearfar/nearfar/DescriptorSet$Field", name := "<init>", desc := "(Ljava/lang/String;IZLcom/example/nearfar/nearfar/StoredType;Ljava/lang/String;Ljava/lang/String;)V" } : Jvm.MethodName) prog_16_method_1_code (7 : Nat) (Option.none : Option Jvm.ClassFile.FieldType), Jvm.Cond.code ({ cls := "java/lang/Object", name := "<init>", desc := "()V" } : Jvm.MethodName) object_method_1_code (1 : Nat) (Option.none : Option Jvm.ClassFile.FieldType), Jvm.Cond.code ({ cls := "com/example/nearfar/nearfar/FieldAllowsPinLaw", name := "wireOf", desc := "(I)I" } : Jvm.MethodName) method_3_code (1 : Nat) (Option.some Jvm.ClassFile.FieldType.int), Jvm.Cond.code ({ cls := "com/example/nearfar/nearfar/DescriptorSet$Field", name := "allows", desc := "(I)Z" } : Jvm.MethodName) prog_16_method_5_code (2 : Nat) (Option.some Jvm.ClassFile.FieldType.boolean), Jvm.Cond.code ({ cls := "com/example/nearfar/nearfar/StoredType", name := "wireType", desc := "()I" } : Jvm.MethodName) prog_51_method_6_code (1 : Nat) (Option.some Jvm.ClassFile.FieldType.int), Jvm.Cond.code ({ cls := "com/example/nearfar/nearfar/StoredType", name := "packed", desc := "()Z" } : Jvm.MethodName) prog_51_method_7_code (1 : Nat) (Option.some Jvm.ClassFile.FieldType.boolean)]
set_option maxRecDepth 65536 in
theorem codes_eq : words1.filter isCode = codes1 := rfl
theorem w_codes : ∀ c ∈ words1.filter isCode, c.before args0 about1 = true := by
  rw [codes_eq]
  intro c hc
  simp only [codes1, List.mem_cons, List.not_mem_nil, or_false] at hc
  rcases hc with rfl | rfl | rfl | rfl | rfl | rfl | rfl | rfl
  · exact w_c0
  · exact w_c1
  · exact w_c2
  · exact w_c3
  · exact w_c4
  · exact w_c5
  · exact w_c6
  · exact w_c7
set_option maxRecDepth 65536 in
theorem w_t1 : (words1.take 24).all (fun c => isCode c || c.before args0 about1) = true := by decide +kernel
set_option maxRecDepth 65536 in
theorem w_t2 : ((words1.drop 24).take 24).all (fun c => isCode c || c.before args0 about1) = true := by decide +kernel
set_option maxRecDepth 65536 in
theorem w_t3 : (((words1.drop 24).drop 24).take 24).all (fun c => isCode c || c.before args0 about1) = true := by decide +kernel
set_option maxRecDepth 65536 in
theorem w_t4 : ((((words1.drop 24).drop 24).drop 24).take 24).all (fun c => isCode c || c.before args0 about1) = true := by decide +kernel
set_option maxRecDepth 65536 in
theorem w_t5 : ((((words1.drop 24).drop 24).drop 24).drop 24).all (fun c => isCode c || c.before args0 about1) = true := by decide +kernel
theorem w_tables : (allAtoms (Jvm.Cond.code x code maxLocals ret :: tables_1)).before args0 about1 = true := by
  rw [allAtoms_all]
  show words1.all (fun c => c.before args0 about1) = true
  refine all_split ?_ w_codes
  rw [← List.take_append_drop 24 words1, List.all_append, w_t1, ← List.take_append_drop 24 (words1.drop 24), List.all_append, w_t2, ← List.take_append_drop 24 ((words1.drop 24).drop 24), List.all_append, w_t3, ← List.take_append_drop 24 (((words1.drop 24).drop 24).drop 24), List.all_append, w_t4, w_t5]
  rfl
set_option maxRecDepth 65536 in
theorem w_case : (Jvm.Cond.and given_1 narrow_1).before args0 about1 = true := by decide +kernel
theorem w_applies : (headSpec (Jvm.Cond.code x code maxLocals ret :: tables_1) room_1).applies x e0.platform about1 = true :=
  (Spec.applies_iff w_frames).mpr ⟨w_running, w_runnable, w_alone, w_named, w_hears, w_ripe, w_room, w_tables⟩
theorem atStart : AtStart classFile x code maxLocals ret World_1 tables_1 room_1 Calls_1 rest_1 Pre_1 launch0 p0 e0 about1 theMethod args0 below0 :=
  ⟨lists_1, trivial, launch0.admits_env _ _ _, launch0.least_env, fairChoices_fair.cas, fairChoices_fair.clock, w_frames, w_args, w_heap, w_applies, trivial, trivial, w_case⟩
end start1
theorem witness_1 : WitnessClaimed_1 := ⟨start1.p0, start1.e0, start1.about1, start1.theMethod, start1.args0, start1.below0, start1.atStart⟩
end Jvm.Pilot.@@N@@
