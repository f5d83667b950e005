import JvmDerived
import JvmDerived.Pilot.@@N@@Statement
import JvmDerived.Pilot.@@N@@Code
set_option linter.unusedVariables false
set_option linter.unusedSimpArgs false
namespace Jvm.Pilot.@@N@@
open Jvm Jvm.ClassFile Sem Op Lib Jvm.Free Jvm.Stand Jvm.LawKit Jvm.RoadKit Bundle Jvm.Pilot.@@N@@.Jvm.D
section OwnRoad
variable {p : Program} {l : Launch} {e : Env} {R : Room} {s : State} {m : MethodId} {args : Array Value} {below : List Frame} {meth : Method} {c : Code} {T : State} {locs : List Loc} {cells slots : Nat}
/-- from A the run comes to an end of which G speaks -/
def OEnds (tb : Tables) (e : Env) (below : List Frame) (G : Outcome → State → Prop) (A : State) : Prop := ∃ s₂ o, Steps tb e below A s₂ ∧ s₂.status = .running ∧ Ended s₂ below o ∧ G o s₂
theorem OEnds.st {tb : Tables} {e : Env} {below : List Frame} {G : Outcome → State → Prop} {A B : State} (h : ∀ t, Steps tb e below B t → Steps tb e below A t) (k : OEnds tb e below G B) : OEnds tb e below G A := by
  obtain ⟨s, o, h1, h2⟩ := k
  exact ⟨s, o, h _ h1, h2⟩
def OGoal (Q : Option Value → Heap → List Loc → Prop) (s : State) (C S : Nat) (o : Outcome) (t : State) : Prop := ∃ v L, o = .returned v ∧ Q v t.heap L ∧ FrameEnd s o t L C S
theorem OEnds.out (X : Stand p l e R s m args below meth c T locs cells slots) (hlk : meth.locks = false) {v : Option Value} (hv : meth.sig.returnType = none → v = none) {Q : Option Value → Heap → List Loc → Prop} {C S : Nat} {A : State}
    (st : ∀ fs, (∀ (f : JFrame) (acts : List Action), f.method = m → f.locked = none → f.entered = [] → (doReturn e (T.setTop f) acts v).1 = T.setFrames fs) → Steps p.tables e below A (T.setFrames fs)) (hc : cells ≤ C) (hs : slots ≤ S) (hQ : Q v T.heap locs) : OEnds p.tables e below (OGoal Q s C S) A := by
  obtain ⟨fs, hr, hrun, hended, hW, hsame⟩ := X.leave (v := v) hv hlk
  exact ⟨_, _, st fs hr, hrun, hended, _, _, rfl, hQ, ⟨_, rfl⟩, hW, hsame.mono hc hs⟩
theorem OEnds.retI (X : Stand p l e R s m args below meth c T locs cells slots) (hx : p.tables.exec = Jvm.exec) (hlk : meth.locks = false) (hret : meth.sig.returnType = some .int) {pc : Nat} {Ls : Array Slot} {z : Int32} {rest : List Value} (hd : decode c.code pc = .ok (.ireturn, 1)) {Q : Option Value → Heap → List Loc → Prop} {C S : Nat} (hc : cells ≤ C) (hs : slots ≤ S) (hQ : Q (some (.int z)) T.heap locs) :
    OEnds p.tables e below (OGoal Q s C S) (T.setTop (mkF m pc Ls (.int z :: rest))) :=
  OEnds.out X hlk (fun h => by rw [hret] at h; cases h) (fun fs hr => retOut X hx hret rfl (Or.inl ⟨rfl, Or.inl rfl, _, rfl⟩) hd hr) hc hs hQ
theorem OEnds.retZ (X : Stand p l e R s m args below meth c T locs cells slots) (hx : p.tables.exec = Jvm.exec) (hlk : meth.locks = false) (hret : meth.sig.returnType = some .boolean) {pc : Nat} {Ls : Array Slot} {z : Int32} {rest : List Value} (hz : nar .boolean z = z) (hd : decode c.code pc = .ok (.ireturn, 1)) {Q : Option Value → Heap → List Loc → Prop} {C S : Nat} (hc : cells ≤ C) (hs : slots ≤ S) (hQ : Q (some (.int z)) T.heap locs) :
    OEnds p.tables e below (OGoal Q s C S) (T.setTop (mkF m pc Ls (.int z :: rest))) :=
  OEnds.out X hlk (fun h => by rw [hret] at h; cases h) (fun fs hr => retN X hx (t := .boolean) hret (Or.inl rfl) hd (by rw [hz]; exact hr)) hc hs hQ
theorem OEnds.retB (X : Stand p l e R s m args below meth c T locs cells slots) (hx : p.tables.exec = Jvm.exec) (hlk : meth.locks = false) (hret : meth.sig.returnType = some .byte) {pc : Nat} {Ls : Array Slot} {z : Int32} {rest : List Value} (hz : nar .byte z = z) (hd : decode c.code pc = .ok (.ireturn, 1)) {Q : Option Value → Heap → List Loc → Prop} {C S : Nat} (hc : cells ≤ C) (hs : slots ≤ S) (hQ : Q (some (.int z)) T.heap locs) :
    OEnds p.tables e below (OGoal Q s C S) (T.setTop (mkF m pc Ls (.int z :: rest))) :=
  OEnds.out X hlk (fun h => by rw [hret] at h; cases h) (fun fs hr => retN X hx (t := .byte) hret (Or.inr (Or.inl rfl)) hd (by rw [hz]; exact hr)) hc hs hQ
theorem OEnds.retJ (X : Stand p l e R s m args below meth c T locs cells slots) (hx : p.tables.exec = Jvm.exec) (hlk : meth.locks = false) (hret : meth.sig.returnType = some .long) {pc : Nat} {Ls : Array Slot} {z : Int64} {rest : List Value} (hd : decode c.code pc = .ok (.lreturn, 1)) {Q : Option Value → Heap → List Loc → Prop} {C S : Nat} (hc : cells ≤ C) (hs : slots ≤ S) (hQ : Q (some (.long z)) T.heap locs) :
    OEnds p.tables e below (OGoal Q s C S) (T.setTop (mkF m pc Ls (.long z :: rest))) :=
  OEnds.out X hlk (fun h => by rw [hret] at h; cases h) (fun fs hr => retOut X hx hret rfl (Or.inr (Or.inl ⟨rfl, rfl, _, rfl⟩)) hd hr) hc hs hQ
theorem OEnds.retA (X : Stand p l e R s m args below meth c T locs cells slots) (hx : p.tables.exec = Jvm.exec) (hlk : meth.locks = false) {t : FieldType} (hret : meth.sig.returnType = some t) {pc : Nat} {Ls : Array Slot} {w : Value} {rest : List Value} (hw : w.isRef = true) (ht : t.isReference = true) (hd : decode c.code pc = .ok (.areturn, 1)) {Q : Option Value → Heap → List Loc → Prop} {C S : Nat} (hc : cells ≤ C) (hs : slots ≤ S) (hQ : Q (some w) T.heap locs) :
    OEnds p.tables e below (OGoal Q s C S) (T.setTop (mkF m pc Ls (w :: rest))) :=
  OEnds.out X hlk (fun h => by rw [hret] at h; cases h) (fun fs hr => retOut X hx hret (by cases t <;> cases w <;> first | rfl | (cases ht; done) | (cases hw; done)) (Or.inr (Or.inr (Or.inr (Or.inr ⟨rfl, ht, hw⟩)))) hd hr) hc hs hQ
theorem OEnds.retV (X : Stand p l e R s m args below meth c T locs cells slots) (hx : p.tables.exec = Jvm.exec) (hlk : meth.locks = false) (hret : meth.sig.returnType = none) {pc : Nat} {Ls : Array Slot} (hd : decode c.code pc = .ok (.return_, 1)) {Q : Option Value → Heap → List Loc → Prop} {C S : Nat} (hc : cells ≤ C) (hs : slots ≤ S) (hQ : Q none T.heap locs) :
    OEnds p.tables e below (OGoal Q s C S) (T.setTop (mkF m pc Ls [])) :=
  OEnds.out X hlk (fun _ => rfl) (fun fs hr => X.returnOut hx hret hd hr) hc hs hQ
def OGoalW (Q : Option Value → Heap → List Loc → Prop) (s : State) (C S : Nat) (o : Outcome) (t : State) : Prop := ∃ v L, o = .returned v ∧ Q v t.heap L ∧ Jvm.ReturnedEndW s o t L C S
theorem own_growW {s t : State} {o : Outcome} {L : List Loc} {k n k' n' : Nat} (h : Jvm.ReturnedEndW s o t L k n) (hk : k ≤ k') (hn : n ≤ n') : Jvm.ReturnedEndW s o t L k' n' := ⟨h.1, h.2.1, h.2.2.1, h.2.2.2.mono hk hn⟩
theorem OEnds.retZW {vm0 : Vm} (X : Stand p l e R (s.setVm vm0) m args below meth c T locs cells slots) {n : Nat} (hS : s.Since vm0 n) (hn : n ≤ T.heap.size) (hx : p.tables.exec = Jvm.exec) (hlk : meth.locks = false) (hret : meth.sig.returnType = some .boolean) {pc : Nat} {Ls : Array Slot} {z : Int32} {rest : List Value} (hz : nar .boolean z = z) (hd : decode c.code pc = .ok (.ireturn, 1)) {Q : Option Value → Heap → List Loc → Prop} {C S : Nat} (hc : cells ≤ C) (hs : slots ≤ S) (hQ : Q (some (.int z)) T.heap locs) :
    OEnds p.tables e below (OGoalW Q s C S) (T.setTop (mkF m pc Ls (.int z :: rest))) := by
  obtain ⟨fs, hr, hrun, hended, hW⟩ := X.leaveW hS hn (v := some (.int z)) (fun h => by rw [hret] at h; cases h) hlk
  exact ⟨_, _, retN X hx (t := .boolean) hret (Or.inl rfl) hd (by rw [hz]; exact hr), hrun, hended, _, _, rfl, hQ, own_growW hW hc hs⟩
theorem own_b8 (x : Int32) : nar .byte (x.toInt8.toInt32) = x.toInt8.toInt32 := by
  show (x.toInt8.toInt32).toInt8.toInt32 = _
  rw [Int8.toInt8_toInt32]
theorem own_selP {s : State} {args : Array Value} {n : Nat} {y : MethodName} (hins : (Jvm.Cond.instantiable y.cls n).before args s = true) (hpriv : (Jvm.Cond.privateMethod y).before args s = true) (hinst : (Jvm.Cond.instanceMethod y).before args s = true) (hy : y.cls ≠ "java/lang/invoke/MethodHandle" ∧ y.cls ≠ "java/lang/invoke/VarHandle") :
    (Jvm.Cond.selects y.cls y y).before args s = true := by
  obtain ⟨c, k, hc, hk, -, hniab, -, -⟩ := Cond.instantiable_spec hins
  have hni : k.isInterface = false := (Bool.or_eq_false_iff.mp hniab).1
  obtain ⟨mk, methM, hnamed, hmethM, -, -⟩ := Cond.instanceMethod_spec hinst
  have hfound : s.methodFound? y.cls y.name y.desc = some mk := State.methodFound?_of_named hnamed hy
  have hcls : mk.cls = c := Option.some.inj ((findClass_of_methodNamed hnamed).symm.trans hc)
  have hsel : selectMethod {} s.vm c mk = .method mk := selectMethod_private hmethM (Cond.privateMethod_at hpriv mk methM hnamed hmethM)
  simp only [Cond.before, Cond.holds, Cond.value, hc, hfound, hnamed, hsel, hcls, hk]
  simp; exact hni
theorem own_exa_ns {Z : State} {h : Heap} {a : Addr} {C : String} (E : Exa Z h a C) : ∀ cell : Cell, h[a]? = some cell → cell.vm.isStatics = false := fun cell q => by
  obtain ⟨c, k, h1, -, -, h4, -⟩ := E
  cases h1.symm.trans q
  exact h4
theorem own_Sta_keep {Z : State} {h h' : Heap} {C n d : String} {v : Value} {ws : List Addr} (F : Sta Z h C n d v) (K : Keep h h' ws) (q : ∀ x ∈ ws, ∀ cell : Cell, h[x]? = some cell → cell.vm.isStatics = false) : Sta Z h' C n d v := by
  obtain ⟨cf, i, k, f, st, cell, h1, h2, h3, h4, h5, h6, h7⟩ := F
  refine ⟨cf, i, k, f, st, cell, h1, h2, h3, h4, K.2.1 _ _ h5 (fun hm => ?_), h6, h7⟩
  rw [q _ hm _ h5] at h6
  cases h6
theorem own_grow (X : Stand p l e R s m args below meth c T locs cells slots) {C S : Nat} (hc : cells ≤ C) (hs : slots ≤ S) : Stand p l e R s m args below meth c T locs C S :=
  ⟨X.admits, X.cas, X.clock, X.frames, X.room, X.hears, X.method, X.code, X.here, X.tail, X.warmed, X.limits, X.bytes, X.same.mono hc hs⟩
end OwnRoad
theorem own_ch (p : Int32) : ¬ ((255 : Int32) < (nar .char ((p &&& (255 : Int32)).toUInt32.toUInt16.toUInt32.toInt32))) := by
  have e1 := c_mask p (255 : Int32) 8 (by decide) (by decide)
  have e2 := c_i2c (p &&& (255 : Int32))
  have e3 := c_i2c ((p &&& (255 : Int32)).toUInt32.toUInt16.toUInt32.toInt32)
  have z : (255 : Int32).toInt = 255 := by decide
  rw [Int32.lt_iff_toInt_lt]
  show ¬ ((255 : Int32).toInt < (((p &&& (255 : Int32)).toUInt32.toUInt16.toUInt32.toInt32).toUInt32.toUInt16.toUInt32.toInt32).toInt)
  omega
theorem d6_0 : decode jdk_52_method_21_code 0 = .ok (.iconst 0, 1) := by decide +kernel
theorem d6_1 : decode jdk_52_method_21_code 1 = .ok (.istore 5, 2) := by decide +kernel
theorem d6_3 : decode jdk_52_method_21_code 3 = .ok (.iload 5, 2) := by decide +kernel
theorem d6_5 : decode jdk_52_method_21_code 5 = .ok (.iload 4, 2) := by decide +kernel
theorem d6_7 : decode jdk_52_method_21_code 7 = .ok (.if_icmp .ge 37, 3) := by decide +kernel
theorem d6_10 : decode jdk_52_method_21_code 10 = .ok (.aload_n 0, 1) := by decide +kernel
theorem d6_11 : decode jdk_52_method_21_code 11 = .ok (.iload_n 1, 1) := by decide +kernel
theorem d6_12 : decode jdk_52_method_21_code 12 = .ok (.caload, 1) := by decide +kernel
theorem d6_13 : decode jdk_52_method_21_code 13 = .ok (.istore 6, 2) := by decide +kernel
theorem d6_15 : decode jdk_52_method_21_code 15 = .ok (.iload 6, 2) := by decide +kernel
theorem d6_17 : decode jdk_52_method_21_code 17 = .ok (.sipush 255, 3) := by decide +kernel
theorem d6_20 : decode jdk_52_method_21_code 20 = .ok (.if_icmp .le 6, 3) := by decide +kernel
theorem d6_23 : decode jdk_52_method_21_code 23 = .ok (.iload 5, 2) := by decide +kernel
theorem d6_25 : decode jdk_52_method_21_code 25 = .ok (.ireturn, 1) := by decide +kernel
theorem d6_26 : decode jdk_52_method_21_code 26 = .ok (.aload_n 2, 1) := by decide +kernel
theorem d6_27 : decode jdk_52_method_21_code 27 = .ok (.iload_n 3, 1) := by decide +kernel
theorem d6_28 : decode jdk_52_method_21_code 28 = .ok (.iload 6, 2) := by decide +kernel
theorem d6_30 : decode jdk_52_method_21_code 30 = .ok (.i2b, 1) := by decide +kernel
theorem d6_31 : decode jdk_52_method_21_code 31 = .ok (.bastore, 1) := by decide +kernel
theorem d6_32 : decode jdk_52_method_21_code 32 = .ok (.iinc 1 1, 3) := by decide +kernel
theorem d6_35 : decode jdk_52_method_21_code 35 = .ok (.iinc 3 1, 3) := by decide +kernel
theorem d6_38 : decode jdk_52_method_21_code 38 = .ok (.iinc 5 1, 3) := by decide +kernel
theorem d6_41 : decode jdk_52_method_21_code 41 = .ok (.goto (-38), 3) := by decide +kernel
theorem d6_44 : decode jdk_52_method_21_code 44 = .ok (.iload 4, 2) := by decide +kernel
theorem d6_46 : decode jdk_52_method_21_code 46 = .ok (.ireturn, 1) := by decide +kernel
theorem pn_0 : plainName "java/lang/StringUTF16" = true := by first | (simp [plainName, overriddenIn]; done) | decide +kernel
theorem ef_6 (m : MethodId) (a1 : Addr) (a3 : Addr) : entryFrame m #[(.ref a1), (.int (0 : Int32)), (.ref a3), (.int (0 : Int32)), (.int (2 : Int32))] 7 = mkF m 0 #[.val (.ref a1), .val (.int (0 : Int32)), .val (.ref a3), .val (.int (0 : Int32)), .val (.int (2 : Int32)), .unset, .unset] [] := by first | (simp [entryFrame, mkF, argsToLocals, Value.category]; done) | rfl
def Q6 (Z : State) (a1 : Addr) (a3 : Addr) (k1 : ClassId) (k3 : ClassId) (c0 : Int32) (c1 : Int32) (h0 : Heap) (n0 : Nat) (v : Option Value) (h : Heap) (L : List Loc) : Prop := v = some (.int (2 : Int32)) ∧ Fr n0 L ∧ Keep h0 h [a3] ∧ Arv Z h a3 k3 .byte (2 : Int32) [(.int (c0.toInt8.toInt32)), (.int (c1.toInt8.toInt32))] (.int (0 : Int32))
set_option maxRecDepth 65536 in
set_option maxHeartbeats 40000000 in
theorem rm6 (l : Launch) (Z : State) (a0 : Array Value) (hw : ∀ d ∈ tables_1, d.before a0 Z = true) (ws : List Jvm.Cond) (a1 : Addr) (a3 : Addr) (k1 : ClassId) (k3 : ClassId) (c0 : Int32) (c1 : Int32) (h0 : Heap) (n0 : Nat) (Z0 : n0 ≤ h0.size) (V1 : Arv Z h0 a1 k1 .char (2 : Int32) [(.int c0), (.int c1)] (.int (0 : Int32))) (V3 : Arv Z h0 a3 k3 .byte (2 : Int32) [(.int (0 : Int32)), (.int (0 : Int32))] (.int (0 : Int32))) (g_a3 : n0 ≤ a3) (n13 : a1 ≠ a3) (hc0 : ¬ ((255 : Int32) < c0)) (hc1 : ¬ ((255 : Int32) < c1)) :
    MetFree l (⟨"java/lang/StringUTF16", "compress", "([CI[BII)I"⟩ : MethodName) (head1 (Jvm.Cond.code (⟨"java/lang/StringUTF16", "compress", "([CI[BII)I"⟩ : MethodName) jdk_52_method_21_code 7 (some .int) :: ws) ({ frames := 0, cells := 0, slots := 0, locals := 0 } : Room)) (fun a U => a = #[(.ref a1), (.int (0 : Int32)), (.ref a3), (.int (0 : Int32)), (.int (2 : Int32))] ∧ Z.Warmed39 U.vm ∧ U.heap = h0) (fun _ _ _ _ _ => True) (fun _ U o U' => ∃ v L, o = .returned v ∧ Q6 Z a1 a3 k1 k3 c0 c1 h0 n0 v U'.heap L ∧ FrameEnd U o U' L ({ frames := 0, cells := 0, slots := 0, locals := 0 } : Room).cells ({ frames := 0, cells := 0, slots := 0, locals := 0 } : Room).slots) := by
  refine MetFree.of_bodySF (plainFor_of_name pn_0) hisR ?_
  intro p e s m args below meth c s₁ Bd hml0 hP hK
  obtain ⟨rfl, hZ, hh⟩ := hP
  have hx := Bd.exec
  have hby := Bd.bytes
  have hml : c.maxLocals = 7 := hml0
  have hown : s.vm.findClass "java/lang/StringUTF16" = some m.cls := findClass_of_methodNamed Bd.named
  have hnm := (name_of_methodNamed Bd.named Bd.method).1
  have hlk : meth.locks = false := BodyLoose.notSynchronized Bd
  have X0 : Stand p l e ({ frames := 0, cells := 0, slots := 0, locals := 0 } : Room) s m #[(.ref a1), (.int (0 : Int32)), (.ref a3), (.int (0 : Int32)), (.int (2 : Int32))] below meth c s₁ [] 0 0 := Stand.of_body Bd
  have e0 : s₁.heap = h0 := by rw [← hh, Bd.state]; rfl
  have N0 := Fr.nil n0
  show OEnds p.tables e below (OGoal (Q6 Z a1 a3 k1 k3 c0 c1 h0 n0) s 0 0) (s₁.setTop (entryFrame m #[(.ref a1), (.int (0 : Int32)), (.ref a3), (.int (0 : Int32)), (.int (2 : Int32))] 7))
  refine OEnds.st (fun t k => castTop (ef_6 m a1 a3) k) ?_
  generalize hG : OGoal (Q6 Z a1 a3 k1 k3 c0 c1 h0 n0) s 0 0 = G
  have KK0 : Keep h0 h0 [a3] := Keep.refl h0 [a3]
  show OEnds p.tables e below G (s₁.setTop (mkF m 0 #[.val (.ref a1), .val (.int (0 : Int32)), .val (.ref a3), .val (.int (0 : Int32)), .val (.int (2 : Int32)), .unset, .unset] []))
  refine OEnds.st (fun _ k => XS.iconst X0.here hx rfl (hb hby d6_0) k) ?_
  show OEnds p.tables e below G (s₁.setTop (mkF m 1 #[.val (.ref a1), .val (.int (0 : Int32)), .val (.ref a3), .val (.int (0 : Int32)), .val (.int (2 : Int32)), .unset, .unset] [(.int (0 : Int32))]))
  refine OEnds.st (fun _ k => XS.istore X0.here hx rfl (hb hby d6_1) rfl (l' := #[.val (.ref a1), .val (.int (0 : Int32)), .val (.ref a3), .val (.int (0 : Int32)), .val (.int (2 : Int32)), .val (.int (0 : Int32)), .unset]) rfl k) ?_
  show OEnds p.tables e below G (s₁.setTop (mkF m 3 #[.val (.ref a1), .val (.int (0 : Int32)), .val (.ref a3), .val (.int (0 : Int32)), .val (.int (2 : Int32)), .val (.int (0 : Int32)), .unset] []))
  refine OEnds.st (fun _ k => XS.iload X0.here hx rfl (hb hby d6_3) rfl k) ?_
  show OEnds p.tables e below G (s₁.setTop (mkF m 5 #[.val (.ref a1), .val (.int (0 : Int32)), .val (.ref a3), .val (.int (0 : Int32)), .val (.int (2 : Int32)), .val (.int (0 : Int32)), .unset] [(.int (0 : Int32))]))
  refine OEnds.st (fun _ k => XS.iload X0.here hx rfl (hb hby d6_5) rfl k) ?_
  show OEnds p.tables e below G (s₁.setTop (mkF m 7 #[.val (.ref a1), .val (.int (0 : Int32)), .val (.ref a3), .val (.int (0 : Int32)), .val (.int (2 : Int32)), .val (.int (0 : Int32)), .unset] [(.int (2 : Int32)), (.int (0 : Int32))]))
  refine OEnds.st (fun _ k => XS.icmpNo X0.here hx rfl (hb hby d6_7) rfl (tlt (by decide : (0 : Int32) < (2 : Int32))).2.1 k) ?_
  show OEnds p.tables e below G (s₁.setTop (mkF m 10 #[.val (.ref a1), .val (.int (0 : Int32)), .val (.ref a3), .val (.int (0 : Int32)), .val (.int (2 : Int32)), .val (.int (0 : Int32)), .unset] []))
  refine OEnds.st (fun _ k => XS.aloadN X0.here hx rfl (hb hby d6_10) rfl rfl k) ?_
  show OEnds p.tables e below G (s₁.setTop (mkF m 11 #[.val (.ref a1), .val (.int (0 : Int32)), .val (.ref a3), .val (.int (0 : Int32)), .val (.int (2 : Int32)), .val (.int (0 : Int32)), .unset] [(.ref a1)]))
  refine OEnds.st (fun _ k => XS.iloadN X0.here hx rfl (hb hby d6_11) rfl k) ?_
  show OEnds p.tables e below G (s₁.setTop (mkF m 12 #[.val (.ref a1), .val (.int (0 : Int32)), .val (.ref a3), .val (.int (0 : Int32)), .val (.int (2 : Int32)), .val (.int (0 : Int32)), .unset] [(.int (0 : Int32)), (.ref a1)]))
  obtain ⟨cl1001, Ar1001, q1001, S1001, N1001n, H1001, G1001⟩ := id V1
  have hin1001 : ¬ ((0 : Int32) < 0 ∨ cl1001.slots.size ≤ ((0 : Int32)).toNatClampNeg) := inb_of S1001 ⟨by decide, by decide⟩
  have hat1001 : cl1001.slots[((0 : Int32)).toNatClampNeg]? = some (.int c0) := H1001.at hin1001 rfl
  refine OEnds.st (X0.caload hx (j := (0 : Int32)) (v := (.int c0)) (by rw [e0]; exact Ar1001.1) (State.isArrayOf_alike hZ.alike Ar1001.2.1) Ar1001.2.2 hin1001 hat1001 (g := (mkF m 12 #[.val (.ref a1), .val (.int (0 : Int32)), .val (.ref a3), .val (.int (0 : Int32)), .val (.int (2 : Int32)), .val (.int (0 : Int32)), .unset] [(.int (0 : Int32)), (.ref a1)])) rfl rfl (hb hby d6_12)) ?_
  show OEnds p.tables e below G (s₁.setTop (mkF m 13 #[.val (.ref a1), .val (.int (0 : Int32)), .val (.ref a3), .val (.int (0 : Int32)), .val (.int (2 : Int32)), .val (.int (0 : Int32)), .unset] [(.int c0)]))
  refine OEnds.st (fun _ k => XS.istore X0.here hx rfl (hb hby d6_13) rfl (l' := #[.val (.ref a1), .val (.int (0 : Int32)), .val (.ref a3), .val (.int (0 : Int32)), .val (.int (2 : Int32)), .val (.int (0 : Int32)), .val (.int c0)]) rfl k) ?_
  show OEnds p.tables e below G (s₁.setTop (mkF m 15 #[.val (.ref a1), .val (.int (0 : Int32)), .val (.ref a3), .val (.int (0 : Int32)), .val (.int (2 : Int32)), .val (.int (0 : Int32)), .val (.int c0)] []))
  refine OEnds.st (fun _ k => XS.iload X0.here hx rfl (hb hby d6_15) rfl k) ?_
  show OEnds p.tables e below G (s₁.setTop (mkF m 17 #[.val (.ref a1), .val (.int (0 : Int32)), .val (.ref a3), .val (.int (0 : Int32)), .val (.int (2 : Int32)), .val (.int (0 : Int32)), .val (.int c0)] [(.int c0)]))
  refine OEnds.st (fun _ k => XS.sipush X0.here hx rfl (hb hby d6_17) k) ?_
  show OEnds p.tables e below G (s₁.setTop (mkF m 20 #[.val (.ref a1), .val (.int (0 : Int32)), .val (.ref a3), .val (.int (0 : Int32)), .val (.int (2 : Int32)), .val (.int (0 : Int32)), .val (.int c0)] [(.int (255 : Int32)), (.int c0)]))
  refine OEnds.st (fun _ k => XS.icmpYes X0.here hx rfl (pc0 := 20) (pc' := 26) rfl (hb hby d6_20) rfl (flt hc0).2.2.2 (by decide) (by decide) k) ?_
  show OEnds p.tables e below G (s₁.setTop (mkF m 26 #[.val (.ref a1), .val (.int (0 : Int32)), .val (.ref a3), .val (.int (0 : Int32)), .val (.int (2 : Int32)), .val (.int (0 : Int32)), .val (.int c0)] []))
  refine OEnds.st (fun _ k => XS.aloadN X0.here hx rfl (hb hby d6_26) rfl rfl k) ?_
  show OEnds p.tables e below G (s₁.setTop (mkF m 27 #[.val (.ref a1), .val (.int (0 : Int32)), .val (.ref a3), .val (.int (0 : Int32)), .val (.int (2 : Int32)), .val (.int (0 : Int32)), .val (.int c0)] [(.ref a3)]))
  refine OEnds.st (fun _ k => XS.iloadN X0.here hx rfl (hb hby d6_27) rfl k) ?_
  show OEnds p.tables e below G (s₁.setTop (mkF m 28 #[.val (.ref a1), .val (.int (0 : Int32)), .val (.ref a3), .val (.int (0 : Int32)), .val (.int (2 : Int32)), .val (.int (0 : Int32)), .val (.int c0)] [(.int (0 : Int32)), (.ref a3)]))
  refine OEnds.st (fun _ k => XS.iload X0.here hx rfl (hb hby d6_28) rfl k) ?_
  show OEnds p.tables e below G (s₁.setTop (mkF m 30 #[.val (.ref a1), .val (.int (0 : Int32)), .val (.ref a3), .val (.int (0 : Int32)), .val (.int (2 : Int32)), .val (.int (0 : Int32)), .val (.int c0)] [(.int c0), (.int (0 : Int32)), (.ref a3)]))
  refine OEnds.st (fun _ k => XS.i2b X0.here hx rfl (hb hby d6_30) rfl k) ?_
  show OEnds p.tables e below G (s₁.setTop (mkF m 31 #[.val (.ref a1), .val (.int (0 : Int32)), .val (.ref a3), .val (.int (0 : Int32)), .val (.int (2 : Int32)), .val (.int (0 : Int32)), .val (.int c0)] [(.int (c0.toInt8.toInt32)), (.int (0 : Int32)), (.ref a3)]))
  obtain ⟨cl1002, Ar1002, q1002, S1002, N1002n, H1002, G1002⟩ := id V3
  have hin1002 : ¬ ((0 : Int32) < 0 ∨ cl1002.slots.size ≤ ((0 : Int32)).toNatClampNeg) := inb_of S1002 ⟨by decide, by decide⟩
  obtain ⟨T1002, h1002, X1002, e1002, W1002, st1002⟩ := stB X0 hx hZ e0 Ar1002 (j := (0 : Int32)) hin1002 (g := (mkF m 31 #[.val (.ref a1), .val (.int (0 : Int32)), .val (.ref a3), .val (.int (0 : Int32)), .val (.int (2 : Int32)), .val (.int (0 : Int32)), .val (.int c0)] [(.int (c0.toInt8.toInt32)), (.int (0 : Int32)), (.ref a3)])) rfl rfl (hb hby d6_31)
  refine OEnds.st st1002 ?_
  rw [own_b8] at W1002
  have f1003 : Arv Z h1002 a3 k3 .byte (2 : Int32) [(.int (c0.toInt8.toInt32)), (.int (0 : Int32))] (.int (0 : Int32)) := Arv.set Ar1002 q1002 S1002 N1002n H1002 G1002 (fits_nar_byte _) W1002 0 rfl (Nat.le_of_ble_eq_true rfl)
  have f1004 : Arv Z h1002 a1 k1 .char (2 : Int32) [(.int c0), (.int c1)] (.int (0 : Int32)) := V1.other W1002 n13
  have N1002 := Fr.snoc X1002 N0 g_a3
  have KK1002 : Keep h0 h1002 [a3] := KK0.wr W1002 (Or.inl (List.mem_of_getElem? (i := 0) rfl))
  have Z1002 := Nat.le_trans Z0 (Keep.of_wr W1002).1
  show OEnds p.tables e below G (T1002.setTop (mkF m 32 #[.val (.ref a1), .val (.int (0 : Int32)), .val (.ref a3), .val (.int (0 : Int32)), .val (.int (2 : Int32)), .val (.int (0 : Int32)), .val (.int c0)] []))
  refine OEnds.st (fun _ k => XS.iinc X1002.here hx rfl (hb hby d6_32) rfl (l' := #[.val (.ref a1), .val (.int ((0 : Int32) + (1 : Int32))), .val (.ref a3), .val (.int (0 : Int32)), .val (.int (2 : Int32)), .val (.int (0 : Int32)), .val (.int c0)]) rfl k) ?_
  show OEnds p.tables e below G (T1002.setTop (mkF m 35 #[.val (.ref a1), .val (.int ((0 : Int32) + (1 : Int32))), .val (.ref a3), .val (.int (0 : Int32)), .val (.int (2 : Int32)), .val (.int (0 : Int32)), .val (.int c0)] []))
  rw [show ((0 : Int32) + (1 : Int32)) = (1 : Int32) from by decide]
  show OEnds p.tables e below G (T1002.setTop (mkF m 35 #[.val (.ref a1), .val (.int (1 : Int32)), .val (.ref a3), .val (.int (0 : Int32)), .val (.int (2 : Int32)), .val (.int (0 : Int32)), .val (.int c0)] []))
  refine OEnds.st (fun _ k => XS.iinc X1002.here hx rfl (hb hby d6_35) rfl (l' := #[.val (.ref a1), .val (.int (1 : Int32)), .val (.ref a3), .val (.int ((0 : Int32) + (1 : Int32))), .val (.int (2 : Int32)), .val (.int (0 : Int32)), .val (.int c0)]) rfl k) ?_
  show OEnds p.tables e below G (T1002.setTop (mkF m 38 #[.val (.ref a1), .val (.int (1 : Int32)), .val (.ref a3), .val (.int ((0 : Int32) + (1 : Int32))), .val (.int (2 : Int32)), .val (.int (0 : Int32)), .val (.int c0)] []))
  rw [show ((0 : Int32) + (1 : Int32)) = (1 : Int32) from by decide]
  show OEnds p.tables e below G (T1002.setTop (mkF m 38 #[.val (.ref a1), .val (.int (1 : Int32)), .val (.ref a3), .val (.int (1 : Int32)), .val (.int (2 : Int32)), .val (.int (0 : Int32)), .val (.int c0)] []))
  refine OEnds.st (fun _ k => XS.iinc X1002.here hx rfl (hb hby d6_38) rfl (l' := #[.val (.ref a1), .val (.int (1 : Int32)), .val (.ref a3), .val (.int (1 : Int32)), .val (.int (2 : Int32)), .val (.int ((0 : Int32) + (1 : Int32))), .val (.int c0)]) rfl k) ?_
  show OEnds p.tables e below G (T1002.setTop (mkF m 41 #[.val (.ref a1), .val (.int (1 : Int32)), .val (.ref a3), .val (.int (1 : Int32)), .val (.int (2 : Int32)), .val (.int ((0 : Int32) + (1 : Int32))), .val (.int c0)] []))
  rw [show ((0 : Int32) + (1 : Int32)) = (1 : Int32) from by decide]
  show OEnds p.tables e below G (T1002.setTop (mkF m 41 #[.val (.ref a1), .val (.int (1 : Int32)), .val (.ref a3), .val (.int (1 : Int32)), .val (.int (2 : Int32)), .val (.int (1 : Int32)), .val (.int c0)] []))
  refine OEnds.st (fun _ k => XS.goto X1002.here hx rfl (pc0 := 41) (pc' := 3) rfl (hb hby d6_41) (by decide) (by decide) k) ?_
  show OEnds p.tables e below G (T1002.setTop (mkF m 3 #[.val (.ref a1), .val (.int (1 : Int32)), .val (.ref a3), .val (.int (1 : Int32)), .val (.int (2 : Int32)), .val (.int (1 : Int32)), .val (.int c0)] []))
  refine OEnds.st (fun _ k => XS.iload X1002.here hx rfl (hb hby d6_3) rfl k) ?_
  show OEnds p.tables e below G (T1002.setTop (mkF m 5 #[.val (.ref a1), .val (.int (1 : Int32)), .val (.ref a3), .val (.int (1 : Int32)), .val (.int (2 : Int32)), .val (.int (1 : Int32)), .val (.int c0)] [(.int (1 : Int32))]))
  refine OEnds.st (fun _ k => XS.iload X1002.here hx rfl (hb hby d6_5) rfl k) ?_
  show OEnds p.tables e below G (T1002.setTop (mkF m 7 #[.val (.ref a1), .val (.int (1 : Int32)), .val (.ref a3), .val (.int (1 : Int32)), .val (.int (2 : Int32)), .val (.int (1 : Int32)), .val (.int c0)] [(.int (2 : Int32)), (.int (1 : Int32))]))
  refine OEnds.st (fun _ k => XS.icmpNo X1002.here hx rfl (hb hby d6_7) rfl (tlt (by decide : (1 : Int32) < (2 : Int32))).2.1 k) ?_
  show OEnds p.tables e below G (T1002.setTop (mkF m 10 #[.val (.ref a1), .val (.int (1 : Int32)), .val (.ref a3), .val (.int (1 : Int32)), .val (.int (2 : Int32)), .val (.int (1 : Int32)), .val (.int c0)] []))
  refine OEnds.st (fun _ k => XS.aloadN X1002.here hx rfl (hb hby d6_10) rfl rfl k) ?_
  show OEnds p.tables e below G (T1002.setTop (mkF m 11 #[.val (.ref a1), .val (.int (1 : Int32)), .val (.ref a3), .val (.int (1 : Int32)), .val (.int (2 : Int32)), .val (.int (1 : Int32)), .val (.int c0)] [(.ref a1)]))
  refine OEnds.st (fun _ k => XS.iloadN X1002.here hx rfl (hb hby d6_11) rfl k) ?_
  show OEnds p.tables e below G (T1002.setTop (mkF m 12 #[.val (.ref a1), .val (.int (1 : Int32)), .val (.ref a3), .val (.int (1 : Int32)), .val (.int (2 : Int32)), .val (.int (1 : Int32)), .val (.int c0)] [(.int (1 : Int32)), (.ref a1)]))
  obtain ⟨cl1005, Ar1005, q1005, S1005, N1005n, H1005, G1005⟩ := id f1004
  have hin1005 : ¬ ((1 : Int32) < 0 ∨ cl1005.slots.size ≤ ((1 : Int32)).toNatClampNeg) := inb_of S1005 ⟨by decide, by decide⟩
  have hat1005 : cl1005.slots[((1 : Int32)).toNatClampNeg]? = some (.int c1) := H1005.at hin1005 rfl
  refine OEnds.st (X1002.caload hx (j := (1 : Int32)) (v := (.int c1)) (by rw [e1002]; exact Ar1005.1) (State.isArrayOf_alike hZ.alike Ar1005.2.1) Ar1005.2.2 hin1005 hat1005 (g := (mkF m 12 #[.val (.ref a1), .val (.int (1 : Int32)), .val (.ref a3), .val (.int (1 : Int32)), .val (.int (2 : Int32)), .val (.int (1 : Int32)), .val (.int c0)] [(.int (1 : Int32)), (.ref a1)])) rfl rfl (hb hby d6_12)) ?_
  show OEnds p.tables e below G (T1002.setTop (mkF m 13 #[.val (.ref a1), .val (.int (1 : Int32)), .val (.ref a3), .val (.int (1 : Int32)), .val (.int (2 : Int32)), .val (.int (1 : Int32)), .val (.int c0)] [(.int c1)]))
  refine OEnds.st (fun _ k => XS.istore X1002.here hx rfl (hb hby d6_13) rfl (l' := #[.val (.ref a1), .val (.int (1 : Int32)), .val (.ref a3), .val (.int (1 : Int32)), .val (.int (2 : Int32)), .val (.int (1 : Int32)), .val (.int c1)]) rfl k) ?_
  show OEnds p.tables e below G (T1002.setTop (mkF m 15 #[.val (.ref a1), .val (.int (1 : Int32)), .val (.ref a3), .val (.int (1 : Int32)), .val (.int (2 : Int32)), .val (.int (1 : Int32)), .val (.int c1)] []))
  refine OEnds.st (fun _ k => XS.iload X1002.here hx rfl (hb hby d6_15) rfl k) ?_
  show OEnds p.tables e below G (T1002.setTop (mkF m 17 #[.val (.ref a1), .val (.int (1 : Int32)), .val (.ref a3), .val (.int (1 : Int32)), .val (.int (2 : Int32)), .val (.int (1 : Int32)), .val (.int c1)] [(.int c1)]))
  refine OEnds.st (fun _ k => XS.sipush X1002.here hx rfl (hb hby d6_17) k) ?_
  show OEnds p.tables e below G (T1002.setTop (mkF m 20 #[.val (.ref a1), .val (.int (1 : Int32)), .val (.ref a3), .val (.int (1 : Int32)), .val (.int (2 : Int32)), .val (.int (1 : Int32)), .val (.int c1)] [(.int (255 : Int32)), (.int c1)]))
  refine OEnds.st (fun _ k => XS.icmpYes X1002.here hx rfl (pc0 := 20) (pc' := 26) rfl (hb hby d6_20) rfl (flt hc1).2.2.2 (by decide) (by decide) k) ?_
  show OEnds p.tables e below G (T1002.setTop (mkF m 26 #[.val (.ref a1), .val (.int (1 : Int32)), .val (.ref a3), .val (.int (1 : Int32)), .val (.int (2 : Int32)), .val (.int (1 : Int32)), .val (.int c1)] []))
  refine OEnds.st (fun _ k => XS.aloadN X1002.here hx rfl (hb hby d6_26) rfl rfl k) ?_
  show OEnds p.tables e below G (T1002.setTop (mkF m 27 #[.val (.ref a1), .val (.int (1 : Int32)), .val (.ref a3), .val (.int (1 : Int32)), .val (.int (2 : Int32)), .val (.int (1 : Int32)), .val (.int c1)] [(.ref a3)]))
  refine OEnds.st (fun _ k => XS.iloadN X1002.here hx rfl (hb hby d6_27) rfl k) ?_
  show OEnds p.tables e below G (T1002.setTop (mkF m 28 #[.val (.ref a1), .val (.int (1 : Int32)), .val (.ref a3), .val (.int (1 : Int32)), .val (.int (2 : Int32)), .val (.int (1 : Int32)), .val (.int c1)] [(.int (1 : Int32)), (.ref a3)]))
  refine OEnds.st (fun _ k => XS.iload X1002.here hx rfl (hb hby d6_28) rfl k) ?_
  show OEnds p.tables e below G (T1002.setTop (mkF m 30 #[.val (.ref a1), .val (.int (1 : Int32)), .val (.ref a3), .val (.int (1 : Int32)), .val (.int (2 : Int32)), .val (.int (1 : Int32)), .val (.int c1)] [(.int c1), (.int (1 : Int32)), (.ref a3)]))
  refine OEnds.st (fun _ k => XS.i2b X1002.here hx rfl (hb hby d6_30) rfl k) ?_
  show OEnds p.tables e below G (T1002.setTop (mkF m 31 #[.val (.ref a1), .val (.int (1 : Int32)), .val (.ref a3), .val (.int (1 : Int32)), .val (.int (2 : Int32)), .val (.int (1 : Int32)), .val (.int c1)] [(.int (c1.toInt8.toInt32)), (.int (1 : Int32)), (.ref a3)]))
  obtain ⟨cl1006, Ar1006, q1006, S1006, N1006n, H1006, G1006⟩ := id f1003
  have hin1006 : ¬ ((1 : Int32) < 0 ∨ cl1006.slots.size ≤ ((1 : Int32)).toNatClampNeg) := inb_of S1006 ⟨by decide, by decide⟩
  obtain ⟨T1006, h1006, X1006, e1006, W1006, st1006⟩ := stB X1002 hx hZ e1002 Ar1006 (j := (1 : Int32)) hin1006 (g := (mkF m 31 #[.val (.ref a1), .val (.int (1 : Int32)), .val (.ref a3), .val (.int (1 : Int32)), .val (.int (2 : Int32)), .val (.int (1 : Int32)), .val (.int c1)] [(.int (c1.toInt8.toInt32)), (.int (1 : Int32)), (.ref a3)])) rfl rfl (hb hby d6_31)
  refine OEnds.st st1006 ?_
  rw [own_b8] at W1006
  have f1007 : Arv Z h1006 a3 k3 .byte (2 : Int32) [(.int (c0.toInt8.toInt32)), (.int (c1.toInt8.toInt32))] (.int (0 : Int32)) := Arv.set Ar1006 q1006 S1006 N1006n H1006 G1006 (fits_nar_byte _) W1006 1 rfl (Nat.le_of_ble_eq_true rfl)
  have f1008 : Arv Z h1006 a1 k1 .char (2 : Int32) [(.int c0), (.int c1)] (.int (0 : Int32)) := f1004.other W1006 n13
  have N1006 := Fr.snoc X1006 N1002 g_a3
  have KK1006 : Keep h0 h1006 [a3] := KK1002.wr W1006 (Or.inl (List.mem_of_getElem? (i := 0) rfl))
  have Z1006 := Nat.le_trans Z1002 (Keep.of_wr W1006).1
  show OEnds p.tables e below G (T1006.setTop (mkF m 32 #[.val (.ref a1), .val (.int (1 : Int32)), .val (.ref a3), .val (.int (1 : Int32)), .val (.int (2 : Int32)), .val (.int (1 : Int32)), .val (.int c1)] []))
  refine OEnds.st (fun _ k => XS.iinc X1006.here hx rfl (hb hby d6_32) rfl (l' := #[.val (.ref a1), .val (.int ((1 : Int32) + (1 : Int32))), .val (.ref a3), .val (.int (1 : Int32)), .val (.int (2 : Int32)), .val (.int (1 : Int32)), .val (.int c1)]) rfl k) ?_
  show OEnds p.tables e below G (T1006.setTop (mkF m 35 #[.val (.ref a1), .val (.int ((1 : Int32) + (1 : Int32))), .val (.ref a3), .val (.int (1 : Int32)), .val (.int (2 : Int32)), .val (.int (1 : Int32)), .val (.int c1)] []))
  rw [show ((1 : Int32) + (1 : Int32)) = (2 : Int32) from by decide]
  show OEnds p.tables e below G (T1006.setTop (mkF m 35 #[.val (.ref a1), .val (.int (2 : Int32)), .val (.ref a3), .val (.int (1 : Int32)), .val (.int (2 : Int32)), .val (.int (1 : Int32)), .val (.int c1)] []))
  refine OEnds.st (fun _ k => XS.iinc X1006.here hx rfl (hb hby d6_35) rfl (l' := #[.val (.ref a1), .val (.int (2 : Int32)), .val (.ref a3), .val (.int ((1 : Int32) + (1 : Int32))), .val (.int (2 : Int32)), .val (.int (1 : Int32)), .val (.int c1)]) rfl k) ?_
  show OEnds p.tables e below G (T1006.setTop (mkF m 38 #[.val (.ref a1), .val (.int (2 : Int32)), .val (.ref a3), .val (.int ((1 : Int32) + (1 : Int32))), .val (.int (2 : Int32)), .val (.int (1 : Int32)), .val (.int c1)] []))
  rw [show ((1 : Int32) + (1 : Int32)) = (2 : Int32) from by decide]
  show OEnds p.tables e below G (T1006.setTop (mkF m 38 #[.val (.ref a1), .val (.int (2 : Int32)), .val (.ref a3), .val (.int (2 : Int32)), .val (.int (2 : Int32)), .val (.int (1 : Int32)), .val (.int c1)] []))
  refine OEnds.st (fun _ k => XS.iinc X1006.here hx rfl (hb hby d6_38) rfl (l' := #[.val (.ref a1), .val (.int (2 : Int32)), .val (.ref a3), .val (.int (2 : Int32)), .val (.int (2 : Int32)), .val (.int ((1 : Int32) + (1 : Int32))), .val (.int c1)]) rfl k) ?_
  show OEnds p.tables e below G (T1006.setTop (mkF m 41 #[.val (.ref a1), .val (.int (2 : Int32)), .val (.ref a3), .val (.int (2 : Int32)), .val (.int (2 : Int32)), .val (.int ((1 : Int32) + (1 : Int32))), .val (.int c1)] []))
  rw [show ((1 : Int32) + (1 : Int32)) = (2 : Int32) from by decide]
  show OEnds p.tables e below G (T1006.setTop (mkF m 41 #[.val (.ref a1), .val (.int (2 : Int32)), .val (.ref a3), .val (.int (2 : Int32)), .val (.int (2 : Int32)), .val (.int (2 : Int32)), .val (.int c1)] []))
  refine OEnds.st (fun _ k => XS.goto X1006.here hx rfl (pc0 := 41) (pc' := 3) rfl (hb hby d6_41) (by decide) (by decide) k) ?_
  show OEnds p.tables e below G (T1006.setTop (mkF m 3 #[.val (.ref a1), .val (.int (2 : Int32)), .val (.ref a3), .val (.int (2 : Int32)), .val (.int (2 : Int32)), .val (.int (2 : Int32)), .val (.int c1)] []))
  refine OEnds.st (fun _ k => XS.iload X1006.here hx rfl (hb hby d6_3) rfl k) ?_
  show OEnds p.tables e below G (T1006.setTop (mkF m 5 #[.val (.ref a1), .val (.int (2 : Int32)), .val (.ref a3), .val (.int (2 : Int32)), .val (.int (2 : Int32)), .val (.int (2 : Int32)), .val (.int c1)] [(.int (2 : Int32))]))
  refine OEnds.st (fun _ k => XS.iload X1006.here hx rfl (hb hby d6_5) rfl k) ?_
  show OEnds p.tables e below G (T1006.setTop (mkF m 7 #[.val (.ref a1), .val (.int (2 : Int32)), .val (.ref a3), .val (.int (2 : Int32)), .val (.int (2 : Int32)), .val (.int (2 : Int32)), .val (.int c1)] [(.int (2 : Int32)), (.int (2 : Int32))]))
  refine OEnds.st (fun _ k => XS.icmpYes X1006.here hx rfl (pc0 := 7) (pc' := 44) rfl (hb hby d6_7) rfl (flt (by decide : ¬ ((2 : Int32) < (2 : Int32)))).2.1 (by decide) (by decide) k) ?_
  show OEnds p.tables e below G (T1006.setTop (mkF m 44 #[.val (.ref a1), .val (.int (2 : Int32)), .val (.ref a3), .val (.int (2 : Int32)), .val (.int (2 : Int32)), .val (.int (2 : Int32)), .val (.int c1)] []))
  refine OEnds.st (fun _ k => XS.iload X1006.here hx rfl (hb hby d6_44) rfl k) ?_
  show OEnds p.tables e below G (T1006.setTop (mkF m 46 #[.val (.ref a1), .val (.int (2 : Int32)), .val (.ref a3), .val (.int (2 : Int32)), .val (.int (2 : Int32)), .val (.int (2 : Int32)), .val (.int c1)] [(.int (2 : Int32))]))
  rw [← hG]
  refine OEnds.retI X1006 hx hlk Bd.returns (hb hby d6_46) (by decide) (by decide) ?_
  rw [e1006]
  exact ⟨rfl, N1006, KK1006, f1007⟩
theorem d5_0 : decode jdk_52_method_16_code 0 = .ok (.iload_n 2, 1) := by decide +kernel
theorem d5_1 : decode jdk_52_method_16_code 1 = .ok (.newarray .byte, 2) := by decide +kernel
theorem d5_3 : decode jdk_52_method_16_code 3 = .ok (.astore_n 3, 1) := by decide +kernel
theorem d5_4 : decode jdk_52_method_16_code 4 = .ok (.aload_n 0, 1) := by decide +kernel
theorem d5_5 : decode jdk_52_method_16_code 5 = .ok (.iload_n 1, 1) := by decide +kernel
theorem d5_6 : decode jdk_52_method_16_code 6 = .ok (.aload_n 3, 1) := by decide +kernel
theorem d5_7 : decode jdk_52_method_16_code 7 = .ok (.iconst 0, 1) := by decide +kernel
theorem d5_8 : decode jdk_52_method_16_code 8 = .ok (.iload_n 2, 1) := by decide +kernel
theorem d5_9 : decode jdk_52_method_16_code 9 = .ok (.invokestatic 115, 3) := by decide +kernel
theorem d5_12 : decode jdk_52_method_16_code 12 = .ok (.istore 4, 2) := by decide +kernel
theorem d5_14 : decode jdk_52_method_16_code 14 = .ok (.iload 4, 2) := by decide +kernel
theorem d5_16 : decode jdk_52_method_16_code 16 = .ok (.iload_n 2, 1) := by decide +kernel
theorem d5_17 : decode jdk_52_method_16_code 17 = .ok (.if_icmp .eq 40, 3) := by decide +kernel
theorem d5_20 : decode jdk_52_method_16_code 20 = .ok (.aload_n 0, 1) := by decide +kernel
theorem d5_21 : decode jdk_52_method_16_code 21 = .ok (.iload_n 1, 1) := by decide +kernel
theorem d5_22 : decode jdk_52_method_16_code 22 = .ok (.iload_n 2, 1) := by decide +kernel
theorem d5_23 : decode jdk_52_method_16_code 23 = .ok (.invokestatic 119, 3) := by decide +kernel
theorem d5_26 : decode jdk_52_method_16_code 26 = .ok (.astore 5, 2) := by decide +kernel
theorem d5_28 : decode jdk_52_method_16_code 28 = .ok (.aload 5, 2) := by decide +kernel
theorem d5_30 : decode jdk_52_method_16_code 30 = .ok (.iload 4, 2) := by decide +kernel
theorem d5_32 : decode jdk_52_method_16_code 32 = .ok (.invokestatic 71, 3) := by decide +kernel
theorem d5_35 : decode jdk_52_method_16_code 35 = .ok (.sipush 255, 3) := by decide +kernel
theorem d5_38 : decode jdk_52_method_16_code 38 = .ok (.if_icmp .gt 16, 3) := by decide +kernel
theorem d5_41 : decode jdk_52_method_16_code 41 = .ok (.aload 5, 2) := by decide +kernel
theorem d5_43 : decode jdk_52_method_16_code 43 = .ok (.iconst 0, 1) := by decide +kernel
theorem d5_44 : decode jdk_52_method_16_code 44 = .ok (.aload_n 3, 1) := by decide +kernel
theorem d5_45 : decode jdk_52_method_16_code 45 = .ok (.iconst 0, 1) := by decide +kernel
theorem d5_46 : decode jdk_52_method_16_code 46 = .ok (.iload_n 2, 1) := by decide +kernel
theorem d5_47 : decode jdk_52_method_16_code 47 = .ok (.invokestatic 123, 3) := by decide +kernel
theorem d5_50 : decode jdk_52_method_16_code 50 = .ok (.iload_n 2, 1) := by decide +kernel
theorem d5_51 : decode jdk_52_method_16_code 51 = .ok (.if_icmp .eq 6, 3) := by decide +kernel
theorem d5_54 : decode jdk_52_method_16_code 54 = .ok (.aload 5, 2) := by decide +kernel
theorem d5_56 : decode jdk_52_method_16_code 56 = .ok (.areturn, 1) := by decide +kernel
theorem d5_57 : decode jdk_52_method_16_code 57 = .ok (.aload_n 3, 1) := by decide +kernel
theorem d5_58 : decode jdk_52_method_16_code 58 = .ok (.areturn, 1) := by decide +kernel
theorem ef_5 (m : MethodId) (a1 : Addr) : entryFrame m #[(.ref a1), (.int (0 : Int32)), (.int (2 : Int32))] 6 = mkF m 0 #[.val (.ref a1), .val (.int (0 : Int32)), .val (.int (2 : Int32)), .unset, .unset, .unset] [] := by first | (simp [entryFrame, mkF, argsToLocals, Value.category]; done) | rfl
def Q5 (Z : State) (a1 : Addr) (k1 : ClassId) (c0 : Int32) (c1 : Int32) (h0 : Heap) (n0 : Nat) (v : Option Value) (h : Heap) (L : List Loc) : Prop := ∃ (b : Addr) (kb : ClassId), v = some (.ref b) ∧ Fr n0 L ∧ Keep h0 h [] ∧ h0.size ≤ b ∧ Arv Z h b kb .byte (2 : Int32) [(.int (c0.toInt8.toInt32)), (.int (c1.toInt8.toInt32))] (.int (0 : Int32))
theorem pd_0 : parseMethodDescriptor "([CI[BII)I" = some ⟨[(.array .char), .int, (.array .byte), .int, .int], some .int⟩ := by decide +kernel
set_option maxRecDepth 65536 in
set_option maxHeartbeats 40000000 in
theorem rm5 (l : Launch) (Z : State) (a0 : Array Value) (hw : ∀ d ∈ tables_1, d.before a0 Z = true) (ws : List Jvm.Cond) (a1 : Addr) (k1 : ClassId) (c0 : Int32) (c1 : Int32) (h0 : Heap) (n0 : Nat) (Z0 : n0 ≤ h0.size) (V1 : Arv Z h0 a1 k1 .char (2 : Int32) [(.int c0), (.int c1)] (.int (0 : Int32))) (hc0 : ¬ ((255 : Int32) < c0)) (hc1 : ¬ ((255 : Int32) < c1)) :
    MetFree l (⟨"java/lang/StringUTF16", "compress", "([CII)[B"⟩ : MethodName) (head1 (Jvm.Cond.code (⟨"java/lang/StringUTF16", "compress", "([CII)[B"⟩ : MethodName) jdk_52_method_16_code 6 (some (.array .byte)) :: ws) ({ frames := 1, cells := 1, slots := 2, locals := 18 } : Room)) (fun a U => a = #[(.ref a1), (.int (0 : Int32)), (.int (2 : Int32))] ∧ Z.Warmed39 U.vm ∧ U.heap = h0) (fun _ _ _ _ _ => True) (fun _ U o U' => ∃ v L, o = .returned v ∧ Q5 Z a1 k1 c0 c1 h0 n0 v U'.heap L ∧ FrameEnd U o U' L ({ frames := 1, cells := 1, slots := 2, locals := 18 } : Room).cells ({ frames := 1, cells := 1, slots := 2, locals := 18 } : Room).slots) := by
  refine MetFree.of_bodySF (plainFor_of_name pn_0) hisR ?_
  intro p e s m args below meth c s₁ Bd hml0 hP hK
  obtain ⟨rfl, hZ, hh⟩ := hP
  have hx := Bd.exec
  have hby := Bd.bytes
  have hml : c.maxLocals = 6 := hml0
  have hown : s.vm.findClass "java/lang/StringUTF16" = some m.cls := findClass_of_methodNamed Bd.named
  have hnm := (name_of_methodNamed Bd.named Bd.method).1
  have hlk : meth.locks = false := BodyLoose.notSynchronized Bd
  have X0 : Stand p l e ({ frames := 1, cells := 1, slots := 2, locals := 18 } : Room) s m #[(.ref a1), (.int (0 : Int32)), (.int (2 : Int32))] below meth c s₁ [] 0 0 := Stand.of_body Bd
  have e0 : s₁.heap = h0 := by rw [← hh, Bd.state]; rfl
  have N0 := Fr.nil n0
  show OEnds p.tables e below (OGoal (Q5 Z a1 k1 c0 c1 h0 n0) s 1 2) (s₁.setTop (entryFrame m #[(.ref a1), (.int (0 : Int32)), (.int (2 : Int32))] 6))
  refine OEnds.st (fun t k => castTop (ef_5 m a1) k) ?_
  generalize hG : OGoal (Q5 Z a1 k1 c0 c1 h0 n0) s 1 2 = G
  have KK0 : Keep h0 h0 [] := Keep.refl h0 []
  show OEnds p.tables e below G (s₁.setTop (mkF m 0 #[.val (.ref a1), .val (.int (0 : Int32)), .val (.int (2 : Int32)), .unset, .unset, .unset] []))
  refine OEnds.st (fun _ k => XS.iloadN X0.here hx rfl (hb hby d5_0) rfl k) ?_
  show OEnds p.tables e below G (s₁.setTop (mkF m 1 #[.val (.ref a1), .val (.int (0 : Int32)), .val (.int (2 : Int32)), .unset, .unset, .unset] [(.int (2 : Int32))]))
  obtain ⟨T1001, h1001, k1001, X1001, e1001, E1001, A1001, st1001⟩ := newP X0 hx hZ (hw _ (List.mem_of_getElem? (i := 23) rfl)) e0 (g := (mkF m 1 #[.val (.ref a1), .val (.int (0 : Int32)), .val (.int (2 : Int32)), .unset, .unset, .unset] [(.int (2 : Int32))])) rfl (hb hby d5_1) rfl (by decide) (cap := 2) (by decide) (by decide) (by decide) (by decide)
  obtain ⟨b1001, g1001⟩ : ∃ z, z = h0.size := ⟨_, rfl⟩
  rw [← g1001] at A1001 st1001
  refine OEnds.st st1001 ?_
  have ne1002 : a1 ≠ b1001 := Nat.ne_of_lt (Nat.lt_of_lt_of_le (V1).lt (Nat.le_of_eq g1001.symm))
  have ge_b1001 : n0 ≤ b1001 := Nat.le_trans Z0 (Nat.le_of_eq g1001.symm)
  have sz_b1001 : h0.size ≤ b1001 := Nat.le_trans KK0.1 (Nat.le_of_eq g1001.symm)
  have f1003 : Arv Z h1001 a1 k1 .char (2 : Int32) [(.int c0), (.int c1)] (.int (0 : Int32)) := V1.ext E1001
  have KK1001 : Keep h0 h1001 [] := KK0.ext E1001
  have Z1001 := Nat.le_trans Z0 E1001.1
  have f1004 : Arv Z h1001 b1001 k1001 .byte (2 : Int32) [(.int (0 : Int32)), (.int (0 : Int32))] (.int (0 : Int32)) := (Arv.new A1001 (by decide)).pad (pad_rep [] (.int (0 : Int32)) 2)
  show OEnds p.tables e below G (T1001.setTop (mkF m 3 #[.val (.ref a1), .val (.int (0 : Int32)), .val (.int (2 : Int32)), .unset, .unset, .unset] [(.ref b1001)]))
  refine OEnds.st (fun _ k => XS.astoreN X1001.here hx rfl (hb hby d5_3) rfl rfl (l' := #[.val (.ref a1), .val (.int (0 : Int32)), .val (.int (2 : Int32)), .val (.ref b1001), .unset, .unset]) rfl k) ?_
  show OEnds p.tables e below G (T1001.setTop (mkF m 4 #[.val (.ref a1), .val (.int (0 : Int32)), .val (.int (2 : Int32)), .val (.ref b1001), .unset, .unset] []))
  refine OEnds.st (fun _ k => XS.aloadN X1001.here hx rfl (hb hby d5_4) rfl rfl k) ?_
  show OEnds p.tables e below G (T1001.setTop (mkF m 5 #[.val (.ref a1), .val (.int (0 : Int32)), .val (.int (2 : Int32)), .val (.ref b1001), .unset, .unset] [(.ref a1)]))
  refine OEnds.st (fun _ k => XS.iloadN X1001.here hx rfl (hb hby d5_5) rfl k) ?_
  show OEnds p.tables e below G (T1001.setTop (mkF m 6 #[.val (.ref a1), .val (.int (0 : Int32)), .val (.int (2 : Int32)), .val (.ref b1001), .unset, .unset] [(.int (0 : Int32)), (.ref a1)]))
  refine OEnds.st (fun _ k => XS.aloadN X1001.here hx rfl (hb hby d5_6) rfl rfl k) ?_
  show OEnds p.tables e below G (T1001.setTop (mkF m 7 #[.val (.ref a1), .val (.int (0 : Int32)), .val (.int (2 : Int32)), .val (.ref b1001), .unset, .unset] [(.ref b1001), (.int (0 : Int32)), (.ref a1)]))
  refine OEnds.st (fun _ k => XS.iconst X1001.here hx rfl (hb hby d5_7) k) ?_
  show OEnds p.tables e below G (T1001.setTop (mkF m 8 #[.val (.ref a1), .val (.int (0 : Int32)), .val (.int (2 : Int32)), .val (.ref b1001), .unset, .unset] [(.int (0 : Int32)), (.ref b1001), (.int (0 : Int32)), (.ref a1)]))
  refine OEnds.st (fun _ k => XS.iloadN X1001.here hx rfl (hb hby d5_8) rfl k) ?_
  show OEnds p.tables e below G (T1001.setTop (mkF m 9 #[.val (.ref a1), .val (.int (0 : Int32)), .val (.int (2 : Int32)), .val (.ref b1001), .unset, .unset] [(.int (2 : Int32)), (.int (0 : Int32)), (.ref b1001), (.int (0 : Int32)), (.ref a1)]))
  obtain ⟨_, _, ⟨T1005, L1005, k1005c, n1005c⟩, -, X1005, ⟨Lc1005, hQ1005, l1005, y1005, z1005⟩, st1005⟩ := Jvm.LawKit.callS X1001 hx (y := (⟨"java/lang/StringUTF16", "compress", "([CI[BII)I"⟩ : MethodName)) hown (mvT hZ (hw _ (List.mem_of_getElem? (i := 24) rfl))) (mvT hZ (hw _ (List.mem_of_getElem? (i := 25) rfl))) (mvT hZ (hw _ (List.mem_of_getElem? (i := 21) rfl))) (mvT hZ (hw _ (List.mem_of_getElem? (i := 26) rfl))) (by decide) (backOf (W := 0) (rm6 l Z a0 hw [] a1 b1001 k1 k1001 c0 c1 h1001 n0 Z1001 f1003 f1004 ge_b1001 ne1002 hc0 hc1) hZ (hw _ (List.mem_of_getElem? (i := 26) rfl)) (hw _ (List.mem_of_getElem? (i := 21) rfl)) (by decide) (by decide)) (g := (mkF m 9 #[.val (.ref a1), .val (.int (0 : Int32)), .val (.int (2 : Int32)), .val (.ref b1001), .unset, .unset] [(.int (2 : Int32)), (.int (0 : Int32)), (.ref b1001), (.int (0 : Int32)), (.ref a1)])) rfl (by rw [hml]; rfl) (argsL := [(.ref a1), (.int (0 : Int32)), (.ref b1001), (.int (0 : Int32)), (.int (2 : Int32))]) (rest := []) (lenOf pd_0 rfl) rfl (by show 2 * 0 + _ ≤ _; exact Nat.le_of_eq rfl) (hb hby d5_9) (fun _ _ => ⟨rfl, e1001, (by decide : 0 + 1 + 0 ≤ _), (by decide : 0 + 2 + 0 ≤ _)⟩)
  dsimp only [Pt.U, Pt.locs, Pt.cells, Pt.slots] at X1005 l1005 y1005 z1005 st1005 hQ1005
  subst l1005 y1005 z1005
  obtain ⟨rfl, N1005q, p1006, p1007⟩ := hQ1005
  have N1005 := Fr.app N0 N1005q
  refine OEnds.st st1005 ?_
  have f1008 : Arv Z T1005.heap a1 k1 .char (2 : Int32) [(.int c0), (.int c1)] (.int (0 : Int32)) := f1003.keep p1006 (by simp only [List.mem_cons, List.not_mem_nil, or_false, not_or]; exact ne1002)
  have KK1005 : Keep h0 T1005.heap [] := KK1001.trans p1006 (fun x hx => by cases List.mem_singleton.mp hx; exact Or.inr sz_b1001)
  have Z1005 := Nat.le_trans Z1001 p1006.1
  show OEnds p.tables e below G (T1005.setTop (mkF m 12 #[.val (.ref a1), .val (.int (0 : Int32)), .val (.int (2 : Int32)), .val (.ref b1001), .unset, .unset] [(.int (2 : Int32))]))
  refine OEnds.st (fun _ k => XS.istore X1005.here hx rfl (hb hby d5_12) rfl (l' := #[.val (.ref a1), .val (.int (0 : Int32)), .val (.int (2 : Int32)), .val (.ref b1001), .val (.int (2 : Int32)), .unset]) rfl k) ?_
  show OEnds p.tables e below G (T1005.setTop (mkF m 14 #[.val (.ref a1), .val (.int (0 : Int32)), .val (.int (2 : Int32)), .val (.ref b1001), .val (.int (2 : Int32)), .unset] []))
  refine OEnds.st (fun _ k => XS.iload X1005.here hx rfl (hb hby d5_14) rfl k) ?_
  show OEnds p.tables e below G (T1005.setTop (mkF m 16 #[.val (.ref a1), .val (.int (0 : Int32)), .val (.int (2 : Int32)), .val (.ref b1001), .val (.int (2 : Int32)), .unset] [(.int (2 : Int32))]))
  refine OEnds.st (fun _ k => XS.iloadN X1005.here hx rfl (hb hby d5_16) rfl k) ?_
  show OEnds p.tables e below G (T1005.setTop (mkF m 17 #[.val (.ref a1), .val (.int (0 : Int32)), .val (.int (2 : Int32)), .val (.ref b1001), .val (.int (2 : Int32)), .unset] [(.int (2 : Int32)), (.int (2 : Int32))]))
  refine OEnds.st (fun _ k => XS.icmpYes X1005.here hx rfl (pc0 := 17) (pc' := 57) rfl (hb hby d5_17) rfl (teq (by decide : (2 : Int32) = (2 : Int32))).1 (by decide) (by decide) k) ?_
  show OEnds p.tables e below G (T1005.setTop (mkF m 57 #[.val (.ref a1), .val (.int (0 : Int32)), .val (.int (2 : Int32)), .val (.ref b1001), .val (.int (2 : Int32)), .unset] []))
  refine OEnds.st (fun _ k => XS.aloadN X1005.here hx rfl (hb hby d5_57) rfl rfl k) ?_
  show OEnds p.tables e below G (T1005.setTop (mkF m 58 #[.val (.ref a1), .val (.int (0 : Int32)), .val (.int (2 : Int32)), .val (.ref b1001), .val (.int (2 : Int32)), .unset] [(.ref b1001)]))
  rw [← hG]
  refine OEnds.retA X1005 hx hlk Bd.returns (by first | rfl | exact rfl) rfl (hb hby d5_58) (by decide) (by decide) ?_
  show _
  exact ⟨b1001, k1001, rfl, N1005, KK1005, sz_b1001, p1007⟩
theorem d7_0 : decode jdk_52_method_15_code 0 = .ok (.iload_n 1, 1) := by decide +kernel
theorem d7_1 : decode jdk_52_method_15_code 1 = .ok (.aload_n 0, 1) := by decide +kernel
theorem d7_2 : decode jdk_52_method_15_code 2 = .ok (.arraylength, 1) := by decide +kernel
theorem d7_3 : decode jdk_52_method_15_code 3 = .ok (.isub, 1) := by decide +kernel
theorem d7_4 : decode jdk_52_method_15_code 4 = .ok (.bipush 31, 2) := by decide +kernel
theorem d7_6 : decode jdk_52_method_15_code 6 = .ok (.iushr, 1) := by decide +kernel
theorem d7_7 : decode jdk_52_method_15_code 7 = .ok (.i2b, 1) := by decide +kernel
theorem d7_8 : decode jdk_52_method_15_code 8 = .ok (.ireturn, 1) := by decide +kernel
theorem ef_7 (m : MethodId) (a1 : Addr) : entryFrame m #[(.ref a1), (.int (2 : Int32))] 2 = mkF m 0 #[.val (.ref a1), .val (.int (2 : Int32))] [] := by first | (simp [entryFrame, mkF, argsToLocals, Value.category]; done) | rfl
def Q7 (Z : State) (a1 : Addr) (k : ClassId) (vs : List Value) (d : Value) (h0 : Heap) (n0 : Nat) (v : Option Value) (h : Heap) (L : List Loc) : Prop := v = some (.int (0 : Int32)) ∧ Fr n0 L ∧ h = h0
set_option maxRecDepth 65536 in
set_option maxHeartbeats 40000000 in
theorem rm7 (l : Launch) (Z : State) (a0 : Array Value) (hw : ∀ d ∈ tables_1, d.before a0 Z = true) (ws : List Jvm.Cond) (a1 : Addr) (k : ClassId) (vs : List Value) (d : Value) (h0 : Heap) (n0 : Nat) (Z0 : n0 ≤ h0.size) (V : Arv Z h0 a1 k .byte (2 : Int32) vs d) :
    MetFree l (⟨"java/lang/StringUTF16", "coderFromArrayLen", "([BI)B"⟩ : MethodName) (head1 (Jvm.Cond.code (⟨"java/lang/StringUTF16", "coderFromArrayLen", "([BI)B"⟩ : MethodName) jdk_52_method_15_code 2 (some .byte) :: ws) ({ frames := 0, cells := 0, slots := 0, locals := 0 } : Room)) (fun a U => a = #[(.ref a1), (.int (2 : Int32))] ∧ Z.Warmed39 U.vm ∧ U.heap = h0) (fun _ _ _ _ _ => True) (fun _ U o U' => ∃ v L, o = .returned v ∧ Q7 Z a1 k vs d h0 n0 v U'.heap L ∧ FrameEnd U o U' L ({ frames := 0, cells := 0, slots := 0, locals := 0 } : Room).cells ({ frames := 0, cells := 0, slots := 0, locals := 0 } : Room).slots) := by
  refine MetFree.of_bodySF (plainFor_of_name pn_0) hisR ?_
  intro p e s m args below meth c s₁ Bd hml0 hP hK
  obtain ⟨rfl, hZ, hh⟩ := hP
  have hx := Bd.exec
  have hby := Bd.bytes
  have hml : c.maxLocals = 2 := hml0
  have hown : s.vm.findClass "java/lang/StringUTF16" = some m.cls := findClass_of_methodNamed Bd.named
  have hnm := (name_of_methodNamed Bd.named Bd.method).1
  have hlk : meth.locks = false := BodyLoose.notSynchronized Bd
  have X0 : Stand p l e ({ frames := 0, cells := 0, slots := 0, locals := 0 } : Room) s m #[(.ref a1), (.int (2 : Int32))] below meth c s₁ [] 0 0 := Stand.of_body Bd
  have e0 : s₁.heap = h0 := by rw [← hh, Bd.state]; rfl
  have N0 := Fr.nil n0
  show OEnds p.tables e below (OGoal (Q7 Z a1 k vs d h0 n0) s 0 0) (s₁.setTop (entryFrame m #[(.ref a1), (.int (2 : Int32))] 2))
  refine OEnds.st (fun t k => castTop (ef_7 m a1) k) ?_
  generalize hG : OGoal (Q7 Z a1 k vs d h0 n0) s 0 0 = G
  have KK0 : Keep h0 h0 [] := Keep.refl h0 []
  show OEnds p.tables e below G (s₁.setTop (mkF m 0 #[.val (.ref a1), .val (.int (2 : Int32))] []))
  refine OEnds.st (fun _ k => XS.iloadN X0.here hx rfl (hb hby d7_0) rfl k) ?_
  show OEnds p.tables e below G (s₁.setTop (mkF m 1 #[.val (.ref a1), .val (.int (2 : Int32))] [(.int (2 : Int32))]))
  refine OEnds.st (fun _ k => XS.aloadN X0.here hx rfl (hb hby d7_1) rfl rfl k) ?_
  show OEnds p.tables e below G (s₁.setTop (mkF m 2 #[.val (.ref a1), .val (.int (2 : Int32))] [(.ref a1), (.int (2 : Int32))]))
  obtain ⟨cl1001, Ar1001, -, S1001, N1001n, -, -⟩ := id V
  refine OEnds.st (X0.arraylength hx (by rw [e0]; exact Ar1001.1) (State.isArrayOf_alike hZ.alike Ar1001.2.1) (g := (mkF m 2 #[.val (.ref a1), .val (.int (2 : Int32))] [(.ref a1), (.int (2 : Int32))])) rfl rfl (hb hby d7_2)) ?_
  rw [len_of S1001 N1001n]
  show OEnds p.tables e below G (s₁.setTop (mkF m 3 #[.val (.ref a1), .val (.int (2 : Int32))] [(.int (2 : Int32)), (.int (2 : Int32))]))
  refine OEnds.st (fun _ k => XS.isub X0.here hx rfl (hb hby d7_3) rfl k) ?_
  show OEnds p.tables e below G (s₁.setTop (mkF m 4 #[.val (.ref a1), .val (.int (2 : Int32))] [(.int ((2 : Int32) - (2 : Int32)))]))
  refine OEnds.st (fun _ k => XS.bipush X0.here hx rfl (hb hby d7_4) k) ?_
  show OEnds p.tables e below G (s₁.setTop (mkF m 6 #[.val (.ref a1), .val (.int (2 : Int32))] [(.int (31 : Int32)), (.int ((2 : Int32) - (2 : Int32)))]))
  refine OEnds.st (fun _ k => XS.iushr X0.here hx rfl (hb hby d7_6) rfl k) ?_
  show OEnds p.tables e below G (s₁.setTop (mkF m 7 #[.val (.ref a1), .val (.int (2 : Int32))] [(.int ((((2 : Int32) - (2 : Int32)).toUInt32 >>> ((31 : Int32) &&& 31).toUInt32).toInt32))]))
  refine OEnds.st (fun _ k => XS.i2b X0.here hx rfl (hb hby d7_7) rfl k) ?_
  show OEnds p.tables e below G (s₁.setTop (mkF m 8 #[.val (.ref a1), .val (.int (2 : Int32))] [(.int (((((2 : Int32) - (2 : Int32)).toUInt32 >>> ((31 : Int32) &&& 31).toUInt32).toInt32).toInt8.toInt32))]))
  rw [show (((((2 : Int32) - (2 : Int32)).toUInt32 >>> ((31 : Int32) &&& 31).toUInt32).toInt32).toInt8.toInt32) = (0 : Int32) from by decide]
  show OEnds p.tables e below G (s₁.setTop (mkF m 8 #[.val (.ref a1), .val (.int (2 : Int32))] [(.int (0 : Int32))]))
  rw [← hG]
  refine OEnds.retB X0 hx hlk Bd.returns (by decide) (hb hby d7_8) (by decide) (by decide) ?_
  rw [e0]
  exact ⟨rfl, N0, rfl⟩
theorem d3_0 : decode jdk_42_method_149_code 0 = .ok (.aload_n 0, 1) := by decide +kernel
theorem d3_1 : decode jdk_42_method_149_code 1 = .ok (.invokespecial 1, 3) := by decide +kernel
theorem d3_4 : decode jdk_42_method_149_code 4 = .ok (.iload_n 3, 1) := by decide +kernel
theorem d3_5 : decode jdk_42_method_149_code 5 = .ok (.ifCond .ne 22, 3) := by decide +kernel
theorem d3_8 : decode jdk_42_method_149_code 8 = .ok (.aload_n 0, 1) := by decide +kernel
theorem d3_9 : decode jdk_42_method_149_code 9 = .ok (.ldc 7, 2) := by decide +kernel
theorem d3_11 : decode jdk_42_method_149_code 11 = .ok (.getfield 9, 3) := by decide +kernel
theorem d3_14 : decode jdk_42_method_149_code 14 = .ok (.putfield 9, 3) := by decide +kernel
theorem d3_17 : decode jdk_42_method_149_code 17 = .ok (.aload_n 0, 1) := by decide +kernel
theorem d3_18 : decode jdk_42_method_149_code 18 = .ok (.ldc 7, 2) := by decide +kernel
theorem d3_20 : decode jdk_42_method_149_code 20 = .ok (.getfield 15, 3) := by decide +kernel
theorem d3_23 : decode jdk_42_method_149_code 23 = .ok (.putfield 15, 3) := by decide +kernel
theorem d3_26 : decode jdk_42_method_149_code 26 = .ok (.return_, 1) := by decide +kernel
theorem d3_27 : decode jdk_42_method_149_code 27 = .ok (.getstatic 38, 3) := by decide +kernel
theorem d3_30 : decode jdk_42_method_149_code 30 = .ok (.ifCond .eq 28, 3) := by decide +kernel
theorem d3_33 : decode jdk_42_method_149_code 33 = .ok (.aload_n 1, 1) := by decide +kernel
theorem d3_34 : decode jdk_42_method_149_code 34 = .ok (.iload_n 2, 1) := by decide +kernel
theorem d3_35 : decode jdk_42_method_149_code 35 = .ok (.iload_n 3, 1) := by decide +kernel
theorem d3_36 : decode jdk_42_method_149_code 36 = .ok (.invokestatic 177, 3) := by decide +kernel
theorem d3_39 : decode jdk_42_method_149_code 39 = .ok (.astore 5, 2) := by decide +kernel
theorem d3_41 : decode jdk_42_method_149_code 41 = .ok (.aload_n 0, 1) := by decide +kernel
theorem d3_42 : decode jdk_42_method_149_code 42 = .ok (.aload 5, 2) := by decide +kernel
theorem d3_44 : decode jdk_42_method_149_code 44 = .ok (.iload_n 3, 1) := by decide +kernel
theorem d3_45 : decode jdk_42_method_149_code 45 = .ok (.invokestatic 47, 3) := by decide +kernel
theorem d3_48 : decode jdk_42_method_149_code 48 = .ok (.putfield 15, 3) := by decide +kernel
theorem d3_51 : decode jdk_42_method_149_code 51 = .ok (.aload_n 0, 1) := by decide +kernel
theorem d3_52 : decode jdk_42_method_149_code 52 = .ok (.aload 5, 2) := by decide +kernel
theorem d3_54 : decode jdk_42_method_149_code 54 = .ok (.putfield 9, 3) := by decide +kernel
theorem d3_57 : decode jdk_42_method_149_code 57 = .ok (.return_, 1) := by decide +kernel
theorem d3_58 : decode jdk_42_method_149_code 58 = .ok (.aload_n 0, 1) := by decide +kernel
theorem d3_59 : decode jdk_42_method_149_code 59 = .ok (.iconst 1, 1) := by decide +kernel
theorem d3_60 : decode jdk_42_method_149_code 60 = .ok (.putfield 15, 3) := by decide +kernel
theorem d3_63 : decode jdk_42_method_149_code 63 = .ok (.aload_n 0, 1) := by decide +kernel
theorem d3_64 : decode jdk_42_method_149_code 64 = .ok (.aload_n 1, 1) := by decide +kernel
theorem d3_65 : decode jdk_42_method_149_code 65 = .ok (.iload_n 2, 1) := by decide +kernel
theorem d3_66 : decode jdk_42_method_149_code 66 = .ok (.iload_n 3, 1) := by decide +kernel
theorem d3_67 : decode jdk_42_method_149_code 67 = .ok (.invokestatic 180, 3) := by decide +kernel
theorem d3_70 : decode jdk_42_method_149_code 70 = .ok (.putfield 9, 3) := by decide +kernel
theorem d3_73 : decode jdk_42_method_149_code 73 = .ok (.return_, 1) := by decide +kernel
theorem pn_1 : plainName "java/lang/String" = true := by first | (simp [plainName, overriddenIn]; done) | decide +kernel
theorem ef_3 (m : MethodId) (a1 : Addr) (a2 : Addr) : entryFrame m #[(.ref a1), (.ref a2), (.int (0 : Int32)), (.int (2 : Int32)), .null] 6 = mkF m 0 #[.val (.ref a1), .val (.ref a2), .val (.int (0 : Int32)), .val (.int (2 : Int32)), .val .null, .unset] [] := by first | (simp [entryFrame, mkF, argsToLocals, Value.category]; done) | rfl
def Q3 (Z : State) (a1 : Addr) (a2 : Addr) (w : Int32) (k2 : ClassId) (c0 : Int32) (c1 : Int32) (h0 : Heap) (n0 : Nat) (v : Option Value) (h : Heap) (L : List Loc) : Prop := v = none ∧ Fr n0 L ∧ Keep h0 h [a1] ∧ Exa Z h a1 "java/lang/String"
theorem pd_1 : parseMethodDescriptor "([CII)[B" = some ⟨[(.array .char), .int, .int], some (.array .byte)⟩ := by decide +kernel
theorem pd_2 : parseMethodDescriptor "([BI)B" = some ⟨[(.array .byte), .int], some .byte⟩ := by decide +kernel
set_option maxRecDepth 65536 in
set_option maxHeartbeats 40000000 in
theorem rm3 (l : Launch) (Z : State) (a0 : Array Value) (hw : ∀ d ∈ tables_1, d.before a0 Z = true) (ws : List Jvm.Cond) (a1 : Addr) (a2 : Addr) (w : Int32) (k2 : ClassId) (c0 : Int32) (c1 : Int32) (h0 : Heap) (n0 : Nat) (Z0 : n0 ≤ h0.size) (E : Exa Z h0 a1 "java/lang/String") (Fv : Fld Z h0 a1 "java/lang/String" "value" "[B" .null) (Fc : Fld Z h0 a1 "java/lang/String" "coder" "B" (.int (0 : Int32))) (V2 : Arv Z h0 a2 k2 .char (2 : Int32) [(.int c0), (.int c1)] (.int (0 : Int32))) (Sc : Sta Z h0 "java/lang/String" "COMPACT_STRINGS" "Z" (.int w)) (g_a1 : n0 ≤ a1) (n21 : a2 ≠ a1) (hw0 : ¬ (w = (0 : Int32))) (hc0 : ¬ ((255 : Int32) < c0)) (hc1 : ¬ ((255 : Int32) < c1)) :
    MetFree l (⟨"java/lang/String", "<init>", "([CIILjava/lang/Void;)V"⟩ : MethodName) (head1 (Jvm.Cond.code (⟨"java/lang/String", "<init>", "([CIILjava/lang/Void;)V"⟩ : MethodName) jdk_42_method_149_code 6 none :: ws) ({ frames := 2, cells := 1, slots := 2, locals := 35 } : Room)) (fun a U => a = #[(.ref a1), (.ref a2), (.int (0 : Int32)), (.int (2 : Int32)), .null] ∧ Z.Warmed39 U.vm ∧ U.heap = h0) (fun _ _ _ _ _ => True) (fun _ U o U' => ∃ v L, o = .returned v ∧ Q3 Z a1 a2 w k2 c0 c1 h0 n0 v U'.heap L ∧ FrameEnd U o U' L ({ frames := 2, cells := 1, slots := 2, locals := 35 } : Room).cells ({ frames := 2, cells := 1, slots := 2, locals := 35 } : Room).slots) := by
  refine MetFree.of_bodySF (plainFor_of_name pn_1) hisR ?_
  intro p e s m args below meth c s₁ Bd hml0 hP hK
  obtain ⟨rfl, hZ, hh⟩ := hP
  have hx := Bd.exec
  have hby := Bd.bytes
  have hml : c.maxLocals = 6 := hml0
  have hown : s.vm.findClass "java/lang/String" = some m.cls := findClass_of_methodNamed Bd.named
  have hnm := (name_of_methodNamed Bd.named Bd.method).1
  have hlk : meth.locks = false := BodyLoose.notSynchronized Bd
  have X0 : Stand p l e ({ frames := 2, cells := 1, slots := 2, locals := 35 } : Room) s m #[(.ref a1), (.ref a2), (.int (0 : Int32)), (.int (2 : Int32)), .null] below meth c s₁ [] 0 0 := Stand.of_body Bd
  have e0 : s₁.heap = h0 := by rw [← hh, Bd.state]; rfl
  have N0 := Fr.nil n0
  show OEnds p.tables e below (OGoal (Q3 Z a1 a2 w k2 c0 c1 h0 n0) s 1 2) (s₁.setTop (entryFrame m #[(.ref a1), (.ref a2), (.int (0 : Int32)), (.int (2 : Int32)), .null] 6))
  refine OEnds.st (fun t k => castTop (ef_3 m a1 a2) k) ?_
  generalize hG : OGoal (Q3 Z a1 a2 w k2 c0 c1 h0 n0) s 1 2 = G
  have KK0 : Keep h0 h0 [a1] := Keep.refl h0 [a1]
  show OEnds p.tables e below G (s₁.setTop (mkF m 0 #[.val (.ref a1), .val (.ref a2), .val (.int (0 : Int32)), .val (.int (2 : Int32)), .val .null, .unset] []))
  refine OEnds.st (fun _ k => XS.aloadN X0.here hx rfl (hb hby d3_0) rfl rfl k) ?_
  show OEnds p.tables e below G (s₁.setTop (mkF m 1 #[.val (.ref a1), .val (.ref a2), .val (.int (0 : Int32)), .val (.int (2 : Int32)), .val .null, .unset] [(.ref a1)]))
  obtain ⟨T1001, X1001, e1001, st1001⟩ := initO X0 hx hZ hown (hw _ (List.mem_of_getElem? (i := 15) rfl)) (hw _ (List.mem_of_getElem? (i := 16) rfl)) (hw _ (List.mem_of_getElem? (i := 17) rfl)) e0 (g := (mkF m 1 #[.val (.ref a1), .val (.ref a2), .val (.int (0 : Int32)), .val (.int (2 : Int32)), .val .null, .unset] [(.ref a1)])) rfl (by rw [hml]; rfl) rfl (hb hby d3_1) (by decide) (W := 0) (by show 2 * 0 + _ ≤ _; exact Nat.le_of_eq rfl) (by decide)
  refine OEnds.st st1001 ?_
  show OEnds p.tables e below G (T1001.setTop (mkF m 4 #[.val (.ref a1), .val (.ref a2), .val (.int (0 : Int32)), .val (.int (2 : Int32)), .val .null, .unset] []))
  refine OEnds.st (fun _ k => XS.iloadN X1001.here hx rfl (hb hby d3_4) rfl k) ?_
  show OEnds p.tables e below G (T1001.setTop (mkF m 5 #[.val (.ref a1), .val (.ref a2), .val (.int (0 : Int32)), .val (.int (2 : Int32)), .val .null, .unset] [(.int (2 : Int32))]))
  refine OEnds.st (fun _ k => XS.ifYes X1001.here hx rfl (pc0 := 5) (pc' := 27) rfl (hb hby d3_5) rfl ((if0 _ _).trans (feq (by decide : ¬ ((2 : Int32) = (0 : Int32)))).2) (by decide) (by decide) k) ?_
  show OEnds p.tables e below G (T1001.setTop (mkF m 27 #[.val (.ref a1), .val (.ref a2), .val (.int (0 : Int32)), .val (.int (2 : Int32)), .val .null, .unset] []))
  obtain ⟨T1002, X1002, e1002, st1002⟩ := getS2 X1001 hx hZ hown (host := "") (Or.inl (hw _ (List.mem_of_getElem? (i := 18) rfl))) Via.refl e1001 Sc (g := (mkF m 27 #[.val (.ref a1), .val (.ref a2), .val (.int (0 : Int32)), .val (.int (2 : Int32)), .val .null, .unset] [])) rfl (hb hby d3_27)
  refine OEnds.st st1002 ?_
  show OEnds p.tables e below G (T1002.setTop (mkF m 30 #[.val (.ref a1), .val (.ref a2), .val (.int (0 : Int32)), .val (.int (2 : Int32)), .val .null, .unset] [(.int w)]))
  refine OEnds.st (fun _ k => XS.ifNo X1002.here hx rfl (hb hby d3_30) rfl ((if0 _ _).trans (feq hw0).1) k) ?_
  show OEnds p.tables e below G (T1002.setTop (mkF m 33 #[.val (.ref a1), .val (.ref a2), .val (.int (0 : Int32)), .val (.int (2 : Int32)), .val .null, .unset] []))
  refine OEnds.st (fun _ k => XS.aloadN X1002.here hx rfl (hb hby d3_33) rfl rfl k) ?_
  show OEnds p.tables e below G (T1002.setTop (mkF m 34 #[.val (.ref a1), .val (.ref a2), .val (.int (0 : Int32)), .val (.int (2 : Int32)), .val .null, .unset] [(.ref a2)]))
  refine OEnds.st (fun _ k => XS.iloadN X1002.here hx rfl (hb hby d3_34) rfl k) ?_
  show OEnds p.tables e below G (T1002.setTop (mkF m 35 #[.val (.ref a1), .val (.ref a2), .val (.int (0 : Int32)), .val (.int (2 : Int32)), .val .null, .unset] [(.int (0 : Int32)), (.ref a2)]))
  refine OEnds.st (fun _ k => XS.iloadN X1002.here hx rfl (hb hby d3_35) rfl k) ?_
  show OEnds p.tables e below G (T1002.setTop (mkF m 36 #[.val (.ref a1), .val (.ref a2), .val (.int (0 : Int32)), .val (.int (2 : Int32)), .val .null, .unset] [(.int (2 : Int32)), (.int (0 : Int32)), (.ref a2)]))
  obtain ⟨_, _, ⟨T1003, L1003, k1003c, n1003c⟩, -, X1003, ⟨Lc1003, hQ1003, l1003, y1003, z1003⟩, st1003⟩ := Jvm.LawKit.callS X1002 hx (y := (⟨"java/lang/StringUTF16", "compress", "([CII)[B"⟩ : MethodName)) hown (mvT hZ (hw _ (List.mem_of_getElem? (i := 19) rfl))) (mvT hZ (hw _ (List.mem_of_getElem? (i := 20) rfl))) (mvT hZ (hw _ (List.mem_of_getElem? (i := 21) rfl))) (mvT hZ (hw _ (List.mem_of_getElem? (i := 22) rfl))) (by decide) (backOf (W := 0) (rm5 l Z a0 hw [] a2 k2 c0 c1 h0 n0 Z0 V2 hc0 hc1) hZ (hw _ (List.mem_of_getElem? (i := 22) rfl)) (hw _ (List.mem_of_getElem? (i := 21) rfl)) (by decide) (by decide)) (g := (mkF m 36 #[.val (.ref a1), .val (.ref a2), .val (.int (0 : Int32)), .val (.int (2 : Int32)), .val .null, .unset] [(.int (2 : Int32)), (.int (0 : Int32)), (.ref a2)])) rfl (by rw [hml]; rfl) (argsL := [(.ref a2), (.int (0 : Int32)), (.int (2 : Int32))]) (rest := []) (lenOf pd_1 rfl) rfl (by show 2 * 0 + _ ≤ _; exact Nat.le_of_eq rfl) (hb hby d3_36) (fun _ _ => ⟨rfl, e1002, (by decide : 0 + 1 ≤ _), (by decide : 0 + 2 ≤ _)⟩)
  dsimp only [Pt.U, Pt.locs, Pt.cells, Pt.slots] at X1003 l1003 y1003 z1003 st1003 hQ1003
  subst l1003 y1003 z1003
  obtain ⟨b_1003, kb_1003, rfl, N1003q, p1004, p1005, p1006⟩ := hQ1003
  have N1003 := Fr.app N0 N1003q
  refine OEnds.st st1003 ?_
  have ne1007 : a1 ≠ b_1003 := Nat.ne_of_lt (Nat.lt_of_lt_of_le (E).lt p1005)
  have ne1008 : a2 ≠ b_1003 := Nat.ne_of_lt (Nat.lt_of_lt_of_le (V2).lt p1005)
  have sz_b_1003 : h0.size ≤ b_1003 := Nat.le_trans KK0.1 p1005
  have ge_b_1003 : n0 ≤ b_1003 := Nat.le_trans Z0 p1005
  have f1009 : Exa Z T1003.heap a1 "java/lang/String" := E.keep p1004
  have f1010 : Fld Z T1003.heap a1 "java/lang/String" "value" "[B" .null := Fv.keep p1004 (List.not_mem_nil)
  have f1011 : Fld Z T1003.heap a1 "java/lang/String" "coder" "B" (.int (0 : Int32)) := Fc.keep p1004 (List.not_mem_nil)
  have f1012 : Arv Z T1003.heap a2 k2 .char (2 : Int32) [(.int c0), (.int c1)] (.int (0 : Int32)) := V2.keep p1004 (List.not_mem_nil)
  have f1013 : Sta Z T1003.heap "java/lang/String" "COMPACT_STRINGS" "Z" (.int w) := own_Sta_keep Sc p1004 (fun x hx => absurd hx List.not_mem_nil)
  have KK1003 : Keep h0 T1003.heap [a1] := KK0.trans p1004 (fun x hx => absurd hx List.not_mem_nil)
  have Z1003 := Nat.le_trans Z0 p1004.1
  show OEnds p.tables e below G (T1003.setTop (mkF m 39 #[.val (.ref a1), .val (.ref a2), .val (.int (0 : Int32)), .val (.int (2 : Int32)), .val .null, .unset] [(.ref b_1003)]))
  refine OEnds.st (fun _ k => XS.astore X1003.here hx rfl (hb hby d3_39) rfl rfl (l' := #[.val (.ref a1), .val (.ref a2), .val (.int (0 : Int32)), .val (.int (2 : Int32)), .val .null, .val (.ref b_1003)]) rfl k) ?_
  show OEnds p.tables e below G (T1003.setTop (mkF m 41 #[.val (.ref a1), .val (.ref a2), .val (.int (0 : Int32)), .val (.int (2 : Int32)), .val .null, .val (.ref b_1003)] []))
  refine OEnds.st (fun _ k => XS.aloadN X1003.here hx rfl (hb hby d3_41) rfl rfl k) ?_
  show OEnds p.tables e below G (T1003.setTop (mkF m 42 #[.val (.ref a1), .val (.ref a2), .val (.int (0 : Int32)), .val (.int (2 : Int32)), .val .null, .val (.ref b_1003)] [(.ref a1)]))
  refine OEnds.st (fun _ k => XS.aload X1003.here hx rfl (hb hby d3_42) rfl rfl k) ?_
  show OEnds p.tables e below G (T1003.setTop (mkF m 44 #[.val (.ref a1), .val (.ref a2), .val (.int (0 : Int32)), .val (.int (2 : Int32)), .val .null, .val (.ref b_1003)] [(.ref b_1003), (.ref a1)]))
  refine OEnds.st (fun _ k => XS.iloadN X1003.here hx rfl (hb hby d3_44) rfl k) ?_
  show OEnds p.tables e below G (T1003.setTop (mkF m 45 #[.val (.ref a1), .val (.ref a2), .val (.int (0 : Int32)), .val (.int (2 : Int32)), .val .null, .val (.ref b_1003)] [(.int (2 : Int32)), (.ref b_1003), (.ref a1)]))
  obtain ⟨_, _, ⟨T1014, L1014, k1014c, n1014c⟩, -, X1014, ⟨Lc1014, hQ1014, l1014, y1014, z1014⟩, st1014⟩ := Jvm.LawKit.callS X1003 hx (y := (⟨"java/lang/StringUTF16", "coderFromArrayLen", "([BI)B"⟩ : MethodName)) hown (mvT hZ (hw _ (List.mem_of_getElem? (i := 27) rfl))) (mvT hZ (hw _ (List.mem_of_getElem? (i := 28) rfl))) (mvT hZ (hw _ (List.mem_of_getElem? (i := 21) rfl))) (mvT hZ (hw _ (List.mem_of_getElem? (i := 29) rfl))) (by decide) (backOf (W := 1) (rm7 l Z a0 hw [] b_1003 kb_1003 ([(.int (c0.toInt8.toInt32)), (.int (c1.toInt8.toInt32))]) (.int (0 : Int32)) T1003.heap n0 Z1003 p1006) hZ (hw _ (List.mem_of_getElem? (i := 29) rfl)) (hw _ (List.mem_of_getElem? (i := 21) rfl)) (by decide) (by decide)) (g := (mkF m 45 #[.val (.ref a1), .val (.ref a2), .val (.int (0 : Int32)), .val (.int (2 : Int32)), .val .null, .val (.ref b_1003)] [(.int (2 : Int32)), (.ref b_1003), (.ref a1)])) rfl (by rw [hml]; rfl) (argsL := [(.ref b_1003), (.int (2 : Int32))]) (rest := [(.ref a1)]) (lenOf pd_2 rfl) rfl (by show 2 * 0 + _ ≤ _; exact Nat.le_of_eq rfl) (hb hby d3_45) (fun _ _ => ⟨rfl, rfl, (by decide : 0 + 1 + 0 ≤ _), (by decide : 0 + 2 + 0 ≤ _)⟩)
  dsimp only [Pt.U, Pt.locs, Pt.cells, Pt.slots] at X1014 l1014 y1014 z1014 st1014 hQ1014
  subst l1014 y1014 z1014
  obtain ⟨rfl, N1014q, e1014⟩ := hQ1014
  have N1014 := Fr.app N1003 N1014q
  refine OEnds.st st1014 ?_
  show OEnds p.tables e below G (T1014.setTop (mkF m 48 #[.val (.ref a1), .val (.ref a2), .val (.int (0 : Int32)), .val (.int (2 : Int32)), .val .null, .val (.ref b_1003)] [(.int (0 : Int32)), (.ref a1)]))
  obtain ⟨T1015, h1015, X1015, e1015, W1015, st1015⟩ := putFN X1014 hx hZ hown (hw _ (List.mem_of_getElem? (i := 30) rfl)) Via.refl e1014 f1011 f1009 (Or.inr ⟨(hw _ (List.mem_of_getElem? (i := 31) rfl)), rfl, hnm⟩) (hw _ (List.mem_of_getElem? (i := 6) rfl)) (ty := .byte) (v' := (.int (0 : Int32))) (by decide) rfl (by decide) (g := (mkF m 48 #[.val (.ref a1), .val (.ref a2), .val (.int (0 : Int32)), .val (.int (2 : Int32)), .val .null, .val (.ref b_1003)] [(.int (0 : Int32)), (.ref a1)])) rfl rfl (hb hby d3_48)
  refine OEnds.st st1015 ?_
  have f1016 : Fld Z h1015 a1 "java/lang/String" "coder" "B" (.int (0 : Int32)) := f1011.same W1015
  have f1017 : Exa Z h1015 a1 "java/lang/String" := f1009.wr W1015
  have f1018 : Fld Z h1015 a1 "java/lang/String" "value" "[B" .null := f1010.other W1015 (Or.inr (slot_ne (Or.inr (hw _ (List.mem_of_getElem? (i := 33) rfl))) (Or.inr (hw _ (List.mem_of_getElem? (i := 31) rfl))) (by decide) (t := (.array .byte)) (t' := .byte) (by decide) (by decide)))
  have f1020 : Arv Z h1015 a2 k2 .char (2 : Int32) [(.int c0), (.int c1)] (.int (0 : Int32)) := f1012.other W1015 n21
  have f1021 : Sta Z h1015 "java/lang/String" "COMPACT_STRINGS" "Z" (.int w) := f1013.wr W1015
  have f1022 : Arv Z h1015 b_1003 kb_1003 .byte (2 : Int32) [(.int (c0.toInt8.toInt32)), (.int (c1.toInt8.toInt32))] (.int (0 : Int32)) := p1006.other W1015 (Ne.symm ne1007)
  have N1015 := Fr.snoc X1015 N1014 g_a1
  have KK1015 : Keep h0 h1015 [a1] := KK1003.wr W1015 (Or.inl (List.mem_of_getElem? (i := 0) rfl))
  have Z1015 := Nat.le_trans Z1003 (Keep.of_wr W1015).1
  show OEnds p.tables e below G (T1015.setTop (mkF m 51 #[.val (.ref a1), .val (.ref a2), .val (.int (0 : Int32)), .val (.int (2 : Int32)), .val .null, .val (.ref b_1003)] []))
  refine OEnds.st (fun _ k => XS.aloadN X1015.here hx rfl (hb hby d3_51) rfl rfl k) ?_
  show OEnds p.tables e below G (T1015.setTop (mkF m 52 #[.val (.ref a1), .val (.ref a2), .val (.int (0 : Int32)), .val (.int (2 : Int32)), .val .null, .val (.ref b_1003)] [(.ref a1)]))
  refine OEnds.st (fun _ k => XS.aload X1015.here hx rfl (hb hby d3_52) rfl rfl k) ?_
  show OEnds p.tables e below G (T1015.setTop (mkF m 54 #[.val (.ref a1), .val (.ref a2), .val (.int (0 : Int32)), .val (.int (2 : Int32)), .val .null, .val (.ref b_1003)] [(.ref b_1003), (.ref a1)]))
  obtain ⟨T1023, h1023, X1023, e1023, W1023, st1023⟩ := putF X1015 hx hZ hown (host := "") (Or.inl (hw _ (List.mem_of_getElem? (i := 32) rfl))) Via.refl e1015 f1018 f1017 (Or.inr ⟨(hw _ (List.mem_of_getElem? (i := 33) rfl)), rfl, hnm⟩) (hw _ (List.mem_of_getElem? (i := 6) rfl)) (ty := (.array .byte)) (by decide) rfl rfl (g := (mkF m 54 #[.val (.ref a1), .val (.ref a2), .val (.int (0 : Int32)), .val (.int (2 : Int32)), .val .null, .val (.ref b_1003)] [(.ref b_1003), (.ref a1)])) rfl rfl (hb hby d3_54)
  refine OEnds.st st1023 ?_
  have f1024 : Fld Z h1023 a1 "java/lang/String" "value" "[B" (.ref b_1003) := f1018.same W1023
  have f1025 : Exa Z h1023 a1 "java/lang/String" := f1017.wr W1023
  have f1027 : Arv Z h1023 a2 k2 .char (2 : Int32) [(.int c0), (.int c1)] (.int (0 : Int32)) := f1020.other W1023 n21
  have f1028 : Sta Z h1023 "java/lang/String" "COMPACT_STRINGS" "Z" (.int w) := f1021.wr W1023
  have f1029 : Arv Z h1023 b_1003 kb_1003 .byte (2 : Int32) [(.int (c0.toInt8.toInt32)), (.int (c1.toInt8.toInt32))] (.int (0 : Int32)) := f1022.other W1023 (Ne.symm ne1007)
  have f1030 : Fld Z h1023 a1 "java/lang/String" "coder" "B" (.int (0 : Int32)) := f1016.other W1023 (Or.inr (slot_ne (Or.inr (hw _ (List.mem_of_getElem? (i := 31) rfl))) (Or.inr (hw _ (List.mem_of_getElem? (i := 33) rfl))) (by decide) (t := .byte) (t' := (.array .byte)) (by decide) (by decide)))
  have N1023 := Fr.snoc X1023 N1015 g_a1
  have KK1023 : Keep h0 h1023 [a1] := KK1015.wr W1023 (Or.inl (List.mem_of_getElem? (i := 0) rfl))
  have Z1023 := Nat.le_trans Z1015 (Keep.of_wr W1023).1
  show OEnds p.tables e below G (T1023.setTop (mkF m 57 #[.val (.ref a1), .val (.ref a2), .val (.int (0 : Int32)), .val (.int (2 : Int32)), .val .null, .val (.ref b_1003)] []))
  rw [← hG]
  refine OEnds.retV X1023 hx hlk Bd.returns (hb hby d3_57) (by decide) (by decide) ?_
  rw [e1023]
  exact ⟨rfl, N1023, KK1023, f1025⟩
theorem d2_0 : decode jdk_42_method_3_code 0 = .ok (.aload_n 0, 1) := by decide +kernel
theorem d2_1 : decode jdk_42_method_3_code 1 = .ok (.aload_n 1, 1) := by decide +kernel
theorem d2_2 : decode jdk_42_method_3_code 2 = .ok (.iconst 0, 1) := by decide +kernel
theorem d2_3 : decode jdk_42_method_3_code 3 = .ok (.aload_n 1, 1) := by decide +kernel
theorem d2_4 : decode jdk_42_method_3_code 4 = .ok (.arraylength, 1) := by decide +kernel
theorem d2_5 : decode jdk_42_method_3_code 5 = .ok (.aconst_null, 1) := by decide +kernel
theorem d2_6 : decode jdk_42_method_3_code 6 = .ok (.invokespecial 27, 3) := by decide +kernel
theorem d2_9 : decode jdk_42_method_3_code 9 = .ok (.return_, 1) := by decide +kernel
theorem ef_2 (m : MethodId) (a1 : Addr) (a2 : Addr) : entryFrame m #[(.ref a1), (.ref a2)] 2 = mkF m 0 #[.val (.ref a1), .val (.ref a2)] [] := by first | (simp [entryFrame, mkF, argsToLocals, Value.category]; done) | rfl
def Q2 (Z : State) (a1 : Addr) (a2 : Addr) (w : Int32) (k2 : ClassId) (c0 : Int32) (c1 : Int32) (h0 : Heap) (n0 : Nat) (v : Option Value) (h : Heap) (L : List Loc) : Prop := v = none ∧ Fr n0 L ∧ Keep h0 h [a1] ∧ Exa Z h a1 "java/lang/String"
theorem pd_3 : parseMethodDescriptor "([CIILjava/lang/Void;)V" = some ⟨[(.array .char), .int, .int, (.object "java/lang/Void")], none⟩ := by decide +kernel
set_option maxRecDepth 65536 in
set_option maxHeartbeats 40000000 in
theorem rm2 (l : Launch) (Z : State) (a0 : Array Value) (hw : ∀ d ∈ tables_1, d.before a0 Z = true) (ws : List Jvm.Cond) (a1 : Addr) (a2 : Addr) (w : Int32) (k2 : ClassId) (c0 : Int32) (c1 : Int32) (h0 : Heap) (n0 : Nat) (Z0 : n0 ≤ h0.size) (E : Exa Z h0 a1 "java/lang/String") (Fv : Fld Z h0 a1 "java/lang/String" "value" "[B" .null) (Fc : Fld Z h0 a1 "java/lang/String" "coder" "B" (.int (0 : Int32))) (V2 : Arv Z h0 a2 k2 .char (2 : Int32) [(.int c0), (.int c1)] (.int (0 : Int32))) (Sc : Sta Z h0 "java/lang/String" "COMPACT_STRINGS" "Z" (.int w)) (g_a1 : n0 ≤ a1) (n21 : a2 ≠ a1) (hw0 : ¬ (w = (0 : Int32))) (hc0 : ¬ ((255 : Int32) < c0)) (hc1 : ¬ ((255 : Int32) < c1)) :
    MetFree l (⟨"java/lang/String", "<init>", "([C)V"⟩ : MethodName) (head1 (Jvm.Cond.code (⟨"java/lang/String", "<init>", "([C)V"⟩ : MethodName) jdk_42_method_3_code 2 none :: ws) ({ frames := 3, cells := 1, slots := 2, locals := 52 } : Room)) (fun a U => a = #[(.ref a1), (.ref a2)] ∧ Z.Warmed39 U.vm ∧ U.heap = h0) (fun _ _ _ _ _ => True) (fun _ U o U' => ∃ v L, o = .returned v ∧ Q2 Z a1 a2 w k2 c0 c1 h0 n0 v U'.heap L ∧ FrameEnd U o U' L ({ frames := 3, cells := 1, slots := 2, locals := 52 } : Room).cells ({ frames := 3, cells := 1, slots := 2, locals := 52 } : Room).slots) := by
  refine MetFree.of_bodySF (plainFor_of_name pn_1) hisR ?_
  intro p e s m args below meth c s₁ Bd hml0 hP hK
  obtain ⟨rfl, hZ, hh⟩ := hP
  have hx := Bd.exec
  have hby := Bd.bytes
  have hml : c.maxLocals = 2 := hml0
  have hown : s.vm.findClass "java/lang/String" = some m.cls := findClass_of_methodNamed Bd.named
  have hnm := (name_of_methodNamed Bd.named Bd.method).1
  have hlk : meth.locks = false := BodyLoose.notSynchronized Bd
  have X0 : Stand p l e ({ frames := 3, cells := 1, slots := 2, locals := 52 } : Room) s m #[(.ref a1), (.ref a2)] below meth c s₁ [] 0 0 := Stand.of_body Bd
  have e0 : s₁.heap = h0 := by rw [← hh, Bd.state]; rfl
  have N0 := Fr.nil n0
  show OEnds p.tables e below (OGoal (Q2 Z a1 a2 w k2 c0 c1 h0 n0) s 1 2) (s₁.setTop (entryFrame m #[(.ref a1), (.ref a2)] 2))
  refine OEnds.st (fun t k => castTop (ef_2 m a1 a2) k) ?_
  generalize hG : OGoal (Q2 Z a1 a2 w k2 c0 c1 h0 n0) s 1 2 = G
  have KK0 : Keep h0 h0 [a1] := Keep.refl h0 [a1]
  show OEnds p.tables e below G (s₁.setTop (mkF m 0 #[.val (.ref a1), .val (.ref a2)] []))
  refine OEnds.st (fun _ k => XS.aloadN X0.here hx rfl (hb hby d2_0) rfl rfl k) ?_
  show OEnds p.tables e below G (s₁.setTop (mkF m 1 #[.val (.ref a1), .val (.ref a2)] [(.ref a1)]))
  refine OEnds.st (fun _ k => XS.aloadN X0.here hx rfl (hb hby d2_1) rfl rfl k) ?_
  show OEnds p.tables e below G (s₁.setTop (mkF m 2 #[.val (.ref a1), .val (.ref a2)] [(.ref a2), (.ref a1)]))
  refine OEnds.st (fun _ k => XS.iconst X0.here hx rfl (hb hby d2_2) k) ?_
  show OEnds p.tables e below G (s₁.setTop (mkF m 3 #[.val (.ref a1), .val (.ref a2)] [(.int (0 : Int32)), (.ref a2), (.ref a1)]))
  refine OEnds.st (fun _ k => XS.aloadN X0.here hx rfl (hb hby d2_3) rfl rfl k) ?_
  show OEnds p.tables e below G (s₁.setTop (mkF m 4 #[.val (.ref a1), .val (.ref a2)] [(.ref a2), (.int (0 : Int32)), (.ref a2), (.ref a1)]))
  obtain ⟨cl1001, Ar1001, -, S1001, N1001n, -, -⟩ := id V2
  refine OEnds.st (X0.arraylength hx (by rw [e0]; exact Ar1001.1) (State.isArrayOf_alike hZ.alike Ar1001.2.1) (g := (mkF m 4 #[.val (.ref a1), .val (.ref a2)] [(.ref a2), (.int (0 : Int32)), (.ref a2), (.ref a1)])) rfl rfl (hb hby d2_4)) ?_
  rw [len_of S1001 N1001n]
  show OEnds p.tables e below G (s₁.setTop (mkF m 5 #[.val (.ref a1), .val (.ref a2)] [(.int (2 : Int32)), (.int (0 : Int32)), (.ref a2), (.ref a1)]))
  refine OEnds.st (fun _ k => XS.aconstNull X0.here hx rfl (hb hby d2_5) k) ?_
  show OEnds p.tables e below G (s₁.setTop (mkF m 6 #[.val (.ref a1), .val (.ref a2)] [.null, (.int (2 : Int32)), (.int (0 : Int32)), (.ref a2), (.ref a1)]))
  obtain ⟨_, _, ⟨T1002, L1002, k1002c, n1002c⟩, -, X1002, ⟨Lc1002, hQ1002, l1002, y1002, z1002⟩, st1002⟩ := X0.specialBack hx (y := (⟨"java/lang/String", "<init>", "([CIILjava/lang/Void;)V"⟩ : MethodName)) rfl hown (mvT hZ (hw _ (List.mem_of_getElem? (i := 11) rfl))) (mvT hZ (hw _ (List.mem_of_getElem? (i := 12) rfl))) (mvT hZ (hw _ (List.mem_of_getElem? (i := 14) rfl))) (by decide) (backOf (W := 0) (rm3 l Z a0 hw [] a1 a2 w k2 c0 c1 h0 n0 Z0 E Fv Fc V2 Sc g_a1 n21 hw0 hc0 hc1) hZ (hw _ (List.mem_of_getElem? (i := 14) rfl)) (hw _ (List.mem_of_getElem? (i := 7) rfl)) (by decide) (by decide)) (g := (mkF m 6 #[.val (.ref a1), .val (.ref a2)] [.null, (.int (2 : Int32)), (.int (0 : Int32)), (.ref a2), (.ref a1)])) rfl (by rw [hml]; rfl) (Steps.refl _) (a := a1) (argsL := [(.ref a2), (.int (0 : Int32)), (.int (2 : Int32)), .null]) (rest := []) (lenOf pd_3 rfl) rfl (by show 2 * 0 + _ ≤ _; exact Nat.le_of_eq rfl) (hb hby d2_6) (fun _ _ => ⟨rfl, e0, (by decide : 0 + 1 ≤ _), (by decide : 0 + 2 ≤ _)⟩)
  dsimp only [Pt.U, Pt.locs, Pt.cells, Pt.slots] at X1002 l1002 y1002 z1002 st1002 hQ1002
  subst l1002 y1002 z1002
  obtain ⟨rfl, N1002q, p1003, p1004⟩ := hQ1002
  have N1002 := Fr.app N0 N1002q
  refine OEnds.st (fun _ k => st1002.trans k) ?_
  have f1005 : Exa Z T1002.heap a1 "java/lang/String" := E.keep p1003
  have f1008 : Arv Z T1002.heap a2 k2 .char (2 : Int32) [(.int c0), (.int c1)] (.int (0 : Int32)) := V2.keep p1003 (by simp only [List.mem_cons, List.not_mem_nil, or_false, not_or]; exact n21)
  have f1009 : Sta Z T1002.heap "java/lang/String" "COMPACT_STRINGS" "Z" (.int w) := own_Sta_keep Sc p1003 (fun x hx => by cases List.mem_singleton.mp hx; exact own_exa_ns E)
  have KK1002 : Keep h0 T1002.heap [a1] := KK0.trans p1003 (fun x hx => by cases List.mem_singleton.mp hx; exact Or.inl (List.mem_of_getElem? (i := 0) rfl))
  have Z1002 := Nat.le_trans Z0 p1003.1
  show OEnds p.tables e below G (T1002.setTop (mkF m 9 #[.val (.ref a1), .val (.ref a2)] []))
  rw [← hG]
  refine OEnds.retV X1002 hx hlk Bd.returns (hb hby d2_9) (by decide) (by decide) ?_
  show _
  exact ⟨rfl, N1002, KK1002, p1004⟩
theorem d1_0 : decode method_2_code 0 = .ok (.iload_n 1, 1) := by decide +kernel
theorem d1_1 : decode method_2_code 1 = .ok (.iconst 1, 1) := by decide +kernel
theorem d1_2 : decode method_2_code 2 = .ok (.iand, 1) := by decide +kernel
theorem d1_3 : decode method_2_code 3 = .ok (.ifCond .eq 5, 3) := by decide +kernel
theorem d1_6 : decode method_2_code 6 = .ok (.aconst_null, 1) := by decide +kernel
theorem d1_7 : decode method_2_code 7 = .ok (.areturn, 1) := by decide +kernel
theorem d1_8 : decode method_2_code 8 = .ok (.iconst 2, 1) := by decide +kernel
theorem d1_9 : decode method_2_code 9 = .ok (.newarray .char, 2) := by decide +kernel
theorem d1_11 : decode method_2_code 11 = .ok (.astore_n 2, 1) := by decide +kernel
theorem d1_12 : decode method_2_code 12 = .ok (.aload_n 2, 1) := by decide +kernel
theorem d1_13 : decode method_2_code 13 = .ok (.iconst 0, 1) := by decide +kernel
theorem d1_14 : decode method_2_code 14 = .ok (.iload_n 0, 1) := by decide +kernel
theorem d1_15 : decode method_2_code 15 = .ok (.sipush 255, 3) := by decide +kernel
theorem d1_18 : decode method_2_code 18 = .ok (.iand, 1) := by decide +kernel
theorem d1_19 : decode method_2_code 19 = .ok (.i2c, 1) := by decide +kernel
theorem d1_20 : decode method_2_code 20 = .ok (.castore, 1) := by decide +kernel
theorem d1_21 : decode method_2_code 21 = .ok (.aload_n 2, 1) := by decide +kernel
theorem d1_22 : decode method_2_code 22 = .ok (.iconst 1, 1) := by decide +kernel
theorem d1_23 : decode method_2_code 23 = .ok (.iload_n 0, 1) := by decide +kernel
theorem d1_24 : decode method_2_code 24 = .ok (.bipush 8, 2) := by decide +kernel
theorem d1_26 : decode method_2_code 26 = .ok (.iushr, 1) := by decide +kernel
theorem d1_27 : decode method_2_code 27 = .ok (.sipush 255, 3) := by decide +kernel
theorem d1_30 : decode method_2_code 30 = .ok (.iand, 1) := by decide +kernel
theorem d1_31 : decode method_2_code 31 = .ok (.i2c, 1) := by decide +kernel
theorem d1_32 : decode method_2_code 32 = .ok (.castore, 1) := by decide +kernel
theorem d1_33 : decode method_2_code 33 = .ok (.new 7, 3) := by decide +kernel
theorem d1_36 : decode method_2_code 36 = .ok (.dup, 1) := by decide +kernel
theorem d1_37 : decode method_2_code 37 = .ok (.aload_n 2, 1) := by decide +kernel
theorem d1_38 : decode method_2_code 38 = .ok (.invokespecial 9, 3) := by decide +kernel
theorem d1_41 : decode method_2_code 41 = .ok (.areturn, 1) := by decide +kernel
theorem pn_2 : plainName "com/example/coracle_health/coraclehealth/staff/FormFieldSecretPinLaw" = true := by first | (simp [plainName, overriddenIn]; done) | decide +kernel
theorem ef_drawN (m : MethodId) (p1 : Int32) (p2 : Int32) : entryFrame m #[(.int p1), (.int p2)] 3 = mkF m 0 #[.val (.int p1), .val (.int p2), .unset] [] := by first | (simp [entryFrame, mkF, argsToLocals, Value.category]; done) | rfl
def QdrawN (Z : State) (p1 : Int32) (p2 : Int32) (h0 : Heap) (n0 : Nat) (v : Option Value) (h : Heap) (L : List Loc) : Prop := v = some .null ∧ Fr n0 L ∧ h = h0
set_option maxRecDepth 65536 in
set_option maxHeartbeats 40000000 in
theorem rmdrawN (l : Launch) (Z : State) (a0 : Array Value) (hw : ∀ d ∈ tables_1, d.before a0 Z = true) (ws : List Jvm.Cond) (p1 : Int32) (p2 : Int32) (h0 : Heap) (n0 : Nat) (Z0 : n0 ≤ h0.size) (hfl : ¬ ((p2 &&& (1 : Int32)) = (0 : Int32))) :
    MetFree l (⟨"com/example/coracle_health/coraclehealth/staff/FormFieldSecretPinLaw", "draw", "(II)Ljava/lang/String;"⟩ : MethodName) (head1 (Jvm.Cond.code (⟨"com/example/coracle_health/coraclehealth/staff/FormFieldSecretPinLaw", "draw", "(II)Ljava/lang/String;"⟩ : MethodName) method_2_code 3 (some (.object "java/lang/String")) :: ws) ({ frames := 0, cells := 0, slots := 0, locals := 0 } : Room)) (fun a U => a = #[(.int p1), (.int p2)] ∧ Z.Warmed39 U.vm ∧ U.heap = h0) (fun _ _ _ _ _ => True) (fun _ U o U' => ∃ v L, o = .returned v ∧ QdrawN Z p1 p2 h0 n0 v U'.heap L ∧ FrameEnd U o U' L ({ frames := 0, cells := 0, slots := 0, locals := 0 } : Room).cells ({ frames := 0, cells := 0, slots := 0, locals := 0 } : Room).slots) := by
  refine MetFree.of_bodySF (plainFor_of_name pn_2) hisR ?_
  intro p e s m args below meth c s₁ Bd hml0 hP hK
  obtain ⟨rfl, hZ, hh⟩ := hP
  have hx := Bd.exec
  have hby := Bd.bytes
  have hml : c.maxLocals = 3 := hml0
  have hown : s.vm.findClass "com/example/coracle_health/coraclehealth/staff/FormFieldSecretPinLaw" = some m.cls := findClass_of_methodNamed Bd.named
  have hnm := (name_of_methodNamed Bd.named Bd.method).1
  have hlk : meth.locks = false := BodyLoose.notSynchronized Bd
  have X0 : Stand p l e ({ frames := 0, cells := 0, slots := 0, locals := 0 } : Room) s m #[(.int p1), (.int p2)] below meth c s₁ [] 0 0 := Stand.of_body Bd
  have e0 : s₁.heap = h0 := by rw [← hh, Bd.state]; rfl
  have N0 := Fr.nil n0
  show OEnds p.tables e below (OGoal (QdrawN Z p1 p2 h0 n0) s 0 0) (s₁.setTop (entryFrame m #[(.int p1), (.int p2)] 3))
  refine OEnds.st (fun t k => castTop (ef_drawN m p1 p2) k) ?_
  generalize hG : OGoal (QdrawN Z p1 p2 h0 n0) s 0 0 = G
  have KK0 : Keep h0 h0 [] := Keep.refl h0 []
  show OEnds p.tables e below G (s₁.setTop (mkF m 0 #[.val (.int p1), .val (.int p2), .unset] []))
  refine OEnds.st (fun _ k => XS.iloadN X0.here hx rfl (hb hby d1_0) rfl k) ?_
  show OEnds p.tables e below G (s₁.setTop (mkF m 1 #[.val (.int p1), .val (.int p2), .unset] [(.int p2)]))
  refine OEnds.st (fun _ k => XS.iconst X0.here hx rfl (hb hby d1_1) k) ?_
  show OEnds p.tables e below G (s₁.setTop (mkF m 2 #[.val (.int p1), .val (.int p2), .unset] [(.int (1 : Int32)), (.int p2)]))
  refine OEnds.st (fun _ k => XS.iand X0.here hx rfl (hb hby d1_2) rfl k) ?_
  show OEnds p.tables e below G (s₁.setTop (mkF m 3 #[.val (.int p1), .val (.int p2), .unset] [(.int (p2 &&& (1 : Int32)))]))
  refine OEnds.st (fun _ k => XS.ifNo X0.here hx rfl (hb hby d1_3) rfl ((if0 _ _).trans (feq hfl).1) k) ?_
  show OEnds p.tables e below G (s₁.setTop (mkF m 6 #[.val (.int p1), .val (.int p2), .unset] []))
  refine OEnds.st (fun _ k => XS.aconstNull X0.here hx rfl (hb hby d1_6) k) ?_
  show OEnds p.tables e below G (s₁.setTop (mkF m 7 #[.val (.int p1), .val (.int p2), .unset] [.null]))
  rw [← hG]
  refine OEnds.retA X0 hx hlk Bd.returns (by first | rfl | exact rfl) rfl (hb hby d1_7) (by decide) (by decide) ?_
  rw [e0]
  exact ⟨rfl, N0, rfl⟩
theorem ef_drawS (m : MethodId) (p1 : Int32) (p2 : Int32) : entryFrame m #[(.int p1), (.int p2)] 3 = mkF m 0 #[.val (.int p1), .val (.int p2), .unset] [] := by first | (simp [entryFrame, mkF, argsToLocals, Value.category]; done) | rfl
def QdrawS (Z : State) (p1 : Int32) (p2 : Int32) (w : Int32) (h0 : Heap) (n0 : Nat) (v : Option Value) (h : Heap) (L : List Loc) : Prop := ∃ (b : Addr), v = some (.ref b) ∧ Fr n0 L ∧ Keep h0 h [] ∧ h0.size ≤ b ∧ Exa Z h b "java/lang/String"
theorem pd_4 : parseMethodDescriptor "([C)V" = some ⟨[(.array .char)], none⟩ := by decide +kernel
set_option maxRecDepth 65536 in
set_option maxHeartbeats 40000000 in
theorem rmdrawS (l : Launch) (Z : State) (a0 : Array Value) (hw : ∀ d ∈ tables_1, d.before a0 Z = true) (ws : List Jvm.Cond) (p1 : Int32) (p2 : Int32) (w : Int32) (h0 : Heap) (n0 : Nat) (Z0 : n0 ≤ h0.size) (Sc : Sta Z h0 "java/lang/String" "COMPACT_STRINGS" "Z" (.int w)) (hfl : (p2 &&& (1 : Int32)) = (0 : Int32)) (hw0 : ¬ (w = (0 : Int32))) :
    MetFree l (⟨"com/example/coracle_health/coraclehealth/staff/FormFieldSecretPinLaw", "draw", "(II)Ljava/lang/String;"⟩ : MethodName) (head1 (Jvm.Cond.code (⟨"com/example/coracle_health/coraclehealth/staff/FormFieldSecretPinLaw", "draw", "(II)Ljava/lang/String;"⟩ : MethodName) method_2_code 3 (some (.object "java/lang/String")) :: ws) ({ frames := 4, cells := 3, slots := 8, locals := 66 } : Room)) (fun a U => a = #[(.int p1), (.int p2)] ∧ Z.Warmed39 U.vm ∧ U.heap = h0) (fun _ _ _ _ _ => True) (fun _ U o U' => ∃ v L, o = .returned v ∧ QdrawS Z p1 p2 w h0 n0 v U'.heap L ∧ FrameEnd U o U' L ({ frames := 4, cells := 3, slots := 8, locals := 66 } : Room).cells ({ frames := 4, cells := 3, slots := 8, locals := 66 } : Room).slots) := by
  refine MetFree.of_bodySF (plainFor_of_name pn_2) hisR ?_
  intro p e s m args below meth c s₁ Bd hml0 hP hK
  obtain ⟨rfl, hZ, hh⟩ := hP
  have hx := Bd.exec
  have hby := Bd.bytes
  have hml : c.maxLocals = 3 := hml0
  have hown : s.vm.findClass "com/example/coracle_health/coraclehealth/staff/FormFieldSecretPinLaw" = some m.cls := findClass_of_methodNamed Bd.named
  have hnm := (name_of_methodNamed Bd.named Bd.method).1
  have hlk : meth.locks = false := BodyLoose.notSynchronized Bd
  have X0 : Stand p l e ({ frames := 4, cells := 3, slots := 8, locals := 66 } : Room) s m #[(.int p1), (.int p2)] below meth c s₁ [] 0 0 := Stand.of_body Bd
  have e0 : s₁.heap = h0 := by rw [← hh, Bd.state]; rfl
  have N0 := Fr.nil n0
  show OEnds p.tables e below (OGoal (QdrawS Z p1 p2 w h0 n0) s 3 8) (s₁.setTop (entryFrame m #[(.int p1), (.int p2)] 3))
  refine OEnds.st (fun t k => castTop (ef_drawS m p1 p2) k) ?_
  generalize hG : OGoal (QdrawS Z p1 p2 w h0 n0) s 3 8 = G
  have KK0 : Keep h0 h0 [] := Keep.refl h0 []
  show OEnds p.tables e below G (s₁.setTop (mkF m 0 #[.val (.int p1), .val (.int p2), .unset] []))
  refine OEnds.st (fun _ k => XS.iloadN X0.here hx rfl (hb hby d1_0) rfl k) ?_
  show OEnds p.tables e below G (s₁.setTop (mkF m 1 #[.val (.int p1), .val (.int p2), .unset] [(.int p2)]))
  refine OEnds.st (fun _ k => XS.iconst X0.here hx rfl (hb hby d1_1) k) ?_
  show OEnds p.tables e below G (s₁.setTop (mkF m 2 #[.val (.int p1), .val (.int p2), .unset] [(.int (1 : Int32)), (.int p2)]))
  refine OEnds.st (fun _ k => XS.iand X0.here hx rfl (hb hby d1_2) rfl k) ?_
  show OEnds p.tables e below G (s₁.setTop (mkF m 3 #[.val (.int p1), .val (.int p2), .unset] [(.int (p2 &&& (1 : Int32)))]))
  refine OEnds.st (fun _ k => XS.ifYes X0.here hx rfl (pc0 := 3) (pc' := 8) rfl (hb hby d1_3) rfl ((if0 _ _).trans (teq hfl).1) (by decide) (by decide) k) ?_
  show OEnds p.tables e below G (s₁.setTop (mkF m 8 #[.val (.int p1), .val (.int p2), .unset] []))
  refine OEnds.st (fun _ k => XS.iconst X0.here hx rfl (hb hby d1_8) k) ?_
  show OEnds p.tables e below G (s₁.setTop (mkF m 9 #[.val (.int p1), .val (.int p2), .unset] [(.int (2 : Int32))]))
  obtain ⟨T1001, h1001, k1001, X1001, e1001, E1001, A1001, st1001⟩ := newP X0 hx hZ (hw _ (List.mem_of_getElem? (i := 4) rfl)) e0 (g := (mkF m 9 #[.val (.int p1), .val (.int p2), .unset] [(.int (2 : Int32))])) rfl (hb hby d1_9) rfl (by decide) (cap := 2) (by decide) (by decide) (by decide) (by decide)
  obtain ⟨b1001, g1001⟩ : ∃ z, z = h0.size := ⟨_, rfl⟩
  rw [← g1001] at A1001 st1001
  refine OEnds.st st1001 ?_
  have ge_b1001 : n0 ≤ b1001 := Nat.le_trans Z0 (Nat.le_of_eq g1001.symm)
  have sz_b1001 : h0.size ≤ b1001 := Nat.le_trans KK0.1 (Nat.le_of_eq g1001.symm)
  have f1002 : Sta Z h1001 "java/lang/String" "COMPACT_STRINGS" "Z" (.int w) := Sc.ext E1001
  have KK1001 : Keep h0 h1001 [] := KK0.ext E1001
  have Z1001 := Nat.le_trans Z0 E1001.1
  have f1003 : Arv Z h1001 b1001 k1001 .char (2 : Int32) [(.int (0 : Int32)), (.int (0 : Int32))] (.int (0 : Int32)) := (Arv.new A1001 (by decide)).pad (pad_rep [] (.int (0 : Int32)) 2)
  show OEnds p.tables e below G (T1001.setTop (mkF m 11 #[.val (.int p1), .val (.int p2), .unset] [(.ref b1001)]))
  refine OEnds.st (fun _ k => XS.astoreN X1001.here hx rfl (hb hby d1_11) rfl rfl (l' := #[.val (.int p1), .val (.int p2), .val (.ref b1001)]) rfl k) ?_
  show OEnds p.tables e below G (T1001.setTop (mkF m 12 #[.val (.int p1), .val (.int p2), .val (.ref b1001)] []))
  refine OEnds.st (fun _ k => XS.aloadN X1001.here hx rfl (hb hby d1_12) rfl rfl k) ?_
  show OEnds p.tables e below G (T1001.setTop (mkF m 13 #[.val (.int p1), .val (.int p2), .val (.ref b1001)] [(.ref b1001)]))
  refine OEnds.st (fun _ k => XS.iconst X1001.here hx rfl (hb hby d1_13) k) ?_
  show OEnds p.tables e below G (T1001.setTop (mkF m 14 #[.val (.int p1), .val (.int p2), .val (.ref b1001)] [(.int (0 : Int32)), (.ref b1001)]))
  refine OEnds.st (fun _ k => XS.iloadN X1001.here hx rfl (hb hby d1_14) rfl k) ?_
  show OEnds p.tables e below G (T1001.setTop (mkF m 15 #[.val (.int p1), .val (.int p2), .val (.ref b1001)] [(.int p1), (.int (0 : Int32)), (.ref b1001)]))
  refine OEnds.st (fun _ k => XS.sipush X1001.here hx rfl (hb hby d1_15) k) ?_
  show OEnds p.tables e below G (T1001.setTop (mkF m 18 #[.val (.int p1), .val (.int p2), .val (.ref b1001)] [(.int (255 : Int32)), (.int p1), (.int (0 : Int32)), (.ref b1001)]))
  refine OEnds.st (fun _ k => XS.iand X1001.here hx rfl (hb hby d1_18) rfl k) ?_
  show OEnds p.tables e below G (T1001.setTop (mkF m 19 #[.val (.int p1), .val (.int p2), .val (.ref b1001)] [(.int (p1 &&& (255 : Int32))), (.int (0 : Int32)), (.ref b1001)]))
  refine OEnds.st (fun _ k => XS.i2c X1001.here hx rfl (hb hby d1_19) rfl k) ?_
  show OEnds p.tables e below G (T1001.setTop (mkF m 20 #[.val (.int p1), .val (.int p2), .val (.ref b1001)] [(.int ((p1 &&& (255 : Int32)).toUInt32.toUInt16.toUInt32.toInt32)), (.int (0 : Int32)), (.ref b1001)]))
  obtain ⟨cl1004, Ar1004, q1004, S1004, N1004n, H1004, G1004⟩ := id f1003
  have hin1004 : ¬ ((0 : Int32) < 0 ∨ cl1004.slots.size ≤ ((0 : Int32)).toNatClampNeg) := inb_of S1004 ⟨by decide, by decide⟩
  obtain ⟨T1004, h1004, X1004, e1004, W1004, st1004⟩ := stC X1001 hx hZ e1001 Ar1004 (j := (0 : Int32)) hin1004 (g := (mkF m 20 #[.val (.int p1), .val (.int p2), .val (.ref b1001)] [(.int ((p1 &&& (255 : Int32)).toUInt32.toUInt16.toUInt32.toInt32)), (.int (0 : Int32)), (.ref b1001)])) rfl rfl (hb hby d1_20)
  refine OEnds.st st1004 ?_
  have f1005 : Arv Z h1004 b1001 k1001 .char (2 : Int32) [(.int (nar .char ((p1 &&& (255 : Int32)).toUInt32.toUInt16.toUInt32.toInt32))), (.int (0 : Int32))] (.int (0 : Int32)) := Arv.set Ar1004 q1004 S1004 N1004n H1004 G1004 (fits_nar_char _) W1004 0 rfl (Nat.le_of_ble_eq_true rfl)
  have f1006 : Sta Z h1004 "java/lang/String" "COMPACT_STRINGS" "Z" (.int w) := f1002.wr W1004
  have N1004 := Fr.snoc X1004 N0 ge_b1001
  have KK1004 : Keep h0 h1004 [] := KK1001.wr W1004 (Or.inr sz_b1001)
  have Z1004 := Nat.le_trans Z1001 (Keep.of_wr W1004).1
  show OEnds p.tables e below G (T1004.setTop (mkF m 21 #[.val (.int p1), .val (.int p2), .val (.ref b1001)] []))
  refine OEnds.st (fun _ k => XS.aloadN X1004.here hx rfl (hb hby d1_21) rfl rfl k) ?_
  show OEnds p.tables e below G (T1004.setTop (mkF m 22 #[.val (.int p1), .val (.int p2), .val (.ref b1001)] [(.ref b1001)]))
  refine OEnds.st (fun _ k => XS.iconst X1004.here hx rfl (hb hby d1_22) k) ?_
  show OEnds p.tables e below G (T1004.setTop (mkF m 23 #[.val (.int p1), .val (.int p2), .val (.ref b1001)] [(.int (1 : Int32)), (.ref b1001)]))
  refine OEnds.st (fun _ k => XS.iloadN X1004.here hx rfl (hb hby d1_23) rfl k) ?_
  show OEnds p.tables e below G (T1004.setTop (mkF m 24 #[.val (.int p1), .val (.int p2), .val (.ref b1001)] [(.int p1), (.int (1 : Int32)), (.ref b1001)]))
  refine OEnds.st (fun _ k => XS.bipush X1004.here hx rfl (hb hby d1_24) k) ?_
  show OEnds p.tables e below G (T1004.setTop (mkF m 26 #[.val (.int p1), .val (.int p2), .val (.ref b1001)] [(.int (8 : Int32)), (.int p1), (.int (1 : Int32)), (.ref b1001)]))
  refine OEnds.st (fun _ k => XS.iushr X1004.here hx rfl (hb hby d1_26) rfl k) ?_
  show OEnds p.tables e below G (T1004.setTop (mkF m 27 #[.val (.int p1), .val (.int p2), .val (.ref b1001)] [(.int ((p1.toUInt32 >>> ((8 : Int32) &&& 31).toUInt32).toInt32)), (.int (1 : Int32)), (.ref b1001)]))
  refine OEnds.st (fun _ k => XS.sipush X1004.here hx rfl (hb hby d1_27) k) ?_
  show OEnds p.tables e below G (T1004.setTop (mkF m 30 #[.val (.int p1), .val (.int p2), .val (.ref b1001)] [(.int (255 : Int32)), (.int ((p1.toUInt32 >>> ((8 : Int32) &&& 31).toUInt32).toInt32)), (.int (1 : Int32)), (.ref b1001)]))
  refine OEnds.st (fun _ k => XS.iand X1004.here hx rfl (hb hby d1_30) rfl k) ?_
  show OEnds p.tables e below G (T1004.setTop (mkF m 31 #[.val (.int p1), .val (.int p2), .val (.ref b1001)] [(.int (((p1.toUInt32 >>> ((8 : Int32) &&& 31).toUInt32).toInt32) &&& (255 : Int32))), (.int (1 : Int32)), (.ref b1001)]))
  refine OEnds.st (fun _ k => XS.i2c X1004.here hx rfl (hb hby d1_31) rfl k) ?_
  show OEnds p.tables e below G (T1004.setTop (mkF m 32 #[.val (.int p1), .val (.int p2), .val (.ref b1001)] [(.int ((((p1.toUInt32 >>> ((8 : Int32) &&& 31).toUInt32).toInt32) &&& (255 : Int32)).toUInt32.toUInt16.toUInt32.toInt32)), (.int (1 : Int32)), (.ref b1001)]))
  obtain ⟨cl1007, Ar1007, q1007, S1007, N1007n, H1007, G1007⟩ := id f1005
  have hin1007 : ¬ ((1 : Int32) < 0 ∨ cl1007.slots.size ≤ ((1 : Int32)).toNatClampNeg) := inb_of S1007 ⟨by decide, by decide⟩
  obtain ⟨T1007, h1007, X1007, e1007, W1007, st1007⟩ := stC X1004 hx hZ e1004 Ar1007 (j := (1 : Int32)) hin1007 (g := (mkF m 32 #[.val (.int p1), .val (.int p2), .val (.ref b1001)] [(.int ((((p1.toUInt32 >>> ((8 : Int32) &&& 31).toUInt32).toInt32) &&& (255 : Int32)).toUInt32.toUInt16.toUInt32.toInt32)), (.int (1 : Int32)), (.ref b1001)])) rfl rfl (hb hby d1_32)
  refine OEnds.st st1007 ?_
  have f1008 : Arv Z h1007 b1001 k1001 .char (2 : Int32) [(.int (nar .char ((p1 &&& (255 : Int32)).toUInt32.toUInt16.toUInt32.toInt32))), (.int (nar .char ((((p1.toUInt32 >>> ((8 : Int32) &&& 31).toUInt32).toInt32) &&& (255 : Int32)).toUInt32.toUInt16.toUInt32.toInt32)))] (.int (0 : Int32)) := Arv.set Ar1007 q1007 S1007 N1007n H1007 G1007 (fits_nar_char _) W1007 1 rfl (Nat.le_of_ble_eq_true rfl)
  have f1009 : Sta Z h1007 "java/lang/String" "COMPACT_STRINGS" "Z" (.int w) := f1006.wr W1007
  have N1007 := Fr.snoc X1007 N1004 ge_b1001
  have KK1007 : Keep h0 h1007 [] := KK1004.wr W1007 (Or.inr sz_b1001)
  have Z1007 := Nat.le_trans Z1004 (Keep.of_wr W1007).1
  show OEnds p.tables e below G (T1007.setTop (mkF m 33 #[.val (.int p1), .val (.int p2), .val (.ref b1001)] []))
  obtain ⟨T1010, h1010, X1010, e1010, E1010, A1010, D1010, -, st1010⟩ := newO X1007 hx hZ hown (hw _ (List.mem_of_getElem? (i := 5) rfl)) (hw _ (List.mem_of_getElem? (i := 6) rfl)) (hw _ (List.mem_of_getElem? (i := 7) rfl)) e1007 (g := (mkF m 33 #[.val (.int p1), .val (.int p2), .val (.ref b1001)] [])) rfl (hb hby d1_33) (by decide) (by decide)
  obtain ⟨b1010, g1010⟩ : ∃ z, z = h1007.size := ⟨_, rfl⟩
  rw [← g1010] at A1010 D1010 st1010
  refine OEnds.st st1010 ?_
  have ne1011 : b1001 ≠ b1010 := Nat.ne_of_lt (Nat.lt_of_lt_of_le (f1008).lt (Nat.le_of_eq g1010.symm))
  have ge_b1010 : n0 ≤ b1010 := Nat.le_trans Z1007 (Nat.le_of_eq g1010.symm)
  have sz_b1010 : h0.size ≤ b1010 := Nat.le_trans KK1007.1 (Nat.le_of_eq g1010.symm)
  have f1012 : Sta Z h1010 "java/lang/String" "COMPACT_STRINGS" "Z" (.int w) := f1009.ext E1010
  have f1013 : Arv Z h1010 b1001 k1001 .char (2 : Int32) [(.int (nar .char ((p1 &&& (255 : Int32)).toUInt32.toUInt16.toUInt32.toInt32))), (.int (nar .char ((((p1.toUInt32 >>> ((8 : Int32) &&& 31).toUInt32).toInt32) &&& (255 : Int32)).toUInt32.toUInt16.toUInt32.toInt32)))] (.int (0 : Int32)) := f1008.ext E1010
  have KK1010 : Keep h0 h1010 [] := KK1007.ext E1010
  have Z1010 := Nat.le_trans Z1007 E1010.1
  have ex_b1010 := A1010
  have f1014 : Fld Z h1010 b1010 "java/lang/String" "coder" "B" (.int (0 : Int32)) := D1010 (Or.inr (hw _ (List.mem_of_getElem? (i := 31) rfl))) (ty := .byte) (by decide)
  have f1015 : Fld Z h1010 b1010 "java/lang/String" "value" "[B" .null := D1010 (Or.inr (hw _ (List.mem_of_getElem? (i := 33) rfl))) (ty := (.array .byte)) (by decide)
  show OEnds p.tables e below G (T1010.setTop (mkF m 36 #[.val (.int p1), .val (.int p2), .val (.ref b1001)] [(.ref b1010)]))
  refine OEnds.st (fun _ k => XS.dup X1010.here hx rfl (hb hby d1_36) rfl rfl k) ?_
  show OEnds p.tables e below G (T1010.setTop (mkF m 37 #[.val (.int p1), .val (.int p2), .val (.ref b1001)] [(.ref b1010), (.ref b1010)]))
  refine OEnds.st (fun _ k => XS.aloadN X1010.here hx rfl (hb hby d1_37) rfl rfl k) ?_
  show OEnds p.tables e below G (T1010.setTop (mkF m 38 #[.val (.int p1), .val (.int p2), .val (.ref b1001)] [(.ref b1001), (.ref b1010), (.ref b1010)]))
  obtain ⟨_, _, ⟨T1016, L1016, k1016c, n1016c⟩, -, X1016, ⟨Lc1016, hQ1016, l1016, y1016, z1016⟩, st1016⟩ := X1010.specialBack hx (y := (⟨"java/lang/String", "<init>", "([C)V"⟩ : MethodName)) rfl hown (mvT hZ (hw _ (List.mem_of_getElem? (i := 8) rfl))) (mvT hZ (hw _ (List.mem_of_getElem? (i := 9) rfl))) (mvT hZ (hw _ (List.mem_of_getElem? (i := 10) rfl))) (by decide) (backOf (W := 1) (rm2 l Z a0 hw [] b1010 b1001 w k1001 (nar .char ((p1 &&& (255 : Int32)).toUInt32.toUInt16.toUInt32.toInt32)) (nar .char ((((p1.toUInt32 >>> ((8 : Int32) &&& 31).toUInt32).toInt32) &&& (255 : Int32)).toUInt32.toUInt16.toUInt32.toInt32)) h1010 n0 Z1010 ex_b1010 f1015 f1014 f1013 f1012 ge_b1010 ne1011 hw0 (own_ch _) (own_ch _)) hZ (hw _ (List.mem_of_getElem? (i := 10) rfl)) (hw _ (List.mem_of_getElem? (i := 7) rfl)) (by decide) (by decide)) (g := (mkF m 38 #[.val (.int p1), .val (.int p2), .val (.ref b1001)] [(.ref b1001), (.ref b1010), (.ref b1010)])) rfl (by rw [hml]; rfl) (Steps.refl _) (a := b1010) (argsL := [(.ref b1001)]) (rest := [(.ref b1010)]) (lenOf pd_4 rfl) rfl (by show 2 * 0 + _ ≤ _; exact Nat.le_of_eq rfl) (hb hby d1_38) (fun _ _ => ⟨rfl, e1010, (by decide : 0 + 1 + 1 + 1 ≤ _), (by decide : 0 + 2 + 4 + 2 ≤ _)⟩)
  dsimp only [Pt.U, Pt.locs, Pt.cells, Pt.slots] at X1016 l1016 y1016 z1016 st1016 hQ1016
  subst l1016 y1016 z1016
  obtain ⟨rfl, N1016q, p1017, p1018⟩ := hQ1016
  have N1016 := Fr.app N1007 N1016q
  refine OEnds.st (fun _ k => st1016.trans k) ?_
  have f1019 : Sta Z T1016.heap "java/lang/String" "COMPACT_STRINGS" "Z" (.int w) := own_Sta_keep f1012 p1017 (fun x hx => by cases List.mem_singleton.mp hx; exact own_exa_ns ex_b1010)
  have f1020 : Arv Z T1016.heap b1001 k1001 .char (2 : Int32) [(.int (nar .char ((p1 &&& (255 : Int32)).toUInt32.toUInt16.toUInt32.toInt32))), (.int (nar .char ((((p1.toUInt32 >>> ((8 : Int32) &&& 31).toUInt32).toInt32) &&& (255 : Int32)).toUInt32.toUInt16.toUInt32.toInt32)))] (.int (0 : Int32)) := f1013.keep p1017 (by simp only [List.mem_cons, List.not_mem_nil, or_false, not_or]; exact ne1011)
  have f1021 : Exa Z T1016.heap b1010 "java/lang/String" := ex_b1010.keep p1017
  have KK1016 : Keep h0 T1016.heap [] := KK1010.trans p1017 (fun x hx => by cases List.mem_singleton.mp hx; exact Or.inr sz_b1010)
  have Z1016 := Nat.le_trans Z1010 p1017.1
  show OEnds p.tables e below G (T1016.setTop (mkF m 41 #[.val (.int p1), .val (.int p2), .val (.ref b1001)] [(.ref b1010)]))
  rw [← hG]
  refine OEnds.retA X1016 hx hlk Bd.returns (by first | rfl | exact rfl) rfl (hb hby d1_41) (by decide) (by decide) ?_
  show _
  exact ⟨b1010, rfl, N1016, KK1016, sz_b1010, p1018⟩
theorem d10_0 : decode jdk_30_method_1_code 0 = .ok (.aload_n 0, 1) := by decide +kernel
theorem d10_1 : decode jdk_30_method_1_code 1 = .ok (.invokespecial 1, 3) := by decide +kernel
theorem d10_4 : decode jdk_30_method_1_code 4 = .ok (.return_, 1) := by decide +kernel
theorem pn_3 : plainName "java/lang/Record" = true := by first | (simp [plainName, overriddenIn]; done) | decide +kernel
theorem ef_10 (m : MethodId) (a1 : Addr) : entryFrame m #[(.ref a1)] 1 = mkF m 0 #[.val (.ref a1)] [] := by first | (simp [entryFrame, mkF, argsToLocals, Value.category]; done) | rfl
def Q10 (Z : State) (a1 : Addr) (h0 : Heap) (n0 : Nat) (v : Option Value) (h : Heap) (L : List Loc) : Prop := v = none ∧ Fr n0 L ∧ h = h0
set_option maxRecDepth 65536 in
set_option maxHeartbeats 40000000 in
theorem rm10 (l : Launch) (Z : State) (a0 : Array Value) (hw : ∀ d ∈ tables_1, d.before a0 Z = true) (ws : List Jvm.Cond) (a1 : Addr) (h0 : Heap) (n0 : Nat) (Z0 : n0 ≤ h0.size) :
    MetFree l (⟨"java/lang/Record", "<init>", "()V"⟩ : MethodName) (head1 (Jvm.Cond.code (⟨"java/lang/Record", "<init>", "()V"⟩ : MethodName) jdk_30_method_1_code 1 none :: ws) ({ frames := 1, cells := 0, slots := 0, locals := 12 } : Room)) (fun a U => a = #[(.ref a1)] ∧ Z.Warmed39 U.vm ∧ U.heap = h0) (fun _ _ _ _ _ => True) (fun _ U o U' => ∃ v L, o = .returned v ∧ Q10 Z a1 h0 n0 v U'.heap L ∧ FrameEnd U o U' L ({ frames := 1, cells := 0, slots := 0, locals := 12 } : Room).cells ({ frames := 1, cells := 0, slots := 0, locals := 12 } : Room).slots) := by
  refine MetFree.of_bodySF (plainFor_of_name pn_3) hisR ?_
  intro p e s m args below meth c s₁ Bd hml0 hP hK
  obtain ⟨rfl, hZ, hh⟩ := hP
  have hx := Bd.exec
  have hby := Bd.bytes
  have hml : c.maxLocals = 1 := hml0
  have hown : s.vm.findClass "java/lang/Record" = some m.cls := findClass_of_methodNamed Bd.named
  have hnm := (name_of_methodNamed Bd.named Bd.method).1
  have hlk : meth.locks = false := BodyLoose.notSynchronized Bd
  have X0 : Stand p l e ({ frames := 1, cells := 0, slots := 0, locals := 12 } : Room) s m #[(.ref a1)] below meth c s₁ [] 0 0 := Stand.of_body Bd
  have e0 : s₁.heap = h0 := by rw [← hh, Bd.state]; rfl
  have N0 := Fr.nil n0
  show OEnds p.tables e below (OGoal (Q10 Z a1 h0 n0) s 0 0) (s₁.setTop (entryFrame m #[(.ref a1)] 1))
  refine OEnds.st (fun t k => castTop (ef_10 m a1) k) ?_
  generalize hG : OGoal (Q10 Z a1 h0 n0) s 0 0 = G
  have KK0 : Keep h0 h0 [] := Keep.refl h0 []
  show OEnds p.tables e below G (s₁.setTop (mkF m 0 #[.val (.ref a1)] []))
  refine OEnds.st (fun _ k => XS.aloadN X0.here hx rfl (hb hby d10_0) rfl rfl k) ?_
  show OEnds p.tables e below G (s₁.setTop (mkF m 1 #[.val (.ref a1)] [(.ref a1)]))
  obtain ⟨T1001, X1001, e1001, st1001⟩ := initO X0 hx hZ hown (hw _ (List.mem_of_getElem? (i := 48) rfl)) (hw _ (List.mem_of_getElem? (i := 16) rfl)) (hw _ (List.mem_of_getElem? (i := 17) rfl)) e0 (g := (mkF m 1 #[.val (.ref a1)] [(.ref a1)])) rfl (by rw [hml]; rfl) rfl (hb hby d10_1) (by decide) (W := 0) (by show 2 * 0 + _ ≤ _; exact Nat.le_of_eq rfl) (by decide)
  refine OEnds.st st1001 ?_
  show OEnds p.tables e below G (T1001.setTop (mkF m 4 #[.val (.ref a1)] []))
  rw [← hG]
  refine OEnds.retV X1001 hx hlk Bd.returns (hb hby d10_4) (by decide) (by decide) ?_
  rw [e1001]
  exact ⟨rfl, N0, rfl⟩
theorem d9_0 : decode prog_112_method_1_code 0 = .ok (.aload_n 0, 1) := by decide +kernel
theorem d9_1 : decode prog_112_method_1_code 1 = .ok (.invokespecial 1, 3) := by decide +kernel
theorem d9_4 : decode prog_112_method_1_code 4 = .ok (.aload_n 0, 1) := by decide +kernel
theorem d9_5 : decode prog_112_method_1_code 5 = .ok (.aload_n 1, 1) := by decide +kernel
theorem d9_6 : decode prog_112_method_1_code 6 = .ok (.putfield 7, 3) := by decide +kernel
theorem d9_9 : decode prog_112_method_1_code 9 = .ok (.aload_n 0, 1) := by decide +kernel
theorem d9_10 : decode prog_112_method_1_code 10 = .ok (.aload_n 2, 1) := by decide +kernel
theorem d9_11 : decode prog_112_method_1_code 11 = .ok (.putfield 13, 3) := by decide +kernel
theorem d9_14 : decode prog_112_method_1_code 14 = .ok (.aload_n 0, 1) := by decide +kernel
theorem d9_15 : decode prog_112_method_1_code 15 = .ok (.iload_n 3, 1) := by decide +kernel
theorem d9_16 : decode prog_112_method_1_code 16 = .ok (.putfield 16, 3) := by decide +kernel
theorem d9_19 : decode prog_112_method_1_code 19 = .ok (.aload_n 0, 1) := by decide +kernel
theorem d9_20 : decode prog_112_method_1_code 20 = .ok (.iload 4, 2) := by decide +kernel
theorem d9_22 : decode prog_112_method_1_code 22 = .ok (.putfield 20, 3) := by decide +kernel
theorem d9_25 : decode prog_112_method_1_code 25 = .ok (.return_, 1) := by decide +kernel
theorem pn_4 : plainName "com/example/coracle_health/coraclehealth/staff/FormField" = true := by first | (simp [plainName, overriddenIn]; done) | decide +kernel
theorem ef_ffi00 (m : MethodId) (a1 : Addr) (p5 : Int32) : entryFrame m #[(.ref a1), .null, .null, (.int (1 : Int32)), (.int p5)] 5 = mkF m 0 #[.val (.ref a1), .val .null, .val .null, .val (.int (1 : Int32)), .val (.int p5)] [] := by first | (simp [entryFrame, mkF, argsToLocals, Value.category]; done) | rfl
def Qffi00 (Z : State) (a1 : Addr) (p5 : Int32) (h0 : Heap) (n0 : Nat) (v : Option Value) (h : Heap) (L : List Loc) : Prop := v = none ∧ Fr n0 L ∧ Keep h0 h [a1] ∧ Exa Z h a1 "com/example/coracle_health/coraclehealth/staff/FormField" ∧ Fld Z h a1 "com/example/coracle_health/coraclehealth/staff/FormField" "fieldName" "Ljava/lang/String;" .null ∧ Fld Z h a1 "com/example/coracle_health/coraclehealth/staff/FormField" "name" "Ljava/lang/String;" .null ∧ Fld Z h a1 "com/example/coracle_health/coraclehealth/staff/FormField" "secret" "Z" (.int (1 : Int32)) ∧ Fld Z h a1 "com/example/coracle_health/coraclehealth/staff/FormField" "minLength" "I" (.int p5)
theorem pd_5 : parseMethodDescriptor "()V" = some ⟨[], none⟩ := by decide +kernel
set_option maxRecDepth 65536 in
set_option maxHeartbeats 40000000 in
theorem rmffi00 (l : Launch) (Z : State) (a0 : Array Value) (hw : ∀ d ∈ tables_1, d.before a0 Z = true) (ws : List Jvm.Cond) (a1 : Addr) (p5 : Int32) (h0 : Heap) (n0 : Nat) (Z0 : n0 ≤ h0.size) (E : Exa Z h0 a1 "com/example/coracle_health/coraclehealth/staff/FormField") (FfieldName : Fld Z h0 a1 "com/example/coracle_health/coraclehealth/staff/FormField" "fieldName" "Ljava/lang/String;" .null) (Fname : Fld Z h0 a1 "com/example/coracle_health/coraclehealth/staff/FormField" "name" "Ljava/lang/String;" .null) (Fsecret : Fld Z h0 a1 "com/example/coracle_health/coraclehealth/staff/FormField" "secret" "Z" (.int (0 : Int32))) (FminLength : Fld Z h0 a1 "com/example/coracle_health/coraclehealth/staff/FormField" "minLength" "I" (.int (0 : Int32))) (g_a1 : n0 ≤ a1) :
    MetFree l (⟨"com/example/coracle_health/coraclehealth/staff/FormField", "<init>", "(Ljava/lang/String;Ljava/lang/String;ZI)V"⟩ : MethodName) (head1 (Jvm.Cond.code (⟨"com/example/coracle_health/coraclehealth/staff/FormField", "<init>", "(Ljava/lang/String;Ljava/lang/String;ZI)V"⟩ : MethodName) prog_112_method_1_code 5 none :: ws) ({ frames := 2, cells := 0, slots := 0, locals := 24 } : Room)) (fun a U => a = #[(.ref a1), .null, .null, (.int (1 : Int32)), (.int p5)] ∧ Z.Warmed39 U.vm ∧ U.heap = h0) (fun _ _ _ _ _ => True) (fun _ U o U' => ∃ v L, o = .returned v ∧ Qffi00 Z a1 p5 h0 n0 v U'.heap L ∧ FrameEnd U o U' L ({ frames := 2, cells := 0, slots := 0, locals := 24 } : Room).cells ({ frames := 2, cells := 0, slots := 0, locals := 24 } : Room).slots) := by
  refine MetFree.of_bodySF (plainFor_of_name pn_4) hisR ?_
  intro p e s m args below meth c s₁ Bd hml0 hP hK
  obtain ⟨rfl, hZ, hh⟩ := hP
  have hx := Bd.exec
  have hby := Bd.bytes
  have hml : c.maxLocals = 5 := hml0
  have hown : s.vm.findClass "com/example/coracle_health/coraclehealth/staff/FormField" = some m.cls := findClass_of_methodNamed Bd.named
  have hnm := (name_of_methodNamed Bd.named Bd.method).1
  have hlk : meth.locks = false := BodyLoose.notSynchronized Bd
  have X0 : Stand p l e ({ frames := 2, cells := 0, slots := 0, locals := 24 } : Room) s m #[(.ref a1), .null, .null, (.int (1 : Int32)), (.int p5)] below meth c s₁ [] 0 0 := Stand.of_body Bd
  have e0 : s₁.heap = h0 := by rw [← hh, Bd.state]; rfl
  have N0 := Fr.nil n0
  show OEnds p.tables e below (OGoal (Qffi00 Z a1 p5 h0 n0) s 0 0) (s₁.setTop (entryFrame m #[(.ref a1), .null, .null, (.int (1 : Int32)), (.int p5)] 5))
  refine OEnds.st (fun t k => castTop (ef_ffi00 m a1 p5) k) ?_
  generalize hG : OGoal (Qffi00 Z a1 p5 h0 n0) s 0 0 = G
  have KK0 : Keep h0 h0 [a1] := Keep.refl h0 [a1]
  show OEnds p.tables e below G (s₁.setTop (mkF m 0 #[.val (.ref a1), .val .null, .val .null, .val (.int (1 : Int32)), .val (.int p5)] []))
  refine OEnds.st (fun _ k => XS.aloadN X0.here hx rfl (hb hby d9_0) rfl rfl k) ?_
  show OEnds p.tables e below G (s₁.setTop (mkF m 1 #[.val (.ref a1), .val .null, .val .null, .val (.int (1 : Int32)), .val (.int p5)] [(.ref a1)]))
  obtain ⟨_, _, ⟨T1001, L1001, k1001c, n1001c⟩, -, X1001, ⟨Lc1001, hQ1001, l1001, y1001, z1001⟩, st1001⟩ := X0.specialBack hx (y := (⟨"java/lang/Record", "<init>", "()V"⟩ : MethodName)) rfl hown (mvT hZ (hw _ (List.mem_of_getElem? (i := 43) rfl))) (mvT hZ (hw _ (List.mem_of_getElem? (i := 44) rfl))) (mvT hZ (hw _ (List.mem_of_getElem? (i := 47) rfl))) (by decide) (backOf (W := 0) (rm10 l Z a0 hw [] a1 h0 n0 Z0 ) hZ (hw _ (List.mem_of_getElem? (i := 47) rfl)) (hw _ (List.mem_of_getElem? (i := 46) rfl)) (by decide) (by decide)) (g := (mkF m 1 #[.val (.ref a1), .val .null, .val .null, .val (.int (1 : Int32)), .val (.int p5)] [(.ref a1)])) rfl (by rw [hml]; rfl) (Steps.refl _) (a := a1) (argsL := []) (rest := []) (lenOf pd_5 rfl) rfl (by show 2 * 0 + _ ≤ _; exact Nat.le_of_eq rfl) (hb hby d9_1) (fun _ _ => ⟨rfl, e0, (by decide : 0 + 0 ≤ _), (by decide : 0 + 0 ≤ _)⟩)
  dsimp only [Pt.U, Pt.locs, Pt.cells, Pt.slots] at X1001 l1001 y1001 z1001 st1001 hQ1001
  subst l1001 y1001 z1001
  obtain ⟨rfl, N1001q, e1001⟩ := hQ1001
  have N1001 := Fr.app N0 N1001q
  refine OEnds.st (fun _ k => st1001.trans k) ?_
  show OEnds p.tables e below G (T1001.setTop (mkF m 4 #[.val (.ref a1), .val .null, .val .null, .val (.int (1 : Int32)), .val (.int p5)] []))
  refine OEnds.st (fun _ k => XS.aloadN X1001.here hx rfl (hb hby d9_4) rfl rfl k) ?_
  show OEnds p.tables e below G (T1001.setTop (mkF m 5 #[.val (.ref a1), .val .null, .val .null, .val (.int (1 : Int32)), .val (.int p5)] [(.ref a1)]))
  refine OEnds.st (fun _ k => XS.aloadN X1001.here hx rfl (hb hby d9_5) rfl rfl k) ?_
  show OEnds p.tables e below G (T1001.setTop (mkF m 6 #[.val (.ref a1), .val .null, .val .null, .val (.int (1 : Int32)), .val (.int p5)] [.null, (.ref a1)]))
  obtain ⟨T1002, h1002, X1002, e1002, W1002, st1002⟩ := putF X1001 hx hZ hown (host := "") (Or.inl (hw _ (List.mem_of_getElem? (i := 49) rfl))) Via.refl e1001 FfieldName E (Or.inr ⟨(hw _ (List.mem_of_getElem? (i := 50) rfl)), rfl, hnm⟩) (hw _ (List.mem_of_getElem? (i := 39) rfl)) (ty := (.object "java/lang/String")) (by decide) rfl rfl (g := (mkF m 6 #[.val (.ref a1), .val .null, .val .null, .val (.int (1 : Int32)), .val (.int p5)] [.null, (.ref a1)])) rfl rfl (hb hby d9_6)
  refine OEnds.st st1002 ?_
  have f1003 : Fld Z h1002 a1 "com/example/coracle_health/coraclehealth/staff/FormField" "fieldName" "Ljava/lang/String;" .null := FfieldName.same W1002
  have f1004 : Exa Z h1002 a1 "com/example/coracle_health/coraclehealth/staff/FormField" := E.wr W1002
  have f1006 : Fld Z h1002 a1 "com/example/coracle_health/coraclehealth/staff/FormField" "name" "Ljava/lang/String;" .null := Fname.other W1002 (Or.inr (slot_ne (Or.inr (hw _ (List.mem_of_getElem? (i := 52) rfl))) (Or.inr (hw _ (List.mem_of_getElem? (i := 50) rfl))) (by decide) (t := (.object "java/lang/String")) (t' := (.object "java/lang/String")) (by decide) (by decide)))
  have f1007 : Fld Z h1002 a1 "com/example/coracle_health/coraclehealth/staff/FormField" "secret" "Z" (.int (0 : Int32)) := Fsecret.other W1002 (Or.inr (slot_ne (Or.inr (hw _ (List.mem_of_getElem? (i := 54) rfl))) (Or.inr (hw _ (List.mem_of_getElem? (i := 50) rfl))) (by decide) (t := .boolean) (t' := (.object "java/lang/String")) (by decide) (by decide)))
  have f1008 : Fld Z h1002 a1 "com/example/coracle_health/coraclehealth/staff/FormField" "minLength" "I" (.int (0 : Int32)) := FminLength.other W1002 (Or.inr (slot_ne (Or.inr (hw _ (List.mem_of_getElem? (i := 56) rfl))) (Or.inr (hw _ (List.mem_of_getElem? (i := 50) rfl))) (by decide) (t := .int) (t' := (.object "java/lang/String")) (by decide) (by decide)))
  have N1002 := Fr.snoc X1002 N1001 g_a1
  have KK1002 : Keep h0 h1002 [a1] := KK0.wr W1002 (Or.inl (List.mem_of_getElem? (i := 0) rfl))
  have Z1002 := Nat.le_trans Z0 (Keep.of_wr W1002).1
  show OEnds p.tables e below G (T1002.setTop (mkF m 9 #[.val (.ref a1), .val .null, .val .null, .val (.int (1 : Int32)), .val (.int p5)] []))
  refine OEnds.st (fun _ k => XS.aloadN X1002.here hx rfl (hb hby d9_9) rfl rfl k) ?_
  show OEnds p.tables e below G (T1002.setTop (mkF m 10 #[.val (.ref a1), .val .null, .val .null, .val (.int (1 : Int32)), .val (.int p5)] [(.ref a1)]))
  refine OEnds.st (fun _ k => XS.aloadN X1002.here hx rfl (hb hby d9_10) rfl rfl k) ?_
  show OEnds p.tables e below G (T1002.setTop (mkF m 11 #[.val (.ref a1), .val .null, .val .null, .val (.int (1 : Int32)), .val (.int p5)] [.null, (.ref a1)]))
  obtain ⟨T1009, h1009, X1009, e1009, W1009, st1009⟩ := putF X1002 hx hZ hown (host := "") (Or.inl (hw _ (List.mem_of_getElem? (i := 51) rfl))) Via.refl e1002 f1006 f1004 (Or.inr ⟨(hw _ (List.mem_of_getElem? (i := 52) rfl)), rfl, hnm⟩) (hw _ (List.mem_of_getElem? (i := 39) rfl)) (ty := (.object "java/lang/String")) (by decide) rfl rfl (g := (mkF m 11 #[.val (.ref a1), .val .null, .val .null, .val (.int (1 : Int32)), .val (.int p5)] [.null, (.ref a1)])) rfl rfl (hb hby d9_11)
  refine OEnds.st st1009 ?_
  have f1010 : Fld Z h1009 a1 "com/example/coracle_health/coraclehealth/staff/FormField" "name" "Ljava/lang/String;" .null := f1006.same W1009
  have f1011 : Exa Z h1009 a1 "com/example/coracle_health/coraclehealth/staff/FormField" := f1004.wr W1009
  have f1013 : Fld Z h1009 a1 "com/example/coracle_health/coraclehealth/staff/FormField" "secret" "Z" (.int (0 : Int32)) := f1007.other W1009 (Or.inr (slot_ne (Or.inr (hw _ (List.mem_of_getElem? (i := 54) rfl))) (Or.inr (hw _ (List.mem_of_getElem? (i := 52) rfl))) (by decide) (t := .boolean) (t' := (.object "java/lang/String")) (by decide) (by decide)))
  have f1014 : Fld Z h1009 a1 "com/example/coracle_health/coraclehealth/staff/FormField" "minLength" "I" (.int (0 : Int32)) := f1008.other W1009 (Or.inr (slot_ne (Or.inr (hw _ (List.mem_of_getElem? (i := 56) rfl))) (Or.inr (hw _ (List.mem_of_getElem? (i := 52) rfl))) (by decide) (t := .int) (t' := (.object "java/lang/String")) (by decide) (by decide)))
  have f1015 : Fld Z h1009 a1 "com/example/coracle_health/coraclehealth/staff/FormField" "fieldName" "Ljava/lang/String;" .null := f1003.other W1009 (Or.inr (slot_ne (Or.inr (hw _ (List.mem_of_getElem? (i := 50) rfl))) (Or.inr (hw _ (List.mem_of_getElem? (i := 52) rfl))) (by decide) (t := (.object "java/lang/String")) (t' := (.object "java/lang/String")) (by decide) (by decide)))
  have N1009 := Fr.snoc X1009 N1002 g_a1
  have KK1009 : Keep h0 h1009 [a1] := KK1002.wr W1009 (Or.inl (List.mem_of_getElem? (i := 0) rfl))
  have Z1009 := Nat.le_trans Z1002 (Keep.of_wr W1009).1
  show OEnds p.tables e below G (T1009.setTop (mkF m 14 #[.val (.ref a1), .val .null, .val .null, .val (.int (1 : Int32)), .val (.int p5)] []))
  refine OEnds.st (fun _ k => XS.aloadN X1009.here hx rfl (hb hby d9_14) rfl rfl k) ?_
  show OEnds p.tables e below G (T1009.setTop (mkF m 15 #[.val (.ref a1), .val .null, .val .null, .val (.int (1 : Int32)), .val (.int p5)] [(.ref a1)]))
  refine OEnds.st (fun _ k => XS.iloadN X1009.here hx rfl (hb hby d9_15) rfl k) ?_
  show OEnds p.tables e below G (T1009.setTop (mkF m 16 #[.val (.ref a1), .val .null, .val .null, .val (.int (1 : Int32)), .val (.int p5)] [(.int (1 : Int32)), (.ref a1)]))
  obtain ⟨T1016, h1016, X1016, e1016, W1016, st1016⟩ := putFN X1009 hx hZ hown (hw _ (List.mem_of_getElem? (i := 53) rfl)) Via.refl e1009 f1013 f1011 (Or.inr ⟨(hw _ (List.mem_of_getElem? (i := 54) rfl)), rfl, hnm⟩) (hw _ (List.mem_of_getElem? (i := 39) rfl)) (ty := .boolean) (v' := (.int (1 : Int32))) (by decide) rfl (by decide) (g := (mkF m 16 #[.val (.ref a1), .val .null, .val .null, .val (.int (1 : Int32)), .val (.int p5)] [(.int (1 : Int32)), (.ref a1)])) rfl rfl (hb hby d9_16)
  refine OEnds.st st1016 ?_
  have f1017 : Fld Z h1016 a1 "com/example/coracle_health/coraclehealth/staff/FormField" "secret" "Z" (.int (1 : Int32)) := f1013.same W1016
  have f1018 : Exa Z h1016 a1 "com/example/coracle_health/coraclehealth/staff/FormField" := f1011.wr W1016
  have f1020 : Fld Z h1016 a1 "com/example/coracle_health/coraclehealth/staff/FormField" "minLength" "I" (.int (0 : Int32)) := f1014.other W1016 (Or.inr (slot_ne (Or.inr (hw _ (List.mem_of_getElem? (i := 56) rfl))) (Or.inr (hw _ (List.mem_of_getElem? (i := 54) rfl))) (by decide) (t := .int) (t' := .boolean) (by decide) (by decide)))
  have f1021 : Fld Z h1016 a1 "com/example/coracle_health/coraclehealth/staff/FormField" "fieldName" "Ljava/lang/String;" .null := f1015.other W1016 (Or.inr (slot_ne (Or.inr (hw _ (List.mem_of_getElem? (i := 50) rfl))) (Or.inr (hw _ (List.mem_of_getElem? (i := 54) rfl))) (by decide) (t := (.object "java/lang/String")) (t' := .boolean) (by decide) (by decide)))
  have f1022 : Fld Z h1016 a1 "com/example/coracle_health/coraclehealth/staff/FormField" "name" "Ljava/lang/String;" .null := f1010.other W1016 (Or.inr (slot_ne (Or.inr (hw _ (List.mem_of_getElem? (i := 52) rfl))) (Or.inr (hw _ (List.mem_of_getElem? (i := 54) rfl))) (by decide) (t := (.object "java/lang/String")) (t' := .boolean) (by decide) (by decide)))
  have N1016 := Fr.snoc X1016 N1009 g_a1
  have KK1016 : Keep h0 h1016 [a1] := KK1009.wr W1016 (Or.inl (List.mem_of_getElem? (i := 0) rfl))
  have Z1016 := Nat.le_trans Z1009 (Keep.of_wr W1016).1
  show OEnds p.tables e below G (T1016.setTop (mkF m 19 #[.val (.ref a1), .val .null, .val .null, .val (.int (1 : Int32)), .val (.int p5)] []))
  refine OEnds.st (fun _ k => XS.aloadN X1016.here hx rfl (hb hby d9_19) rfl rfl k) ?_
  show OEnds p.tables e below G (T1016.setTop (mkF m 20 #[.val (.ref a1), .val .null, .val .null, .val (.int (1 : Int32)), .val (.int p5)] [(.ref a1)]))
  refine OEnds.st (fun _ k => XS.iload X1016.here hx rfl (hb hby d9_20) rfl k) ?_
  show OEnds p.tables e below G (T1016.setTop (mkF m 22 #[.val (.ref a1), .val .null, .val .null, .val (.int (1 : Int32)), .val (.int p5)] [(.int p5), (.ref a1)]))
  obtain ⟨T1023, h1023, X1023, e1023, W1023, st1023⟩ := putF X1016 hx hZ hown (host := "") (Or.inl (hw _ (List.mem_of_getElem? (i := 55) rfl))) Via.refl e1016 f1020 f1018 (Or.inr ⟨(hw _ (List.mem_of_getElem? (i := 56) rfl)), rfl, hnm⟩) (hw _ (List.mem_of_getElem? (i := 39) rfl)) (ty := .int) (by decide) rfl rfl (g := (mkF m 22 #[.val (.ref a1), .val .null, .val .null, .val (.int (1 : Int32)), .val (.int p5)] [(.int p5), (.ref a1)])) rfl rfl (hb hby d9_22)
  refine OEnds.st st1023 ?_
  have f1024 : Fld Z h1023 a1 "com/example/coracle_health/coraclehealth/staff/FormField" "minLength" "I" (.int p5) := f1020.same W1023
  have f1025 : Exa Z h1023 a1 "com/example/coracle_health/coraclehealth/staff/FormField" := f1018.wr W1023
  have f1027 : Fld Z h1023 a1 "com/example/coracle_health/coraclehealth/staff/FormField" "fieldName" "Ljava/lang/String;" .null := f1021.other W1023 (Or.inr (slot_ne (Or.inr (hw _ (List.mem_of_getElem? (i := 50) rfl))) (Or.inr (hw _ (List.mem_of_getElem? (i := 56) rfl))) (by decide) (t := (.object "java/lang/String")) (t' := .int) (by decide) (by decide)))
  have f1028 : Fld Z h1023 a1 "com/example/coracle_health/coraclehealth/staff/FormField" "name" "Ljava/lang/String;" .null := f1022.other W1023 (Or.inr (slot_ne (Or.inr (hw _ (List.mem_of_getElem? (i := 52) rfl))) (Or.inr (hw _ (List.mem_of_getElem? (i := 56) rfl))) (by decide) (t := (.object "java/lang/String")) (t' := .int) (by decide) (by decide)))
  have f1029 : Fld Z h1023 a1 "com/example/coracle_health/coraclehealth/staff/FormField" "secret" "Z" (.int (1 : Int32)) := f1017.other W1023 (Or.inr (slot_ne (Or.inr (hw _ (List.mem_of_getElem? (i := 54) rfl))) (Or.inr (hw _ (List.mem_of_getElem? (i := 56) rfl))) (by decide) (t := .boolean) (t' := .int) (by decide) (by decide)))
  have N1023 := Fr.snoc X1023 N1016 g_a1
  have KK1023 : Keep h0 h1023 [a1] := KK1016.wr W1023 (Or.inl (List.mem_of_getElem? (i := 0) rfl))
  have Z1023 := Nat.le_trans Z1016 (Keep.of_wr W1023).1
  show OEnds p.tables e below G (T1023.setTop (mkF m 25 #[.val (.ref a1), .val .null, .val .null, .val (.int (1 : Int32)), .val (.int p5)] []))
  rw [← hG]
  refine OEnds.retV X1023 hx hlk Bd.returns (hb hby d9_25) (by decide) (by decide) ?_
  rw [e1023]
  exact ⟨rfl, N1023, KK1023, f1025, f1027, f1028, f1029, f1024⟩
theorem d8_0 : decode prog_112_method_3_code 0 = .ok (.new 8, 3) := by decide +kernel
theorem d8_3 : decode prog_112_method_3_code 3 = .ok (.dup, 1) := by decide +kernel
theorem d8_4 : decode prog_112_method_3_code 4 = .ok (.aload_n 0, 1) := by decide +kernel
theorem d8_5 : decode prog_112_method_3_code 5 = .ok (.aload_n 1, 1) := by decide +kernel
theorem d8_6 : decode prog_112_method_3_code 6 = .ok (.iconst 1, 1) := by decide +kernel
theorem d8_7 : decode prog_112_method_3_code 7 = .ok (.iload_n 2, 1) := by decide +kernel
theorem d8_8 : decode prog_112_method_3_code 8 = .ok (.invokespecial 24, 3) := by decide +kernel
theorem d8_11 : decode prog_112_method_3_code 11 = .ok (.areturn, 1) := by decide +kernel
theorem ef_ffs00 (m : MethodId) (p3 : Int32) : entryFrame m #[.null, .null, (.int p3)] 3 = mkF m 0 #[.val .null, .val .null, .val (.int p3)] [] := by first | (simp [entryFrame, mkF, argsToLocals, Value.category]; done) | rfl
def Qffs00 (Z : State) (p3 : Int32) (h0 : Heap) (n0 : Nat) (v : Option Value) (h : Heap) (L : List Loc) : Prop := ∃ (b : Addr), v = some (.ref b) ∧ Fr n0 L ∧ Keep h0 h [] ∧ h0.size ≤ b ∧ Exa Z h b "com/example/coracle_health/coraclehealth/staff/FormField" ∧ Fld Z h b "com/example/coracle_health/coraclehealth/staff/FormField" "fieldName" "Ljava/lang/String;" .null ∧ Fld Z h b "com/example/coracle_health/coraclehealth/staff/FormField" "name" "Ljava/lang/String;" .null ∧ Fld Z h b "com/example/coracle_health/coraclehealth/staff/FormField" "secret" "Z" (.int (1 : Int32)) ∧ Fld Z h b "com/example/coracle_health/coraclehealth/staff/FormField" "minLength" "I" (.int p3)
theorem pd_6 : parseMethodDescriptor "(Ljava/lang/String;Ljava/lang/String;ZI)V" = some ⟨[(.object "java/lang/String"), (.object "java/lang/String"), .boolean, .int], none⟩ := by decide +kernel
set_option maxRecDepth 65536 in
set_option maxHeartbeats 40000000 in
theorem rmffs00 (l : Launch) (Z : State) (a0 : Array Value) (hw : ∀ d ∈ tables_1, d.before a0 Z = true) (ws : List Jvm.Cond) (p3 : Int32) (h0 : Heap) (n0 : Nat) (Z0 : n0 ≤ h0.size) :
    MetFree l (⟨"com/example/coracle_health/coraclehealth/staff/FormField", "secret", "(Ljava/lang/String;Ljava/lang/String;I)Lcom/example/coracle_health/coraclehealth/staff/FormField;"⟩ : MethodName) (head1 (Jvm.Cond.code (⟨"com/example/coracle_health/coraclehealth/staff/FormField", "secret", "(Ljava/lang/String;Ljava/lang/String;I)Lcom/example/coracle_health/coraclehealth/staff/FormField;"⟩ : MethodName) prog_112_method_3_code 3 (some (.object "com/example/coracle_health/coraclehealth/staff/FormField")) :: ws) ({ frames := 3, cells := 1, slots := 4, locals := 41 } : Room)) (fun a U => a = #[.null, .null, (.int p3)] ∧ Z.Warmed39 U.vm ∧ U.heap = h0) (fun _ _ _ _ _ => True) (fun _ U o U' => ∃ v L, o = .returned v ∧ Qffs00 Z p3 h0 n0 v U'.heap L ∧ FrameEnd U o U' L ({ frames := 3, cells := 1, slots := 4, locals := 41 } : Room).cells ({ frames := 3, cells := 1, slots := 4, locals := 41 } : Room).slots) := by
  refine MetFree.of_bodySF (plainFor_of_name pn_4) hisR ?_
  intro p e s m args below meth c s₁ Bd hml0 hP hK
  obtain ⟨rfl, hZ, hh⟩ := hP
  have hx := Bd.exec
  have hby := Bd.bytes
  have hml : c.maxLocals = 3 := hml0
  have hown : s.vm.findClass "com/example/coracle_health/coraclehealth/staff/FormField" = some m.cls := findClass_of_methodNamed Bd.named
  have hnm := (name_of_methodNamed Bd.named Bd.method).1
  have hlk : meth.locks = false := BodyLoose.notSynchronized Bd
  have X0 : Stand p l e ({ frames := 3, cells := 1, slots := 4, locals := 41 } : Room) s m #[.null, .null, (.int p3)] below meth c s₁ [] 0 0 := Stand.of_body Bd
  have e0 : s₁.heap = h0 := by rw [← hh, Bd.state]; rfl
  have N0 := Fr.nil n0
  show OEnds p.tables e below (OGoal (Qffs00 Z p3 h0 n0) s 1 4) (s₁.setTop (entryFrame m #[.null, .null, (.int p3)] 3))
  refine OEnds.st (fun t k => castTop (ef_ffs00 m p3) k) ?_
  generalize hG : OGoal (Qffs00 Z p3 h0 n0) s 1 4 = G
  have KK0 : Keep h0 h0 [] := Keep.refl h0 []
  show OEnds p.tables e below G (s₁.setTop (mkF m 0 #[.val .null, .val .null, .val (.int p3)] []))
  obtain ⟨T1001, h1001, X1001, e1001, E1001, A1001, D1001, -, st1001⟩ := newO X0 hx hZ hown (hw _ (List.mem_of_getElem? (i := 38) rfl)) (hw _ (List.mem_of_getElem? (i := 39) rfl)) (hw _ (List.mem_of_getElem? (i := 36) rfl)) e0 (g := (mkF m 0 #[.val .null, .val .null, .val (.int p3)] [])) rfl (hb hby d8_0) (by decide) (by decide)
  obtain ⟨b1001, g1001⟩ : ∃ z, z = h0.size := ⟨_, rfl⟩
  rw [← g1001] at A1001 D1001 st1001
  refine OEnds.st st1001 ?_
  have ge_b1001 : n0 ≤ b1001 := Nat.le_trans Z0 (Nat.le_of_eq g1001.symm)
  have sz_b1001 : h0.size ≤ b1001 := Nat.le_trans KK0.1 (Nat.le_of_eq g1001.symm)
  have KK1001 : Keep h0 h1001 [] := KK0.ext E1001
  have Z1001 := Nat.le_trans Z0 E1001.1
  have ex_b1001 := A1001
  have f1002 : Fld Z h1001 b1001 "com/example/coracle_health/coraclehealth/staff/FormField" "fieldName" "Ljava/lang/String;" .null := D1001 (Or.inr (hw _ (List.mem_of_getElem? (i := 50) rfl))) (ty := (.object "java/lang/String")) (by decide)
  have f1003 : Fld Z h1001 b1001 "com/example/coracle_health/coraclehealth/staff/FormField" "name" "Ljava/lang/String;" .null := D1001 (Or.inr (hw _ (List.mem_of_getElem? (i := 52) rfl))) (ty := (.object "java/lang/String")) (by decide)
  have f1004 : Fld Z h1001 b1001 "com/example/coracle_health/coraclehealth/staff/FormField" "secret" "Z" (.int (0 : Int32)) := D1001 (Or.inr (hw _ (List.mem_of_getElem? (i := 54) rfl))) (ty := .boolean) (by decide)
  have f1005 : Fld Z h1001 b1001 "com/example/coracle_health/coraclehealth/staff/FormField" "minLength" "I" (.int (0 : Int32)) := D1001 (Or.inr (hw _ (List.mem_of_getElem? (i := 56) rfl))) (ty := .int) (by decide)
  show OEnds p.tables e below G (T1001.setTop (mkF m 3 #[.val .null, .val .null, .val (.int p3)] [(.ref b1001)]))
  refine OEnds.st (fun _ k => XS.dup X1001.here hx rfl (hb hby d8_3) rfl rfl k) ?_
  show OEnds p.tables e below G (T1001.setTop (mkF m 4 #[.val .null, .val .null, .val (.int p3)] [(.ref b1001), (.ref b1001)]))
  refine OEnds.st (fun _ k => XS.aloadN X1001.here hx rfl (hb hby d8_4) rfl rfl k) ?_
  show OEnds p.tables e below G (T1001.setTop (mkF m 5 #[.val .null, .val .null, .val (.int p3)] [.null, (.ref b1001), (.ref b1001)]))
  refine OEnds.st (fun _ k => XS.aloadN X1001.here hx rfl (hb hby d8_5) rfl rfl k) ?_
  show OEnds p.tables e below G (T1001.setTop (mkF m 6 #[.val .null, .val .null, .val (.int p3)] [.null, .null, (.ref b1001), (.ref b1001)]))
  refine OEnds.st (fun _ k => XS.iconst X1001.here hx rfl (hb hby d8_6) k) ?_
  show OEnds p.tables e below G (T1001.setTop (mkF m 7 #[.val .null, .val .null, .val (.int p3)] [(.int (1 : Int32)), .null, .null, (.ref b1001), (.ref b1001)]))
  refine OEnds.st (fun _ k => XS.iloadN X1001.here hx rfl (hb hby d8_7) rfl k) ?_
  show OEnds p.tables e below G (T1001.setTop (mkF m 8 #[.val .null, .val .null, .val (.int p3)] [(.int p3), (.int (1 : Int32)), .null, .null, (.ref b1001), (.ref b1001)]))
  obtain ⟨_, _, ⟨T1006, L1006, k1006c, n1006c⟩, -, X1006, ⟨Lc1006, hQ1006, l1006, y1006, z1006⟩, st1006⟩ := X1001.specialBack hx (y := (⟨"com/example/coracle_health/coraclehealth/staff/FormField", "<init>", "(Ljava/lang/String;Ljava/lang/String;ZI)V"⟩ : MethodName)) rfl hown (mvT hZ (hw _ (List.mem_of_getElem? (i := 40) rfl))) (mvT hZ (hw _ (List.mem_of_getElem? (i := 41) rfl))) (mvT hZ (hw _ (List.mem_of_getElem? (i := 42) rfl))) (by decide) (backOf (W := 1) (rmffi00 l Z a0 hw [] b1001 p3 h1001 n0 Z1001 ex_b1001 f1002 f1003 f1004 f1005 ge_b1001) hZ (hw _ (List.mem_of_getElem? (i := 42) rfl)) (hw _ (List.mem_of_getElem? (i := 36) rfl)) (by decide) (by decide)) (g := (mkF m 8 #[.val .null, .val .null, .val (.int p3)] [(.int p3), (.int (1 : Int32)), .null, .null, (.ref b1001), (.ref b1001)])) rfl (by rw [hml]; rfl) (Steps.refl _) (a := b1001) (argsL := [.null, .null, (.int (1 : Int32)), (.int p3)]) (rest := [(.ref b1001)]) (lenOf pd_6 rfl) rfl (by show 2 * 0 + _ ≤ _; exact Nat.le_of_eq rfl) (hb hby d8_8) (fun _ _ => ⟨rfl, e1001, (by decide : 0 + 1 + 0 ≤ _), (by decide : 0 + 4 + 0 ≤ _)⟩)
  dsimp only [Pt.U, Pt.locs, Pt.cells, Pt.slots] at X1006 l1006 y1006 z1006 st1006 hQ1006
  subst l1006 y1006 z1006
  obtain ⟨rfl, N1006q, p1007, p1008, p1009, p1010, p1011, p1012⟩ := hQ1006
  have N1006 := Fr.app N0 N1006q
  refine OEnds.st (fun _ k => st1006.trans k) ?_
  have f1013 : Exa Z T1006.heap b1001 "com/example/coracle_health/coraclehealth/staff/FormField" := ex_b1001.keep p1007
  have KK1006 : Keep h0 T1006.heap [] := KK1001.trans p1007 (fun x hx => by cases List.mem_singleton.mp hx; exact Or.inr sz_b1001)
  have Z1006 := Nat.le_trans Z1001 p1007.1
  show OEnds p.tables e below G (T1006.setTop (mkF m 11 #[.val .null, .val .null, .val (.int p3)] [(.ref b1001)]))
  rw [← hG]
  refine OEnds.retA X1006 hx hlk Bd.returns (by first | rfl | exact rfl) rfl (hb hby d8_11) (by decide) (by decide) ?_
  show _
  exact ⟨b1001, rfl, N1006, KK1006, sz_b1001, p1008, p1009, p1010, p1011, p1012⟩
theorem ef_ffi01 (m : MethodId) (a1 : Addr) (a3 : Addr) (p5 : Int32) : entryFrame m #[(.ref a1), .null, (.ref a3), (.int (1 : Int32)), (.int p5)] 5 = mkF m 0 #[.val (.ref a1), .val .null, .val (.ref a3), .val (.int (1 : Int32)), .val (.int p5)] [] := by first | (simp [entryFrame, mkF, argsToLocals, Value.category]; done) | rfl
def Qffi01 (Z : State) (a1 : Addr) (a3 : Addr) (p5 : Int32) (h0 : Heap) (n0 : Nat) (v : Option Value) (h : Heap) (L : List Loc) : Prop := v = none ∧ Fr n0 L ∧ Keep h0 h [a1] ∧ Exa Z h a1 "com/example/coracle_health/coraclehealth/staff/FormField" ∧ Fld Z h a1 "com/example/coracle_health/coraclehealth/staff/FormField" "fieldName" "Ljava/lang/String;" .null ∧ Fld Z h a1 "com/example/coracle_health/coraclehealth/staff/FormField" "name" "Ljava/lang/String;" (.ref a3) ∧ Fld Z h a1 "com/example/coracle_health/coraclehealth/staff/FormField" "secret" "Z" (.int (1 : Int32)) ∧ Fld Z h a1 "com/example/coracle_health/coraclehealth/staff/FormField" "minLength" "I" (.int p5)
set_option maxRecDepth 65536 in
set_option maxHeartbeats 40000000 in
theorem rmffi01 (l : Launch) (Z : State) (a0 : Array Value) (hw : ∀ d ∈ tables_1, d.before a0 Z = true) (ws : List Jvm.Cond) (a1 : Addr) (a3 : Addr) (p5 : Int32) (h0 : Heap) (n0 : Nat) (Z0 : n0 ≤ h0.size) (E : Exa Z h0 a1 "com/example/coracle_health/coraclehealth/staff/FormField") (FfieldName : Fld Z h0 a1 "com/example/coracle_health/coraclehealth/staff/FormField" "fieldName" "Ljava/lang/String;" .null) (Fname : Fld Z h0 a1 "com/example/coracle_health/coraclehealth/staff/FormField" "name" "Ljava/lang/String;" .null) (Fsecret : Fld Z h0 a1 "com/example/coracle_health/coraclehealth/staff/FormField" "secret" "Z" (.int (0 : Int32))) (FminLength : Fld Z h0 a1 "com/example/coracle_health/coraclehealth/staff/FormField" "minLength" "I" (.int (0 : Int32))) (g_a1 : n0 ≤ a1) :
    MetFree l (⟨"com/example/coracle_health/coraclehealth/staff/FormField", "<init>", "(Ljava/lang/String;Ljava/lang/String;ZI)V"⟩ : MethodName) (head1 (Jvm.Cond.code (⟨"com/example/coracle_health/coraclehealth/staff/FormField", "<init>", "(Ljava/lang/String;Ljava/lang/String;ZI)V"⟩ : MethodName) prog_112_method_1_code 5 none :: ws) ({ frames := 2, cells := 0, slots := 0, locals := 24 } : Room)) (fun a U => a = #[(.ref a1), .null, (.ref a3), (.int (1 : Int32)), (.int p5)] ∧ Z.Warmed39 U.vm ∧ U.heap = h0) (fun _ _ _ _ _ => True) (fun _ U o U' => ∃ v L, o = .returned v ∧ Qffi01 Z a1 a3 p5 h0 n0 v U'.heap L ∧ FrameEnd U o U' L ({ frames := 2, cells := 0, slots := 0, locals := 24 } : Room).cells ({ frames := 2, cells := 0, slots := 0, locals := 24 } : Room).slots) := by
  refine MetFree.of_bodySF (plainFor_of_name pn_4) hisR ?_
  intro p e s m args below meth c s₁ Bd hml0 hP hK
  obtain ⟨rfl, hZ, hh⟩ := hP
  have hx := Bd.exec
  have hby := Bd.bytes
  have hml : c.maxLocals = 5 := hml0
  have hown : s.vm.findClass "com/example/coracle_health/coraclehealth/staff/FormField" = some m.cls := findClass_of_methodNamed Bd.named
  have hnm := (name_of_methodNamed Bd.named Bd.method).1
  have hlk : meth.locks = false := BodyLoose.notSynchronized Bd
  have X0 : Stand p l e ({ frames := 2, cells := 0, slots := 0, locals := 24 } : Room) s m #[(.ref a1), .null, (.ref a3), (.int (1 : Int32)), (.int p5)] below meth c s₁ [] 0 0 := Stand.of_body Bd
  have e0 : s₁.heap = h0 := by rw [← hh, Bd.state]; rfl
  have N0 := Fr.nil n0
  show OEnds p.tables e below (OGoal (Qffi01 Z a1 a3 p5 h0 n0) s 0 0) (s₁.setTop (entryFrame m #[(.ref a1), .null, (.ref a3), (.int (1 : Int32)), (.int p5)] 5))
  refine OEnds.st (fun t k => castTop (ef_ffi01 m a1 a3 p5) k) ?_
  generalize hG : OGoal (Qffi01 Z a1 a3 p5 h0 n0) s 0 0 = G
  have KK0 : Keep h0 h0 [a1] := Keep.refl h0 [a1]
  show OEnds p.tables e below G (s₁.setTop (mkF m 0 #[.val (.ref a1), .val .null, .val (.ref a3), .val (.int (1 : Int32)), .val (.int p5)] []))
  refine OEnds.st (fun _ k => XS.aloadN X0.here hx rfl (hb hby d9_0) rfl rfl k) ?_
  show OEnds p.tables e below G (s₁.setTop (mkF m 1 #[.val (.ref a1), .val .null, .val (.ref a3), .val (.int (1 : Int32)), .val (.int p5)] [(.ref a1)]))
  obtain ⟨_, _, ⟨T1001, L1001, k1001c, n1001c⟩, -, X1001, ⟨Lc1001, hQ1001, l1001, y1001, z1001⟩, st1001⟩ := X0.specialBack hx (y := (⟨"java/lang/Record", "<init>", "()V"⟩ : MethodName)) rfl hown (mvT hZ (hw _ (List.mem_of_getElem? (i := 43) rfl))) (mvT hZ (hw _ (List.mem_of_getElem? (i := 44) rfl))) (mvT hZ (hw _ (List.mem_of_getElem? (i := 47) rfl))) (by decide) (backOf (W := 0) (rm10 l Z a0 hw [] a1 h0 n0 Z0 ) hZ (hw _ (List.mem_of_getElem? (i := 47) rfl)) (hw _ (List.mem_of_getElem? (i := 46) rfl)) (by decide) (by decide)) (g := (mkF m 1 #[.val (.ref a1), .val .null, .val (.ref a3), .val (.int (1 : Int32)), .val (.int p5)] [(.ref a1)])) rfl (by rw [hml]; rfl) (Steps.refl _) (a := a1) (argsL := []) (rest := []) (lenOf pd_5 rfl) rfl (by show 2 * 0 + _ ≤ _; exact Nat.le_of_eq rfl) (hb hby d9_1) (fun _ _ => ⟨rfl, e0, (by decide : 0 + 0 ≤ _), (by decide : 0 + 0 ≤ _)⟩)
  dsimp only [Pt.U, Pt.locs, Pt.cells, Pt.slots] at X1001 l1001 y1001 z1001 st1001 hQ1001
  subst l1001 y1001 z1001
  obtain ⟨rfl, N1001q, e1001⟩ := hQ1001
  have N1001 := Fr.app N0 N1001q
  refine OEnds.st (fun _ k => st1001.trans k) ?_
  show OEnds p.tables e below G (T1001.setTop (mkF m 4 #[.val (.ref a1), .val .null, .val (.ref a3), .val (.int (1 : Int32)), .val (.int p5)] []))
  refine OEnds.st (fun _ k => XS.aloadN X1001.here hx rfl (hb hby d9_4) rfl rfl k) ?_
  show OEnds p.tables e below G (T1001.setTop (mkF m 5 #[.val (.ref a1), .val .null, .val (.ref a3), .val (.int (1 : Int32)), .val (.int p5)] [(.ref a1)]))
  refine OEnds.st (fun _ k => XS.aloadN X1001.here hx rfl (hb hby d9_5) rfl rfl k) ?_
  show OEnds p.tables e below G (T1001.setTop (mkF m 6 #[.val (.ref a1), .val .null, .val (.ref a3), .val (.int (1 : Int32)), .val (.int p5)] [.null, (.ref a1)]))
  obtain ⟨T1002, h1002, X1002, e1002, W1002, st1002⟩ := putF X1001 hx hZ hown (host := "") (Or.inl (hw _ (List.mem_of_getElem? (i := 49) rfl))) Via.refl e1001 FfieldName E (Or.inr ⟨(hw _ (List.mem_of_getElem? (i := 50) rfl)), rfl, hnm⟩) (hw _ (List.mem_of_getElem? (i := 39) rfl)) (ty := (.object "java/lang/String")) (by decide) rfl rfl (g := (mkF m 6 #[.val (.ref a1), .val .null, .val (.ref a3), .val (.int (1 : Int32)), .val (.int p5)] [.null, (.ref a1)])) rfl rfl (hb hby d9_6)
  refine OEnds.st st1002 ?_
  have f1003 : Fld Z h1002 a1 "com/example/coracle_health/coraclehealth/staff/FormField" "fieldName" "Ljava/lang/String;" .null := FfieldName.same W1002
  have f1004 : Exa Z h1002 a1 "com/example/coracle_health/coraclehealth/staff/FormField" := E.wr W1002
  have f1006 : Fld Z h1002 a1 "com/example/coracle_health/coraclehealth/staff/FormField" "name" "Ljava/lang/String;" .null := Fname.other W1002 (Or.inr (slot_ne (Or.inr (hw _ (List.mem_of_getElem? (i := 52) rfl))) (Or.inr (hw _ (List.mem_of_getElem? (i := 50) rfl))) (by decide) (t := (.object "java/lang/String")) (t' := (.object "java/lang/String")) (by decide) (by decide)))
  have f1007 : Fld Z h1002 a1 "com/example/coracle_health/coraclehealth/staff/FormField" "secret" "Z" (.int (0 : Int32)) := Fsecret.other W1002 (Or.inr (slot_ne (Or.inr (hw _ (List.mem_of_getElem? (i := 54) rfl))) (Or.inr (hw _ (List.mem_of_getElem? (i := 50) rfl))) (by decide) (t := .boolean) (t' := (.object "java/lang/String")) (by decide) (by decide)))
  have f1008 : Fld Z h1002 a1 "com/example/coracle_health/coraclehealth/staff/FormField" "minLength" "I" (.int (0 : Int32)) := FminLength.other W1002 (Or.inr (slot_ne (Or.inr (hw _ (List.mem_of_getElem? (i := 56) rfl))) (Or.inr (hw _ (List.mem_of_getElem? (i := 50) rfl))) (by decide) (t := .int) (t' := (.object "java/lang/String")) (by decide) (by decide)))
  have N1002 := Fr.snoc X1002 N1001 g_a1
  have KK1002 : Keep h0 h1002 [a1] := KK0.wr W1002 (Or.inl (List.mem_of_getElem? (i := 0) rfl))
  have Z1002 := Nat.le_trans Z0 (Keep.of_wr W1002).1
  show OEnds p.tables e below G (T1002.setTop (mkF m 9 #[.val (.ref a1), .val .null, .val (.ref a3), .val (.int (1 : Int32)), .val (.int p5)] []))
  refine OEnds.st (fun _ k => XS.aloadN X1002.here hx rfl (hb hby d9_9) rfl rfl k) ?_
  show OEnds p.tables e below G (T1002.setTop (mkF m 10 #[.val (.ref a1), .val .null, .val (.ref a3), .val (.int (1 : Int32)), .val (.int p5)] [(.ref a1)]))
  refine OEnds.st (fun _ k => XS.aloadN X1002.here hx rfl (hb hby d9_10) rfl rfl k) ?_
  show OEnds p.tables e below G (T1002.setTop (mkF m 11 #[.val (.ref a1), .val .null, .val (.ref a3), .val (.int (1 : Int32)), .val (.int p5)] [(.ref a3), (.ref a1)]))
  obtain ⟨T1009, h1009, X1009, e1009, W1009, st1009⟩ := putF X1002 hx hZ hown (host := "") (Or.inl (hw _ (List.mem_of_getElem? (i := 51) rfl))) Via.refl e1002 f1006 f1004 (Or.inr ⟨(hw _ (List.mem_of_getElem? (i := 52) rfl)), rfl, hnm⟩) (hw _ (List.mem_of_getElem? (i := 39) rfl)) (ty := (.object "java/lang/String")) (by decide) rfl rfl (g := (mkF m 11 #[.val (.ref a1), .val .null, .val (.ref a3), .val (.int (1 : Int32)), .val (.int p5)] [(.ref a3), (.ref a1)])) rfl rfl (hb hby d9_11)
  refine OEnds.st st1009 ?_
  have f1010 : Fld Z h1009 a1 "com/example/coracle_health/coraclehealth/staff/FormField" "name" "Ljava/lang/String;" (.ref a3) := f1006.same W1009
  have f1011 : Exa Z h1009 a1 "com/example/coracle_health/coraclehealth/staff/FormField" := f1004.wr W1009
  have f1013 : Fld Z h1009 a1 "com/example/coracle_health/coraclehealth/staff/FormField" "secret" "Z" (.int (0 : Int32)) := f1007.other W1009 (Or.inr (slot_ne (Or.inr (hw _ (List.mem_of_getElem? (i := 54) rfl))) (Or.inr (hw _ (List.mem_of_getElem? (i := 52) rfl))) (by decide) (t := .boolean) (t' := (.object "java/lang/String")) (by decide) (by decide)))
  have f1014 : Fld Z h1009 a1 "com/example/coracle_health/coraclehealth/staff/FormField" "minLength" "I" (.int (0 : Int32)) := f1008.other W1009 (Or.inr (slot_ne (Or.inr (hw _ (List.mem_of_getElem? (i := 56) rfl))) (Or.inr (hw _ (List.mem_of_getElem? (i := 52) rfl))) (by decide) (t := .int) (t' := (.object "java/lang/String")) (by decide) (by decide)))
  have f1015 : Fld Z h1009 a1 "com/example/coracle_health/coraclehealth/staff/FormField" "fieldName" "Ljava/lang/String;" .null := f1003.other W1009 (Or.inr (slot_ne (Or.inr (hw _ (List.mem_of_getElem? (i := 50) rfl))) (Or.inr (hw _ (List.mem_of_getElem? (i := 52) rfl))) (by decide) (t := (.object "java/lang/String")) (t' := (.object "java/lang/String")) (by decide) (by decide)))
  have N1009 := Fr.snoc X1009 N1002 g_a1
  have KK1009 : Keep h0 h1009 [a1] := KK1002.wr W1009 (Or.inl (List.mem_of_getElem? (i := 0) rfl))
  have Z1009 := Nat.le_trans Z1002 (Keep.of_wr W1009).1
  show OEnds p.tables e below G (T1009.setTop (mkF m 14 #[.val (.ref a1), .val .null, .val (.ref a3), .val (.int (1 : Int32)), .val (.int p5)] []))
  refine OEnds.st (fun _ k => XS.aloadN X1009.here hx rfl (hb hby d9_14) rfl rfl k) ?_
  show OEnds p.tables e below G (T1009.setTop (mkF m 15 #[.val (.ref a1), .val .null, .val (.ref a3), .val (.int (1 : Int32)), .val (.int p5)] [(.ref a1)]))
  refine OEnds.st (fun _ k => XS.iloadN X1009.here hx rfl (hb hby d9_15) rfl k) ?_
  show OEnds p.tables e below G (T1009.setTop (mkF m 16 #[.val (.ref a1), .val .null, .val (.ref a3), .val (.int (1 : Int32)), .val (.int p5)] [(.int (1 : Int32)), (.ref a1)]))
  obtain ⟨T1016, h1016, X1016, e1016, W1016, st1016⟩ := putFN X1009 hx hZ hown (hw _ (List.mem_of_getElem? (i := 53) rfl)) Via.refl e1009 f1013 f1011 (Or.inr ⟨(hw _ (List.mem_of_getElem? (i := 54) rfl)), rfl, hnm⟩) (hw _ (List.mem_of_getElem? (i := 39) rfl)) (ty := .boolean) (v' := (.int (1 : Int32))) (by decide) rfl (by decide) (g := (mkF m 16 #[.val (.ref a1), .val .null, .val (.ref a3), .val (.int (1 : Int32)), .val (.int p5)] [(.int (1 : Int32)), (.ref a1)])) rfl rfl (hb hby d9_16)
  refine OEnds.st st1016 ?_
  have f1017 : Fld Z h1016 a1 "com/example/coracle_health/coraclehealth/staff/FormField" "secret" "Z" (.int (1 : Int32)) := f1013.same W1016
  have f1018 : Exa Z h1016 a1 "com/example/coracle_health/coraclehealth/staff/FormField" := f1011.wr W1016
  have f1020 : Fld Z h1016 a1 "com/example/coracle_health/coraclehealth/staff/FormField" "minLength" "I" (.int (0 : Int32)) := f1014.other W1016 (Or.inr (slot_ne (Or.inr (hw _ (List.mem_of_getElem? (i := 56) rfl))) (Or.inr (hw _ (List.mem_of_getElem? (i := 54) rfl))) (by decide) (t := .int) (t' := .boolean) (by decide) (by decide)))
  have f1021 : Fld Z h1016 a1 "com/example/coracle_health/coraclehealth/staff/FormField" "fieldName" "Ljava/lang/String;" .null := f1015.other W1016 (Or.inr (slot_ne (Or.inr (hw _ (List.mem_of_getElem? (i := 50) rfl))) (Or.inr (hw _ (List.mem_of_getElem? (i := 54) rfl))) (by decide) (t := (.object "java/lang/String")) (t' := .boolean) (by decide) (by decide)))
  have f1022 : Fld Z h1016 a1 "com/example/coracle_health/coraclehealth/staff/FormField" "name" "Ljava/lang/String;" (.ref a3) := f1010.other W1016 (Or.inr (slot_ne (Or.inr (hw _ (List.mem_of_getElem? (i := 52) rfl))) (Or.inr (hw _ (List.mem_of_getElem? (i := 54) rfl))) (by decide) (t := (.object "java/lang/String")) (t' := .boolean) (by decide) (by decide)))
  have N1016 := Fr.snoc X1016 N1009 g_a1
  have KK1016 : Keep h0 h1016 [a1] := KK1009.wr W1016 (Or.inl (List.mem_of_getElem? (i := 0) rfl))
  have Z1016 := Nat.le_trans Z1009 (Keep.of_wr W1016).1
  show OEnds p.tables e below G (T1016.setTop (mkF m 19 #[.val (.ref a1), .val .null, .val (.ref a3), .val (.int (1 : Int32)), .val (.int p5)] []))
  refine OEnds.st (fun _ k => XS.aloadN X1016.here hx rfl (hb hby d9_19) rfl rfl k) ?_
  show OEnds p.tables e below G (T1016.setTop (mkF m 20 #[.val (.ref a1), .val .null, .val (.ref a3), .val (.int (1 : Int32)), .val (.int p5)] [(.ref a1)]))
  refine OEnds.st (fun _ k => XS.iload X1016.here hx rfl (hb hby d9_20) rfl k) ?_
  show OEnds p.tables e below G (T1016.setTop (mkF m 22 #[.val (.ref a1), .val .null, .val (.ref a3), .val (.int (1 : Int32)), .val (.int p5)] [(.int p5), (.ref a1)]))
  obtain ⟨T1023, h1023, X1023, e1023, W1023, st1023⟩ := putF X1016 hx hZ hown (host := "") (Or.inl (hw _ (List.mem_of_getElem? (i := 55) rfl))) Via.refl e1016 f1020 f1018 (Or.inr ⟨(hw _ (List.mem_of_getElem? (i := 56) rfl)), rfl, hnm⟩) (hw _ (List.mem_of_getElem? (i := 39) rfl)) (ty := .int) (by decide) rfl rfl (g := (mkF m 22 #[.val (.ref a1), .val .null, .val (.ref a3), .val (.int (1 : Int32)), .val (.int p5)] [(.int p5), (.ref a1)])) rfl rfl (hb hby d9_22)
  refine OEnds.st st1023 ?_
  have f1024 : Fld Z h1023 a1 "com/example/coracle_health/coraclehealth/staff/FormField" "minLength" "I" (.int p5) := f1020.same W1023
  have f1025 : Exa Z h1023 a1 "com/example/coracle_health/coraclehealth/staff/FormField" := f1018.wr W1023
  have f1027 : Fld Z h1023 a1 "com/example/coracle_health/coraclehealth/staff/FormField" "fieldName" "Ljava/lang/String;" .null := f1021.other W1023 (Or.inr (slot_ne (Or.inr (hw _ (List.mem_of_getElem? (i := 50) rfl))) (Or.inr (hw _ (List.mem_of_getElem? (i := 56) rfl))) (by decide) (t := (.object "java/lang/String")) (t' := .int) (by decide) (by decide)))
  have f1028 : Fld Z h1023 a1 "com/example/coracle_health/coraclehealth/staff/FormField" "name" "Ljava/lang/String;" (.ref a3) := f1022.other W1023 (Or.inr (slot_ne (Or.inr (hw _ (List.mem_of_getElem? (i := 52) rfl))) (Or.inr (hw _ (List.mem_of_getElem? (i := 56) rfl))) (by decide) (t := (.object "java/lang/String")) (t' := .int) (by decide) (by decide)))
  have f1029 : Fld Z h1023 a1 "com/example/coracle_health/coraclehealth/staff/FormField" "secret" "Z" (.int (1 : Int32)) := f1017.other W1023 (Or.inr (slot_ne (Or.inr (hw _ (List.mem_of_getElem? (i := 54) rfl))) (Or.inr (hw _ (List.mem_of_getElem? (i := 56) rfl))) (by decide) (t := .boolean) (t' := .int) (by decide) (by decide)))
  have N1023 := Fr.snoc X1023 N1016 g_a1
  have KK1023 : Keep h0 h1023 [a1] := KK1016.wr W1023 (Or.inl (List.mem_of_getElem? (i := 0) rfl))
  have Z1023 := Nat.le_trans Z1016 (Keep.of_wr W1023).1
  show OEnds p.tables e below G (T1023.setTop (mkF m 25 #[.val (.ref a1), .val .null, .val (.ref a3), .val (.int (1 : Int32)), .val (.int p5)] []))
  rw [← hG]
  refine OEnds.retV X1023 hx hlk Bd.returns (hb hby d9_25) (by decide) (by decide) ?_
  rw [e1023]
  exact ⟨rfl, N1023, KK1023, f1025, f1027, f1028, f1029, f1024⟩
theorem ef_ffs01 (m : MethodId) (a2 : Addr) (p3 : Int32) : entryFrame m #[.null, (.ref a2), (.int p3)] 3 = mkF m 0 #[.val .null, .val (.ref a2), .val (.int p3)] [] := by first | (simp [entryFrame, mkF, argsToLocals, Value.category]; done) | rfl
def Qffs01 (Z : State) (a2 : Addr) (p3 : Int32) (h0 : Heap) (n0 : Nat) (v : Option Value) (h : Heap) (L : List Loc) : Prop := ∃ (b : Addr), v = some (.ref b) ∧ Fr n0 L ∧ Keep h0 h [] ∧ h0.size ≤ b ∧ Exa Z h b "com/example/coracle_health/coraclehealth/staff/FormField" ∧ Fld Z h b "com/example/coracle_health/coraclehealth/staff/FormField" "fieldName" "Ljava/lang/String;" .null ∧ Fld Z h b "com/example/coracle_health/coraclehealth/staff/FormField" "name" "Ljava/lang/String;" (.ref a2) ∧ Fld Z h b "com/example/coracle_health/coraclehealth/staff/FormField" "secret" "Z" (.int (1 : Int32)) ∧ Fld Z h b "com/example/coracle_health/coraclehealth/staff/FormField" "minLength" "I" (.int p3)
set_option maxRecDepth 65536 in
set_option maxHeartbeats 40000000 in
theorem rmffs01 (l : Launch) (Z : State) (a0 : Array Value) (hw : ∀ d ∈ tables_1, d.before a0 Z = true) (ws : List Jvm.Cond) (a2 : Addr) (p3 : Int32) (h0 : Heap) (n0 : Nat) (Z0 : n0 ≤ h0.size) :
    MetFree l (⟨"com/example/coracle_health/coraclehealth/staff/FormField", "secret", "(Ljava/lang/String;Ljava/lang/String;I)Lcom/example/coracle_health/coraclehealth/staff/FormField;"⟩ : MethodName) (head1 (Jvm.Cond.code (⟨"com/example/coracle_health/coraclehealth/staff/FormField", "secret", "(Ljava/lang/String;Ljava/lang/String;I)Lcom/example/coracle_health/coraclehealth/staff/FormField;"⟩ : MethodName) prog_112_method_3_code 3 (some (.object "com/example/coracle_health/coraclehealth/staff/FormField")) :: ws) ({ frames := 3, cells := 1, slots := 4, locals := 41 } : Room)) (fun a U => a = #[.null, (.ref a2), (.int p3)] ∧ Z.Warmed39 U.vm ∧ U.heap = h0) (fun _ _ _ _ _ => True) (fun _ U o U' => ∃ v L, o = .returned v ∧ Qffs01 Z a2 p3 h0 n0 v U'.heap L ∧ FrameEnd U o U' L ({ frames := 3, cells := 1, slots := 4, locals := 41 } : Room).cells ({ frames := 3, cells := 1, slots := 4, locals := 41 } : Room).slots) := by
  refine MetFree.of_bodySF (plainFor_of_name pn_4) hisR ?_
  intro p e s m args below meth c s₁ Bd hml0 hP hK
  obtain ⟨rfl, hZ, hh⟩ := hP
  have hx := Bd.exec
  have hby := Bd.bytes
  have hml : c.maxLocals = 3 := hml0
  have hown : s.vm.findClass "com/example/coracle_health/coraclehealth/staff/FormField" = some m.cls := findClass_of_methodNamed Bd.named
  have hnm := (name_of_methodNamed Bd.named Bd.method).1
  have hlk : meth.locks = false := BodyLoose.notSynchronized Bd
  have X0 : Stand p l e ({ frames := 3, cells := 1, slots := 4, locals := 41 } : Room) s m #[.null, (.ref a2), (.int p3)] below meth c s₁ [] 0 0 := Stand.of_body Bd
  have e0 : s₁.heap = h0 := by rw [← hh, Bd.state]; rfl
  have N0 := Fr.nil n0
  show OEnds p.tables e below (OGoal (Qffs01 Z a2 p3 h0 n0) s 1 4) (s₁.setTop (entryFrame m #[.null, (.ref a2), (.int p3)] 3))
  refine OEnds.st (fun t k => castTop (ef_ffs01 m a2 p3) k) ?_
  generalize hG : OGoal (Qffs01 Z a2 p3 h0 n0) s 1 4 = G
  have KK0 : Keep h0 h0 [] := Keep.refl h0 []
  show OEnds p.tables e below G (s₁.setTop (mkF m 0 #[.val .null, .val (.ref a2), .val (.int p3)] []))
  obtain ⟨T1001, h1001, X1001, e1001, E1001, A1001, D1001, -, st1001⟩ := newO X0 hx hZ hown (hw _ (List.mem_of_getElem? (i := 38) rfl)) (hw _ (List.mem_of_getElem? (i := 39) rfl)) (hw _ (List.mem_of_getElem? (i := 36) rfl)) e0 (g := (mkF m 0 #[.val .null, .val (.ref a2), .val (.int p3)] [])) rfl (hb hby d8_0) (by decide) (by decide)
  obtain ⟨b1001, g1001⟩ : ∃ z, z = h0.size := ⟨_, rfl⟩
  rw [← g1001] at A1001 D1001 st1001
  refine OEnds.st st1001 ?_
  have ge_b1001 : n0 ≤ b1001 := Nat.le_trans Z0 (Nat.le_of_eq g1001.symm)
  have sz_b1001 : h0.size ≤ b1001 := Nat.le_trans KK0.1 (Nat.le_of_eq g1001.symm)
  have KK1001 : Keep h0 h1001 [] := KK0.ext E1001
  have Z1001 := Nat.le_trans Z0 E1001.1
  have ex_b1001 := A1001
  have f1002 : Fld Z h1001 b1001 "com/example/coracle_health/coraclehealth/staff/FormField" "fieldName" "Ljava/lang/String;" .null := D1001 (Or.inr (hw _ (List.mem_of_getElem? (i := 50) rfl))) (ty := (.object "java/lang/String")) (by decide)
  have f1003 : Fld Z h1001 b1001 "com/example/coracle_health/coraclehealth/staff/FormField" "name" "Ljava/lang/String;" .null := D1001 (Or.inr (hw _ (List.mem_of_getElem? (i := 52) rfl))) (ty := (.object "java/lang/String")) (by decide)
  have f1004 : Fld Z h1001 b1001 "com/example/coracle_health/coraclehealth/staff/FormField" "secret" "Z" (.int (0 : Int32)) := D1001 (Or.inr (hw _ (List.mem_of_getElem? (i := 54) rfl))) (ty := .boolean) (by decide)
  have f1005 : Fld Z h1001 b1001 "com/example/coracle_health/coraclehealth/staff/FormField" "minLength" "I" (.int (0 : Int32)) := D1001 (Or.inr (hw _ (List.mem_of_getElem? (i := 56) rfl))) (ty := .int) (by decide)
  show OEnds p.tables e below G (T1001.setTop (mkF m 3 #[.val .null, .val (.ref a2), .val (.int p3)] [(.ref b1001)]))
  refine OEnds.st (fun _ k => XS.dup X1001.here hx rfl (hb hby d8_3) rfl rfl k) ?_
  show OEnds p.tables e below G (T1001.setTop (mkF m 4 #[.val .null, .val (.ref a2), .val (.int p3)] [(.ref b1001), (.ref b1001)]))
  refine OEnds.st (fun _ k => XS.aloadN X1001.here hx rfl (hb hby d8_4) rfl rfl k) ?_
  show OEnds p.tables e below G (T1001.setTop (mkF m 5 #[.val .null, .val (.ref a2), .val (.int p3)] [.null, (.ref b1001), (.ref b1001)]))
  refine OEnds.st (fun _ k => XS.aloadN X1001.here hx rfl (hb hby d8_5) rfl rfl k) ?_
  show OEnds p.tables e below G (T1001.setTop (mkF m 6 #[.val .null, .val (.ref a2), .val (.int p3)] [(.ref a2), .null, (.ref b1001), (.ref b1001)]))
  refine OEnds.st (fun _ k => XS.iconst X1001.here hx rfl (hb hby d8_6) k) ?_
  show OEnds p.tables e below G (T1001.setTop (mkF m 7 #[.val .null, .val (.ref a2), .val (.int p3)] [(.int (1 : Int32)), (.ref a2), .null, (.ref b1001), (.ref b1001)]))
  refine OEnds.st (fun _ k => XS.iloadN X1001.here hx rfl (hb hby d8_7) rfl k) ?_
  show OEnds p.tables e below G (T1001.setTop (mkF m 8 #[.val .null, .val (.ref a2), .val (.int p3)] [(.int p3), (.int (1 : Int32)), (.ref a2), .null, (.ref b1001), (.ref b1001)]))
  obtain ⟨_, _, ⟨T1006, L1006, k1006c, n1006c⟩, -, X1006, ⟨Lc1006, hQ1006, l1006, y1006, z1006⟩, st1006⟩ := X1001.specialBack hx (y := (⟨"com/example/coracle_health/coraclehealth/staff/FormField", "<init>", "(Ljava/lang/String;Ljava/lang/String;ZI)V"⟩ : MethodName)) rfl hown (mvT hZ (hw _ (List.mem_of_getElem? (i := 40) rfl))) (mvT hZ (hw _ (List.mem_of_getElem? (i := 41) rfl))) (mvT hZ (hw _ (List.mem_of_getElem? (i := 42) rfl))) (by decide) (backOf (W := 1) (rmffi01 l Z a0 hw [] b1001 a2 p3 h1001 n0 Z1001 ex_b1001 f1002 f1003 f1004 f1005 ge_b1001) hZ (hw _ (List.mem_of_getElem? (i := 42) rfl)) (hw _ (List.mem_of_getElem? (i := 36) rfl)) (by decide) (by decide)) (g := (mkF m 8 #[.val .null, .val (.ref a2), .val (.int p3)] [(.int p3), (.int (1 : Int32)), (.ref a2), .null, (.ref b1001), (.ref b1001)])) rfl (by rw [hml]; rfl) (Steps.refl _) (a := b1001) (argsL := [.null, (.ref a2), (.int (1 : Int32)), (.int p3)]) (rest := [(.ref b1001)]) (lenOf pd_6 rfl) rfl (by show 2 * 0 + _ ≤ _; exact Nat.le_of_eq rfl) (hb hby d8_8) (fun _ _ => ⟨rfl, e1001, (by decide : 0 + 1 + 0 ≤ _), (by decide : 0 + 4 + 0 ≤ _)⟩)
  dsimp only [Pt.U, Pt.locs, Pt.cells, Pt.slots] at X1006 l1006 y1006 z1006 st1006 hQ1006
  subst l1006 y1006 z1006
  obtain ⟨rfl, N1006q, p1007, p1008, p1009, p1010, p1011, p1012⟩ := hQ1006
  have N1006 := Fr.app N0 N1006q
  refine OEnds.st (fun _ k => st1006.trans k) ?_
  have f1013 : Exa Z T1006.heap b1001 "com/example/coracle_health/coraclehealth/staff/FormField" := ex_b1001.keep p1007
  have KK1006 : Keep h0 T1006.heap [] := KK1001.trans p1007 (fun x hx => by cases List.mem_singleton.mp hx; exact Or.inr sz_b1001)
  have Z1006 := Nat.le_trans Z1001 p1007.1
  show OEnds p.tables e below G (T1006.setTop (mkF m 11 #[.val .null, .val (.ref a2), .val (.int p3)] [(.ref b1001)]))
  rw [← hG]
  refine OEnds.retA X1006 hx hlk Bd.returns (by first | rfl | exact rfl) rfl (hb hby d8_11) (by decide) (by decide) ?_
  show _
  exact ⟨b1001, rfl, N1006, KK1006, sz_b1001, p1008, p1009, p1010, p1011, p1012⟩
theorem ef_ffi10 (m : MethodId) (a1 : Addr) (a2 : Addr) (p5 : Int32) : entryFrame m #[(.ref a1), (.ref a2), .null, (.int (1 : Int32)), (.int p5)] 5 = mkF m 0 #[.val (.ref a1), .val (.ref a2), .val .null, .val (.int (1 : Int32)), .val (.int p5)] [] := by first | (simp [entryFrame, mkF, argsToLocals, Value.category]; done) | rfl
def Qffi10 (Z : State) (a1 : Addr) (a2 : Addr) (p5 : Int32) (h0 : Heap) (n0 : Nat) (v : Option Value) (h : Heap) (L : List Loc) : Prop := v = none ∧ Fr n0 L ∧ Keep h0 h [a1] ∧ Exa Z h a1 "com/example/coracle_health/coraclehealth/staff/FormField" ∧ Fld Z h a1 "com/example/coracle_health/coraclehealth/staff/FormField" "fieldName" "Ljava/lang/String;" (.ref a2) ∧ Fld Z h a1 "com/example/coracle_health/coraclehealth/staff/FormField" "name" "Ljava/lang/String;" .null ∧ Fld Z h a1 "com/example/coracle_health/coraclehealth/staff/FormField" "secret" "Z" (.int (1 : Int32)) ∧ Fld Z h a1 "com/example/coracle_health/coraclehealth/staff/FormField" "minLength" "I" (.int p5)
set_option maxRecDepth 65536 in
set_option maxHeartbeats 40000000 in
theorem rmffi10 (l : Launch) (Z : State) (a0 : Array Value) (hw : ∀ d ∈ tables_1, d.before a0 Z = true) (ws : List Jvm.Cond) (a1 : Addr) (a2 : Addr) (p5 : Int32) (h0 : Heap) (n0 : Nat) (Z0 : n0 ≤ h0.size) (E : Exa Z h0 a1 "com/example/coracle_health/coraclehealth/staff/FormField") (FfieldName : Fld Z h0 a1 "com/example/coracle_health/coraclehealth/staff/FormField" "fieldName" "Ljava/lang/String;" .null) (Fname : Fld Z h0 a1 "com/example/coracle_health/coraclehealth/staff/FormField" "name" "Ljava/lang/String;" .null) (Fsecret : Fld Z h0 a1 "com/example/coracle_health/coraclehealth/staff/FormField" "secret" "Z" (.int (0 : Int32))) (FminLength : Fld Z h0 a1 "com/example/coracle_health/coraclehealth/staff/FormField" "minLength" "I" (.int (0 : Int32))) (g_a1 : n0 ≤ a1) :
    MetFree l (⟨"com/example/coracle_health/coraclehealth/staff/FormField", "<init>", "(Ljava/lang/String;Ljava/lang/String;ZI)V"⟩ : MethodName) (head1 (Jvm.Cond.code (⟨"com/example/coracle_health/coraclehealth/staff/FormField", "<init>", "(Ljava/lang/String;Ljava/lang/String;ZI)V"⟩ : MethodName) prog_112_method_1_code 5 none :: ws) ({ frames := 2, cells := 0, slots := 0, locals := 24 } : Room)) (fun a U => a = #[(.ref a1), (.ref a2), .null, (.int (1 : Int32)), (.int p5)] ∧ Z.Warmed39 U.vm ∧ U.heap = h0) (fun _ _ _ _ _ => True) (fun _ U o U' => ∃ v L, o = .returned v ∧ Qffi10 Z a1 a2 p5 h0 n0 v U'.heap L ∧ FrameEnd U o U' L ({ frames := 2, cells := 0, slots := 0, locals := 24 } : Room).cells ({ frames := 2, cells := 0, slots := 0, locals := 24 } : Room).slots) := by
  refine MetFree.of_bodySF (plainFor_of_name pn_4) hisR ?_
  intro p e s m args below meth c s₁ Bd hml0 hP hK
  obtain ⟨rfl, hZ, hh⟩ := hP
  have hx := Bd.exec
  have hby := Bd.bytes
  have hml : c.maxLocals = 5 := hml0
  have hown : s.vm.findClass "com/example/coracle_health/coraclehealth/staff/FormField" = some m.cls := findClass_of_methodNamed Bd.named
  have hnm := (name_of_methodNamed Bd.named Bd.method).1
  have hlk : meth.locks = false := BodyLoose.notSynchronized Bd
  have X0 : Stand p l e ({ frames := 2, cells := 0, slots := 0, locals := 24 } : Room) s m #[(.ref a1), (.ref a2), .null, (.int (1 : Int32)), (.int p5)] below meth c s₁ [] 0 0 := Stand.of_body Bd
  have e0 : s₁.heap = h0 := by rw [← hh, Bd.state]; rfl
  have N0 := Fr.nil n0
  show OEnds p.tables e below (OGoal (Qffi10 Z a1 a2 p5 h0 n0) s 0 0) (s₁.setTop (entryFrame m #[(.ref a1), (.ref a2), .null, (.int (1 : Int32)), (.int p5)] 5))
  refine OEnds.st (fun t k => castTop (ef_ffi10 m a1 a2 p5) k) ?_
  generalize hG : OGoal (Qffi10 Z a1 a2 p5 h0 n0) s 0 0 = G
  have KK0 : Keep h0 h0 [a1] := Keep.refl h0 [a1]
  show OEnds p.tables e below G (s₁.setTop (mkF m 0 #[.val (.ref a1), .val (.ref a2), .val .null, .val (.int (1 : Int32)), .val (.int p5)] []))
  refine OEnds.st (fun _ k => XS.aloadN X0.here hx rfl (hb hby d9_0) rfl rfl k) ?_
  show OEnds p.tables e below G (s₁.setTop (mkF m 1 #[.val (.ref a1), .val (.ref a2), .val .null, .val (.int (1 : Int32)), .val (.int p5)] [(.ref a1)]))
  obtain ⟨_, _, ⟨T1001, L1001, k1001c, n1001c⟩, -, X1001, ⟨Lc1001, hQ1001, l1001, y1001, z1001⟩, st1001⟩ := X0.specialBack hx (y := (⟨"java/lang/Record", "<init>", "()V"⟩ : MethodName)) rfl hown (mvT hZ (hw _ (List.mem_of_getElem? (i := 43) rfl))) (mvT hZ (hw _ (List.mem_of_getElem? (i := 44) rfl))) (mvT hZ (hw _ (List.mem_of_getElem? (i := 47) rfl))) (by decide) (backOf (W := 0) (rm10 l Z a0 hw [] a1 h0 n0 Z0 ) hZ (hw _ (List.mem_of_getElem? (i := 47) rfl)) (hw _ (List.mem_of_getElem? (i := 46) rfl)) (by decide) (by decide)) (g := (mkF m 1 #[.val (.ref a1), .val (.ref a2), .val .null, .val (.int (1 : Int32)), .val (.int p5)] [(.ref a1)])) rfl (by rw [hml]; rfl) (Steps.refl _) (a := a1) (argsL := []) (rest := []) (lenOf pd_5 rfl) rfl (by show 2 * 0 + _ ≤ _; exact Nat.le_of_eq rfl) (hb hby d9_1) (fun _ _ => ⟨rfl, e0, (by decide : 0 + 0 ≤ _), (by decide : 0 + 0 ≤ _)⟩)
  dsimp only [Pt.U, Pt.locs, Pt.cells, Pt.slots] at X1001 l1001 y1001 z1001 st1001 hQ1001
  subst l1001 y1001 z1001
  obtain ⟨rfl, N1001q, e1001⟩ := hQ1001
  have N1001 := Fr.app N0 N1001q
  refine OEnds.st (fun _ k => st1001.trans k) ?_
  show OEnds p.tables e below G (T1001.setTop (mkF m 4 #[.val (.ref a1), .val (.ref a2), .val .null, .val (.int (1 : Int32)), .val (.int p5)] []))
  refine OEnds.st (fun _ k => XS.aloadN X1001.here hx rfl (hb hby d9_4) rfl rfl k) ?_
  show OEnds p.tables e below G (T1001.setTop (mkF m 5 #[.val (.ref a1), .val (.ref a2), .val .null, .val (.int (1 : Int32)), .val (.int p5)] [(.ref a1)]))
  refine OEnds.st (fun _ k => XS.aloadN X1001.here hx rfl (hb hby d9_5) rfl rfl k) ?_
  show OEnds p.tables e below G (T1001.setTop (mkF m 6 #[.val (.ref a1), .val (.ref a2), .val .null, .val (.int (1 : Int32)), .val (.int p5)] [(.ref a2), (.ref a1)]))
  obtain ⟨T1002, h1002, X1002, e1002, W1002, st1002⟩ := putF X1001 hx hZ hown (host := "") (Or.inl (hw _ (List.mem_of_getElem? (i := 49) rfl))) Via.refl e1001 FfieldName E (Or.inr ⟨(hw _ (List.mem_of_getElem? (i := 50) rfl)), rfl, hnm⟩) (hw _ (List.mem_of_getElem? (i := 39) rfl)) (ty := (.object "java/lang/String")) (by decide) rfl rfl (g := (mkF m 6 #[.val (.ref a1), .val (.ref a2), .val .null, .val (.int (1 : Int32)), .val (.int p5)] [(.ref a2), (.ref a1)])) rfl rfl (hb hby d9_6)
  refine OEnds.st st1002 ?_
  have f1003 : Fld Z h1002 a1 "com/example/coracle_health/coraclehealth/staff/FormField" "fieldName" "Ljava/lang/String;" (.ref a2) := FfieldName.same W1002
  have f1004 : Exa Z h1002 a1 "com/example/coracle_health/coraclehealth/staff/FormField" := E.wr W1002
  have f1006 : Fld Z h1002 a1 "com/example/coracle_health/coraclehealth/staff/FormField" "name" "Ljava/lang/String;" .null := Fname.other W1002 (Or.inr (slot_ne (Or.inr (hw _ (List.mem_of_getElem? (i := 52) rfl))) (Or.inr (hw _ (List.mem_of_getElem? (i := 50) rfl))) (by decide) (t := (.object "java/lang/String")) (t' := (.object "java/lang/String")) (by decide) (by decide)))
  have f1007 : Fld Z h1002 a1 "com/example/coracle_health/coraclehealth/staff/FormField" "secret" "Z" (.int (0 : Int32)) := Fsecret.other W1002 (Or.inr (slot_ne (Or.inr (hw _ (List.mem_of_getElem? (i := 54) rfl))) (Or.inr (hw _ (List.mem_of_getElem? (i := 50) rfl))) (by decide) (t := .boolean) (t' := (.object "java/lang/String")) (by decide) (by decide)))
  have f1008 : Fld Z h1002 a1 "com/example/coracle_health/coraclehealth/staff/FormField" "minLength" "I" (.int (0 : Int32)) := FminLength.other W1002 (Or.inr (slot_ne (Or.inr (hw _ (List.mem_of_getElem? (i := 56) rfl))) (Or.inr (hw _ (List.mem_of_getElem? (i := 50) rfl))) (by decide) (t := .int) (t' := (.object "java/lang/String")) (by decide) (by decide)))
  have N1002 := Fr.snoc X1002 N1001 g_a1
  have KK1002 : Keep h0 h1002 [a1] := KK0.wr W1002 (Or.inl (List.mem_of_getElem? (i := 0) rfl))
  have Z1002 := Nat.le_trans Z0 (Keep.of_wr W1002).1
  show OEnds p.tables e below G (T1002.setTop (mkF m 9 #[.val (.ref a1), .val (.ref a2), .val .null, .val (.int (1 : Int32)), .val (.int p5)] []))
  refine OEnds.st (fun _ k => XS.aloadN X1002.here hx rfl (hb hby d9_9) rfl rfl k) ?_
  show OEnds p.tables e below G (T1002.setTop (mkF m 10 #[.val (.ref a1), .val (.ref a2), .val .null, .val (.int (1 : Int32)), .val (.int p5)] [(.ref a1)]))
  refine OEnds.st (fun _ k => XS.aloadN X1002.here hx rfl (hb hby d9_10) rfl rfl k) ?_
  show OEnds p.tables e below G (T1002.setTop (mkF m 11 #[.val (.ref a1), .val (.ref a2), .val .null, .val (.int (1 : Int32)), .val (.int p5)] [.null, (.ref a1)]))
  obtain ⟨T1009, h1009, X1009, e1009, W1009, st1009⟩ := putF X1002 hx hZ hown (host := "") (Or.inl (hw _ (List.mem_of_getElem? (i := 51) rfl))) Via.refl e1002 f1006 f1004 (Or.inr ⟨(hw _ (List.mem_of_getElem? (i := 52) rfl)), rfl, hnm⟩) (hw _ (List.mem_of_getElem? (i := 39) rfl)) (ty := (.object "java/lang/String")) (by decide) rfl rfl (g := (mkF m 11 #[.val (.ref a1), .val (.ref a2), .val .null, .val (.int (1 : Int32)), .val (.int p5)] [.null, (.ref a1)])) rfl rfl (hb hby d9_11)
  refine OEnds.st st1009 ?_
  have f1010 : Fld Z h1009 a1 "com/example/coracle_health/coraclehealth/staff/FormField" "name" "Ljava/lang/String;" .null := f1006.same W1009
  have f1011 : Exa Z h1009 a1 "com/example/coracle_health/coraclehealth/staff/FormField" := f1004.wr W1009
  have f1013 : Fld Z h1009 a1 "com/example/coracle_health/coraclehealth/staff/FormField" "secret" "Z" (.int (0 : Int32)) := f1007.other W1009 (Or.inr (slot_ne (Or.inr (hw _ (List.mem_of_getElem? (i := 54) rfl))) (Or.inr (hw _ (List.mem_of_getElem? (i := 52) rfl))) (by decide) (t := .boolean) (t' := (.object "java/lang/String")) (by decide) (by decide)))
  have f1014 : Fld Z h1009 a1 "com/example/coracle_health/coraclehealth/staff/FormField" "minLength" "I" (.int (0 : Int32)) := f1008.other W1009 (Or.inr (slot_ne (Or.inr (hw _ (List.mem_of_getElem? (i := 56) rfl))) (Or.inr (hw _ (List.mem_of_getElem? (i := 52) rfl))) (by decide) (t := .int) (t' := (.object "java/lang/String")) (by decide) (by decide)))
  have f1015 : Fld Z h1009 a1 "com/example/coracle_health/coraclehealth/staff/FormField" "fieldName" "Ljava/lang/String;" (.ref a2) := f1003.other W1009 (Or.inr (slot_ne (Or.inr (hw _ (List.mem_of_getElem? (i := 50) rfl))) (Or.inr (hw _ (List.mem_of_getElem? (i := 52) rfl))) (by decide) (t := (.object "java/lang/String")) (t' := (.object "java/lang/String")) (by decide) (by decide)))
  have N1009 := Fr.snoc X1009 N1002 g_a1
  have KK1009 : Keep h0 h1009 [a1] := KK1002.wr W1009 (Or.inl (List.mem_of_getElem? (i := 0) rfl))
  have Z1009 := Nat.le_trans Z1002 (Keep.of_wr W1009).1
  show OEnds p.tables e below G (T1009.setTop (mkF m 14 #[.val (.ref a1), .val (.ref a2), .val .null, .val (.int (1 : Int32)), .val (.int p5)] []))
  refine OEnds.st (fun _ k => XS.aloadN X1009.here hx rfl (hb hby d9_14) rfl rfl k) ?_
  show OEnds p.tables e below G (T1009.setTop (mkF m 15 #[.val (.ref a1), .val (.ref a2), .val .null, .val (.int (1 : Int32)), .val (.int p5)] [(.ref a1)]))
  refine OEnds.st (fun _ k => XS.iloadN X1009.here hx rfl (hb hby d9_15) rfl k) ?_
  show OEnds p.tables e below G (T1009.setTop (mkF m 16 #[.val (.ref a1), .val (.ref a2), .val .null, .val (.int (1 : Int32)), .val (.int p5)] [(.int (1 : Int32)), (.ref a1)]))
  obtain ⟨T1016, h1016, X1016, e1016, W1016, st1016⟩ := putFN X1009 hx hZ hown (hw _ (List.mem_of_getElem? (i := 53) rfl)) Via.refl e1009 f1013 f1011 (Or.inr ⟨(hw _ (List.mem_of_getElem? (i := 54) rfl)), rfl, hnm⟩) (hw _ (List.mem_of_getElem? (i := 39) rfl)) (ty := .boolean) (v' := (.int (1 : Int32))) (by decide) rfl (by decide) (g := (mkF m 16 #[.val (.ref a1), .val (.ref a2), .val .null, .val (.int (1 : Int32)), .val (.int p5)] [(.int (1 : Int32)), (.ref a1)])) rfl rfl (hb hby d9_16)
  refine OEnds.st st1016 ?_
  have f1017 : Fld Z h1016 a1 "com/example/coracle_health/coraclehealth/staff/FormField" "secret" "Z" (.int (1 : Int32)) := f1013.same W1016
  have f1018 : Exa Z h1016 a1 "com/example/coracle_health/coraclehealth/staff/FormField" := f1011.wr W1016
  have f1020 : Fld Z h1016 a1 "com/example/coracle_health/coraclehealth/staff/FormField" "minLength" "I" (.int (0 : Int32)) := f1014.other W1016 (Or.inr (slot_ne (Or.inr (hw _ (List.mem_of_getElem? (i := 56) rfl))) (Or.inr (hw _ (List.mem_of_getElem? (i := 54) rfl))) (by decide) (t := .int) (t' := .boolean) (by decide) (by decide)))
  have f1021 : Fld Z h1016 a1 "com/example/coracle_health/coraclehealth/staff/FormField" "fieldName" "Ljava/lang/String;" (.ref a2) := f1015.other W1016 (Or.inr (slot_ne (Or.inr (hw _ (List.mem_of_getElem? (i := 50) rfl))) (Or.inr (hw _ (List.mem_of_getElem? (i := 54) rfl))) (by decide) (t := (.object "java/lang/String")) (t' := .boolean) (by decide) (by decide)))
  have f1022 : Fld Z h1016 a1 "com/example/coracle_health/coraclehealth/staff/FormField" "name" "Ljava/lang/String;" .null := f1010.other W1016 (Or.inr (slot_ne (Or.inr (hw _ (List.mem_of_getElem? (i := 52) rfl))) (Or.inr (hw _ (List.mem_of_getElem? (i := 54) rfl))) (by decide) (t := (.object "java/lang/String")) (t' := .boolean) (by decide) (by decide)))
  have N1016 := Fr.snoc X1016 N1009 g_a1
  have KK1016 : Keep h0 h1016 [a1] := KK1009.wr W1016 (Or.inl (List.mem_of_getElem? (i := 0) rfl))
  have Z1016 := Nat.le_trans Z1009 (Keep.of_wr W1016).1
  show OEnds p.tables e below G (T1016.setTop (mkF m 19 #[.val (.ref a1), .val (.ref a2), .val .null, .val (.int (1 : Int32)), .val (.int p5)] []))
  refine OEnds.st (fun _ k => XS.aloadN X1016.here hx rfl (hb hby d9_19) rfl rfl k) ?_
  show OEnds p.tables e below G (T1016.setTop (mkF m 20 #[.val (.ref a1), .val (.ref a2), .val .null, .val (.int (1 : Int32)), .val (.int p5)] [(.ref a1)]))
  refine OEnds.st (fun _ k => XS.iload X1016.here hx rfl (hb hby d9_20) rfl k) ?_
  show OEnds p.tables e below G (T1016.setTop (mkF m 22 #[.val (.ref a1), .val (.ref a2), .val .null, .val (.int (1 : Int32)), .val (.int p5)] [(.int p5), (.ref a1)]))
  obtain ⟨T1023, h1023, X1023, e1023, W1023, st1023⟩ := putF X1016 hx hZ hown (host := "") (Or.inl (hw _ (List.mem_of_getElem? (i := 55) rfl))) Via.refl e1016 f1020 f1018 (Or.inr ⟨(hw _ (List.mem_of_getElem? (i := 56) rfl)), rfl, hnm⟩) (hw _ (List.mem_of_getElem? (i := 39) rfl)) (ty := .int) (by decide) rfl rfl (g := (mkF m 22 #[.val (.ref a1), .val (.ref a2), .val .null, .val (.int (1 : Int32)), .val (.int p5)] [(.int p5), (.ref a1)])) rfl rfl (hb hby d9_22)
  refine OEnds.st st1023 ?_
  have f1024 : Fld Z h1023 a1 "com/example/coracle_health/coraclehealth/staff/FormField" "minLength" "I" (.int p5) := f1020.same W1023
  have f1025 : Exa Z h1023 a1 "com/example/coracle_health/coraclehealth/staff/FormField" := f1018.wr W1023
  have f1027 : Fld Z h1023 a1 "com/example/coracle_health/coraclehealth/staff/FormField" "fieldName" "Ljava/lang/String;" (.ref a2) := f1021.other W1023 (Or.inr (slot_ne (Or.inr (hw _ (List.mem_of_getElem? (i := 50) rfl))) (Or.inr (hw _ (List.mem_of_getElem? (i := 56) rfl))) (by decide) (t := (.object "java/lang/String")) (t' := .int) (by decide) (by decide)))
  have f1028 : Fld Z h1023 a1 "com/example/coracle_health/coraclehealth/staff/FormField" "name" "Ljava/lang/String;" .null := f1022.other W1023 (Or.inr (slot_ne (Or.inr (hw _ (List.mem_of_getElem? (i := 52) rfl))) (Or.inr (hw _ (List.mem_of_getElem? (i := 56) rfl))) (by decide) (t := (.object "java/lang/String")) (t' := .int) (by decide) (by decide)))
  have f1029 : Fld Z h1023 a1 "com/example/coracle_health/coraclehealth/staff/FormField" "secret" "Z" (.int (1 : Int32)) := f1017.other W1023 (Or.inr (slot_ne (Or.inr (hw _ (List.mem_of_getElem? (i := 54) rfl))) (Or.inr (hw _ (List.mem_of_getElem? (i := 56) rfl))) (by decide) (t := .boolean) (t' := .int) (by decide) (by decide)))
  have N1023 := Fr.snoc X1023 N1016 g_a1
  have KK1023 : Keep h0 h1023 [a1] := KK1016.wr W1023 (Or.inl (List.mem_of_getElem? (i := 0) rfl))
  have Z1023 := Nat.le_trans Z1016 (Keep.of_wr W1023).1
  show OEnds p.tables e below G (T1023.setTop (mkF m 25 #[.val (.ref a1), .val (.ref a2), .val .null, .val (.int (1 : Int32)), .val (.int p5)] []))
  rw [← hG]
  refine OEnds.retV X1023 hx hlk Bd.returns (hb hby d9_25) (by decide) (by decide) ?_
  rw [e1023]
  exact ⟨rfl, N1023, KK1023, f1025, f1027, f1028, f1029, f1024⟩
theorem ef_ffs10 (m : MethodId) (a1 : Addr) (p3 : Int32) : entryFrame m #[(.ref a1), .null, (.int p3)] 3 = mkF m 0 #[.val (.ref a1), .val .null, .val (.int p3)] [] := by first | (simp [entryFrame, mkF, argsToLocals, Value.category]; done) | rfl
def Qffs10 (Z : State) (a1 : Addr) (p3 : Int32) (h0 : Heap) (n0 : Nat) (v : Option Value) (h : Heap) (L : List Loc) : Prop := ∃ (b : Addr), v = some (.ref b) ∧ Fr n0 L ∧ Keep h0 h [] ∧ h0.size ≤ b ∧ Exa Z h b "com/example/coracle_health/coraclehealth/staff/FormField" ∧ Fld Z h b "com/example/coracle_health/coraclehealth/staff/FormField" "fieldName" "Ljava/lang/String;" (.ref a1) ∧ Fld Z h b "com/example/coracle_health/coraclehealth/staff/FormField" "name" "Ljava/lang/String;" .null ∧ Fld Z h b "com/example/coracle_health/coraclehealth/staff/FormField" "secret" "Z" (.int (1 : Int32)) ∧ Fld Z h b "com/example/coracle_health/coraclehealth/staff/FormField" "minLength" "I" (.int p3)
set_option maxRecDepth 65536 in
set_option maxHeartbeats 40000000 in
theorem rmffs10 (l : Launch) (Z : State) (a0 : Array Value) (hw : ∀ d ∈ tables_1, d.before a0 Z = true) (ws : List Jvm.Cond) (a1 : Addr) (p3 : Int32) (h0 : Heap) (n0 : Nat) (Z0 : n0 ≤ h0.size) :
    MetFree l (⟨"com/example/coracle_health/coraclehealth/staff/FormField", "secret", "(Ljava/lang/String;Ljava/lang/String;I)Lcom/example/coracle_health/coraclehealth/staff/FormField;"⟩ : MethodName) (head1 (Jvm.Cond.code (⟨"com/example/coracle_health/coraclehealth/staff/FormField", "secret", "(Ljava/lang/String;Ljava/lang/String;I)Lcom/example/coracle_health/coraclehealth/staff/FormField;"⟩ : MethodName) prog_112_method_3_code 3 (some (.object "com/example/coracle_health/coraclehealth/staff/FormField")) :: ws) ({ frames := 3, cells := 1, slots := 4, locals := 41 } : Room)) (fun a U => a = #[(.ref a1), .null, (.int p3)] ∧ Z.Warmed39 U.vm ∧ U.heap = h0) (fun _ _ _ _ _ => True) (fun _ U o U' => ∃ v L, o = .returned v ∧ Qffs10 Z a1 p3 h0 n0 v U'.heap L ∧ FrameEnd U o U' L ({ frames := 3, cells := 1, slots := 4, locals := 41 } : Room).cells ({ frames := 3, cells := 1, slots := 4, locals := 41 } : Room).slots) := by
  refine MetFree.of_bodySF (plainFor_of_name pn_4) hisR ?_
  intro p e s m args below meth c s₁ Bd hml0 hP hK
  obtain ⟨rfl, hZ, hh⟩ := hP
  have hx := Bd.exec
  have hby := Bd.bytes
  have hml : c.maxLocals = 3 := hml0
  have hown : s.vm.findClass "com/example/coracle_health/coraclehealth/staff/FormField" = some m.cls := findClass_of_methodNamed Bd.named
  have hnm := (name_of_methodNamed Bd.named Bd.method).1
  have hlk : meth.locks = false := BodyLoose.notSynchronized Bd
  have X0 : Stand p l e ({ frames := 3, cells := 1, slots := 4, locals := 41 } : Room) s m #[(.ref a1), .null, (.int p3)] below meth c s₁ [] 0 0 := Stand.of_body Bd
  have e0 : s₁.heap = h0 := by rw [← hh, Bd.state]; rfl
  have N0 := Fr.nil n0
  show OEnds p.tables e below (OGoal (Qffs10 Z a1 p3 h0 n0) s 1 4) (s₁.setTop (entryFrame m #[(.ref a1), .null, (.int p3)] 3))
  refine OEnds.st (fun t k => castTop (ef_ffs10 m a1 p3) k) ?_
  generalize hG : OGoal (Qffs10 Z a1 p3 h0 n0) s 1 4 = G
  have KK0 : Keep h0 h0 [] := Keep.refl h0 []
  show OEnds p.tables e below G (s₁.setTop (mkF m 0 #[.val (.ref a1), .val .null, .val (.int p3)] []))
  obtain ⟨T1001, h1001, X1001, e1001, E1001, A1001, D1001, -, st1001⟩ := newO X0 hx hZ hown (hw _ (List.mem_of_getElem? (i := 38) rfl)) (hw _ (List.mem_of_getElem? (i := 39) rfl)) (hw _ (List.mem_of_getElem? (i := 36) rfl)) e0 (g := (mkF m 0 #[.val (.ref a1), .val .null, .val (.int p3)] [])) rfl (hb hby d8_0) (by decide) (by decide)
  obtain ⟨b1001, g1001⟩ : ∃ z, z = h0.size := ⟨_, rfl⟩
  rw [← g1001] at A1001 D1001 st1001
  refine OEnds.st st1001 ?_
  have ge_b1001 : n0 ≤ b1001 := Nat.le_trans Z0 (Nat.le_of_eq g1001.symm)
  have sz_b1001 : h0.size ≤ b1001 := Nat.le_trans KK0.1 (Nat.le_of_eq g1001.symm)
  have KK1001 : Keep h0 h1001 [] := KK0.ext E1001
  have Z1001 := Nat.le_trans Z0 E1001.1
  have ex_b1001 := A1001
  have f1002 : Fld Z h1001 b1001 "com/example/coracle_health/coraclehealth/staff/FormField" "fieldName" "Ljava/lang/String;" .null := D1001 (Or.inr (hw _ (List.mem_of_getElem? (i := 50) rfl))) (ty := (.object "java/lang/String")) (by decide)
  have f1003 : Fld Z h1001 b1001 "com/example/coracle_health/coraclehealth/staff/FormField" "name" "Ljava/lang/String;" .null := D1001 (Or.inr (hw _ (List.mem_of_getElem? (i := 52) rfl))) (ty := (.object "java/lang/String")) (by decide)
  have f1004 : Fld Z h1001 b1001 "com/example/coracle_health/coraclehealth/staff/FormField" "secret" "Z" (.int (0 : Int32)) := D1001 (Or.inr (hw _ (List.mem_of_getElem? (i := 54) rfl))) (ty := .boolean) (by decide)
  have f1005 : Fld Z h1001 b1001 "com/example/coracle_health/coraclehealth/staff/FormField" "minLength" "I" (.int (0 : Int32)) := D1001 (Or.inr (hw _ (List.mem_of_getElem? (i := 56) rfl))) (ty := .int) (by decide)
  show OEnds p.tables e below G (T1001.setTop (mkF m 3 #[.val (.ref a1), .val .null, .val (.int p3)] [(.ref b1001)]))
  refine OEnds.st (fun _ k => XS.dup X1001.here hx rfl (hb hby d8_3) rfl rfl k) ?_
  show OEnds p.tables e below G (T1001.setTop (mkF m 4 #[.val (.ref a1), .val .null, .val (.int p3)] [(.ref b1001), (.ref b1001)]))
  refine OEnds.st (fun _ k => XS.aloadN X1001.here hx rfl (hb hby d8_4) rfl rfl k) ?_
  show OEnds p.tables e below G (T1001.setTop (mkF m 5 #[.val (.ref a1), .val .null, .val (.int p3)] [(.ref a1), (.ref b1001), (.ref b1001)]))
  refine OEnds.st (fun _ k => XS.aloadN X1001.here hx rfl (hb hby d8_5) rfl rfl k) ?_
  show OEnds p.tables e below G (T1001.setTop (mkF m 6 #[.val (.ref a1), .val .null, .val (.int p3)] [.null, (.ref a1), (.ref b1001), (.ref b1001)]))
  refine OEnds.st (fun _ k => XS.iconst X1001.here hx rfl (hb hby d8_6) k) ?_
  show OEnds p.tables e below G (T1001.setTop (mkF m 7 #[.val (.ref a1), .val .null, .val (.int p3)] [(.int (1 : Int32)), .null, (.ref a1), (.ref b1001), (.ref b1001)]))
  refine OEnds.st (fun _ k => XS.iloadN X1001.here hx rfl (hb hby d8_7) rfl k) ?_
  show OEnds p.tables e below G (T1001.setTop (mkF m 8 #[.val (.ref a1), .val .null, .val (.int p3)] [(.int p3), (.int (1 : Int32)), .null, (.ref a1), (.ref b1001), (.ref b1001)]))
  obtain ⟨_, _, ⟨T1006, L1006, k1006c, n1006c⟩, -, X1006, ⟨Lc1006, hQ1006, l1006, y1006, z1006⟩, st1006⟩ := X1001.specialBack hx (y := (⟨"com/example/coracle_health/coraclehealth/staff/FormField", "<init>", "(Ljava/lang/String;Ljava/lang/String;ZI)V"⟩ : MethodName)) rfl hown (mvT hZ (hw _ (List.mem_of_getElem? (i := 40) rfl))) (mvT hZ (hw _ (List.mem_of_getElem? (i := 41) rfl))) (mvT hZ (hw _ (List.mem_of_getElem? (i := 42) rfl))) (by decide) (backOf (W := 1) (rmffi10 l Z a0 hw [] b1001 a1 p3 h1001 n0 Z1001 ex_b1001 f1002 f1003 f1004 f1005 ge_b1001) hZ (hw _ (List.mem_of_getElem? (i := 42) rfl)) (hw _ (List.mem_of_getElem? (i := 36) rfl)) (by decide) (by decide)) (g := (mkF m 8 #[.val (.ref a1), .val .null, .val (.int p3)] [(.int p3), (.int (1 : Int32)), .null, (.ref a1), (.ref b1001), (.ref b1001)])) rfl (by rw [hml]; rfl) (Steps.refl _) (a := b1001) (argsL := [(.ref a1), .null, (.int (1 : Int32)), (.int p3)]) (rest := [(.ref b1001)]) (lenOf pd_6 rfl) rfl (by show 2 * 0 + _ ≤ _; exact Nat.le_of_eq rfl) (hb hby d8_8) (fun _ _ => ⟨rfl, e1001, (by decide : 0 + 1 + 0 ≤ _), (by decide : 0 + 4 + 0 ≤ _)⟩)
  dsimp only [Pt.U, Pt.locs, Pt.cells, Pt.slots] at X1006 l1006 y1006 z1006 st1006 hQ1006
  subst l1006 y1006 z1006
  obtain ⟨rfl, N1006q, p1007, p1008, p1009, p1010, p1011, p1012⟩ := hQ1006
  have N1006 := Fr.app N0 N1006q
  refine OEnds.st (fun _ k => st1006.trans k) ?_
  have f1013 : Exa Z T1006.heap b1001 "com/example/coracle_health/coraclehealth/staff/FormField" := ex_b1001.keep p1007
  have KK1006 : Keep h0 T1006.heap [] := KK1001.trans p1007 (fun x hx => by cases List.mem_singleton.mp hx; exact Or.inr sz_b1001)
  have Z1006 := Nat.le_trans Z1001 p1007.1
  show OEnds p.tables e below G (T1006.setTop (mkF m 11 #[.val (.ref a1), .val .null, .val (.int p3)] [(.ref b1001)]))
  rw [← hG]
  refine OEnds.retA X1006 hx hlk Bd.returns (by first | rfl | exact rfl) rfl (hb hby d8_11) (by decide) (by decide) ?_
  show _
  exact ⟨b1001, rfl, N1006, KK1006, sz_b1001, p1008, p1009, p1010, p1011, p1012⟩
theorem ef_ffi11 (m : MethodId) (a1 : Addr) (a2 : Addr) (a3 : Addr) (p5 : Int32) : entryFrame m #[(.ref a1), (.ref a2), (.ref a3), (.int (1 : Int32)), (.int p5)] 5 = mkF m 0 #[.val (.ref a1), .val (.ref a2), .val (.ref a3), .val (.int (1 : Int32)), .val (.int p5)] [] := by first | (simp [entryFrame, mkF, argsToLocals, Value.category]; done) | rfl
def Qffi11 (Z : State) (a1 : Addr) (a2 : Addr) (a3 : Addr) (p5 : Int32) (h0 : Heap) (n0 : Nat) (v : Option Value) (h : Heap) (L : List Loc) : Prop := v = none ∧ Fr n0 L ∧ Keep h0 h [a1] ∧ Exa Z h a1 "com/example/coracle_health/coraclehealth/staff/FormField" ∧ Fld Z h a1 "com/example/coracle_health/coraclehealth/staff/FormField" "fieldName" "Ljava/lang/String;" (.ref a2) ∧ Fld Z h a1 "com/example/coracle_health/coraclehealth/staff/FormField" "name" "Ljava/lang/String;" (.ref a3) ∧ Fld Z h a1 "com/example/coracle_health/coraclehealth/staff/FormField" "secret" "Z" (.int (1 : Int32)) ∧ Fld Z h a1 "com/example/coracle_health/coraclehealth/staff/FormField" "minLength" "I" (.int p5)
set_option maxRecDepth 65536 in
set_option maxHeartbeats 40000000 in
theorem rmffi11 (l : Launch) (Z : State) (a0 : Array Value) (hw : ∀ d ∈ tables_1, d.before a0 Z = true) (ws : List Jvm.Cond) (a1 : Addr) (a2 : Addr) (a3 : Addr) (p5 : Int32) (h0 : Heap) (n0 : Nat) (Z0 : n0 ≤ h0.size) (E : Exa Z h0 a1 "com/example/coracle_health/coraclehealth/staff/FormField") (FfieldName : Fld Z h0 a1 "com/example/coracle_health/coraclehealth/staff/FormField" "fieldName" "Ljava/lang/String;" .null) (Fname : Fld Z h0 a1 "com/example/coracle_health/coraclehealth/staff/FormField" "name" "Ljava/lang/String;" .null) (Fsecret : Fld Z h0 a1 "com/example/coracle_health/coraclehealth/staff/FormField" "secret" "Z" (.int (0 : Int32))) (FminLength : Fld Z h0 a1 "com/example/coracle_health/coraclehealth/staff/FormField" "minLength" "I" (.int (0 : Int32))) (g_a1 : n0 ≤ a1) :
    MetFree l (⟨"com/example/coracle_health/coraclehealth/staff/FormField", "<init>", "(Ljava/lang/String;Ljava/lang/String;ZI)V"⟩ : MethodName) (head1 (Jvm.Cond.code (⟨"com/example/coracle_health/coraclehealth/staff/FormField", "<init>", "(Ljava/lang/String;Ljava/lang/String;ZI)V"⟩ : MethodName) prog_112_method_1_code 5 none :: ws) ({ frames := 2, cells := 0, slots := 0, locals := 24 } : Room)) (fun a U => a = #[(.ref a1), (.ref a2), (.ref a3), (.int (1 : Int32)), (.int p5)] ∧ Z.Warmed39 U.vm ∧ U.heap = h0) (fun _ _ _ _ _ => True) (fun _ U o U' => ∃ v L, o = .returned v ∧ Qffi11 Z a1 a2 a3 p5 h0 n0 v U'.heap L ∧ FrameEnd U o U' L ({ frames := 2, cells := 0, slots := 0, locals := 24 } : Room).cells ({ frames := 2, cells := 0, slots := 0, locals := 24 } : Room).slots) := by
  refine MetFree.of_bodySF (plainFor_of_name pn_4) hisR ?_
  intro p e s m args below meth c s₁ Bd hml0 hP hK
  obtain ⟨rfl, hZ, hh⟩ := hP
  have hx := Bd.exec
  have hby := Bd.bytes
  have hml : c.maxLocals = 5 := hml0
  have hown : s.vm.findClass "com/example/coracle_health/coraclehealth/staff/FormField" = some m.cls := findClass_of_methodNamed Bd.named
  have hnm := (name_of_methodNamed Bd.named Bd.method).1
  have hlk : meth.locks = false := BodyLoose.notSynchronized Bd
  have X0 : Stand p l e ({ frames := 2, cells := 0, slots := 0, locals := 24 } : Room) s m #[(.ref a1), (.ref a2), (.ref a3), (.int (1 : Int32)), (.int p5)] below meth c s₁ [] 0 0 := Stand.of_body Bd
  have e0 : s₁.heap = h0 := by rw [← hh, Bd.state]; rfl
  have N0 := Fr.nil n0
  show OEnds p.tables e below (OGoal (Qffi11 Z a1 a2 a3 p5 h0 n0) s 0 0) (s₁.setTop (entryFrame m #[(.ref a1), (.ref a2), (.ref a3), (.int (1 : Int32)), (.int p5)] 5))
  refine OEnds.st (fun t k => castTop (ef_ffi11 m a1 a2 a3 p5) k) ?_
  generalize hG : OGoal (Qffi11 Z a1 a2 a3 p5 h0 n0) s 0 0 = G
  have KK0 : Keep h0 h0 [a1] := Keep.refl h0 [a1]
  show OEnds p.tables e below G (s₁.setTop (mkF m 0 #[.val (.ref a1), .val (.ref a2), .val (.ref a3), .val (.int (1 : Int32)), .val (.int p5)] []))
  refine OEnds.st (fun _ k => XS.aloadN X0.here hx rfl (hb hby d9_0) rfl rfl k) ?_
  show OEnds p.tables e below G (s₁.setTop (mkF m 1 #[.val (.ref a1), .val (.ref a2), .val (.ref a3), .val (.int (1 : Int32)), .val (.int p5)] [(.ref a1)]))
  obtain ⟨_, _, ⟨T1001, L1001, k1001c, n1001c⟩, -, X1001, ⟨Lc1001, hQ1001, l1001, y1001, z1001⟩, st1001⟩ := X0.specialBack hx (y := (⟨"java/lang/Record", "<init>", "()V"⟩ : MethodName)) rfl hown (mvT hZ (hw _ (List.mem_of_getElem? (i := 43) rfl))) (mvT hZ (hw _ (List.mem_of_getElem? (i := 44) rfl))) (mvT hZ (hw _ (List.mem_of_getElem? (i := 47) rfl))) (by decide) (backOf (W := 0) (rm10 l Z a0 hw [] a1 h0 n0 Z0 ) hZ (hw _ (List.mem_of_getElem? (i := 47) rfl)) (hw _ (List.mem_of_getElem? (i := 46) rfl)) (by decide) (by decide)) (g := (mkF m 1 #[.val (.ref a1), .val (.ref a2), .val (.ref a3), .val (.int (1 : Int32)), .val (.int p5)] [(.ref a1)])) rfl (by rw [hml]; rfl) (Steps.refl _) (a := a1) (argsL := []) (rest := []) (lenOf pd_5 rfl) rfl (by show 2 * 0 + _ ≤ _; exact Nat.le_of_eq rfl) (hb hby d9_1) (fun _ _ => ⟨rfl, e0, (by decide : 0 + 0 ≤ _), (by decide : 0 + 0 ≤ _)⟩)
  dsimp only [Pt.U, Pt.locs, Pt.cells, Pt.slots] at X1001 l1001 y1001 z1001 st1001 hQ1001
  subst l1001 y1001 z1001
  obtain ⟨rfl, N1001q, e1001⟩ := hQ1001
  have N1001 := Fr.app N0 N1001q
  refine OEnds.st (fun _ k => st1001.trans k) ?_
  show OEnds p.tables e below G (T1001.setTop (mkF m 4 #[.val (.ref a1), .val (.ref a2), .val (.ref a3), .val (.int (1 : Int32)), .val (.int p5)] []))
  refine OEnds.st (fun _ k => XS.aloadN X1001.here hx rfl (hb hby d9_4) rfl rfl k) ?_
  show OEnds p.tables e below G (T1001.setTop (mkF m 5 #[.val (.ref a1), .val (.ref a2), .val (.ref a3), .val (.int (1 : Int32)), .val (.int p5)] [(.ref a1)]))
  refine OEnds.st (fun _ k => XS.aloadN X1001.here hx rfl (hb hby d9_5) rfl rfl k) ?_
  show OEnds p.tables e below G (T1001.setTop (mkF m 6 #[.val (.ref a1), .val (.ref a2), .val (.ref a3), .val (.int (1 : Int32)), .val (.int p5)] [(.ref a2), (.ref a1)]))
  obtain ⟨T1002, h1002, X1002, e1002, W1002, st1002⟩ := putF X1001 hx hZ hown (host := "") (Or.inl (hw _ (List.mem_of_getElem? (i := 49) rfl))) Via.refl e1001 FfieldName E (Or.inr ⟨(hw _ (List.mem_of_getElem? (i := 50) rfl)), rfl, hnm⟩) (hw _ (List.mem_of_getElem? (i := 39) rfl)) (ty := (.object "java/lang/String")) (by decide) rfl rfl (g := (mkF m 6 #[.val (.ref a1), .val (.ref a2), .val (.ref a3), .val (.int (1 : Int32)), .val (.int p5)] [(.ref a2), (.ref a1)])) rfl rfl (hb hby d9_6)
  refine OEnds.st st1002 ?_
  have f1003 : Fld Z h1002 a1 "com/example/coracle_health/coraclehealth/staff/FormField" "fieldName" "Ljava/lang/String;" (.ref a2) := FfieldName.same W1002
  have f1004 : Exa Z h1002 a1 "com/example/coracle_health/coraclehealth/staff/FormField" := E.wr W1002
  have f1006 : Fld Z h1002 a1 "com/example/coracle_health/coraclehealth/staff/FormField" "name" "Ljava/lang/String;" .null := Fname.other W1002 (Or.inr (slot_ne (Or.inr (hw _ (List.mem_of_getElem? (i := 52) rfl))) (Or.inr (hw _ (List.mem_of_getElem? (i := 50) rfl))) (by decide) (t := (.object "java/lang/String")) (t' := (.object "java/lang/String")) (by decide) (by decide)))
  have f1007 : Fld Z h1002 a1 "com/example/coracle_health/coraclehealth/staff/FormField" "secret" "Z" (.int (0 : Int32)) := Fsecret.other W1002 (Or.inr (slot_ne (Or.inr (hw _ (List.mem_of_getElem? (i := 54) rfl))) (Or.inr (hw _ (List.mem_of_getElem? (i := 50) rfl))) (by decide) (t := .boolean) (t' := (.object "java/lang/String")) (by decide) (by decide)))
  have f1008 : Fld Z h1002 a1 "com/example/coracle_health/coraclehealth/staff/FormField" "minLength" "I" (.int (0 : Int32)) := FminLength.other W1002 (Or.inr (slot_ne (Or.inr (hw _ (List.mem_of_getElem? (i := 56) rfl))) (Or.inr (hw _ (List.mem_of_getElem? (i := 50) rfl))) (by decide) (t := .int) (t' := (.object "java/lang/String")) (by decide) (by decide)))
  have N1002 := Fr.snoc X1002 N1001 g_a1
  have KK1002 : Keep h0 h1002 [a1] := KK0.wr W1002 (Or.inl (List.mem_of_getElem? (i := 0) rfl))
  have Z1002 := Nat.le_trans Z0 (Keep.of_wr W1002).1
  show OEnds p.tables e below G (T1002.setTop (mkF m 9 #[.val (.ref a1), .val (.ref a2), .val (.ref a3), .val (.int (1 : Int32)), .val (.int p5)] []))
  refine OEnds.st (fun _ k => XS.aloadN X1002.here hx rfl (hb hby d9_9) rfl rfl k) ?_
  show OEnds p.tables e below G (T1002.setTop (mkF m 10 #[.val (.ref a1), .val (.ref a2), .val (.ref a3), .val (.int (1 : Int32)), .val (.int p5)] [(.ref a1)]))
  refine OEnds.st (fun _ k => XS.aloadN X1002.here hx rfl (hb hby d9_10) rfl rfl k) ?_
  show OEnds p.tables e below G (T1002.setTop (mkF m 11 #[.val (.ref a1), .val (.ref a2), .val (.ref a3), .val (.int (1 : Int32)), .val (.int p5)] [(.ref a3), (.ref a1)]))
  obtain ⟨T1009, h1009, X1009, e1009, W1009, st1009⟩ := putF X1002 hx hZ hown (host := "") (Or.inl (hw _ (List.mem_of_getElem? (i := 51) rfl))) Via.refl e1002 f1006 f1004 (Or.inr ⟨(hw _ (List.mem_of_getElem? (i := 52) rfl)), rfl, hnm⟩) (hw _ (List.mem_of_getElem? (i := 39) rfl)) (ty := (.object "java/lang/String")) (by decide) rfl rfl (g := (mkF m 11 #[.val (.ref a1), .val (.ref a2), .val (.ref a3), .val (.int (1 : Int32)), .val (.int p5)] [(.ref a3), (.ref a1)])) rfl rfl (hb hby d9_11)
  refine OEnds.st st1009 ?_
  have f1010 : Fld Z h1009 a1 "com/example/coracle_health/coraclehealth/staff/FormField" "name" "Ljava/lang/String;" (.ref a3) := f1006.same W1009
  have f1011 : Exa Z h1009 a1 "com/example/coracle_health/coraclehealth/staff/FormField" := f1004.wr W1009
  have f1013 : Fld Z h1009 a1 "com/example/coracle_health/coraclehealth/staff/FormField" "secret" "Z" (.int (0 : Int32)) := f1007.other W1009 (Or.inr (slot_ne (Or.inr (hw _ (List.mem_of_getElem? (i := 54) rfl))) (Or.inr (hw _ (List.mem_of_getElem? (i := 52) rfl))) (by decide) (t := .boolean) (t' := (.object "java/lang/String")) (by decide) (by decide)))
  have f1014 : Fld Z h1009 a1 "com/example/coracle_health/coraclehealth/staff/FormField" "minLength" "I" (.int (0 : Int32)) := f1008.other W1009 (Or.inr (slot_ne (Or.inr (hw _ (List.mem_of_getElem? (i := 56) rfl))) (Or.inr (hw _ (List.mem_of_getElem? (i := 52) rfl))) (by decide) (t := .int) (t' := (.object "java/lang/String")) (by decide) (by decide)))
  have f1015 : Fld Z h1009 a1 "com/example/coracle_health/coraclehealth/staff/FormField" "fieldName" "Ljava/lang/String;" (.ref a2) := f1003.other W1009 (Or.inr (slot_ne (Or.inr (hw _ (List.mem_of_getElem? (i := 50) rfl))) (Or.inr (hw _ (List.mem_of_getElem? (i := 52) rfl))) (by decide) (t := (.object "java/lang/String")) (t' := (.object "java/lang/String")) (by decide) (by decide)))
  have N1009 := Fr.snoc X1009 N1002 g_a1
  have KK1009 : Keep h0 h1009 [a1] := KK1002.wr W1009 (Or.inl (List.mem_of_getElem? (i := 0) rfl))
  have Z1009 := Nat.le_trans Z1002 (Keep.of_wr W1009).1
  show OEnds p.tables e below G (T1009.setTop (mkF m 14 #[.val (.ref a1), .val (.ref a2), .val (.ref a3), .val (.int (1 : Int32)), .val (.int p5)] []))
  refine OEnds.st (fun _ k => XS.aloadN X1009.here hx rfl (hb hby d9_14) rfl rfl k) ?_
  show OEnds p.tables e below G (T1009.setTop (mkF m 15 #[.val (.ref a1), .val (.ref a2), .val (.ref a3), .val (.int (1 : Int32)), .val (.int p5)] [(.ref a1)]))
  refine OEnds.st (fun _ k => XS.iloadN X1009.here hx rfl (hb hby d9_15) rfl k) ?_
  show OEnds p.tables e below G (T1009.setTop (mkF m 16 #[.val (.ref a1), .val (.ref a2), .val (.ref a3), .val (.int (1 : Int32)), .val (.int p5)] [(.int (1 : Int32)), (.ref a1)]))
  obtain ⟨T1016, h1016, X1016, e1016, W1016, st1016⟩ := putFN X1009 hx hZ hown (hw _ (List.mem_of_getElem? (i := 53) rfl)) Via.refl e1009 f1013 f1011 (Or.inr ⟨(hw _ (List.mem_of_getElem? (i := 54) rfl)), rfl, hnm⟩) (hw _ (List.mem_of_getElem? (i := 39) rfl)) (ty := .boolean) (v' := (.int (1 : Int32))) (by decide) rfl (by decide) (g := (mkF m 16 #[.val (.ref a1), .val (.ref a2), .val (.ref a3), .val (.int (1 : Int32)), .val (.int p5)] [(.int (1 : Int32)), (.ref a1)])) rfl rfl (hb hby d9_16)
  refine OEnds.st st1016 ?_
  have f1017 : Fld Z h1016 a1 "com/example/coracle_health/coraclehealth/staff/FormField" "secret" "Z" (.int (1 : Int32)) := f1013.same W1016
  have f1018 : Exa Z h1016 a1 "com/example/coracle_health/coraclehealth/staff/FormField" := f1011.wr W1016
  have f1020 : Fld Z h1016 a1 "com/example/coracle_health/coraclehealth/staff/FormField" "minLength" "I" (.int (0 : Int32)) := f1014.other W1016 (Or.inr (slot_ne (Or.inr (hw _ (List.mem_of_getElem? (i := 56) rfl))) (Or.inr (hw _ (List.mem_of_getElem? (i := 54) rfl))) (by decide) (t := .int) (t' := .boolean) (by decide) (by decide)))
  have f1021 : Fld Z h1016 a1 "com/example/coracle_health/coraclehealth/staff/FormField" "fieldName" "Ljava/lang/String;" (.ref a2) := f1015.other W1016 (Or.inr (slot_ne (Or.inr (hw _ (List.mem_of_getElem? (i := 50) rfl))) (Or.inr (hw _ (List.mem_of_getElem? (i := 54) rfl))) (by decide) (t := (.object "java/lang/String")) (t' := .boolean) (by decide) (by decide)))
  have f1022 : Fld Z h1016 a1 "com/example/coracle_health/coraclehealth/staff/FormField" "name" "Ljava/lang/String;" (.ref a3) := f1010.other W1016 (Or.inr (slot_ne (Or.inr (hw _ (List.mem_of_getElem? (i := 52) rfl))) (Or.inr (hw _ (List.mem_of_getElem? (i := 54) rfl))) (by decide) (t := (.object "java/lang/String")) (t' := .boolean) (by decide) (by decide)))
  have N1016 := Fr.snoc X1016 N1009 g_a1
  have KK1016 : Keep h0 h1016 [a1] := KK1009.wr W1016 (Or.inl (List.mem_of_getElem? (i := 0) rfl))
  have Z1016 := Nat.le_trans Z1009 (Keep.of_wr W1016).1
  show OEnds p.tables e below G (T1016.setTop (mkF m 19 #[.val (.ref a1), .val (.ref a2), .val (.ref a3), .val (.int (1 : Int32)), .val (.int p5)] []))
  refine OEnds.st (fun _ k => XS.aloadN X1016.here hx rfl (hb hby d9_19) rfl rfl k) ?_
  show OEnds p.tables e below G (T1016.setTop (mkF m 20 #[.val (.ref a1), .val (.ref a2), .val (.ref a3), .val (.int (1 : Int32)), .val (.int p5)] [(.ref a1)]))
  refine OEnds.st (fun _ k => XS.iload X1016.here hx rfl (hb hby d9_20) rfl k) ?_
  show OEnds p.tables e below G (T1016.setTop (mkF m 22 #[.val (.ref a1), .val (.ref a2), .val (.ref a3), .val (.int (1 : Int32)), .val (.int p5)] [(.int p5), (.ref a1)]))
  obtain ⟨T1023, h1023, X1023, e1023, W1023, st1023⟩ := putF X1016 hx hZ hown (host := "") (Or.inl (hw _ (List.mem_of_getElem? (i := 55) rfl))) Via.refl e1016 f1020 f1018 (Or.inr ⟨(hw _ (List.mem_of_getElem? (i := 56) rfl)), rfl, hnm⟩) (hw _ (List.mem_of_getElem? (i := 39) rfl)) (ty := .int) (by decide) rfl rfl (g := (mkF m 22 #[.val (.ref a1), .val (.ref a2), .val (.ref a3), .val (.int (1 : Int32)), .val (.int p5)] [(.int p5), (.ref a1)])) rfl rfl (hb hby d9_22)
  refine OEnds.st st1023 ?_
  have f1024 : Fld Z h1023 a1 "com/example/coracle_health/coraclehealth/staff/FormField" "minLength" "I" (.int p5) := f1020.same W1023
  have f1025 : Exa Z h1023 a1 "com/example/coracle_health/coraclehealth/staff/FormField" := f1018.wr W1023
  have f1027 : Fld Z h1023 a1 "com/example/coracle_health/coraclehealth/staff/FormField" "fieldName" "Ljava/lang/String;" (.ref a2) := f1021.other W1023 (Or.inr (slot_ne (Or.inr (hw _ (List.mem_of_getElem? (i := 50) rfl))) (Or.inr (hw _ (List.mem_of_getElem? (i := 56) rfl))) (by decide) (t := (.object "java/lang/String")) (t' := .int) (by decide) (by decide)))
  have f1028 : Fld Z h1023 a1 "com/example/coracle_health/coraclehealth/staff/FormField" "name" "Ljava/lang/String;" (.ref a3) := f1022.other W1023 (Or.inr (slot_ne (Or.inr (hw _ (List.mem_of_getElem? (i := 52) rfl))) (Or.inr (hw _ (List.mem_of_getElem? (i := 56) rfl))) (by decide) (t := (.object "java/lang/String")) (t' := .int) (by decide) (by decide)))
  have f1029 : Fld Z h1023 a1 "com/example/coracle_health/coraclehealth/staff/FormField" "secret" "Z" (.int (1 : Int32)) := f1017.other W1023 (Or.inr (slot_ne (Or.inr (hw _ (List.mem_of_getElem? (i := 54) rfl))) (Or.inr (hw _ (List.mem_of_getElem? (i := 56) rfl))) (by decide) (t := .boolean) (t' := .int) (by decide) (by decide)))
  have N1023 := Fr.snoc X1023 N1016 g_a1
  have KK1023 : Keep h0 h1023 [a1] := KK1016.wr W1023 (Or.inl (List.mem_of_getElem? (i := 0) rfl))
  have Z1023 := Nat.le_trans Z1016 (Keep.of_wr W1023).1
  show OEnds p.tables e below G (T1023.setTop (mkF m 25 #[.val (.ref a1), .val (.ref a2), .val (.ref a3), .val (.int (1 : Int32)), .val (.int p5)] []))
  rw [← hG]
  refine OEnds.retV X1023 hx hlk Bd.returns (hb hby d9_25) (by decide) (by decide) ?_
  rw [e1023]
  exact ⟨rfl, N1023, KK1023, f1025, f1027, f1028, f1029, f1024⟩
theorem ef_ffs11 (m : MethodId) (a1 : Addr) (a2 : Addr) (p3 : Int32) : entryFrame m #[(.ref a1), (.ref a2), (.int p3)] 3 = mkF m 0 #[.val (.ref a1), .val (.ref a2), .val (.int p3)] [] := by first | (simp [entryFrame, mkF, argsToLocals, Value.category]; done) | rfl
def Qffs11 (Z : State) (a1 : Addr) (a2 : Addr) (p3 : Int32) (h0 : Heap) (n0 : Nat) (v : Option Value) (h : Heap) (L : List Loc) : Prop := ∃ (b : Addr), v = some (.ref b) ∧ Fr n0 L ∧ Keep h0 h [] ∧ h0.size ≤ b ∧ Exa Z h b "com/example/coracle_health/coraclehealth/staff/FormField" ∧ Fld Z h b "com/example/coracle_health/coraclehealth/staff/FormField" "fieldName" "Ljava/lang/String;" (.ref a1) ∧ Fld Z h b "com/example/coracle_health/coraclehealth/staff/FormField" "name" "Ljava/lang/String;" (.ref a2) ∧ Fld Z h b "com/example/coracle_health/coraclehealth/staff/FormField" "secret" "Z" (.int (1 : Int32)) ∧ Fld Z h b "com/example/coracle_health/coraclehealth/staff/FormField" "minLength" "I" (.int p3)
set_option maxRecDepth 65536 in
set_option maxHeartbeats 40000000 in
theorem rmffs11 (l : Launch) (Z : State) (a0 : Array Value) (hw : ∀ d ∈ tables_1, d.before a0 Z = true) (ws : List Jvm.Cond) (a1 : Addr) (a2 : Addr) (p3 : Int32) (h0 : Heap) (n0 : Nat) (Z0 : n0 ≤ h0.size) :
    MetFree l (⟨"com/example/coracle_health/coraclehealth/staff/FormField", "secret", "(Ljava/lang/String;Ljava/lang/String;I)Lcom/example/coracle_health/coraclehealth/staff/FormField;"⟩ : MethodName) (head1 (Jvm.Cond.code (⟨"com/example/coracle_health/coraclehealth/staff/FormField", "secret", "(Ljava/lang/String;Ljava/lang/String;I)Lcom/example/coracle_health/coraclehealth/staff/FormField;"⟩ : MethodName) prog_112_method_3_code 3 (some (.object "com/example/coracle_health/coraclehealth/staff/FormField")) :: ws) ({ frames := 3, cells := 1, slots := 4, locals := 41 } : Room)) (fun a U => a = #[(.ref a1), (.ref a2), (.int p3)] ∧ Z.Warmed39 U.vm ∧ U.heap = h0) (fun _ _ _ _ _ => True) (fun _ U o U' => ∃ v L, o = .returned v ∧ Qffs11 Z a1 a2 p3 h0 n0 v U'.heap L ∧ FrameEnd U o U' L ({ frames := 3, cells := 1, slots := 4, locals := 41 } : Room).cells ({ frames := 3, cells := 1, slots := 4, locals := 41 } : Room).slots) := by
  refine MetFree.of_bodySF (plainFor_of_name pn_4) hisR ?_
  intro p e s m args below meth c s₁ Bd hml0 hP hK
  obtain ⟨rfl, hZ, hh⟩ := hP
  have hx := Bd.exec
  have hby := Bd.bytes
  have hml : c.maxLocals = 3 := hml0
  have hown : s.vm.findClass "com/example/coracle_health/coraclehealth/staff/FormField" = some m.cls := findClass_of_methodNamed Bd.named
  have hnm := (name_of_methodNamed Bd.named Bd.method).1
  have hlk : meth.locks = false := BodyLoose.notSynchronized Bd
  have X0 : Stand p l e ({ frames := 3, cells := 1, slots := 4, locals := 41 } : Room) s m #[(.ref a1), (.ref a2), (.int p3)] below meth c s₁ [] 0 0 := Stand.of_body Bd
  have e0 : s₁.heap = h0 := by rw [← hh, Bd.state]; rfl
  have N0 := Fr.nil n0
  show OEnds p.tables e below (OGoal (Qffs11 Z a1 a2 p3 h0 n0) s 1 4) (s₁.setTop (entryFrame m #[(.ref a1), (.ref a2), (.int p3)] 3))
  refine OEnds.st (fun t k => castTop (ef_ffs11 m a1 a2 p3) k) ?_
  generalize hG : OGoal (Qffs11 Z a1 a2 p3 h0 n0) s 1 4 = G
  have KK0 : Keep h0 h0 [] := Keep.refl h0 []
  show OEnds p.tables e below G (s₁.setTop (mkF m 0 #[.val (.ref a1), .val (.ref a2), .val (.int p3)] []))
  obtain ⟨T1001, h1001, X1001, e1001, E1001, A1001, D1001, -, st1001⟩ := newO X0 hx hZ hown (hw _ (List.mem_of_getElem? (i := 38) rfl)) (hw _ (List.mem_of_getElem? (i := 39) rfl)) (hw _ (List.mem_of_getElem? (i := 36) rfl)) e0 (g := (mkF m 0 #[.val (.ref a1), .val (.ref a2), .val (.int p3)] [])) rfl (hb hby d8_0) (by decide) (by decide)
  obtain ⟨b1001, g1001⟩ : ∃ z, z = h0.size := ⟨_, rfl⟩
  rw [← g1001] at A1001 D1001 st1001
  refine OEnds.st st1001 ?_
  have ge_b1001 : n0 ≤ b1001 := Nat.le_trans Z0 (Nat.le_of_eq g1001.symm)
  have sz_b1001 : h0.size ≤ b1001 := Nat.le_trans KK0.1 (Nat.le_of_eq g1001.symm)
  have KK1001 : Keep h0 h1001 [] := KK0.ext E1001
  have Z1001 := Nat.le_trans Z0 E1001.1
  have ex_b1001 := A1001
  have f1002 : Fld Z h1001 b1001 "com/example/coracle_health/coraclehealth/staff/FormField" "fieldName" "Ljava/lang/String;" .null := D1001 (Or.inr (hw _ (List.mem_of_getElem? (i := 50) rfl))) (ty := (.object "java/lang/String")) (by decide)
  have f1003 : Fld Z h1001 b1001 "com/example/coracle_health/coraclehealth/staff/FormField" "name" "Ljava/lang/String;" .null := D1001 (Or.inr (hw _ (List.mem_of_getElem? (i := 52) rfl))) (ty := (.object "java/lang/String")) (by decide)
  have f1004 : Fld Z h1001 b1001 "com/example/coracle_health/coraclehealth/staff/FormField" "secret" "Z" (.int (0 : Int32)) := D1001 (Or.inr (hw _ (List.mem_of_getElem? (i := 54) rfl))) (ty := .boolean) (by decide)
  have f1005 : Fld Z h1001 b1001 "com/example/coracle_health/coraclehealth/staff/FormField" "minLength" "I" (.int (0 : Int32)) := D1001 (Or.inr (hw _ (List.mem_of_getElem? (i := 56) rfl))) (ty := .int) (by decide)
  show OEnds p.tables e below G (T1001.setTop (mkF m 3 #[.val (.ref a1), .val (.ref a2), .val (.int p3)] [(.ref b1001)]))
  refine OEnds.st (fun _ k => XS.dup X1001.here hx rfl (hb hby d8_3) rfl rfl k) ?_
  show OEnds p.tables e below G (T1001.setTop (mkF m 4 #[.val (.ref a1), .val (.ref a2), .val (.int p3)] [(.ref b1001), (.ref b1001)]))
  refine OEnds.st (fun _ k => XS.aloadN X1001.here hx rfl (hb hby d8_4) rfl rfl k) ?_
  show OEnds p.tables e below G (T1001.setTop (mkF m 5 #[.val (.ref a1), .val (.ref a2), .val (.int p3)] [(.ref a1), (.ref b1001), (.ref b1001)]))
  refine OEnds.st (fun _ k => XS.aloadN X1001.here hx rfl (hb hby d8_5) rfl rfl k) ?_
  show OEnds p.tables e below G (T1001.setTop (mkF m 6 #[.val (.ref a1), .val (.ref a2), .val (.int p3)] [(.ref a2), (.ref a1), (.ref b1001), (.ref b1001)]))
  refine OEnds.st (fun _ k => XS.iconst X1001.here hx rfl (hb hby d8_6) k) ?_
  show OEnds p.tables e below G (T1001.setTop (mkF m 7 #[.val (.ref a1), .val (.ref a2), .val (.int p3)] [(.int (1 : Int32)), (.ref a2), (.ref a1), (.ref b1001), (.ref b1001)]))
  refine OEnds.st (fun _ k => XS.iloadN X1001.here hx rfl (hb hby d8_7) rfl k) ?_
  show OEnds p.tables e below G (T1001.setTop (mkF m 8 #[.val (.ref a1), .val (.ref a2), .val (.int p3)] [(.int p3), (.int (1 : Int32)), (.ref a2), (.ref a1), (.ref b1001), (.ref b1001)]))
  obtain ⟨_, _, ⟨T1006, L1006, k1006c, n1006c⟩, -, X1006, ⟨Lc1006, hQ1006, l1006, y1006, z1006⟩, st1006⟩ := X1001.specialBack hx (y := (⟨"com/example/coracle_health/coraclehealth/staff/FormField", "<init>", "(Ljava/lang/String;Ljava/lang/String;ZI)V"⟩ : MethodName)) rfl hown (mvT hZ (hw _ (List.mem_of_getElem? (i := 40) rfl))) (mvT hZ (hw _ (List.mem_of_getElem? (i := 41) rfl))) (mvT hZ (hw _ (List.mem_of_getElem? (i := 42) rfl))) (by decide) (backOf (W := 1) (rmffi11 l Z a0 hw [] b1001 a1 a2 p3 h1001 n0 Z1001 ex_b1001 f1002 f1003 f1004 f1005 ge_b1001) hZ (hw _ (List.mem_of_getElem? (i := 42) rfl)) (hw _ (List.mem_of_getElem? (i := 36) rfl)) (by decide) (by decide)) (g := (mkF m 8 #[.val (.ref a1), .val (.ref a2), .val (.int p3)] [(.int p3), (.int (1 : Int32)), (.ref a2), (.ref a1), (.ref b1001), (.ref b1001)])) rfl (by rw [hml]; rfl) (Steps.refl _) (a := b1001) (argsL := [(.ref a1), (.ref a2), (.int (1 : Int32)), (.int p3)]) (rest := [(.ref b1001)]) (lenOf pd_6 rfl) rfl (by show 2 * 0 + _ ≤ _; exact Nat.le_of_eq rfl) (hb hby d8_8) (fun _ _ => ⟨rfl, e1001, (by decide : 0 + 1 + 0 ≤ _), (by decide : 0 + 4 + 0 ≤ _)⟩)
  dsimp only [Pt.U, Pt.locs, Pt.cells, Pt.slots] at X1006 l1006 y1006 z1006 st1006 hQ1006
  subst l1006 y1006 z1006
  obtain ⟨rfl, N1006q, p1007, p1008, p1009, p1010, p1011, p1012⟩ := hQ1006
  have N1006 := Fr.app N0 N1006q
  refine OEnds.st (fun _ k => st1006.trans k) ?_
  have f1013 : Exa Z T1006.heap b1001 "com/example/coracle_health/coraclehealth/staff/FormField" := ex_b1001.keep p1007
  have KK1006 : Keep h0 T1006.heap [] := KK1001.trans p1007 (fun x hx => by cases List.mem_singleton.mp hx; exact Or.inr sz_b1001)
  have Z1006 := Nat.le_trans Z1001 p1007.1
  show OEnds p.tables e below G (T1006.setTop (mkF m 11 #[.val (.ref a1), .val (.ref a2), .val (.int p3)] [(.ref b1001)]))
  rw [← hG]
  refine OEnds.retA X1006 hx hlk Bd.returns (by first | rfl | exact rfl) rfl (hb hby d8_11) (by decide) (by decide) ?_
  show _
  exact ⟨b1001, rfl, N1006, KK1006, sz_b1001, p1008, p1009, p1010, p1011, p1012⟩
theorem d11_0 : decode prog_112_method_10_code 0 = .ok (.aload_n 0, 1) := by decide +kernel
theorem d11_1 : decode prog_112_method_10_code 1 = .ok (.getfield 7, 3) := by decide +kernel
theorem d11_4 : decode prog_112_method_10_code 4 = .ok (.areturn, 1) := by decide +kernel
theorem ef_getfieldName0 (m : MethodId) (a1 : Addr) : entryFrame m #[(.ref a1)] 1 = mkF m 0 #[.val (.ref a1)] [] := by first | (simp [entryFrame, mkF, argsToLocals, Value.category]; done) | rfl
def QgetfieldName0 (Z : State) (a1 : Addr) (h0 : Heap) (n0 : Nat) (v : Option Value) (h : Heap) (L : List Loc) : Prop := v = some .null ∧ Fr n0 L ∧ h = h0
set_option maxRecDepth 65536 in
set_option maxHeartbeats 40000000 in
theorem rmgetfieldName0 (l : Launch) (Z : State) (a0 : Array Value) (hw : ∀ d ∈ tables_1, d.before a0 Z = true) (ws : List Jvm.Cond) (a1 : Addr) (h0 : Heap) (n0 : Nat) (Z0 : n0 ≤ h0.size) (F : Fld Z h0 a1 "com/example/coracle_health/coraclehealth/staff/FormField" "fieldName" "Ljava/lang/String;" .null) :
    MetFree l (⟨"com/example/coracle_health/coraclehealth/staff/FormField", "fieldName", "()Ljava/lang/String;"⟩ : MethodName) (head1 (Jvm.Cond.code (⟨"com/example/coracle_health/coraclehealth/staff/FormField", "fieldName", "()Ljava/lang/String;"⟩ : MethodName) prog_112_method_10_code 1 (some (.object "java/lang/String")) :: ws) ({ frames := 0, cells := 0, slots := 0, locals := 0 } : Room)) (fun a U => a = #[(.ref a1)] ∧ Z.Warmed39 U.vm ∧ U.heap = h0) (fun _ _ _ _ _ => True) (fun _ U o U' => ∃ v L, o = .returned v ∧ QgetfieldName0 Z a1 h0 n0 v U'.heap L ∧ FrameEnd U o U' L ({ frames := 0, cells := 0, slots := 0, locals := 0 } : Room).cells ({ frames := 0, cells := 0, slots := 0, locals := 0 } : Room).slots) := by
  refine MetFree.of_bodySF (plainFor_of_name pn_4) hisR ?_
  intro p e s m args below meth c s₁ Bd hml0 hP hK
  obtain ⟨rfl, hZ, hh⟩ := hP
  have hx := Bd.exec
  have hby := Bd.bytes
  have hml : c.maxLocals = 1 := hml0
  have hown : s.vm.findClass "com/example/coracle_health/coraclehealth/staff/FormField" = some m.cls := findClass_of_methodNamed Bd.named
  have hnm := (name_of_methodNamed Bd.named Bd.method).1
  have hlk : meth.locks = false := BodyLoose.notSynchronized Bd
  have X0 : Stand p l e ({ frames := 0, cells := 0, slots := 0, locals := 0 } : Room) s m #[(.ref a1)] below meth c s₁ [] 0 0 := Stand.of_body Bd
  have e0 : s₁.heap = h0 := by rw [← hh, Bd.state]; rfl
  have N0 := Fr.nil n0
  show OEnds p.tables e below (OGoal (QgetfieldName0 Z a1 h0 n0) s 0 0) (s₁.setTop (entryFrame m #[(.ref a1)] 1))
  refine OEnds.st (fun t k => castTop (ef_getfieldName0 m a1) k) ?_
  generalize hG : OGoal (QgetfieldName0 Z a1 h0 n0) s 0 0 = G
  have KK0 : Keep h0 h0 [] := Keep.refl h0 []
  show OEnds p.tables e below G (s₁.setTop (mkF m 0 #[.val (.ref a1)] []))
  refine OEnds.st (fun _ k => XS.aloadN X0.here hx rfl (hb hby d11_0) rfl rfl k) ?_
  show OEnds p.tables e below G (s₁.setTop (mkF m 1 #[.val (.ref a1)] [(.ref a1)]))
  obtain ⟨T1001, X1001, e1001, st1001⟩ := getF X0 hx hZ hown (host := "") (Or.inl (hw _ (List.mem_of_getElem? (i := 49) rfl))) Via.refl e0 F (g := (mkF m 1 #[.val (.ref a1)] [(.ref a1)])) rfl rfl (hb hby d11_1)
  refine OEnds.st st1001 ?_
  show OEnds p.tables e below G (T1001.setTop (mkF m 4 #[.val (.ref a1)] [.null]))
  rw [← hG]
  refine OEnds.retA X1001 hx hlk Bd.returns (by first | rfl | exact rfl) rfl (hb hby d11_4) (by decide) (by decide) ?_
  rw [e1001]
  exact ⟨rfl, N0, rfl⟩
theorem ef_getfieldName1 (m : MethodId) (a1 : Addr) : entryFrame m #[(.ref a1)] 1 = mkF m 0 #[.val (.ref a1)] [] := by first | (simp [entryFrame, mkF, argsToLocals, Value.category]; done) | rfl
def QgetfieldName1 (Z : State) (a1 : Addr) (a2 : Addr) (h0 : Heap) (n0 : Nat) (v : Option Value) (h : Heap) (L : List Loc) : Prop := v = some (.ref a2) ∧ Fr n0 L ∧ h = h0
set_option maxRecDepth 65536 in
set_option maxHeartbeats 40000000 in
theorem rmgetfieldName1 (l : Launch) (Z : State) (a0 : Array Value) (hw : ∀ d ∈ tables_1, d.before a0 Z = true) (ws : List Jvm.Cond) (a1 : Addr) (a2 : Addr) (h0 : Heap) (n0 : Nat) (Z0 : n0 ≤ h0.size) (F : Fld Z h0 a1 "com/example/coracle_health/coraclehealth/staff/FormField" "fieldName" "Ljava/lang/String;" (.ref a2)) :
    MetFree l (⟨"com/example/coracle_health/coraclehealth/staff/FormField", "fieldName", "()Ljava/lang/String;"⟩ : MethodName) (head1 (Jvm.Cond.code (⟨"com/example/coracle_health/coraclehealth/staff/FormField", "fieldName", "()Ljava/lang/String;"⟩ : MethodName) prog_112_method_10_code 1 (some (.object "java/lang/String")) :: ws) ({ frames := 0, cells := 0, slots := 0, locals := 0 } : Room)) (fun a U => a = #[(.ref a1)] ∧ Z.Warmed39 U.vm ∧ U.heap = h0) (fun _ _ _ _ _ => True) (fun _ U o U' => ∃ v L, o = .returned v ∧ QgetfieldName1 Z a1 a2 h0 n0 v U'.heap L ∧ FrameEnd U o U' L ({ frames := 0, cells := 0, slots := 0, locals := 0 } : Room).cells ({ frames := 0, cells := 0, slots := 0, locals := 0 } : Room).slots) := by
  refine MetFree.of_bodySF (plainFor_of_name pn_4) hisR ?_
  intro p e s m args below meth c s₁ Bd hml0 hP hK
  obtain ⟨rfl, hZ, hh⟩ := hP
  have hx := Bd.exec
  have hby := Bd.bytes
  have hml : c.maxLocals = 1 := hml0
  have hown : s.vm.findClass "com/example/coracle_health/coraclehealth/staff/FormField" = some m.cls := findClass_of_methodNamed Bd.named
  have hnm := (name_of_methodNamed Bd.named Bd.method).1
  have hlk : meth.locks = false := BodyLoose.notSynchronized Bd
  have X0 : Stand p l e ({ frames := 0, cells := 0, slots := 0, locals := 0 } : Room) s m #[(.ref a1)] below meth c s₁ [] 0 0 := Stand.of_body Bd
  have e0 : s₁.heap = h0 := by rw [← hh, Bd.state]; rfl
  have N0 := Fr.nil n0
  show OEnds p.tables e below (OGoal (QgetfieldName1 Z a1 a2 h0 n0) s 0 0) (s₁.setTop (entryFrame m #[(.ref a1)] 1))
  refine OEnds.st (fun t k => castTop (ef_getfieldName1 m a1) k) ?_
  generalize hG : OGoal (QgetfieldName1 Z a1 a2 h0 n0) s 0 0 = G
  have KK0 : Keep h0 h0 [] := Keep.refl h0 []
  show OEnds p.tables e below G (s₁.setTop (mkF m 0 #[.val (.ref a1)] []))
  refine OEnds.st (fun _ k => XS.aloadN X0.here hx rfl (hb hby d11_0) rfl rfl k) ?_
  show OEnds p.tables e below G (s₁.setTop (mkF m 1 #[.val (.ref a1)] [(.ref a1)]))
  obtain ⟨T1001, X1001, e1001, st1001⟩ := getF X0 hx hZ hown (host := "") (Or.inl (hw _ (List.mem_of_getElem? (i := 49) rfl))) Via.refl e0 F (g := (mkF m 1 #[.val (.ref a1)] [(.ref a1)])) rfl rfl (hb hby d11_1)
  refine OEnds.st st1001 ?_
  show OEnds p.tables e below G (T1001.setTop (mkF m 4 #[.val (.ref a1)] [(.ref a2)]))
  rw [← hG]
  refine OEnds.retA X1001 hx hlk Bd.returns (by first | rfl | exact rfl) rfl (hb hby d11_4) (by decide) (by decide) ?_
  rw [e1001]
  exact ⟨rfl, N0, rfl⟩
theorem d13_0 : decode prog_112_method_11_code 0 = .ok (.aload_n 0, 1) := by decide +kernel
theorem d13_1 : decode prog_112_method_11_code 1 = .ok (.getfield 13, 3) := by decide +kernel
theorem d13_4 : decode prog_112_method_11_code 4 = .ok (.areturn, 1) := by decide +kernel
theorem ef_getname0 (m : MethodId) (a1 : Addr) : entryFrame m #[(.ref a1)] 1 = mkF m 0 #[.val (.ref a1)] [] := by first | (simp [entryFrame, mkF, argsToLocals, Value.category]; done) | rfl
def Qgetname0 (Z : State) (a1 : Addr) (h0 : Heap) (n0 : Nat) (v : Option Value) (h : Heap) (L : List Loc) : Prop := v = some .null ∧ Fr n0 L ∧ h = h0
set_option maxRecDepth 65536 in
set_option maxHeartbeats 40000000 in
theorem rmgetname0 (l : Launch) (Z : State) (a0 : Array Value) (hw : ∀ d ∈ tables_1, d.before a0 Z = true) (ws : List Jvm.Cond) (a1 : Addr) (h0 : Heap) (n0 : Nat) (Z0 : n0 ≤ h0.size) (F : Fld Z h0 a1 "com/example/coracle_health/coraclehealth/staff/FormField" "name" "Ljava/lang/String;" .null) :
    MetFree l (⟨"com/example/coracle_health/coraclehealth/staff/FormField", "name", "()Ljava/lang/String;"⟩ : MethodName) (head1 (Jvm.Cond.code (⟨"com/example/coracle_health/coraclehealth/staff/FormField", "name", "()Ljava/lang/String;"⟩ : MethodName) prog_112_method_11_code 1 (some (.object "java/lang/String")) :: ws) ({ frames := 0, cells := 0, slots := 0, locals := 0 } : Room)) (fun a U => a = #[(.ref a1)] ∧ Z.Warmed39 U.vm ∧ U.heap = h0) (fun _ _ _ _ _ => True) (fun _ U o U' => ∃ v L, o = .returned v ∧ Qgetname0 Z a1 h0 n0 v U'.heap L ∧ FrameEnd U o U' L ({ frames := 0, cells := 0, slots := 0, locals := 0 } : Room).cells ({ frames := 0, cells := 0, slots := 0, locals := 0 } : Room).slots) := by
  refine MetFree.of_bodySF (plainFor_of_name pn_4) hisR ?_
  intro p e s m args below meth c s₁ Bd hml0 hP hK
  obtain ⟨rfl, hZ, hh⟩ := hP
  have hx := Bd.exec
  have hby := Bd.bytes
  have hml : c.maxLocals = 1 := hml0
  have hown : s.vm.findClass "com/example/coracle_health/coraclehealth/staff/FormField" = some m.cls := findClass_of_methodNamed Bd.named
  have hnm := (name_of_methodNamed Bd.named Bd.method).1
  have hlk : meth.locks = false := BodyLoose.notSynchronized Bd
  have X0 : Stand p l e ({ frames := 0, cells := 0, slots := 0, locals := 0 } : Room) s m #[(.ref a1)] below meth c s₁ [] 0 0 := Stand.of_body Bd
  have e0 : s₁.heap = h0 := by rw [← hh, Bd.state]; rfl
  have N0 := Fr.nil n0
  show OEnds p.tables e below (OGoal (Qgetname0 Z a1 h0 n0) s 0 0) (s₁.setTop (entryFrame m #[(.ref a1)] 1))
  refine OEnds.st (fun t k => castTop (ef_getname0 m a1) k) ?_
  generalize hG : OGoal (Qgetname0 Z a1 h0 n0) s 0 0 = G
  have KK0 : Keep h0 h0 [] := Keep.refl h0 []
  show OEnds p.tables e below G (s₁.setTop (mkF m 0 #[.val (.ref a1)] []))
  refine OEnds.st (fun _ k => XS.aloadN X0.here hx rfl (hb hby d13_0) rfl rfl k) ?_
  show OEnds p.tables e below G (s₁.setTop (mkF m 1 #[.val (.ref a1)] [(.ref a1)]))
  obtain ⟨T1001, X1001, e1001, st1001⟩ := getF X0 hx hZ hown (host := "") (Or.inl (hw _ (List.mem_of_getElem? (i := 51) rfl))) Via.refl e0 F (g := (mkF m 1 #[.val (.ref a1)] [(.ref a1)])) rfl rfl (hb hby d13_1)
  refine OEnds.st st1001 ?_
  show OEnds p.tables e below G (T1001.setTop (mkF m 4 #[.val (.ref a1)] [.null]))
  rw [← hG]
  refine OEnds.retA X1001 hx hlk Bd.returns (by first | rfl | exact rfl) rfl (hb hby d13_4) (by decide) (by decide) ?_
  rw [e1001]
  exact ⟨rfl, N0, rfl⟩
theorem ef_getname1 (m : MethodId) (a1 : Addr) : entryFrame m #[(.ref a1)] 1 = mkF m 0 #[.val (.ref a1)] [] := by first | (simp [entryFrame, mkF, argsToLocals, Value.category]; done) | rfl
def Qgetname1 (Z : State) (a1 : Addr) (a2 : Addr) (h0 : Heap) (n0 : Nat) (v : Option Value) (h : Heap) (L : List Loc) : Prop := v = some (.ref a2) ∧ Fr n0 L ∧ h = h0
set_option maxRecDepth 65536 in
set_option maxHeartbeats 40000000 in
theorem rmgetname1 (l : Launch) (Z : State) (a0 : Array Value) (hw : ∀ d ∈ tables_1, d.before a0 Z = true) (ws : List Jvm.Cond) (a1 : Addr) (a2 : Addr) (h0 : Heap) (n0 : Nat) (Z0 : n0 ≤ h0.size) (F : Fld Z h0 a1 "com/example/coracle_health/coraclehealth/staff/FormField" "name" "Ljava/lang/String;" (.ref a2)) :
    MetFree l (⟨"com/example/coracle_health/coraclehealth/staff/FormField", "name", "()Ljava/lang/String;"⟩ : MethodName) (head1 (Jvm.Cond.code (⟨"com/example/coracle_health/coraclehealth/staff/FormField", "name", "()Ljava/lang/String;"⟩ : MethodName) prog_112_method_11_code 1 (some (.object "java/lang/String")) :: ws) ({ frames := 0, cells := 0, slots := 0, locals := 0 } : Room)) (fun a U => a = #[(.ref a1)] ∧ Z.Warmed39 U.vm ∧ U.heap = h0) (fun _ _ _ _ _ => True) (fun _ U o U' => ∃ v L, o = .returned v ∧ Qgetname1 Z a1 a2 h0 n0 v U'.heap L ∧ FrameEnd U o U' L ({ frames := 0, cells := 0, slots := 0, locals := 0 } : Room).cells ({ frames := 0, cells := 0, slots := 0, locals := 0 } : Room).slots) := by
  refine MetFree.of_bodySF (plainFor_of_name pn_4) hisR ?_
  intro p e s m args below meth c s₁ Bd hml0 hP hK
  obtain ⟨rfl, hZ, hh⟩ := hP
  have hx := Bd.exec
  have hby := Bd.bytes
  have hml : c.maxLocals = 1 := hml0
  have hown : s.vm.findClass "com/example/coracle_health/coraclehealth/staff/FormField" = some m.cls := findClass_of_methodNamed Bd.named
  have hnm := (name_of_methodNamed Bd.named Bd.method).1
  have hlk : meth.locks = false := BodyLoose.notSynchronized Bd
  have X0 : Stand p l e ({ frames := 0, cells := 0, slots := 0, locals := 0 } : Room) s m #[(.ref a1)] below meth c s₁ [] 0 0 := Stand.of_body Bd
  have e0 : s₁.heap = h0 := by rw [← hh, Bd.state]; rfl
  have N0 := Fr.nil n0
  show OEnds p.tables e below (OGoal (Qgetname1 Z a1 a2 h0 n0) s 0 0) (s₁.setTop (entryFrame m #[(.ref a1)] 1))
  refine OEnds.st (fun t k => castTop (ef_getname1 m a1) k) ?_
  generalize hG : OGoal (Qgetname1 Z a1 a2 h0 n0) s 0 0 = G
  have KK0 : Keep h0 h0 [] := Keep.refl h0 []
  show OEnds p.tables e below G (s₁.setTop (mkF m 0 #[.val (.ref a1)] []))
  refine OEnds.st (fun _ k => XS.aloadN X0.here hx rfl (hb hby d13_0) rfl rfl k) ?_
  show OEnds p.tables e below G (s₁.setTop (mkF m 1 #[.val (.ref a1)] [(.ref a1)]))
  obtain ⟨T1001, X1001, e1001, st1001⟩ := getF X0 hx hZ hown (host := "") (Or.inl (hw _ (List.mem_of_getElem? (i := 51) rfl))) Via.refl e0 F (g := (mkF m 1 #[.val (.ref a1)] [(.ref a1)])) rfl rfl (hb hby d13_1)
  refine OEnds.st st1001 ?_
  show OEnds p.tables e below G (T1001.setTop (mkF m 4 #[.val (.ref a1)] [(.ref a2)]))
  rw [← hG]
  refine OEnds.retA X1001 hx hlk Bd.returns (by first | rfl | exact rfl) rfl (hb hby d13_4) (by decide) (by decide) ?_
  rw [e1001]
  exact ⟨rfl, N0, rfl⟩
theorem d14_0 : decode jdk_42_method_66_code 0 = .ok (.aload_n 0, 1) := by decide +kernel
theorem d14_1 : decode jdk_42_method_66_code 1 = .ok (.aload_n 1, 1) := by decide +kernel
theorem d14_2 : decode jdk_42_method_66_code 2 = .ok (.if_acmp .ne 5, 3) := by decide +kernel
theorem d14_5 : decode jdk_42_method_66_code 5 = .ok (.iconst 1, 1) := by decide +kernel
theorem d14_6 : decode jdk_42_method_66_code 6 = .ok (.ireturn, 1) := by decide +kernel
theorem d14_7 : decode jdk_42_method_66_code 7 = .ok (.aload_n 1, 1) := by decide +kernel
theorem d14_8 : decode jdk_42_method_66_code 8 = .ok (.instanceof 10, 3) := by decide +kernel
theorem d14_11 : decode jdk_42_method_66_code 11 = .ok (.ifCond .eq 43, 3) := by decide +kernel
theorem d14_14 : decode jdk_42_method_66_code 14 = .ok (.aload_n 1, 1) := by decide +kernel
theorem d14_15 : decode jdk_42_method_66_code 15 = .ok (.checkcast 10, 3) := by decide +kernel
theorem d14_18 : decode jdk_42_method_66_code 18 = .ok (.astore_n 2, 1) := by decide +kernel
theorem d14_19 : decode jdk_42_method_66_code 19 = .ok (.getstatic 38, 3) := by decide +kernel
theorem d14_22 : decode jdk_42_method_66_code 22 = .ok (.ifCond .eq 14, 3) := by decide +kernel
theorem d14_25 : decode jdk_42_method_66_code 25 = .ok (.aload_n 0, 1) := by decide +kernel
theorem d14_26 : decode jdk_42_method_66_code 26 = .ok (.getfield 15, 3) := by decide +kernel
theorem d14_29 : decode jdk_42_method_66_code 29 = .ok (.aload_n 2, 1) := by decide +kernel
theorem d14_30 : decode jdk_42_method_66_code 30 = .ok (.getfield 15, 3) := by decide +kernel
theorem d14_33 : decode jdk_42_method_66_code 33 = .ok (.if_icmp .ne 21, 3) := by decide +kernel
theorem d14_36 : decode jdk_42_method_66_code 36 = .ok (.aload_n 0, 1) := by decide +kernel
theorem d14_37 : decode jdk_42_method_66_code 37 = .ok (.getfield 9, 3) := by decide +kernel
theorem d14_40 : decode jdk_42_method_66_code 40 = .ok (.aload_n 2, 1) := by decide +kernel
theorem d14_41 : decode jdk_42_method_66_code 41 = .ok (.getfield 9, 3) := by decide +kernel
theorem d14_44 : decode jdk_42_method_66_code 44 = .ok (.invokestatic 541, 3) := by decide +kernel
theorem d14_47 : decode jdk_42_method_66_code 47 = .ok (.ifCond .eq 7, 3) := by decide +kernel
theorem d14_50 : decode jdk_42_method_66_code 50 = .ok (.iconst 1, 1) := by decide +kernel
theorem d14_51 : decode jdk_42_method_66_code 51 = .ok (.goto 4, 3) := by decide +kernel
theorem d14_54 : decode jdk_42_method_66_code 54 = .ok (.iconst 0, 1) := by decide +kernel
theorem d14_55 : decode jdk_42_method_66_code 55 = .ok (.ireturn, 1) := by decide +kernel
theorem ef_14 (m : MethodId) (a1 : Addr) : entryFrame m #[(.ref a1), (.ref a1)] 3 = mkF m 0 #[.val (.ref a1), .val (.ref a1), .unset] [] := by first | (simp [entryFrame, mkF, argsToLocals, Value.category]; done) | rfl
def Q14 (Z : State) (a1 : Addr) (h0 : Heap) (n0 : Nat) (v : Option Value) (h : Heap) (L : List Loc) : Prop := v = some (.int (1 : Int32)) ∧ Fr n0 L ∧ h = h0
set_option maxRecDepth 65536 in
set_option maxHeartbeats 40000000 in
theorem rm14 (l : Launch) (Z : State) (a0 : Array Value) (hw : ∀ d ∈ tables_1, d.before a0 Z = true) (ws : List Jvm.Cond) (a1 : Addr) (h0 : Heap) (n0 : Nat) (Z0 : n0 ≤ h0.size) :
    MetFree l (⟨"java/lang/String", "equals", "(Ljava/lang/Object;)Z"⟩ : MethodName) (head1 (Jvm.Cond.code (⟨"java/lang/String", "equals", "(Ljava/lang/Object;)Z"⟩ : MethodName) jdk_42_method_66_code 3 (some .boolean) :: ws) ({ frames := 0, cells := 0, slots := 0, locals := 0 } : Room)) (fun a U => a = #[(.ref a1), (.ref a1)] ∧ Z.Warmed39 U.vm ∧ U.heap = h0) (fun _ _ _ _ _ => True) (fun _ U o U' => ∃ v L, o = .returned v ∧ Q14 Z a1 h0 n0 v U'.heap L ∧ FrameEnd U o U' L ({ frames := 0, cells := 0, slots := 0, locals := 0 } : Room).cells ({ frames := 0, cells := 0, slots := 0, locals := 0 } : Room).slots) := by
  refine MetFree.of_bodySF (plainFor_of_name pn_1) hisR ?_
  intro p e s m args below meth c s₁ Bd hml0 hP hK
  obtain ⟨rfl, hZ, hh⟩ := hP
  have hx := Bd.exec
  have hby := Bd.bytes
  have hml : c.maxLocals = 3 := hml0
  have hown : s.vm.findClass "java/lang/String" = some m.cls := findClass_of_methodNamed Bd.named
  have hnm := (name_of_methodNamed Bd.named Bd.method).1
  have hlk : meth.locks = false := BodyLoose.notSynchronized Bd
  have X0 : Stand p l e ({ frames := 0, cells := 0, slots := 0, locals := 0 } : Room) s m #[(.ref a1), (.ref a1)] below meth c s₁ [] 0 0 := Stand.of_body Bd
  have e0 : s₁.heap = h0 := by rw [← hh, Bd.state]; rfl
  have N0 := Fr.nil n0
  show OEnds p.tables e below (OGoal (Q14 Z a1 h0 n0) s 0 0) (s₁.setTop (entryFrame m #[(.ref a1), (.ref a1)] 3))
  refine OEnds.st (fun t k => castTop (ef_14 m a1) k) ?_
  generalize hG : OGoal (Q14 Z a1 h0 n0) s 0 0 = G
  have KK0 : Keep h0 h0 [] := Keep.refl h0 []
  show OEnds p.tables e below G (s₁.setTop (mkF m 0 #[.val (.ref a1), .val (.ref a1), .unset] []))
  refine OEnds.st (fun _ k => XS.aloadN X0.here hx rfl (hb hby d14_0) rfl rfl k) ?_
  show OEnds p.tables e below G (s₁.setTop (mkF m 1 #[.val (.ref a1), .val (.ref a1), .unset] [(.ref a1)]))
  refine OEnds.st (fun _ k => XS.aloadN X0.here hx rfl (hb hby d14_1) rfl rfl k) ?_
  show OEnds p.tables e below G (s₁.setTop (mkF m 2 #[.val (.ref a1), .val (.ref a1), .unset] [(.ref a1), (.ref a1)]))
  refine OEnds.st (fun _ k => Jvm.RoadKit.acmp (g := (mkF m 2 #[.val (.ref a1), .val (.ref a1), .unset] [(.ref a1), (.ref a1)])) X0 hx rfl rfl rfl (pc0 := 2) (pc' := 5) (same := true) rfl (hb hby d14_2) rfl (decide_eq_true rfl) (by decide) (by decide) k) ?_
  show OEnds p.tables e below G (s₁.setTop (mkF m 5 #[.val (.ref a1), .val (.ref a1), .unset] []))
  refine OEnds.st (fun _ k => XS.iconst X0.here hx rfl (hb hby d14_5) k) ?_
  show OEnds p.tables e below G (s₁.setTop (mkF m 6 #[.val (.ref a1), .val (.ref a1), .unset] [(.int (1 : Int32))]))
  rw [← hG]
  refine OEnds.retZ X0 hx hlk Bd.returns rfl (hb hby d14_6) (by decide) (by decide) ?_
  rw [e0]
  exact ⟨rfl, N0, rfl⟩
theorem d12_0 : decode method_3_code 0 = .ok (.aload_n 0, 1) := by decide +kernel
theorem d12_1 : decode method_3_code 1 = .ok (.ifnonnull 15, 3) := by decide +kernel
theorem d12_4 : decode method_3_code 4 = .ok (.aload_n 1, 1) := by decide +kernel
theorem d12_5 : decode method_3_code 5 = .ok (.ifnonnull 7, 3) := by decide +kernel
theorem d12_8 : decode method_3_code 8 = .ok (.iconst 1, 1) := by decide +kernel
theorem d12_9 : decode method_3_code 9 = .ok (.goto 12, 3) := by decide +kernel
theorem d12_12 : decode method_3_code 12 = .ok (.iconst 0, 1) := by decide +kernel
theorem d12_13 : decode method_3_code 13 = .ok (.goto 8, 3) := by decide +kernel
theorem d12_16 : decode method_3_code 16 = .ok (.aload_n 0, 1) := by decide +kernel
theorem d12_17 : decode method_3_code 17 = .ok (.aload_n 1, 1) := by decide +kernel
theorem d12_18 : decode method_3_code 18 = .ok (.invokevirtual 12, 3) := by decide +kernel
theorem d12_21 : decode method_3_code 21 = .ok (.ireturn, 1) := by decide +kernel
theorem ef_same0 (m : MethodId)  : entryFrame m #[.null, .null] 2 = mkF m 0 #[.val .null, .val .null] [] := by first | (simp [entryFrame, mkF, argsToLocals, Value.category]; done) | rfl
def Qsame0 (Z : State)  (h0 : Heap) (n0 : Nat) (v : Option Value) (h : Heap) (L : List Loc) : Prop := v = some (.int (1 : Int32)) ∧ Fr n0 L ∧ h = h0
set_option maxRecDepth 65536 in
set_option maxHeartbeats 40000000 in
theorem rmsame0 (l : Launch) (Z : State) (a0 : Array Value) (hw : ∀ d ∈ tables_1, d.before a0 Z = true) (ws : List Jvm.Cond)  (h0 : Heap) (n0 : Nat) (Z0 : n0 ≤ h0.size) :
    MetFree l (⟨"com/example/coracle_health/coraclehealth/staff/FormFieldSecretPinLaw", "same", "(Ljava/lang/String;Ljava/lang/String;)Z"⟩ : MethodName) (head1 (Jvm.Cond.code (⟨"com/example/coracle_health/coraclehealth/staff/FormFieldSecretPinLaw", "same", "(Ljava/lang/String;Ljava/lang/String;)Z"⟩ : MethodName) method_3_code 2 (some .boolean) :: ws) ({ frames := 0, cells := 0, slots := 0, locals := 0 } : Room)) (fun a U => a = #[.null, .null] ∧ Z.Warmed39 U.vm ∧ U.heap = h0) (fun _ _ _ _ _ => True) (fun _ U o U' => ∃ v L, o = .returned v ∧ Qsame0 Z  h0 n0 v U'.heap L ∧ FrameEnd U o U' L ({ frames := 0, cells := 0, slots := 0, locals := 0 } : Room).cells ({ frames := 0, cells := 0, slots := 0, locals := 0 } : Room).slots) := by
  refine MetFree.of_bodySF (plainFor_of_name pn_2) hisR ?_
  intro p e s m args below meth c s₁ Bd hml0 hP hK
  obtain ⟨rfl, hZ, hh⟩ := hP
  have hx := Bd.exec
  have hby := Bd.bytes
  have hml : c.maxLocals = 2 := hml0
  have hown : s.vm.findClass "com/example/coracle_health/coraclehealth/staff/FormFieldSecretPinLaw" = some m.cls := findClass_of_methodNamed Bd.named
  have hnm := (name_of_methodNamed Bd.named Bd.method).1
  have hlk : meth.locks = false := BodyLoose.notSynchronized Bd
  have X0 : Stand p l e ({ frames := 0, cells := 0, slots := 0, locals := 0 } : Room) s m #[.null, .null] below meth c s₁ [] 0 0 := Stand.of_body Bd
  have e0 : s₁.heap = h0 := by rw [← hh, Bd.state]; rfl
  have N0 := Fr.nil n0
  show OEnds p.tables e below (OGoal (Qsame0 Z  h0 n0) s 0 0) (s₁.setTop (entryFrame m #[.null, .null] 2))
  refine OEnds.st (fun t k => castTop (ef_same0 m ) k) ?_
  generalize hG : OGoal (Qsame0 Z  h0 n0) s 0 0 = G
  have KK0 : Keep h0 h0 [] := Keep.refl h0 []
  show OEnds p.tables e below G (s₁.setTop (mkF m 0 #[.val .null, .val .null] []))
  refine OEnds.st (fun _ k => XS.aloadN X0.here hx rfl (hb hby d12_0) rfl rfl k) ?_
  show OEnds p.tables e below G (s₁.setTop (mkF m 1 #[.val .null, .val .null] [.null]))
  refine OEnds.st (fun _ k => XS.ifnonnullNo X0.here hx rfl (hb hby d12_1) rfl k) ?_
  show OEnds p.tables e below G (s₁.setTop (mkF m 4 #[.val .null, .val .null] []))
  refine OEnds.st (fun _ k => XS.aloadN X0.here hx rfl (hb hby d12_4) rfl rfl k) ?_
  show OEnds p.tables e below G (s₁.setTop (mkF m 5 #[.val .null, .val .null] [.null]))
  refine OEnds.st (fun _ k => XS.ifnonnullNo X0.here hx rfl (hb hby d12_5) rfl k) ?_
  show OEnds p.tables e below G (s₁.setTop (mkF m 8 #[.val .null, .val .null] []))
  refine OEnds.st (fun _ k => XS.iconst X0.here hx rfl (hb hby d12_8) k) ?_
  show OEnds p.tables e below G (s₁.setTop (mkF m 9 #[.val .null, .val .null] [(.int (1 : Int32))]))
  refine OEnds.st (fun _ k => XS.goto X0.here hx rfl (pc0 := 9) (pc' := 21) rfl (hb hby d12_9) (by decide) (by decide) k) ?_
  show OEnds p.tables e below G (s₁.setTop (mkF m 21 #[.val .null, .val .null] [(.int (1 : Int32))]))
  rw [← hG]
  refine OEnds.retZ X0 hx hlk Bd.returns rfl (hb hby d12_21) (by decide) (by decide) ?_
  rw [e0]
  exact ⟨rfl, N0, rfl⟩
theorem ef_same1 (m : MethodId) (a1 : Addr) : entryFrame m #[(.ref a1), (.ref a1)] 2 = mkF m 0 #[.val (.ref a1), .val (.ref a1)] [] := by first | (simp [entryFrame, mkF, argsToLocals, Value.category]; done) | rfl
def Qsame1 (Z : State) (a1 : Addr) (h0 : Heap) (n0 : Nat) (v : Option Value) (h : Heap) (L : List Loc) : Prop := v = some (.int (1 : Int32)) ∧ Fr n0 L ∧ h = h0
theorem pd_7 : parseMethodDescriptor "(Ljava/lang/Object;)Z" = some ⟨[(.object "java/lang/Object")], some .boolean⟩ := by decide +kernel
set_option maxRecDepth 65536 in
set_option maxHeartbeats 40000000 in
theorem rmsame1 (l : Launch) (Z : State) (a0 : Array Value) (hw : ∀ d ∈ tables_1, d.before a0 Z = true) (ws : List Jvm.Cond) (a1 : Addr) (h0 : Heap) (n0 : Nat) (Z0 : n0 ≤ h0.size) (E : Exa Z h0 a1 "java/lang/String") :
    MetFree l (⟨"com/example/coracle_health/coraclehealth/staff/FormFieldSecretPinLaw", "same", "(Ljava/lang/String;Ljava/lang/String;)Z"⟩ : MethodName) (head1 (Jvm.Cond.code (⟨"com/example/coracle_health/coraclehealth/staff/FormFieldSecretPinLaw", "same", "(Ljava/lang/String;Ljava/lang/String;)Z"⟩ : MethodName) method_3_code 2 (some .boolean) :: ws) ({ frames := 1, cells := 0, slots := 0, locals := 14 } : Room)) (fun a U => a = #[(.ref a1), (.ref a1)] ∧ Z.Warmed39 U.vm ∧ U.heap = h0) (fun _ _ _ _ _ => True) (fun _ U o U' => ∃ v L, o = .returned v ∧ Qsame1 Z a1 h0 n0 v U'.heap L ∧ FrameEnd U o U' L ({ frames := 1, cells := 0, slots := 0, locals := 14 } : Room).cells ({ frames := 1, cells := 0, slots := 0, locals := 14 } : Room).slots) := by
  refine MetFree.of_bodySF (plainFor_of_name pn_2) hisR ?_
  intro p e s m args below meth c s₁ Bd hml0 hP hK
  obtain ⟨rfl, hZ, hh⟩ := hP
  have hx := Bd.exec
  have hby := Bd.bytes
  have hml : c.maxLocals = 2 := hml0
  have hown : s.vm.findClass "com/example/coracle_health/coraclehealth/staff/FormFieldSecretPinLaw" = some m.cls := findClass_of_methodNamed Bd.named
  have hnm := (name_of_methodNamed Bd.named Bd.method).1
  have hlk : meth.locks = false := BodyLoose.notSynchronized Bd
  have X0 : Stand p l e ({ frames := 1, cells := 0, slots := 0, locals := 14 } : Room) s m #[(.ref a1), (.ref a1)] below meth c s₁ [] 0 0 := Stand.of_body Bd
  have e0 : s₁.heap = h0 := by rw [← hh, Bd.state]; rfl
  have N0 := Fr.nil n0
  show OEnds p.tables e below (OGoal (Qsame1 Z a1 h0 n0) s 0 0) (s₁.setTop (entryFrame m #[(.ref a1), (.ref a1)] 2))
  refine OEnds.st (fun t k => castTop (ef_same1 m a1) k) ?_
  generalize hG : OGoal (Qsame1 Z a1 h0 n0) s 0 0 = G
  have KK0 : Keep h0 h0 [] := Keep.refl h0 []
  show OEnds p.tables e below G (s₁.setTop (mkF m 0 #[.val (.ref a1), .val (.ref a1)] []))
  refine OEnds.st (fun _ k => XS.aloadN X0.here hx rfl (hb hby d12_0) rfl rfl k) ?_
  show OEnds p.tables e below G (s₁.setTop (mkF m 1 #[.val (.ref a1), .val (.ref a1)] [(.ref a1)]))
  refine OEnds.st (fun _ k => XS.ifnonnullYes X0.here hx rfl (pc0 := 1) (pc' := 16) rfl (hb hby d12_1) rfl (by decide) (by decide) k) ?_
  show OEnds p.tables e below G (s₁.setTop (mkF m 16 #[.val (.ref a1), .val (.ref a1)] []))
  refine OEnds.st (fun _ k => XS.aloadN X0.here hx rfl (hb hby d12_16) rfl rfl k) ?_
  show OEnds p.tables e below G (s₁.setTop (mkF m 17 #[.val (.ref a1), .val (.ref a1)] [(.ref a1)]))
  refine OEnds.st (fun _ k => XS.aloadN X0.here hx rfl (hb hby d12_17) rfl rfl k) ?_
  show OEnds p.tables e below G (s₁.setTop (mkF m 18 #[.val (.ref a1), .val (.ref a1)] [(.ref a1), (.ref a1)]))
  obtain ⟨cq1001, kq1001, q1001a, q1001b, q1001c⟩ := isOf hZ e0 E
  obtain ⟨_, _, ⟨T1001, L1001, k1001c, n1001c⟩, -, X1001, ⟨Lc1001, hQ1001, l1001, y1001, z1001⟩, st1001⟩ := X0.virtualBack hx (y := (⟨"java/lang/String", "equals", "(Ljava/lang/Object;)Z"⟩ : MethodName)) (z := (⟨"java/lang/String", "equals", "(Ljava/lang/Object;)Z"⟩ : MethodName)) hown (mvT hZ (hw _ (List.mem_of_getElem? (i := 70) rfl))) (mvT hZ (hw _ (List.mem_of_getElem? (i := 71) rfl))) (notFace_of_selects (args := #[]) (mvT hZ (hw _ (List.mem_of_getElem? (i := 73) rfl)))) (mvT hZ (hw _ (List.mem_of_getElem? (i := 73) rfl))) (mvT hZ (hw _ (List.mem_of_getElem? (i := 72) rfl))) (by decide) (backOf (W := 0) (rm14 l Z a0 hw [] a1 h0 n0 Z0 ) hZ (hw _ (List.mem_of_getElem? (i := 74) rfl)) (hw _ (List.mem_of_getElem? (i := 7) rfl)) (by decide) (by decide)) q1001a q1001c (g := (mkF m 18 #[.val (.ref a1), .val (.ref a1)] [(.ref a1), (.ref a1)])) rfl (by rw [hml]; rfl) (Steps.refl _) (argsL := [(.ref a1)]) (rest := []) (lenOf pd_7 rfl) rfl (by show 2 * 0 + _ ≤ _; exact Nat.le_of_eq rfl) (hb hby d12_18) (fun _ _ => ⟨rfl, e0, (by decide : 0 + 0 ≤ _), (by decide : 0 + 0 ≤ _)⟩)
  dsimp only [Pt.U, Pt.locs, Pt.cells, Pt.slots] at X1001 l1001 y1001 z1001 st1001 hQ1001
  subst l1001 y1001 z1001
  obtain ⟨rfl, N1001q, e1001⟩ := hQ1001
  have N1001 := Fr.app N0 N1001q
  refine OEnds.st (fun _ k => st1001.trans k) ?_
  show OEnds p.tables e below G (T1001.setTop (mkF m 21 #[.val (.ref a1), .val (.ref a1)] [(.int (1 : Int32))]))
  rw [← hG]
  refine OEnds.retZ X1001 hx hlk Bd.returns rfl (hb hby d12_21) (by decide) (by decide) ?_
  rw [e1001]
  exact ⟨rfl, N1001, rfl⟩
theorem d15_0 : decode prog_112_method_12_code 0 = .ok (.aload_n 0, 1) := by decide +kernel
theorem d15_1 : decode prog_112_method_12_code 1 = .ok (.getfield 16, 3) := by decide +kernel
theorem d15_4 : decode prog_112_method_12_code 4 = .ok (.ireturn, 1) := by decide +kernel
theorem ef_15 (m : MethodId) (a1 : Addr) : entryFrame m #[(.ref a1)] 1 = mkF m 0 #[.val (.ref a1)] [] := by first | (simp [entryFrame, mkF, argsToLocals, Value.category]; done) | rfl
def Q15 (Z : State) (a1 : Addr) (h0 : Heap) (n0 : Nat) (v : Option Value) (h : Heap) (L : List Loc) : Prop := v = some (.int (1 : Int32)) ∧ Fr n0 L ∧ h = h0
set_option maxRecDepth 65536 in
set_option maxHeartbeats 40000000 in
theorem rm15 (l : Launch) (Z : State) (a0 : Array Value) (hw : ∀ d ∈ tables_1, d.before a0 Z = true) (ws : List Jvm.Cond) (a1 : Addr) (h0 : Heap) (n0 : Nat) (Z0 : n0 ≤ h0.size) (F : Fld Z h0 a1 "com/example/coracle_health/coraclehealth/staff/FormField" "secret" "Z" (.int (1 : Int32))) :
    MetFree l (⟨"com/example/coracle_health/coraclehealth/staff/FormField", "secret", "()Z"⟩ : MethodName) (head1 (Jvm.Cond.code (⟨"com/example/coracle_health/coraclehealth/staff/FormField", "secret", "()Z"⟩ : MethodName) prog_112_method_12_code 1 (some .boolean) :: ws) ({ frames := 0, cells := 0, slots := 0, locals := 0 } : Room)) (fun a U => a = #[(.ref a1)] ∧ Z.Warmed39 U.vm ∧ U.heap = h0) (fun _ _ _ _ _ => True) (fun _ U o U' => ∃ v L, o = .returned v ∧ Q15 Z a1 h0 n0 v U'.heap L ∧ FrameEnd U o U' L ({ frames := 0, cells := 0, slots := 0, locals := 0 } : Room).cells ({ frames := 0, cells := 0, slots := 0, locals := 0 } : Room).slots) := by
  refine MetFree.of_bodySF (plainFor_of_name pn_4) hisR ?_
  intro p e s m args below meth c s₁ Bd hml0 hP hK
  obtain ⟨rfl, hZ, hh⟩ := hP
  have hx := Bd.exec
  have hby := Bd.bytes
  have hml : c.maxLocals = 1 := hml0
  have hown : s.vm.findClass "com/example/coracle_health/coraclehealth/staff/FormField" = some m.cls := findClass_of_methodNamed Bd.named
  have hnm := (name_of_methodNamed Bd.named Bd.method).1
  have hlk : meth.locks = false := BodyLoose.notSynchronized Bd
  have X0 : Stand p l e ({ frames := 0, cells := 0, slots := 0, locals := 0 } : Room) s m #[(.ref a1)] below meth c s₁ [] 0 0 := Stand.of_body Bd
  have e0 : s₁.heap = h0 := by rw [← hh, Bd.state]; rfl
  have N0 := Fr.nil n0
  show OEnds p.tables e below (OGoal (Q15 Z a1 h0 n0) s 0 0) (s₁.setTop (entryFrame m #[(.ref a1)] 1))
  refine OEnds.st (fun t k => castTop (ef_15 m a1) k) ?_
  generalize hG : OGoal (Q15 Z a1 h0 n0) s 0 0 = G
  have KK0 : Keep h0 h0 [] := Keep.refl h0 []
  show OEnds p.tables e below G (s₁.setTop (mkF m 0 #[.val (.ref a1)] []))
  refine OEnds.st (fun _ k => XS.aloadN X0.here hx rfl (hb hby d15_0) rfl rfl k) ?_
  show OEnds p.tables e below G (s₁.setTop (mkF m 1 #[.val (.ref a1)] [(.ref a1)]))
  obtain ⟨T1001, X1001, e1001, st1001⟩ := getF X0 hx hZ hown (host := "") (Or.inl (hw _ (List.mem_of_getElem? (i := 53) rfl))) Via.refl e0 F (g := (mkF m 1 #[.val (.ref a1)] [(.ref a1)])) rfl rfl (hb hby d15_1)
  refine OEnds.st st1001 ?_
  show OEnds p.tables e below G (T1001.setTop (mkF m 4 #[.val (.ref a1)] [(.int (1 : Int32))]))
  rw [← hG]
  refine OEnds.retZ X1001 hx hlk Bd.returns rfl (hb hby d15_4) (by decide) (by decide) ?_
  rw [e1001]
  exact ⟨rfl, N0, rfl⟩
theorem d16_0 : decode prog_112_method_13_code 0 = .ok (.aload_n 0, 1) := by decide +kernel
theorem d16_1 : decode prog_112_method_13_code 1 = .ok (.getfield 20, 3) := by decide +kernel
theorem d16_4 : decode prog_112_method_13_code 4 = .ok (.ireturn, 1) := by decide +kernel
theorem ef_16 (m : MethodId) (a1 : Addr) : entryFrame m #[(.ref a1)] 1 = mkF m 0 #[.val (.ref a1)] [] := by first | (simp [entryFrame, mkF, argsToLocals, Value.category]; done) | rfl
def Q16 (Z : State) (a1 : Addr) (w : Int32) (h0 : Heap) (n0 : Nat) (v : Option Value) (h : Heap) (L : List Loc) : Prop := v = some (.int w) ∧ Fr n0 L ∧ h = h0
set_option maxRecDepth 65536 in
set_option maxHeartbeats 40000000 in
theorem rm16 (l : Launch) (Z : State) (a0 : Array Value) (hw : ∀ d ∈ tables_1, d.before a0 Z = true) (ws : List Jvm.Cond) (a1 : Addr) (w : Int32) (h0 : Heap) (n0 : Nat) (Z0 : n0 ≤ h0.size) (F : Fld Z h0 a1 "com/example/coracle_health/coraclehealth/staff/FormField" "minLength" "I" (.int w)) :
    MetFree l (⟨"com/example/coracle_health/coraclehealth/staff/FormField", "minLength", "()I"⟩ : MethodName) (head1 (Jvm.Cond.code (⟨"com/example/coracle_health/coraclehealth/staff/FormField", "minLength", "()I"⟩ : MethodName) prog_112_method_13_code 1 (some .int) :: ws) ({ frames := 0, cells := 0, slots := 0, locals := 0 } : Room)) (fun a U => a = #[(.ref a1)] ∧ Z.Warmed39 U.vm ∧ U.heap = h0) (fun _ _ _ _ _ => True) (fun _ U o U' => ∃ v L, o = .returned v ∧ Q16 Z a1 w h0 n0 v U'.heap L ∧ FrameEnd U o U' L ({ frames := 0, cells := 0, slots := 0, locals := 0 } : Room).cells ({ frames := 0, cells := 0, slots := 0, locals := 0 } : Room).slots) := by
  refine MetFree.of_bodySF (plainFor_of_name pn_4) hisR ?_
  intro p e s m args below meth c s₁ Bd hml0 hP hK
  obtain ⟨rfl, hZ, hh⟩ := hP
  have hx := Bd.exec
  have hby := Bd.bytes
  have hml : c.maxLocals = 1 := hml0
  have hown : s.vm.findClass "com/example/coracle_health/coraclehealth/staff/FormField" = some m.cls := findClass_of_methodNamed Bd.named
  have hnm := (name_of_methodNamed Bd.named Bd.method).1
  have hlk : meth.locks = false := BodyLoose.notSynchronized Bd
  have X0 : Stand p l e ({ frames := 0, cells := 0, slots := 0, locals := 0 } : Room) s m #[(.ref a1)] below meth c s₁ [] 0 0 := Stand.of_body Bd
  have e0 : s₁.heap = h0 := by rw [← hh, Bd.state]; rfl
  have N0 := Fr.nil n0
  show OEnds p.tables e below (OGoal (Q16 Z a1 w h0 n0) s 0 0) (s₁.setTop (entryFrame m #[(.ref a1)] 1))
  refine OEnds.st (fun t k => castTop (ef_16 m a1) k) ?_
  generalize hG : OGoal (Q16 Z a1 w h0 n0) s 0 0 = G
  have KK0 : Keep h0 h0 [] := Keep.refl h0 []
  show OEnds p.tables e below G (s₁.setTop (mkF m 0 #[.val (.ref a1)] []))
  refine OEnds.st (fun _ k => XS.aloadN X0.here hx rfl (hb hby d16_0) rfl rfl k) ?_
  show OEnds p.tables e below G (s₁.setTop (mkF m 1 #[.val (.ref a1)] [(.ref a1)]))
  obtain ⟨T1001, X1001, e1001, st1001⟩ := getF X0 hx hZ hown (host := "") (Or.inl (hw _ (List.mem_of_getElem? (i := 55) rfl))) Via.refl e0 F (g := (mkF m 1 #[.val (.ref a1)] [(.ref a1)])) rfl rfl (hb hby d16_1)
  refine OEnds.st st1001 ?_
  show OEnds p.tables e below G (T1001.setTop (mkF m 4 #[.val (.ref a1)] [(.int w)]))
  rw [← hG]
  refine OEnds.retI X1001 hx hlk Bd.returns (hb hby d16_4) (by decide) (by decide) ?_
  rw [e1001]
  exact ⟨rfl, N0, rfl⟩
theorem ef_0 (m : MethodId) (p1 : Int32) (p2 : Int32) (p3 : Int32) (p4 : Int32) : entryFrame m #[(.int p1), (.int p2), (.int p3), (.int p4)] maxLocals = mkF m 0 #[.val (.int p1), .val (.int p2), .val (.int p3), .val (.int p4), .unset, .unset, .unset] [] := by first | (simp [entryFrame, mkF, argsToLocals, Value.category, maxLocals]; done) | rfl
def Q0 (Z : State) (p1 : Int32) (p2 : Int32) (p3 : Int32) (p4 : Int32) (w : Int32) (h0 : Heap) (n0 : Nat) (v : Option Value) (h : Heap) (L : List Loc) : Prop := v = some (.int (1 : Int32)) ∧ Fr n0 L
theorem pd_8 : parseMethodDescriptor "(II)Ljava/lang/String;" = some ⟨[.int, .int], some (.object "java/lang/String")⟩ := by decide +kernel
theorem pd_9 : parseMethodDescriptor "(Ljava/lang/String;Ljava/lang/String;I)Lcom/example/coracle_health/coraclehealth/staff/FormField;" = some ⟨[(.object "java/lang/String"), (.object "java/lang/String"), .int], some (.object "com/example/coracle_health/coraclehealth/staff/FormField")⟩ := by decide +kernel
theorem pd_10 : parseMethodDescriptor "()Ljava/lang/String;" = some ⟨[], some (.object "java/lang/String")⟩ := by decide +kernel
theorem pd_11 : parseMethodDescriptor "(Ljava/lang/String;Ljava/lang/String;)Z" = some ⟨[(.object "java/lang/String"), (.object "java/lang/String")], some .boolean⟩ := by decide +kernel
theorem pd_12 : parseMethodDescriptor "()Z" = some ⟨[], some .boolean⟩ := by decide +kernel
theorem pd_13 : parseMethodDescriptor "()I" = some ⟨[], some .int⟩ := by decide +kernel
set_option maxRecDepth 65536 in
set_option maxHeartbeats 40000000 in
theorem rm0 (l : Launch) (Z : State) (a0 : Array Value) (hw : ∀ d ∈ tables_1, d.before a0 Z = true) (ws : List Jvm.Cond) (p1 : Int32) (p2 : Int32) (p3 : Int32) (p4 : Int32) (w : Int32) (h0 : Heap) (n0 : Nat) (Z0 : n0 ≤ h0.size) (Sc : Sta Z h0 "java/lang/String" "COMPACT_STRINGS" "Z" (.int w)) (hw0 : ¬ (w = (0 : Int32))) :
    MetFree l x (head1 (Jvm.Cond.code x code maxLocals ret :: ws) room_1) (fun a U => a = #[(.int p1), (.int p2), (.int p3), (.int p4)] ∧ Z.Warmed39 U.vm ∧ U.heap = h0) (fun _ _ _ _ _ => True) (fun _ U o U' => ∃ v L, o = .returned v ∧ Q0 Z p1 p2 p3 p4 w h0 n0 v U'.heap L ∧ FrameEnd U o U' L room_1.cells room_1.slots) := by
  refine MetFree.of_bodySF (plainFor_of_name pn_2) hisR ?_
  intro p e s m args below meth c s₁ Bd hml0 hP hK
  obtain ⟨rfl, hZ, hh⟩ := hP
  have hx := Bd.exec
  have hby := Bd.bytes
  have hml : c.maxLocals = 7 := hml0
  have hown : s.vm.findClass "com/example/coracle_health/coraclehealth/staff/FormFieldSecretPinLaw" = some m.cls := findClass_of_methodNamed Bd.named
  have hnm := (name_of_methodNamed Bd.named Bd.method).1
  have hlk : meth.locks = false := BodyLoose.notSynchronized Bd
  have X0 : Stand p l e room_1 s m #[(.int p1), (.int p2), (.int p3), (.int p4)] below meth c s₁ [] 0 0 := Stand.of_body Bd
  have e0 : s₁.heap = h0 := by rw [← hh, Bd.state]; rfl
  have N0 := Fr.nil n0
  show OEnds p.tables e below (OGoal (Q0 Z p1 p2 p3 p4 w h0 n0) s 24 128) (s₁.setTop (entryFrame m #[(.int p1), (.int p2), (.int p3), (.int p4)] maxLocals))
  refine OEnds.st (fun t k => castTop (ef_0 m p1 p2 p3 p4) k) ?_
  generalize hG : OGoal (Q0 Z p1 p2 p3 p4 w h0 n0) s 24 128 = G
  have KK0 : Keep h0 h0 [] := Keep.refl h0 []
  show OEnds p.tables e below G (s₁.setTop (mkF m 0 #[.val (.int p1), .val (.int p2), .val (.int p3), .val (.int p4), .unset, .unset, .unset] []))
  refine OEnds.st (fun _ k => XS.iloadN X0.here hx rfl (hb hby at_0) rfl k) ?_
  show OEnds p.tables e below G (s₁.setTop (mkF m 1 #[.val (.int p1), .val (.int p2), .val (.int p3), .val (.int p4), .unset, .unset, .unset] [(.int p1)]))
  refine OEnds.st (fun _ k => XS.iloadN X0.here hx rfl (hb hby at_1) rfl k) ?_
  by_cases h_d1 : (p4 &&& (1 : Int32)) = (0 : Int32)
  · -- d1
    show OEnds p.tables e below G (s₁.setTop (mkF m 2 #[.val (.int p1), .val (.int p2), .val (.int p3), .val (.int p4), .unset, .unset, .unset] [(.int p4), (.int p1)]))
    obtain ⟨_, _, ⟨T1001, L1001, k1001c, n1001c⟩, -, X1001, ⟨Lc1001, hQ1001, l1001, y1001, z1001⟩, st1001⟩ := Jvm.LawKit.callS X0 hx (y := (⟨"com/example/coracle_health/coraclehealth/staff/FormFieldSecretPinLaw", "draw", "(II)Ljava/lang/String;"⟩ : MethodName)) hown (mvT hZ (hw _ (List.mem_of_getElem? (i := 0) rfl))) (mvT hZ (hw _ (List.mem_of_getElem? (i := 1) rfl))) (mvT hZ (hw _ (List.mem_of_getElem? (i := 2) rfl))) (mvT hZ (hw _ (List.mem_of_getElem? (i := 3) rfl))) (by decide) (backOf (W := 0) (rmdrawS l Z a0 hw [] p1 p4 w h0 n0 Z0 Sc h_d1 hw0) hZ (hw _ (List.mem_of_getElem? (i := 3) rfl)) (hw _ (List.mem_of_getElem? (i := 2) rfl)) (by decide) (by decide)) (g := (mkF m 2 #[.val (.int p1), .val (.int p2), .val (.int p3), .val (.int p4), .unset, .unset, .unset] [(.int p4), (.int p1)])) rfl (by rw [hml]; rfl) (argsL := [(.int p1), (.int p4)]) (rest := []) (lenOf pd_8 rfl) rfl (by show 2 * 0 + _ ≤ _; exact Nat.le_of_eq rfl) (hb hby at_2) (fun _ _ => ⟨rfl, e0, (by decide : 0 + 3 ≤ _), (by decide : 0 + 8 ≤ _)⟩)
    dsimp only [Pt.U, Pt.locs, Pt.cells, Pt.slots] at X1001 l1001 y1001 z1001 st1001 hQ1001
    subst l1001 y1001 z1001
    obtain ⟨b_1001, rfl, N1001q, p1002, p1003, p1004⟩ := hQ1001
    have N1001 := Fr.app N0 N1001q
    refine OEnds.st st1001 ?_
    have sz_b_1001 : h0.size ≤ b_1001 := Nat.le_trans KK0.1 p1003
    have ge_b_1001 : n0 ≤ b_1001 := Nat.le_trans Z0 p1003
    have f1005 : Sta Z T1001.heap "java/lang/String" "COMPACT_STRINGS" "Z" (.int w) := own_Sta_keep Sc p1002 (fun x hx => absurd hx List.not_mem_nil)
    have KK1001 : Keep h0 T1001.heap [] := KK0.trans p1002 (fun x hx => absurd hx List.not_mem_nil)
    have Z1001 := Nat.le_trans Z0 p1002.1
    show OEnds p.tables e below G (T1001.setTop (mkF m 5 #[.val (.int p1), .val (.int p2), .val (.int p3), .val (.int p4), .unset, .unset, .unset] [(.ref b_1001)]))
    refine OEnds.st (fun _ k => XS.astore X1001.here hx rfl (hb hby at_5) rfl rfl (l' := #[.val (.int p1), .val (.int p2), .val (.int p3), .val (.int p4), .val (.ref b_1001), .unset, .unset]) rfl k) ?_
    show OEnds p.tables e below G (T1001.setTop (mkF m 7 #[.val (.int p1), .val (.int p2), .val (.int p3), .val (.int p4), .val (.ref b_1001), .unset, .unset] []))
    refine OEnds.st (fun _ k => XS.iloadN X1001.here hx rfl (hb hby at_7) rfl k) ?_
    show OEnds p.tables e below G (T1001.setTop (mkF m 8 #[.val (.int p1), .val (.int p2), .val (.int p3), .val (.int p4), .val (.ref b_1001), .unset, .unset] [(.int p2)]))
    refine OEnds.st (fun _ k => XS.iloadN X1001.here hx rfl (hb hby at_8) rfl k) ?_
    show OEnds p.tables e below G (T1001.setTop (mkF m 9 #[.val (.int p1), .val (.int p2), .val (.int p3), .val (.int p4), .val (.ref b_1001), .unset, .unset] [(.int p4), (.int p2)]))
    refine OEnds.st (fun _ k => XS.iconst X1001.here hx rfl (hb hby at_9) k) ?_
    show OEnds p.tables e below G (T1001.setTop (mkF m 10 #[.val (.int p1), .val (.int p2), .val (.int p3), .val (.int p4), .val (.ref b_1001), .unset, .unset] [(.int (1 : Int32)), (.int p4), (.int p2)]))
    refine OEnds.st (fun _ k => XS.iushr X1001.here hx rfl (hb hby at_10) rfl k) ?_
    by_cases h_d2 : (((p4.toUInt32 >>> ((1 : Int32) &&& 31).toUInt32).toInt32) &&& (1 : Int32)) = (0 : Int32)
    · -- d2
      show OEnds p.tables e below G (T1001.setTop (mkF m 11 #[.val (.int p1), .val (.int p2), .val (.int p3), .val (.int p4), .val (.ref b_1001), .unset, .unset] [(.int ((p4.toUInt32 >>> ((1 : Int32) &&& 31).toUInt32).toInt32)), (.int p2)]))
      obtain ⟨_, _, ⟨T1006, L1006, k1006c, n1006c⟩, -, X1006, ⟨Lc1006, hQ1006, l1006, y1006, z1006⟩, st1006⟩ := Jvm.LawKit.callS X1001 hx (y := (⟨"com/example/coracle_health/coraclehealth/staff/FormFieldSecretPinLaw", "draw", "(II)Ljava/lang/String;"⟩ : MethodName)) hown (mvT hZ (hw _ (List.mem_of_getElem? (i := 0) rfl))) (mvT hZ (hw _ (List.mem_of_getElem? (i := 1) rfl))) (mvT hZ (hw _ (List.mem_of_getElem? (i := 2) rfl))) (mvT hZ (hw _ (List.mem_of_getElem? (i := 3) rfl))) (by decide) (backOf (W := 0) (rmdrawS l Z a0 hw [] p2 ((p4.toUInt32 >>> ((1 : Int32) &&& 31).toUInt32).toInt32) w T1001.heap n0 Z1001 f1005 h_d2 hw0) hZ (hw _ (List.mem_of_getElem? (i := 3) rfl)) (hw _ (List.mem_of_getElem? (i := 2) rfl)) (by decide) (by decide)) (g := (mkF m 11 #[.val (.int p1), .val (.int p2), .val (.int p3), .val (.int p4), .val (.ref b_1001), .unset, .unset] [(.int ((p4.toUInt32 >>> ((1 : Int32) &&& 31).toUInt32).toInt32)), (.int p2)])) rfl (by rw [hml]; rfl) (argsL := [(.int p2), (.int ((p4.toUInt32 >>> ((1 : Int32) &&& 31).toUInt32).toInt32))]) (rest := []) (lenOf pd_8 rfl) rfl (by show 2 * 0 + _ ≤ _; exact Nat.le_of_eq rfl) (hb hby at_11) (fun _ _ => ⟨rfl, rfl, (by decide : 0 + 3 + 3 ≤ _), (by decide : 0 + 8 + 8 ≤ _)⟩)
      dsimp only [Pt.U, Pt.locs, Pt.cells, Pt.slots] at X1006 l1006 y1006 z1006 st1006 hQ1006
      subst l1006 y1006 z1006
      obtain ⟨b_1006, rfl, N1006q, p1007, p1008, p1009⟩ := hQ1006
      have N1006 := Fr.app N1001 N1006q
      refine OEnds.st st1006 ?_
      have ne1010 : b_1001 ≠ b_1006 := Nat.ne_of_lt (Nat.lt_of_lt_of_le (p1004).lt p1008)
      have sz_b_1006 : h0.size ≤ b_1006 := Nat.le_trans KK1001.1 p1008
      have ge_b_1006 : n0 ≤ b_1006 := Nat.le_trans Z1001 p1008
      have f1011 : Sta Z T1006.heap "java/lang/String" "COMPACT_STRINGS" "Z" (.int w) := own_Sta_keep f1005 p1007 (fun x hx => absurd hx List.not_mem_nil)
      have f1012 : Exa Z T1006.heap b_1001 "java/lang/String" := p1004.keep p1007
      have KK1006 : Keep h0 T1006.heap [] := KK1001.trans p1007 (fun x hx => absurd hx List.not_mem_nil)
      have Z1006 := Nat.le_trans Z1001 p1007.1
      show OEnds p.tables e below G (T1006.setTop (mkF m 14 #[.val (.int p1), .val (.int p2), .val (.int p3), .val (.int p4), .val (.ref b_1001), .unset, .unset] [(.ref b_1006)]))
      refine OEnds.st (fun _ k => XS.astore X1006.here hx rfl (hb hby at_14) rfl rfl (l' := #[.val (.int p1), .val (.int p2), .val (.int p3), .val (.int p4), .val (.ref b_1001), .val (.ref b_1006), .unset]) rfl k) ?_
      show OEnds p.tables e below G (T1006.setTop (mkF m 16 #[.val (.int p1), .val (.int p2), .val (.int p3), .val (.int p4), .val (.ref b_1001), .val (.ref b_1006), .unset] []))
      refine OEnds.st (fun _ k => XS.aload X1006.here hx rfl (hb hby at_16) rfl rfl k) ?_
      show OEnds p.tables e below G (T1006.setTop (mkF m 18 #[.val (.int p1), .val (.int p2), .val (.int p3), .val (.int p4), .val (.ref b_1001), .val (.ref b_1006), .unset] [(.ref b_1001)]))
      refine OEnds.st (fun _ k => XS.aload X1006.here hx rfl (hb hby at_18) rfl rfl k) ?_
      show OEnds p.tables e below G (T1006.setTop (mkF m 20 #[.val (.int p1), .val (.int p2), .val (.int p3), .val (.int p4), .val (.ref b_1001), .val (.ref b_1006), .unset] [(.ref b_1006), (.ref b_1001)]))
      refine OEnds.st (fun _ k => XS.iloadN X1006.here hx rfl (hb hby at_20) rfl k) ?_
      show OEnds p.tables e below G (T1006.setTop (mkF m 21 #[.val (.int p1), .val (.int p2), .val (.int p3), .val (.int p4), .val (.ref b_1001), .val (.ref b_1006), .unset] [(.int p3), (.ref b_1006), (.ref b_1001)]))
      obtain ⟨_, _, ⟨T1013, L1013, k1013c, n1013c⟩, -, X1013, ⟨Lc1013, hQ1013, l1013, y1013, z1013⟩, st1013⟩ := Jvm.LawKit.callS X1006 hx (y := (⟨"com/example/coracle_health/coraclehealth/staff/FormField", "secret", "(Ljava/lang/String;Ljava/lang/String;I)Lcom/example/coracle_health/coraclehealth/staff/FormField;"⟩ : MethodName)) hown (mvT hZ (hw _ (List.mem_of_getElem? (i := 34) rfl))) (mvT hZ (hw _ (List.mem_of_getElem? (i := 35) rfl))) (mvT hZ (hw _ (List.mem_of_getElem? (i := 36) rfl))) (mvT hZ (hw _ (List.mem_of_getElem? (i := 37) rfl))) (by decide) (backOf (W := 0) (rmffs11 l Z a0 hw [] b_1001 b_1006 p3 T1006.heap n0 Z1006 ) hZ (hw _ (List.mem_of_getElem? (i := 37) rfl)) (hw _ (List.mem_of_getElem? (i := 36) rfl)) (by decide) (by decide)) (g := (mkF m 21 #[.val (.int p1), .val (.int p2), .val (.int p3), .val (.int p4), .val (.ref b_1001), .val (.ref b_1006), .unset] [(.int p3), (.ref b_1006), (.ref b_1001)])) rfl (by rw [hml]; rfl) (argsL := [(.ref b_1001), (.ref b_1006), (.int p3)]) (rest := []) (lenOf pd_9 rfl) rfl (by show 2 * 0 + _ ≤ _; exact Nat.le_of_eq rfl) (hb hby at_21) (fun _ _ => ⟨rfl, rfl, (by decide : 0 + 3 + 3 + 1 ≤ _), (by decide : 0 + 8 + 8 + 4 ≤ _)⟩)
      dsimp only [Pt.U, Pt.locs, Pt.cells, Pt.slots] at X1013 l1013 y1013 z1013 st1013 hQ1013
      subst l1013 y1013 z1013
      obtain ⟨b_1013, rfl, N1013q, p1014, p1015, p1016, p1017, p1018, p1019, p1020⟩ := hQ1013
      have N1013 := Fr.app N1006 N1013q
      refine OEnds.st st1013 ?_
      have ne1021 : b_1001 ≠ b_1013 := Nat.ne_of_lt (Nat.lt_of_lt_of_le (f1012).lt p1015)
      have ne1022 : b_1006 ≠ b_1013 := Nat.ne_of_lt (Nat.lt_of_lt_of_le (p1009).lt p1015)
      have sz_b_1013 : h0.size ≤ b_1013 := Nat.le_trans KK1006.1 p1015
      have ge_b_1013 : n0 ≤ b_1013 := Nat.le_trans Z1006 p1015
      have f1023 : Sta Z T1013.heap "java/lang/String" "COMPACT_STRINGS" "Z" (.int w) := own_Sta_keep f1011 p1014 (fun x hx => absurd hx List.not_mem_nil)
      have f1024 : Exa Z T1013.heap b_1001 "java/lang/String" := f1012.keep p1014
      have f1025 : Exa Z T1013.heap b_1006 "java/lang/String" := p1009.keep p1014
      have KK1013 : Keep h0 T1013.heap [] := KK1006.trans p1014 (fun x hx => absurd hx List.not_mem_nil)
      have Z1013 := Nat.le_trans Z1006 p1014.1
      show OEnds p.tables e below G (T1013.setTop (mkF m 24 #[.val (.int p1), .val (.int p2), .val (.int p3), .val (.int p4), .val (.ref b_1001), .val (.ref b_1006), .unset] [(.ref b_1013)]))
      refine OEnds.st (fun _ k => XS.astore X1013.here hx rfl (hb hby at_24) rfl rfl (l' := #[.val (.int p1), .val (.int p2), .val (.int p3), .val (.int p4), .val (.ref b_1001), .val (.ref b_1006), .val (.ref b_1013)]) rfl k) ?_
      show OEnds p.tables e below G (T1013.setTop (mkF m 26 #[.val (.int p1), .val (.int p2), .val (.int p3), .val (.int p4), .val (.ref b_1001), .val (.ref b_1006), .val (.ref b_1013)] []))
      refine OEnds.st (fun _ k => XS.aload X1013.here hx rfl (hb hby at_26) rfl rfl k) ?_
      show OEnds p.tables e below G (T1013.setTop (mkF m 28 #[.val (.int p1), .val (.int p2), .val (.int p3), .val (.int p4), .val (.ref b_1001), .val (.ref b_1006), .val (.ref b_1013)] [(.ref b_1013)]))
      refine OEnds.st (fun _ k => XS.ifnullNo X1013.here hx rfl (hb hby at_28) rfl k) ?_
      show OEnds p.tables e below G (T1013.setTop (mkF m 31 #[.val (.int p1), .val (.int p2), .val (.int p3), .val (.int p4), .val (.ref b_1001), .val (.ref b_1006), .val (.ref b_1013)] []))
      refine OEnds.st (fun _ k => XS.aload X1013.here hx rfl (hb hby at_31) rfl rfl k) ?_
      show OEnds p.tables e below G (T1013.setTop (mkF m 33 #[.val (.int p1), .val (.int p2), .val (.int p3), .val (.int p4), .val (.ref b_1001), .val (.ref b_1006), .val (.ref b_1013)] [(.ref b_1013)]))
      obtain ⟨cq1026, kq1026, q1026a, q1026b, q1026c⟩ := isOf hZ rfl p1016
      obtain ⟨_, _, ⟨T1026, L1026, k1026c, n1026c⟩, -, X1026, ⟨Lc1026, hQ1026, l1026, y1026, z1026⟩, st1026⟩ := X1013.virtualBack hx (y := (⟨"com/example/coracle_health/coraclehealth/staff/FormField", "fieldName", "()Ljava/lang/String;"⟩ : MethodName)) (z := (⟨"com/example/coracle_health/coraclehealth/staff/FormField", "fieldName", "()Ljava/lang/String;"⟩ : MethodName)) hown (mvT hZ (hw _ (List.mem_of_getElem? (i := 57) rfl))) (mvT hZ (hw _ (List.mem_of_getElem? (i := 58) rfl))) (notFace_of_selects (args := #[]) (mvT hZ (hw _ (List.mem_of_getElem? (i := 60) rfl)))) (mvT hZ (hw _ (List.mem_of_getElem? (i := 60) rfl))) (mvT hZ (hw _ (List.mem_of_getElem? (i := 59) rfl))) (by decide) (backOf (W := 0) (rmgetfieldName1 l Z a0 hw [] b_1013 b_1001 T1013.heap n0 Z1013 p1017) hZ (hw _ (List.mem_of_getElem? (i := 61) rfl)) (hw _ (List.mem_of_getElem? (i := 36) rfl)) (by decide) (by decide)) q1026a q1026c (g := (mkF m 33 #[.val (.int p1), .val (.int p2), .val (.int p3), .val (.int p4), .val (.ref b_1001), .val (.ref b_1006), .val (.ref b_1013)] [(.ref b_1013)])) rfl (by rw [hml]; rfl) (Steps.refl _) (argsL := []) (rest := []) (lenOf pd_10 rfl) rfl (by show 2 * 0 + _ ≤ _; exact Nat.le_of_eq rfl) (hb hby at_33) (fun _ _ => ⟨rfl, rfl, (by decide : 0 + 3 + 3 + 1 + 0 ≤ _), (by decide : 0 + 8 + 8 + 4 + 0 ≤ _)⟩)
      dsimp only [Pt.U, Pt.locs, Pt.cells, Pt.slots] at X1026 l1026 y1026 z1026 st1026 hQ1026
      subst l1026 y1026 z1026
      obtain ⟨rfl, N1026q, e1026⟩ := hQ1026
      have N1026 := Fr.app N1013 N1026q
      refine OEnds.st (fun _ k => st1026.trans k) ?_
      show OEnds p.tables e below G (T1026.setTop (mkF m 36 #[.val (.int p1), .val (.int p2), .val (.int p3), .val (.int p4), .val (.ref b_1001), .val (.ref b_1006), .val (.ref b_1013)] [(.ref b_1001)]))
      refine OEnds.st (fun _ k => XS.aload X1026.here hx rfl (hb hby at_36) rfl rfl k) ?_
      show OEnds p.tables e below G (T1026.setTop (mkF m 38 #[.val (.int p1), .val (.int p2), .val (.int p3), .val (.int p4), .val (.ref b_1001), .val (.ref b_1006), .val (.ref b_1013)] [(.ref b_1001), (.ref b_1001)]))
      obtain ⟨_, _, ⟨T1027, L1027, k1027c, n1027c⟩, -, X1027, ⟨Lc1027, hQ1027, l1027, y1027, z1027⟩, st1027⟩ := Jvm.LawKit.callS X1026 hx (y := (⟨"com/example/coracle_health/coraclehealth/staff/FormFieldSecretPinLaw", "same", "(Ljava/lang/String;Ljava/lang/String;)Z"⟩ : MethodName)) hown (mvT hZ (hw _ (List.mem_of_getElem? (i := 62) rfl))) (mvT hZ (hw _ (List.mem_of_getElem? (i := 63) rfl))) (mvT hZ (hw _ (List.mem_of_getElem? (i := 2) rfl))) (mvT hZ (hw _ (List.mem_of_getElem? (i := 64) rfl))) (by decide) (backOf (W := 0) (rmsame1 l Z a0 hw [] b_1001 T1013.heap n0 Z1013 f1024) hZ (hw _ (List.mem_of_getElem? (i := 64) rfl)) (hw _ (List.mem_of_getElem? (i := 2) rfl)) (by decide) (by decide)) (g := (mkF m 38 #[.val (.int p1), .val (.int p2), .val (.int p3), .val (.int p4), .val (.ref b_1001), .val (.ref b_1006), .val (.ref b_1013)] [(.ref b_1001), (.ref b_1001)])) rfl (by rw [hml]; rfl) (argsL := [(.ref b_1001), (.ref b_1001)]) (rest := []) (lenOf pd_11 rfl) rfl (by show 2 * 0 + _ ≤ _; exact Nat.le_of_eq rfl) (hb hby at_38) (fun _ _ => ⟨rfl, e1026, (by decide : 0 + 3 + 3 + 1 + 0 + 0 ≤ _), (by decide : 0 + 8 + 8 + 4 + 0 + 0 ≤ _)⟩)
      dsimp only [Pt.U, Pt.locs, Pt.cells, Pt.slots] at X1027 l1027 y1027 z1027 st1027 hQ1027
      subst l1027 y1027 z1027
      obtain ⟨rfl, N1027q, e1027⟩ := hQ1027
      have N1027 := Fr.app N1026 N1027q
      refine OEnds.st st1027 ?_
      show OEnds p.tables e below G (T1027.setTop (mkF m 41 #[.val (.int p1), .val (.int p2), .val (.int p3), .val (.int p4), .val (.ref b_1001), .val (.ref b_1006), .val (.ref b_1013)] [(.int (1 : Int32))]))
      refine OEnds.st (fun _ k => XS.ifNo X1027.here hx rfl (hb hby at_41) rfl ((if0 _ _).trans (feq (by decide : ¬ ((1 : Int32) = (0 : Int32)))).1) k) ?_
      show OEnds p.tables e below G (T1027.setTop (mkF m 44 #[.val (.int p1), .val (.int p2), .val (.int p3), .val (.int p4), .val (.ref b_1001), .val (.ref b_1006), .val (.ref b_1013)] []))
      refine OEnds.st (fun _ k => XS.aload X1027.here hx rfl (hb hby at_44) rfl rfl k) ?_
      show OEnds p.tables e below G (T1027.setTop (mkF m 46 #[.val (.int p1), .val (.int p2), .val (.int p3), .val (.int p4), .val (.ref b_1001), .val (.ref b_1006), .val (.ref b_1013)] [(.ref b_1013)]))
      obtain ⟨cq1028, kq1028, q1028a, q1028b, q1028c⟩ := isOf hZ e1027 p1016
      obtain ⟨_, _, ⟨T1028, L1028, k1028c, n1028c⟩, -, X1028, ⟨Lc1028, hQ1028, l1028, y1028, z1028⟩, st1028⟩ := X1027.virtualBack hx (y := (⟨"com/example/coracle_health/coraclehealth/staff/FormField", "name", "()Ljava/lang/String;"⟩ : MethodName)) (z := (⟨"com/example/coracle_health/coraclehealth/staff/FormField", "name", "()Ljava/lang/String;"⟩ : MethodName)) hown (mvT hZ (hw _ (List.mem_of_getElem? (i := 65) rfl))) (mvT hZ (hw _ (List.mem_of_getElem? (i := 66) rfl))) (notFace_of_selects (args := #[]) (mvT hZ (hw _ (List.mem_of_getElem? (i := 68) rfl)))) (mvT hZ (hw _ (List.mem_of_getElem? (i := 68) rfl))) (mvT hZ (hw _ (List.mem_of_getElem? (i := 67) rfl))) (by decide) (backOf (W := 0) (rmgetname1 l Z a0 hw [] b_1013 b_1006 T1013.heap n0 Z1013 p1018) hZ (hw _ (List.mem_of_getElem? (i := 69) rfl)) (hw _ (List.mem_of_getElem? (i := 36) rfl)) (by decide) (by decide)) q1028a q1028c (g := (mkF m 46 #[.val (.int p1), .val (.int p2), .val (.int p3), .val (.int p4), .val (.ref b_1001), .val (.ref b_1006), .val (.ref b_1013)] [(.ref b_1013)])) rfl (by rw [hml]; rfl) (Steps.refl _) (argsL := []) (rest := []) (lenOf pd_10 rfl) rfl (by show 2 * 0 + _ ≤ _; exact Nat.le_of_eq rfl) (hb hby at_46) (fun _ _ => ⟨rfl, e1027, (by decide : 0 + 3 + 3 + 1 + 0 + 0 + 0 ≤ _), (by decide : 0 + 8 + 8 + 4 + 0 + 0 + 0 ≤ _)⟩)
      dsimp only [Pt.U, Pt.locs, Pt.cells, Pt.slots] at X1028 l1028 y1028 z1028 st1028 hQ1028
      subst l1028 y1028 z1028
      obtain ⟨rfl, N1028q, e1028⟩ := hQ1028
      have N1028 := Fr.app N1027 N1028q
      refine OEnds.st (fun _ k => st1028.trans k) ?_
      show OEnds p.tables e below G (T1028.setTop (mkF m 49 #[.val (.int p1), .val (.int p2), .val (.int p3), .val (.int p4), .val (.ref b_1001), .val (.ref b_1006), .val (.ref b_1013)] [(.ref b_1006)]))
      refine OEnds.st (fun _ k => XS.aload X1028.here hx rfl (hb hby at_49) rfl rfl k) ?_
      show OEnds p.tables e below G (T1028.setTop (mkF m 51 #[.val (.int p1), .val (.int p2), .val (.int p3), .val (.int p4), .val (.ref b_1001), .val (.ref b_1006), .val (.ref b_1013)] [(.ref b_1006), (.ref b_1006)]))
      obtain ⟨_, _, ⟨T1029, L1029, k1029c, n1029c⟩, -, X1029, ⟨Lc1029, hQ1029, l1029, y1029, z1029⟩, st1029⟩ := Jvm.LawKit.callS X1028 hx (y := (⟨"com/example/coracle_health/coraclehealth/staff/FormFieldSecretPinLaw", "same", "(Ljava/lang/String;Ljava/lang/String;)Z"⟩ : MethodName)) hown (mvT hZ (hw _ (List.mem_of_getElem? (i := 62) rfl))) (mvT hZ (hw _ (List.mem_of_getElem? (i := 63) rfl))) (mvT hZ (hw _ (List.mem_of_getElem? (i := 2) rfl))) (mvT hZ (hw _ (List.mem_of_getElem? (i := 64) rfl))) (by decide) (backOf (W := 0) (rmsame1 l Z a0 hw [] b_1006 T1013.heap n0 Z1013 f1025) hZ (hw _ (List.mem_of_getElem? (i := 64) rfl)) (hw _ (List.mem_of_getElem? (i := 2) rfl)) (by decide) (by decide)) (g := (mkF m 51 #[.val (.int p1), .val (.int p2), .val (.int p3), .val (.int p4), .val (.ref b_1001), .val (.ref b_1006), .val (.ref b_1013)] [(.ref b_1006), (.ref b_1006)])) rfl (by rw [hml]; rfl) (argsL := [(.ref b_1006), (.ref b_1006)]) (rest := []) (lenOf pd_11 rfl) rfl (by show 2 * 0 + _ ≤ _; exact Nat.le_of_eq rfl) (hb hby at_51) (fun _ _ => ⟨rfl, e1028, (by decide : 0 + 3 + 3 + 1 + 0 + 0 + 0 + 0 ≤ _), (by decide : 0 + 8 + 8 + 4 + 0 + 0 + 0 + 0 ≤ _)⟩)
      dsimp only [Pt.U, Pt.locs, Pt.cells, Pt.slots] at X1029 l1029 y1029 z1029 st1029 hQ1029
      subst l1029 y1029 z1029
      obtain ⟨rfl, N1029q, e1029⟩ := hQ1029
      have N1029 := Fr.app N1028 N1029q
      refine OEnds.st st1029 ?_
      show OEnds p.tables e below G (T1029.setTop (mkF m 54 #[.val (.int p1), .val (.int p2), .val (.int p3), .val (.int p4), .val (.ref b_1001), .val (.ref b_1006), .val (.ref b_1013)] [(.int (1 : Int32))]))
      refine OEnds.st (fun _ k => XS.ifNo X1029.here hx rfl (hb hby at_54) rfl ((if0 _ _).trans (feq (by decide : ¬ ((1 : Int32) = (0 : Int32)))).1) k) ?_
      show OEnds p.tables e below G (T1029.setTop (mkF m 57 #[.val (.int p1), .val (.int p2), .val (.int p3), .val (.int p4), .val (.ref b_1001), .val (.ref b_1006), .val (.ref b_1013)] []))
      refine OEnds.st (fun _ k => XS.aload X1029.here hx rfl (hb hby at_57) rfl rfl k) ?_
      show OEnds p.tables e below G (T1029.setTop (mkF m 59 #[.val (.int p1), .val (.int p2), .val (.int p3), .val (.int p4), .val (.ref b_1001), .val (.ref b_1006), .val (.ref b_1013)] [(.ref b_1013)]))
      obtain ⟨cq1030, kq1030, q1030a, q1030b, q1030c⟩ := isOf hZ e1029 p1016
      obtain ⟨_, _, ⟨T1030, L1030, k1030c, n1030c⟩, -, X1030, ⟨Lc1030, hQ1030, l1030, y1030, z1030⟩, st1030⟩ := X1029.virtualBack hx (y := (⟨"com/example/coracle_health/coraclehealth/staff/FormField", "secret", "()Z"⟩ : MethodName)) (z := (⟨"com/example/coracle_health/coraclehealth/staff/FormField", "secret", "()Z"⟩ : MethodName)) hown (mvT hZ (hw _ (List.mem_of_getElem? (i := 75) rfl))) (mvT hZ (hw _ (List.mem_of_getElem? (i := 76) rfl))) (notFace_of_selects (args := #[]) (mvT hZ (hw _ (List.mem_of_getElem? (i := 78) rfl)))) (mvT hZ (hw _ (List.mem_of_getElem? (i := 78) rfl))) (mvT hZ (hw _ (List.mem_of_getElem? (i := 77) rfl))) (by decide) (backOf (W := 0) (rm15 l Z a0 hw [] b_1013 T1013.heap n0 Z1013 p1019) hZ (hw _ (List.mem_of_getElem? (i := 79) rfl)) (hw _ (List.mem_of_getElem? (i := 36) rfl)) (by decide) (by decide)) q1030a q1030c (g := (mkF m 59 #[.val (.int p1), .val (.int p2), .val (.int p3), .val (.int p4), .val (.ref b_1001), .val (.ref b_1006), .val (.ref b_1013)] [(.ref b_1013)])) rfl (by rw [hml]; rfl) (Steps.refl _) (argsL := []) (rest := []) (lenOf pd_12 rfl) rfl (by show 2 * 0 + _ ≤ _; exact Nat.le_of_eq rfl) (hb hby at_59) (fun _ _ => ⟨rfl, e1029, (by decide : 0 + 3 + 3 + 1 + 0 + 0 + 0 + 0 + 0 ≤ _), (by decide : 0 + 8 + 8 + 4 + 0 + 0 + 0 + 0 + 0 ≤ _)⟩)
      dsimp only [Pt.U, Pt.locs, Pt.cells, Pt.slots] at X1030 l1030 y1030 z1030 st1030 hQ1030
      subst l1030 y1030 z1030
      obtain ⟨rfl, N1030q, e1030⟩ := hQ1030
      have N1030 := Fr.app N1029 N1030q
      refine OEnds.st (fun _ k => st1030.trans k) ?_
      show OEnds p.tables e below G (T1030.setTop (mkF m 62 #[.val (.int p1), .val (.int p2), .val (.int p3), .val (.int p4), .val (.ref b_1001), .val (.ref b_1006), .val (.ref b_1013)] [(.int (1 : Int32))]))
      refine OEnds.st (fun _ k => XS.ifNo X1030.here hx rfl (hb hby at_62) rfl ((if0 _ _).trans (feq (by decide : ¬ ((1 : Int32) = (0 : Int32)))).1) k) ?_
      show OEnds p.tables e below G (T1030.setTop (mkF m 65 #[.val (.int p1), .val (.int p2), .val (.int p3), .val (.int p4), .val (.ref b_1001), .val (.ref b_1006), .val (.ref b_1013)] []))
      refine OEnds.st (fun _ k => XS.aload X1030.here hx rfl (hb hby at_65) rfl rfl k) ?_
      show OEnds p.tables e below G (T1030.setTop (mkF m 67 #[.val (.int p1), .val (.int p2), .val (.int p3), .val (.int p4), .val (.ref b_1001), .val (.ref b_1006), .val (.ref b_1013)] [(.ref b_1013)]))
      obtain ⟨cq1031, kq1031, q1031a, q1031b, q1031c⟩ := isOf hZ e1030 p1016
      obtain ⟨_, _, ⟨T1031, L1031, k1031c, n1031c⟩, -, X1031, ⟨Lc1031, hQ1031, l1031, y1031, z1031⟩, st1031⟩ := X1030.virtualBack hx (y := (⟨"com/example/coracle_health/coraclehealth/staff/FormField", "minLength", "()I"⟩ : MethodName)) (z := (⟨"com/example/coracle_health/coraclehealth/staff/FormField", "minLength", "()I"⟩ : MethodName)) hown (mvT hZ (hw _ (List.mem_of_getElem? (i := 80) rfl))) (mvT hZ (hw _ (List.mem_of_getElem? (i := 81) rfl))) (notFace_of_selects (args := #[]) (mvT hZ (hw _ (List.mem_of_getElem? (i := 83) rfl)))) (mvT hZ (hw _ (List.mem_of_getElem? (i := 83) rfl))) (mvT hZ (hw _ (List.mem_of_getElem? (i := 82) rfl))) (by decide) (backOf (W := 0) (rm16 l Z a0 hw [] b_1013 p3 T1013.heap n0 Z1013 p1020) hZ (hw _ (List.mem_of_getElem? (i := 84) rfl)) (hw _ (List.mem_of_getElem? (i := 36) rfl)) (by decide) (by decide)) q1031a q1031c (g := (mkF m 67 #[.val (.int p1), .val (.int p2), .val (.int p3), .val (.int p4), .val (.ref b_1001), .val (.ref b_1006), .val (.ref b_1013)] [(.ref b_1013)])) rfl (by rw [hml]; rfl) (Steps.refl _) (argsL := []) (rest := []) (lenOf pd_13 rfl) rfl (by show 2 * 0 + _ ≤ _; exact Nat.le_of_eq rfl) (hb hby at_67) (fun _ _ => ⟨rfl, e1030, (by decide : 0 + 3 + 3 + 1 + 0 + 0 + 0 + 0 + 0 + 0 ≤ _), (by decide : 0 + 8 + 8 + 4 + 0 + 0 + 0 + 0 + 0 + 0 ≤ _)⟩)
      dsimp only [Pt.U, Pt.locs, Pt.cells, Pt.slots] at X1031 l1031 y1031 z1031 st1031 hQ1031
      subst l1031 y1031 z1031
      obtain ⟨rfl, N1031q, e1031⟩ := hQ1031
      have N1031 := Fr.app N1030 N1031q
      refine OEnds.st (fun _ k => st1031.trans k) ?_
      show OEnds p.tables e below G (T1031.setTop (mkF m 70 #[.val (.int p1), .val (.int p2), .val (.int p3), .val (.int p4), .val (.ref b_1001), .val (.ref b_1006), .val (.ref b_1013)] [(.int p3)]))
      refine OEnds.st (fun _ k => XS.iloadN X1031.here hx rfl (hb hby at_70) rfl k) ?_
      show OEnds p.tables e below G (T1031.setTop (mkF m 71 #[.val (.int p1), .val (.int p2), .val (.int p3), .val (.int p4), .val (.ref b_1001), .val (.ref b_1006), .val (.ref b_1013)] [(.int p3), (.int p3)]))
      refine OEnds.st (fun _ k => XS.icmpNo X1031.here hx rfl (hb hby at_71) rfl (teq (rfl : p3 = p3)).2 k) ?_
      show OEnds p.tables e below G (T1031.setTop (mkF m 74 #[.val (.int p1), .val (.int p2), .val (.int p3), .val (.int p4), .val (.ref b_1001), .val (.ref b_1006), .val (.ref b_1013)] []))
      refine OEnds.st (fun _ k => XS.iconst X1031.here hx rfl (hb hby at_74) k) ?_
      show OEnds p.tables e below G (T1031.setTop (mkF m 75 #[.val (.int p1), .val (.int p2), .val (.int p3), .val (.int p4), .val (.ref b_1001), .val (.ref b_1006), .val (.ref b_1013)] [(.int (1 : Int32))]))
      refine OEnds.st (fun _ k => XS.goto X1031.here hx rfl (pc0 := 75) (pc' := 79) rfl (hb hby at_75) (by decide) (by decide) k) ?_
      show OEnds p.tables e below G (T1031.setTop (mkF m 79 #[.val (.int p1), .val (.int p2), .val (.int p3), .val (.int p4), .val (.ref b_1001), .val (.ref b_1006), .val (.ref b_1013)] [(.int (1 : Int32))]))
      rw [← hG]
      refine OEnds.retZ X1031 hx hlk Bd.returns rfl (hb hby at_79) (by decide) (by decide) ?_
      rw [e1031]
      exact ⟨rfl, N1031⟩
    · -- d2
      show OEnds p.tables e below G (T1001.setTop (mkF m 11 #[.val (.int p1), .val (.int p2), .val (.int p3), .val (.int p4), .val (.ref b_1001), .unset, .unset] [(.int ((p4.toUInt32 >>> ((1 : Int32) &&& 31).toUInt32).toInt32)), (.int p2)]))
      obtain ⟨_, _, ⟨T1032, L1032, k1032c, n1032c⟩, -, X1032, ⟨Lc1032, hQ1032, l1032, y1032, z1032⟩, st1032⟩ := Jvm.LawKit.callS X1001 hx (y := (⟨"com/example/coracle_health/coraclehealth/staff/FormFieldSecretPinLaw", "draw", "(II)Ljava/lang/String;"⟩ : MethodName)) hown (mvT hZ (hw _ (List.mem_of_getElem? (i := 0) rfl))) (mvT hZ (hw _ (List.mem_of_getElem? (i := 1) rfl))) (mvT hZ (hw _ (List.mem_of_getElem? (i := 2) rfl))) (mvT hZ (hw _ (List.mem_of_getElem? (i := 3) rfl))) (by decide) (backOf (W := 0) (rmdrawN l Z a0 hw [] p2 ((p4.toUInt32 >>> ((1 : Int32) &&& 31).toUInt32).toInt32) T1001.heap n0 Z1001 h_d2) hZ (hw _ (List.mem_of_getElem? (i := 3) rfl)) (hw _ (List.mem_of_getElem? (i := 2) rfl)) (by decide) (by decide)) (g := (mkF m 11 #[.val (.int p1), .val (.int p2), .val (.int p3), .val (.int p4), .val (.ref b_1001), .unset, .unset] [(.int ((p4.toUInt32 >>> ((1 : Int32) &&& 31).toUInt32).toInt32)), (.int p2)])) rfl (by rw [hml]; rfl) (argsL := [(.int p2), (.int ((p4.toUInt32 >>> ((1 : Int32) &&& 31).toUInt32).toInt32))]) (rest := []) (lenOf pd_8 rfl) rfl (by show 2 * 0 + _ ≤ _; exact Nat.le_of_eq rfl) (hb hby at_11) (fun _ _ => ⟨rfl, rfl, (by decide : 0 + 3 + 0 ≤ _), (by decide : 0 + 8 + 0 ≤ _)⟩)
      dsimp only [Pt.U, Pt.locs, Pt.cells, Pt.slots] at X1032 l1032 y1032 z1032 st1032 hQ1032
      subst l1032 y1032 z1032
      obtain ⟨rfl, N1032q, e1032⟩ := hQ1032
      have N1032 := Fr.app N1001 N1032q
      refine OEnds.st st1032 ?_
      show OEnds p.tables e below G (T1032.setTop (mkF m 14 #[.val (.int p1), .val (.int p2), .val (.int p3), .val (.int p4), .val (.ref b_1001), .unset, .unset] [.null]))
      refine OEnds.st (fun _ k => XS.astore X1032.here hx rfl (hb hby at_14) rfl rfl (l' := #[.val (.int p1), .val (.int p2), .val (.int p3), .val (.int p4), .val (.ref b_1001), .val .null, .unset]) rfl k) ?_
      show OEnds p.tables e below G (T1032.setTop (mkF m 16 #[.val (.int p1), .val (.int p2), .val (.int p3), .val (.int p4), .val (.ref b_1001), .val .null, .unset] []))
      refine OEnds.st (fun _ k => XS.aload X1032.here hx rfl (hb hby at_16) rfl rfl k) ?_
      show OEnds p.tables e below G (T1032.setTop (mkF m 18 #[.val (.int p1), .val (.int p2), .val (.int p3), .val (.int p4), .val (.ref b_1001), .val .null, .unset] [(.ref b_1001)]))
      refine OEnds.st (fun _ k => XS.aload X1032.here hx rfl (hb hby at_18) rfl rfl k) ?_
      show OEnds p.tables e below G (T1032.setTop (mkF m 20 #[.val (.int p1), .val (.int p2), .val (.int p3), .val (.int p4), .val (.ref b_1001), .val .null, .unset] [.null, (.ref b_1001)]))
      refine OEnds.st (fun _ k => XS.iloadN X1032.here hx rfl (hb hby at_20) rfl k) ?_
      show OEnds p.tables e below G (T1032.setTop (mkF m 21 #[.val (.int p1), .val (.int p2), .val (.int p3), .val (.int p4), .val (.ref b_1001), .val .null, .unset] [(.int p3), .null, (.ref b_1001)]))
      obtain ⟨_, _, ⟨T1033, L1033, k1033c, n1033c⟩, -, X1033, ⟨Lc1033, hQ1033, l1033, y1033, z1033⟩, st1033⟩ := Jvm.LawKit.callS X1032 hx (y := (⟨"com/example/coracle_health/coraclehealth/staff/FormField", "secret", "(Ljava/lang/String;Ljava/lang/String;I)Lcom/example/coracle_health/coraclehealth/staff/FormField;"⟩ : MethodName)) hown (mvT hZ (hw _ (List.mem_of_getElem? (i := 34) rfl))) (mvT hZ (hw _ (List.mem_of_getElem? (i := 35) rfl))) (mvT hZ (hw _ (List.mem_of_getElem? (i := 36) rfl))) (mvT hZ (hw _ (List.mem_of_getElem? (i := 37) rfl))) (by decide) (backOf (W := 0) (rmffs10 l Z a0 hw [] b_1001 p3 T1001.heap n0 Z1001 ) hZ (hw _ (List.mem_of_getElem? (i := 37) rfl)) (hw _ (List.mem_of_getElem? (i := 36) rfl)) (by decide) (by decide)) (g := (mkF m 21 #[.val (.int p1), .val (.int p2), .val (.int p3), .val (.int p4), .val (.ref b_1001), .val .null, .unset] [(.int p3), .null, (.ref b_1001)])) rfl (by rw [hml]; rfl) (argsL := [(.ref b_1001), .null, (.int p3)]) (rest := []) (lenOf pd_9 rfl) rfl (by show 2 * 0 + _ ≤ _; exact Nat.le_of_eq rfl) (hb hby at_21) (fun _ _ => ⟨rfl, e1032, (by decide : 0 + 3 + 0 + 1 ≤ _), (by decide : 0 + 8 + 0 + 4 ≤ _)⟩)
      dsimp only [Pt.U, Pt.locs, Pt.cells, Pt.slots] at X1033 l1033 y1033 z1033 st1033 hQ1033
      subst l1033 y1033 z1033
      obtain ⟨b_1033, rfl, N1033q, p1034, p1035, p1036, p1037, p1038, p1039, p1040⟩ := hQ1033
      have N1033 := Fr.app N1032 N1033q
      refine OEnds.st st1033 ?_
      have ne1041 : b_1001 ≠ b_1033 := Nat.ne_of_lt (Nat.lt_of_lt_of_le (p1004).lt p1035)
      have sz_b_1033 : h0.size ≤ b_1033 := Nat.le_trans KK1001.1 p1035
      have ge_b_1033 : n0 ≤ b_1033 := Nat.le_trans Z1001 p1035
      have f1042 : Sta Z T1033.heap "java/lang/String" "COMPACT_STRINGS" "Z" (.int w) := own_Sta_keep f1005 p1034 (fun x hx => absurd hx List.not_mem_nil)
      have f1043 : Exa Z T1033.heap b_1001 "java/lang/String" := p1004.keep p1034
      have KK1033 : Keep h0 T1033.heap [] := KK1001.trans p1034 (fun x hx => absurd hx List.not_mem_nil)
      have Z1033 := Nat.le_trans Z1001 p1034.1
      show OEnds p.tables e below G (T1033.setTop (mkF m 24 #[.val (.int p1), .val (.int p2), .val (.int p3), .val (.int p4), .val (.ref b_1001), .val .null, .unset] [(.ref b_1033)]))
      refine OEnds.st (fun _ k => XS.astore X1033.here hx rfl (hb hby at_24) rfl rfl (l' := #[.val (.int p1), .val (.int p2), .val (.int p3), .val (.int p4), .val (.ref b_1001), .val .null, .val (.ref b_1033)]) rfl k) ?_
      show OEnds p.tables e below G (T1033.setTop (mkF m 26 #[.val (.int p1), .val (.int p2), .val (.int p3), .val (.int p4), .val (.ref b_1001), .val .null, .val (.ref b_1033)] []))
      refine OEnds.st (fun _ k => XS.aload X1033.here hx rfl (hb hby at_26) rfl rfl k) ?_
      show OEnds p.tables e below G (T1033.setTop (mkF m 28 #[.val (.int p1), .val (.int p2), .val (.int p3), .val (.int p4), .val (.ref b_1001), .val .null, .val (.ref b_1033)] [(.ref b_1033)]))
      refine OEnds.st (fun _ k => XS.ifnullNo X1033.here hx rfl (hb hby at_28) rfl k) ?_
      show OEnds p.tables e below G (T1033.setTop (mkF m 31 #[.val (.int p1), .val (.int p2), .val (.int p3), .val (.int p4), .val (.ref b_1001), .val .null, .val (.ref b_1033)] []))
      refine OEnds.st (fun _ k => XS.aload X1033.here hx rfl (hb hby at_31) rfl rfl k) ?_
      show OEnds p.tables e below G (T1033.setTop (mkF m 33 #[.val (.int p1), .val (.int p2), .val (.int p3), .val (.int p4), .val (.ref b_1001), .val .null, .val (.ref b_1033)] [(.ref b_1033)]))
      obtain ⟨cq1044, kq1044, q1044a, q1044b, q1044c⟩ := isOf hZ rfl p1036
      obtain ⟨_, _, ⟨T1044, L1044, k1044c, n1044c⟩, -, X1044, ⟨Lc1044, hQ1044, l1044, y1044, z1044⟩, st1044⟩ := X1033.virtualBack hx (y := (⟨"com/example/coracle_health/coraclehealth/staff/FormField", "fieldName", "()Ljava/lang/String;"⟩ : MethodName)) (z := (⟨"com/example/coracle_health/coraclehealth/staff/FormField", "fieldName", "()Ljava/lang/String;"⟩ : MethodName)) hown (mvT hZ (hw _ (List.mem_of_getElem? (i := 57) rfl))) (mvT hZ (hw _ (List.mem_of_getElem? (i := 58) rfl))) (notFace_of_selects (args := #[]) (mvT hZ (hw _ (List.mem_of_getElem? (i := 60) rfl)))) (mvT hZ (hw _ (List.mem_of_getElem? (i := 60) rfl))) (mvT hZ (hw _ (List.mem_of_getElem? (i := 59) rfl))) (by decide) (backOf (W := 0) (rmgetfieldName1 l Z a0 hw [] b_1033 b_1001 T1033.heap n0 Z1033 p1037) hZ (hw _ (List.mem_of_getElem? (i := 61) rfl)) (hw _ (List.mem_of_getElem? (i := 36) rfl)) (by decide) (by decide)) q1044a q1044c (g := (mkF m 33 #[.val (.int p1), .val (.int p2), .val (.int p3), .val (.int p4), .val (.ref b_1001), .val .null, .val (.ref b_1033)] [(.ref b_1033)])) rfl (by rw [hml]; rfl) (Steps.refl _) (argsL := []) (rest := []) (lenOf pd_10 rfl) rfl (by show 2 * 0 + _ ≤ _; exact Nat.le_of_eq rfl) (hb hby at_33) (fun _ _ => ⟨rfl, rfl, (by decide : 0 + 3 + 0 + 1 + 0 ≤ _), (by decide : 0 + 8 + 0 + 4 + 0 ≤ _)⟩)
      dsimp only [Pt.U, Pt.locs, Pt.cells, Pt.slots] at X1044 l1044 y1044 z1044 st1044 hQ1044
      subst l1044 y1044 z1044
      obtain ⟨rfl, N1044q, e1044⟩ := hQ1044
      have N1044 := Fr.app N1033 N1044q
      refine OEnds.st (fun _ k => st1044.trans k) ?_
      show OEnds p.tables e below G (T1044.setTop (mkF m 36 #[.val (.int p1), .val (.int p2), .val (.int p3), .val (.int p4), .val (.ref b_1001), .val .null, .val (.ref b_1033)] [(.ref b_1001)]))
      refine OEnds.st (fun _ k => XS.aload X1044.here hx rfl (hb hby at_36) rfl rfl k) ?_
      show OEnds p.tables e below G (T1044.setTop (mkF m 38 #[.val (.int p1), .val (.int p2), .val (.int p3), .val (.int p4), .val (.ref b_1001), .val .null, .val (.ref b_1033)] [(.ref b_1001), (.ref b_1001)]))
      obtain ⟨_, _, ⟨T1045, L1045, k1045c, n1045c⟩, -, X1045, ⟨Lc1045, hQ1045, l1045, y1045, z1045⟩, st1045⟩ := Jvm.LawKit.callS X1044 hx (y := (⟨"com/example/coracle_health/coraclehealth/staff/FormFieldSecretPinLaw", "same", "(Ljava/lang/String;Ljava/lang/String;)Z"⟩ : MethodName)) hown (mvT hZ (hw _ (List.mem_of_getElem? (i := 62) rfl))) (mvT hZ (hw _ (List.mem_of_getElem? (i := 63) rfl))) (mvT hZ (hw _ (List.mem_of_getElem? (i := 2) rfl))) (mvT hZ (hw _ (List.mem_of_getElem? (i := 64) rfl))) (by decide) (backOf (W := 0) (rmsame1 l Z a0 hw [] b_1001 T1033.heap n0 Z1033 f1043) hZ (hw _ (List.mem_of_getElem? (i := 64) rfl)) (hw _ (List.mem_of_getElem? (i := 2) rfl)) (by decide) (by decide)) (g := (mkF m 38 #[.val (.int p1), .val (.int p2), .val (.int p3), .val (.int p4), .val (.ref b_1001), .val .null, .val (.ref b_1033)] [(.ref b_1001), (.ref b_1001)])) rfl (by rw [hml]; rfl) (argsL := [(.ref b_1001), (.ref b_1001)]) (rest := []) (lenOf pd_11 rfl) rfl (by show 2 * 0 + _ ≤ _; exact Nat.le_of_eq rfl) (hb hby at_38) (fun _ _ => ⟨rfl, e1044, (by decide : 0 + 3 + 0 + 1 + 0 + 0 ≤ _), (by decide : 0 + 8 + 0 + 4 + 0 + 0 ≤ _)⟩)
      dsimp only [Pt.U, Pt.locs, Pt.cells, Pt.slots] at X1045 l1045 y1045 z1045 st1045 hQ1045
      subst l1045 y1045 z1045
      obtain ⟨rfl, N1045q, e1045⟩ := hQ1045
      have N1045 := Fr.app N1044 N1045q
      refine OEnds.st st1045 ?_
      show OEnds p.tables e below G (T1045.setTop (mkF m 41 #[.val (.int p1), .val (.int p2), .val (.int p3), .val (.int p4), .val (.ref b_1001), .val .null, .val (.ref b_1033)] [(.int (1 : Int32))]))
      refine OEnds.st (fun _ k => XS.ifNo X1045.here hx rfl (hb hby at_41) rfl ((if0 _ _).trans (feq (by decide : ¬ ((1 : Int32) = (0 : Int32)))).1) k) ?_
      show OEnds p.tables e below G (T1045.setTop (mkF m 44 #[.val (.int p1), .val (.int p2), .val (.int p3), .val (.int p4), .val (.ref b_1001), .val .null, .val (.ref b_1033)] []))
      refine OEnds.st (fun _ k => XS.aload X1045.here hx rfl (hb hby at_44) rfl rfl k) ?_
      show OEnds p.tables e below G (T1045.setTop (mkF m 46 #[.val (.int p1), .val (.int p2), .val (.int p3), .val (.int p4), .val (.ref b_1001), .val .null, .val (.ref b_1033)] [(.ref b_1033)]))
      obtain ⟨cq1046, kq1046, q1046a, q1046b, q1046c⟩ := isOf hZ e1045 p1036
      obtain ⟨_, _, ⟨T1046, L1046, k1046c, n1046c⟩, -, X1046, ⟨Lc1046, hQ1046, l1046, y1046, z1046⟩, st1046⟩ := X1045.virtualBack hx (y := (⟨"com/example/coracle_health/coraclehealth/staff/FormField", "name", "()Ljava/lang/String;"⟩ : MethodName)) (z := (⟨"com/example/coracle_health/coraclehealth/staff/FormField", "name", "()Ljava/lang/String;"⟩ : MethodName)) hown (mvT hZ (hw _ (List.mem_of_getElem? (i := 65) rfl))) (mvT hZ (hw _ (List.mem_of_getElem? (i := 66) rfl))) (notFace_of_selects (args := #[]) (mvT hZ (hw _ (List.mem_of_getElem? (i := 68) rfl)))) (mvT hZ (hw _ (List.mem_of_getElem? (i := 68) rfl))) (mvT hZ (hw _ (List.mem_of_getElem? (i := 67) rfl))) (by decide) (backOf (W := 0) (rmgetname0 l Z a0 hw [] b_1033 T1033.heap n0 Z1033 p1038) hZ (hw _ (List.mem_of_getElem? (i := 69) rfl)) (hw _ (List.mem_of_getElem? (i := 36) rfl)) (by decide) (by decide)) q1046a q1046c (g := (mkF m 46 #[.val (.int p1), .val (.int p2), .val (.int p3), .val (.int p4), .val (.ref b_1001), .val .null, .val (.ref b_1033)] [(.ref b_1033)])) rfl (by rw [hml]; rfl) (Steps.refl _) (argsL := []) (rest := []) (lenOf pd_10 rfl) rfl (by show 2 * 0 + _ ≤ _; exact Nat.le_of_eq rfl) (hb hby at_46) (fun _ _ => ⟨rfl, e1045, (by decide : 0 + 3 + 0 + 1 + 0 + 0 + 0 ≤ _), (by decide : 0 + 8 + 0 + 4 + 0 + 0 + 0 ≤ _)⟩)
      dsimp only [Pt.U, Pt.locs, Pt.cells, Pt.slots] at X1046 l1046 y1046 z1046 st1046 hQ1046
      subst l1046 y1046 z1046
      obtain ⟨rfl, N1046q, e1046⟩ := hQ1046
      have N1046 := Fr.app N1045 N1046q
      refine OEnds.st (fun _ k => st1046.trans k) ?_
      show OEnds p.tables e below G (T1046.setTop (mkF m 49 #[.val (.int p1), .val (.int p2), .val (.int p3), .val (.int p4), .val (.ref b_1001), .val .null, .val (.ref b_1033)] [.null]))
      refine OEnds.st (fun _ k => XS.aload X1046.here hx rfl (hb hby at_49) rfl rfl k) ?_
      show OEnds p.tables e below G (T1046.setTop (mkF m 51 #[.val (.int p1), .val (.int p2), .val (.int p3), .val (.int p4), .val (.ref b_1001), .val .null, .val (.ref b_1033)] [.null, .null]))
      obtain ⟨_, _, ⟨T1047, L1047, k1047c, n1047c⟩, -, X1047, ⟨Lc1047, hQ1047, l1047, y1047, z1047⟩, st1047⟩ := Jvm.LawKit.callS X1046 hx (y := (⟨"com/example/coracle_health/coraclehealth/staff/FormFieldSecretPinLaw", "same", "(Ljava/lang/String;Ljava/lang/String;)Z"⟩ : MethodName)) hown (mvT hZ (hw _ (List.mem_of_getElem? (i := 62) rfl))) (mvT hZ (hw _ (List.mem_of_getElem? (i := 63) rfl))) (mvT hZ (hw _ (List.mem_of_getElem? (i := 2) rfl))) (mvT hZ (hw _ (List.mem_of_getElem? (i := 64) rfl))) (by decide) (backOf (W := 0) (rmsame0 l Z a0 hw []  T1033.heap n0 Z1033 ) hZ (hw _ (List.mem_of_getElem? (i := 64) rfl)) (hw _ (List.mem_of_getElem? (i := 2) rfl)) (by decide) (by decide)) (g := (mkF m 51 #[.val (.int p1), .val (.int p2), .val (.int p3), .val (.int p4), .val (.ref b_1001), .val .null, .val (.ref b_1033)] [.null, .null])) rfl (by rw [hml]; rfl) (argsL := [.null, .null]) (rest := []) (lenOf pd_11 rfl) rfl (by show 2 * 0 + _ ≤ _; exact Nat.le_of_eq rfl) (hb hby at_51) (fun _ _ => ⟨rfl, e1046, (by decide : 0 + 3 + 0 + 1 + 0 + 0 + 0 + 0 ≤ _), (by decide : 0 + 8 + 0 + 4 + 0 + 0 + 0 + 0 ≤ _)⟩)
      dsimp only [Pt.U, Pt.locs, Pt.cells, Pt.slots] at X1047 l1047 y1047 z1047 st1047 hQ1047
      subst l1047 y1047 z1047
      obtain ⟨rfl, N1047q, e1047⟩ := hQ1047
      have N1047 := Fr.app N1046 N1047q
      refine OEnds.st st1047 ?_
      show OEnds p.tables e below G (T1047.setTop (mkF m 54 #[.val (.int p1), .val (.int p2), .val (.int p3), .val (.int p4), .val (.ref b_1001), .val .null, .val (.ref b_1033)] [(.int (1 : Int32))]))
      refine OEnds.st (fun _ k => XS.ifNo X1047.here hx rfl (hb hby at_54) rfl ((if0 _ _).trans (feq (by decide : ¬ ((1 : Int32) = (0 : Int32)))).1) k) ?_
      show OEnds p.tables e below G (T1047.setTop (mkF m 57 #[.val (.int p1), .val (.int p2), .val (.int p3), .val (.int p4), .val (.ref b_1001), .val .null, .val (.ref b_1033)] []))
      refine OEnds.st (fun _ k => XS.aload X1047.here hx rfl (hb hby at_57) rfl rfl k) ?_
      show OEnds p.tables e below G (T1047.setTop (mkF m 59 #[.val (.int p1), .val (.int p2), .val (.int p3), .val (.int p4), .val (.ref b_1001), .val .null, .val (.ref b_1033)] [(.ref b_1033)]))
      obtain ⟨cq1048, kq1048, q1048a, q1048b, q1048c⟩ := isOf hZ e1047 p1036
      obtain ⟨_, _, ⟨T1048, L1048, k1048c, n1048c⟩, -, X1048, ⟨Lc1048, hQ1048, l1048, y1048, z1048⟩, st1048⟩ := X1047.virtualBack hx (y := (⟨"com/example/coracle_health/coraclehealth/staff/FormField", "secret", "()Z"⟩ : MethodName)) (z := (⟨"com/example/coracle_health/coraclehealth/staff/FormField", "secret", "()Z"⟩ : MethodName)) hown (mvT hZ (hw _ (List.mem_of_getElem? (i := 75) rfl))) (mvT hZ (hw _ (List.mem_of_getElem? (i := 76) rfl))) (notFace_of_selects (args := #[]) (mvT hZ (hw _ (List.mem_of_getElem? (i := 78) rfl)))) (mvT hZ (hw _ (List.mem_of_getElem? (i := 78) rfl))) (mvT hZ (hw _ (List.mem_of_getElem? (i := 77) rfl))) (by decide) (backOf (W := 0) (rm15 l Z a0 hw [] b_1033 T1033.heap n0 Z1033 p1039) hZ (hw _ (List.mem_of_getElem? (i := 79) rfl)) (hw _ (List.mem_of_getElem? (i := 36) rfl)) (by decide) (by decide)) q1048a q1048c (g := (mkF m 59 #[.val (.int p1), .val (.int p2), .val (.int p3), .val (.int p4), .val (.ref b_1001), .val .null, .val (.ref b_1033)] [(.ref b_1033)])) rfl (by rw [hml]; rfl) (Steps.refl _) (argsL := []) (rest := []) (lenOf pd_12 rfl) rfl (by show 2 * 0 + _ ≤ _; exact Nat.le_of_eq rfl) (hb hby at_59) (fun _ _ => ⟨rfl, e1047, (by decide : 0 + 3 + 0 + 1 + 0 + 0 + 0 + 0 + 0 ≤ _), (by decide : 0 + 8 + 0 + 4 + 0 + 0 + 0 + 0 + 0 ≤ _)⟩)
      dsimp only [Pt.U, Pt.locs, Pt.cells, Pt.slots] at X1048 l1048 y1048 z1048 st1048 hQ1048
      subst l1048 y1048 z1048
      obtain ⟨rfl, N1048q, e1048⟩ := hQ1048
      have N1048 := Fr.app N1047 N1048q
      refine OEnds.st (fun _ k => st1048.trans k) ?_
      show OEnds p.tables e below G (T1048.setTop (mkF m 62 #[.val (.int p1), .val (.int p2), .val (.int p3), .val (.int p4), .val (.ref b_1001), .val .null, .val (.ref b_1033)] [(.int (1 : Int32))]))
      refine OEnds.st (fun _ k => XS.ifNo X1048.here hx rfl (hb hby at_62) rfl ((if0 _ _).trans (feq (by decide : ¬ ((1 : Int32) = (0 : Int32)))).1) k) ?_
      show OEnds p.tables e below G (T1048.setTop (mkF m 65 #[.val (.int p1), .val (.int p2), .val (.int p3), .val (.int p4), .val (.ref b_1001), .val .null, .val (.ref b_1033)] []))
      refine OEnds.st (fun _ k => XS.aload X1048.here hx rfl (hb hby at_65) rfl rfl k) ?_
      show OEnds p.tables e below G (T1048.setTop (mkF m 67 #[.val (.int p1), .val (.int p2), .val (.int p3), .val (.int p4), .val (.ref b_1001), .val .null, .val (.ref b_1033)] [(.ref b_1033)]))
      obtain ⟨cq1049, kq1049, q1049a, q1049b, q1049c⟩ := isOf hZ e1048 p1036
      obtain ⟨_, _, ⟨T1049, L1049, k1049c, n1049c⟩, -, X1049, ⟨Lc1049, hQ1049, l1049, y1049, z1049⟩, st1049⟩ := X1048.virtualBack hx (y := (⟨"com/example/coracle_health/coraclehealth/staff/FormField", "minLength", "()I"⟩ : MethodName)) (z := (⟨"com/example/coracle_health/coraclehealth/staff/FormField", "minLength", "()I"⟩ : MethodName)) hown (mvT hZ (hw _ (List.mem_of_getElem? (i := 80) rfl))) (mvT hZ (hw _ (List.mem_of_getElem? (i := 81) rfl))) (notFace_of_selects (args := #[]) (mvT hZ (hw _ (List.mem_of_getElem? (i := 83) rfl)))) (mvT hZ (hw _ (List.mem_of_getElem? (i := 83) rfl))) (mvT hZ (hw _ (List.mem_of_getElem? (i := 82) rfl))) (by decide) (backOf (W := 0) (rm16 l Z a0 hw [] b_1033 p3 T1033.heap n0 Z1033 p1040) hZ (hw _ (List.mem_of_getElem? (i := 84) rfl)) (hw _ (List.mem_of_getElem? (i := 36) rfl)) (by decide) (by decide)) q1049a q1049c (g := (mkF m 67 #[.val (.int p1), .val (.int p2), .val (.int p3), .val (.int p4), .val (.ref b_1001), .val .null, .val (.ref b_1033)] [(.ref b_1033)])) rfl (by rw [hml]; rfl) (Steps.refl _) (argsL := []) (rest := []) (lenOf pd_13 rfl) rfl (by show 2 * 0 + _ ≤ _; exact Nat.le_of_eq rfl) (hb hby at_67) (fun _ _ => ⟨rfl, e1048, (by decide : 0 + 3 + 0 + 1 + 0 + 0 + 0 + 0 + 0 + 0 ≤ _), (by decide : 0 + 8 + 0 + 4 + 0 + 0 + 0 + 0 + 0 + 0 ≤ _)⟩)
      dsimp only [Pt.U, Pt.locs, Pt.cells, Pt.slots] at X1049 l1049 y1049 z1049 st1049 hQ1049
      subst l1049 y1049 z1049
      obtain ⟨rfl, N1049q, e1049⟩ := hQ1049
      have N1049 := Fr.app N1048 N1049q
      refine OEnds.st (fun _ k => st1049.trans k) ?_
      show OEnds p.tables e below G (T1049.setTop (mkF m 70 #[.val (.int p1), .val (.int p2), .val (.int p3), .val (.int p4), .val (.ref b_1001), .val .null, .val (.ref b_1033)] [(.int p3)]))
      refine OEnds.st (fun _ k => XS.iloadN X1049.here hx rfl (hb hby at_70) rfl k) ?_
      show OEnds p.tables e below G (T1049.setTop (mkF m 71 #[.val (.int p1), .val (.int p2), .val (.int p3), .val (.int p4), .val (.ref b_1001), .val .null, .val (.ref b_1033)] [(.int p3), (.int p3)]))
      refine OEnds.st (fun _ k => XS.icmpNo X1049.here hx rfl (hb hby at_71) rfl (teq (rfl : p3 = p3)).2 k) ?_
      show OEnds p.tables e below G (T1049.setTop (mkF m 74 #[.val (.int p1), .val (.int p2), .val (.int p3), .val (.int p4), .val (.ref b_1001), .val .null, .val (.ref b_1033)] []))
      refine OEnds.st (fun _ k => XS.iconst X1049.here hx rfl (hb hby at_74) k) ?_
      show OEnds p.tables e below G (T1049.setTop (mkF m 75 #[.val (.int p1), .val (.int p2), .val (.int p3), .val (.int p4), .val (.ref b_1001), .val .null, .val (.ref b_1033)] [(.int (1 : Int32))]))
      refine OEnds.st (fun _ k => XS.goto X1049.here hx rfl (pc0 := 75) (pc' := 79) rfl (hb hby at_75) (by decide) (by decide) k) ?_
      show OEnds p.tables e below G (T1049.setTop (mkF m 79 #[.val (.int p1), .val (.int p2), .val (.int p3), .val (.int p4), .val (.ref b_1001), .val .null, .val (.ref b_1033)] [(.int (1 : Int32))]))
      rw [← hG]
      refine OEnds.retZ X1049 hx hlk Bd.returns rfl (hb hby at_79) (by decide) (by decide) ?_
      rw [e1049]
      exact ⟨rfl, N1049⟩
  · -- d1
    show OEnds p.tables e below G (s₁.setTop (mkF m 2 #[.val (.int p1), .val (.int p2), .val (.int p3), .val (.int p4), .unset, .unset, .unset] [(.int p4), (.int p1)]))
    obtain ⟨_, _, ⟨T1050, L1050, k1050c, n1050c⟩, -, X1050, ⟨Lc1050, hQ1050, l1050, y1050, z1050⟩, st1050⟩ := Jvm.LawKit.callS X0 hx (y := (⟨"com/example/coracle_health/coraclehealth/staff/FormFieldSecretPinLaw", "draw", "(II)Ljava/lang/String;"⟩ : MethodName)) hown (mvT hZ (hw _ (List.mem_of_getElem? (i := 0) rfl))) (mvT hZ (hw _ (List.mem_of_getElem? (i := 1) rfl))) (mvT hZ (hw _ (List.mem_of_getElem? (i := 2) rfl))) (mvT hZ (hw _ (List.mem_of_getElem? (i := 3) rfl))) (by decide) (backOf (W := 0) (rmdrawN l Z a0 hw [] p1 p4 h0 n0 Z0 h_d1) hZ (hw _ (List.mem_of_getElem? (i := 3) rfl)) (hw _ (List.mem_of_getElem? (i := 2) rfl)) (by decide) (by decide)) (g := (mkF m 2 #[.val (.int p1), .val (.int p2), .val (.int p3), .val (.int p4), .unset, .unset, .unset] [(.int p4), (.int p1)])) rfl (by rw [hml]; rfl) (argsL := [(.int p1), (.int p4)]) (rest := []) (lenOf pd_8 rfl) rfl (by show 2 * 0 + _ ≤ _; exact Nat.le_of_eq rfl) (hb hby at_2) (fun _ _ => ⟨rfl, e0, (by decide : 0 + 0 ≤ _), (by decide : 0 + 0 ≤ _)⟩)
    dsimp only [Pt.U, Pt.locs, Pt.cells, Pt.slots] at X1050 l1050 y1050 z1050 st1050 hQ1050
    subst l1050 y1050 z1050
    obtain ⟨rfl, N1050q, e1050⟩ := hQ1050
    have N1050 := Fr.app N0 N1050q
    refine OEnds.st st1050 ?_
    show OEnds p.tables e below G (T1050.setTop (mkF m 5 #[.val (.int p1), .val (.int p2), .val (.int p3), .val (.int p4), .unset, .unset, .unset] [.null]))
    refine OEnds.st (fun _ k => XS.astore X1050.here hx rfl (hb hby at_5) rfl rfl (l' := #[.val (.int p1), .val (.int p2), .val (.int p3), .val (.int p4), .val .null, .unset, .unset]) rfl k) ?_
    show OEnds p.tables e below G (T1050.setTop (mkF m 7 #[.val (.int p1), .val (.int p2), .val (.int p3), .val (.int p4), .val .null, .unset, .unset] []))
    refine OEnds.st (fun _ k => XS.iloadN X1050.here hx rfl (hb hby at_7) rfl k) ?_
    show OEnds p.tables e below G (T1050.setTop (mkF m 8 #[.val (.int p1), .val (.int p2), .val (.int p3), .val (.int p4), .val .null, .unset, .unset] [(.int p2)]))
    refine OEnds.st (fun _ k => XS.iloadN X1050.here hx rfl (hb hby at_8) rfl k) ?_
    show OEnds p.tables e below G (T1050.setTop (mkF m 9 #[.val (.int p1), .val (.int p2), .val (.int p3), .val (.int p4), .val .null, .unset, .unset] [(.int p4), (.int p2)]))
    refine OEnds.st (fun _ k => XS.iconst X1050.here hx rfl (hb hby at_9) k) ?_
    show OEnds p.tables e below G (T1050.setTop (mkF m 10 #[.val (.int p1), .val (.int p2), .val (.int p3), .val (.int p4), .val .null, .unset, .unset] [(.int (1 : Int32)), (.int p4), (.int p2)]))
    refine OEnds.st (fun _ k => XS.iushr X1050.here hx rfl (hb hby at_10) rfl k) ?_
    by_cases h_d2 : (((p4.toUInt32 >>> ((1 : Int32) &&& 31).toUInt32).toInt32) &&& (1 : Int32)) = (0 : Int32)
    · -- d2
      show OEnds p.tables e below G (T1050.setTop (mkF m 11 #[.val (.int p1), .val (.int p2), .val (.int p3), .val (.int p4), .val .null, .unset, .unset] [(.int ((p4.toUInt32 >>> ((1 : Int32) &&& 31).toUInt32).toInt32)), (.int p2)]))
      obtain ⟨_, _, ⟨T1051, L1051, k1051c, n1051c⟩, -, X1051, ⟨Lc1051, hQ1051, l1051, y1051, z1051⟩, st1051⟩ := Jvm.LawKit.callS X1050 hx (y := (⟨"com/example/coracle_health/coraclehealth/staff/FormFieldSecretPinLaw", "draw", "(II)Ljava/lang/String;"⟩ : MethodName)) hown (mvT hZ (hw _ (List.mem_of_getElem? (i := 0) rfl))) (mvT hZ (hw _ (List.mem_of_getElem? (i := 1) rfl))) (mvT hZ (hw _ (List.mem_of_getElem? (i := 2) rfl))) (mvT hZ (hw _ (List.mem_of_getElem? (i := 3) rfl))) (by decide) (backOf (W := 0) (rmdrawS l Z a0 hw [] p2 ((p4.toUInt32 >>> ((1 : Int32) &&& 31).toUInt32).toInt32) w h0 n0 Z0 Sc h_d2 hw0) hZ (hw _ (List.mem_of_getElem? (i := 3) rfl)) (hw _ (List.mem_of_getElem? (i := 2) rfl)) (by decide) (by decide)) (g := (mkF m 11 #[.val (.int p1), .val (.int p2), .val (.int p3), .val (.int p4), .val .null, .unset, .unset] [(.int ((p4.toUInt32 >>> ((1 : Int32) &&& 31).toUInt32).toInt32)), (.int p2)])) rfl (by rw [hml]; rfl) (argsL := [(.int p2), (.int ((p4.toUInt32 >>> ((1 : Int32) &&& 31).toUInt32).toInt32))]) (rest := []) (lenOf pd_8 rfl) rfl (by show 2 * 0 + _ ≤ _; exact Nat.le_of_eq rfl) (hb hby at_11) (fun _ _ => ⟨rfl, e1050, (by decide : 0 + 0 + 3 ≤ _), (by decide : 0 + 0 + 8 ≤ _)⟩)
      dsimp only [Pt.U, Pt.locs, Pt.cells, Pt.slots] at X1051 l1051 y1051 z1051 st1051 hQ1051
      subst l1051 y1051 z1051
      obtain ⟨b_1051, rfl, N1051q, p1052, p1053, p1054⟩ := hQ1051
      have N1051 := Fr.app N1050 N1051q
      refine OEnds.st st1051 ?_
      have sz_b_1051 : h0.size ≤ b_1051 := Nat.le_trans KK0.1 p1053
      have ge_b_1051 : n0 ≤ b_1051 := Nat.le_trans Z0 p1053
      have f1055 : Sta Z T1051.heap "java/lang/String" "COMPACT_STRINGS" "Z" (.int w) := own_Sta_keep Sc p1052 (fun x hx => absurd hx List.not_mem_nil)
      have KK1051 : Keep h0 T1051.heap [] := KK0.trans p1052 (fun x hx => absurd hx List.not_mem_nil)
      have Z1051 := Nat.le_trans Z0 p1052.1
      show OEnds p.tables e below G (T1051.setTop (mkF m 14 #[.val (.int p1), .val (.int p2), .val (.int p3), .val (.int p4), .val .null, .unset, .unset] [(.ref b_1051)]))
      refine OEnds.st (fun _ k => XS.astore X1051.here hx rfl (hb hby at_14) rfl rfl (l' := #[.val (.int p1), .val (.int p2), .val (.int p3), .val (.int p4), .val .null, .val (.ref b_1051), .unset]) rfl k) ?_
      show OEnds p.tables e below G (T1051.setTop (mkF m 16 #[.val (.int p1), .val (.int p2), .val (.int p3), .val (.int p4), .val .null, .val (.ref b_1051), .unset] []))
      refine OEnds.st (fun _ k => XS.aload X1051.here hx rfl (hb hby at_16) rfl rfl k) ?_
      show OEnds p.tables e below G (T1051.setTop (mkF m 18 #[.val (.int p1), .val (.int p2), .val (.int p3), .val (.int p4), .val .null, .val (.ref b_1051), .unset] [.null]))
      refine OEnds.st (fun _ k => XS.aload X1051.here hx rfl (hb hby at_18) rfl rfl k) ?_
      show OEnds p.tables e below G (T1051.setTop (mkF m 20 #[.val (.int p1), .val (.int p2), .val (.int p3), .val (.int p4), .val .null, .val (.ref b_1051), .unset] [(.ref b_1051), .null]))
      refine OEnds.st (fun _ k => XS.iloadN X1051.here hx rfl (hb hby at_20) rfl k) ?_
      show OEnds p.tables e below G (T1051.setTop (mkF m 21 #[.val (.int p1), .val (.int p2), .val (.int p3), .val (.int p4), .val .null, .val (.ref b_1051), .unset] [(.int p3), (.ref b_1051), .null]))
      obtain ⟨_, _, ⟨T1056, L1056, k1056c, n1056c⟩, -, X1056, ⟨Lc1056, hQ1056, l1056, y1056, z1056⟩, st1056⟩ := Jvm.LawKit.callS X1051 hx (y := (⟨"com/example/coracle_health/coraclehealth/staff/FormField", "secret", "(Ljava/lang/String;Ljava/lang/String;I)Lcom/example/coracle_health/coraclehealth/staff/FormField;"⟩ : MethodName)) hown (mvT hZ (hw _ (List.mem_of_getElem? (i := 34) rfl))) (mvT hZ (hw _ (List.mem_of_getElem? (i := 35) rfl))) (mvT hZ (hw _ (List.mem_of_getElem? (i := 36) rfl))) (mvT hZ (hw _ (List.mem_of_getElem? (i := 37) rfl))) (by decide) (backOf (W := 0) (rmffs01 l Z a0 hw [] b_1051 p3 T1051.heap n0 Z1051 ) hZ (hw _ (List.mem_of_getElem? (i := 37) rfl)) (hw _ (List.mem_of_getElem? (i := 36) rfl)) (by decide) (by decide)) (g := (mkF m 21 #[.val (.int p1), .val (.int p2), .val (.int p3), .val (.int p4), .val .null, .val (.ref b_1051), .unset] [(.int p3), (.ref b_1051), .null])) rfl (by rw [hml]; rfl) (argsL := [.null, (.ref b_1051), (.int p3)]) (rest := []) (lenOf pd_9 rfl) rfl (by show 2 * 0 + _ ≤ _; exact Nat.le_of_eq rfl) (hb hby at_21) (fun _ _ => ⟨rfl, rfl, (by decide : 0 + 0 + 3 + 1 ≤ _), (by decide : 0 + 0 + 8 + 4 ≤ _)⟩)
      dsimp only [Pt.U, Pt.locs, Pt.cells, Pt.slots] at X1056 l1056 y1056 z1056 st1056 hQ1056
      subst l1056 y1056 z1056
      obtain ⟨b_1056, rfl, N1056q, p1057, p1058, p1059, p1060, p1061, p1062, p1063⟩ := hQ1056
      have N1056 := Fr.app N1051 N1056q
      refine OEnds.st st1056 ?_
      have ne1064 : b_1051 ≠ b_1056 := Nat.ne_of_lt (Nat.lt_of_lt_of_le (p1054).lt p1058)
      have sz_b_1056 : h0.size ≤ b_1056 := Nat.le_trans KK1051.1 p1058
      have ge_b_1056 : n0 ≤ b_1056 := Nat.le_trans Z1051 p1058
      have f1065 : Sta Z T1056.heap "java/lang/String" "COMPACT_STRINGS" "Z" (.int w) := own_Sta_keep f1055 p1057 (fun x hx => absurd hx List.not_mem_nil)
      have f1066 : Exa Z T1056.heap b_1051 "java/lang/String" := p1054.keep p1057
      have KK1056 : Keep h0 T1056.heap [] := KK1051.trans p1057 (fun x hx => absurd hx List.not_mem_nil)
      have Z1056 := Nat.le_trans Z1051 p1057.1
      show OEnds p.tables e below G (T1056.setTop (mkF m 24 #[.val (.int p1), .val (.int p2), .val (.int p3), .val (.int p4), .val .null, .val (.ref b_1051), .unset] [(.ref b_1056)]))
      refine OEnds.st (fun _ k => XS.astore X1056.here hx rfl (hb hby at_24) rfl rfl (l' := #[.val (.int p1), .val (.int p2), .val (.int p3), .val (.int p4), .val .null, .val (.ref b_1051), .val (.ref b_1056)]) rfl k) ?_
      show OEnds p.tables e below G (T1056.setTop (mkF m 26 #[.val (.int p1), .val (.int p2), .val (.int p3), .val (.int p4), .val .null, .val (.ref b_1051), .val (.ref b_1056)] []))
      refine OEnds.st (fun _ k => XS.aload X1056.here hx rfl (hb hby at_26) rfl rfl k) ?_
      show OEnds p.tables e below G (T1056.setTop (mkF m 28 #[.val (.int p1), .val (.int p2), .val (.int p3), .val (.int p4), .val .null, .val (.ref b_1051), .val (.ref b_1056)] [(.ref b_1056)]))
      refine OEnds.st (fun _ k => XS.ifnullNo X1056.here hx rfl (hb hby at_28) rfl k) ?_
      show OEnds p.tables e below G (T1056.setTop (mkF m 31 #[.val (.int p1), .val (.int p2), .val (.int p3), .val (.int p4), .val .null, .val (.ref b_1051), .val (.ref b_1056)] []))
      refine OEnds.st (fun _ k => XS.aload X1056.here hx rfl (hb hby at_31) rfl rfl k) ?_
      show OEnds p.tables e below G (T1056.setTop (mkF m 33 #[.val (.int p1), .val (.int p2), .val (.int p3), .val (.int p4), .val .null, .val (.ref b_1051), .val (.ref b_1056)] [(.ref b_1056)]))
      obtain ⟨cq1067, kq1067, q1067a, q1067b, q1067c⟩ := isOf hZ rfl p1059
      obtain ⟨_, _, ⟨T1067, L1067, k1067c, n1067c⟩, -, X1067, ⟨Lc1067, hQ1067, l1067, y1067, z1067⟩, st1067⟩ := X1056.virtualBack hx (y := (⟨"com/example/coracle_health/coraclehealth/staff/FormField", "fieldName", "()Ljava/lang/String;"⟩ : MethodName)) (z := (⟨"com/example/coracle_health/coraclehealth/staff/FormField", "fieldName", "()Ljava/lang/String;"⟩ : MethodName)) hown (mvT hZ (hw _ (List.mem_of_getElem? (i := 57) rfl))) (mvT hZ (hw _ (List.mem_of_getElem? (i := 58) rfl))) (notFace_of_selects (args := #[]) (mvT hZ (hw _ (List.mem_of_getElem? (i := 60) rfl)))) (mvT hZ (hw _ (List.mem_of_getElem? (i := 60) rfl))) (mvT hZ (hw _ (List.mem_of_getElem? (i := 59) rfl))) (by decide) (backOf (W := 0) (rmgetfieldName0 l Z a0 hw [] b_1056 T1056.heap n0 Z1056 p1060) hZ (hw _ (List.mem_of_getElem? (i := 61) rfl)) (hw _ (List.mem_of_getElem? (i := 36) rfl)) (by decide) (by decide)) q1067a q1067c (g := (mkF m 33 #[.val (.int p1), .val (.int p2), .val (.int p3), .val (.int p4), .val .null, .val (.ref b_1051), .val (.ref b_1056)] [(.ref b_1056)])) rfl (by rw [hml]; rfl) (Steps.refl _) (argsL := []) (rest := []) (lenOf pd_10 rfl) rfl (by show 2 * 0 + _ ≤ _; exact Nat.le_of_eq rfl) (hb hby at_33) (fun _ _ => ⟨rfl, rfl, (by decide : 0 + 0 + 3 + 1 + 0 ≤ _), (by decide : 0 + 0 + 8 + 4 + 0 ≤ _)⟩)
      dsimp only [Pt.U, Pt.locs, Pt.cells, Pt.slots] at X1067 l1067 y1067 z1067 st1067 hQ1067
      subst l1067 y1067 z1067
      obtain ⟨rfl, N1067q, e1067⟩ := hQ1067
      have N1067 := Fr.app N1056 N1067q
      refine OEnds.st (fun _ k => st1067.trans k) ?_
      show OEnds p.tables e below G (T1067.setTop (mkF m 36 #[.val (.int p1), .val (.int p2), .val (.int p3), .val (.int p4), .val .null, .val (.ref b_1051), .val (.ref b_1056)] [.null]))
      refine OEnds.st (fun _ k => XS.aload X1067.here hx rfl (hb hby at_36) rfl rfl k) ?_
      show OEnds p.tables e below G (T1067.setTop (mkF m 38 #[.val (.int p1), .val (.int p2), .val (.int p3), .val (.int p4), .val .null, .val (.ref b_1051), .val (.ref b_1056)] [.null, .null]))
      obtain ⟨_, _, ⟨T1068, L1068, k1068c, n1068c⟩, -, X1068, ⟨Lc1068, hQ1068, l1068, y1068, z1068⟩, st1068⟩ := Jvm.LawKit.callS X1067 hx (y := (⟨"com/example/coracle_health/coraclehealth/staff/FormFieldSecretPinLaw", "same", "(Ljava/lang/String;Ljava/lang/String;)Z"⟩ : MethodName)) hown (mvT hZ (hw _ (List.mem_of_getElem? (i := 62) rfl))) (mvT hZ (hw _ (List.mem_of_getElem? (i := 63) rfl))) (mvT hZ (hw _ (List.mem_of_getElem? (i := 2) rfl))) (mvT hZ (hw _ (List.mem_of_getElem? (i := 64) rfl))) (by decide) (backOf (W := 0) (rmsame0 l Z a0 hw []  T1056.heap n0 Z1056 ) hZ (hw _ (List.mem_of_getElem? (i := 64) rfl)) (hw _ (List.mem_of_getElem? (i := 2) rfl)) (by decide) (by decide)) (g := (mkF m 38 #[.val (.int p1), .val (.int p2), .val (.int p3), .val (.int p4), .val .null, .val (.ref b_1051), .val (.ref b_1056)] [.null, .null])) rfl (by rw [hml]; rfl) (argsL := [.null, .null]) (rest := []) (lenOf pd_11 rfl) rfl (by show 2 * 0 + _ ≤ _; exact Nat.le_of_eq rfl) (hb hby at_38) (fun _ _ => ⟨rfl, e1067, (by decide : 0 + 0 + 3 + 1 + 0 + 0 ≤ _), (by decide : 0 + 0 + 8 + 4 + 0 + 0 ≤ _)⟩)
      dsimp only [Pt.U, Pt.locs, Pt.cells, Pt.slots] at X1068 l1068 y1068 z1068 st1068 hQ1068
      subst l1068 y1068 z1068
      obtain ⟨rfl, N1068q, e1068⟩ := hQ1068
      have N1068 := Fr.app N1067 N1068q
      refine OEnds.st st1068 ?_
      show OEnds p.tables e below G (T1068.setTop (mkF m 41 #[.val (.int p1), .val (.int p2), .val (.int p3), .val (.int p4), .val .null, .val (.ref b_1051), .val (.ref b_1056)] [(.int (1 : Int32))]))
      refine OEnds.st (fun _ k => XS.ifNo X1068.here hx rfl (hb hby at_41) rfl ((if0 _ _).trans (feq (by decide : ¬ ((1 : Int32) = (0 : Int32)))).1) k) ?_
      show OEnds p.tables e below G (T1068.setTop (mkF m 44 #[.val (.int p1), .val (.int p2), .val (.int p3), .val (.int p4), .val .null, .val (.ref b_1051), .val (.ref b_1056)] []))
      refine OEnds.st (fun _ k => XS.aload X1068.here hx rfl (hb hby at_44) rfl rfl k) ?_
      show OEnds p.tables e below G (T1068.setTop (mkF m 46 #[.val (.int p1), .val (.int p2), .val (.int p3), .val (.int p4), .val .null, .val (.ref b_1051), .val (.ref b_1056)] [(.ref b_1056)]))
      obtain ⟨cq1069, kq1069, q1069a, q1069b, q1069c⟩ := isOf hZ e1068 p1059
      obtain ⟨_, _, ⟨T1069, L1069, k1069c, n1069c⟩, -, X1069, ⟨Lc1069, hQ1069, l1069, y1069, z1069⟩, st1069⟩ := X1068.virtualBack hx (y := (⟨"com/example/coracle_health/coraclehealth/staff/FormField", "name", "()Ljava/lang/String;"⟩ : MethodName)) (z := (⟨"com/example/coracle_health/coraclehealth/staff/FormField", "name", "()Ljava/lang/String;"⟩ : MethodName)) hown (mvT hZ (hw _ (List.mem_of_getElem? (i := 65) rfl))) (mvT hZ (hw _ (List.mem_of_getElem? (i := 66) rfl))) (notFace_of_selects (args := #[]) (mvT hZ (hw _ (List.mem_of_getElem? (i := 68) rfl)))) (mvT hZ (hw _ (List.mem_of_getElem? (i := 68) rfl))) (mvT hZ (hw _ (List.mem_of_getElem? (i := 67) rfl))) (by decide) (backOf (W := 0) (rmgetname1 l Z a0 hw [] b_1056 b_1051 T1056.heap n0 Z1056 p1061) hZ (hw _ (List.mem_of_getElem? (i := 69) rfl)) (hw _ (List.mem_of_getElem? (i := 36) rfl)) (by decide) (by decide)) q1069a q1069c (g := (mkF m 46 #[.val (.int p1), .val (.int p2), .val (.int p3), .val (.int p4), .val .null, .val (.ref b_1051), .val (.ref b_1056)] [(.ref b_1056)])) rfl (by rw [hml]; rfl) (Steps.refl _) (argsL := []) (rest := []) (lenOf pd_10 rfl) rfl (by show 2 * 0 + _ ≤ _; exact Nat.le_of_eq rfl) (hb hby at_46) (fun _ _ => ⟨rfl, e1068, (by decide : 0 + 0 + 3 + 1 + 0 + 0 + 0 ≤ _), (by decide : 0 + 0 + 8 + 4 + 0 + 0 + 0 ≤ _)⟩)
      dsimp only [Pt.U, Pt.locs, Pt.cells, Pt.slots] at X1069 l1069 y1069 z1069 st1069 hQ1069
      subst l1069 y1069 z1069
      obtain ⟨rfl, N1069q, e1069⟩ := hQ1069
      have N1069 := Fr.app N1068 N1069q
      refine OEnds.st (fun _ k => st1069.trans k) ?_
      show OEnds p.tables e below G (T1069.setTop (mkF m 49 #[.val (.int p1), .val (.int p2), .val (.int p3), .val (.int p4), .val .null, .val (.ref b_1051), .val (.ref b_1056)] [(.ref b_1051)]))
      refine OEnds.st (fun _ k => XS.aload X1069.here hx rfl (hb hby at_49) rfl rfl k) ?_
      show OEnds p.tables e below G (T1069.setTop (mkF m 51 #[.val (.int p1), .val (.int p2), .val (.int p3), .val (.int p4), .val .null, .val (.ref b_1051), .val (.ref b_1056)] [(.ref b_1051), (.ref b_1051)]))
      obtain ⟨_, _, ⟨T1070, L1070, k1070c, n1070c⟩, -, X1070, ⟨Lc1070, hQ1070, l1070, y1070, z1070⟩, st1070⟩ := Jvm.LawKit.callS X1069 hx (y := (⟨"com/example/coracle_health/coraclehealth/staff/FormFieldSecretPinLaw", "same", "(Ljava/lang/String;Ljava/lang/String;)Z"⟩ : MethodName)) hown (mvT hZ (hw _ (List.mem_of_getElem? (i := 62) rfl))) (mvT hZ (hw _ (List.mem_of_getElem? (i := 63) rfl))) (mvT hZ (hw _ (List.mem_of_getElem? (i := 2) rfl))) (mvT hZ (hw _ (List.mem_of_getElem? (i := 64) rfl))) (by decide) (backOf (W := 0) (rmsame1 l Z a0 hw [] b_1051 T1056.heap n0 Z1056 f1066) hZ (hw _ (List.mem_of_getElem? (i := 64) rfl)) (hw _ (List.mem_of_getElem? (i := 2) rfl)) (by decide) (by decide)) (g := (mkF m 51 #[.val (.int p1), .val (.int p2), .val (.int p3), .val (.int p4), .val .null, .val (.ref b_1051), .val (.ref b_1056)] [(.ref b_1051), (.ref b_1051)])) rfl (by rw [hml]; rfl) (argsL := [(.ref b_1051), (.ref b_1051)]) (rest := []) (lenOf pd_11 rfl) rfl (by show 2 * 0 + _ ≤ _; exact Nat.le_of_eq rfl) (hb hby at_51) (fun _ _ => ⟨rfl, e1069, (by decide : 0 + 0 + 3 + 1 + 0 + 0 + 0 + 0 ≤ _), (by decide : 0 + 0 + 8 + 4 + 0 + 0 + 0 + 0 ≤ _)⟩)
      dsimp only [Pt.U, Pt.locs, Pt.cells, Pt.slots] at X1070 l1070 y1070 z1070 st1070 hQ1070
      subst l1070 y1070 z1070
      obtain ⟨rfl, N1070q, e1070⟩ := hQ1070
      have N1070 := Fr.app N1069 N1070q
      refine OEnds.st st1070 ?_
      show OEnds p.tables e below G (T1070.setTop (mkF m 54 #[.val (.int p1), .val (.int p2), .val (.int p3), .val (.int p4), .val .null, .val (.ref b_1051), .val (.ref b_1056)] [(.int (1 : Int32))]))
      refine OEnds.st (fun _ k => XS.ifNo X1070.here hx rfl (hb hby at_54) rfl ((if0 _ _).trans (feq (by decide : ¬ ((1 : Int32) = (0 : Int32)))).1) k) ?_
      show OEnds p.tables e below G (T1070.setTop (mkF m 57 #[.val (.int p1), .val (.int p2), .val (.int p3), .val (.int p4), .val .null, .val (.ref b_1051), .val (.ref b_1056)] []))
      refine OEnds.st (fun _ k => XS.aload X1070.here hx rfl (hb hby at_57) rfl rfl k) ?_
      show OEnds p.tables e below G (T1070.setTop (mkF m 59 #[.val (.int p1), .val (.int p2), .val (.int p3), .val (.int p4), .val .null, .val (.ref b_1051), .val (.ref b_1056)] [(.ref b_1056)]))
      obtain ⟨cq1071, kq1071, q1071a, q1071b, q1071c⟩ := isOf hZ e1070 p1059
      obtain ⟨_, _, ⟨T1071, L1071, k1071c, n1071c⟩, -, X1071, ⟨Lc1071, hQ1071, l1071, y1071, z1071⟩, st1071⟩ := X1070.virtualBack hx (y := (⟨"com/example/coracle_health/coraclehealth/staff/FormField", "secret", "()Z"⟩ : MethodName)) (z := (⟨"com/example/coracle_health/coraclehealth/staff/FormField", "secret", "()Z"⟩ : MethodName)) hown (mvT hZ (hw _ (List.mem_of_getElem? (i := 75) rfl))) (mvT hZ (hw _ (List.mem_of_getElem? (i := 76) rfl))) (notFace_of_selects (args := #[]) (mvT hZ (hw _ (List.mem_of_getElem? (i := 78) rfl)))) (mvT hZ (hw _ (List.mem_of_getElem? (i := 78) rfl))) (mvT hZ (hw _ (List.mem_of_getElem? (i := 77) rfl))) (by decide) (backOf (W := 0) (rm15 l Z a0 hw [] b_1056 T1056.heap n0 Z1056 p1062) hZ (hw _ (List.mem_of_getElem? (i := 79) rfl)) (hw _ (List.mem_of_getElem? (i := 36) rfl)) (by decide) (by decide)) q1071a q1071c (g := (mkF m 59 #[.val (.int p1), .val (.int p2), .val (.int p3), .val (.int p4), .val .null, .val (.ref b_1051), .val (.ref b_1056)] [(.ref b_1056)])) rfl (by rw [hml]; rfl) (Steps.refl _) (argsL := []) (rest := []) (lenOf pd_12 rfl) rfl (by show 2 * 0 + _ ≤ _; exact Nat.le_of_eq rfl) (hb hby at_59) (fun _ _ => ⟨rfl, e1070, (by decide : 0 + 0 + 3 + 1 + 0 + 0 + 0 + 0 + 0 ≤ _), (by decide : 0 + 0 + 8 + 4 + 0 + 0 + 0 + 0 + 0 ≤ _)⟩)
      dsimp only [Pt.U, Pt.locs, Pt.cells, Pt.slots] at X1071 l1071 y1071 z1071 st1071 hQ1071
      subst l1071 y1071 z1071
      obtain ⟨rfl, N1071q, e1071⟩ := hQ1071
      have N1071 := Fr.app N1070 N1071q
      refine OEnds.st (fun _ k => st1071.trans k) ?_
      show OEnds p.tables e below G (T1071.setTop (mkF m 62 #[.val (.int p1), .val (.int p2), .val (.int p3), .val (.int p4), .val .null, .val (.ref b_1051), .val (.ref b_1056)] [(.int (1 : Int32))]))
      refine OEnds.st (fun _ k => XS.ifNo X1071.here hx rfl (hb hby at_62) rfl ((if0 _ _).trans (feq (by decide : ¬ ((1 : Int32) = (0 : Int32)))).1) k) ?_
      show OEnds p.tables e below G (T1071.setTop (mkF m 65 #[.val (.int p1), .val (.int p2), .val (.int p3), .val (.int p4), .val .null, .val (.ref b_1051), .val (.ref b_1056)] []))
      refine OEnds.st (fun _ k => XS.aload X1071.here hx rfl (hb hby at_65) rfl rfl k) ?_
      show OEnds p.tables e below G (T1071.setTop (mkF m 67 #[.val (.int p1), .val (.int p2), .val (.int p3), .val (.int p4), .val .null, .val (.ref b_1051), .val (.ref b_1056)] [(.ref b_1056)]))
      obtain ⟨cq1072, kq1072, q1072a, q1072b, q1072c⟩ := isOf hZ e1071 p1059
      obtain ⟨_, _, ⟨T1072, L1072, k1072c, n1072c⟩, -, X1072, ⟨Lc1072, hQ1072, l1072, y1072, z1072⟩, st1072⟩ := X1071.virtualBack hx (y := (⟨"com/example/coracle_health/coraclehealth/staff/FormField", "minLength", "()I"⟩ : MethodName)) (z := (⟨"com/example/coracle_health/coraclehealth/staff/FormField", "minLength", "()I"⟩ : MethodName)) hown (mvT hZ (hw _ (List.mem_of_getElem? (i := 80) rfl))) (mvT hZ (hw _ (List.mem_of_getElem? (i := 81) rfl))) (notFace_of_selects (args := #[]) (mvT hZ (hw _ (List.mem_of_getElem? (i := 83) rfl)))) (mvT hZ (hw _ (List.mem_of_getElem? (i := 83) rfl))) (mvT hZ (hw _ (List.mem_of_getElem? (i := 82) rfl))) (by decide) (backOf (W := 0) (rm16 l Z a0 hw [] b_1056 p3 T1056.heap n0 Z1056 p1063) hZ (hw _ (List.mem_of_getElem? (i := 84) rfl)) (hw _ (List.mem_of_getElem? (i := 36) rfl)) (by decide) (by decide)) q1072a q1072c (g := (mkF m 67 #[.val (.int p1), .val (.int p2), .val (.int p3), .val (.int p4), .val .null, .val (.ref b_1051), .val (.ref b_1056)] [(.ref b_1056)])) rfl (by rw [hml]; rfl) (Steps.refl _) (argsL := []) (rest := []) (lenOf pd_13 rfl) rfl (by show 2 * 0 + _ ≤ _; exact Nat.le_of_eq rfl) (hb hby at_67) (fun _ _ => ⟨rfl, e1071, (by decide : 0 + 0 + 3 + 1 + 0 + 0 + 0 + 0 + 0 + 0 ≤ _), (by decide : 0 + 0 + 8 + 4 + 0 + 0 + 0 + 0 + 0 + 0 ≤ _)⟩)
      dsimp only [Pt.U, Pt.locs, Pt.cells, Pt.slots] at X1072 l1072 y1072 z1072 st1072 hQ1072
      subst l1072 y1072 z1072
      obtain ⟨rfl, N1072q, e1072⟩ := hQ1072
      have N1072 := Fr.app N1071 N1072q
      refine OEnds.st (fun _ k => st1072.trans k) ?_
      show OEnds p.tables e below G (T1072.setTop (mkF m 70 #[.val (.int p1), .val (.int p2), .val (.int p3), .val (.int p4), .val .null, .val (.ref b_1051), .val (.ref b_1056)] [(.int p3)]))
      refine OEnds.st (fun _ k => XS.iloadN X1072.here hx rfl (hb hby at_70) rfl k) ?_
      show OEnds p.tables e below G (T1072.setTop (mkF m 71 #[.val (.int p1), .val (.int p2), .val (.int p3), .val (.int p4), .val .null, .val (.ref b_1051), .val (.ref b_1056)] [(.int p3), (.int p3)]))
      refine OEnds.st (fun _ k => XS.icmpNo X1072.here hx rfl (hb hby at_71) rfl (teq (rfl : p3 = p3)).2 k) ?_
      show OEnds p.tables e below G (T1072.setTop (mkF m 74 #[.val (.int p1), .val (.int p2), .val (.int p3), .val (.int p4), .val .null, .val (.ref b_1051), .val (.ref b_1056)] []))
      refine OEnds.st (fun _ k => XS.iconst X1072.here hx rfl (hb hby at_74) k) ?_
      show OEnds p.tables e below G (T1072.setTop (mkF m 75 #[.val (.int p1), .val (.int p2), .val (.int p3), .val (.int p4), .val .null, .val (.ref b_1051), .val (.ref b_1056)] [(.int (1 : Int32))]))
      refine OEnds.st (fun _ k => XS.goto X1072.here hx rfl (pc0 := 75) (pc' := 79) rfl (hb hby at_75) (by decide) (by decide) k) ?_
      show OEnds p.tables e below G (T1072.setTop (mkF m 79 #[.val (.int p1), .val (.int p2), .val (.int p3), .val (.int p4), .val .null, .val (.ref b_1051), .val (.ref b_1056)] [(.int (1 : Int32))]))
      rw [← hG]
      refine OEnds.retZ X1072 hx hlk Bd.returns rfl (hb hby at_79) (by decide) (by decide) ?_
      rw [e1072]
      exact ⟨rfl, N1072⟩
    · -- d2
      show OEnds p.tables e below G (T1050.setTop (mkF m 11 #[.val (.int p1), .val (.int p2), .val (.int p3), .val (.int p4), .val .null, .unset, .unset] [(.int ((p4.toUInt32 >>> ((1 : Int32) &&& 31).toUInt32).toInt32)), (.int p2)]))
      obtain ⟨_, _, ⟨T1073, L1073, k1073c, n1073c⟩, -, X1073, ⟨Lc1073, hQ1073, l1073, y1073, z1073⟩, st1073⟩ := Jvm.LawKit.callS X1050 hx (y := (⟨"com/example/coracle_health/coraclehealth/staff/FormFieldSecretPinLaw", "draw", "(II)Ljava/lang/String;"⟩ : MethodName)) hown (mvT hZ (hw _ (List.mem_of_getElem? (i := 0) rfl))) (mvT hZ (hw _ (List.mem_of_getElem? (i := 1) rfl))) (mvT hZ (hw _ (List.mem_of_getElem? (i := 2) rfl))) (mvT hZ (hw _ (List.mem_of_getElem? (i := 3) rfl))) (by decide) (backOf (W := 0) (rmdrawN l Z a0 hw [] p2 ((p4.toUInt32 >>> ((1 : Int32) &&& 31).toUInt32).toInt32) h0 n0 Z0 h_d2) hZ (hw _ (List.mem_of_getElem? (i := 3) rfl)) (hw _ (List.mem_of_getElem? (i := 2) rfl)) (by decide) (by decide)) (g := (mkF m 11 #[.val (.int p1), .val (.int p2), .val (.int p3), .val (.int p4), .val .null, .unset, .unset] [(.int ((p4.toUInt32 >>> ((1 : Int32) &&& 31).toUInt32).toInt32)), (.int p2)])) rfl (by rw [hml]; rfl) (argsL := [(.int p2), (.int ((p4.toUInt32 >>> ((1 : Int32) &&& 31).toUInt32).toInt32))]) (rest := []) (lenOf pd_8 rfl) rfl (by show 2 * 0 + _ ≤ _; exact Nat.le_of_eq rfl) (hb hby at_11) (fun _ _ => ⟨rfl, e1050, (by decide : 0 + 0 + 0 ≤ _), (by decide : 0 + 0 + 0 ≤ _)⟩)
      dsimp only [Pt.U, Pt.locs, Pt.cells, Pt.slots] at X1073 l1073 y1073 z1073 st1073 hQ1073
      subst l1073 y1073 z1073
      obtain ⟨rfl, N1073q, e1073⟩ := hQ1073
      have N1073 := Fr.app N1050 N1073q
      refine OEnds.st st1073 ?_
      show OEnds p.tables e below G (T1073.setTop (mkF m 14 #[.val (.int p1), .val (.int p2), .val (.int p3), .val (.int p4), .val .null, .unset, .unset] [.null]))
      refine OEnds.st (fun _ k => XS.astore X1073.here hx rfl (hb hby at_14) rfl rfl (l' := #[.val (.int p1), .val (.int p2), .val (.int p3), .val (.int p4), .val .null, .val .null, .unset]) rfl k) ?_
      show OEnds p.tables e below G (T1073.setTop (mkF m 16 #[.val (.int p1), .val (.int p2), .val (.int p3), .val (.int p4), .val .null, .val .null, .unset] []))
      refine OEnds.st (fun _ k => XS.aload X1073.here hx rfl (hb hby at_16) rfl rfl k) ?_
      show OEnds p.tables e below G (T1073.setTop (mkF m 18 #[.val (.int p1), .val (.int p2), .val (.int p3), .val (.int p4), .val .null, .val .null, .unset] [.null]))
      refine OEnds.st (fun _ k => XS.aload X1073.here hx rfl (hb hby at_18) rfl rfl k) ?_
      show OEnds p.tables e below G (T1073.setTop (mkF m 20 #[.val (.int p1), .val (.int p2), .val (.int p3), .val (.int p4), .val .null, .val .null, .unset] [.null, .null]))
      refine OEnds.st (fun _ k => XS.iloadN X1073.here hx rfl (hb hby at_20) rfl k) ?_
      show OEnds p.tables e below G (T1073.setTop (mkF m 21 #[.val (.int p1), .val (.int p2), .val (.int p3), .val (.int p4), .val .null, .val .null, .unset] [(.int p3), .null, .null]))
      obtain ⟨_, _, ⟨T1074, L1074, k1074c, n1074c⟩, -, X1074, ⟨Lc1074, hQ1074, l1074, y1074, z1074⟩, st1074⟩ := Jvm.LawKit.callS X1073 hx (y := (⟨"com/example/coracle_health/coraclehealth/staff/FormField", "secret", "(Ljava/lang/String;Ljava/lang/String;I)Lcom/example/coracle_health/coraclehealth/staff/FormField;"⟩ : MethodName)) hown (mvT hZ (hw _ (List.mem_of_getElem? (i := 34) rfl))) (mvT hZ (hw _ (List.mem_of_getElem? (i := 35) rfl))) (mvT hZ (hw _ (List.mem_of_getElem? (i := 36) rfl))) (mvT hZ (hw _ (List.mem_of_getElem? (i := 37) rfl))) (by decide) (backOf (W := 0) (rmffs00 l Z a0 hw [] p3 h0 n0 Z0 ) hZ (hw _ (List.mem_of_getElem? (i := 37) rfl)) (hw _ (List.mem_of_getElem? (i := 36) rfl)) (by decide) (by decide)) (g := (mkF m 21 #[.val (.int p1), .val (.int p2), .val (.int p3), .val (.int p4), .val .null, .val .null, .unset] [(.int p3), .null, .null])) rfl (by rw [hml]; rfl) (argsL := [.null, .null, (.int p3)]) (rest := []) (lenOf pd_9 rfl) rfl (by show 2 * 0 + _ ≤ _; exact Nat.le_of_eq rfl) (hb hby at_21) (fun _ _ => ⟨rfl, e1073, (by decide : 0 + 0 + 0 + 1 ≤ _), (by decide : 0 + 0 + 0 + 4 ≤ _)⟩)
      dsimp only [Pt.U, Pt.locs, Pt.cells, Pt.slots] at X1074 l1074 y1074 z1074 st1074 hQ1074
      subst l1074 y1074 z1074
      obtain ⟨b_1074, rfl, N1074q, p1075, p1076, p1077, p1078, p1079, p1080, p1081⟩ := hQ1074
      have N1074 := Fr.app N1073 N1074q
      refine OEnds.st st1074 ?_
      have sz_b_1074 : h0.size ≤ b_1074 := Nat.le_trans KK0.1 p1076
      have ge_b_1074 : n0 ≤ b_1074 := Nat.le_trans Z0 p1076
      have f1082 : Sta Z T1074.heap "java/lang/String" "COMPACT_STRINGS" "Z" (.int w) := own_Sta_keep Sc p1075 (fun x hx => absurd hx List.not_mem_nil)
      have KK1074 : Keep h0 T1074.heap [] := KK0.trans p1075 (fun x hx => absurd hx List.not_mem_nil)
      have Z1074 := Nat.le_trans Z0 p1075.1
      show OEnds p.tables e below G (T1074.setTop (mkF m 24 #[.val (.int p1), .val (.int p2), .val (.int p3), .val (.int p4), .val .null, .val .null, .unset] [(.ref b_1074)]))
      refine OEnds.st (fun _ k => XS.astore X1074.here hx rfl (hb hby at_24) rfl rfl (l' := #[.val (.int p1), .val (.int p2), .val (.int p3), .val (.int p4), .val .null, .val .null, .val (.ref b_1074)]) rfl k) ?_
      show OEnds p.tables e below G (T1074.setTop (mkF m 26 #[.val (.int p1), .val (.int p2), .val (.int p3), .val (.int p4), .val .null, .val .null, .val (.ref b_1074)] []))
      refine OEnds.st (fun _ k => XS.aload X1074.here hx rfl (hb hby at_26) rfl rfl k) ?_
      show OEnds p.tables e below G (T1074.setTop (mkF m 28 #[.val (.int p1), .val (.int p2), .val (.int p3), .val (.int p4), .val .null, .val .null, .val (.ref b_1074)] [(.ref b_1074)]))
      refine OEnds.st (fun _ k => XS.ifnullNo X1074.here hx rfl (hb hby at_28) rfl k) ?_
      show OEnds p.tables e below G (T1074.setTop (mkF m 31 #[.val (.int p1), .val (.int p2), .val (.int p3), .val (.int p4), .val .null, .val .null, .val (.ref b_1074)] []))
      refine OEnds.st (fun _ k => XS.aload X1074.here hx rfl (hb hby at_31) rfl rfl k) ?_
      show OEnds p.tables e below G (T1074.setTop (mkF m 33 #[.val (.int p1), .val (.int p2), .val (.int p3), .val (.int p4), .val .null, .val .null, .val (.ref b_1074)] [(.ref b_1074)]))
      obtain ⟨cq1083, kq1083, q1083a, q1083b, q1083c⟩ := isOf hZ rfl p1077
      obtain ⟨_, _, ⟨T1083, L1083, k1083c, n1083c⟩, -, X1083, ⟨Lc1083, hQ1083, l1083, y1083, z1083⟩, st1083⟩ := X1074.virtualBack hx (y := (⟨"com/example/coracle_health/coraclehealth/staff/FormField", "fieldName", "()Ljava/lang/String;"⟩ : MethodName)) (z := (⟨"com/example/coracle_health/coraclehealth/staff/FormField", "fieldName", "()Ljava/lang/String;"⟩ : MethodName)) hown (mvT hZ (hw _ (List.mem_of_getElem? (i := 57) rfl))) (mvT hZ (hw _ (List.mem_of_getElem? (i := 58) rfl))) (notFace_of_selects (args := #[]) (mvT hZ (hw _ (List.mem_of_getElem? (i := 60) rfl)))) (mvT hZ (hw _ (List.mem_of_getElem? (i := 60) rfl))) (mvT hZ (hw _ (List.mem_of_getElem? (i := 59) rfl))) (by decide) (backOf (W := 0) (rmgetfieldName0 l Z a0 hw [] b_1074 T1074.heap n0 Z1074 p1078) hZ (hw _ (List.mem_of_getElem? (i := 61) rfl)) (hw _ (List.mem_of_getElem? (i := 36) rfl)) (by decide) (by decide)) q1083a q1083c (g := (mkF m 33 #[.val (.int p1), .val (.int p2), .val (.int p3), .val (.int p4), .val .null, .val .null, .val (.ref b_1074)] [(.ref b_1074)])) rfl (by rw [hml]; rfl) (Steps.refl _) (argsL := []) (rest := []) (lenOf pd_10 rfl) rfl (by show 2 * 0 + _ ≤ _; exact Nat.le_of_eq rfl) (hb hby at_33) (fun _ _ => ⟨rfl, rfl, (by decide : 0 + 0 + 0 + 1 + 0 ≤ _), (by decide : 0 + 0 + 0 + 4 + 0 ≤ _)⟩)
      dsimp only [Pt.U, Pt.locs, Pt.cells, Pt.slots] at X1083 l1083 y1083 z1083 st1083 hQ1083
      subst l1083 y1083 z1083
      obtain ⟨rfl, N1083q, e1083⟩ := hQ1083
      have N1083 := Fr.app N1074 N1083q
      refine OEnds.st (fun _ k => st1083.trans k) ?_
      show OEnds p.tables e below G (T1083.setTop (mkF m 36 #[.val (.int p1), .val (.int p2), .val (.int p3), .val (.int p4), .val .null, .val .null, .val (.ref b_1074)] [.null]))
      refine OEnds.st (fun _ k => XS.aload X1083.here hx rfl (hb hby at_36) rfl rfl k) ?_
      show OEnds p.tables e below G (T1083.setTop (mkF m 38 #[.val (.int p1), .val (.int p2), .val (.int p3), .val (.int p4), .val .null, .val .null, .val (.ref b_1074)] [.null, .null]))
      obtain ⟨_, _, ⟨T1084, L1084, k1084c, n1084c⟩, -, X1084, ⟨Lc1084, hQ1084, l1084, y1084, z1084⟩, st1084⟩ := Jvm.LawKit.callS X1083 hx (y := (⟨"com/example/coracle_health/coraclehealth/staff/FormFieldSecretPinLaw", "same", "(Ljava/lang/String;Ljava/lang/String;)Z"⟩ : MethodName)) hown (mvT hZ (hw _ (List.mem_of_getElem? (i := 62) rfl))) (mvT hZ (hw _ (List.mem_of_getElem? (i := 63) rfl))) (mvT hZ (hw _ (List.mem_of_getElem? (i := 2) rfl))) (mvT hZ (hw _ (List.mem_of_getElem? (i := 64) rfl))) (by decide) (backOf (W := 0) (rmsame0 l Z a0 hw []  T1074.heap n0 Z1074 ) hZ (hw _ (List.mem_of_getElem? (i := 64) rfl)) (hw _ (List.mem_of_getElem? (i := 2) rfl)) (by decide) (by decide)) (g := (mkF m 38 #[.val (.int p1), .val (.int p2), .val (.int p3), .val (.int p4), .val .null, .val .null, .val (.ref b_1074)] [.null, .null])) rfl (by rw [hml]; rfl) (argsL := [.null, .null]) (rest := []) (lenOf pd_11 rfl) rfl (by show 2 * 0 + _ ≤ _; exact Nat.le_of_eq rfl) (hb hby at_38) (fun _ _ => ⟨rfl, e1083, (by decide : 0 + 0 + 0 + 1 + 0 + 0 ≤ _), (by decide : 0 + 0 + 0 + 4 + 0 + 0 ≤ _)⟩)
      dsimp only [Pt.U, Pt.locs, Pt.cells, Pt.slots] at X1084 l1084 y1084 z1084 st1084 hQ1084
      subst l1084 y1084 z1084
      obtain ⟨rfl, N1084q, e1084⟩ := hQ1084
      have N1084 := Fr.app N1083 N1084q
      refine OEnds.st st1084 ?_
      show OEnds p.tables e below G (T1084.setTop (mkF m 41 #[.val (.int p1), .val (.int p2), .val (.int p3), .val (.int p4), .val .null, .val .null, .val (.ref b_1074)] [(.int (1 : Int32))]))
      refine OEnds.st (fun _ k => XS.ifNo X1084.here hx rfl (hb hby at_41) rfl ((if0 _ _).trans (feq (by decide : ¬ ((1 : Int32) = (0 : Int32)))).1) k) ?_
      show OEnds p.tables e below G (T1084.setTop (mkF m 44 #[.val (.int p1), .val (.int p2), .val (.int p3), .val (.int p4), .val .null, .val .null, .val (.ref b_1074)] []))
      refine OEnds.st (fun _ k => XS.aload X1084.here hx rfl (hb hby at_44) rfl rfl k) ?_
      show OEnds p.tables e below G (T1084.setTop (mkF m 46 #[.val (.int p1), .val (.int p2), .val (.int p3), .val (.int p4), .val .null, .val .null, .val (.ref b_1074)] [(.ref b_1074)]))
      obtain ⟨cq1085, kq1085, q1085a, q1085b, q1085c⟩ := isOf hZ e1084 p1077
      obtain ⟨_, _, ⟨T1085, L1085, k1085c, n1085c⟩, -, X1085, ⟨Lc1085, hQ1085, l1085, y1085, z1085⟩, st1085⟩ := X1084.virtualBack hx (y := (⟨"com/example/coracle_health/coraclehealth/staff/FormField", "name", "()Ljava/lang/String;"⟩ : MethodName)) (z := (⟨"com/example/coracle_health/coraclehealth/staff/FormField", "name", "()Ljava/lang/String;"⟩ : MethodName)) hown (mvT hZ (hw _ (List.mem_of_getElem? (i := 65) rfl))) (mvT hZ (hw _ (List.mem_of_getElem? (i := 66) rfl))) (notFace_of_selects (args := #[]) (mvT hZ (hw _ (List.mem_of_getElem? (i := 68) rfl)))) (mvT hZ (hw _ (List.mem_of_getElem? (i := 68) rfl))) (mvT hZ (hw _ (List.mem_of_getElem? (i := 67) rfl))) (by decide) (backOf (W := 0) (rmgetname0 l Z a0 hw [] b_1074 T1074.heap n0 Z1074 p1079) hZ (hw _ (List.mem_of_getElem? (i := 69) rfl)) (hw _ (List.mem_of_getElem? (i := 36) rfl)) (by decide) (by decide)) q1085a q1085c (g := (mkF m 46 #[.val (.int p1), .val (.int p2), .val (.int p3), .val (.int p4), .val .null, .val .null, .val (.ref b_1074)] [(.ref b_1074)])) rfl (by rw [hml]; rfl) (Steps.refl _) (argsL := []) (rest := []) (lenOf pd_10 rfl) rfl (by show 2 * 0 + _ ≤ _; exact Nat.le_of_eq rfl) (hb hby at_46) (fun _ _ => ⟨rfl, e1084, (by decide : 0 + 0 + 0 + 1 + 0 + 0 + 0 ≤ _), (by decide : 0 + 0 + 0 + 4 + 0 + 0 + 0 ≤ _)⟩)
      dsimp only [Pt.U, Pt.locs, Pt.cells, Pt.slots] at X1085 l1085 y1085 z1085 st1085 hQ1085
      subst l1085 y1085 z1085
      obtain ⟨rfl, N1085q, e1085⟩ := hQ1085
      have N1085 := Fr.app N1084 N1085q
      refine OEnds.st (fun _ k => st1085.trans k) ?_
      show OEnds p.tables e below G (T1085.setTop (mkF m 49 #[.val (.int p1), .val (.int p2), .val (.int p3), .val (.int p4), .val .null, .val .null, .val (.ref b_1074)] [.null]))
      refine OEnds.st (fun _ k => XS.aload X1085.here hx rfl (hb hby at_49) rfl rfl k) ?_
      show OEnds p.tables e below G (T1085.setTop (mkF m 51 #[.val (.int p1), .val (.int p2), .val (.int p3), .val (.int p4), .val .null, .val .null, .val (.ref b_1074)] [.null, .null]))
      obtain ⟨_, _, ⟨T1086, L1086, k1086c, n1086c⟩, -, X1086, ⟨Lc1086, hQ1086, l1086, y1086, z1086⟩, st1086⟩ := Jvm.LawKit.callS X1085 hx (y := (⟨"com/example/coracle_health/coraclehealth/staff/FormFieldSecretPinLaw", "same", "(Ljava/lang/String;Ljava/lang/String;)Z"⟩ : MethodName)) hown (mvT hZ (hw _ (List.mem_of_getElem? (i := 62) rfl))) (mvT hZ (hw _ (List.mem_of_getElem? (i := 63) rfl))) (mvT hZ (hw _ (List.mem_of_getElem? (i := 2) rfl))) (mvT hZ (hw _ (List.mem_of_getElem? (i := 64) rfl))) (by decide) (backOf (W := 0) (rmsame0 l Z a0 hw []  T1074.heap n0 Z1074 ) hZ (hw _ (List.mem_of_getElem? (i := 64) rfl)) (hw _ (List.mem_of_getElem? (i := 2) rfl)) (by decide) (by decide)) (g := (mkF m 51 #[.val (.int p1), .val (.int p2), .val (.int p3), .val (.int p4), .val .null, .val .null, .val (.ref b_1074)] [.null, .null])) rfl (by rw [hml]; rfl) (argsL := [.null, .null]) (rest := []) (lenOf pd_11 rfl) rfl (by show 2 * 0 + _ ≤ _; exact Nat.le_of_eq rfl) (hb hby at_51) (fun _ _ => ⟨rfl, e1085, (by decide : 0 + 0 + 0 + 1 + 0 + 0 + 0 + 0 ≤ _), (by decide : 0 + 0 + 0 + 4 + 0 + 0 + 0 + 0 ≤ _)⟩)
      dsimp only [Pt.U, Pt.locs, Pt.cells, Pt.slots] at X1086 l1086 y1086 z1086 st1086 hQ1086
      subst l1086 y1086 z1086
      obtain ⟨rfl, N1086q, e1086⟩ := hQ1086
      have N1086 := Fr.app N1085 N1086q
      refine OEnds.st st1086 ?_
      show OEnds p.tables e below G (T1086.setTop (mkF m 54 #[.val (.int p1), .val (.int p2), .val (.int p3), .val (.int p4), .val .null, .val .null, .val (.ref b_1074)] [(.int (1 : Int32))]))
      refine OEnds.st (fun _ k => XS.ifNo X1086.here hx rfl (hb hby at_54) rfl ((if0 _ _).trans (feq (by decide : ¬ ((1 : Int32) = (0 : Int32)))).1) k) ?_
      show OEnds p.tables e below G (T1086.setTop (mkF m 57 #[.val (.int p1), .val (.int p2), .val (.int p3), .val (.int p4), .val .null, .val .null, .val (.ref b_1074)] []))
      refine OEnds.st (fun _ k => XS.aload X1086.here hx rfl (hb hby at_57) rfl rfl k) ?_
      show OEnds p.tables e below G (T1086.setTop (mkF m 59 #[.val (.int p1), .val (.int p2), .val (.int p3), .val (.int p4), .val .null, .val .null, .val (.ref b_1074)] [(.ref b_1074)]))
      obtain ⟨cq1087, kq1087, q1087a, q1087b, q1087c⟩ := isOf hZ e1086 p1077
      obtain ⟨_, _, ⟨T1087, L1087, k1087c, n1087c⟩, -, X1087, ⟨Lc1087, hQ1087, l1087, y1087, z1087⟩, st1087⟩ := X1086.virtualBack hx (y := (⟨"com/example/coracle_health/coraclehealth/staff/FormField", "secret", "()Z"⟩ : MethodName)) (z := (⟨"com/example/coracle_health/coraclehealth/staff/FormField", "secret", "()Z"⟩ : MethodName)) hown (mvT hZ (hw _ (List.mem_of_getElem? (i := 75) rfl))) (mvT hZ (hw _ (List.mem_of_getElem? (i := 76) rfl))) (notFace_of_selects (args := #[]) (mvT hZ (hw _ (List.mem_of_getElem? (i := 78) rfl)))) (mvT hZ (hw _ (List.mem_of_getElem? (i := 78) rfl))) (mvT hZ (hw _ (List.mem_of_getElem? (i := 77) rfl))) (by decide) (backOf (W := 0) (rm15 l Z a0 hw [] b_1074 T1074.heap n0 Z1074 p1080) hZ (hw _ (List.mem_of_getElem? (i := 79) rfl)) (hw _ (List.mem_of_getElem? (i := 36) rfl)) (by decide) (by decide)) q1087a q1087c (g := (mkF m 59 #[.val (.int p1), .val (.int p2), .val (.int p3), .val (.int p4), .val .null, .val .null, .val (.ref b_1074)] [(.ref b_1074)])) rfl (by rw [hml]; rfl) (Steps.refl _) (argsL := []) (rest := []) (lenOf pd_12 rfl) rfl (by show 2 * 0 + _ ≤ _; exact Nat.le_of_eq rfl) (hb hby at_59) (fun _ _ => ⟨rfl, e1086, (by decide : 0 + 0 + 0 + 1 + 0 + 0 + 0 + 0 + 0 ≤ _), (by decide : 0 + 0 + 0 + 4 + 0 + 0 + 0 + 0 + 0 ≤ _)⟩)
      dsimp only [Pt.U, Pt.locs, Pt.cells, Pt.slots] at X1087 l1087 y1087 z1087 st1087 hQ1087
      subst l1087 y1087 z1087
      obtain ⟨rfl, N1087q, e1087⟩ := hQ1087
      have N1087 := Fr.app N1086 N1087q
      refine OEnds.st (fun _ k => st1087.trans k) ?_
      show OEnds p.tables e below G (T1087.setTop (mkF m 62 #[.val (.int p1), .val (.int p2), .val (.int p3), .val (.int p4), .val .null, .val .null, .val (.ref b_1074)] [(.int (1 : Int32))]))
      refine OEnds.st (fun _ k => XS.ifNo X1087.here hx rfl (hb hby at_62) rfl ((if0 _ _).trans (feq (by decide : ¬ ((1 : Int32) = (0 : Int32)))).1) k) ?_
      show OEnds p.tables e below G (T1087.setTop (mkF m 65 #[.val (.int p1), .val (.int p2), .val (.int p3), .val (.int p4), .val .null, .val .null, .val (.ref b_1074)] []))
      refine OEnds.st (fun _ k => XS.aload X1087.here hx rfl (hb hby at_65) rfl rfl k) ?_
      show OEnds p.tables e below G (T1087.setTop (mkF m 67 #[.val (.int p1), .val (.int p2), .val (.int p3), .val (.int p4), .val .null, .val .null, .val (.ref b_1074)] [(.ref b_1074)]))
      obtain ⟨cq1088, kq1088, q1088a, q1088b, q1088c⟩ := isOf hZ e1087 p1077
      obtain ⟨_, _, ⟨T1088, L1088, k1088c, n1088c⟩, -, X1088, ⟨Lc1088, hQ1088, l1088, y1088, z1088⟩, st1088⟩ := X1087.virtualBack hx (y := (⟨"com/example/coracle_health/coraclehealth/staff/FormField", "minLength", "()I"⟩ : MethodName)) (z := (⟨"com/example/coracle_health/coraclehealth/staff/FormField", "minLength", "()I"⟩ : MethodName)) hown (mvT hZ (hw _ (List.mem_of_getElem? (i := 80) rfl))) (mvT hZ (hw _ (List.mem_of_getElem? (i := 81) rfl))) (notFace_of_selects (args := #[]) (mvT hZ (hw _ (List.mem_of_getElem? (i := 83) rfl)))) (mvT hZ (hw _ (List.mem_of_getElem? (i := 83) rfl))) (mvT hZ (hw _ (List.mem_of_getElem? (i := 82) rfl))) (by decide) (backOf (W := 0) (rm16 l Z a0 hw [] b_1074 p3 T1074.heap n0 Z1074 p1081) hZ (hw _ (List.mem_of_getElem? (i := 84) rfl)) (hw _ (List.mem_of_getElem? (i := 36) rfl)) (by decide) (by decide)) q1088a q1088c (g := (mkF m 67 #[.val (.int p1), .val (.int p2), .val (.int p3), .val (.int p4), .val .null, .val .null, .val (.ref b_1074)] [(.ref b_1074)])) rfl (by rw [hml]; rfl) (Steps.refl _) (argsL := []) (rest := []) (lenOf pd_13 rfl) rfl (by show 2 * 0 + _ ≤ _; exact Nat.le_of_eq rfl) (hb hby at_67) (fun _ _ => ⟨rfl, e1087, (by decide : 0 + 0 + 0 + 1 + 0 + 0 + 0 + 0 + 0 + 0 ≤ _), (by decide : 0 + 0 + 0 + 4 + 0 + 0 + 0 + 0 + 0 + 0 ≤ _)⟩)
      dsimp only [Pt.U, Pt.locs, Pt.cells, Pt.slots] at X1088 l1088 y1088 z1088 st1088 hQ1088
      subst l1088 y1088 z1088
      obtain ⟨rfl, N1088q, e1088⟩ := hQ1088
      have N1088 := Fr.app N1087 N1088q
      refine OEnds.st (fun _ k => st1088.trans k) ?_
      show OEnds p.tables e below G (T1088.setTop (mkF m 70 #[.val (.int p1), .val (.int p2), .val (.int p3), .val (.int p4), .val .null, .val .null, .val (.ref b_1074)] [(.int p3)]))
      refine OEnds.st (fun _ k => XS.iloadN X1088.here hx rfl (hb hby at_70) rfl k) ?_
      show OEnds p.tables e below G (T1088.setTop (mkF m 71 #[.val (.int p1), .val (.int p2), .val (.int p3), .val (.int p4), .val .null, .val .null, .val (.ref b_1074)] [(.int p3), (.int p3)]))
      refine OEnds.st (fun _ k => XS.icmpNo X1088.here hx rfl (hb hby at_71) rfl (teq (rfl : p3 = p3)).2 k) ?_
      show OEnds p.tables e below G (T1088.setTop (mkF m 74 #[.val (.int p1), .val (.int p2), .val (.int p3), .val (.int p4), .val .null, .val .null, .val (.ref b_1074)] []))
      refine OEnds.st (fun _ k => XS.iconst X1088.here hx rfl (hb hby at_74) k) ?_
      show OEnds p.tables e below G (T1088.setTop (mkF m 75 #[.val (.int p1), .val (.int p2), .val (.int p3), .val (.int p4), .val .null, .val .null, .val (.ref b_1074)] [(.int (1 : Int32))]))
      refine OEnds.st (fun _ k => XS.goto X1088.here hx rfl (pc0 := 75) (pc' := 79) rfl (hb hby at_75) (by decide) (by decide) k) ?_
      show OEnds p.tables e below G (T1088.setTop (mkF m 79 #[.val (.int p1), .val (.int p2), .val (.int p3), .val (.int p4), .val .null, .val .null, .val (.ref b_1074)] [(.int (1 : Int32))]))
      rw [← hG]
      refine OEnds.retZ X1088 hx hlk Bd.returns rfl (hb hby at_79) (by decide) (by decide) ?_
      rw [e1088]
      exact ⟨rfl, N1088⟩
set_option maxRecDepth 65536 in
set_option maxHeartbeats 40000000 in
theorem comes_1 {Post : Tables → Env → Array Value → State → Outcome → State → Prop} (hpost : ∀ tb e args s v u, (limb_1_1.after args s (.returned v) u = true ∧ limb_1_2.after args s (.returned v) u = true ∧ True) → FrameEnd s (.returned v) u (Jvm.fieldLocs frame_1_writes args s ++ Jvm.arrayLocs frame_1_arrays args s ++ Jvm.staticLocs frame_1_statics s) 24 128 → Post tb e args s (.returned v) u) :
    ArmFor flags0 classFile x code maxLocals ret World_1 tables_1 room_1 Calls_1 rest_1 Pre_1 Post := by
  intro l hfl _ _ p e ha hc hk s m args below hf hA hF happ hP
  obtain ⟨hcalls, hrest, hpre⟩ := hP
  obtain ⟨-, -, -, hnamed, -, -, -, hat⟩ := (Spec.applies_iff hf).mp happ
  obtain ⟨hg, hn⟩ := and_e (Cond.before_iff.mp (show (Jvm.Cond.and given_1 narrow_1).before args s = true from hpre))
  obtain ⟨gc, gr0⟩ := and_e hg
  obtain ⟨ga0, gr1⟩ := and_e gr0
  obtain ⟨ga1, gr2⟩ := and_e gr1
  obtain ⟨ga2, gr3⟩ := and_e gr2
  obtain ⟨w0, w1, w2, w3, rfl⟩ : ∃ w0 w1 w2 w3 : Value, args = #[w0, w1, w2, w3] := by
    have hs : args.size = 4 := by simpa [Cond.value, given_1] using gc
    obtain ⟨L⟩ := args
    match L, hs with
    | [w0, w1, w2, w3], _ => exact ⟨w0, w1, w2, w3, rfl⟩
  have hw := fun d (hd : d ∈ tables_1) => atoms_spec (ws := Jvm.Cond.code x code maxLocals ret :: tables_1) hat d (List.mem_cons_of_mem _ hd)
  have hfit : Fit s := fun {y c} hc i hi => by
    obtain ⟨ha, rfl⟩ := Array.getElem?_eq_some_iff.mp hc
    have q := List.all_eq_true.mp ((Array.all_eq_true_iff_forall_mem.mp hF) _ (Array.getElem_mem ha)) i (List.mem_range.mpr hi)
    simpa [Array.getElem?_eq_getElem hi] using q
  obtain ⟨hsets, hown0⟩ := atoms_of _ (rest_1_c_eq ▸ (show rest_1_c.before _ s = true from hrest))
  have hr0 := Cond.before_iff.mp hown0
  obtain ⟨i0, ei0⟩ := is_v ga0
  obtain rfl : w0 = (.int i0) := Option.some.inj ei0
  obtain ⟨i1, ei1⟩ := is_v ga1
  obtain rfl : w1 = (.int i1) := Option.some.inj ei1
  obtain ⟨i2, ei2⟩ := is_v ga2
  obtain rfl : w2 = (.int i2) := Option.some.inj ei2
  obtain ⟨i3, ei3⟩ := is_v gr3
  obtain rfl : w3 = (.int i3) := Option.some.inj ei3
  obtain ⟨cw, ecw⟩ := is_v (Cond.before_iff.mp (hsets _ (List.mem_of_getElem? (i := 1) rfl)))
  have hcw : ¬ (cw = (0 : Int32)) := by
    have q := not_v (Cond.before_iff.mp (hsets _ (List.mem_of_getElem? (i := 2) rfl)))
    intro y
    subst y
    have q2 := eq_i (b := Term.int (0 : Int32)) ecw (Term.int_eval (0)) rfl
    rw [q2] at q
    cases q
  obtain ⟨n, o, h1, h2, h3, _, L, rfl, ⟨rfl, N⟩, hq⟩ := rm0 l s _ hw tables_1 i0 i1 i2 i3 cw s.heap s.heap.size (Nat.le_refl _) (Sta.start ecw (Or.inl (hsets _ (List.mem_of_getElem? (i := 0) rfl)))) hcw p e ha hc hk s m _ below hf ((Spec.applies_iff_loose hf).mp happ).1 ⟨rfl, State.Warmed39.refl s, rfl⟩ trivial
  refine ⟨n, _, h1, h2, h3, hpost _ _ _ _ _ _ ⟨Cond.after_iff.mpr rfl, Cond.after_iff.mpr (eq_i res_at (Term.int_eval (1)) rfl), trivial⟩ ⟨hq.1, hq.2.1, (hq.2.2.sift fun y hy => Or.inr (N y hy)).mono (by decide) (by decide)⟩⟩
theorem main_1_1 : Claimed_1_1 := comes_1 fun _ _ _ _ _ _ h hF => ⟨h.1, hF⟩
theorem main_1_2 : Claimed_1_2 := comes_1 fun _ _ _ _ _ _ h hF => ⟨h.2.1, hF⟩
end Jvm.Pilot.@@N@@
namespace Jvm.Pilot.@@N@@
open Jvm Jvm.ClassFile Sem Op Lib Jvm.Free Jvm.Stand Jvm.Pilot.@@N@@.Jvm.D
/-! MADE BY PROGRAM (witnessworld.py) out of the Statement's table words and the real class files: 21 classes; the members and pool entries that the words name. The judged class is class 1, her method 3. -/
namespace start1
open Jvm.ClassFile
def u (s : String) : CpInfo := .utf8 (stringToUtf16 s)
/-- a pool by its gaps: so many unusable entries, then the entry; so many at the end -/
def gap : Nat → List CpInfo → List CpInfo
  | 0, r => r
  | n + 1, r => .unusable :: gap n r
def poolList (es : List (Nat × CpInfo)) (last : Nat) : List CpInfo := es.foldr (fun e r => gap e.1 (e.2 :: r)) (gap last [])
def pool (es : List (Nat × CpInfo)) (last : Nat) : Array CpInfo := ⟨poolList es last⟩
def fileOf (pool : Array CpInfo) (this : Nat) (attrs : Array Attribute := #[]) (ms : Array MethodInfo := #[]) (fl : Nat := 33) (sup : Nat := 0) (ifs : Array Nat := #[]) (fds : Array FieldInfo := #[]) : ClassFile where
  minorVersion := 0
  majorVersion := 65
  constantPool := pool
  accessFlags := fl
  thisClass := this
  superClass := sup
  interfaces := ifs
  fields := fds
  methods := ms
  attributes := attrs
def plain (name : String) (sup : Option ClassId) : Class where
  name := name
  kind := .ordinary
  loader := none
  accessFlags := 33
  super := sup
  interfaces := #[]
  cf := none
  fields := #[]
  methods := #[]
  instanceTypes := #[]
  staticTypes := #[]
  resolved := #[]
  callSites := []
  init := .initialized
  statics := none
  mirror := none

def pool0 : Array CpInfo := pool [(5, u "<init>"), (0, u "()V"), (1, .class_ 10), (1, u "java/lang/Object")] 113

def k0c0 : Code := { maxStack := 0, maxLocals := 1, code := object_method_1_code, exceptionTable := #[], attributes := #[] }
def k0m0 : Method := { name := "<init>", desc := "()V", sig := { parameters := [], returnType := none }, accessFlags := 1, code := some k0c0 }
/-- java/lang/Object -/
def k0 : Class := { plain "java/lang/Object" none with
  accessFlags := 33
  interfaces := #[]
  cf := some (fileOf pool0 8 #[] #[{ accessFlags := 1, nameIndex := 5, descriptorIndex := 6, attributes := #[] }] 33 0 #[] #[])
  fields := #[]
  methods := #[k0m0]
  instanceTypes := #[]
  staticTypes := #[]
  resolved := Array.replicate 124 none
  statics := none }

def pool1 : Array CpInfo := pool [(2, .class_ 4), (1, u "java/lang/Object"), (0, u "<init>"), (0, u "()V"), (0, .class_ 8), (0, u "java/lang/String"), (0, .methodref 7 10), (0, .nameAndType 5 11), (0, u "([C)V"), (0, .methodref 7 13), (0, .nameAndType 14 15), (0, u "equals"), (0, u "(Ljava/lang/Object;)Z"), (0, .methodref 17 18), (0, .class_ 19), (0, .nameAndType 20 21), (0, u "com/example/coracle_health/coraclehealth/staff/FormFieldSecretPinLaw"), (0, u "draw"), (0, u "(II)Ljava/lang/String;"), (0, .methodref 23 24), (0, .class_ 25), (0, .nameAndType 26 27), (0, u "com/example/coracle_health/coraclehealth/staff/FormField"), (0, u "secret"), (0, u "(Ljava/lang/String;Ljava/lang/String;I)Lcom/example/coracle_health/coraclehealth/staff/FormField;"), (0, .methodref 23 29), (0, .nameAndType 30 31), (0, u "fieldName"), (0, u "()Ljava/lang/String;"), (0, .methodref 17 33), (0, .nameAndType 34 35), (0, u "same"), (0, u "(Ljava/lang/String;Ljava/lang/String;)Z"), (0, .methodref 23 37), (0, .nameAndType 38 31), (0, u "name"), (0, .methodref 23 40), (0, .nameAndType 26 41), (0, u "()Z"), (0, .methodref 23 43), (0, .nameAndType 44 45), (0, u "minLength"), (0, u "()I"), (3, u "law"), (0, u "(IIII)Z")] 2

def k1m0 : Method := { name := "<init>", desc := "()V", sig := { parameters := [], returnType := none }, accessFlags := 1, code := none }
def k1c1 : Code := { maxStack := 4, maxLocals := 3, code := method_2_code, exceptionTable := #[], attributes := #[] }
def k1m1 : Method := { name := "draw", desc := "(II)Ljava/lang/String;", sig := { parameters := [.int, .int], returnType := some (.object "java/lang/String") }, accessFlags := 10, code := some k1c1 }
def k1c2 : Code := { maxStack := 2, maxLocals := 2, code := method_3_code, exceptionTable := #[], attributes := #[] }
def k1m2 : Method := { name := "same", desc := "(Ljava/lang/String;Ljava/lang/String;)Z", sig := { parameters := [(.object "java/lang/String"), (.object "java/lang/String")], returnType := some .boolean }, accessFlags := 10, code := some k1c2 }
def k1c3 : Code := { maxStack := 3, maxLocals := 7, code := code, exceptionTable := #[], attributes := #[] }
def k1m3 : Method := { name := "law", desc := "(IIII)Z", sig := { parameters := [.int, .int, .int, .int], returnType := some .boolean }, accessFlags := 9, code := some k1c3 }
/-- com/example/coracle_health/coraclehealth/staff/FormFieldSecretPinLaw -/
def k1 : Class := { plain "com/example/coracle_health/coraclehealth/staff/FormFieldSecretPinLaw" (some 0) with
  accessFlags := 49
  interfaces := #[]
  cf := some (fileOf pool1 17 #[] #[{ accessFlags := 1, nameIndex := 5, descriptorIndex := 6, attributes := #[] }, { accessFlags := 10, nameIndex := 20, descriptorIndex := 21, attributes := #[] }, { accessFlags := 10, nameIndex := 34, descriptorIndex := 35, attributes := #[] }, { accessFlags := 9, nameIndex := 49, descriptorIndex := 50, attributes := #[] }] 49 2 #[] #[])
  fields := #[]
  methods := #[k1m0, k1m1, k1m2, k1m3]
  instanceTypes := #[]
  staticTypes := #[]
  resolved := Array.replicate 53 none
  statics := none }

def pool2 : Array CpInfo := pool [(1, .class_ 2), (0, u "java/io/Serializable"), (0, .class_ 4), (0, u "java/lang/Object")] 2

/-- java/io/Serializable -/
def k2 : Class := { plain "java/io/Serializable" (some 0) with
  accessFlags := 1537
  interfaces := #[]
  cf := some (fileOf pool2 1 #[] #[] 1537 3 #[] #[])
  fields := #[]
  methods := #[]
  instanceTypes := #[]
  staticTypes := #[]
  resolved := Array.replicate 7 none
  statics := none }

def pool3 : Array CpInfo := pool [(1, .class_ 2), (0, u "java/lang/Comparable"), (0, .class_ 4), (0, u "java/lang/Object")] 7

/-- java/lang/Comparable -/
def k3 : Class := { plain "java/lang/Comparable" (some 0) with
  accessFlags := 1537
  interfaces := #[]
  cf := some (fileOf pool3 1 #[] #[] 1537 3 #[] #[])
  fields := #[]
  methods := #[]
  instanceTypes := #[]
  staticTypes := #[]
  resolved := Array.replicate 12 none
  statics := none }

def pool4 : Array CpInfo := pool [(2, .class_ 4), (1, u "java/lang/CharSequence"), (42, .class_ 48), (0, u "java/lang/CharSequence$1CodePointIterator"), (10, .class_ 60), (0, u "java/lang/CharSequence$1CharIterator"), (5, .class_ 67), (0, u "java/lang/Object")] 63

/-- java/lang/CharSequence -/
def k4 : Class := { plain "java/lang/CharSequence" (some 0) with
  accessFlags := 1537
  interfaces := #[]
  cf := some (fileOf pool4 2 #[.nestMembers #[47, 59]] #[] 1537 66 #[] #[])
  fields := #[]
  methods := #[]
  instanceTypes := #[]
  staticTypes := #[]
  resolved := Array.replicate 131 none
  statics := none }

def pool5 : Array CpInfo := pool [(1, .class_ 2), (0, u "java/lang/constant/Constable"), (0, .class_ 4), (0, u "java/lang/Object")] 6

/-- java/lang/constant/Constable -/
def k5 : Class := { plain "java/lang/constant/Constable" (some 0) with
  accessFlags := 1537
  interfaces := #[]
  cf := some (fileOf pool5 1 #[] #[] 1537 3 #[] #[])
  fields := #[]
  methods := #[]
  instanceTypes := #[]
  staticTypes := #[]
  resolved := Array.replicate 11 none
  statics := none }

def pool6 : Array CpInfo := pool [(1, .class_ 2), (0, u "java/lang/constant/ConstantDesc"), (0, .class_ 4), (0, u "java/lang/Object")] 32

/-- java/lang/constant/ConstantDesc -/
def k6 : Class := { plain "java/lang/constant/ConstantDesc" (some 0) with
  accessFlags := 1537
  interfaces := #[]
  cf := some (fileOf pool6 1 #[] #[] 1537 3 #[] #[])
  fields := #[]
  methods := #[]
  instanceTypes := #[]
  staticTypes := #[]
  resolved := Array.replicate 37 none
  statics := none }

def pool7 : Array CpInfo := pool [(1, .methodref 2 3), (0, .class_ 4), (0, .nameAndType 5 6), (0, u "java/lang/Object"), (0, u "<init>"), (0, u "()V"), (2, .fieldref 10 11), (0, .class_ 12), (0, .nameAndType 13 14), (0, u "java/lang/String"), (0, u "value"), (0, u "[B"), (0, .fieldref 10 16), (0, .nameAndType 17 18), (0, u "coder"), (0, u "B"), (2, u "hash"), (0, u "I"), (2, u "hashIsZero"), (0, u "Z"), (0, .methodref 10 28), (0, .nameAndType 5 29), (0, u "([CIILjava/lang/Void;)V"), (8, .fieldref 10 39), (0, .nameAndType 40 26), (0, u "COMPACT_STRINGS"), (1, .class_ 44), (1, u "java/lang/StringUTF16"), (0, u "compress"), (1, .methodref 42 48), (0, .nameAndType 49 50), (0, u "coderFromArrayLen"), (0, u "([BI)B"), (126, .methodref 42 178), (0, .nameAndType 45 179), (0, u "([CII)[B"), (363, u "equals"), (29, u "(Ljava/lang/Object;)Z"), (1, .class_ 576), (0, u "java/lang/CharSequence"), (22, u "CASE_INSENSITIVE_ORDER"), (0, u "Ljava/util/Comparator;"), (409, u "([C)V"), (90, u "serialPersistentFields"), (0, u "[Ljava/io/ObjectStreamField;"), (0, .class_ 1104), (0, u "java/lang/String$CaseInsensitiveComparator"), (1, .class_ 1107), (0, u "java/io/Serializable"), (0, .class_ 1109), (0, u "java/lang/Comparable"), (0, .class_ 1111), (0, u "java/lang/constant/Constable"), (0, .class_ 1113), (0, u "java/lang/constant/ConstantDesc"), (2, u "serialVersionUID"), (0, u "J"), (3, u "REPL"), (0, u "C"), (2, u "LATIN1"), (1, u "UTF16")] 323

def k7m0 : Method := { name := "<init>", desc := "()V", sig := { parameters := [], returnType := none }, accessFlags := 1, code := none }
def k7c1 : Code := { maxStack := 5, maxLocals := 2, code := jdk_42_method_3_code, exceptionTable := #[], attributes := #[] }
def k7m1 : Method := { name := "<init>", desc := "([C)V", sig := { parameters := [(.array .char)], returnType := none }, accessFlags := 1, code := some k7c1 }
def k7c2 : Code := { maxStack := 2, maxLocals := 3, code := jdk_42_method_66_code, exceptionTable := #[], attributes := #[] }
def k7m2 : Method := { name := "equals", desc := "(Ljava/lang/Object;)Z", sig := { parameters := [(.object "java/lang/Object")], returnType := some .boolean }, accessFlags := 1, code := some k7c2 }
def k7c3 : Code := { maxStack := 4, maxLocals := 6, code := jdk_42_method_149_code, exceptionTable := #[], attributes := #[] }
def k7m3 : Method := { name := "<init>", desc := "([CIILjava/lang/Void;)V", sig := { parameters := [(.array .char), .int, .int, (.object "java/lang/Void")], returnType := none }, accessFlags := 2, code := some k7c3 }
/-- java/lang/String -/
def k7 : Class := { plain "java/lang/String" (some 0) with
  accessFlags := 49
  interfaces := #[2, 3, 4, 5, 6]
  cf := some (fileOf pool7 10 #[.nestMembers #[1103]] #[{ accessFlags := 1, nameIndex := 5, descriptorIndex := 6, attributes := #[] }, { accessFlags := 1, nameIndex := 5, descriptorIndex := 1010, attributes := #[] }, { accessFlags := 1, nameIndex := 543, descriptorIndex := 573, attributes := #[] }, { accessFlags := 2, nameIndex := 5, descriptorIndex := 29, attributes := #[] }] 49 2 #[1106, 1108, 575, 1110, 1112] #[{ accessFlags := 18, nameIndex := 13, descriptorIndex := 14, attributes := #[] }, { accessFlags := 18, nameIndex := 17, descriptorIndex := 18, attributes := #[] }, { accessFlags := 2, nameIndex := 21, descriptorIndex := 22, attributes := #[] }, { accessFlags := 2, nameIndex := 25, descriptorIndex := 26, attributes := #[] }, { accessFlags := 26, nameIndex := 1116, descriptorIndex := 1117, attributes := #[] }, { accessFlags := 24, nameIndex := 40, descriptorIndex := 26, attributes := #[] }, { accessFlags := 26, nameIndex := 1101, descriptorIndex := 1102, attributes := #[] }, { accessFlags := 26, nameIndex := 1121, descriptorIndex := 1122, attributes := #[] }, { accessFlags := 25, nameIndex := 599, descriptorIndex := 600, attributes := #[] }, { accessFlags := 24, nameIndex := 1125, descriptorIndex := 18, attributes := #[] }, { accessFlags := 24, nameIndex := 1127, descriptorIndex := 18, attributes := #[] }])
  fields := #[{ name := "value", type := (.array .byte), accessFlags := 18, slot := 0, constantValue := 0 }, { name := "coder", type := .byte, accessFlags := 18, slot := 1, constantValue := 0 }, { name := "hash", type := .int, accessFlags := 2, slot := 2, constantValue := 0 }, { name := "hashIsZero", type := .boolean, accessFlags := 2, slot := 3, constantValue := 0 }, { name := "serialVersionUID", type := .long, accessFlags := 26, slot := 0, constantValue := 0 }, { name := "COMPACT_STRINGS", type := .boolean, accessFlags := 24, slot := 1, constantValue := 0 }, { name := "serialPersistentFields", type := (.array (.object "java/io/ObjectStreamField")), accessFlags := 26, slot := 2, constantValue := 0 }, { name := "REPL", type := .char, accessFlags := 26, slot := 3, constantValue := 0 }, { name := "CASE_INSENSITIVE_ORDER", type := (.object "java/util/Comparator"), accessFlags := 25, slot := 4, constantValue := 0 }, { name := "LATIN1", type := .byte, accessFlags := 24, slot := 5, constantValue := 0 }, { name := "UTF16", type := .byte, accessFlags := 24, slot := 6, constantValue := 0 }]
  methods := #[k7m0, k7m1, k7m2, k7m3]
  instanceTypes := #[(.array .byte), .byte, .int, .boolean]
  staticTypes := #[.long, .boolean, (.array (.object "java/io/ObjectStreamField")), .char, (.object "java/util/Comparator"), .byte, .byte]
  resolved := Array.replicate 1451 none
  statics := some 0 }

def pool8 : Array CpInfo := pool [(6, .class_ 8), (1, u "java/lang/Object"), (0, u "<init>"), (0, u "()V"), (1, .class_ 14), (1, u "java/lang/StringUTF16"), (31, u "$assertionsDisabled"), (0, u "Z"), (13, u "HI_BYTE_SHIFT"), (0, u "I"), (2, u "LO_BYTE_SHIFT"), (49, .methodref 12 116), (0, .nameAndType 117 118), (0, u "compress"), (0, u "([CI[BII)I"), (3, u "([CII)[B"), (138, u "coderFromArrayLen"), (0, u "([BI)B"), (106, .class_ 371), (1, u "java/lang/StringUTF16$LinesSpliterator"), (58, u "MAX_LENGTH"), (196, .class_ 628), (0, u "java/lang/StringUTF16$CodePointsSpliterator"), (0, .class_ 630), (0, u "java/lang/StringUTF16$CharsSpliterator")] 4

def k8m0 : Method := { name := "<init>", desc := "()V", sig := { parameters := [], returnType := none }, accessFlags := 0, code := none }
def k8c1 : Code := { maxStack := 2, maxLocals := 2, code := jdk_52_method_15_code, exceptionTable := #[], attributes := #[] }
def k8m1 : Method := { name := "coderFromArrayLen", desc := "([BI)B", sig := { parameters := [(.array .byte), .int], returnType := some .byte }, accessFlags := 8, code := some k8c1 }
def k8c2 : Code := { maxStack := 5, maxLocals := 6, code := jdk_52_method_16_code, exceptionTable := #[], attributes := #[] }
def k8m2 : Method := { name := "compress", desc := "([CII)[B", sig := { parameters := [(.array .char), .int, .int], returnType := some (.array .byte) }, accessFlags := 9, code := some k8c2 }
def k8c3 : Code := { maxStack := 3, maxLocals := 7, code := jdk_52_method_21_code, exceptionTable := #[], attributes := #[] }
def k8m3 : Method := { name := "compress", desc := "([CI[BII)I", sig := { parameters := [(.array .char), .int, (.array .byte), .int, .int], returnType := some .int }, accessFlags := 9, code := some k8c3 }
/-- java/lang/StringUTF16 -/
def k8 : Class := { plain "java/lang/StringUTF16" (some 0) with
  accessFlags := 48
  interfaces := #[]
  cf := some (fileOf pool8 12 #[.nestMembers #[627, 629, 369]] #[{ accessFlags := 0, nameIndex := 9, descriptorIndex := 10, attributes := #[] }, { accessFlags := 8, nameIndex := 261, descriptorIndex := 262, attributes := #[] }, { accessFlags := 9, nameIndex := 117, descriptorIndex := 122, attributes := #[] }, { accessFlags := 9, nameIndex := 117, descriptorIndex := 118, attributes := #[] }] 48 6 #[] #[{ accessFlags := 26, nameIndex := 61, descriptorIndex := 62, attributes := #[] }, { accessFlags := 26, nameIndex := 65, descriptorIndex := 62, attributes := #[] }, { accessFlags := 24, nameIndex := 430, descriptorIndex := 62, attributes := #[] }, { accessFlags := 4120, nameIndex := 46, descriptorIndex := 47, attributes := #[] }])
  fields := #[{ name := "HI_BYTE_SHIFT", type := .int, accessFlags := 26, slot := 0, constantValue := 0 }, { name := "LO_BYTE_SHIFT", type := .int, accessFlags := 26, slot := 1, constantValue := 0 }, { name := "MAX_LENGTH", type := .int, accessFlags := 24, slot := 2, constantValue := 0 }, { name := "$assertionsDisabled", type := .boolean, accessFlags := 4120, slot := 3, constantValue := 0 }]
  methods := #[k8m0, k8m1, k8m2, k8m3]
  instanceTypes := #[]
  staticTypes := #[.int, .int, .int, .boolean]
  resolved := Array.replicate 635 none
  statics := none }

def pool9 : Array CpInfo := pool [(1, .methodref 2 3), (0, .class_ 4), (0, .nameAndType 5 6), (0, u "java/lang/Object"), (0, u "<init>"), (0, u "()V"), (0, .class_ 8), (0, u "java/lang/Record")] 13

def k9c0 : Code := { maxStack := 1, maxLocals := 1, code := jdk_30_method_1_code, exceptionTable := #[], attributes := #[] }
def k9m0 : Method := { name := "<init>", desc := "()V", sig := { parameters := [], returnType := none }, accessFlags := 4, code := some k9c0 }
/-- java/lang/Record -/
def k9 : Class := { plain "java/lang/Record" (some 0) with
  accessFlags := 1057
  interfaces := #[]
  cf := some (fileOf pool9 7 #[] #[{ accessFlags := 4, nameIndex := 5, descriptorIndex := 6, attributes := #[] }] 1057 2 #[] #[])
  fields := #[]
  methods := #[k9m0]
  instanceTypes := #[]
  staticTypes := #[]
  resolved := Array.replicate 22 none
  statics := none }

def pool10 : Array CpInfo := pool [(1, .methodref 2 3), (0, .class_ 4), (0, .nameAndType 5 6), (0, u "java/lang/Record"), (0, u "<init>"), (0, u "()V"), (0, .fieldref 8 9), (0, .class_ 10), (0, .nameAndType 11 12), (0, u "com/example/coracle_health/coraclehealth/staff/FormField"), (0, u "fieldName"), (0, u "Ljava/lang/String;"), (0, .fieldref 8 14), (0, .nameAndType 15 12), (0, u "name"), (0, .fieldref 8 17), (0, .nameAndType 18 19), (0, u "secret"), (0, u "Z"), (0, .fieldref 8 21), (0, .nameAndType 22 23), (0, u "minLength"), (0, u "I"), (0, .methodref 8 25), (0, .nameAndType 5 26), (0, u "(Ljava/lang/String;Ljava/lang/String;ZI)V"), (9, u "()I"), (34, u "()Z"), (6, u "()Ljava/lang/String;"), (76, u "(Ljava/lang/String;Ljava/lang/String;I)Lcom/example/coracle_health/coraclehealth/staff/FormField;")] 64

def k10c0 : Code := { maxStack := 2, maxLocals := 5, code := prog_112_method_1_code, exceptionTable := #[], attributes := #[] }
def k10m0 : Method := { name := "<init>", desc := "(Ljava/lang/String;Ljava/lang/String;ZI)V", sig := { parameters := [(.object "java/lang/String"), (.object "java/lang/String"), .boolean, .int], returnType := none }, accessFlags := 1, code := some k10c0 }
def k10c1 : Code := { maxStack := 6, maxLocals := 3, code := prog_112_method_3_code, exceptionTable := #[], attributes := #[] }
def k10m1 : Method := { name := "secret", desc := "(Ljava/lang/String;Ljava/lang/String;I)Lcom/example/coracle_health/coraclehealth/staff/FormField;", sig := { parameters := [(.object "java/lang/String"), (.object "java/lang/String"), .int], returnType := some (.object "com/example/coracle_health/coraclehealth/staff/FormField") }, accessFlags := 9, code := some k10c1 }
def k10c2 : Code := { maxStack := 1, maxLocals := 1, code := prog_112_method_10_code, exceptionTable := #[], attributes := #[] }
def k10m2 : Method := { name := "fieldName", desc := "()Ljava/lang/String;", sig := { parameters := [], returnType := some (.object "java/lang/String") }, accessFlags := 1, code := some k10c2 }
def k10c3 : Code := { maxStack := 1, maxLocals := 1, code := prog_112_method_11_code, exceptionTable := #[], attributes := #[] }
def k10m3 : Method := { name := "name", desc := "()Ljava/lang/String;", sig := { parameters := [], returnType := some (.object "java/lang/String") }, accessFlags := 1, code := some k10c3 }
def k10c4 : Code := { maxStack := 1, maxLocals := 1, code := prog_112_method_12_code, exceptionTable := #[], attributes := #[] }
def k10m4 : Method := { name := "secret", desc := "()Z", sig := { parameters := [], returnType := some .boolean }, accessFlags := 1, code := some k10c4 }
def k10c5 : Code := { maxStack := 1, maxLocals := 1, code := prog_112_method_13_code, exceptionTable := #[], attributes := #[] }
def k10m5 : Method := { name := "minLength", desc := "()I", sig := { parameters := [], returnType := some .int }, accessFlags := 1, code := some k10c5 }
/-- com/example/coracle_health/coraclehealth/staff/FormField -/
def k10 : Class := { plain "com/example/coracle_health/coraclehealth/staff/FormField" (some 9) with
  accessFlags := 49
  interfaces := #[]
  cf := some (fileOf pool10 8 #[] #[{ accessFlags := 1, nameIndex := 5, descriptorIndex := 26, attributes := #[] }, { accessFlags := 9, nameIndex := 18, descriptorIndex := 155, attributes := #[] }, { accessFlags := 1, nameIndex := 11, descriptorIndex := 78, attributes := #[] }, { accessFlags := 1, nameIndex := 15, descriptorIndex := 78, attributes := #[] }, { accessFlags := 1, nameIndex := 18, descriptorIndex := 71, attributes := #[] }, { accessFlags := 1, nameIndex := 22, descriptorIndex := 36, attributes := #[] }] 49 2 #[] #[{ accessFlags := 18, nameIndex := 11, descriptorIndex := 12, attributes := #[] }, { accessFlags := 18, nameIndex := 15, descriptorIndex := 12, attributes := #[] }, { accessFlags := 18, nameIndex := 18, descriptorIndex := 19, attributes := #[] }, { accessFlags := 18, nameIndex := 22, descriptorIndex := 23, attributes := #[] }])
  fields := #[{ name := "fieldName", type := (.object "java/lang/String"), accessFlags := 18, slot := 0, constantValue := 0 }, { name := "name", type := (.object "java/lang/String"), accessFlags := 18, slot := 1, constantValue := 0 }, { name := "secret", type := .boolean, accessFlags := 18, slot := 2, constantValue := 0 }, { name := "minLength", type := .int, accessFlags := 18, slot := 3, constantValue := 0 }]
  methods := #[k10m0, k10m1, k10m2, k10m3, k10m4, k10m5]
  instanceTypes := #[(.object "java/lang/String"), (.object "java/lang/String"), .boolean, .int]
  staticTypes := #[]
  resolved := Array.replicate 220 none
  statics := none }

def pool11 : Array CpInfo := pool [(4, .class_ 6), (1, u "java/lang/Object"), (0, u "<init>"), (0, u "()V"), (5, .class_ 16), (1, u "java/lang/StringLatin1"), (104, u "$assertionsDisabled"), (0, u "Z"), (98, .class_ 223), (1, u "java/lang/StringLatin1$LinesSpliterator"), (166, .class_ 391), (0, u "java/lang/StringLatin1$CharsSpliterator")] 3

def k11m0 : Method := { name := "<init>", desc := "()V", sig := { parameters := [], returnType := none }, accessFlags := 0, code := none }
/-- java/lang/StringLatin1 -/
def k11 : Class := { plain "java/lang/StringLatin1" (some 0) with
  accessFlags := 48
  interfaces := #[]
  cf := some (fileOf pool11 14 #[.nestMembers #[390, 221]] #[{ accessFlags := 0, nameIndex := 7, descriptorIndex := 8, attributes := #[] }] 48 4 #[] #[{ accessFlags := 4120, nameIndex := 121, descriptorIndex := 122, attributes := #[] }])
  fields := #[{ name := "$assertionsDisabled", type := .boolean, accessFlags := 4120, slot := 0, constantValue := 0 }]
  methods := #[k11m0]
  instanceTypes := #[]
  staticTypes := #[.boolean]
  resolved := Array.replicate 395 none
  statics := none }

def pool12 : Array CpInfo := pool [(2, .class_ 4), (1, u "java/lang/Object"), (0, u "<init>"), (0, u "()V"), (17, .class_ 26), (1, u "jdk/internal/util/Preconditions"), (28, .class_ 56), (0, u "jdk/internal/util/Preconditions$4"), (57, .class_ 115), (0, u "jdk/internal/util/Preconditions$1"), (7, u "SIOOBE_FORMATTER"), (0, u "Ljava/util/function/BiFunction;"), (0, .class_ 126), (0, u "jdk/internal/util/Preconditions$2"), (3, u "AIOOBE_FORMATTER"), (0, .class_ 132), (0, u "jdk/internal/util/Preconditions$3"), (3, u "IOOBE_FORMATTER")] 57

def k12m0 : Method := { name := "<init>", desc := "()V", sig := { parameters := [], returnType := none }, accessFlags := 1, code := none }
/-- jdk/internal/util/Preconditions -/
def k12 : Class := { plain "jdk/internal/util/Preconditions" (some 0) with
  accessFlags := 33
  interfaces := #[]
  cf := some (fileOf pool12 24 #[.nestMembers #[55, 131, 125, 114]] #[{ accessFlags := 1, nameIndex := 5, descriptorIndex := 6, attributes := #[] }] 33 2 #[] #[{ accessFlags := 25, nameIndex := 123, descriptorIndex := 124, attributes := #[] }, { accessFlags := 25, nameIndex := 130, descriptorIndex := 124, attributes := #[] }, { accessFlags := 25, nameIndex := 136, descriptorIndex := 124, attributes := #[] }])
  fields := #[{ name := "SIOOBE_FORMATTER", type := (.object "java/util/function/BiFunction"), accessFlags := 25, slot := 0, constantValue := 0 }, { name := "AIOOBE_FORMATTER", type := (.object "java/util/function/BiFunction"), accessFlags := 25, slot := 1, constantValue := 0 }, { name := "IOOBE_FORMATTER", type := (.object "java/util/function/BiFunction"), accessFlags := 25, slot := 2, constantValue := 0 }]
  methods := #[k12m0]
  instanceTypes := #[]
  staticTypes := #[(.object "java/util/function/BiFunction"), (.object "java/util/function/BiFunction"), (.object "java/util/function/BiFunction")]
  resolved := Array.replicate 194 none
  statics := some 1 }

def pool13 : Array CpInfo := pool [(9, u "<init>"), (6, .class_ 18), (1, u "java/lang/Object"), (0, u "()V"), (1, .class_ 23), (1, u "jdk/internal/util/ArraysSupport"), (0, u "LOG2_ARRAY_LONG_INDEX_SCALE"), (0, u "I"), (2, u "U"), (0, u "Ljdk/internal/misc/Unsafe;"), (8, u "BIG_ENDIAN"), (0, u "Z"), (8, u "LOG2_BYTE_BIT_SIZE"), (4, u "LOG2_ARRAY_INT_INDEX_SCALE"), (54, u "JLA"), (0, u "Ljdk/internal/access/JavaLangAccess;"), (11, u "LOG2_ARRAY_BOOLEAN_INDEX_SCALE"), (9, u "LOG2_ARRAY_BYTE_INDEX_SCALE"), (5, u "LOG2_ARRAY_CHAR_INDEX_SCALE"), (5, u "LOG2_ARRAY_SHORT_INDEX_SCALE"), (18, u "LOG2_ARRAY_FLOAT_INDEX_SCALE"), (24, u "LOG2_ARRAY_DOUBLE_INDEX_SCALE"), (89, u "T_BOOLEAN"), (2, u "T_CHAR"), (1, u "T_FLOAT"), (1, u "T_DOUBLE"), (1, u "T_BYTE"), (1, u "T_SHORT"), (1, u "T_INT"), (1, u "T_LONG"), (1, u "SOFT_MAX_ARRAY_LENGTH")] 83

def k13m0 : Method := { name := "<init>", desc := "()V", sig := { parameters := [], returnType := none }, accessFlags := 2, code := none }
/-- jdk/internal/util/ArraysSupport -/
def k13 : Class := { plain "jdk/internal/util/ArraysSupport" (some 0) with
  accessFlags := 33
  interfaces := #[]
  cf := some (fileOf pool13 21 #[] #[{ accessFlags := 2, nameIndex := 9, descriptorIndex := 19, attributes := #[] }] 33 16 #[] #[{ accessFlags := 24, nameIndex := 28, descriptorIndex := 29, attributes := #[] }, { accessFlags := 26, nameIndex := 38, descriptorIndex := 39, attributes := #[] }, { accessFlags := 25, nameIndex := 121, descriptorIndex := 25, attributes := #[] }, { accessFlags := 25, nameIndex := 131, descriptorIndex := 25, attributes := #[] }, { accessFlags := 25, nameIndex := 137, descriptorIndex := 25, attributes := #[] }, { accessFlags := 25, nameIndex := 143, descriptorIndex := 25, attributes := #[] }, { accessFlags := 25, nameIndex := 53, descriptorIndex := 25, attributes := #[] }, { accessFlags := 25, nameIndex := 24, descriptorIndex := 25, attributes := #[] }, { accessFlags := 25, nameIndex := 162, descriptorIndex := 25, attributes := #[] }, { accessFlags := 25, nameIndex := 187, descriptorIndex := 25, attributes := #[] }, { accessFlags := 26, nameIndex := 48, descriptorIndex := 25, attributes := #[] }, { accessFlags := 25, nameIndex := 277, descriptorIndex := 25, attributes := #[] }, { accessFlags := 25, nameIndex := 280, descriptorIndex := 25, attributes := #[] }, { accessFlags := 25, nameIndex := 282, descriptorIndex := 25, attributes := #[] }, { accessFlags := 25, nameIndex := 284, descriptorIndex := 25, attributes := #[] }, { accessFlags := 25, nameIndex := 286, descriptorIndex := 25, attributes := #[] }, { accessFlags := 25, nameIndex := 288, descriptorIndex := 25, attributes := #[] }, { accessFlags := 25, nameIndex := 290, descriptorIndex := 25, attributes := #[] }, { accessFlags := 25, nameIndex := 292, descriptorIndex := 25, attributes := #[] }, { accessFlags := 26, nameIndex := 108, descriptorIndex := 109, attributes := #[] }, { accessFlags := 25, nameIndex := 294, descriptorIndex := 25, attributes := #[] }])
  fields := #[{ name := "U", type := (.object "jdk/internal/misc/Unsafe"), accessFlags := 24, slot := 0, constantValue := 0 }, { name := "BIG_ENDIAN", type := .boolean, accessFlags := 26, slot := 1, constantValue := 0 }, { name := "LOG2_ARRAY_BOOLEAN_INDEX_SCALE", type := .int, accessFlags := 25, slot := 2, constantValue := 0 }, { name := "LOG2_ARRAY_BYTE_INDEX_SCALE", type := .int, accessFlags := 25, slot := 3, constantValue := 0 }, { name := "LOG2_ARRAY_CHAR_INDEX_SCALE", type := .int, accessFlags := 25, slot := 4, constantValue := 0 }, { name := "LOG2_ARRAY_SHORT_INDEX_SCALE", type := .int, accessFlags := 25, slot := 5, constantValue := 0 }, { name := "LOG2_ARRAY_INT_INDEX_SCALE", type := .int, accessFlags := 25, slot := 6, constantValue := 0 }, { name := "LOG2_ARRAY_LONG_INDEX_SCALE", type := .int, accessFlags := 25, slot := 7, constantValue := 0 }, { name := "LOG2_ARRAY_FLOAT_INDEX_SCALE", type := .int, accessFlags := 25, slot := 8, constantValue := 0 }, { name := "LOG2_ARRAY_DOUBLE_INDEX_SCALE", type := .int, accessFlags := 25, slot := 9, constantValue := 0 }, { name := "LOG2_BYTE_BIT_SIZE", type := .int, accessFlags := 26, slot := 10, constantValue := 0 }, { name := "T_BOOLEAN", type := .int, accessFlags := 25, slot := 11, constantValue := 0 }, { name := "T_CHAR", type := .int, accessFlags := 25, slot := 12, constantValue := 0 }, { name := "T_FLOAT", type := .int, accessFlags := 25, slot := 13, constantValue := 0 }, { name := "T_DOUBLE", type := .int, accessFlags := 25, slot := 14, constantValue := 0 }, { name := "T_BYTE", type := .int, accessFlags := 25, slot := 15, constantValue := 0 }, { name := "T_SHORT", type := .int, accessFlags := 25, slot := 16, constantValue := 0 }, { name := "T_INT", type := .int, accessFlags := 25, slot := 17, constantValue := 0 }, { name := "T_LONG", type := .int, accessFlags := 25, slot := 18, constantValue := 0 }, { name := "JLA", type := (.object "jdk/internal/access/JavaLangAccess"), accessFlags := 26, slot := 19, constantValue := 0 }, { name := "SOFT_MAX_ARRAY_LENGTH", type := .int, accessFlags := 25, slot := 20, constantValue := 0 }]
  methods := #[k13m0]
  instanceTypes := #[]
  staticTypes := #[(.object "jdk/internal/misc/Unsafe"), .boolean, .int, .int, .int, .int, .int, .int, .int, .int, .int, .int, .int, .int, .int, .int, .int, .int, .int, (.object "jdk/internal/access/JavaLangAccess"), .int]
  resolved := Array.replicate 378 none
  statics := none }

def pool14 : Array CpInfo := pool [(1, u "java/lang/Cloneable"), (0, .class_ 1), (0, u "java/lang/Object"), (0, .class_ 3)] 3

/-- java/lang/Cloneable -/
def k14 : Class := { plain "java/lang/Cloneable" (some 0) with
  accessFlags := 1537
  interfaces := #[]
  cf := some (fileOf pool14 2 #[] #[] 1537 4 #[] #[])
  fields := #[]
  methods := #[]
  instanceTypes := #[]
  staticTypes := #[]
  resolved := Array.replicate 8 none
  statics := none }

/-- the primitive byte -/
def k15 : Class := { plain "byte" none with kind := .primitive 'B', accessFlags := 0x411 }
/-- [B -/
def k16 : Class := { plain "[B" (some 0) with kind := .array 15 .byte, interfaces := #[14, 2], accessFlags := 1041 }

/-- the primitive char -/
def k17 : Class := { plain "char" none with kind := .primitive 'C', accessFlags := 0x411 }
/-- [C -/
def k18 : Class := { plain "[C" (some 0) with kind := .array 17 .char, interfaces := #[14, 2], accessFlags := 1041 }

/-- the primitive int -/
def k19 : Class := { plain "int" none with kind := .primitive 'I', accessFlags := 0x411 }
/-- [I -/
def k20 : Class := { plain "[I" (some 0) with kind := .array 19 .int, interfaces := #[14, 2], accessFlags := 1041 }

def heap : Heap := #[{ cls := 7, slots := #[.long 0, .int 1, .null, .int 0, .null, .int 0, .int 0], vm := .statics 7 },
  { cls := 12, slots := #[.null, .null, .null], vm := .statics 12 }]
def classes : Array Class := #[k0, k1, k2, k3, k4, k5, k6, k7, k8, k9, k10, k11, k12, k13, k14, k15, k16, k17, k18, k19, k20]
def interned : List (Array UInt16 × Addr) := []
def slotsUsed : Nat := 10
def theMethod : MethodId := ⟨1, 3⟩
def args0 : Array Value := #[.int 5, .int 6, .int 7, .int 0]
def aboutOver (below : List Frame) : State where
  vm := { classes := classes, interned := interned.toArray }
  heap := heap
  slotsUsed := slotsUsed
  threads := #[{ frames := .invoking theMethod args0 :: below }]
def below0 : List Frame := [.native { method := ⟨0, 0⟩, args := #[] }]
def about1 : State := aboutOver below0
def p0 : Program := .bare "" "" ""
def e0 : Env := launch0.env 0 0 0
theorem w_frames : about1.frames = Frame.invoking theMethod args0 :: below0 := rfl
set_option maxRecDepth 65536 in
theorem w_args : argsFit about1.vm theMethod args0 = true := by decide +kernel
set_option maxRecDepth 65536 in
theorem w_heap : heapFits about1 = true := by decide +kernel
set_option maxRecDepth 65536 in
theorem w_runnable : about1.curStatus? = some .runnable := by decide +kernel
set_option maxRecDepth 65536 in
theorem w_alone : about1.alone = true := by decide +kernel
set_option maxRecDepth 65536 in
theorem w_named : about1.methodNamed? x = some theMethod := by decide +kernel
set_option maxRecDepth 65536 in
theorem w_hears : about1.hears theMethod below0 = true := by decide +kernel
set_option maxRecDepth 65536 in
theorem w_ripe : about1.ripe theMethod args0 below0 = true := by decide +kernel
theorem w_running : about1.status = .running := rfl
set_option maxRecDepth 65536 in
theorem w_room : about1.hasRoom e0.platform room_1 = true :=
  launch0.hasRoom_least _ room_1 (by decide +kernel) (by decide +kernel) (by decide +kernel) (by decide +kernel) (by decide +kernel) (by decide +kernel)
theorem allAtoms_all (ts : List Jvm.Cond) (a : Array Jvm.Value) (st : Jvm.State) : (allAtoms ts).before a st = ts.all (fun c => c.before a st) := by
  induction ts with
  | nil => rfl
  | cons c t ih =>
    show (Jvm.Cond.and c (allAtoms t)).before a st = _
    rw [Jvm.Cond.before_and, ih, List.all_cons]
def words1 : List Jvm.Cond := Jvm.Cond.code x code maxLocals ret :: tables_1
/-- a 'code' word, met by the world's own term for the bytes: nothing is compared byte by byte -/
theorem code_word {y : MethodName} {bytes : ByteArray} {mx : Nat} {rt : Option FieldType} {a : Array Value} {s : State} {m : MethodId} {meth : Method} {c : Code} (h1 : s.methodNamed? y = some m) (h2 : s.vm.method? m = some meth) (h3 : meth.code = some c) (h4 : c.code = bytes)
    (h5 : (c.maxLocals == mx && c.exceptionTable.isEmpty && decide (c.maxStack ≤ mostOperands) && decide (meth.sig.returnType = rt) && !meth.locks && decide (parseMethodDescriptor y.desc = some meth.sig)) = true) : (Jvm.Cond.code y bytes mx rt).before a s = true := by
  simp only [Bool.and_eq_true, beq_iff_eq, Bool.not_eq_true', decide_eq_true_eq] at h5
  obtain ⟨⟨⟨⟨⟨g1, g2⟩, g3⟩, g4⟩, g5⟩, g6⟩ := h5
  simp [Cond.before, Cond.holds, Cond.value, h1, h2, h3, h4, g1, g2, g3, g4, g5, g6]
def isCode : Jvm.Cond → Bool
  | .code _ _ _ _ => true
  | _ => false
theorem all_split {L : List Jvm.Cond} {P : Jvm.Cond → Bool} (h1 : L.all (fun c => isCode c || P c) = true) (h2 : ∀ c ∈ L.filter isCode, P c = true) : L.all P = true := by
  refine List.all_eq_true.mpr fun c hc => ?_
  have h := List.all_eq_true.mp h1 c hc
  rcases Bool.eq_false_or_eq_true (isCode c) with hi | hi
  · exact h2 c (List.mem_filter.mpr ⟨hc, hi⟩)
  · simpa [hi] using h
set_option maxRecDepth 65536 in
theorem w_c0 : (Jvm.Cond.code x code maxLocals ret).before args0 about1 = true := code_word (m := ⟨1, 3⟩) (meth := k1m3) (c := k1c3) (by decide +kernel) rfl rfl rfl (by decide +kernel)
set_option maxRecDepth 65536 in
theorem w_c1 : (Jvm.Cond.code ({ cls := "com/example/coracle_health/coraclehealth/staff/FormFieldSecretPinLaw", name := "draw", desc := "(II)Ljava/lang/String;" } : Jvm.MethodName) method_2_code (3 : Nat) (Option.some (Jvm.ClassFile.FieldType.object "java/lang/String"))).before args0 about1 = true := code_word (m := ⟨1, 1⟩) (meth := k1m1) (c := k1c1) (by decide +kernel) rfl rfl rfl (by decide +kernel)
set_option maxRecDepth 65536 in
theorem w_c2 : (Jvm.Cond.code ({ cls := "java/lang/String", name := "<init>", desc := "([C)V" } : Jvm.MethodName) jdk_42_method_3_code (2 : Nat) (Option.none : Option Jvm.ClassFile.FieldType)).before args0 about1 = true := code_word (m := ⟨7, 1⟩) (meth := k7m1) (c := k7c1) (by decide +kernel) rfl rfl rfl (by decide +kernel)
set_option maxRecDepth 65536 in
theorem w_c3 : (Jvm.Cond.code ({ cls := "java/lang/String", name := "<init>", desc := "([CIILjava/lang/Void;)V" } : Jvm.MethodName) jdk_42_method_149_code (6 : Nat) (Option.none : Option Jvm.ClassFile.FieldType)).before args0 about1 = true := code_word (m := ⟨7, 3⟩) (meth := k7m3) (c := k7c3) (by decide +kernel) rfl rfl rfl (by decide +kernel)
set_option maxRecDepth 65536 in
theorem w_c4 : (Jvm.Cond.code ({ cls := "java/lang/Object", name := "<init>", desc := "()V" } : Jvm.MethodName) object_method_1_code (1 : Nat) (Option.none : Option Jvm.ClassFile.FieldType)).before args0 about1 = true := code_word (m := ⟨0, 0⟩) (meth := k0m0) (c := k0c0) (by decide +kernel) rfl rfl rfl (by decide +kernel)
set_option maxRecDepth 65536 in
theorem w_c5 : (Jvm.Cond.code ({ cls := "java/lang/StringUTF16", name := "compress", desc := "([CII)[B" } : Jvm.MethodName) jdk_52_method_16_code (6 : Nat) (Option.some (Jvm.ClassFile.FieldType.array Jvm.ClassFile.FieldType.byte))).before args0 about1 = true := code_word (m := ⟨8, 2⟩) (meth := k8m2) (c := k8c2) (by decide +kernel) rfl rfl rfl (by decide +kernel)
set_option maxRecDepth 65536 in
theorem w_c6 : (Jvm.Cond.code ({ cls := "java/lang/StringUTF16", name := "compress", desc := "([CI[BII)I" } : Jvm.MethodName) jdk_52_method_21_code (7 : Nat) (Option.some Jvm.ClassFile.FieldType.int)).before args0 about1 = true := code_word (m := ⟨8, 3⟩) (meth := k8m3) (c := k8c3) (by decide +kernel) rfl rfl rfl (by decide +kernel)
set_option maxRecDepth 65536 in
theorem w_c7 : (Jvm.Cond.code ({ cls := "java/lang/StringUTF16", name := "coderFromArrayLen", desc := "([BI)B" } : Jvm.MethodName) jdk_52_method_15_code (2 : Nat) (Option.some Jvm.ClassFile.FieldType.byte)).before args0 about1 = true := code_word (m := ⟨8, 1⟩) (meth := k8m1) (c := k8c1) (by decide +kernel) rfl rfl rfl (by decide +kernel)
set_option maxRecDepth 65536 in
theorem w_c8 : (Jvm.Cond.code ({ cls := "com/example/coracle_health/coraclehealth/staff/FormField", name := "secret", desc := "(Ljava/lang/String;Ljava/lang/String;I)Lcom/example/coracle_health/coraclehealth/staff/FormField;" } : Jvm.MethodName) prog_112_method_3_code (3 : Nat) (Option.some (Jvm.ClassFile.FieldType.object "com/example/coracle_health/coraclehealth/staff/FormField"))).before args0 about1 = true := code_word (m := ⟨10, 1⟩) (meth := k10m1) (c := k10c1) (by decide +kernel) rfl rfl rfl (by decide +kernel)
set_option maxRecDepth 65536 in
theorem w_c9 : (Jvm.Cond.code ({ cls := "com/example/coracle_health/coraclehealth/staff/FormField", name := "<init>", desc := "(Ljava/lang/String;Ljava/lang/String;ZI)V" } : Jvm.MethodName) prog_112_method_1_code (5 : Nat) (Option.none : Option Jvm.ClassFile.FieldType)).before args0 about1 = true := code_word (m := ⟨10, 0⟩) (meth := k10m0) (c := k10c0) (by decide +kernel) rfl rfl rfl (by decide +kernel)
set_option maxRecDepth 65536 in
theorem w_c10 : (Jvm.Cond.code ({ cls := "java/lang/Record", name := "<init>", desc := "()V" } : Jvm.MethodName) jdk_30_method_1_code (1 : Nat) (Option.none : Option Jvm.ClassFile.FieldType)).before args0 about1 = true := code_word (m := ⟨9, 0⟩) (meth := k9m0) (c := k9c0) (by decide +kernel) rfl rfl rfl (by decide +kernel)
set_option maxRecDepth 65536 in
theorem w_c11 : (Jvm.Cond.code ({ cls := "com/example/coracle_health/coraclehealth/staff/FormField", name := "fieldName", desc := "()Ljava/lang/String;" } : Jvm.MethodName) prog_112_method_10_code (1 : Nat) (Option.some (Jvm.ClassFile.FieldType.object "java/lang/String"))).before args0 about1 = true := code_word (m := ⟨10, 2⟩) (meth := k10m2) (c := k10c2) (by decide +kernel) rfl rfl rfl (by decide +kernel)
set_option maxRecDepth 65536 in
theorem w_c12 : (Jvm.Cond.code ({ cls := "com/example/coracle_health/coraclehealth/staff/FormFieldSecretPinLaw", name := "same", desc := "(Ljava/lang/String;Ljava/lang/String;)Z" } : Jvm.MethodName) method_3_code (2 : Nat) (Option.some Jvm.ClassFile.FieldType.boolean)).before args0 about1 = true := code_word (m := ⟨1, 2⟩) (meth := k1m2) (c := k1c2) (by decide +kernel) rfl rfl rfl (by decide +kernel)
set_option maxRecDepth 65536 in
theorem w_c13 : (Jvm.Cond.code ({ cls := "com/example/coracle_health/coraclehealth/staff/FormField", name := "name", desc := "()Ljava/lang/String;" } : Jvm.MethodName) prog_112_method_11_code (1 : Nat) (Option.some (Jvm.ClassFile.FieldType.object "java/lang/String"))).before args0 about1 = true := code_word (m := ⟨10, 3⟩) (meth := k10m3) (c := k10c3) (by decide +kernel) rfl rfl rfl (by decide +kernel)
set_option maxRecDepth 65536 in
theorem w_c14 : (Jvm.Cond.code ({ cls := "java/lang/String", name := "equals", desc := "(Ljava/lang/Object;)Z" } : Jvm.MethodName) jdk_42_method_66_code (3 : Nat) (Option.some Jvm.ClassFile.FieldType.boolean)).before args0 about1 = true := code_word (m := ⟨7, 2⟩) (meth := k7m2) (c := k7c2) (by decide +kernel) rfl rfl rfl (by decide +kernel)
set_option maxRecDepth 65536 in
theorem w_c15 : (Jvm.Cond.code ({ cls := "com/example/coracle_health/coraclehealth/staff/FormField", name := "secret", desc := "()Z" } : Jvm.MethodName) prog_112_method_12_code (1 : Nat) (Option.some Jvm.ClassFile.FieldType.boolean)).before args0 about1 = true := code_word (m := ⟨10, 4⟩) (meth := k10m4) (c := k10c4) (by decide +kernel) rfl rfl rfl (by decide +kernel)
set_option maxRecDepth 65536 in
theorem w_c16 : (Jvm.Cond.code ({ cls := "com/example/coracle_health/coraclehealth/staff/FormField", name := "minLength", desc := "()I" } : Jvm.MethodName) prog_112_method_13_code (1 : Nat) (Option.some Jvm.ClassFile.FieldType.int)).before args0 about1 = true := code_word (m := ⟨10, 5⟩) (meth := k10m5) (c := k10c5) (by decide +kernel) rfl rfl rfl (by decide +kernel)
def codes1 : List Jvm.Cond := [Jvm.Cond.code x code maxLocals ret, Jvm.Cond.code ({ cls := "com/example/coracle_health/coraclehealth/staff/FormFieldSecretPinLaw", name := "draw", desc := "(II)Ljava/lang/String;" } : Jvm.MethodName) method_2_code (3 : Nat) (Option.some (Jvm.ClassFile.FieldType.object "java/lang/String")), Jvm.Cond.code ({ cls := "java/lang/String", name := "<init>", desc := "([C)V" } : Jvm.MethodName) jdk_42_method_3_code (2 : Nat) (Option.none : Option Jvm.ClassFile.FieldType), Jvm.Cond.code ({ cls := "java/lang/String", name := "<init>", desc := "([CIILjava/lang/Void;)V" } : Jvm.MethodName) jdk_42_method_149_code (6 : Nat) (Option.none : Option Jvm.ClassFile.FieldType), Jvm.Cond.code ({ cls := "java/lang/Object", name := "<init>", desc := "()V" } : Jvm.MethodName) object_method_1_code (1 : Nat) (Option.none : Option Jvm.ClassFile.FieldType), Jvm.Cond.code ({ cls := "java/lang/StringUTF16", name := "compress", desc := "([CII)[B" } : Jvm.MethodName) jdk_52_method_16_code (6 : Nat) (Option.some (Jvm.ClassFile.FieldType.array Jvm.ClassFile.FieldType.byte)), Jvm.Cond.code ({ cls := "java/lang/StringUTF16", name := "compress", desc := "([CI[BII)I" } : Jvm.MethodName) jdk_52_method_21_code (7 : Nat) (Option.some Jvm.ClassFile.FieldType.int), Jvm.Cond.code ({ cls := "java/lang/StringUTF16", name := "coderFromArrayLen", desc := "([BI)B" } : Jvm.MethodName) jdk_52_method_15_code (2 : Nat) (Option.some Jvm.ClassFile.FieldType.byte), Jvm.Cond.code ({ cls := "com/example/coracle_health/coraclehealth/staff/FormField", name := "secret", desc := "(Ljava/lang/String;Ljava/lang/String;I)Lcom/example/coracle_health/coraclehealth/staff/FormField;" } : Jvm.MethodName) prog_112_method_3_code (3 : Nat) (Option.some (Jvm.ClassFile.FieldType.object "com/example/coracle_health/coraclehealth/staff/FormField")), Jvm.Cond.code ({ cls := "com/example/coracle_health/coraclehealth/staff/FormField", name := "<init>", desc := "(Ljava/lang/String;Ljava/lang/String;ZI)V" } : Jvm.MethodName) prog_112_method_1_code (5 : Nat) (Option.none : Option Jvm.ClassFile.FieldType), Jvm.Cond.code ({ cls := "java/lang/Record", name := "<init>", desc := "()V" } : Jvm.MethodName) jdk_30_method_1_code (1 : Nat) (Option.none : Option Jvm.ClassFile.FieldType), Jvm.Cond.code ({ cls := "com/example/coracle_health/coraclehealth/staff/FormField", name := "fieldName", desc := "()Ljava/lang/String;" } : Jvm.MethodName) prog_112_method_10_code (1 : Nat) (Option.some (Jvm.ClassFile.FieldType.object "java/lang/String")), Jvm.Cond.code ({ cls := "com/example/coracle_health/coraclehealth/staff/FormFieldSecretPinLaw", name := "same", desc := "(Ljava/lang/String;Ljava/lang/String;)Z" } : Jvm.MethodName) method_3_code (2 : Nat) (Option.some Jvm.ClassFile.FieldType.boolean), Jvm.Cond.code ({ cls := "com/example/coracle_health/coraclehealth/staff/FormField", name := "name", desc := "()Ljava/lang/String;" } : Jvm.MethodName) prog_112_method_11_code (1 : Nat) (Option.some (Jvm.ClassFile.FieldType.object "java/lang/String")), Jvm.Cond.code ({ cls := "java/lang/String", name := "equals", desc := "(Ljava/lang/Object;)Z" } : Jvm.MethodName) jdk_42_method_66_code (3 : Nat) (Option.some Jvm.ClassFile.FieldType.boolean), Jvm.Cond.code ({ cls := "com/example/coracle_health/coraclehealth/staff/FormField", name := "secret", desc := "()Z" } : Jvm.MethodName) prog_112_method_12_code (1 : Nat) (Option.some Jvm.ClassFile.FieldType.boolean), Jvm.Cond.code ({ cls := "com/example/coracle_health/coraclehealth/staff/FormField", name := "minLength", desc := "()I" } : Jvm.MethodName) prog_112_method_13_code (1 : Nat) (Option.some Jvm.ClassFile.FieldType.int)]
set_option maxRecDepth 65536 in
theorem codes_eq : words1.filter isCode = codes1 := rfl
theorem w_codes : ∀ c ∈ words1.filter isCode, c.before args0 about1 = true := by
  rw [codes_eq]
  intro c hc
  simp only [codes1, List.mem_cons, List.not_mem_nil, or_false] at hc
  rcases hc with rfl | rfl | rfl | rfl | rfl | rfl | rfl | rfl | rfl | rfl | rfl | rfl | rfl | rfl | rfl | rfl | rfl
  · exact w_c0
  · exact w_c1
  · exact w_c2
  · exact w_c3
  · exact w_c4
  · exact w_c5
  · exact w_c6
  · exact w_c7
  · exact w_c8
  · exact w_c9
  · exact w_c10
  · exact w_c11
  · exact w_c12
  · exact w_c13
  · exact w_c14
  · exact w_c15
  · exact w_c16
set_option maxRecDepth 65536 in
theorem w_t1 : (words1.take 24).all (fun c => isCode c || c.before args0 about1) = true := by decide +kernel
set_option maxRecDepth 65536 in
theorem w_t2 : ((words1.drop 24).take 24).all (fun c => isCode c || c.before args0 about1) = true := by decide +kernel
set_option maxRecDepth 65536 in
theorem w_t3 : (((words1.drop 24).drop 24).take 24).all (fun c => isCode c || c.before args0 about1) = true := by decide +kernel
set_option maxRecDepth 65536 in
theorem w_t4 : (((words1.drop 24).drop 24).drop 24).all (fun c => isCode c || c.before args0 about1) = true := by decide +kernel
theorem w_tables : (allAtoms (Jvm.Cond.code x code maxLocals ret :: tables_1)).before args0 about1 = true := by
  rw [allAtoms_all]
  show words1.all (fun c => c.before args0 about1) = true
  refine all_split ?_ w_codes
  rw [← List.take_append_drop 24 words1, List.all_append, w_t1, ← List.take_append_drop 24 (words1.drop 24), List.all_append, w_t2, ← List.take_append_drop 24 ((words1.drop 24).drop 24), List.all_append, w_t3, w_t4]
  rfl
set_option maxRecDepth 65536 in
theorem w_rest : rest_1_c.before args0 about1 = true := by decide +kernel
set_option maxRecDepth 65536 in
theorem w_case : (Jvm.Cond.and given_1 narrow_1).before args0 about1 = true := by decide +kernel
theorem w_applies : (headSpec (Jvm.Cond.code x code maxLocals ret :: tables_1) room_1).applies x e0.platform about1 = true :=
  (Spec.applies_iff w_frames).mpr ⟨w_running, w_runnable, w_alone, w_named, w_hears, w_ripe, w_room, w_tables⟩
theorem atStart : AtStart classFile x code maxLocals ret World_1 tables_1 room_1 Calls_1 rest_1 Pre_1 launch0 p0 e0 about1 theMethod args0 below0 :=
  ⟨lists_1, trivial, launch0.admits_env _ _ _, launch0.least_env, fairChoices_fair.cas, fairChoices_fair.clock, w_frames, w_args, w_heap, w_applies, trivial, w_rest, w_case⟩
end start1
theorem witness_1 : WitnessClaimed_1 := ⟨start1.p0, start1.e0, start1.about1, start1.theMethod, start1.args0, start1.below0, start1.atStart⟩
end Jvm.Pilot.@@N@@
