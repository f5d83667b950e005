import JvmDerived
import JvmDerived.Pilot.@@N@@Statement
import JvmDerived.Pilot.@@N@@Code
set_option linter.unusedVariables false
set_option linter.unusedSimpArgs false
namespace Jvm.Pilot.@@N@@
open Jvm Jvm.ClassFile Sem Op Lib Jvm.Free Jvm.Stand Jvm.LawKit Jvm.RoadKit Bundle Jvm.Pilot.@@N@@.Jvm.D
section OwnRoad
variable {p : Program} {l : Launch} {e : Env} {R : Room} {s : State} {m : MethodId} {args : Array Value} {below : List Frame} {meth : Method} {c : Code} {T : State} {locs : List Loc} {cells slots : Nat}
/-- from A the run comes to an end of which G speaks -/
def OEnds (tb : Tables) (e : Env) (below : List Frame) (G : Outcome → State → Prop) (A : State) : Prop := ∃ s₂ o, Steps tb e below A s₂ ∧ s₂.status = .running ∧ Ended s₂ below o ∧ G o s₂
theorem OEnds.st {tb : Tables} {e : Env} {below : List Frame} {G : Outcome → State → Prop} {A B : State} (h : ∀ t, Steps tb e below B t → Steps tb e below A t) (k : OEnds tb e below G B) : OEnds tb e below G A := by
  obtain ⟨s, o, h1, h2⟩ := k
  exact ⟨s, o, h _ h1, h2⟩
def OGoal (Q : Option Value → Heap → List Loc → Prop) (s : State) (C S : Nat) (o : Outcome) (t : State) : Prop := ∃ v L, o = .returned v ∧ Q v t.heap L ∧ FrameEnd s o t L C S
theorem OEnds.out (X : Stand p l e R s m args below meth c T locs cells slots) (hlk : meth.locks = false) {v : Option Value} (hv : meth.sig.returnType = none → v = none) {Q : Option Value → Heap → List Loc → Prop} {C S : Nat} {A : State}
    (st : ∀ fs, (∀ (f : JFrame) (acts : List Action), f.method = m → f.locked = none → f.entered = [] → (doReturn e (T.setTop f) acts v).1 = T.setFrames fs) → Steps p.tables e below A (T.setFrames fs)) (hc : cells ≤ C) (hs : slots ≤ S) (hQ : Q v T.heap locs) : OEnds p.tables e below (OGoal Q s C S) A := by
  obtain ⟨fs, hr, hrun, hended, hW, hsame⟩ := X.leave (v := v) hv hlk
  exact ⟨_, _, st fs hr, hrun, hended, _, _, rfl, hQ, ⟨_, rfl⟩, hW, hsame.mono hc hs⟩
theorem OEnds.retI (X : Stand p l e R s m args below meth c T locs cells slots) (hx : p.tables.exec = Jvm.exec) (hlk : meth.locks = false) (hret : meth.sig.returnType = some .int) {pc : Nat} {Ls : Array Slot} {z : Int32} {rest : List Value} (hd : decode c.code pc = .ok (.ireturn, 1)) {Q : Option Value → Heap → List Loc → Prop} {C S : Nat} (hc : cells ≤ C) (hs : slots ≤ S) (hQ : Q (some (.int z)) T.heap locs) :
    OEnds p.tables e below (OGoal Q s C S) (T.setTop (mkF m pc Ls (.int z :: rest))) :=
  OEnds.out X hlk (fun h => by rw [hret] at h; cases h) (fun fs hr => retOut X hx hret rfl (Or.inl ⟨rfl, Or.inl rfl, _, rfl⟩) hd hr) hc hs hQ
theorem OEnds.retZ (X : Stand p l e R s m args below meth c T locs cells slots) (hx : p.tables.exec = Jvm.exec) (hlk : meth.locks = false) (hret : meth.sig.returnType = some .boolean) {pc : Nat} {Ls : Array Slot} {z : Int32} {rest : List Value} (hz : nar .boolean z = z) (hd : decode c.code pc = .ok (.ireturn, 1)) {Q : Option Value → Heap → List Loc → Prop} {C S : Nat} (hc : cells ≤ C) (hs : slots ≤ S) (hQ : Q (some (.int z)) T.heap locs) :
    OEnds p.tables e below (OGoal Q s C S) (T.setTop (mkF m pc Ls (.int z :: rest))) :=
  OEnds.out X hlk (fun h => by rw [hret] at h; cases h) (fun fs hr => retN X hx (t := .boolean) hret (Or.inl rfl) hd (by rw [hz]; exact hr)) hc hs hQ
theorem OEnds.retB (X : Stand p l e R s m args below meth c T locs cells slots) (hx : p.tables.exec = Jvm.exec) (hlk : meth.locks = false) (hret : meth.sig.returnType = some .byte) {pc : Nat} {Ls : Array Slot} {z : Int32} {rest : List Value} (hz : nar .byte z = z) (hd : decode c.code pc = .ok (.ireturn, 1)) {Q : Option Value → Heap → List Loc → Prop} {C S : Nat} (hc : cells ≤ C) (hs : slots ≤ S) (hQ : Q (some (.int z)) T.heap locs) :
    OEnds p.tables e below (OGoal Q s C S) (T.setTop (mkF m pc Ls (.int z :: rest))) :=
  OEnds.out X hlk (fun h => by rw [hret] at h; cases h) (fun fs hr => retN X hx (t := .byte) hret (Or.inr (Or.inl rfl)) hd (by rw [hz]; exact hr)) hc hs hQ
theorem OEnds.retJ (X : Stand p l e R s m args below meth c T locs cells slots) (hx : p.tables.exec = Jvm.exec) (hlk : meth.locks = false) (hret : meth.sig.returnType = some .long) {pc : Nat} {Ls : Array Slot} {z : Int64} {rest : List Value} (hd : decode c.code pc = .ok (.lreturn, 1)) {Q : Option Value → Heap → List Loc → Prop} {C S : Nat} (hc : cells ≤ C) (hs : slots ≤ S) (hQ : Q (some (.long z)) T.heap locs) :
    OEnds p.tables e below (OGoal Q s C S) (T.setTop (mkF m pc Ls (.long z :: rest))) :=
  OEnds.out X hlk (fun h => by rw [hret] at h; cases h) (fun fs hr => retOut X hx hret rfl (Or.inr (Or.inl ⟨rfl, rfl, _, rfl⟩)) hd hr) hc hs hQ
theorem OEnds.retA (X : Stand p l e R s m args below meth c T locs cells slots) (hx : p.tables.exec = Jvm.exec) (hlk : meth.locks = false) {t : FieldType} (hret : meth.sig.returnType = some t) {pc : Nat} {Ls : Array Slot} {w : Value} {rest : List Value} (hw : w.isRef = true) (ht : t.isReference = true) (hd : decode c.code pc = .ok (.areturn, 1)) {Q : Option Value → Heap → List Loc → Prop} {C S : Nat} (hc : cells ≤ C) (hs : slots ≤ S) (hQ : Q (some w) T.heap locs) :
    OEnds p.tables e below (OGoal Q s C S) (T.setTop (mkF m pc Ls (w :: rest))) :=
  OEnds.out X hlk (fun h => by rw [hret] at h; cases h) (fun fs hr => retOut X hx hret (by cases t <;> cases w <;> first | rfl | (cases ht; done) | (cases hw; done)) (Or.inr (Or.inr (Or.inr (Or.inr ⟨rfl, ht, hw⟩)))) hd hr) hc hs hQ
theorem OEnds.retV (X : Stand p l e R s m args below meth c T locs cells slots) (hx : p.tables.exec = Jvm.exec) (hlk : meth.locks = false) (hret : meth.sig.returnType = none) {pc : Nat} {Ls : Array Slot} (hd : decode c.code pc = .ok (.return_, 1)) {Q : Option Value → Heap → List Loc → Prop} {C S : Nat} (hc : cells ≤ C) (hs : slots ≤ S) (hQ : Q none T.heap locs) :
    OEnds p.tables e below (OGoal Q s C S) (T.setTop (mkF m pc Ls [])) :=
  OEnds.out X hlk (fun _ => rfl) (fun fs hr => X.returnOut hx hret hd hr) hc hs hQ
def OGoalW (Q : Option Value → Heap → List Loc → Prop) (s : State) (C S : Nat) (o : Outcome) (t : State) : Prop := ∃ v L, o = .returned v ∧ Q v t.heap L ∧ Jvm.ReturnedEndW s o t L C S
theorem own_growW {s t : State} {o : Outcome} {L : List Loc} {k n k' n' : Nat} (h : Jvm.ReturnedEndW s o t L k n) (hk : k ≤ k') (hn : n ≤ n') : Jvm.ReturnedEndW s o t L k' n' := ⟨h.1, h.2.1, h.2.2.1, h.2.2.2.mono hk hn⟩
theorem OEnds.retZW {vm0 : Vm} (X : Stand p l e R (s.setVm vm0) m args below meth c T locs cells slots) {n : Nat} (hS : s.Since vm0 n) (hn : n ≤ T.heap.size) (hx : p.tables.exec = Jvm.exec) (hlk : meth.locks = false) (hret : meth.sig.returnType = some .boolean) {pc : Nat} {Ls : Array Slot} {z : Int32} {rest : List Value} (hz : nar .boolean z = z) (hd : decode c.code pc = .ok (.ireturn, 1)) {Q : Option Value → Heap → List Loc → Prop} {C S : Nat} (hc : cells ≤ C) (hs : slots ≤ S) (hQ : Q (some (.int z)) T.heap locs) :
    OEnds p.tables e below (OGoalW Q s C S) (T.setTop (mkF m pc Ls (.int z :: rest))) := by
  obtain ⟨fs, hr, hrun, hended, hW⟩ := X.leaveW hS hn (v := some (.int z)) (fun h => by rw [hret] at h; cases h) hlk
  exact ⟨_, _, retN X hx (t := .boolean) hret (Or.inl rfl) hd (by rw [hz]; exact hr), hrun, hended, _, _, rfl, hQ, own_growW hW hc hs⟩
theorem own_b8 (x : Int32) : nar .byte (x.toInt8.toInt32) = x.toInt8.toInt32 := by
  show (x.toInt8.toInt32).toInt8.toInt32 = _
  rw [Int8.toInt8_toInt32]
theorem own_selP {s : State} {args : Array Value} {n : Nat} {y : MethodName} (hins : (Jvm.Cond.instantiable y.cls n).before args s = true) (hpriv : (Jvm.Cond.privateMethod y).before args s = true) (hinst : (Jvm.Cond.instanceMethod y).before args s = true) (hy : y.cls ≠ "java/lang/invoke/MethodHandle" ∧ y.cls ≠ "java/lang/invoke/VarHandle") :
    (Jvm.Cond.selects y.cls y y).before args s = true := by
  obtain ⟨c, k, hc, hk, -, hniab, -, -⟩ := Cond.instantiable_spec hins
  have hni : k.isInterface = false := (Bool.or_eq_false_iff.mp hniab).1
  obtain ⟨mk, methM, hnamed, hmethM, -, -⟩ := Cond.instanceMethod_spec hinst
  have hfound : s.methodFound? y.cls y.name y.desc = some mk := State.methodFound?_of_named hnamed hy
  have hcls : mk.cls = c := Option.some.inj ((findClass_of_methodNamed hnamed).symm.trans hc)
  have hsel : selectMethod {} s.vm c mk = .method mk := selectMethod_private hmethM (Cond.privateMethod_at hpriv mk methM hnamed hmethM)
  simp only [Cond.before, Cond.holds, Cond.value, hc, hfound, hnamed, hsel, hcls, hk]
  simp; exact hni
theorem own_exa_ns {Z : State} {h : Heap} {a : Addr} {C : String} (E : Exa Z h a C) : ∀ cell : Cell, h[a]? = some cell → cell.vm.isStatics = false := fun cell q => by
  obtain ⟨c, k, h1, -, -, h4, -⟩ := E
  cases h1.symm.trans q
  exact h4
theorem own_Sta_keep {Z : State} {h h' : Heap} {C n d : String} {v : Value} {ws : List Addr} (F : Sta Z h C n d v) (K : Keep h h' ws) (q : ∀ x ∈ ws, ∀ cell : Cell, h[x]? = some cell → cell.vm.isStatics = false) : Sta Z h' C n d v := by
  obtain ⟨cf, i, k, f, st, cell, h1, h2, h3, h4, h5, h6, h7⟩ := F
  refine ⟨cf, i, k, f, st, cell, h1, h2, h3, h4, K.2.1 _ _ h5 (fun hm => ?_), h6, h7⟩
  rw [q _ hm _ h5] at h6
  cases h6
theorem own_grow (X : Stand p l e R s m args below meth c T locs cells slots) {C S : Nat} (hc : cells ≤ C) (hs : slots ≤ S) : Stand p l e R s m args below meth c T locs C S :=
  ⟨X.admits, X.cas, X.clock, X.frames, X.room, X.hears, X.method, X.code, X.here, X.tail, X.warmed, X.limits, X.bytes, X.same.mono hc hs⟩
end OwnRoad
def own_mix (x : Int64) : Int64 := x ^^^ ((x.toUInt64 >>> ((33 : Int32) &&& 0x3f).toInt64.toUInt64).toInt64)
def own_hash (a b : Int64) : Int64 := own_mix (own_mix (own_mix ((a * (-7046029254386353131 : Int64)) ^^^ b) * (-49064778989728563 : Int64)) * (-4265267296055464877 : Int64))
def own_st (c i : Int64) : Int64 := i * ((2 : Int64) - c * i)
def own_inv (c : Int64) : Int64 := own_st c (own_st c (own_st c (own_st c (own_st c c))))
theorem own_mix_bv (x : Int64) : (own_mix x).toBitVec = x.toBitVec ^^^ (x.toBitVec >>> 33) := by
  have e : ((33 : Int32) &&& 0x3f).toInt64.toUInt64 = 33 := by decide
  unfold own_mix
  rw [e]
  show x.toBitVec ^^^ (x.toUInt64 >>> 33).toBitVec = _
  congr 1
theorem own_mix_mix (x : Int64) : own_mix (own_mix x) = x := by
  apply Int64.toBitVec_inj.mp
  rw [own_mix_bv, own_mix_bv]
  generalize x.toBitVec = b
  apply BitVec.eq_of_getLsbD_eq
  intro i hi
  simp only [BitVec.getLsbD_xor, BitVec.getLsbD_ushiftRight]
  rw [BitVec.getLsbD_of_ge b (33 + (33 + i)) (by omega)]
  cases b.getLsbD i <;> cases b.getLsbD (33 + i) <;> rfl
theorem own_law (a b : Int64) : own_mix (own_mix (own_mix (own_hash a b) * own_inv (-4265267296055464877 : Int64)) * own_inv (-49064778989728563 : Int64)) = (a * (-7046029254386353131 : Int64)) ^^^ b := by
  have e1 : (-4265267296055464877 : Int64) * own_inv (-4265267296055464877 : Int64) = 1 := by decide +kernel
  have e2 : (-49064778989728563 : Int64) * own_inv (-49064778989728563 : Int64) = 1 := by decide +kernel
  unfold own_hash
  rw [own_mix_mix, Int64.mul_assoc, e1, Int64.mul_one, own_mix_mix, Int64.mul_assoc, e2, Int64.mul_one, own_mix_mix]
theorem d1_0 : decode prog_40_method_3_code 0 = .ok (.lload_n 0, 1) := by decide +kernel
theorem d1_1 : decode prog_40_method_3_code 1 = .ok (.ldc2_w 19, 3) := by decide +kernel
theorem d1_4 : decode prog_40_method_3_code 4 = .ok (.lmul, 1) := by decide +kernel
theorem d1_5 : decode prog_40_method_3_code 5 = .ok (.lload_n 2, 1) := by decide +kernel
theorem d1_6 : decode prog_40_method_3_code 6 = .ok (.lxor, 1) := by decide +kernel
theorem d1_7 : decode prog_40_method_3_code 7 = .ok (.lstore 4, 2) := by decide +kernel
theorem d1_9 : decode prog_40_method_3_code 9 = .ok (.lload 4, 2) := by decide +kernel
theorem d1_11 : decode prog_40_method_3_code 11 = .ok (.lload 4, 2) := by decide +kernel
theorem d1_13 : decode prog_40_method_3_code 13 = .ok (.bipush 33, 2) := by decide +kernel
theorem d1_15 : decode prog_40_method_3_code 15 = .ok (.lushr, 1) := by decide +kernel
theorem d1_16 : decode prog_40_method_3_code 16 = .ok (.lxor, 1) := by decide +kernel
theorem d1_17 : decode prog_40_method_3_code 17 = .ok (.ldc2_w 21, 3) := by decide +kernel
theorem d1_20 : decode prog_40_method_3_code 20 = .ok (.lmul, 1) := by decide +kernel
theorem d1_21 : decode prog_40_method_3_code 21 = .ok (.lstore 4, 2) := by decide +kernel
theorem d1_23 : decode prog_40_method_3_code 23 = .ok (.lload 4, 2) := by decide +kernel
theorem d1_25 : decode prog_40_method_3_code 25 = .ok (.lload 4, 2) := by decide +kernel
theorem d1_27 : decode prog_40_method_3_code 27 = .ok (.bipush 33, 2) := by decide +kernel
theorem d1_29 : decode prog_40_method_3_code 29 = .ok (.lushr, 1) := by decide +kernel
theorem d1_30 : decode prog_40_method_3_code 30 = .ok (.lxor, 1) := by decide +kernel
theorem d1_31 : decode prog_40_method_3_code 31 = .ok (.ldc2_w 23, 3) := by decide +kernel
theorem d1_34 : decode prog_40_method_3_code 34 = .ok (.lmul, 1) := by decide +kernel
theorem d1_35 : decode prog_40_method_3_code 35 = .ok (.lstore 4, 2) := by decide +kernel
theorem d1_37 : decode prog_40_method_3_code 37 = .ok (.lload 4, 2) := by decide +kernel
theorem d1_39 : decode prog_40_method_3_code 39 = .ok (.lload 4, 2) := by decide +kernel
theorem d1_41 : decode prog_40_method_3_code 41 = .ok (.bipush 33, 2) := by decide +kernel
theorem d1_43 : decode prog_40_method_3_code 43 = .ok (.lushr, 1) := by decide +kernel
theorem d1_44 : decode prog_40_method_3_code 44 = .ok (.lxor, 1) := by decide +kernel
theorem d1_45 : decode prog_40_method_3_code 45 = .ok (.lreturn, 1) := by decide +kernel
theorem pn_0 : plainName "com/example/clearingd/clearingd/store/Entries" = true := by first | (simp [plainName, overriddenIn]; done) | decide +kernel
theorem ef_1 (m : MethodId) (q1 : Int64) (q2 : Int64) : entryFrame m #[(.long q1), (.long q2)] 6 = mkF m 0 #[.val (.long q1), .second, .val (.long q2), .second, .unset, .unset] [] := by first | (simp [entryFrame, mkF, argsToLocals, Value.category]; done) | rfl
def Q1 (Z : State) (q1 : Int64) (q2 : Int64) (h0 : Heap) (n0 : Nat) (v : Option Value) (h : Heap) (L : List Loc) : Prop := v = some (.long (own_hash q1 q2)) ∧ Fr n0 L ∧ h = h0
set_option maxRecDepth 65536 in
set_option maxHeartbeats 40000000 in
theorem rm1 (l : Launch) (Z : State) (a0 : Array Value) (hw : ∀ d ∈ tables_1, d.before a0 Z = true) (ws : List Jvm.Cond) (q1 : Int64) (q2 : Int64) (h0 : Heap) (n0 : Nat) (Z0 : n0 ≤ h0.size) :
    MetFree l (⟨"com/example/clearingd/clearingd/store/Entries", "hash", "(JJ)J"⟩ : MethodName) (head1 (Jvm.Cond.code (⟨"com/example/clearingd/clearingd/store/Entries", "hash", "(JJ)J"⟩ : MethodName) prog_40_method_3_code 6 (some .long) :: ws) ({ frames := 0, cells := 0, slots := 0, locals := 0 } : Room)) (fun a U => a = #[(.long q1), (.long q2)] ∧ Z.Warmed39 U.vm ∧ U.heap = h0) (fun _ _ _ _ _ => True) (fun _ U o U' => ∃ v L, o = .returned v ∧ Q1 Z q1 q2 h0 n0 v U'.heap L ∧ FrameEnd U o U' L ({ frames := 0, cells := 0, slots := 0, locals := 0 } : Room).cells ({ frames := 0, cells := 0, slots := 0, locals := 0 } : Room).slots) := by
  refine MetFree.of_bodySF (plainFor_of_name pn_0) hisR ?_
  intro p e s m args below meth c s₁ Bd hml0 hP hK
  obtain ⟨rfl, hZ, hh⟩ := hP
  have hx := Bd.exec
  have hby := Bd.bytes
  have hml : c.maxLocals = 6 := hml0
  have hown : s.vm.findClass "com/example/clearingd/clearingd/store/Entries" = some m.cls := findClass_of_methodNamed Bd.named
  have hnm := (name_of_methodNamed Bd.named Bd.method).1
  have hlk : meth.locks = false := BodyLoose.notSynchronized Bd
  have X0 : Stand p l e ({ frames := 0, cells := 0, slots := 0, locals := 0 } : Room) s m #[(.long q1), (.long q2)] below meth c s₁ [] 0 0 := Stand.of_body Bd
  have e0 : s₁.heap = h0 := by rw [← hh, Bd.state]; rfl
  have N0 := Fr.nil n0
  show OEnds p.tables e below (OGoal (Q1 Z q1 q2 h0 n0) s 0 0) (s₁.setTop (entryFrame m #[(.long q1), (.long q2)] 6))
  refine OEnds.st (fun t k => castTop (ef_1 m q1 q2) k) ?_
  generalize hG : OGoal (Q1 Z q1 q2 h0 n0) s 0 0 = G
  have KK0 : Keep h0 h0 [] := Keep.refl h0 []
  show OEnds p.tables e below G (s₁.setTop (mkF m 0 #[.val (.long q1), .second, .val (.long q2), .second, .unset, .unset] []))
  refine OEnds.st (fun _ k => XS.lloadN X0.here hx rfl (hb hby d1_0) rfl k) ?_
  show OEnds p.tables e below G (s₁.setTop (mkF m 1 #[.val (.long q1), .second, .val (.long q2), .second, .unset, .unset] [(.long q1)]))
  refine OEnds.st (X0.ldc2Long hx hown (mvT hZ (hw _ (List.mem_of_getElem? (i := 4) rfl))) (g := (mkF m 1 #[.val (.long q1), .second, .val (.long q2), .second, .unset, .unset] [(.long q1)])) rfl (hb hby d1_1)) ?_
  show OEnds p.tables e below G (s₁.setTop (mkF m 4 #[.val (.long q1), .second, .val (.long q2), .second, .unset, .unset] [(.long (-7046029254386353131 : Int64)), (.long q1)]))
  refine OEnds.st (fun _ k => XS.lmul X0.here hx rfl (hb hby d1_4) rfl k) ?_
  show OEnds p.tables e below G (s₁.setTop (mkF m 5 #[.val (.long q1), .second, .val (.long q2), .second, .unset, .unset] [(.long (q1 * (-7046029254386353131 : Int64)))]))
  refine OEnds.st (fun _ k => XS.lloadN X0.here hx rfl (hb hby d1_5) rfl k) ?_
  show OEnds p.tables e below G (s₁.setTop (mkF m 6 #[.val (.long q1), .second, .val (.long q2), .second, .unset, .unset] [(.long q2), (.long (q1 * (-7046029254386353131 : Int64)))]))
  refine OEnds.st (fun _ k => XS.lxor X0.here hx rfl (hb hby d1_6) rfl k) ?_
  show OEnds p.tables e below G (s₁.setTop (mkF m 7 #[.val (.long q1), .second, .val (.long q2), .second, .unset, .unset] [(.long ((q1 * (-7046029254386353131 : Int64)) ^^^ q2))]))
  refine OEnds.st (fun _ k => XS.lstore X0.here hx rfl (hb hby d1_7) rfl (l' := #[.val (.long q1), .second, .val (.long q2), .second, .val (.long ((q1 * (-7046029254386353131 : Int64)) ^^^ q2)), .second]) rfl k) ?_
  show OEnds p.tables e below G (s₁.setTop (mkF m 9 #[.val (.long q1), .second, .val (.long q2), .second, .val (.long ((q1 * (-7046029254386353131 : Int64)) ^^^ q2)), .second] []))
  generalize hv_v1 : ((q1 * (-7046029254386353131 : Int64)) ^^^ q2) = v1
  show OEnds p.tables e below G (s₁.setTop (mkF m 9 #[.val (.long q1), .second, .val (.long q2), .second, .val (.long v1), .second] []))
  refine OEnds.st (fun _ k => XS.lload X0.here hx rfl (hb hby d1_9) rfl k) ?_
  show OEnds p.tables e below G (s₁.setTop (mkF m 11 #[.val (.long q1), .second, .val (.long q2), .second, .val (.long v1), .second] [(.long v1)]))
  refine OEnds.st (fun _ k => XS.lload X0.here hx rfl (hb hby d1_11) rfl k) ?_
  show OEnds p.tables e below G (s₁.setTop (mkF m 13 #[.val (.long q1), .second, .val (.long q2), .second, .val (.long v1), .second] [(.long v1), (.long v1)]))
  refine OEnds.st (fun _ k => XS.bipush X0.here hx rfl (hb hby d1_13) k) ?_
  show OEnds p.tables e below G (s₁.setTop (mkF m 15 #[.val (.long q1), .second, .val (.long q2), .second, .val (.long v1), .second] [(.int (33 : Int32)), (.long v1), (.long v1)]))
  refine OEnds.st (fun _ k => XS.lushr X0.here hx rfl (hb hby d1_15) rfl k) ?_
  show OEnds p.tables e below G (s₁.setTop (mkF m 16 #[.val (.long q1), .second, .val (.long q2), .second, .val (.long v1), .second] [(.long ((v1.toUInt64 >>> ((33 : Int32) &&& 0x3f).toInt64.toUInt64).toInt64)), (.long v1)]))
  refine OEnds.st (fun _ k => XS.lxor X0.here hx rfl (hb hby d1_16) rfl k) ?_
  show OEnds p.tables e below G (s₁.setTop (mkF m 17 #[.val (.long q1), .second, .val (.long q2), .second, .val (.long v1), .second] [(.long (v1 ^^^ ((v1.toUInt64 >>> ((33 : Int32) &&& 0x3f).toInt64.toUInt64).toInt64)))]))
  refine OEnds.st (X0.ldc2Long hx hown (mvT hZ (hw _ (List.mem_of_getElem? (i := 5) rfl))) (g := (mkF m 17 #[.val (.long q1), .second, .val (.long q2), .second, .val (.long v1), .second] [(.long (v1 ^^^ ((v1.toUInt64 >>> ((33 : Int32) &&& 0x3f).toInt64.toUInt64).toInt64)))])) rfl (hb hby d1_17)) ?_
  show OEnds p.tables e below G (s₁.setTop (mkF m 20 #[.val (.long q1), .second, .val (.long q2), .second, .val (.long v1), .second] [(.long (-49064778989728563 : Int64)), (.long (v1 ^^^ ((v1.toUInt64 >>> ((33 : Int32) &&& 0x3f).toInt64.toUInt64).toInt64)))]))
  refine OEnds.st (fun _ k => XS.lmul X0.here hx rfl (hb hby d1_20) rfl k) ?_
  show OEnds p.tables e below G (s₁.setTop (mkF m 21 #[.val (.long q1), .second, .val (.long q2), .second, .val (.long v1), .second] [(.long ((v1 ^^^ ((v1.toUInt64 >>> ((33 : Int32) &&& 0x3f).toInt64.toUInt64).toInt64)) * (-49064778989728563 : Int64)))]))
  refine OEnds.st (fun _ k => XS.lstore X0.here hx rfl (hb hby d1_21) rfl (l' := #[.val (.long q1), .second, .val (.long q2), .second, .val (.long ((v1 ^^^ ((v1.toUInt64 >>> ((33 : Int32) &&& 0x3f).toInt64.toUInt64).toInt64)) * (-49064778989728563 : Int64))), .second]) rfl k) ?_
  show OEnds p.tables e below G (s₁.setTop (mkF m 23 #[.val (.long q1), .second, .val (.long q2), .second, .val (.long ((v1 ^^^ ((v1.toUInt64 >>> ((33 : Int32) &&& 0x3f).toInt64.toUInt64).toInt64)) * (-49064778989728563 : Int64))), .second] []))
  generalize hv_v2 : ((v1 ^^^ ((v1.toUInt64 >>> ((33 : Int32) &&& 0x3f).toInt64.toUInt64).toInt64)) * (-49064778989728563 : Int64)) = v2
  show OEnds p.tables e below G (s₁.setTop (mkF m 23 #[.val (.long q1), .second, .val (.long q2), .second, .val (.long v2), .second] []))
  refine OEnds.st (fun _ k => XS.lload X0.here hx rfl (hb hby d1_23) rfl k) ?_
  show OEnds p.tables e below G (s₁.setTop (mkF m 25 #[.val (.long q1), .second, .val (.long q2), .second, .val (.long v2), .second] [(.long v2)]))
  refine OEnds.st (fun _ k => XS.lload X0.here hx rfl (hb hby d1_25) rfl k) ?_
  show OEnds p.tables e below G (s₁.setTop (mkF m 27 #[.val (.long q1), .second, .val (.long q2), .second, .val (.long v2), .second] [(.long v2), (.long v2)]))
  refine OEnds.st (fun _ k => XS.bipush X0.here hx rfl (hb hby d1_27) k) ?_
  show OEnds p.tables e below G (s₁.setTop (mkF m 29 #[.val (.long q1), .second, .val (.long q2), .second, .val (.long v2), .second] [(.int (33 : Int32)), (.long v2), (.long v2)]))
  refine OEnds.st (fun _ k => XS.lushr X0.here hx rfl (hb hby d1_29) rfl k) ?_
  show OEnds p.tables e below G (s₁.setTop (mkF m 30 #[.val (.long q1), .second, .val (.long q2), .second, .val (.long v2), .second] [(.long ((v2.toUInt64 >>> ((33 : Int32) &&& 0x3f).toInt64.toUInt64).toInt64)), (.long v2)]))
  refine OEnds.st (fun _ k => XS.lxor X0.here hx rfl (hb hby d1_30) rfl k) ?_
  show OEnds p.tables e below G (s₁.setTop (mkF m 31 #[.val (.long q1), .second, .val (.long q2), .second, .val (.long v2), .second] [(.long (v2 ^^^ ((v2.toUInt64 >>> ((33 : Int32) &&& 0x3f).toInt64.toUInt64).toInt64)))]))
  refine OEnds.st (X0.ldc2Long hx hown (mvT hZ (hw _ (List.mem_of_getElem? (i := 6) rfl))) (g := (mkF m 31 #[.val (.long q1), .second, .val (.long q2), .second, .val (.long v2), .second] [(.long (v2 ^^^ ((v2.toUInt64 >>> ((33 : Int32) &&& 0x3f).toInt64.toUInt64).toInt64)))])) rfl (hb hby d1_31)) ?_
  show OEnds p.tables e below G (s₁.setTop (mkF m 34 #[.val (.long q1), .second, .val (.long q2), .second, .val (.long v2), .second] [(.long (-4265267296055464877 : Int64)), (.long (v2 ^^^ ((v2.toUInt64 >>> ((33 : Int32) &&& 0x3f).toInt64.toUInt64).toInt64)))]))
  refine OEnds.st (fun _ k => XS.lmul X0.here hx rfl (hb hby d1_34) rfl k) ?_
  show OEnds p.tables e below G (s₁.setTop (mkF m 35 #[.val (.long q1), .second, .val (.long q2), .second, .val (.long v2), .second] [(.long ((v2 ^^^ ((v2.toUInt64 >>> ((33 : Int32) &&& 0x3f).toInt64.toUInt64).toInt64)) * (-4265267296055464877 : Int64)))]))
  refine OEnds.st (fun _ k => XS.lstore X0.here hx rfl (hb hby d1_35) rfl (l' := #[.val (.long q1), .second, .val (.long q2), .second, .val (.long ((v2 ^^^ ((v2.toUInt64 >>> ((33 : Int32) &&& 0x3f).toInt64.toUInt64).toInt64)) * (-4265267296055464877 : Int64))), .second]) rfl k) ?_
  show OEnds p.tables e below G (s₁.setTop (mkF m 37 #[.val (.long q1), .second, .val (.long q2), .second, .val (.long ((v2 ^^^ ((v2.toUInt64 >>> ((33 : Int32) &&& 0x3f).toInt64.toUInt64).toInt64)) * (-4265267296055464877 : Int64))), .second] []))
  generalize hv_v3 : ((v2 ^^^ ((v2.toUInt64 >>> ((33 : Int32) &&& 0x3f).toInt64.toUInt64).toInt64)) * (-4265267296055464877 : Int64)) = v3
  show OEnds p.tables e below G (s₁.setTop (mkF m 37 #[.val (.long q1), .second, .val (.long q2), .second, .val (.long v3), .second] []))
  refine OEnds.st (fun _ k => XS.lload X0.here hx rfl (hb hby d1_37) rfl k) ?_
  show OEnds p.tables e below G (s₁.setTop (mkF m 39 #[.val (.long q1), .second, .val (.long q2), .second, .val (.long v3), .second] [(.long v3)]))
  refine OEnds.st (fun _ k => XS.lload X0.here hx rfl (hb hby d1_39) rfl k) ?_
  show OEnds p.tables e below G (s₁.setTop (mkF m 41 #[.val (.long q1), .second, .val (.long q2), .second, .val (.long v3), .second] [(.long v3), (.long v3)]))
  refine OEnds.st (fun _ k => XS.bipush X0.here hx rfl (hb hby d1_41) k) ?_
  show OEnds p.tables e below G (s₁.setTop (mkF m 43 #[.val (.long q1), .second, .val (.long q2), .second, .val (.long v3), .second] [(.int (33 : Int32)), (.long v3), (.long v3)]))
  refine OEnds.st (fun _ k => XS.lushr X0.here hx rfl (hb hby d1_43) rfl k) ?_
  show OEnds p.tables e below G (s₁.setTop (mkF m 44 #[.val (.long q1), .second, .val (.long q2), .second, .val (.long v3), .second] [(.long ((v3.toUInt64 >>> ((33 : Int32) &&& 0x3f).toInt64.toUInt64).toInt64)), (.long v3)]))
  refine OEnds.st (fun _ k => XS.lxor X0.here hx rfl (hb hby d1_44) rfl k) ?_
  show OEnds p.tables e below G (s₁.setTop (mkF m 45 #[.val (.long q1), .second, .val (.long q2), .second, .val (.long v3), .second] [(.long (v3 ^^^ ((v3.toUInt64 >>> ((33 : Int32) &&& 0x3f).toInt64.toUInt64).toInt64)))]))
  rw [← hG]
  refine OEnds.retJ X0 hx hlk Bd.returns (hb hby d1_45) (by decide) (by decide) ?_
  rw [e0]
  subst hv_v1 hv_v2 hv_v3
  exact ⟨rfl, N0, rfl⟩
theorem d2_0 : decode method_3_code 0 = .ok (.lload_n 0, 1) := by decide +kernel
theorem d2_1 : decode method_3_code 1 = .ok (.lload_n 0, 1) := by decide +kernel
theorem d2_2 : decode method_3_code 2 = .ok (.bipush 33, 2) := by decide +kernel
theorem d2_4 : decode method_3_code 4 = .ok (.lushr, 1) := by decide +kernel
theorem d2_5 : decode method_3_code 5 = .ok (.lxor, 1) := by decide +kernel
theorem d2_6 : decode method_3_code 6 = .ok (.lreturn, 1) := by decide +kernel
theorem pn_1 : plainName "com/example/clearingd/clearingd/store/EntriesHashPinLaw" = true := by first | (simp [plainName, overriddenIn]; done) | decide +kernel
theorem ef_2 (m : MethodId) (q1 : Int64) : entryFrame m #[(.long q1)] 2 = mkF m 0 #[.val (.long q1), .second] [] := by first | (simp [entryFrame, mkF, argsToLocals, Value.category]; done) | rfl
def Q2 (Z : State) (q1 : Int64) (h0 : Heap) (n0 : Nat) (v : Option Value) (h : Heap) (L : List Loc) : Prop := v = some (.long (own_mix q1)) ∧ Fr n0 L ∧ h = h0
set_option maxRecDepth 65536 in
set_option maxHeartbeats 40000000 in
theorem rm2 (l : Launch) (Z : State) (a0 : Array Value) (hw : ∀ d ∈ tables_1, d.before a0 Z = true) (ws : List Jvm.Cond) (q1 : Int64) (h0 : Heap) (n0 : Nat) (Z0 : n0 ≤ h0.size) :
    MetFree l (⟨"com/example/clearingd/clearingd/store/EntriesHashPinLaw", "unshift", "(J)J"⟩ : MethodName) (head1 (Jvm.Cond.code (⟨"com/example/clearingd/clearingd/store/EntriesHashPinLaw", "unshift", "(J)J"⟩ : MethodName) method_3_code 2 (some .long) :: ws) ({ frames := 0, cells := 0, slots := 0, locals := 0 } : Room)) (fun a U => a = #[(.long q1)] ∧ Z.Warmed39 U.vm ∧ U.heap = h0) (fun _ _ _ _ _ => True) (fun _ U o U' => ∃ v L, o = .returned v ∧ Q2 Z q1 h0 n0 v U'.heap L ∧ FrameEnd U o U' L ({ frames := 0, cells := 0, slots := 0, locals := 0 } : Room).cells ({ frames := 0, cells := 0, slots := 0, locals := 0 } : Room).slots) := by
  refine MetFree.of_bodySF (plainFor_of_name pn_1) hisR ?_
  intro p e s m args below meth c s₁ Bd hml0 hP hK
  obtain ⟨rfl, hZ, hh⟩ := hP
  have hx := Bd.exec
  have hby := Bd.bytes
  have hml : c.maxLocals = 2 := hml0
  have hown : s.vm.findClass "com/example/clearingd/clearingd/store/EntriesHashPinLaw" = some m.cls := findClass_of_methodNamed Bd.named
  have hnm := (name_of_methodNamed Bd.named Bd.method).1
  have hlk : meth.locks = false := BodyLoose.notSynchronized Bd
  have X0 : Stand p l e ({ frames := 0, cells := 0, slots := 0, locals := 0 } : Room) s m #[(.long q1)] below meth c s₁ [] 0 0 := Stand.of_body Bd
  have e0 : s₁.heap = h0 := by rw [← hh, Bd.state]; rfl
  have N0 := Fr.nil n0
  show OEnds p.tables e below (OGoal (Q2 Z q1 h0 n0) s 0 0) (s₁.setTop (entryFrame m #[(.long q1)] 2))
  refine OEnds.st (fun t k => castTop (ef_2 m q1) k) ?_
  generalize hG : OGoal (Q2 Z q1 h0 n0) s 0 0 = G
  have KK0 : Keep h0 h0 [] := Keep.refl h0 []
  show OEnds p.tables e below G (s₁.setTop (mkF m 0 #[.val (.long q1), .second] []))
  refine OEnds.st (fun _ k => XS.lloadN X0.here hx rfl (hb hby d2_0) rfl k) ?_
  show OEnds p.tables e below G (s₁.setTop (mkF m 1 #[.val (.long q1), .second] [(.long q1)]))
  refine OEnds.st (fun _ k => XS.lloadN X0.here hx rfl (hb hby d2_1) rfl k) ?_
  show OEnds p.tables e below G (s₁.setTop (mkF m 2 #[.val (.long q1), .second] [(.long q1), (.long q1)]))
  refine OEnds.st (fun _ k => XS.bipush X0.here hx rfl (hb hby d2_2) k) ?_
  show OEnds p.tables e below G (s₁.setTop (mkF m 4 #[.val (.long q1), .second] [(.int (33 : Int32)), (.long q1), (.long q1)]))
  refine OEnds.st (fun _ k => XS.lushr X0.here hx rfl (hb hby d2_4) rfl k) ?_
  show OEnds p.tables e below G (s₁.setTop (mkF m 5 #[.val (.long q1), .second] [(.long ((q1.toUInt64 >>> ((33 : Int32) &&& 0x3f).toInt64.toUInt64).toInt64)), (.long q1)]))
  refine OEnds.st (fun _ k => XS.lxor X0.here hx rfl (hb hby d2_5) rfl k) ?_
  show OEnds p.tables e below G (s₁.setTop (mkF m 6 #[.val (.long q1), .second] [(.long (q1 ^^^ ((q1.toUInt64 >>> ((33 : Int32) &&& 0x3f).toInt64.toUInt64).toInt64)))]))
  rw [← hG]
  refine OEnds.retJ X0 hx hlk Bd.returns (hb hby d2_6) (by decide) (by decide) ?_
  rw [e0]
  exact ⟨rfl, N0, rfl⟩
theorem d3_0 : decode method_2_code 0 = .ok (.lload_n 0, 1) := by decide +kernel
theorem d3_1 : decode method_2_code 1 = .ok (.lstore_n 2, 1) := by decide +kernel
theorem d3_2 : decode method_2_code 2 = .ok (.lload_n 2, 1) := by decide +kernel
theorem d3_3 : decode method_2_code 3 = .ok (.ldc2_w 7, 3) := by decide +kernel
theorem d3_6 : decode method_2_code 6 = .ok (.lload_n 0, 1) := by decide +kernel
theorem d3_7 : decode method_2_code 7 = .ok (.lload_n 2, 1) := by decide +kernel
theorem d3_8 : decode method_2_code 8 = .ok (.lmul, 1) := by decide +kernel
theorem d3_9 : decode method_2_code 9 = .ok (.lsub, 1) := by decide +kernel
theorem d3_10 : decode method_2_code 10 = .ok (.lmul, 1) := by decide +kernel
theorem d3_11 : decode method_2_code 11 = .ok (.lstore_n 2, 1) := by decide +kernel
theorem d3_12 : decode method_2_code 12 = .ok (.lload_n 2, 1) := by decide +kernel
theorem d3_13 : decode method_2_code 13 = .ok (.ldc2_w 7, 3) := by decide +kernel
theorem d3_16 : decode method_2_code 16 = .ok (.lload_n 0, 1) := by decide +kernel
theorem d3_17 : decode method_2_code 17 = .ok (.lload_n 2, 1) := by decide +kernel
theorem d3_18 : decode method_2_code 18 = .ok (.lmul, 1) := by decide +kernel
theorem d3_19 : decode method_2_code 19 = .ok (.lsub, 1) := by decide +kernel
theorem d3_20 : decode method_2_code 20 = .ok (.lmul, 1) := by decide +kernel
theorem d3_21 : decode method_2_code 21 = .ok (.lstore_n 2, 1) := by decide +kernel
theorem d3_22 : decode method_2_code 22 = .ok (.lload_n 2, 1) := by decide +kernel
theorem d3_23 : decode method_2_code 23 = .ok (.ldc2_w 7, 3) := by decide +kernel
theorem d3_26 : decode method_2_code 26 = .ok (.lload_n 0, 1) := by decide +kernel
theorem d3_27 : decode method_2_code 27 = .ok (.lload_n 2, 1) := by decide +kernel
theorem d3_28 : decode method_2_code 28 = .ok (.lmul, 1) := by decide +kernel
theorem d3_29 : decode method_2_code 29 = .ok (.lsub, 1) := by decide +kernel
theorem d3_30 : decode method_2_code 30 = .ok (.lmul, 1) := by decide +kernel
theorem d3_31 : decode method_2_code 31 = .ok (.lstore_n 2, 1) := by decide +kernel
theorem d3_32 : decode method_2_code 32 = .ok (.lload_n 2, 1) := by decide +kernel
theorem d3_33 : decode method_2_code 33 = .ok (.ldc2_w 7, 3) := by decide +kernel
theorem d3_36 : decode method_2_code 36 = .ok (.lload_n 0, 1) := by decide +kernel
theorem d3_37 : decode method_2_code 37 = .ok (.lload_n 2, 1) := by decide +kernel
theorem d3_38 : decode method_2_code 38 = .ok (.lmul, 1) := by decide +kernel
theorem d3_39 : decode method_2_code 39 = .ok (.lsub, 1) := by decide +kernel
theorem d3_40 : decode method_2_code 40 = .ok (.lmul, 1) := by decide +kernel
theorem d3_41 : decode method_2_code 41 = .ok (.lstore_n 2, 1) := by decide +kernel
theorem d3_42 : decode method_2_code 42 = .ok (.lload_n 2, 1) := by decide +kernel
theorem d3_43 : decode method_2_code 43 = .ok (.ldc2_w 7, 3) := by decide +kernel
theorem d3_46 : decode method_2_code 46 = .ok (.lload_n 0, 1) := by decide +kernel
theorem d3_47 : decode method_2_code 47 = .ok (.lload_n 2, 1) := by decide +kernel
theorem d3_48 : decode method_2_code 48 = .ok (.lmul, 1) := by decide +kernel
theorem d3_49 : decode method_2_code 49 = .ok (.lsub, 1) := by decide +kernel
theorem d3_50 : decode method_2_code 50 = .ok (.lmul, 1) := by decide +kernel
theorem d3_51 : decode method_2_code 51 = .ok (.lstore_n 2, 1) := by decide +kernel
theorem d3_52 : decode method_2_code 52 = .ok (.lload_n 2, 1) := by decide +kernel
theorem d3_53 : decode method_2_code 53 = .ok (.lreturn, 1) := by decide +kernel
theorem ef_3 (m : MethodId) (q1 : Int64) : entryFrame m #[(.long q1)] 4 = mkF m 0 #[.val (.long q1), .second, .unset, .unset] [] := by first | (simp [entryFrame, mkF, argsToLocals, Value.category]; done) | rfl
def Q3 (Z : State) (q1 : Int64) (h0 : Heap) (n0 : Nat) (v : Option Value) (h : Heap) (L : List Loc) : Prop := v = some (.long (own_inv q1)) ∧ Fr n0 L ∧ h = h0
set_option maxRecDepth 65536 in
set_option maxHeartbeats 40000000 in
theorem rm3 (l : Launch) (Z : State) (a0 : Array Value) (hw : ∀ d ∈ tables_1, d.before a0 Z = true) (ws : List Jvm.Cond) (q1 : Int64) (h0 : Heap) (n0 : Nat) (Z0 : n0 ≤ h0.size) :
    MetFree l (⟨"com/example/clearingd/clearingd/store/EntriesHashPinLaw", "inverse", "(J)J"⟩ : MethodName) (head1 (Jvm.Cond.code (⟨"com/example/clearingd/clearingd/store/EntriesHashPinLaw", "inverse", "(J)J"⟩ : MethodName) method_2_code 4 (some .long) :: ws) ({ frames := 0, cells := 0, slots := 0, locals := 0 } : Room)) (fun a U => a = #[(.long q1)] ∧ Z.Warmed39 U.vm ∧ U.heap = h0) (fun _ _ _ _ _ => True) (fun _ U o U' => ∃ v L, o = .returned v ∧ Q3 Z q1 h0 n0 v U'.heap L ∧ FrameEnd U o U' L ({ frames := 0, cells := 0, slots := 0, locals := 0 } : Room).cells ({ frames := 0, cells := 0, slots := 0, locals := 0 } : Room).slots) := by
  refine MetFree.of_bodySF (plainFor_of_name pn_1) hisR ?_
  intro p e s m args below meth c s₁ Bd hml0 hP hK
  obtain ⟨rfl, hZ, hh⟩ := hP
  have hx := Bd.exec
  have hby := Bd.bytes
  have hml : c.maxLocals = 4 := hml0
  have hown : s.vm.findClass "com/example/clearingd/clearingd/store/EntriesHashPinLaw" = some m.cls := findClass_of_methodNamed Bd.named
  have hnm := (name_of_methodNamed Bd.named Bd.method).1
  have hlk : meth.locks = false := BodyLoose.notSynchronized Bd
  have X0 : Stand p l e ({ frames := 0, cells := 0, slots := 0, locals := 0 } : Room) s m #[(.long q1)] below meth c s₁ [] 0 0 := Stand.of_body Bd
  have e0 : s₁.heap = h0 := by rw [← hh, Bd.state]; rfl
  have N0 := Fr.nil n0
  show OEnds p.tables e below (OGoal (Q3 Z q1 h0 n0) s 0 0) (s₁.setTop (entryFrame m #[(.long q1)] 4))
  refine OEnds.st (fun t k => castTop (ef_3 m q1) k) ?_
  generalize hG : OGoal (Q3 Z q1 h0 n0) s 0 0 = G
  have KK0 : Keep h0 h0 [] := Keep.refl h0 []
  show OEnds p.tables e below G (s₁.setTop (mkF m 0 #[.val (.long q1), .second, .unset, .unset] []))
  refine OEnds.st (fun _ k => XS.lloadN X0.here hx rfl (hb hby d3_0) rfl k) ?_
  show OEnds p.tables e below G (s₁.setTop (mkF m 1 #[.val (.long q1), .second, .unset, .unset] [(.long q1)]))
  refine OEnds.st (fun _ k => XS.lstoreN X0.here hx rfl (hb hby d3_1) rfl (l' := #[.val (.long q1), .second, .val (.long q1), .second]) rfl k) ?_
  show OEnds p.tables e below G (s₁.setTop (mkF m 2 #[.val (.long q1), .second, .val (.long q1), .second] []))
  refine OEnds.st (fun _ k => XS.lloadN X0.here hx rfl (hb hby d3_2) rfl k) ?_
  show OEnds p.tables e below G (s₁.setTop (mkF m 3 #[.val (.long q1), .second, .val (.long q1), .second] [(.long q1)]))
  refine OEnds.st (X0.ldc2Long hx hown (mvT hZ (hw _ (List.mem_of_getElem? (i := 15) rfl))) (g := (mkF m 3 #[.val (.long q1), .second, .val (.long q1), .second] [(.long q1)])) rfl (hb hby d3_3)) ?_
  show OEnds p.tables e below G (s₁.setTop (mkF m 6 #[.val (.long q1), .second, .val (.long q1), .second] [(.long (2 : Int64)), (.long q1)]))
  refine OEnds.st (fun _ k => XS.lloadN X0.here hx rfl (hb hby d3_6) rfl k) ?_
  show OEnds p.tables e below G (s₁.setTop (mkF m 7 #[.val (.long q1), .second, .val (.long q1), .second] [(.long q1), (.long (2 : Int64)), (.long q1)]))
  refine OEnds.st (fun _ k => XS.lloadN X0.here hx rfl (hb hby d3_7) rfl k) ?_
  show OEnds p.tables e below G (s₁.setTop (mkF m 8 #[.val (.long q1), .second, .val (.long q1), .second] [(.long q1), (.long q1), (.long (2 : Int64)), (.long q1)]))
  refine OEnds.st (fun _ k => XS.lmul X0.here hx rfl (hb hby d3_8) rfl k) ?_
  show OEnds p.tables e below G (s₁.setTop (mkF m 9 #[.val (.long q1), .second, .val (.long q1), .second] [(.long (q1 * q1)), (.long (2 : Int64)), (.long q1)]))
  refine OEnds.st (fun _ k => XS.lsub X0.here hx rfl (hb hby d3_9) rfl k) ?_
  show OEnds p.tables e below G (s₁.setTop (mkF m 10 #[.val (.long q1), .second, .val (.long q1), .second] [(.long ((2 : Int64) - (q1 * q1))), (.long q1)]))
  refine OEnds.st (fun _ k => XS.lmul X0.here hx rfl (hb hby d3_10) rfl k) ?_
  show OEnds p.tables e below G (s₁.setTop (mkF m 11 #[.val (.long q1), .second, .val (.long q1), .second] [(.long (q1 * ((2 : Int64) - (q1 * q1))))]))
  refine OEnds.st (fun _ k => XS.lstoreN X0.here hx rfl (hb hby d3_11) rfl (l' := #[.val (.long q1), .second, .val (.long (q1 * ((2 : Int64) - (q1 * q1)))), .second]) rfl k) ?_
  show OEnds p.tables e below G (s₁.setTop (mkF m 12 #[.val (.long q1), .second, .val (.long (q1 * ((2 : Int64) - (q1 * q1)))), .second] []))
  generalize hv_v1 : (q1 * ((2 : Int64) - (q1 * q1))) = v1
  show OEnds p.tables e below G (s₁.setTop (mkF m 12 #[.val (.long q1), .second, .val (.long v1), .second] []))
  refine OEnds.st (fun _ k => XS.lloadN X0.here hx rfl (hb hby d3_12) rfl k) ?_
  show OEnds p.tables e below G (s₁.setTop (mkF m 13 #[.val (.long q1), .second, .val (.long v1), .second] [(.long v1)]))
  refine OEnds.st (X0.ldc2Long hx hown (mvT hZ (hw _ (List.mem_of_getElem? (i := 15) rfl))) (g := (mkF m 13 #[.val (.long q1), .second, .val (.long v1), .second] [(.long v1)])) rfl (hb hby d3_13)) ?_
  show OEnds p.tables e below G (s₁.setTop (mkF m 16 #[.val (.long q1), .second, .val (.long v1), .second] [(.long (2 : Int64)), (.long v1)]))
  refine OEnds.st (fun _ k => XS.lloadN X0.here hx rfl (hb hby d3_16) rfl k) ?_
  show OEnds p.tables e below G (s₁.setTop (mkF m 17 #[.val (.long q1), .second, .val (.long v1), .second] [(.long q1), (.long (2 : Int64)), (.long v1)]))
  refine OEnds.st (fun _ k => XS.lloadN X0.here hx rfl (hb hby d3_17) rfl k) ?_
  show OEnds p.tables e below G (s₁.setTop (mkF m 18 #[.val (.long q1), .second, .val (.long v1), .second] [(.long v1), (.long q1), (.long (2 : Int64)), (.long v1)]))
  refine OEnds.st (fun _ k => XS.lmul X0.here hx rfl (hb hby d3_18) rfl k) ?_
  show OEnds p.tables e below G (s₁.setTop (mkF m 19 #[.val (.long q1), .second, .val (.long v1), .second] [(.long (q1 * v1)), (.long (2 : Int64)), (.long v1)]))
  refine OEnds.st (fun _ k => XS.lsub X0.here hx rfl (hb hby d3_19) rfl k) ?_
  show OEnds p.tables e below G (s₁.setTop (mkF m 20 #[.val (.long q1), .second, .val (.long v1), .second] [(.long ((2 : Int64) - (q1 * v1))), (.long v1)]))
  refine OEnds.st (fun _ k => XS.lmul X0.here hx rfl (hb hby d3_20) rfl k) ?_
  show OEnds p.tables e below G (s₁.setTop (mkF m 21 #[.val (.long q1), .second, .val (.long v1), .second] [(.long (v1 * ((2 : Int64) - (q1 * v1))))]))
  refine OEnds.st (fun _ k => XS.lstoreN X0.here hx rfl (hb hby d3_21) rfl (l' := #[.val (.long q1), .second, .val (.long (v1 * ((2 : Int64) - (q1 * v1)))), .second]) rfl k) ?_
  show OEnds p.tables e below G (s₁.setTop (mkF m 22 #[.val (.long q1), .second, .val (.long (v1 * ((2 : Int64) - (q1 * v1)))), .second] []))
  generalize hv_v2 : (v1 * ((2 : Int64) - (q1 * v1))) = v2
  show OEnds p.tables e below G (s₁.setTop (mkF m 22 #[.val (.long q1), .second, .val (.long v2), .second] []))
  refine OEnds.st (fun _ k => XS.lloadN X0.here hx rfl (hb hby d3_22) rfl k) ?_
  show OEnds p.tables e below G (s₁.setTop (mkF m 23 #[.val (.long q1), .second, .val (.long v2), .second] [(.long v2)]))
  refine OEnds.st (X0.ldc2Long hx hown (mvT hZ (hw _ (List.mem_of_getElem? (i := 15) rfl))) (g := (mkF m 23 #[.val (.long q1), .second, .val (.long v2), .second] [(.long v2)])) rfl (hb hby d3_23)) ?_
  show OEnds p.tables e below G (s₁.setTop (mkF m 26 #[.val (.long q1), .second, .val (.long v2), .second] [(.long (2 : Int64)), (.long v2)]))
  refine OEnds.st (fun _ k => XS.lloadN X0.here hx rfl (hb hby d3_26) rfl k) ?_
  show OEnds p.tables e below G (s₁.setTop (mkF m 27 #[.val (.long q1), .second, .val (.long v2), .second] [(.long q1), (.long (2 : Int64)), (.long v2)]))
  refine OEnds.st (fun _ k => XS.lloadN X0.here hx rfl (hb hby d3_27) rfl k) ?_
  show OEnds p.tables e below G (s₁.setTop (mkF m 28 #[.val (.long q1), .second, .val (.long v2), .second] [(.long v2), (.long q1), (.long (2 : Int64)), (.long v2)]))
  refine OEnds.st (fun _ k => XS.lmul X0.here hx rfl (hb hby d3_28) rfl k) ?_
  show OEnds p.tables e below G (s₁.setTop (mkF m 29 #[.val (.long q1), .second, .val (.long v2), .second] [(.long (q1 * v2)), (.long (2 : Int64)), (.long v2)]))
  refine OEnds.st (fun _ k => XS.lsub X0.here hx rfl (hb hby d3_29) rfl k) ?_
  show OEnds p.tables e below G (s₁.setTop (mkF m 30 #[.val (.long q1), .second, .val (.long v2), .second] [(.long ((2 : Int64) - (q1 * v2))), (.long v2)]))
  refine OEnds.st (fun _ k => XS.lmul X0.here hx rfl (hb hby d3_30) rfl k) ?_
  show OEnds p.tables e below G (s₁.setTop (mkF m 31 #[.val (.long q1), .second, .val (.long v2), .second] [(.long (v2 * ((2 : Int64) - (q1 * v2))))]))
  refine OEnds.st (fun _ k => XS.lstoreN X0.here hx rfl (hb hby d3_31) rfl (l' := #[.val (.long q1), .second, .val (.long (v2 * ((2 : Int64) - (q1 * v2)))), .second]) rfl k) ?_
  show OEnds p.tables e below G (s₁.setTop (mkF m 32 #[.val (.long q1), .second, .val (.long (v2 * ((2 : Int64) - (q1 * v2)))), .second] []))
  generalize hv_v3 : (v2 * ((2 : Int64) - (q1 * v2))) = v3
  show OEnds p.tables e below G (s₁.setTop (mkF m 32 #[.val (.long q1), .second, .val (.long v3), .second] []))
  refine OEnds.st (fun _ k => XS.lloadN X0.here hx rfl (hb hby d3_32) rfl k) ?_
  show OEnds p.tables e below G (s₁.setTop (mkF m 33 #[.val (.long q1), .second, .val (.long v3), .second] [(.long v3)]))
  refine OEnds.st (X0.ldc2Long hx hown (mvT hZ (hw _ (List.mem_of_getElem? (i := 15) rfl))) (g := (mkF m 33 #[.val (.long q1), .second, .val (.long v3), .second] [(.long v3)])) rfl (hb hby d3_33)) ?_
  show OEnds p.tables e below G (s₁.setTop (mkF m 36 #[.val (.long q1), .second, .val (.long v3), .second] [(.long (2 : Int64)), (.long v3)]))
  refine OEnds.st (fun _ k => XS.lloadN X0.here hx rfl (hb hby d3_36) rfl k) ?_
  show OEnds p.tables e below G (s₁.setTop (mkF m 37 #[.val (.long q1), .second, .val (.long v3), .second] [(.long q1), (.long (2 : Int64)), (.long v3)]))
  refine OEnds.st (fun _ k => XS.lloadN X0.here hx rfl (hb hby d3_37) rfl k) ?_
  show OEnds p.tables e below G (s₁.setTop (mkF m 38 #[.val (.long q1), .second, .val (.long v3), .second] [(.long v3), (.long q1), (.long (2 : Int64)), (.long v3)]))
  refine OEnds.st (fun _ k => XS.lmul X0.here hx rfl (hb hby d3_38) rfl k) ?_
  show OEnds p.tables e below G (s₁.setTop (mkF m 39 #[.val (.long q1), .second, .val (.long v3), .second] [(.long (q1 * v3)), (.long (2 : Int64)), (.long v3)]))
  refine OEnds.st (fun _ k => XS.lsub X0.here hx rfl (hb hby d3_39) rfl k) ?_
  show OEnds p.tables e below G (s₁.setTop (mkF m 40 #[.val (.long q1), .second, .val (.long v3), .second] [(.long ((2 : Int64) - (q1 * v3))), (.long v3)]))
  refine OEnds.st (fun _ k => XS.lmul X0.here hx rfl (hb hby d3_40) rfl k) ?_
  show OEnds p.tables e below G (s₁.setTop (mkF m 41 #[.val (.long q1), .second, .val (.long v3), .second] [(.long (v3 * ((2 : Int64) - (q1 * v3))))]))
  refine OEnds.st (fun _ k => XS.lstoreN X0.here hx rfl (hb hby d3_41) rfl (l' := #[.val (.long q1), .second, .val (.long (v3 * ((2 : Int64) - (q1 * v3)))), .second]) rfl k) ?_
  show OEnds p.tables e below G (s₁.setTop (mkF m 42 #[.val (.long q1), .second, .val (.long (v3 * ((2 : Int64) - (q1 * v3)))), .second] []))
  generalize hv_v4 : (v3 * ((2 : Int64) - (q1 * v3))) = v4
  show OEnds p.tables e below G (s₁.setTop (mkF m 42 #[.val (.long q1), .second, .val (.long v4), .second] []))
  refine OEnds.st (fun _ k => XS.lloadN X0.here hx rfl (hb hby d3_42) rfl k) ?_
  show OEnds p.tables e below G (s₁.setTop (mkF m 43 #[.val (.long q1), .second, .val (.long v4), .second] [(.long v4)]))
  refine OEnds.st (X0.ldc2Long hx hown (mvT hZ (hw _ (List.mem_of_getElem? (i := 15) rfl))) (g := (mkF m 43 #[.val (.long q1), .second, .val (.long v4), .second] [(.long v4)])) rfl (hb hby d3_43)) ?_
  show OEnds p.tables e below G (s₁.setTop (mkF m 46 #[.val (.long q1), .second, .val (.long v4), .second] [(.long (2 : Int64)), (.long v4)]))
  refine OEnds.st (fun _ k => XS.lloadN X0.here hx rfl (hb hby d3_46) rfl k) ?_
  show OEnds p.tables e below G (s₁.setTop (mkF m 47 #[.val (.long q1), .second, .val (.long v4), .second] [(.long q1), (.long (2 : Int64)), (.long v4)]))
  refine OEnds.st (fun _ k => XS.lloadN X0.here hx rfl (hb hby d3_47) rfl k) ?_
  show OEnds p.tables e below G (s₁.setTop (mkF m 48 #[.val (.long q1), .second, .val (.long v4), .second] [(.long v4), (.long q1), (.long (2 : Int64)), (.long v4)]))
  refine OEnds.st (fun _ k => XS.lmul X0.here hx rfl (hb hby d3_48) rfl k) ?_
  show OEnds p.tables e below G (s₁.setTop (mkF m 49 #[.val (.long q1), .second, .val (.long v4), .second] [(.long (q1 * v4)), (.long (2 : Int64)), (.long v4)]))
  refine OEnds.st (fun _ k => XS.lsub X0.here hx rfl (hb hby d3_49) rfl k) ?_
  show OEnds p.tables e below G (s₁.setTop (mkF m 50 #[.val (.long q1), .second, .val (.long v4), .second] [(.long ((2 : Int64) - (q1 * v4))), (.long v4)]))
  refine OEnds.st (fun _ k => XS.lmul X0.here hx rfl (hb hby d3_50) rfl k) ?_
  show OEnds p.tables e below G (s₁.setTop (mkF m 51 #[.val (.long q1), .second, .val (.long v4), .second] [(.long (v4 * ((2 : Int64) - (q1 * v4))))]))
  refine OEnds.st (fun _ k => XS.lstoreN X0.here hx rfl (hb hby d3_51) rfl (l' := #[.val (.long q1), .second, .val (.long (v4 * ((2 : Int64) - (q1 * v4)))), .second]) rfl k) ?_
  show OEnds p.tables e below G (s₁.setTop (mkF m 52 #[.val (.long q1), .second, .val (.long (v4 * ((2 : Int64) - (q1 * v4)))), .second] []))
  generalize hv_v5 : (v4 * ((2 : Int64) - (q1 * v4))) = v5
  show OEnds p.tables e below G (s₁.setTop (mkF m 52 #[.val (.long q1), .second, .val (.long v5), .second] []))
  refine OEnds.st (fun _ k => XS.lloadN X0.here hx rfl (hb hby d3_52) rfl k) ?_
  show OEnds p.tables e below G (s₁.setTop (mkF m 53 #[.val (.long q1), .second, .val (.long v5), .second] [(.long v5)]))
  rw [← hG]
  refine OEnds.retJ X0 hx hlk Bd.returns (hb hby d3_53) (by decide) (by decide) ?_
  rw [e0]
  subst hv_v1 hv_v2 hv_v3 hv_v4 hv_v5
  exact ⟨rfl, N0, rfl⟩
theorem ef_0 (m : MethodId) (q1 : Int64) (q2 : Int64) : entryFrame m #[(.long q1), (.long q2)] maxLocals = mkF m 0 #[.val (.long q1), .second, .val (.long q2), .second, .unset, .unset, .unset, .unset, .unset, .unset, .unset, .unset, .unset, .unset] [] := by first | (simp [entryFrame, mkF, argsToLocals, Value.category, maxLocals]; done) | rfl
def Q0 (Z : State) (q1 q2 : Int64) (h0 : Heap) (n0 : Nat) (v : Option Value) (h : Heap) (L : List Loc) : Prop := v = some (.int (1 : Int32)) ∧ Fr n0 L
theorem pd_0 : parseMethodDescriptor "(JJ)J" = some ⟨[.long, .long], some .long⟩ := by decide +kernel
theorem pd_1 : parseMethodDescriptor "(J)J" = some ⟨[.long], some .long⟩ := by decide +kernel
set_option maxRecDepth 65536 in
set_option maxHeartbeats 40000000 in
theorem rm0 (l : Launch) (Z : State) (a0 : Array Value) (hw : ∀ d ∈ tables_1, d.before a0 Z = true) (ws : List Jvm.Cond) (q1 : Int64) (q2 : Int64) (h0 : Heap) (n0 : Nat) (Z0 : n0 ≤ h0.size) :
    MetFree l x (head1 (Jvm.Cond.code x code maxLocals ret :: ws) room_1) (fun a U => a = #[(.long q1), (.long q2)] ∧ Z.Warmed39 U.vm ∧ U.heap = h0) (fun _ _ _ _ _ => True) (fun _ U o U' => ∃ v L, o = .returned v ∧ Q0 Z q1 q2 h0 n0 v U'.heap L ∧ FrameEnd U o U' L room_1.cells room_1.slots) := by
  refine MetFree.of_bodySF (plainFor_of_name pn_1) hisR ?_
  intro p e s m args below meth c s₁ Bd hml0 hP hK
  obtain ⟨rfl, hZ, hh⟩ := hP
  have hx := Bd.exec
  have hby := Bd.bytes
  have hml : c.maxLocals = 14 := hml0
  have hown : s.vm.findClass "com/example/clearingd/clearingd/store/EntriesHashPinLaw" = some m.cls := findClass_of_methodNamed Bd.named
  have hnm := (name_of_methodNamed Bd.named Bd.method).1
  have hlk : meth.locks = false := BodyLoose.notSynchronized Bd
  have X0 : Stand p l e room_1 s m #[(.long q1), (.long q2)] below meth c s₁ [] 0 0 := Stand.of_body Bd
  have e0 : s₁.heap = h0 := by rw [← hh, Bd.state]; rfl
  have N0 := Fr.nil n0
  show OEnds p.tables e below (OGoal (Q0 Z q1 q2 h0 n0) s 0 0) (s₁.setTop (entryFrame m #[(.long q1), (.long q2)] maxLocals))
  refine OEnds.st (fun t k => castTop (ef_0 m q1 q2) k) ?_
  generalize hG : OGoal (Q0 Z q1 q2 h0 n0) s 0 0 = G
  have KK0 : Keep h0 h0 [] := Keep.refl h0 []
  show OEnds p.tables e below G (s₁.setTop (mkF m 0 #[.val (.long q1), .second, .val (.long q2), .second, .unset, .unset, .unset, .unset, .unset, .unset, .unset, .unset, .unset, .unset] []))
  refine OEnds.st (fun _ k => XS.lloadN X0.here hx rfl (hb hby at_0) rfl k) ?_
  show OEnds p.tables e below G (s₁.setTop (mkF m 1 #[.val (.long q1), .second, .val (.long q2), .second, .unset, .unset, .unset, .unset, .unset, .unset, .unset, .unset, .unset, .unset] [(.long q1)]))
  refine OEnds.st (fun _ k => XS.lloadN X0.here hx rfl (hb hby at_1) rfl k) ?_
  show OEnds p.tables e below G (s₁.setTop (mkF m 2 #[.val (.long q1), .second, .val (.long q2), .second, .unset, .unset, .unset, .unset, .unset, .unset, .unset, .unset, .unset, .unset] [(.long q2), (.long q1)]))
  obtain ⟨_, _, ⟨T1, L1, k1c, n1c⟩, -, X1, ⟨Lc1, hQ1, l1, y1, z1⟩, st1⟩ := Jvm.LawKit.callS X0 hx (y := (⟨"com/example/clearingd/clearingd/store/Entries", "hash", "(JJ)J"⟩ : MethodName)) hown (mvT hZ (hw _ (List.mem_of_getElem? (i := 0) rfl))) (mvT hZ (hw _ (List.mem_of_getElem? (i := 1) rfl))) (mvT hZ (hw _ (List.mem_of_getElem? (i := 2) rfl))) (mvT hZ (hw _ (List.mem_of_getElem? (i := 3) rfl))) (by decide) (backOf (W := 0) (rm1 l Z a0 hw [] q1 q2 h0 n0 Z0 ) hZ (hw _ (List.mem_of_getElem? (i := 3) rfl)) (hw _ (List.mem_of_getElem? (i := 2) rfl)) (by decide) (by decide)) (g := (mkF m 2 #[.val (.long q1), .second, .val (.long q2), .second, .unset, .unset, .unset, .unset, .unset, .unset, .unset, .unset, .unset, .unset] [(.long q2), (.long q1)])) rfl (by rw [hml]; rfl) (argsL := [(.long q1), (.long q2)]) (rest := []) (lenOf pd_0 rfl) rfl (by show 2 * 0 + _ ≤ _; exact Nat.le_of_eq rfl) (hb hby at_2) (fun _ _ => ⟨rfl, e0, (by decide : 0 + 0 ≤ _), (by decide : 0 + 0 ≤ _)⟩)
  dsimp only [Pt.U, Pt.locs, Pt.cells, Pt.slots] at X1 l1 y1 z1 st1 hQ1
  subst l1 y1 z1
  obtain ⟨rfl, N1q, e1⟩ := hQ1
  have N1 := Fr.app N0 N1q
  refine OEnds.st st1 ?_
  show OEnds p.tables e below G (T1.setTop (mkF m 5 #[.val (.long q1), .second, .val (.long q2), .second, .unset, .unset, .unset, .unset, .unset, .unset, .unset, .unset, .unset, .unset] [(.long (own_hash q1 q2))]))
  refine OEnds.st (fun _ k => XS.lstore X1.here hx rfl (hb hby at_5) rfl (l' := #[.val (.long q1), .second, .val (.long q2), .second, .val (.long (own_hash q1 q2)), .second, .unset, .unset, .unset, .unset, .unset, .unset, .unset, .unset]) rfl k) ?_
  show OEnds p.tables e below G (T1.setTop (mkF m 7 #[.val (.long q1), .second, .val (.long q2), .second, .val (.long (own_hash q1 q2)), .second, .unset, .unset, .unset, .unset, .unset, .unset, .unset, .unset] []))
  generalize hv_v2 : (own_hash q1 q2) = v2
  show OEnds p.tables e below G (T1.setTop (mkF m 7 #[.val (.long q1), .second, .val (.long q2), .second, .val (.long v2), .second, .unset, .unset, .unset, .unset, .unset, .unset, .unset, .unset] []))
  refine OEnds.st (fun _ k => XS.lload X1.here hx rfl (hb hby at_7) rfl k) ?_
  show OEnds p.tables e below G (T1.setTop (mkF m 9 #[.val (.long q1), .second, .val (.long q2), .second, .val (.long v2), .second, .unset, .unset, .unset, .unset, .unset, .unset, .unset, .unset] [(.long v2)]))
  obtain ⟨_, _, ⟨T3, L3, k3c, n3c⟩, -, X3, ⟨Lc3, hQ3, l3, y3, z3⟩, st3⟩ := Jvm.LawKit.callS X1 hx (y := (⟨"com/example/clearingd/clearingd/store/EntriesHashPinLaw", "unshift", "(J)J"⟩ : MethodName)) hown (mvT hZ (hw _ (List.mem_of_getElem? (i := 7) rfl))) (mvT hZ (hw _ (List.mem_of_getElem? (i := 8) rfl))) (mvT hZ (hw _ (List.mem_of_getElem? (i := 9) rfl))) (mvT hZ (hw _ (List.mem_of_getElem? (i := 10) rfl))) (by decide) (backOf (W := 0) (rm2 l Z a0 hw [] v2 h0 n0 Z0 ) hZ (hw _ (List.mem_of_getElem? (i := 10) rfl)) (hw _ (List.mem_of_getElem? (i := 9) rfl)) (by decide) (by decide)) (g := (mkF m 9 #[.val (.long q1), .second, .val (.long q2), .second, .val (.long v2), .second, .unset, .unset, .unset, .unset, .unset, .unset, .unset, .unset] [(.long v2)])) rfl (by rw [hml]; rfl) (argsL := [(.long v2)]) (rest := []) (lenOf pd_1 rfl) rfl (by show 2 * 0 + _ ≤ _; exact Nat.le_of_eq rfl) (hb hby at_9) (fun _ _ => ⟨rfl, e1, (by decide : 0 + 0 + 0 ≤ _), (by decide : 0 + 0 + 0 ≤ _)⟩)
  dsimp only [Pt.U, Pt.locs, Pt.cells, Pt.slots] at X3 l3 y3 z3 st3 hQ3
  subst l3 y3 z3
  obtain ⟨rfl, N3q, e3⟩ := hQ3
  have N3 := Fr.app N1 N3q
  refine OEnds.st st3 ?_
  show OEnds p.tables e below G (T3.setTop (mkF m 12 #[.val (.long q1), .second, .val (.long q2), .second, .val (.long v2), .second, .unset, .unset, .unset, .unset, .unset, .unset, .unset, .unset] [(.long (own_mix v2))]))
  refine OEnds.st (fun _ k => XS.lstore X3.here hx rfl (hb hby at_12) rfl (l' := #[.val (.long q1), .second, .val (.long q2), .second, .val (.long v2), .second, .val (.long (own_mix v2)), .second, .unset, .unset, .unset, .unset, .unset, .unset]) rfl k) ?_
  show OEnds p.tables e below G (T3.setTop (mkF m 14 #[.val (.long q1), .second, .val (.long q2), .second, .val (.long v2), .second, .val (.long (own_mix v2)), .second, .unset, .unset, .unset, .unset, .unset, .unset] []))
  generalize hv_v4 : (own_mix v2) = v4
  show OEnds p.tables e below G (T3.setTop (mkF m 14 #[.val (.long q1), .second, .val (.long q2), .second, .val (.long v2), .second, .val (.long v4), .second, .unset, .unset, .unset, .unset, .unset, .unset] []))
  refine OEnds.st (fun _ k => XS.lload X3.here hx rfl (hb hby at_14) rfl k) ?_
  show OEnds p.tables e below G (T3.setTop (mkF m 16 #[.val (.long q1), .second, .val (.long q2), .second, .val (.long v2), .second, .val (.long v4), .second, .unset, .unset, .unset, .unset, .unset, .unset] [(.long v4)]))
  refine OEnds.st (X3.ldc2Long hx hown (mvT hZ (hw _ (List.mem_of_getElem? (i := 11) rfl))) (g := (mkF m 16 #[.val (.long q1), .second, .val (.long q2), .second, .val (.long v2), .second, .val (.long v4), .second, .unset, .unset, .unset, .unset, .unset, .unset] [(.long v4)])) rfl (hb hby at_16)) ?_
  show OEnds p.tables e below G (T3.setTop (mkF m 19 #[.val (.long q1), .second, .val (.long q2), .second, .val (.long v2), .second, .val (.long v4), .second, .unset, .unset, .unset, .unset, .unset, .unset] [(.long (-4265267296055464877 : Int64)), (.long v4)]))
  obtain ⟨_, _, ⟨T5, L5, k5c, n5c⟩, -, X5, ⟨Lc5, hQ5, l5, y5, z5⟩, st5⟩ := Jvm.LawKit.callS X3 hx (y := (⟨"com/example/clearingd/clearingd/store/EntriesHashPinLaw", "inverse", "(J)J"⟩ : MethodName)) hown (mvT hZ (hw _ (List.mem_of_getElem? (i := 12) rfl))) (mvT hZ (hw _ (List.mem_of_getElem? (i := 13) rfl))) (mvT hZ (hw _ (List.mem_of_getElem? (i := 9) rfl))) (mvT hZ (hw _ (List.mem_of_getElem? (i := 14) rfl))) (by decide) (backOf (W := 2) (rm3 l Z a0 hw [] (-4265267296055464877 : Int64) h0 n0 Z0 ) hZ (hw _ (List.mem_of_getElem? (i := 14) rfl)) (hw _ (List.mem_of_getElem? (i := 9) rfl)) (by decide) (by decide)) (g := (mkF m 19 #[.val (.long q1), .second, .val (.long q2), .second, .val (.long v2), .second, .val (.long v4), .second, .unset, .unset, .unset, .unset, .unset, .unset] [(.long (-4265267296055464877 : Int64)), (.long v4)])) rfl (by rw [hml]; rfl) (argsL := [(.long (-4265267296055464877 : Int64))]) (rest := [(.long v4)]) (lenOf pd_1 rfl) rfl (by show 2 * 0 + _ ≤ _; exact Nat.le_of_eq rfl) (hb hby at_19) (fun _ _ => ⟨rfl, e3, (by decide : 0 + 0 + 0 + 0 ≤ _), (by decide : 0 + 0 + 0 + 0 ≤ _)⟩)
  dsimp only [Pt.U, Pt.locs, Pt.cells, Pt.slots] at X5 l5 y5 z5 st5 hQ5
  subst l5 y5 z5
  obtain ⟨rfl, N5q, e5⟩ := hQ5
  have N5 := Fr.app N3 N5q
  refine OEnds.st st5 ?_
  show OEnds p.tables e below G (T5.setTop (mkF m 22 #[.val (.long q1), .second, .val (.long q2), .second, .val (.long v2), .second, .val (.long v4), .second, .unset, .unset, .unset, .unset, .unset, .unset] [(.long (own_inv (-4265267296055464877 : Int64))), (.long v4)]))
  refine OEnds.st (fun _ k => XS.lmul X5.here hx rfl (hb hby at_22) rfl k) ?_
  show OEnds p.tables e below G (T5.setTop (mkF m 23 #[.val (.long q1), .second, .val (.long q2), .second, .val (.long v2), .second, .val (.long v4), .second, .unset, .unset, .unset, .unset, .unset, .unset] [(.long (v4 * (own_inv (-4265267296055464877 : Int64))))]))
  obtain ⟨_, _, ⟨T6, L6, k6c, n6c⟩, -, X6, ⟨Lc6, hQ6, l6, y6, z6⟩, st6⟩ := Jvm.LawKit.callS X5 hx (y := (⟨"com/example/clearingd/clearingd/store/EntriesHashPinLaw", "unshift", "(J)J"⟩ : MethodName)) hown (mvT hZ (hw _ (List.mem_of_getElem? (i := 7) rfl))) (mvT hZ (hw _ (List.mem_of_getElem? (i := 8) rfl))) (mvT hZ (hw _ (List.mem_of_getElem? (i := 9) rfl))) (mvT hZ (hw _ (List.mem_of_getElem? (i := 10) rfl))) (by decide) (backOf (W := 0) (rm2 l Z a0 hw [] (v4 * (own_inv (-4265267296055464877 : Int64))) h0 n0 Z0 ) hZ (hw _ (List.mem_of_getElem? (i := 10) rfl)) (hw _ (List.mem_of_getElem? (i := 9) rfl)) (by decide) (by decide)) (g := (mkF m 23 #[.val (.long q1), .second, .val (.long q2), .second, .val (.long v2), .second, .val (.long v4), .second, .unset, .unset, .unset, .unset, .unset, .unset] [(.long (v4 * (own_inv (-4265267296055464877 : Int64))))])) rfl (by rw [hml]; rfl) (argsL := [(.long (v4 * (own_inv (-4265267296055464877 : Int64))))]) (rest := []) (lenOf pd_1 rfl) rfl (by show 2 * 0 + _ ≤ _; exact Nat.le_of_eq rfl) (hb hby at_23) (fun _ _ => ⟨rfl, e5, (by decide : 0 + 0 + 0 + 0 + 0 ≤ _), (by decide : 0 + 0 + 0 + 0 + 0 ≤ _)⟩)
  dsimp only [Pt.U, Pt.locs, Pt.cells, Pt.slots] at X6 l6 y6 z6 st6 hQ6
  subst l6 y6 z6
  obtain ⟨rfl, N6q, e6⟩ := hQ6
  have N6 := Fr.app N5 N6q
  refine OEnds.st st6 ?_
  show OEnds p.tables e below G (T6.setTop (mkF m 26 #[.val (.long q1), .second, .val (.long q2), .second, .val (.long v2), .second, .val (.long v4), .second, .unset, .unset, .unset, .unset, .unset, .unset] [(.long (own_mix (v4 * (own_inv (-4265267296055464877 : Int64)))))]))
  refine OEnds.st (fun _ k => XS.lstore X6.here hx rfl (hb hby at_26) rfl (l' := #[.val (.long q1), .second, .val (.long q2), .second, .val (.long v2), .second, .val (.long v4), .second, .val (.long (own_mix (v4 * (own_inv (-4265267296055464877 : Int64))))), .second, .unset, .unset, .unset, .unset]) rfl k) ?_
  show OEnds p.tables e below G (T6.setTop (mkF m 28 #[.val (.long q1), .second, .val (.long q2), .second, .val (.long v2), .second, .val (.long v4), .second, .val (.long (own_mix (v4 * (own_inv (-4265267296055464877 : Int64))))), .second, .unset, .unset, .unset, .unset] []))
  generalize hv_v7 : (own_mix (v4 * (own_inv (-4265267296055464877 : Int64)))) = v7
  show OEnds p.tables e below G (T6.setTop (mkF m 28 #[.val (.long q1), .second, .val (.long q2), .second, .val (.long v2), .second, .val (.long v4), .second, .val (.long v7), .second, .unset, .unset, .unset, .unset] []))
  refine OEnds.st (fun _ k => XS.lload X6.here hx rfl (hb hby at_28) rfl k) ?_
  show OEnds p.tables e below G (T6.setTop (mkF m 30 #[.val (.long q1), .second, .val (.long q2), .second, .val (.long v2), .second, .val (.long v4), .second, .val (.long v7), .second, .unset, .unset, .unset, .unset] [(.long v7)]))
  refine OEnds.st (X6.ldc2Long hx hown (mvT hZ (hw _ (List.mem_of_getElem? (i := 16) rfl))) (g := (mkF m 30 #[.val (.long q1), .second, .val (.long q2), .second, .val (.long v2), .second, .val (.long v4), .second, .val (.long v7), .second, .unset, .unset, .unset, .unset] [(.long v7)])) rfl (hb hby at_30)) ?_
  show OEnds p.tables e below G (T6.setTop (mkF m 33 #[.val (.long q1), .second, .val (.long q2), .second, .val (.long v2), .second, .val (.long v4), .second, .val (.long v7), .second, .unset, .unset, .unset, .unset] [(.long (-49064778989728563 : Int64)), (.long v7)]))
  obtain ⟨_, _, ⟨T8, L8, k8c, n8c⟩, -, X8, ⟨Lc8, hQ8, l8, y8, z8⟩, st8⟩ := Jvm.LawKit.callS X6 hx (y := (⟨"com/example/clearingd/clearingd/store/EntriesHashPinLaw", "inverse", "(J)J"⟩ : MethodName)) hown (mvT hZ (hw _ (List.mem_of_getElem? (i := 12) rfl))) (mvT hZ (hw _ (List.mem_of_getElem? (i := 13) rfl))) (mvT hZ (hw _ (List.mem_of_getElem? (i := 9) rfl))) (mvT hZ (hw _ (List.mem_of_getElem? (i := 14) rfl))) (by decide) (backOf (W := 2) (rm3 l Z a0 hw [] (-49064778989728563 : Int64) h0 n0 Z0 ) hZ (hw _ (List.mem_of_getElem? (i := 14) rfl)) (hw _ (List.mem_of_getElem? (i := 9) rfl)) (by decide) (by decide)) (g := (mkF m 33 #[.val (.long q1), .second, .val (.long q2), .second, .val (.long v2), .second, .val (.long v4), .second, .val (.long v7), .second, .unset, .unset, .unset, .unset] [(.long (-49064778989728563 : Int64)), (.long v7)])) rfl (by rw [hml]; rfl) (argsL := [(.long (-49064778989728563 : Int64))]) (rest := [(.long v7)]) (lenOf pd_1 rfl) rfl (by show 2 * 0 + _ ≤ _; exact Nat.le_of_eq rfl) (hb hby at_33) (fun _ _ => ⟨rfl, e6, (by decide : 0 + 0 + 0 + 0 + 0 + 0 ≤ _), (by decide : 0 + 0 + 0 + 0 + 0 + 0 ≤ _)⟩)
  dsimp only [Pt.U, Pt.locs, Pt.cells, Pt.slots] at X8 l8 y8 z8 st8 hQ8
  subst l8 y8 z8
  obtain ⟨rfl, N8q, e8⟩ := hQ8
  have N8 := Fr.app N6 N8q
  refine OEnds.st st8 ?_
  show OEnds p.tables e below G (T8.setTop (mkF m 36 #[.val (.long q1), .second, .val (.long q2), .second, .val (.long v2), .second, .val (.long v4), .second, .val (.long v7), .second, .unset, .unset, .unset, .unset] [(.long (own_inv (-49064778989728563 : Int64))), (.long v7)]))
  refine OEnds.st (fun _ k => XS.lmul X8.here hx rfl (hb hby at_36) rfl k) ?_
  show OEnds p.tables e below G (T8.setTop (mkF m 37 #[.val (.long q1), .second, .val (.long q2), .second, .val (.long v2), .second, .val (.long v4), .second, .val (.long v7), .second, .unset, .unset, .unset, .unset] [(.long (v7 * (own_inv (-49064778989728563 : Int64))))]))
  obtain ⟨_, _, ⟨T9, L9, k9c, n9c⟩, -, X9, ⟨Lc9, hQ9, l9, y9, z9⟩, st9⟩ := Jvm.LawKit.callS X8 hx (y := (⟨"com/example/clearingd/clearingd/store/EntriesHashPinLaw", "unshift", "(J)J"⟩ : MethodName)) hown (mvT hZ (hw _ (List.mem_of_getElem? (i := 7) rfl))) (mvT hZ (hw _ (List.mem_of_getElem? (i := 8) rfl))) (mvT hZ (hw _ (List.mem_of_getElem? (i := 9) rfl))) (mvT hZ (hw _ (List.mem_of_getElem? (i := 10) rfl))) (by decide) (backOf (W := 0) (rm2 l Z a0 hw [] (v7 * (own_inv (-49064778989728563 : Int64))) h0 n0 Z0 ) hZ (hw _ (List.mem_of_getElem? (i := 10) rfl)) (hw _ (List.mem_of_getElem? (i := 9) rfl)) (by decide) (by decide)) (g := (mkF m 37 #[.val (.long q1), .second, .val (.long q2), .second, .val (.long v2), .second, .val (.long v4), .second, .val (.long v7), .second, .unset, .unset, .unset, .unset] [(.long (v7 * (own_inv (-49064778989728563 : Int64))))])) rfl (by rw [hml]; rfl) (argsL := [(.long (v7 * (own_inv (-49064778989728563 : Int64))))]) (rest := []) (lenOf pd_1 rfl) rfl (by show 2 * 0 + _ ≤ _; exact Nat.le_of_eq rfl) (hb hby at_37) (fun _ _ => ⟨rfl, e8, (by decide : 0 + 0 + 0 + 0 + 0 + 0 + 0 ≤ _), (by decide : 0 + 0 + 0 + 0 + 0 + 0 + 0 ≤ _)⟩)
  dsimp only [Pt.U, Pt.locs, Pt.cells, Pt.slots] at X9 l9 y9 z9 st9 hQ9
  subst l9 y9 z9
  obtain ⟨rfl, N9q, e9⟩ := hQ9
  have N9 := Fr.app N8 N9q
  refine OEnds.st st9 ?_
  show OEnds p.tables e below G (T9.setTop (mkF m 40 #[.val (.long q1), .second, .val (.long q2), .second, .val (.long v2), .second, .val (.long v4), .second, .val (.long v7), .second, .unset, .unset, .unset, .unset] [(.long (own_mix (v7 * (own_inv (-49064778989728563 : Int64)))))]))
  refine OEnds.st (fun _ k => XS.lstore X9.here hx rfl (hb hby at_40) rfl (l' := #[.val (.long q1), .second, .val (.long q2), .second, .val (.long v2), .second, .val (.long v4), .second, .val (.long v7), .second, .val (.long (own_mix (v7 * (own_inv (-49064778989728563 : Int64))))), .second, .unset, .unset]) rfl k) ?_
  show OEnds p.tables e below G (T9.setTop (mkF m 42 #[.val (.long q1), .second, .val (.long q2), .second, .val (.long v2), .second, .val (.long v4), .second, .val (.long v7), .second, .val (.long (own_mix (v7 * (own_inv (-49064778989728563 : Int64))))), .second, .unset, .unset] []))
  generalize hv_v10 : (own_mix (v7 * (own_inv (-49064778989728563 : Int64)))) = v10
  show OEnds p.tables e below G (T9.setTop (mkF m 42 #[.val (.long q1), .second, .val (.long q2), .second, .val (.long v2), .second, .val (.long v4), .second, .val (.long v7), .second, .val (.long v10), .second, .unset, .unset] []))
  refine OEnds.st (fun _ k => XS.lloadN X9.here hx rfl (hb hby at_42) rfl k) ?_
  show OEnds p.tables e below G (T9.setTop (mkF m 43 #[.val (.long q1), .second, .val (.long q2), .second, .val (.long v2), .second, .val (.long v4), .second, .val (.long v7), .second, .val (.long v10), .second, .unset, .unset] [(.long q1)]))
  refine OEnds.st (X9.ldc2Long hx hown (mvT hZ (hw _ (List.mem_of_getElem? (i := 17) rfl))) (g := (mkF m 43 #[.val (.long q1), .second, .val (.long q2), .second, .val (.long v2), .second, .val (.long v4), .second, .val (.long v7), .second, .val (.long v10), .second, .unset, .unset] [(.long q1)])) rfl (hb hby at_43)) ?_
  show OEnds p.tables e below G (T9.setTop (mkF m 46 #[.val (.long q1), .second, .val (.long q2), .second, .val (.long v2), .second, .val (.long v4), .second, .val (.long v7), .second, .val (.long v10), .second, .unset, .unset] [(.long (-7046029254386353131 : Int64)), (.long q1)]))
  refine OEnds.st (fun _ k => XS.lmul X9.here hx rfl (hb hby at_46) rfl k) ?_
  show OEnds p.tables e below G (T9.setTop (mkF m 47 #[.val (.long q1), .second, .val (.long q2), .second, .val (.long v2), .second, .val (.long v4), .second, .val (.long v7), .second, .val (.long v10), .second, .unset, .unset] [(.long (q1 * (-7046029254386353131 : Int64)))]))
  refine OEnds.st (fun _ k => XS.lloadN X9.here hx rfl (hb hby at_47) rfl k) ?_
  show OEnds p.tables e below G (T9.setTop (mkF m 48 #[.val (.long q1), .second, .val (.long q2), .second, .val (.long v2), .second, .val (.long v4), .second, .val (.long v7), .second, .val (.long v10), .second, .unset, .unset] [(.long q2), (.long (q1 * (-7046029254386353131 : Int64)))]))
  refine OEnds.st (fun _ k => XS.lxor X9.here hx rfl (hb hby at_48) rfl k) ?_
  show OEnds p.tables e below G (T9.setTop (mkF m 49 #[.val (.long q1), .second, .val (.long q2), .second, .val (.long v2), .second, .val (.long v4), .second, .val (.long v7), .second, .val (.long v10), .second, .unset, .unset] [(.long ((q1 * (-7046029254386353131 : Int64)) ^^^ q2))]))
  refine OEnds.st (fun _ k => XS.lstore X9.here hx rfl (hb hby at_49) rfl (l' := #[.val (.long q1), .second, .val (.long q2), .second, .val (.long v2), .second, .val (.long v4), .second, .val (.long v7), .second, .val (.long v10), .second, .val (.long ((q1 * (-7046029254386353131 : Int64)) ^^^ q2)), .second]) rfl k) ?_
  show OEnds p.tables e below G (T9.setTop (mkF m 51 #[.val (.long q1), .second, .val (.long q2), .second, .val (.long v2), .second, .val (.long v4), .second, .val (.long v7), .second, .val (.long v10), .second, .val (.long ((q1 * (-7046029254386353131 : Int64)) ^^^ q2)), .second] []))
  generalize hv_v11 : ((q1 * (-7046029254386353131 : Int64)) ^^^ q2) = v11
  show OEnds p.tables e below G (T9.setTop (mkF m 51 #[.val (.long q1), .second, .val (.long q2), .second, .val (.long v2), .second, .val (.long v4), .second, .val (.long v7), .second, .val (.long v10), .second, .val (.long v11), .second] []))
  refine OEnds.st (fun _ k => XS.lload X9.here hx rfl (hb hby at_51) rfl k) ?_
  show OEnds p.tables e below G (T9.setTop (mkF m 53 #[.val (.long q1), .second, .val (.long q2), .second, .val (.long v2), .second, .val (.long v4), .second, .val (.long v7), .second, .val (.long v10), .second, .val (.long v11), .second] [(.long v10)]))
  refine OEnds.st (fun _ k => XS.lload X9.here hx rfl (hb hby at_53) rfl k) ?_
  show OEnds p.tables e below G (T9.setTop (mkF m 55 #[.val (.long q1), .second, .val (.long q2), .second, .val (.long v2), .second, .val (.long v4), .second, .val (.long v7), .second, .val (.long v10), .second, .val (.long v11), .second] [(.long v11), (.long v10)]))
  refine OEnds.st (fun _ k => XS.lcmp X9.here hx rfl (hb hby at_55) rfl k) ?_
  show OEnds p.tables e below G (T9.setTop (mkF m 56 #[.val (.long q1), .second, .val (.long q2), .second, .val (.long v2), .second, .val (.long v4), .second, .val (.long v7), .second, .val (.long v10), .second, .val (.long v11), .second] [(.int (lcmpW v10 v11))]))
  have hc56_12 : v10 = v11 := by subst hv_v2 hv_v4 hv_v7 hv_v10 hv_v11; exact own_law q1 q2
  refine OEnds.st (fun _ k => XS.ifNo X9.here hx rfl (hb hby at_56) rfl ((if0 _ _).trans (teq ((lw_eq v10 v11).mpr hc56_12)).2) k) ?_
  show OEnds p.tables e below G (T9.setTop (mkF m 59 #[.val (.long q1), .second, .val (.long q2), .second, .val (.long v2), .second, .val (.long v4), .second, .val (.long v7), .second, .val (.long v10), .second, .val (.long v11), .second] []))
  refine OEnds.st (fun _ k => XS.iconst X9.here hx rfl (hb hby at_59) k) ?_
  show OEnds p.tables e below G (T9.setTop (mkF m 60 #[.val (.long q1), .second, .val (.long q2), .second, .val (.long v2), .second, .val (.long v4), .second, .val (.long v7), .second, .val (.long v10), .second, .val (.long v11), .second] [(.int (1 : Int32))]))
  refine OEnds.st (fun _ k => XS.goto X9.here hx rfl (pc0 := 60) (pc' := 64) rfl (hb hby at_60) (by decide) (by decide) k) ?_
  show OEnds p.tables e below G (T9.setTop (mkF m 64 #[.val (.long q1), .second, .val (.long q2), .second, .val (.long v2), .second, .val (.long v4), .second, .val (.long v7), .second, .val (.long v10), .second, .val (.long v11), .second] [(.int (1 : Int32))]))
  rw [← hG]
  refine OEnds.retZ X9 hx hlk Bd.returns rfl (hb hby at_64) (by decide) (by decide) ?_
  rw [e9]
  exact ⟨rfl, N9⟩
set_option maxRecDepth 65536 in
set_option maxHeartbeats 40000000 in
theorem comes_1 {Post : Tables → Env → Array Value → State → Outcome → State → Prop} (hpost : ∀ tb e args s v u, (limb_1_1.after args s (.returned v) u = true ∧ limb_1_2.after args s (.returned v) u = true ∧ True) → FrameEnd s (.returned v) u (Jvm.fieldLocs frame_1_writes args s ++ Jvm.arrayLocs frame_1_arrays args s ++ Jvm.staticLocs frame_1_statics s) 0 0 → Post tb e args s (.returned v) u) :
    ArmFor flags0 classFile x code maxLocals ret World_1 tables_1 room_1 Calls_1 rest_1 Pre_1 Post := by
  intro l hfl _ _ p e ha hc hk s m args below hf hA hF happ hP
  obtain ⟨hcalls, hrest, hpre⟩ := hP
  obtain ⟨-, -, -, hnamed, -, -, -, hat⟩ := (Spec.applies_iff hf).mp happ
  obtain ⟨hg, hn⟩ := and_e (Cond.before_iff.mp (show (Jvm.Cond.and given_1 narrow_1).before args s = true from hpre))
  obtain ⟨gc, gr0⟩ := and_e hg
  obtain ⟨ga0, gr1⟩ := and_e gr0
  obtain ⟨w0, w1, rfl⟩ : ∃ w0 w1 : Value, args = #[w0, w1] := by
    have hs : args.size = 2 := by simpa [Cond.value, given_1] using gc
    obtain ⟨L⟩ := args
    match L, hs with
    | [w0, w1], _ => exact ⟨w0, w1, rfl⟩
  have hw := fun d (hd : d ∈ tables_1) => atoms_spec (ws := Jvm.Cond.code x code maxLocals ret :: tables_1) hat d (List.mem_cons_of_mem _ hd)
  have hfit : Fit s := fun {y c} hc i hi => by
    obtain ⟨ha, rfl⟩ := Array.getElem?_eq_some_iff.mp hc
    have q := List.all_eq_true.mp ((Array.all_eq_true_iff_forall_mem.mp hF) _ (Array.getElem_mem ha)) i (List.mem_range.mpr hi)
    simpa [Array.getElem?_eq_getElem hi] using q
  obtain ⟨i0, ei0⟩ := isL_v ga0
  obtain rfl : w0 = (.long i0) := Option.some.inj ei0
  obtain ⟨i1, ei1⟩ := isL_v gr1
  obtain rfl : w1 = (.long i1) := Option.some.inj ei1
  obtain ⟨n, o, h1, h2, h3, _, L, rfl, ⟨rfl, N⟩, hq⟩ := rm0 l s _ hw tables_1 i0 i1  s.heap s.heap.size (Nat.le_refl _)  p e ha hc hk s m _ below hf ((Spec.applies_iff_loose hf).mp happ).1 ⟨rfl, State.Warmed39.refl s, rfl⟩ trivial
  refine ⟨n, _, h1, h2, h3, hpost _ _ _ _ _ _ ⟨Cond.after_iff.mpr rfl, Cond.after_iff.mpr (eq_i res_at (Term.int_eval (1)) rfl), trivial⟩ ⟨hq.1, hq.2.1, (hq.2.2.sift fun y hy => Or.inr (N y hy)).mono (by decide) (by decide)⟩⟩
theorem main_1_1 : Claimed_1_1 := comes_1 fun _ _ _ _ _ _ h hF => ⟨h.1, hF⟩
theorem main_1_2 : Claimed_1_2 := comes_1 fun _ _ _ _ _ _ h hF => ⟨h.2.1, hF⟩
end Jvm.Pilot.@@N@@
namespace Jvm.Pilot.@@N@@
open Jvm Jvm.ClassFile Sem Op Lib Jvm.Free Jvm.Stand Jvm.Pilot.@@N@@.Jvm.D
/-! MADE BY PROGRAM (witnessworld.py) out of the Statement's table words and the real class files: 9 classes; the members and pool entries that the words name. The judged class is class 1, her method 3. -/
namespace start1
open Jvm.ClassFile
def u (s : String) : CpInfo := .utf8 (stringToUtf16 s)
/-- a pool by its gaps: so many unusable entries, then the entry; so many at the end -/
def gap : Nat → List CpInfo → List CpInfo
  | 0, r => r
  | n + 1, r => .unusable :: gap n r
def poolList (es : List (Nat × CpInfo)) (last : Nat) : List CpInfo := es.foldr (fun e r => gap e.1 (e.2 :: r)) (gap last [])
def pool (es : List (Nat × CpInfo)) (last : Nat) : Array CpInfo := ⟨poolList es last⟩
def fileOf (pool : Array CpInfo) (this : Nat) (attrs : Array Attribute := #[]) (ms : Array MethodInfo := #[]) (fl : Nat := 33) (sup : Nat := 0) (ifs : Array Nat := #[]) (fds : Array FieldInfo := #[]) : ClassFile where
  minorVersion := 0
  majorVersion := 65
  constantPool := pool
  accessFlags := fl
  thisClass := this
  superClass := sup
  interfaces := ifs
  fields := fds
  methods := ms
  attributes := attrs
def plain (name : String) (sup : Option ClassId) : Class where
  name := name
  kind := .ordinary
  loader := none
  accessFlags := 33
  super := sup
  interfaces := #[]
  cf := none
  fields := #[]
  methods := #[]
  instanceTypes := #[]
  staticTypes := #[]
  resolved := #[]
  callSites := []
  init := .initialized
  statics := none
  mirror := none

def pool0 : Array CpInfo := pool [(5, u "<init>"), (0, u "()V"), (1, .class_ 10), (1, u "java/lang/Object")] 113

def k0m0 : Method := { name := "<init>", desc := "()V", sig := { parameters := [], returnType := none }, accessFlags := 1, code := none }
/-- java/lang/Object -/
def k0 : Class := { plain "java/lang/Object" none with
  accessFlags := 33
  interfaces := #[]
  cf := some (fileOf pool0 8 #[] #[{ accessFlags := 1, nameIndex := 5, descriptorIndex := 6, attributes := #[] }] 33 0 #[] #[])
  fields := #[]
  methods := #[k0m0]
  instanceTypes := #[]
  staticTypes := #[]
  resolved := Array.replicate 124 none
  statics := none }

def pool1 : Array CpInfo := pool [(2, .class_ 4), (1, u "java/lang/Object"), (0, u "<init>"), (0, u "()V"), (0, .long 2), (1, .methodref 10 11), (0, .class_ 12), (0, .nameAndType 13 14), (0, u "com/example/clearingd/clearingd/store/Entries"), (0, u "hash"), (0, u "(JJ)J"), (0, .methodref 16 17), (0, .class_ 18), (0, .nameAndType 19 20), (0, u "com/example/clearingd/clearingd/store/EntriesHashPinLaw"), (0, u "unshift"), (0, u "(J)J"), (0, .long 14181476777654086739), (1, .methodref 16 24), (0, .nameAndType 25 20), (0, u "inverse"), (0, .long 18397679294719823053), (1, .long 11400714819323198485), (3, u "law"), (0, u "(JJ)Z")] 3

def k1m0 : Method := { name := "<init>", desc := "()V", sig := { parameters := [], returnType := none }, accessFlags := 2, code := none }
def k1c1 : Code := { maxStack := 8, maxLocals := 4, code := method_2_code, exceptionTable := #[], attributes := #[] }
def k1m1 : Method := { name := "inverse", desc := "(J)J", sig := { parameters := [.long], returnType := some .long }, accessFlags := 10, code := some k1c1 }
def k1c2 : Code := { maxStack := 5, maxLocals := 2, code := method_3_code, exceptionTable := #[], attributes := #[] }
def k1m2 : Method := { name := "unshift", desc := "(J)J", sig := { parameters := [.long], returnType := some .long }, accessFlags := 10, code := some k1c2 }
def k1c3 : Code := { maxStack := 4, maxLocals := 14, code := code, exceptionTable := #[], attributes := #[] }
def k1m3 : Method := { name := "law", desc := "(JJ)Z", sig := { parameters := [.long, .long], returnType := some .boolean }, accessFlags := 9, code := some k1c3 }
/-- com/example/clearingd/clearingd/store/EntriesHashPinLaw -/
def k1 : Class := { plain "com/example/clearingd/clearingd/store/EntriesHashPinLaw" (some 0) with
  accessFlags := 49
  interfaces := #[]
  cf := some (fileOf pool1 16 #[] #[{ accessFlags := 2, nameIndex := 5, descriptorIndex := 6, attributes := #[] }, { accessFlags := 10, nameIndex := 25, descriptorIndex := 20, attributes := #[] }, { accessFlags := 10, nameIndex := 19, descriptorIndex := 20, attributes := #[] }, { accessFlags := 9, nameIndex := 32, descriptorIndex := 33, attributes := #[] }] 49 2 #[] #[])
  fields := #[]
  methods := #[k1m0, k1m1, k1m2, k1m3]
  instanceTypes := #[]
  staticTypes := #[]
  resolved := Array.replicate 37 none
  statics := none }

def pool2 : Array CpInfo := pool [(4, .class_ 6), (1, u "java/lang/Object"), (0, u "<init>"), (0, u "()V"), (10, .long 11400714819323198485), (1, .long 18397679294719823053), (1, .long 14181476777654086739), (1, .class_ 26), (0, u "com/example/clearingd/clearingd/store/Entries"), (0, u "BYTES"), (0, u "I"), (6, u "hash"), (0, u "(JJ)J")] 2

def k2m0 : Method := { name := "<init>", desc := "()V", sig := { parameters := [], returnType := none }, accessFlags := 2, code := none }
def k2c1 : Code := { maxStack := 5, maxLocals := 6, code := prog_40_method_3_code, exceptionTable := #[], attributes := #[] }
def k2m1 : Method := { name := "hash", desc := "(JJ)J", sig := { parameters := [.long, .long], returnType := some .long }, accessFlags := 8, code := some k2c1 }
/-- com/example/clearingd/clearingd/store/Entries -/
def k2 : Class := { plain "com/example/clearingd/clearingd/store/Entries" (some 0) with
  accessFlags := 32
  interfaces := #[]
  cf := some (fileOf pool2 25 #[] #[{ accessFlags := 2, nameIndex := 7, descriptorIndex := 8, attributes := #[] }, { accessFlags := 8, nameIndex := 35, descriptorIndex := 36, attributes := #[] }] 32 4 #[] #[{ accessFlags := 24, nameIndex := 27, descriptorIndex := 28, attributes := #[] }])
  fields := #[{ name := "BYTES", type := .int, accessFlags := 24, slot := 0, constantValue := 0 }]
  methods := #[k2m0, k2m1]
  instanceTypes := #[]
  staticTypes := #[.int]
  resolved := Array.replicate 39 none
  statics := none }

def pool3 : Array CpInfo := pool [(1, u "java/lang/Cloneable"), (0, .class_ 1), (0, u "java/lang/Object"), (0, .class_ 3)] 3

/-- java/lang/Cloneable -/
def k3 : Class := { plain "java/lang/Cloneable" (some 0) with
  accessFlags := 1537
  interfaces := #[]
  cf := some (fileOf pool3 2 #[] #[] 1537 4 #[] #[])
  fields := #[]
  methods := #[]
  instanceTypes := #[]
  staticTypes := #[]
  resolved := Array.replicate 8 none
  statics := none }

def pool4 : Array CpInfo := pool [(1, u "java/io/Serializable"), (0, .class_ 1), (0, u "java/lang/Object"), (0, .class_ 3)] 3

/-- java/io/Serializable -/
def k4 : Class := { plain "java/io/Serializable" (some 0) with
  accessFlags := 1537
  interfaces := #[]
  cf := some (fileOf pool4 2 #[] #[] 1537 4 #[] #[])
  fields := #[]
  methods := #[]
  instanceTypes := #[]
  staticTypes := #[]
  resolved := Array.replicate 8 none
  statics := none }

/-- the primitive byte -/
def k5 : Class := { plain "byte" none with kind := .primitive 'B', accessFlags := 0x411 }
/-- [B -/
def k6 : Class := { plain "[B" (some 0) with kind := .array 5 .byte, interfaces := #[3, 4], accessFlags := 1041 }

/-- the primitive int -/
def k7 : Class := { plain "int" none with kind := .primitive 'I', accessFlags := 0x411 }
/-- [I -/
def k8 : Class := { plain "[I" (some 0) with kind := .array 7 .int, interfaces := #[3, 4], accessFlags := 1041 }

def heap : Heap := #[]
def classes : Array Class := #[k0, k1, k2, k3, k4, k5, k6, k7, k8]
def interned : List (Array UInt16 × Addr) := []
def slotsUsed : Nat := 0
def theMethod : MethodId := ⟨1, 3⟩
def args0 : Array Value := #[.long 5, .long 7]
def aboutOver (below : List Frame) : State where
  vm := { classes := classes, interned := interned.toArray }
  heap := heap
  slotsUsed := slotsUsed
  threads := #[{ frames := .invoking theMethod args0 :: below }]
def below0 : List Frame := [.native { method := ⟨0, 0⟩, args := #[] }]
def about1 : State := aboutOver below0
def p0 : Program := .bare "" "" ""
def e0 : Env := launch0.env 0 0 0
theorem w_frames : about1.frames = Frame.invoking theMethod args0 :: below0 := rfl
set_option maxRecDepth 65536 in
theorem w_args : argsFit about1.vm theMethod args0 = true := by decide +kernel
set_option maxRecDepth 65536 in
theorem w_heap : heapFits about1 = true := by decide +kernel
set_option maxRecDepth 65536 in
theorem w_runnable : about1.curStatus? = some .runnable := by decide +kernel
set_option maxRecDepth 65536 in
theorem w_alone : about1.alone = true := by decide +kernel
set_option maxRecDepth 65536 in
theorem w_named : about1.methodNamed? x = some theMethod := by decide +kernel
set_option maxRecDepth 65536 in
theorem w_hears : about1.hears theMethod below0 = true := by decide +kernel
set_option maxRecDepth 65536 in
theorem w_ripe : about1.ripe theMethod args0 below0 = true := by decide +kernel
theorem w_running : about1.status = .running := rfl
set_option maxRecDepth 65536 in
theorem w_room : about1.hasRoom e0.platform room_1 = true :=
  launch0.hasRoom_least _ room_1 (by decide +kernel) (by decide +kernel) (by decide +kernel) (by decide +kernel) (by decide +kernel) (by decide +kernel)
theorem allAtoms_all (ts : List Jvm.Cond) (a : Array Jvm.Value) (st : Jvm.State) : (allAtoms ts).before a st = ts.all (fun c => c.before a st) := by
  induction ts with
  | nil => rfl
  | cons c t ih =>
    show (Jvm.Cond.and c (allAtoms t)).before a st = _
    rw [Jvm.Cond.before_and, ih, List.all_cons]
def words1 : List Jvm.Cond := Jvm.Cond.code x code maxLocals ret :: tables_1
/-- a 'code' word, met by the world's own term for the bytes: nothing is compared byte by byte -/
theorem code_word {y : MethodName} {bytes : ByteArray} {mx : Nat} {rt : Option FieldType} {a : Array Value} {s : State} {m : MethodId} {meth : Method} {c : Code} (h1 : s.methodNamed? y = some m) (h2 : s.vm.method? m = some meth) (h3 : meth.code = some c) (h4 : c.code = bytes)
    (h5 : (c.maxLocals == mx && c.exceptionTable.isEmpty && decide (c.maxStack ≤ mostOperands) && decide (meth.sig.returnType = rt) && !meth.locks && decide (parseMethodDescriptor y.desc = some meth.sig)) = true) : (Jvm.Cond.code y bytes mx rt).before a s = true := by
  simp only [Bool.and_eq_true, beq_iff_eq, Bool.not_eq_true', decide_eq_true_eq] at h5
  obtain ⟨⟨⟨⟨⟨g1, g2⟩, g3⟩, g4⟩, g5⟩, g6⟩ := h5
  simp [Cond.before, Cond.holds, Cond.value, h1, h2, h3, h4, g1, g2, g3, g4, g5, g6]
def isCode : Jvm.Cond → Bool
  | .code _ _ _ _ => true
  | _ => false
theorem all_split {L : List Jvm.Cond} {P : Jvm.Cond → Bool} (h1 : L.all (fun c => isCode c || P c) = true) (h2 : ∀ c ∈ L.filter isCode, P c = true) : L.all P = true := by
  refine List.all_eq_true.mpr fun c hc => ?_
  have h := List.all_eq_true.mp h1 c hc
  rcases Bool.eq_false_or_eq_true (isCode c) with hi | hi
  · exact h2 c (List.mem_filter.mpr ⟨hc, hi⟩)
  · simpa [hi] using h
set_option maxRecDepth 65536 in
theorem w_c0 : (Jvm.Cond.code x code maxLocals ret).before args0 about1 = true := code_word (m := ⟨1, 3⟩) (meth := k1m3) (c := k1c3) (by decide +kernel) rfl rfl rfl (by decide +kernel)
set_option maxRecDepth 65536 in
theorem w_c1 : (Jvm.Cond.code ({ cls := "com/example/clearingd/clearingd/store/Entries", name := "hash", desc := "(JJ)J" } : Jvm.MethodName) prog_40_method_3_code (6 : Nat) (Option.some Jvm.ClassFile.FieldType.long)).before args0 about1 = true := code_word (m := ⟨2, 1⟩) (meth := k2m1) (c := k2c1) (by decide +kernel) rfl rfl rfl (by decide +kernel)
set_option maxRecDepth 65536 in
theorem w_c2 : (Jvm.Cond.code ({ cls := "com/example/clearingd/clearingd/store/EntriesHashPinLaw", name := "unshift", desc := "(J)J" } : Jvm.MethodName) method_3_code (2 : Nat) (Option.some Jvm.ClassFile.FieldType.long)).before args0 about1 = true := code_word (m := ⟨1, 2⟩) (meth := k1m2) (c := k1c2) (by decide +kernel) rfl rfl rfl (by decide +kernel)
set_option maxRecDepth 65536 in
theorem w_c3 : (Jvm.Cond.code ({ cls := "com/example/clearingd/clearingd/store/EntriesHashPinLaw", name := "inverse", desc := "(J)J" } : Jvm.MethodName) method_2_code (4 : Nat) (Option.some Jvm.ClassFile.FieldType.long)).before args0 about1 = true := code_word (m := ⟨1, 1⟩) (meth := k1m1) (c := k1c1) (by decide +kernel) rfl rfl rfl (by decide +kernel)
def codes1 : List Jvm.Cond := [Jvm.Cond.code x code maxLocals ret, Jvm.Cond.code ({ cls := "com/example/clearingd/clearingd/store/Entries", name := "hash", desc := "(JJ)J" } : Jvm.MethodName) prog_40_method_3_code (6 : Nat) (Option.some Jvm.ClassFile.FieldType.long), Jvm.Cond.code ({ cls := "com/example/clearingd/clearingd/store/EntriesHashPinLaw", name := "unshift", desc := "(J)J" } : Jvm.MethodName) method_3_code (2 : Nat) (Option.some Jvm.ClassFile.FieldType.long), Jvm.Cond.code ({ cls := "com/example/clearingd/clearingd/store/EntriesHashPinLaw", name := "inverse", desc := "(J)J" } : Jvm.MethodName) method_2_code (4 : Nat) (Option.some Jvm.ClassFile.FieldType.long)]
set_option maxRecDepth 65536 in
theorem codes_eq : words1.filter isCode = codes1 := rfl
theorem w_codes : ∀ c ∈ words1.filter isCode, c.before args0 about1 = true := by
  rw [codes_eq]
  intro c hc
  simp only [codes1, List.mem_cons, List.not_mem_nil, or_false] at hc
  rcases hc with rfl | rfl | rfl | rfl
  · exact w_c0
  · exact w_c1
  · exact w_c2
  · exact w_c3
set_option maxRecDepth 65536 in
theorem w_t1 : words1.all (fun c => isCode c || c.before args0 about1) = true := by decide +kernel
theorem w_tables : (allAtoms (Jvm.Cond.code x code maxLocals ret :: tables_1)).before args0 about1 = true := by
  rw [allAtoms_all]
  show words1.all (fun c => c.before args0 about1) = true
  refine all_split ?_ w_codes
  rw [w_t1]
set_option maxRecDepth 65536 in
theorem w_case : (Jvm.Cond.and given_1 narrow_1).before args0 about1 = true := by decide +kernel
theorem w_applies : (headSpec (Jvm.Cond.code x code maxLocals ret :: tables_1) room_1).applies x e0.platform about1 = true :=
  (Spec.applies_iff w_frames).mpr ⟨w_running, w_runnable, w_alone, w_named, w_hears, w_ripe, w_room, w_tables⟩
theorem atStart : AtStart classFile x code maxLocals ret World_1 tables_1 room_1 Calls_1 rest_1 Pre_1 launch0 p0 e0 about1 theMethod args0 below0 :=
  ⟨lists_1, trivial, launch0.admits_env _ _ _, launch0.least_env, fairChoices_fair.cas, fairChoices_fair.clock, w_frames, w_args, w_heap, w_applies, trivial, trivial, w_case⟩
end start1
theorem witness_1 : WitnessClaimed_1 := ⟨start1.p0, start1.e0, start1.about1, start1.theMethod, start1.args0, start1.below0, start1.atStart⟩
end Jvm.Pilot.@@N@@
