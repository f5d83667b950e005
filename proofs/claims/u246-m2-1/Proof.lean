import JvmDerived
import JvmDerived.Pilot.@@N@@Statement
import JvmDerived.Pilot.@@N@@Code
set_option linter.unusedVariables false
set_option linter.unusedSimpArgs false
namespace Jvm.Pilot.@@N@@
open Jvm Jvm.ClassFile Sem Op Lib Jvm.Free Jvm.Stand Jvm.LawKit Jvm.RoadKit Bundle Jvm.Pilot.@@N@@.Jvm.D
section OwnRoad
variable {p : Program} {l : Launch} {e : Env} {R : Room} {s : State} {m : MethodId} {args : Array Value} {below : List Frame} {meth : Method} {c : Code} {T : State} {locs : List Loc} {cells slots : Nat}
/-- from A the run comes to an end of which G speaks -/
def OEnds (tb : Tables) (e : Env) (below : List Frame) (G : Outcome → State → Prop) (A : State) : Prop := ∃ s₂ o, Steps tb e below A s₂ ∧ s₂.status = .running ∧ Ended s₂ below o ∧ G o s₂
theorem OEnds.st {tb : Tables} {e : Env} {below : List Frame} {G : Outcome → State → Prop} {A B : State} (h : ∀ t, Steps tb e below B t → Steps tb e below A t) (k : OEnds tb e below G B) : OEnds tb e below G A := by
  obtain ⟨s, o, h1, h2⟩ := k
  exact ⟨s, o, h _ h1, h2⟩
def OGoal (Q : Option Value → Heap → List Loc → Prop) (s : State) (C S : Nat) (o : Outcome) (t : State) : Prop := ∃ v L, o = .returned v ∧ Q v t.heap L ∧ FrameEnd s o t L C S
theorem OEnds.out (X : Stand p l e R s m args below meth c T locs cells slots) (hlk : meth.locks = false) {v : Option Value} (hv : meth.sig.returnType = none → v = none) {Q : Option Value → Heap → List Loc → Prop} {C S : Nat} {A : State}
    (st : ∀ fs, (∀ (f : JFrame) (acts : List Action), f.method = m → f.locked = none → f.entered = [] → (doReturn e (T.setTop f) acts v).1 = T.setFrames fs) → Steps p.tables e below A (T.setFrames fs)) (hc : cells ≤ C) (hs : slots ≤ S) (hQ : Q v T.heap locs) : OEnds p.tables e below (OGoal Q s C S) A := by
  obtain ⟨fs, hr, hrun, hended, hW, hsame⟩ := X.leave (v := v) hv hlk
  exact ⟨_, _, st fs hr, hrun, hended, _, _, rfl, hQ, ⟨_, rfl⟩, hW, hsame.mono hc hs⟩
theorem OEnds.retI (X : Stand p l e R s m args below meth c T locs cells slots) (hx : p.tables.exec = Jvm.exec) (hlk : meth.locks = false) (hret : meth.sig.returnType = some .int) {pc : Nat} {Ls : Array Slot} {z : Int32} {rest : List Value} (hd : decode c.code pc = .ok (.ireturn, 1)) {Q : Option Value → Heap → List Loc → Prop} {C S : Nat} (hc : cells ≤ C) (hs : slots ≤ S) (hQ : Q (some (.int z)) T.heap locs) :
    OEnds p.tables e below (OGoal Q s C S) (T.setTop (mkF m pc Ls (.int z :: rest))) :=
  OEnds.out X hlk (fun h => by rw [hret] at h; cases h) (fun fs hr => retOut X hx hret rfl (Or.inl ⟨rfl, Or.inl rfl, _, rfl⟩) hd hr) hc hs hQ
theorem OEnds.retZ (X : Stand p l e R s m args below meth c T locs cells slots) (hx : p.tables.exec = Jvm.exec) (hlk : meth.locks = false) (hret : meth.sig.returnType = some .boolean) {pc : Nat} {Ls : Array Slot} {z : Int32} {rest : List Value} (hz : nar .boolean z = z) (hd : decode c.code pc = .ok (.ireturn, 1)) {Q : Option Value → Heap → List Loc → Prop} {C S : Nat} (hc : cells ≤ C) (hs : slots ≤ S) (hQ : Q (some (.int z)) T.heap locs) :
    OEnds p.tables e below (OGoal Q s C S) (T.setTop (mkF m pc Ls (.int z :: rest))) :=
  OEnds.out X hlk (fun h => by rw [hret] at h; cases h) (fun fs hr => retN X hx (t := .boolean) hret (Or.inl rfl) hd (by rw [hz]; exact hr)) hc hs hQ
theorem OEnds.retB (X : Stand p l e R s m args below meth c T locs cells slots) (hx : p.tables.exec = Jvm.exec) (hlk : meth.locks = false) (hret : meth.sig.returnType = some .byte) {pc : Nat} {Ls : Array Slot} {z : Int32} {rest : List Value} (hz : nar .byte z = z) (hd : decode c.code pc = .ok (.ireturn, 1)) {Q : Option Value → Heap → List Loc → Prop} {C S : Nat} (hc : cells ≤ C) (hs : slots ≤ S) (hQ : Q (some (.int z)) T.heap locs) :
    OEnds p.tables e below (OGoal Q s C S) (T.setTop (mkF m pc Ls (.int z :: rest))) :=
  OEnds.out X hlk (fun h => by rw [hret] at h; cases h) (fun fs hr => retN X hx (t := .byte) hret (Or.inr (Or.inl rfl)) hd (by rw [hz]; exact hr)) hc hs hQ
theorem OEnds.retJ (X : Stand p l e R s m args below meth c T locs cells slots) (hx : p.tables.exec = Jvm.exec) (hlk : meth.locks = false) (hret : meth.sig.returnType = some .long) {pc : Nat} {Ls : Array Slot} {z : Int64} {rest : List Value} (hd : decode c.code pc = .ok (.lreturn, 1)) {Q : Option Value → Heap → List Loc → Prop} {C S : Nat} (hc : cells ≤ C) (hs : slots ≤ S) (hQ : Q (some (.long z)) T.heap locs) :
    OEnds p.tables e below (OGoal Q s C S) (T.setTop (mkF m pc Ls (.long z :: rest))) :=
  OEnds.out X hlk (fun h => by rw [hret] at h; cases h) (fun fs hr => retOut X hx hret rfl (Or.inr (Or.inl ⟨rfl, rfl, _, rfl⟩)) hd hr) hc hs hQ
theorem OEnds.retA (X : Stand p l e R s m args below meth c T locs cells slots) (hx : p.tables.exec = Jvm.exec) (hlk : meth.locks = false) {t : FieldType} (hret : meth.sig.returnType = some t) {pc : Nat} {Ls : Array Slot} {w : Value} {rest : List Value} (hw : w.isRef = true) (ht : t.isReference = true) (hd : decode c.code pc = .ok (.areturn, 1)) {Q : Option Value → Heap → List Loc → Prop} {C S : Nat} (hc : cells ≤ C) (hs : slots ≤ S) (hQ : Q (some w) T.heap locs) :
    OEnds p.tables e below (OGoal Q s C S) (T.setTop (mkF m pc Ls (w :: rest))) :=
  OEnds.out X hlk (fun h => by rw [hret] at h; cases h) (fun fs hr => retOut X hx hret (by cases t <;> cases w <;> first | rfl | (cases ht; done) | (cases hw; done)) (Or.inr (Or.inr (Or.inr (Or.inr ⟨rfl, ht, hw⟩)))) hd hr) hc hs hQ
theorem OEnds.retV (X : Stand p l e R s m args below meth c T locs cells slots) (hx : p.tables.exec = Jvm.exec) (hlk : meth.locks = false) (hret : meth.sig.returnType = none) {pc : Nat} {Ls : Array Slot} (hd : decode c.code pc = .ok (.return_, 1)) {Q : Option Value → Heap → List Loc → Prop} {C S : Nat} (hc : cells ≤ C) (hs : slots ≤ S) (hQ : Q none T.heap locs) :
    OEnds p.tables e below (OGoal Q s C S) (T.setTop (mkF m pc Ls [])) :=
  OEnds.out X hlk (fun _ => rfl) (fun fs hr => X.returnOut hx hret hd hr) hc hs hQ
def OGoalW (Q : Option Value → Heap → List Loc → Prop) (s : State) (C S : Nat) (o : Outcome) (t : State) : Prop := ∃ v L, o = .returned v ∧ Q v t.heap L ∧ Jvm.ReturnedEndW s o t L C S
theorem own_growW {s t : State} {o : Outcome} {L : List Loc} {k n k' n' : Nat} (h : Jvm.ReturnedEndW s o t L k n) (hk : k ≤ k') (hn : n ≤ n') : Jvm.ReturnedEndW s o t L k' n' := ⟨h.1, h.2.1, h.2.2.1, h.2.2.2.mono hk hn⟩
theorem OEnds.retZW {vm0 : Vm} (X : Stand p l e R (s.setVm vm0) m args below meth c T locs cells slots) {n : Nat} (hS : s.Since vm0 n) (hn : n ≤ T.heap.size) (hx : p.tables.exec = Jvm.exec) (hlk : meth.locks = false) (hret : meth.sig.returnType = some .boolean) {pc : Nat} {Ls : Array Slot} {z : Int32} {rest : List Value} (hz : nar .boolean z = z) (hd : decode c.code pc = .ok (.ireturn, 1)) {Q : Option Value → Heap → List Loc → Prop} {C S : Nat} (hc : cells ≤ C) (hs : slots ≤ S) (hQ : Q (some (.int z)) T.heap locs) :
    OEnds p.tables e below (OGoalW Q s C S) (T.setTop (mkF m pc Ls (.int z :: rest))) := by
  obtain ⟨fs, hr, hrun, hended, hW⟩ := X.leaveW hS hn (v := some (.int z)) (fun h => by rw [hret] at h; cases h) hlk
  exact ⟨_, _, retN X hx (t := .boolean) hret (Or.inl rfl) hd (by rw [hz]; exact hr), hrun, hended, _, _, rfl, hQ, own_growW hW hc hs⟩
theorem own_b8 (x : Int32) : nar .byte (x.toInt8.toInt32) = x.toInt8.toInt32 := by
  show (x.toInt8.toInt32).toInt8.toInt32 = _
  rw [Int8.toInt8_toInt32]
theorem own_selP {s : State} {args : Array Value} {n : Nat} {y : MethodName} (hins : (Jvm.Cond.instantiable y.cls n).before args s = true) (hpriv : (Jvm.Cond.privateMethod y).before args s = true) (hinst : (Jvm.Cond.instanceMethod y).before args s = true) (hy : y.cls ≠ "java/lang/invoke/MethodHandle" ∧ y.cls ≠ "java/lang/invoke/VarHandle") :
    (Jvm.Cond.selects y.cls y y).before args s = true := by
  obtain ⟨c, k, hc, hk, -, hniab, -, -⟩ := Cond.instantiable_spec hins
  have hni : k.isInterface = false := (Bool.or_eq_false_iff.mp hniab).1
  obtain ⟨mk, methM, hnamed, hmethM, -, -⟩ := Cond.instanceMethod_spec hinst
  have hfound : s.methodFound? y.cls y.name y.desc = some mk := State.methodFound?_of_named hnamed hy
  have hcls : mk.cls = c := Option.some.inj ((findClass_of_methodNamed hnamed).symm.trans hc)
  have hsel : selectMethod {} s.vm c mk = .method mk := selectMethod_private hmethM (Cond.privateMethod_at hpriv mk methM hnamed hmethM)
  simp only [Cond.before, Cond.holds, Cond.value, hc, hfound, hnamed, hsel, hcls, hk]
  simp; exact hni
theorem own_exa_ns {Z : State} {h : Heap} {a : Addr} {C : String} (E : Exa Z h a C) : ∀ cell : Cell, h[a]? = some cell → cell.vm.isStatics = false := fun cell q => by
  obtain ⟨c, k, h1, -, -, h4, -⟩ := E
  cases h1.symm.trans q
  exact h4
theorem own_Sta_keep {Z : State} {h h' : Heap} {C n d : String} {v : Value} {ws : List Addr} (F : Sta Z h C n d v) (K : Keep h h' ws) (q : ∀ x ∈ ws, ∀ cell : Cell, h[x]? = some cell → cell.vm.isStatics = false) : Sta Z h' C n d v := by
  obtain ⟨cf, i, k, f, st, cell, h1, h2, h3, h4, h5, h6, h7⟩ := F
  refine ⟨cf, i, k, f, st, cell, h1, h2, h3, h4, K.2.1 _ _ h5 (fun hm => ?_), h6, h7⟩
  rw [q _ hm _ h5] at h6
  cases h6
theorem own_grow (X : Stand p l e R s m args below meth c T locs cells slots) {C S : Nat} (hc : cells ≤ C) (hs : slots ≤ S) : Stand p l e R s m args below meth c T locs C S :=
  ⟨X.admits, X.cas, X.clock, X.frames, X.room, X.hears, X.method, X.code, X.here, X.tail, X.warmed, X.limits, X.bytes, X.same.mono hc hs⟩
end OwnRoad
def own_skB0 (kp s b : Int32) : Int32 := if kp = (0 : Int32) then s else b
def own_skS (kp s b e p : Int32) : Int32 := if own_skB0 kp (s + p) b = e then 0 else s + p
def own_skE (kp s b e p : Int32) : Int32 := if own_skB0 kp (s + p) b = e then 0 else e
def own_skB (kp s b e p : Int32) : Int32 := if own_skB0 kp (s + p) b = e then 0 else own_skB0 kp (s + p) b
theorem own_nine (k : Int32) : 0 ≤ ((k &&& (2147483647 : Int32)) % (9 : Int32)).toInt ∧ ((k &&& (2147483647 : Int32)) % (9 : Int32)).toInt ≤ 8 := by
  have e1 := c_mask k (2147483647 : Int32) 31 (by decide) (by decide)
  have e2 := (c_irem (k &&& (2147483647 : Int32)) (9 : Int32) 9 (by decide)).1 (by omega)
  omega
theorem own_add1 (n : Int32) (h : 0 ≤ n.toInt ∧ n.toInt ≤ 8) : (n + (1 : Int32)).toInt = n.toInt + 1 := by
  have e1 := c_iadd n (1 : Int32)
  have e2 := rng32 (n + (1 : Int32))
  have e3 : (1 : Int32).toInt = 1 := by decide
  omega
theorem own_nz1 (n : Int32) (h : 0 ≤ n.toInt ∧ n.toInt ≤ 8) : n + (1 : Int32) ≠ 0 := fun q => by
  have e1 := own_add1 n h
  rw [q] at e1
  have e3 : (0 : Int32).toInt = 0 := by decide
  omega
theorem own_rem1 (k n : Int32) (h : 0 ≤ n.toInt ∧ n.toInt ≤ 8) : 0 ≤ ((k &&& (2147483647 : Int32)) % (n + (1 : Int32))).toInt ∧ ((k &&& (2147483647 : Int32)) % (n + (1 : Int32))).toInt ≤ n.toInt := by
  have e1 := c_mask k (2147483647 : Int32) 31 (by decide) (by decide)
  have e2 := own_add1 n h
  have e3 := (c_iremV (k &&& (2147483647 : Int32)) (n + (1 : Int32))).1 (by omega) (by omega)
  omega
theorem own_sub1 (n s : Int32) (h : 0 ≤ n.toInt ∧ n.toInt ≤ 8) (hs : 0 ≤ s.toInt ∧ s.toInt ≤ n.toInt) : ((n - s) + (1 : Int32)).toInt = n.toInt - s.toInt + 1 := by
  have e0 := c_isub n s
  have e4 := rng32 (n - s)
  have e1 := c_iadd (n - s) (1 : Int32)
  have e2 := rng32 ((n - s) + (1 : Int32))
  have e3 : (1 : Int32).toInt = 1 := by decide
  omega
theorem own_nz2 (n s : Int32) (h : 0 ≤ n.toInt ∧ n.toInt ≤ 8) (hs : 0 ≤ s.toInt ∧ s.toInt ≤ n.toInt) : (n - s) + (1 : Int32) ≠ 0 := fun q => by
  have e1 := own_sub1 n s h hs
  rw [q] at e1
  have e3 : (0 : Int32).toInt = 0 := by decide
  omega
theorem own_rem2 (k n s : Int32) (h : 0 ≤ n.toInt ∧ n.toInt ≤ 8) (hs : 0 ≤ s.toInt ∧ s.toInt ≤ n.toInt) : 0 ≤ ((k &&& (2147483647 : Int32)) % ((n - s) + (1 : Int32))).toInt ∧ ((k &&& (2147483647 : Int32)) % ((n - s) + (1 : Int32))).toInt ≤ n.toInt - s.toInt := by
  have e1 := c_mask k (2147483647 : Int32) 31 (by decide) (by decide)
  have e2 := own_sub1 n s h hs
  have e3 := (c_iremV (k &&& (2147483647 : Int32)) ((n - s) + (1 : Int32))).1 (by omega) (by omega)
  omega
theorem own_cp1 (n : Int32) (h : 0 ≤ n.toInt ∧ n.toInt ≤ 8) : ¬ n < 0 := by
  have e3 : (0 : Int32).toInt = 0 := by decide
  rw [Int32.lt_iff_toInt_lt]
  omega
theorem own_cp2 (n : Int32) (h : 0 ≤ n.toInt ∧ n.toInt ≤ 8) : (0 : Int32).toNatClampNeg + n.toNatClampNeg ≤ 8 := by
  have e1 := nat_of (own_cp1 n h)
  have e3 : (0 : Int32).toNatClampNeg = 0 := by decide
  omega
theorem own_room (n : Int32) (h : 0 ≤ n.toInt ∧ n.toInt ≤ 8) : ¬ (((8 : Int32) - (0 : Int32)) < n) := by
  have e3 : ((8 : Int32) - (0 : Int32)).toInt = 8 := by decide
  rw [Int32.lt_iff_toInt_lt]
  omega
theorem own_add2 (n s1 s2 : Int32) (h : 0 ≤ n.toInt ∧ n.toInt ≤ 8) (h1 : 0 ≤ s1.toInt ∧ s1.toInt ≤ n.toInt) (h2 : 0 ≤ s2.toInt ∧ s2.toInt ≤ n.toInt - s1.toInt) : (s1 + s2).toInt = s1.toInt + s2.toInt := by
  have e1 := c_iadd s1 s2
  have e2 := rng32 (s1 + s2)
  omega
theorem own_tk (n s1 s2 : Int32) (h : 0 ≤ n.toInt ∧ n.toInt ≤ 8) (h1 : 0 ≤ s1.toInt ∧ s1.toInt ≤ n.toInt) (h2 : 0 ≤ s2.toInt ∧ s2.toInt ≤ n.toInt - s1.toInt) : ((0 : Int64) + (s1.toInt64)) + (s2.toInt64) = ((s1 + s2).toInt64) := by
  have e0 := own_add2 n s1 s2 h h1 h2
  have a1 := c_ladd (0 : Int64) s1.toInt64
  have a2 := c_ladd ((0 : Int64) + s1.toInt64) s2.toInt64
  have r1 := rng64 ((0 : Int64) + s1.toInt64)
  have r2 := rng64 (((0 : Int64) + s1.toInt64) + s2.toInt64)
  have b1 := c_i2l s1
  have b2 := c_i2l s2
  have b3 := c_i2l (s1 + s2)
  have z : (0 : Int64).toInt = 0 := by decide
  apply Int64.toInt_inj.mp
  omega
theorem own_z (n : Int32) : (0 : Int32) + n = n := by
  apply Int32.toInt_inj.mp
  have e1 := c_iadd (0 : Int32) n
  have e2 := rng32 ((0 : Int32) + n)
  have e3 := rng32 n
  have e4 : (0 : Int32).toInt = 0 := by decide
  omega
theorem own_i0 (n : Int32) : n = (0 : Int32) ↔ n.toInt = 0 := by
  rw [← Int32.toInt_inj]; exact Iff.rfl
theorem own_keep (n s1 s2 : Int32) (h : 0 ≤ n.toInt ∧ n.toInt ≤ 8) (h1 : 0 ≤ s1.toInt ∧ s1.toInt ≤ n.toInt) (h2 : 0 ≤ s2.toInt ∧ s2.toInt ≤ n.toInt - s1.toInt) :
    (n = (0 : Int32) → (own_skS (1 : Int32) (own_skS (1 : Int32) (0 : Int32) (0 : Int32) ((0 : Int32) + n) s1) (own_skB (1 : Int32) (0 : Int32) (0 : Int32) ((0 : Int32) + n) s1) (own_skE (1 : Int32) (0 : Int32) (0 : Int32) ((0 : Int32) + n) s1) s2) = (0 : Int32) ∧ (own_skE (1 : Int32) (own_skS (1 : Int32) (0 : Int32) (0 : Int32) ((0 : Int32) + n) s1) (own_skB (1 : Int32) (0 : Int32) (0 : Int32) ((0 : Int32) + n) s1) (own_skE (1 : Int32) (0 : Int32) (0 : Int32) ((0 : Int32) + n) s1) s2) = (0 : Int32) ∧ ((own_skS (1 : Int32) (own_skS (1 : Int32) (0 : Int32) (0 : Int32) ((0 : Int32) + n) s1) (own_skB (1 : Int32) (0 : Int32) (0 : Int32) ((0 : Int32) + n) s1) (own_skE (1 : Int32) (0 : Int32) (0 : Int32) ((0 : Int32) + n) s1) s2) - (own_skB (1 : Int32) (own_skS (1 : Int32) (0 : Int32) (0 : Int32) ((0 : Int32) + n) s1) (own_skB (1 : Int32) (0 : Int32) (0 : Int32) ((0 : Int32) + n) s1) (own_skE (1 : Int32) (0 : Int32) (0 : Int32) ((0 : Int32) + n) s1) s2)) = (0 : Int32)) ∧
    (¬ n = (0 : Int32) → (own_skS (1 : Int32) (own_skS (1 : Int32) (0 : Int32) (0 : Int32) ((0 : Int32) + n) s1) (own_skB (1 : Int32) (0 : Int32) (0 : Int32) ((0 : Int32) + n) s1) (own_skE (1 : Int32) (0 : Int32) (0 : Int32) ((0 : Int32) + n) s1) s2) = s1 + s2 ∧ (own_skE (1 : Int32) (own_skS (1 : Int32) (0 : Int32) (0 : Int32) ((0 : Int32) + n) s1) (own_skB (1 : Int32) (0 : Int32) (0 : Int32) ((0 : Int32) + n) s1) (own_skE (1 : Int32) (0 : Int32) (0 : Int32) ((0 : Int32) + n) s1) s2) = n ∧ ((own_skS (1 : Int32) (own_skS (1 : Int32) (0 : Int32) (0 : Int32) ((0 : Int32) + n) s1) (own_skB (1 : Int32) (0 : Int32) (0 : Int32) ((0 : Int32) + n) s1) (own_skE (1 : Int32) (0 : Int32) (0 : Int32) ((0 : Int32) + n) s1) s2) - (own_skB (1 : Int32) (own_skS (1 : Int32) (0 : Int32) (0 : Int32) ((0 : Int32) + n) s1) (own_skB (1 : Int32) (0 : Int32) (0 : Int32) ((0 : Int32) + n) s1) (own_skE (1 : Int32) (0 : Int32) (0 : Int32) ((0 : Int32) + n) s1) s2)) = s1 + s2) := by
  have k1 : ∀ s b : Int32, own_skB0 (1 : Int32) s b = b := fun s b => by simp [own_skB0]
  rw [own_z n]
  refine ⟨fun q => ?_, fun q => ?_⟩
  · subst q
    simp [own_skS, own_skE, own_skB, k1]
  · have q' : ¬ (0 : Int32) = n := fun y => q y.symm
    simp [own_skS, own_skE, own_skB, k1, q']
theorem own_drop (n s1 s2 : Int32) (h : 0 ≤ n.toInt ∧ n.toInt ≤ 8) (h1 : 0 ≤ s1.toInt ∧ s1.toInt ≤ n.toInt) (h2 : 0 ≤ s2.toInt ∧ s2.toInt ≤ n.toInt - s1.toInt) :
    (s1 + s2 = n → (own_skS (0 : Int32) (own_skS (0 : Int32) (0 : Int32) (0 : Int32) ((0 : Int32) + n) s1) (own_skB (0 : Int32) (0 : Int32) (0 : Int32) ((0 : Int32) + n) s1) (own_skE (0 : Int32) (0 : Int32) (0 : Int32) ((0 : Int32) + n) s1) s2) = (0 : Int32) ∧ (own_skE (0 : Int32) (own_skS (0 : Int32) (0 : Int32) (0 : Int32) ((0 : Int32) + n) s1) (own_skB (0 : Int32) (0 : Int32) (0 : Int32) ((0 : Int32) + n) s1) (own_skE (0 : Int32) (0 : Int32) (0 : Int32) ((0 : Int32) + n) s1) s2) = (0 : Int32) ∧ ((own_skS (0 : Int32) (own_skS (0 : Int32) (0 : Int32) (0 : Int32) ((0 : Int32) + n) s1) (own_skB (0 : Int32) (0 : Int32) (0 : Int32) ((0 : Int32) + n) s1) (own_skE (0 : Int32) (0 : Int32) (0 : Int32) ((0 : Int32) + n) s1) s2) - (own_skB (0 : Int32) (own_skS (0 : Int32) (0 : Int32) (0 : Int32) ((0 : Int32) + n) s1) (own_skB (0 : Int32) (0 : Int32) (0 : Int32) ((0 : Int32) + n) s1) (own_skE (0 : Int32) (0 : Int32) (0 : Int32) ((0 : Int32) + n) s1) s2)) = (0 : Int32)) ∧
    (¬ s1 + s2 = n → (own_skS (0 : Int32) (own_skS (0 : Int32) (0 : Int32) (0 : Int32) ((0 : Int32) + n) s1) (own_skB (0 : Int32) (0 : Int32) (0 : Int32) ((0 : Int32) + n) s1) (own_skE (0 : Int32) (0 : Int32) (0 : Int32) ((0 : Int32) + n) s1) s2) = s1 + s2 ∧ (own_skE (0 : Int32) (own_skS (0 : Int32) (0 : Int32) (0 : Int32) ((0 : Int32) + n) s1) (own_skB (0 : Int32) (0 : Int32) (0 : Int32) ((0 : Int32) + n) s1) (own_skE (0 : Int32) (0 : Int32) (0 : Int32) ((0 : Int32) + n) s1) s2) = n ∧ ((own_skS (0 : Int32) (own_skS (0 : Int32) (0 : Int32) (0 : Int32) ((0 : Int32) + n) s1) (own_skB (0 : Int32) (0 : Int32) (0 : Int32) ((0 : Int32) + n) s1) (own_skE (0 : Int32) (0 : Int32) (0 : Int32) ((0 : Int32) + n) s1) s2) - (own_skB (0 : Int32) (own_skS (0 : Int32) (0 : Int32) (0 : Int32) ((0 : Int32) + n) s1) (own_skB (0 : Int32) (0 : Int32) (0 : Int32) ((0 : Int32) + n) s1) (own_skE (0 : Int32) (0 : Int32) (0 : Int32) ((0 : Int32) + n) s1) s2)) = (0 : Int32)) := by
  have k1 : ∀ s b : Int32, own_skB0 (0 : Int32) s b = s := fun s b => by simp [own_skB0]
  rw [own_z n]
  have e0 := own_add2 n s1 s2 h h1 h2
  by_cases q1 : s1 = n
  · have q2 : s2 = (0 : Int32) := by rw [own_i0]; subst q1; omega
    subst q1 q2
    simp [own_skS, own_skE, own_skB, k1]
  · refine ⟨fun q => ?_, fun q => ?_⟩
    · simp [own_skS, own_skE, own_skB, k1, q1, q]
    · simp [own_skS, own_skE, own_skB, k1, q1, q]

theorem d1_0 : decode prog_82_method_1_code 0 = .ok (.aload_n 0, 1) := by decide +kernel
theorem d1_1 : decode prog_82_method_1_code 1 = .ok (.invokespecial 1, 3) := by decide +kernel
theorem d1_4 : decode prog_82_method_1_code 4 = .ok (.aload_n 0, 1) := by decide +kernel
theorem d1_5 : decode prog_82_method_1_code 5 = .ok (.lload_n 1, 1) := by decide +kernel
theorem d1_6 : decode prog_82_method_1_code 6 = .ok (.putfield 7, 3) := by decide +kernel
theorem d1_9 : decode prog_82_method_1_code 9 = .ok (.return_, 1) := by decide +kernel
theorem pn_0 : plainName "com/example/marshalyard/marshalyard/proxy/MemoryBudget" = true := by first | (simp [plainName, overriddenIn]; done) | decide +kernel
theorem ef_1 (m : MethodId) (a1 : Addr) (q2 : Int64) : entryFrame m #[(.ref a1), (.long q2)] 3 = mkF m 0 #[.val (.ref a1), .val (.long q2), .second] [] := by first | (simp [entryFrame, mkF, argsToLocals, Value.category]; done) | rfl
def Q1 (Z : State) (a1 : Addr) (q2 : Int64) (h0 : Heap) (n0 : Nat) (v : Option Value) (h : Heap) (L : List Loc) : Prop := v = none ∧ Fr n0 L ∧ Keep h0 h [a1]
set_option maxRecDepth 65536 in
set_option maxHeartbeats 40000000 in
theorem rm1 (l : Launch) (Z : State) (a0 : Array Value) (hw : ∀ d ∈ tables_1, d.before a0 Z = true) (ws : List Jvm.Cond) (a1 : Addr) (q2 : Int64) (h0 : Heap) (n0 : Nat) (Z0 : n0 ≤ h0.size) (E1 : Exa Z h0 a1 "com/example/marshalyard/marshalyard/proxy/MemoryBudget") (F1 : Fld Z h0 a1 "com/example/marshalyard/marshalyard/proxy/MemoryBudget" "limit" "J" (.long (0 : Int64))) (g_a1 : n0 ≤ a1) :
    MetFree l (⟨"com/example/marshalyard/marshalyard/proxy/MemoryBudget", "<init>", "(J)V"⟩ : MethodName) (head1 (Jvm.Cond.code (⟨"com/example/marshalyard/marshalyard/proxy/MemoryBudget", "<init>", "(J)V"⟩ : MethodName) prog_82_method_1_code 3 none :: ws) ({ frames := 1, cells := 0, slots := 0, locals := 12 } : Room)) (fun a U => a = #[(.ref a1), (.long q2)] ∧ Z.Warmed39 U.vm ∧ U.heap = h0) (fun _ _ _ _ _ => True) (fun _ U o U' => ∃ v L, o = .returned v ∧ Q1 Z a1 q2 h0 n0 v U'.heap L ∧ FrameEnd U o U' L ({ frames := 1, cells := 0, slots := 0, locals := 12 } : Room).cells ({ frames := 1, cells := 0, slots := 0, locals := 12 } : Room).slots) := by
  refine MetFree.of_bodySF (plainFor_of_name pn_0) hisR ?_
  intro p e s m args below meth c s₁ Bd hml0 hP hK
  obtain ⟨rfl, hZ, hh⟩ := hP
  have hx := Bd.exec
  have hby := Bd.bytes
  have hml : c.maxLocals = 3 := hml0
  have hown : s.vm.findClass "com/example/marshalyard/marshalyard/proxy/MemoryBudget" = some m.cls := findClass_of_methodNamed Bd.named
  have hnm := (name_of_methodNamed Bd.named Bd.method).1
  have hlk : meth.locks = false := BodyLoose.notSynchronized Bd
  have X0 : Stand p l e ({ frames := 1, cells := 0, slots := 0, locals := 12 } : Room) s m #[(.ref a1), (.long q2)] below meth c s₁ [] 0 0 := Stand.of_body Bd
  have e0 : s₁.heap = h0 := by rw [← hh, Bd.state]; rfl
  have N0 := Fr.nil n0
  show OEnds p.tables e below (OGoal (Q1 Z a1 q2 h0 n0) s 0 0) (s₁.setTop (entryFrame m #[(.ref a1), (.long q2)] 3))
  refine OEnds.st (fun t k => castTop (ef_1 m a1 q2) k) ?_
  generalize hG : OGoal (Q1 Z a1 q2 h0 n0) s 0 0 = G
  have KK0 : Keep h0 h0 [a1] := Keep.refl h0 [a1]
  show OEnds p.tables e below G (s₁.setTop (mkF m 0 #[.val (.ref a1), .val (.long q2), .second] []))
  refine OEnds.st (fun _ k => XS.aloadN X0.here hx rfl (hb hby d1_0) rfl rfl k) ?_
  show OEnds p.tables e below G (s₁.setTop (mkF m 1 #[.val (.ref a1), .val (.long q2), .second] [(.ref a1)]))
  obtain ⟨T1001, X1001, e1001, st1001⟩ := initO X0 hx hZ hown (hw _ (List.mem_of_getElem? (i := 12) rfl)) (hw _ (List.mem_of_getElem? (i := 13) rfl)) (hw _ (List.mem_of_getElem? (i := 14) rfl)) e0 (g := (mkF m 1 #[.val (.ref a1), .val (.long q2), .second] [(.ref a1)])) rfl (by rw [hml]; rfl) rfl (hb hby d1_1) (by decide) (W := 0) (by show 2 * 0 + _ ≤ _; exact Nat.le_of_eq rfl) (by decide)
  refine OEnds.st st1001 ?_
  show OEnds p.tables e below G (T1001.setTop (mkF m 4 #[.val (.ref a1), .val (.long q2), .second] []))
  refine OEnds.st (fun _ k => XS.aloadN X1001.here hx rfl (hb hby d1_4) rfl rfl k) ?_
  show OEnds p.tables e below G (T1001.setTop (mkF m 5 #[.val (.ref a1), .val (.long q2), .second] [(.ref a1)]))
  refine OEnds.st (fun _ k => XS.lloadN X1001.here hx rfl (hb hby d1_5) rfl k) ?_
  show OEnds p.tables e below G (T1001.setTop (mkF m 6 #[.val (.ref a1), .val (.long q2), .second] [(.long q2), (.ref a1)]))
  obtain ⟨T1002, h1002, X1002, e1002, W1002, st1002⟩ := putF X1001 hx hZ hown (host := "") (Or.inl (hw _ (List.mem_of_getElem? (i := 15) rfl))) Via.refl e1001 F1 E1 (Or.inr ⟨(hw _ (List.mem_of_getElem? (i := 16) rfl)), rfl, hnm⟩) (hw _ (List.mem_of_getElem? (i := 6) rfl)) (ty := .long) (by decide) rfl rfl (g := (mkF m 6 #[.val (.ref a1), .val (.long q2), .second] [(.long q2), (.ref a1)])) rfl rfl (hb hby d1_6)
  refine OEnds.st st1002 ?_
  have f1003 : Fld Z h1002 a1 "com/example/marshalyard/marshalyard/proxy/MemoryBudget" "limit" "J" (.long q2) := F1.same W1002
  have f1004 : Exa Z h1002 a1 "com/example/marshalyard/marshalyard/proxy/MemoryBudget" := E1.wr W1002
  have N1002 := Fr.snoc X1002 N0 g_a1
  have KK1002 : Keep h0 h1002 [a1] := KK0.wr W1002 (Or.inl (List.mem_of_getElem? (i := 0) rfl))
  have Z1002 := Nat.le_trans Z0 (Keep.of_wr W1002).1
  show OEnds p.tables e below G (T1002.setTop (mkF m 9 #[.val (.ref a1), .val (.long q2), .second] []))
  rw [← hG]
  refine OEnds.retV X1002 hx hlk Bd.returns (hb hby d1_9) (by decide) (by decide) ?_
  rw [e1002]
  exact ⟨rfl, N1002, KK1002⟩
theorem d3_0 : decode prog_79_method_1_code 0 = .ok (.aload_n 0, 1) := by decide +kernel
theorem d3_1 : decode prog_79_method_1_code 1 = .ok (.invokespecial 1, 3) := by decide +kernel
theorem d3_4 : decode prog_79_method_1_code 4 = .ok (.aload_n 0, 1) := by decide +kernel
theorem d3_5 : decode prog_79_method_1_code 5 = .ok (.aload_n 1, 1) := by decide +kernel
theorem d3_6 : decode prog_79_method_1_code 6 = .ok (.putfield 7, 3) := by decide +kernel
theorem d3_9 : decode prog_79_method_1_code 9 = .ok (.aload_n 0, 1) := by decide +kernel
theorem d3_10 : decode prog_79_method_1_code 10 = .ok (.iload_n 2, 1) := by decide +kernel
theorem d3_11 : decode prog_79_method_1_code 11 = .ok (.newarray .byte, 2) := by decide +kernel
theorem d3_13 : decode prog_79_method_1_code 13 = .ok (.putfield 13, 3) := by decide +kernel
theorem d3_16 : decode prog_79_method_1_code 16 = .ok (.return_, 1) := by decide +kernel
theorem pn_1 : plainName "com/example/marshalyard/marshalyard/proxy/IoBuffer" = true := by first | (simp [plainName, overriddenIn]; done) | decide +kernel
theorem ef_3 (m : MethodId) (a1 : Addr) (a2 : Addr) : entryFrame m #[(.ref a1), (.ref a2), (.int (8 : Int32))] 3 = mkF m 0 #[.val (.ref a1), .val (.ref a2), .val (.int (8 : Int32))] [] := by first | (simp [entryFrame, mkF, argsToLocals, Value.category]; done) | rfl
def Q3 (Z : State) (a1 : Addr) (a2 : Addr) (h0 : Heap) (n0 : Nat) (v : Option Value) (h : Heap) (L : List Loc) : Prop := ∃ (b : Addr) (kb : ClassId), v = none ∧ Fr n0 L ∧ Keep h0 h [a1] ∧ h0.size ≤ b ∧ Exa Z h a1 "com/example/marshalyard/marshalyard/proxy/IoBuffer" ∧ Fld Z h a1 "com/example/marshalyard/marshalyard/proxy/IoBuffer" "bytes" "[B" (.ref b) ∧ Fld Z h a1 "com/example/marshalyard/marshalyard/proxy/IoBuffer" "start" "I" (.int (0 : Int32)) ∧ Fld Z h a1 "com/example/marshalyard/marshalyard/proxy/IoBuffer" "end" "I" (.int (0 : Int32)) ∧ Fld Z h a1 "com/example/marshalyard/marshalyard/proxy/IoBuffer" "base" "I" (.int (0 : Int32)) ∧ Fld Z h a1 "com/example/marshalyard/marshalyard/proxy/IoBuffer" "added" "J" (.long (0 : Int64)) ∧ Fld Z h a1 "com/example/marshalyard/marshalyard/proxy/IoBuffer" "taken" "J" (.long (0 : Int64)) ∧ Fld Z h a1 "com/example/marshalyard/marshalyard/proxy/IoBuffer" "keeping" "Z" (.int (0 : Int32)) ∧ Arv Z h b kb .byte (8 : Int32) [(.int (0 : Int32)), (.int (0 : Int32)), (.int (0 : Int32)), (.int (0 : Int32)), (.int (0 : Int32)), (.int (0 : Int32)), (.int (0 : Int32)), (.int (0 : Int32))] (.int (0 : Int32))
set_option maxRecDepth 65536 in
set_option maxHeartbeats 40000000 in
theorem rm3 (l : Launch) (Z : State) (a0 : Array Value) (hw : ∀ d ∈ tables_1, d.before a0 Z = true) (ws : List Jvm.Cond) (a1 : Addr) (a2 : Addr) (h0 : Heap) (n0 : Nat) (Z0 : n0 ≤ h0.size) (Ea1 : Exa Z h0 a1 "com/example/marshalyard/marshalyard/proxy/IoBuffer") (Fby : Fld Z h0 a1 "com/example/marshalyard/marshalyard/proxy/IoBuffer" "bytes" "[B" .null) (Fst : Fld Z h0 a1 "com/example/marshalyard/marshalyard/proxy/IoBuffer" "start" "I" (.int (0 : Int32))) (Fen : Fld Z h0 a1 "com/example/marshalyard/marshalyard/proxy/IoBuffer" "end" "I" (.int (0 : Int32))) (Fba : Fld Z h0 a1 "com/example/marshalyard/marshalyard/proxy/IoBuffer" "base" "I" (.int (0 : Int32))) (Fad : Fld Z h0 a1 "com/example/marshalyard/marshalyard/proxy/IoBuffer" "added" "J" (.long (0 : Int64))) (Fta : Fld Z h0 a1 "com/example/marshalyard/marshalyard/proxy/IoBuffer" "taken" "J" (.long (0 : Int64))) (Fke : Fld Z h0 a1 "com/example/marshalyard/marshalyard/proxy/IoBuffer" "keeping" "Z" (.int (0 : Int32))) (Fbu : Fld Z h0 a1 "com/example/marshalyard/marshalyard/proxy/IoBuffer" "budget" "Lcom/example/marshalyard/marshalyard/proxy/MemoryBudget;" .null) (g_a1 : n0 ≤ a1) :
    MetFree l (⟨"com/example/marshalyard/marshalyard/proxy/IoBuffer", "<init>", "(Lcom/example/marshalyard/marshalyard/proxy/MemoryBudget;I)V"⟩ : MethodName) (head1 (Jvm.Cond.code (⟨"com/example/marshalyard/marshalyard/proxy/IoBuffer", "<init>", "(Lcom/example/marshalyard/marshalyard/proxy/MemoryBudget;I)V"⟩ : MethodName) prog_79_method_1_code 3 none :: ws) ({ frames := 1, cells := 1, slots := 8, locals := 12 } : Room)) (fun a U => a = #[(.ref a1), (.ref a2), (.int (8 : Int32))] ∧ Z.Warmed39 U.vm ∧ U.heap = h0) (fun _ _ _ _ _ => True) (fun _ U o U' => ∃ v L, o = .returned v ∧ Q3 Z a1 a2 h0 n0 v U'.heap L ∧ FrameEnd U o U' L ({ frames := 1, cells := 1, slots := 8, locals := 12 } : Room).cells ({ frames := 1, cells := 1, slots := 8, locals := 12 } : Room).slots) := by
  refine MetFree.of_bodySF (plainFor_of_name pn_1) hisR ?_
  intro p e s m args below meth c s₁ Bd hml0 hP hK
  obtain ⟨rfl, hZ, hh⟩ := hP
  have hx := Bd.exec
  have hby := Bd.bytes
  have hml : c.maxLocals = 3 := hml0
  have hown : s.vm.findClass "com/example/marshalyard/marshalyard/proxy/IoBuffer" = some m.cls := findClass_of_methodNamed Bd.named
  have hnm := (name_of_methodNamed Bd.named Bd.method).1
  have hlk : meth.locks = false := BodyLoose.notSynchronized Bd
  have X0 : Stand p l e ({ frames := 1, cells := 1, slots := 8, locals := 12 } : Room) s m #[(.ref a1), (.ref a2), (.int (8 : Int32))] below meth c s₁ [] 0 0 := Stand.of_body Bd
  have e0 : s₁.heap = h0 := by rw [← hh, Bd.state]; rfl
  have N0 := Fr.nil n0
  show OEnds p.tables e below (OGoal (Q3 Z a1 a2 h0 n0) s 1 8) (s₁.setTop (entryFrame m #[(.ref a1), (.ref a2), (.int (8 : Int32))] 3))
  refine OEnds.st (fun t k => castTop (ef_3 m a1 a2) k) ?_
  generalize hG : OGoal (Q3 Z a1 a2 h0 n0) s 1 8 = G
  have KK0 : Keep h0 h0 [a1] := Keep.refl h0 [a1]
  show OEnds p.tables e below G (s₁.setTop (mkF m 0 #[.val (.ref a1), .val (.ref a2), .val (.int (8 : Int32))] []))
  refine OEnds.st (fun _ k => XS.aloadN X0.here hx rfl (hb hby d3_0) rfl rfl k) ?_
  show OEnds p.tables e below G (s₁.setTop (mkF m 1 #[.val (.ref a1), .val (.ref a2), .val (.int (8 : Int32))] [(.ref a1)]))
  obtain ⟨T1001, X1001, e1001, st1001⟩ := initO X0 hx hZ hown (hw _ (List.mem_of_getElem? (i := 20) rfl)) (hw _ (List.mem_of_getElem? (i := 13) rfl)) (hw _ (List.mem_of_getElem? (i := 14) rfl)) e0 (g := (mkF m 1 #[.val (.ref a1), .val (.ref a2), .val (.int (8 : Int32))] [(.ref a1)])) rfl (by rw [hml]; rfl) rfl (hb hby d3_1) (by decide) (W := 0) (by show 2 * 0 + _ ≤ _; exact Nat.le_of_eq rfl) (by decide)
  refine OEnds.st st1001 ?_
  show OEnds p.tables e below G (T1001.setTop (mkF m 4 #[.val (.ref a1), .val (.ref a2), .val (.int (8 : Int32))] []))
  refine OEnds.st (fun _ k => XS.aloadN X1001.here hx rfl (hb hby d3_4) rfl rfl k) ?_
  show OEnds p.tables e below G (T1001.setTop (mkF m 5 #[.val (.ref a1), .val (.ref a2), .val (.int (8 : Int32))] [(.ref a1)]))
  refine OEnds.st (fun _ k => XS.aloadN X1001.here hx rfl (hb hby d3_5) rfl rfl k) ?_
  show OEnds p.tables e below G (T1001.setTop (mkF m 6 #[.val (.ref a1), .val (.ref a2), .val (.int (8 : Int32))] [(.ref a2), (.ref a1)]))
  obtain ⟨T1002, h1002, X1002, e1002, W1002, st1002⟩ := putF X1001 hx hZ hown (host := "") (Or.inl (hw _ (List.mem_of_getElem? (i := 21) rfl))) Via.refl e1001 Fbu Ea1 (Or.inr ⟨(hw _ (List.mem_of_getElem? (i := 22) rfl)), rfl, hnm⟩) (hw _ (List.mem_of_getElem? (i := 3) rfl)) (ty := (.object "com/example/marshalyard/marshalyard/proxy/MemoryBudget")) (by decide) rfl rfl (g := (mkF m 6 #[.val (.ref a1), .val (.ref a2), .val (.int (8 : Int32))] [(.ref a2), (.ref a1)])) rfl rfl (hb hby d3_6)
  refine OEnds.st st1002 ?_
  have f1003 : Fld Z h1002 a1 "com/example/marshalyard/marshalyard/proxy/IoBuffer" "budget" "Lcom/example/marshalyard/marshalyard/proxy/MemoryBudget;" (.ref a2) := Fbu.same W1002
  have f1004 : Exa Z h1002 a1 "com/example/marshalyard/marshalyard/proxy/IoBuffer" := Ea1.wr W1002
  have f1005 : Fld Z h1002 a1 "com/example/marshalyard/marshalyard/proxy/IoBuffer" "bytes" "[B" .null := Fby.other W1002 (Or.inr (slot_ne (Or.inl (hw _ (List.mem_of_getElem? (i := 24) rfl))) (Or.inr (hw _ (List.mem_of_getElem? (i := 22) rfl))) (by decide) (t := (.array .byte)) (t' := (.object "com/example/marshalyard/marshalyard/proxy/MemoryBudget")) (by decide) (by decide)))
  have f1006 : Fld Z h1002 a1 "com/example/marshalyard/marshalyard/proxy/IoBuffer" "start" "I" (.int (0 : Int32)) := Fst.other W1002 (Or.inr (slot_ne (Or.inl (hw _ (List.mem_of_getElem? (i := 57) rfl))) (Or.inr (hw _ (List.mem_of_getElem? (i := 22) rfl))) (by decide) (t := .int) (t' := (.object "com/example/marshalyard/marshalyard/proxy/MemoryBudget")) (by decide) (by decide)))
  have f1007 : Fld Z h1002 a1 "com/example/marshalyard/marshalyard/proxy/IoBuffer" "end" "I" (.int (0 : Int32)) := Fen.other W1002 (Or.inr (slot_ne (Or.inl (hw _ (List.mem_of_getElem? (i := 35) rfl))) (Or.inr (hw _ (List.mem_of_getElem? (i := 22) rfl))) (by decide) (t := .int) (t' := (.object "com/example/marshalyard/marshalyard/proxy/MemoryBudget")) (by decide) (by decide)))
  have f1008 : Fld Z h1002 a1 "com/example/marshalyard/marshalyard/proxy/IoBuffer" "base" "I" (.int (0 : Int32)) := Fba.other W1002 (Or.inr (slot_ne (Or.inl (hw _ (List.mem_of_getElem? (i := 59) rfl))) (Or.inr (hw _ (List.mem_of_getElem? (i := 22) rfl))) (by decide) (t := .int) (t' := (.object "com/example/marshalyard/marshalyard/proxy/MemoryBudget")) (by decide) (by decide)))
  have f1009 : Fld Z h1002 a1 "com/example/marshalyard/marshalyard/proxy/IoBuffer" "added" "J" (.long (0 : Int64)) := Fad.other W1002 (Or.inr (slot_ne (Or.inl (hw _ (List.mem_of_getElem? (i := 41) rfl))) (Or.inr (hw _ (List.mem_of_getElem? (i := 22) rfl))) (by decide) (t := .long) (t' := (.object "com/example/marshalyard/marshalyard/proxy/MemoryBudget")) (by decide) (by decide)))
  have f1010 : Fld Z h1002 a1 "com/example/marshalyard/marshalyard/proxy/IoBuffer" "taken" "J" (.long (0 : Int64)) := Fta.other W1002 (Or.inr (slot_ne (Or.inl (hw _ (List.mem_of_getElem? (i := 55) rfl))) (Or.inr (hw _ (List.mem_of_getElem? (i := 22) rfl))) (by decide) (t := .long) (t' := (.object "com/example/marshalyard/marshalyard/proxy/MemoryBudget")) (by decide) (by decide)))
  have f1011 : Fld Z h1002 a1 "com/example/marshalyard/marshalyard/proxy/IoBuffer" "keeping" "Z" (.int (0 : Int32)) := Fke.other W1002 (Or.inr (slot_ne (Or.inl (hw _ (List.mem_of_getElem? (i := 48) rfl))) (Or.inr (hw _ (List.mem_of_getElem? (i := 22) rfl))) (by decide) (t := .boolean) (t' := (.object "com/example/marshalyard/marshalyard/proxy/MemoryBudget")) (by decide) (by decide)))
  have N1002 := Fr.snoc X1002 N0 g_a1
  have KK1002 : Keep h0 h1002 [a1] := KK0.wr W1002 (Or.inl (List.mem_of_getElem? (i := 0) rfl))
  have Z1002 := Nat.le_trans Z0 (Keep.of_wr W1002).1
  show OEnds p.tables e below G (T1002.setTop (mkF m 9 #[.val (.ref a1), .val (.ref a2), .val (.int (8 : Int32))] []))
  refine OEnds.st (fun _ k => XS.aloadN X1002.here hx rfl (hb hby d3_9) rfl rfl k) ?_
  show OEnds p.tables e below G (T1002.setTop (mkF m 10 #[.val (.ref a1), .val (.ref a2), .val (.int (8 : Int32))] [(.ref a1)]))
  refine OEnds.st (fun _ k => XS.iloadN X1002.here hx rfl (hb hby d3_10) rfl k) ?_
  show OEnds p.tables e below G (T1002.setTop (mkF m 11 #[.val (.ref a1), .val (.ref a2), .val (.int (8 : Int32))] [(.int (8 : Int32)), (.ref a1)]))
  obtain ⟨T1013, h1013, k1013, X1013, e1013, E1013, A1013, st1013⟩ := newP X1002 hx hZ (hw _ (List.mem_of_getElem? (i := 1) rfl)) e1002 (g := (mkF m 11 #[.val (.ref a1), .val (.ref a2), .val (.int (8 : Int32))] [(.int (8 : Int32)), (.ref a1)])) rfl (hb hby d3_11) rfl (by decide) (cap := 8) (by decide) (by decide) (by decide) (by decide)
  obtain ⟨b1013, g1013⟩ : ∃ z, z = h1002.size := ⟨_, rfl⟩
  rw [← g1013] at A1013 st1013
  refine OEnds.st st1013 ?_
  have ne1014 : a1 ≠ b1013 := Nat.ne_of_lt (Nat.lt_of_lt_of_le (f1004).lt (Nat.le_of_eq g1013.symm))
  have ge_b1013 : n0 ≤ b1013 := Nat.le_trans Z1002 (Nat.le_of_eq g1013.symm)
  have sz_b1013 : h0.size ≤ b1013 := Nat.le_trans KK1002.1 (Nat.le_of_eq g1013.symm)
  have f1015 : Exa Z h1013 a1 "com/example/marshalyard/marshalyard/proxy/IoBuffer" := f1004.ext E1013
  have f1016 : Fld Z h1013 a1 "com/example/marshalyard/marshalyard/proxy/IoBuffer" "bytes" "[B" .null := f1005.ext E1013
  have f1017 : Fld Z h1013 a1 "com/example/marshalyard/marshalyard/proxy/IoBuffer" "start" "I" (.int (0 : Int32)) := f1006.ext E1013
  have f1018 : Fld Z h1013 a1 "com/example/marshalyard/marshalyard/proxy/IoBuffer" "end" "I" (.int (0 : Int32)) := f1007.ext E1013
  have f1019 : Fld Z h1013 a1 "com/example/marshalyard/marshalyard/proxy/IoBuffer" "base" "I" (.int (0 : Int32)) := f1008.ext E1013
  have f1020 : Fld Z h1013 a1 "com/example/marshalyard/marshalyard/proxy/IoBuffer" "added" "J" (.long (0 : Int64)) := f1009.ext E1013
  have f1021 : Fld Z h1013 a1 "com/example/marshalyard/marshalyard/proxy/IoBuffer" "taken" "J" (.long (0 : Int64)) := f1010.ext E1013
  have f1022 : Fld Z h1013 a1 "com/example/marshalyard/marshalyard/proxy/IoBuffer" "keeping" "Z" (.int (0 : Int32)) := f1011.ext E1013
  have f1023 : Fld Z h1013 a1 "com/example/marshalyard/marshalyard/proxy/IoBuffer" "budget" "Lcom/example/marshalyard/marshalyard/proxy/MemoryBudget;" (.ref a2) := f1003.ext E1013
  have KK1013 : Keep h0 h1013 [a1] := KK1002.ext E1013
  have Z1013 := Nat.le_trans Z1002 E1013.1
  have f1024 : Arv Z h1013 b1013 k1013 .byte (8 : Int32) [(.int (0 : Int32)), (.int (0 : Int32)), (.int (0 : Int32)), (.int (0 : Int32)), (.int (0 : Int32)), (.int (0 : Int32)), (.int (0 : Int32)), (.int (0 : Int32))] (.int (0 : Int32)) := (Arv.new A1013 (by decide)).pad (pad_rep [] (.int (0 : Int32)) 8)
  show OEnds p.tables e below G (T1013.setTop (mkF m 13 #[.val (.ref a1), .val (.ref a2), .val (.int (8 : Int32))] [(.ref b1013), (.ref a1)]))
  obtain ⟨T1025, h1025, X1025, e1025, W1025, st1025⟩ := putF X1013 hx hZ hown (host := "") (Or.inl (hw _ (List.mem_of_getElem? (i := 23) rfl))) Via.refl e1013 f1016 f1015 (Or.inl (hw _ (List.mem_of_getElem? (i := 24) rfl))) (hw _ (List.mem_of_getElem? (i := 3) rfl)) (ty := (.array .byte)) (by decide) rfl rfl (g := (mkF m 13 #[.val (.ref a1), .val (.ref a2), .val (.int (8 : Int32))] [(.ref b1013), (.ref a1)])) rfl rfl (hb hby d3_13)
  refine OEnds.st st1025 ?_
  have f1026 : Fld Z h1025 a1 "com/example/marshalyard/marshalyard/proxy/IoBuffer" "bytes" "[B" (.ref b1013) := f1016.same W1025
  have f1027 : Exa Z h1025 a1 "com/example/marshalyard/marshalyard/proxy/IoBuffer" := f1015.wr W1025
  have f1029 : Fld Z h1025 a1 "com/example/marshalyard/marshalyard/proxy/IoBuffer" "start" "I" (.int (0 : Int32)) := f1017.other W1025 (Or.inr (slot_ne (Or.inl (hw _ (List.mem_of_getElem? (i := 57) rfl))) (Or.inl (hw _ (List.mem_of_getElem? (i := 24) rfl))) (by decide) (t := .int) (t' := (.array .byte)) (by decide) (by decide)))
  have f1030 : Fld Z h1025 a1 "com/example/marshalyard/marshalyard/proxy/IoBuffer" "end" "I" (.int (0 : Int32)) := f1018.other W1025 (Or.inr (slot_ne (Or.inl (hw _ (List.mem_of_getElem? (i := 35) rfl))) (Or.inl (hw _ (List.mem_of_getElem? (i := 24) rfl))) (by decide) (t := .int) (t' := (.array .byte)) (by decide) (by decide)))
  have f1031 : Fld Z h1025 a1 "com/example/marshalyard/marshalyard/proxy/IoBuffer" "base" "I" (.int (0 : Int32)) := f1019.other W1025 (Or.inr (slot_ne (Or.inl (hw _ (List.mem_of_getElem? (i := 59) rfl))) (Or.inl (hw _ (List.mem_of_getElem? (i := 24) rfl))) (by decide) (t := .int) (t' := (.array .byte)) (by decide) (by decide)))
  have f1032 : Fld Z h1025 a1 "com/example/marshalyard/marshalyard/proxy/IoBuffer" "added" "J" (.long (0 : Int64)) := f1020.other W1025 (Or.inr (slot_ne (Or.inl (hw _ (List.mem_of_getElem? (i := 41) rfl))) (Or.inl (hw _ (List.mem_of_getElem? (i := 24) rfl))) (by decide) (t := .long) (t' := (.array .byte)) (by decide) (by decide)))
  have f1033 : Fld Z h1025 a1 "com/example/marshalyard/marshalyard/proxy/IoBuffer" "taken" "J" (.long (0 : Int64)) := f1021.other W1025 (Or.inr (slot_ne (Or.inl (hw _ (List.mem_of_getElem? (i := 55) rfl))) (Or.inl (hw _ (List.mem_of_getElem? (i := 24) rfl))) (by decide) (t := .long) (t' := (.array .byte)) (by decide) (by decide)))
  have f1034 : Fld Z h1025 a1 "com/example/marshalyard/marshalyard/proxy/IoBuffer" "keeping" "Z" (.int (0 : Int32)) := f1022.other W1025 (Or.inr (slot_ne (Or.inl (hw _ (List.mem_of_getElem? (i := 48) rfl))) (Or.inl (hw _ (List.mem_of_getElem? (i := 24) rfl))) (by decide) (t := .boolean) (t' := (.array .byte)) (by decide) (by decide)))
  have f1035 : Fld Z h1025 a1 "com/example/marshalyard/marshalyard/proxy/IoBuffer" "budget" "Lcom/example/marshalyard/marshalyard/proxy/MemoryBudget;" (.ref a2) := f1023.other W1025 (Or.inr (slot_ne (Or.inr (hw _ (List.mem_of_getElem? (i := 22) rfl))) (Or.inl (hw _ (List.mem_of_getElem? (i := 24) rfl))) (by decide) (t := (.object "com/example/marshalyard/marshalyard/proxy/MemoryBudget")) (t' := (.array .byte)) (by decide) (by decide)))
  have f1036 : Arv Z h1025 b1013 k1013 .byte (8 : Int32) [(.int (0 : Int32)), (.int (0 : Int32)), (.int (0 : Int32)), (.int (0 : Int32)), (.int (0 : Int32)), (.int (0 : Int32)), (.int (0 : Int32)), (.int (0 : Int32))] (.int (0 : Int32)) := f1024.other W1025 (Ne.symm ne1014)
  have N1025 := Fr.snoc X1025 N1002 g_a1
  have KK1025 : Keep h0 h1025 [a1] := KK1013.wr W1025 (Or.inl (List.mem_of_getElem? (i := 0) rfl))
  have Z1025 := Nat.le_trans Z1013 (Keep.of_wr W1025).1
  show OEnds p.tables e below G (T1025.setTop (mkF m 16 #[.val (.ref a1), .val (.ref a2), .val (.int (8 : Int32))] []))
  rw [← hG]
  refine OEnds.retV X1025 hx hlk Bd.returns (hb hby d3_16) (by decide) (by decide) ?_
  rw [e1025]
  exact ⟨b1013, k1013, rfl, N1025, KK1025, sz_b1013, f1027, f1026, f1029, f1030, f1031, f1032, f1033, f1034, f1036⟩
theorem d5_0 : decode prog_79_method_30_code 0 = .ok (.aload_n 0, 1) := by decide +kernel
theorem d5_1 : decode prog_79_method_30_code 1 = .ok (.getfield 13, 3) := by decide +kernel
theorem d5_4 : decode prog_79_method_30_code 4 = .ok (.arraylength, 1) := by decide +kernel
theorem d5_5 : decode prog_79_method_30_code 5 = .ok (.aload_n 0, 1) := by decide +kernel
theorem d5_6 : decode prog_79_method_30_code 6 = .ok (.getfield 21, 3) := by decide +kernel
theorem d5_9 : decode prog_79_method_30_code 9 = .ok (.isub, 1) := by decide +kernel
theorem d5_10 : decode prog_79_method_30_code 10 = .ok (.iload_n 1, 1) := by decide +kernel
theorem d5_11 : decode prog_79_method_30_code 11 = .ok (.if_icmp .ge 27, 3) := by decide +kernel
theorem d5_14 : decode prog_79_method_30_code 14 = .ok (.aload_n 0, 1) := by decide +kernel
theorem d5_15 : decode prog_79_method_30_code 15 = .ok (.getfield 13, 3) := by decide +kernel
theorem d5_18 : decode prog_79_method_30_code 18 = .ok (.aload_n 0, 1) := by decide +kernel
theorem d5_19 : decode prog_79_method_30_code 19 = .ok (.getfield 28, 3) := by decide +kernel
theorem d5_22 : decode prog_79_method_30_code 22 = .ok (.aload_n 0, 1) := by decide +kernel
theorem d5_23 : decode prog_79_method_30_code 23 = .ok (.getfield 13, 3) := by decide +kernel
theorem d5_26 : decode prog_79_method_30_code 26 = .ok (.iconst 0, 1) := by decide +kernel
theorem d5_27 : decode prog_79_method_30_code 27 = .ok (.aload_n 0, 1) := by decide +kernel
theorem d5_28 : decode prog_79_method_30_code 28 = .ok (.invokevirtual 24, 3) := by decide +kernel
theorem d5_31 : decode prog_79_method_30_code 31 = .ok (.invokestatic 79, 3) := by decide +kernel
theorem d5_34 : decode prog_79_method_30_code 34 = .ok (.aload_n 0, 1) := by decide +kernel
theorem d5_35 : decode prog_79_method_30_code 35 = .ok (.invokevirtual 85, 3) := by decide +kernel
theorem d5_38 : decode prog_79_method_30_code 38 = .ok (.return_, 1) := by decide +kernel
theorem ef_5 (m : MethodId) (a1 : Addr) (p2 : Int32) : entryFrame m #[(.ref a1), (.int p2)] 2 = mkF m 0 #[.val (.ref a1), .val (.int p2)] [] := by first | (simp [entryFrame, mkF, argsToLocals, Value.category]; done) | rfl
def Q5 (Z : State) (a1 : Addr) (p2 : Int32) (a3 : Addr) (k : ClassId) (z : Int32) (vs : List Value) (d : Value) (e1 : Int32) (h0 : Heap) (n0 : Nat) (v : Option Value) (h : Heap) (L : List Loc) : Prop := v = none ∧ Fr n0 L ∧ h = h0
set_option maxRecDepth 65536 in
set_option maxHeartbeats 40000000 in
theorem rm5 (l : Launch) (Z : State) (a0 : Array Value) (hw : ∀ d ∈ tables_1, d.before a0 Z = true) (ws : List Jvm.Cond) (a1 : Addr) (p2 : Int32) (a3 : Addr) (k : ClassId) (z : Int32) (vs : List Value) (d : Value) (e1 : Int32) (h0 : Heap) (n0 : Nat) (Z0 : n0 ≤ h0.size) (Fby : Fld Z h0 a1 "com/example/marshalyard/marshalyard/proxy/IoBuffer" "bytes" "[B" (.ref a3)) (Fen : Fld Z h0 a1 "com/example/marshalyard/marshalyard/proxy/IoBuffer" "end" "I" (.int e1)) (V : Arv Z h0 a3 k .byte z vs d) (hroom : ¬ ((z - e1) < p2)) :
    MetFree l (⟨"com/example/marshalyard/marshalyard/proxy/IoBuffer", "makeRoom", "(I)V"⟩ : MethodName) (head1 (Jvm.Cond.code (⟨"com/example/marshalyard/marshalyard/proxy/IoBuffer", "makeRoom", "(I)V"⟩ : MethodName) prog_79_method_30_code 2 none :: ws) ({ frames := 0, cells := 0, slots := 0, locals := 0 } : Room)) (fun a U => a = #[(.ref a1), (.int p2)] ∧ Z.Warmed39 U.vm ∧ U.heap = h0) (fun _ _ _ _ _ => True) (fun _ U o U' => ∃ v L, o = .returned v ∧ Q5 Z a1 p2 a3 k z vs d e1 h0 n0 v U'.heap L ∧ FrameEnd U o U' L ({ frames := 0, cells := 0, slots := 0, locals := 0 } : Room).cells ({ frames := 0, cells := 0, slots := 0, locals := 0 } : Room).slots) := by
  refine MetFree.of_bodySF (plainFor_of_name pn_1) hisR ?_
  intro p e s m args below meth c s₁ Bd hml0 hP hK
  obtain ⟨rfl, hZ, hh⟩ := hP
  have hx := Bd.exec
  have hby := Bd.bytes
  have hml : c.maxLocals = 2 := hml0
  have hown : s.vm.findClass "com/example/marshalyard/marshalyard/proxy/IoBuffer" = some m.cls := findClass_of_methodNamed Bd.named
  have hnm := (name_of_methodNamed Bd.named Bd.method).1
  have hlk : meth.locks = false := BodyLoose.notSynchronized Bd
  have X0 : Stand p l e ({ frames := 0, cells := 0, slots := 0, locals := 0 } : Room) s m #[(.ref a1), (.int p2)] below meth c s₁ [] 0 0 := Stand.of_body Bd
  have e0 : s₁.heap = h0 := by rw [← hh, Bd.state]; rfl
  have N0 := Fr.nil n0
  show OEnds p.tables e below (OGoal (Q5 Z a1 p2 a3 k z vs d e1 h0 n0) s 0 0) (s₁.setTop (entryFrame m #[(.ref a1), (.int p2)] 2))
  refine OEnds.st (fun t k => castTop (ef_5 m a1 p2) k) ?_
  generalize hG : OGoal (Q5 Z a1 p2 a3 k z vs d e1 h0 n0) s 0 0 = G
  have KK0 : Keep h0 h0 [] := Keep.refl h0 []
  show OEnds p.tables e below G (s₁.setTop (mkF m 0 #[.val (.ref a1), .val (.int p2)] []))
  refine OEnds.st (fun _ k => XS.aloadN X0.here hx rfl (hb hby d5_0) rfl rfl k) ?_
  show OEnds p.tables e below G (s₁.setTop (mkF m 1 #[.val (.ref a1), .val (.int p2)] [(.ref a1)]))
  obtain ⟨T1001, X1001, e1001, st1001⟩ := getF X0 hx hZ hown (host := "") (Or.inl (hw _ (List.mem_of_getElem? (i := 23) rfl))) Via.refl e0 Fby (g := (mkF m 1 #[.val (.ref a1), .val (.int p2)] [(.ref a1)])) rfl rfl (hb hby d5_1)
  refine OEnds.st st1001 ?_
  show OEnds p.tables e below G (T1001.setTop (mkF m 4 #[.val (.ref a1), .val (.int p2)] [(.ref a3)]))
  obtain ⟨cl1002, Ar1002, -, S1002, N1002n, -, -⟩ := id V
  refine OEnds.st (X1001.arraylength hx (by rw [e1001]; exact Ar1002.1) (State.isArrayOf_alike hZ.alike Ar1002.2.1) (g := (mkF m 4 #[.val (.ref a1), .val (.int p2)] [(.ref a3)])) rfl rfl (hb hby d5_4)) ?_
  rw [len_of S1002 N1002n]
  show OEnds p.tables e below G (T1001.setTop (mkF m 5 #[.val (.ref a1), .val (.int p2)] [(.int z)]))
  refine OEnds.st (fun _ k => XS.aloadN X1001.here hx rfl (hb hby d5_5) rfl rfl k) ?_
  show OEnds p.tables e below G (T1001.setTop (mkF m 6 #[.val (.ref a1), .val (.int p2)] [(.ref a1), (.int z)]))
  obtain ⟨T1003, X1003, e1003, st1003⟩ := getF X1001 hx hZ hown (host := "") (Or.inl (hw _ (List.mem_of_getElem? (i := 34) rfl))) Via.refl e1001 Fen (g := (mkF m 6 #[.val (.ref a1), .val (.int p2)] [(.ref a1), (.int z)])) rfl rfl (hb hby d5_6)
  refine OEnds.st st1003 ?_
  show OEnds p.tables e below G (T1003.setTop (mkF m 9 #[.val (.ref a1), .val (.int p2)] [(.int e1), (.int z)]))
  refine OEnds.st (fun _ k => XS.isub X1003.here hx rfl (hb hby d5_9) rfl k) ?_
  show OEnds p.tables e below G (T1003.setTop (mkF m 10 #[.val (.ref a1), .val (.int p2)] [(.int (z - e1))]))
  refine OEnds.st (fun _ k => XS.iloadN X1003.here hx rfl (hb hby d5_10) rfl k) ?_
  show OEnds p.tables e below G (T1003.setTop (mkF m 11 #[.val (.ref a1), .val (.int p2)] [(.int p2), (.int (z - e1))]))
  refine OEnds.st (fun _ k => XS.icmpYes X1003.here hx rfl (pc0 := 11) (pc' := 38) rfl (hb hby d5_11) rfl (flt hroom).2.1 (by decide) (by decide) k) ?_
  show OEnds p.tables e below G (T1003.setTop (mkF m 38 #[.val (.ref a1), .val (.int p2)] []))
  rw [← hG]
  refine OEnds.retV X1003 hx hlk Bd.returns (hb hby d5_38) (by decide) (by decide) ?_
  rw [e1003]
  exact ⟨rfl, N0, rfl⟩
theorem d4_0 : decode prog_79_method_28_code 0 = .ok (.aload_n 0, 1) := by decide +kernel
theorem d4_1 : decode prog_79_method_28_code 1 = .ok (.iload_n 3, 1) := by decide +kernel
theorem d4_2 : decode prog_79_method_28_code 2 = .ok (.invokevirtual 88, 3) := by decide +kernel
theorem d4_5 : decode prog_79_method_28_code 5 = .ok (.aload_n 1, 1) := by decide +kernel
theorem d4_6 : decode prog_79_method_28_code 6 = .ok (.iload_n 2, 1) := by decide +kernel
theorem d4_7 : decode prog_79_method_28_code 7 = .ok (.aload_n 0, 1) := by decide +kernel
theorem d4_8 : decode prog_79_method_28_code 8 = .ok (.getfield 13, 3) := by decide +kernel
theorem d4_11 : decode prog_79_method_28_code 11 = .ok (.aload_n 0, 1) := by decide +kernel
theorem d4_12 : decode prog_79_method_28_code 12 = .ok (.getfield 21, 3) := by decide +kernel
theorem d4_15 : decode prog_79_method_28_code 15 = .ok (.iload_n 3, 1) := by decide +kernel
theorem d4_16 : decode prog_79_method_28_code 16 = .ok (.invokestatic 79, 3) := by decide +kernel
theorem d4_19 : decode prog_79_method_28_code 19 = .ok (.aload_n 0, 1) := by decide +kernel
theorem d4_20 : decode prog_79_method_28_code 20 = .ok (.dup, 1) := by decide +kernel
theorem d4_21 : decode prog_79_method_28_code 21 = .ok (.getfield 21, 3) := by decide +kernel
theorem d4_24 : decode prog_79_method_28_code 24 = .ok (.iload_n 3, 1) := by decide +kernel
theorem d4_25 : decode prog_79_method_28_code 25 = .ok (.iadd, 1) := by decide +kernel
theorem d4_26 : decode prog_79_method_28_code 26 = .ok (.putfield 21, 3) := by decide +kernel
theorem d4_29 : decode prog_79_method_28_code 29 = .ok (.aload_n 0, 1) := by decide +kernel
theorem d4_30 : decode prog_79_method_28_code 30 = .ok (.dup, 1) := by decide +kernel
theorem d4_31 : decode prog_79_method_28_code 31 = .ok (.getfield 31, 3) := by decide +kernel
theorem d4_34 : decode prog_79_method_28_code 34 = .ok (.iload_n 3, 1) := by decide +kernel
theorem d4_35 : decode prog_79_method_28_code 35 = .ok (.i2l, 1) := by decide +kernel
theorem d4_36 : decode prog_79_method_28_code 36 = .ok (.ladd, 1) := by decide +kernel
theorem d4_37 : decode prog_79_method_28_code 37 = .ok (.putfield 31, 3) := by decide +kernel
theorem d4_40 : decode prog_79_method_28_code 40 = .ok (.return_, 1) := by decide +kernel
theorem ef_4 (m : MethodId) (a1 : Addr) (a2 : Addr) (p4 : Int32) : entryFrame m #[(.ref a1), (.ref a2), (.int (0 : Int32)), (.int p4)] 4 = mkF m 0 #[.val (.ref a1), .val (.ref a2), .val (.int (0 : Int32)), .val (.int p4)] [] := by first | (simp [entryFrame, mkF, argsToLocals, Value.category]; done) | rfl
def Q4 (Z : State) (a1 : Addr) (a2 : Addr) (p4 : Int32) (a3 : Addr) (k2 : ClassId) (k3 : ClassId) (h0 : Heap) (n0 : Nat) (v : Option Value) (h : Heap) (L : List Loc) : Prop := v = none ∧ Fr n0 L ∧ Keep h0 h [a1, a3] ∧ Exa Z h a1 "com/example/marshalyard/marshalyard/proxy/IoBuffer" ∧ Fld Z h a1 "com/example/marshalyard/marshalyard/proxy/IoBuffer" "bytes" "[B" (.ref a3) ∧ Fld Z h a1 "com/example/marshalyard/marshalyard/proxy/IoBuffer" "start" "I" (.int (0 : Int32)) ∧ Fld Z h a1 "com/example/marshalyard/marshalyard/proxy/IoBuffer" "end" "I" (.int ((0 : Int32) + p4)) ∧ Fld Z h a1 "com/example/marshalyard/marshalyard/proxy/IoBuffer" "base" "I" (.int (0 : Int32)) ∧ Fld Z h a1 "com/example/marshalyard/marshalyard/proxy/IoBuffer" "added" "J" (.long ((0 : Int64) + (p4.toInt64))) ∧ Fld Z h a1 "com/example/marshalyard/marshalyard/proxy/IoBuffer" "taken" "J" (.long (0 : Int64)) ∧ Fld Z h a1 "com/example/marshalyard/marshalyard/proxy/IoBuffer" "keeping" "Z" (.int (0 : Int32))
theorem pd_0 : parseMethodDescriptor "(I)V" = some ⟨[.int], none⟩ := by decide +kernel
set_option maxRecDepth 65536 in
set_option maxHeartbeats 40000000 in
theorem rm4 (l : Launch) (Z : State) (a0 : Array Value) (hw : ∀ d ∈ tables_1, d.before a0 Z = true) (ws : List Jvm.Cond) (a1 : Addr) (a2 : Addr) (p4 : Int32) (a3 : Addr) (k2 : ClassId) (k3 : ClassId) (h0 : Heap) (n0 : Nat) (Z0 : n0 ≤ h0.size) (Ea1 : Exa Z h0 a1 "com/example/marshalyard/marshalyard/proxy/IoBuffer") (Fby : Fld Z h0 a1 "com/example/marshalyard/marshalyard/proxy/IoBuffer" "bytes" "[B" (.ref a3)) (Fst : Fld Z h0 a1 "com/example/marshalyard/marshalyard/proxy/IoBuffer" "start" "I" (.int (0 : Int32))) (Fen : Fld Z h0 a1 "com/example/marshalyard/marshalyard/proxy/IoBuffer" "end" "I" (.int (0 : Int32))) (Fba : Fld Z h0 a1 "com/example/marshalyard/marshalyard/proxy/IoBuffer" "base" "I" (.int (0 : Int32))) (Fad : Fld Z h0 a1 "com/example/marshalyard/marshalyard/proxy/IoBuffer" "added" "J" (.long (0 : Int64))) (Fta : Fld Z h0 a1 "com/example/marshalyard/marshalyard/proxy/IoBuffer" "taken" "J" (.long (0 : Int64))) (Fke : Fld Z h0 a1 "com/example/marshalyard/marshalyard/proxy/IoBuffer" "keeping" "Z" (.int (0 : Int32))) (V3 : Arv Z h0 a3 k3 .byte (8 : Int32) [(.int (0 : Int32)), (.int (0 : Int32)), (.int (0 : Int32)), (.int (0 : Int32)), (.int (0 : Int32)), (.int (0 : Int32)), (.int (0 : Int32)), (.int (0 : Int32))] (.int (0 : Int32))) (V2 : Arv Z h0 a2 k2 .byte (8 : Int32) [(.int (0 : Int32)), (.int (0 : Int32)), (.int (0 : Int32)), (.int (0 : Int32)), (.int (0 : Int32)), (.int (0 : Int32)), (.int (0 : Int32)), (.int (0 : Int32))] (.int (0 : Int32))) (g_a1 : n0 ≤ a1) (g_a3 : n0 ≤ a3) (n12 : a2 ≠ a1) (n13 : a1 ≠ a3) (n23 : a2 ≠ a3) (hlo : 0 ≤ p4.toInt ∧ p4.toInt ≤ 8) :
    MetFree l (⟨"com/example/marshalyard/marshalyard/proxy/IoBuffer", "put", "([BII)V"⟩ : MethodName) (head1 (Jvm.Cond.code (⟨"com/example/marshalyard/marshalyard/proxy/IoBuffer", "put", "([BII)V"⟩ : MethodName) prog_79_method_28_code 4 none :: ws) ({ frames := 1, cells := 0, slots := 0, locals := 18 } : Room)) (fun a U => a = #[(.ref a1), (.ref a2), (.int (0 : Int32)), (.int p4)] ∧ Z.Warmed39 U.vm ∧ U.heap = h0) (fun _ _ _ _ _ => True) (fun _ U o U' => ∃ v L, o = .returned v ∧ Q4 Z a1 a2 p4 a3 k2 k3 h0 n0 v U'.heap L ∧ FrameEnd U o U' L ({ frames := 1, cells := 0, slots := 0, locals := 18 } : Room).cells ({ frames := 1, cells := 0, slots := 0, locals := 18 } : Room).slots) := by
  refine MetFree.of_bodySF (plainFor_of_name pn_1) hisR ?_
  intro p e s m args below meth c s₁ Bd hml0 hP hK
  obtain ⟨rfl, hZ, hh⟩ := hP
  have hx := Bd.exec
  have hby := Bd.bytes
  have hml : c.maxLocals = 4 := hml0
  have hown : s.vm.findClass "com/example/marshalyard/marshalyard/proxy/IoBuffer" = some m.cls := findClass_of_methodNamed Bd.named
  have hnm := (name_of_methodNamed Bd.named Bd.method).1
  have hlk : meth.locks = false := BodyLoose.notSynchronized Bd
  have X0 : Stand p l e ({ frames := 1, cells := 0, slots := 0, locals := 18 } : Room) s m #[(.ref a1), (.ref a2), (.int (0 : Int32)), (.int p4)] below meth c s₁ [] 0 0 := Stand.of_body Bd
  have e0 : s₁.heap = h0 := by rw [← hh, Bd.state]; rfl
  have N0 := Fr.nil n0
  show OEnds p.tables e below (OGoal (Q4 Z a1 a2 p4 a3 k2 k3 h0 n0) s 0 0) (s₁.setTop (entryFrame m #[(.ref a1), (.ref a2), (.int (0 : Int32)), (.int p4)] 4))
  refine OEnds.st (fun t k => castTop (ef_4 m a1 a2 p4) k) ?_
  generalize hG : OGoal (Q4 Z a1 a2 p4 a3 k2 k3 h0 n0) s 0 0 = G
  have KK0 : Keep h0 h0 [a1, a3] := Keep.refl h0 [a1, a3]
  show OEnds p.tables e below G (s₁.setTop (mkF m 0 #[.val (.ref a1), .val (.ref a2), .val (.int (0 : Int32)), .val (.int p4)] []))
  refine OEnds.st (fun _ k => XS.aloadN X0.here hx rfl (hb hby d4_0) rfl rfl k) ?_
  show OEnds p.tables e below G (s₁.setTop (mkF m 1 #[.val (.ref a1), .val (.ref a2), .val (.int (0 : Int32)), .val (.int p4)] [(.ref a1)]))
  refine OEnds.st (fun _ k => XS.iloadN X0.here hx rfl (hb hby d4_1) rfl k) ?_
  show OEnds p.tables e below G (s₁.setTop (mkF m 2 #[.val (.ref a1), .val (.ref a2), .val (.int (0 : Int32)), .val (.int p4)] [(.int p4), (.ref a1)]))
  obtain ⟨cq1001, q1001, q1001'⟩ := Ea1.cell
  obtain ⟨_, _, ⟨T1001, L1001, k1001c, n1001c⟩, -, X1001, ⟨Lc1001, hQ1001, l1001, y1001, z1001⟩, st1001⟩ := X0.privateBack hx (y := (⟨"com/example/marshalyard/marshalyard/proxy/IoBuffer", "makeRoom", "(I)V"⟩ : MethodName)) hown (mvT hZ (hw _ (List.mem_of_getElem? (i := 30) rfl))) (mvT hZ (hw _ (List.mem_of_getElem? (i := 31) rfl))) (own_selP (y := (⟨"com/example/marshalyard/marshalyard/proxy/IoBuffer", "makeRoom", "(I)V"⟩ : MethodName)) (mvT hZ (hw _ (List.mem_of_getElem? (i := 3) rfl))) (mvP hZ (hw _ (List.mem_of_getElem? (i := 32) rfl))) (mvT hZ (hw _ (List.mem_of_getElem? (i := 31) rfl))) (by decide)) (Cond.privateMethod_at (mvP hZ (hw _ (List.mem_of_getElem? (i := 32) rfl)) (args := #[]))) (mvT hZ (hw _ (List.mem_of_getElem? (i := 33) rfl))) (by decide) (backOf (W := 0) (rm5 l Z a0 hw [] a1 p4 a3 k3 (8 : Int32) ([(.int (0 : Int32)), (.int (0 : Int32)), (.int (0 : Int32)), (.int (0 : Int32)), (.int (0 : Int32)), (.int (0 : Int32)), (.int (0 : Int32)), (.int (0 : Int32))]) (.int (0 : Int32)) (0 : Int32) h0 n0 Z0 Fby Fen V3 (own_room _ hlo)) hZ (hw _ (List.mem_of_getElem? (i := 33) rfl)) (hw _ (List.mem_of_getElem? (i := 4) rfl)) (by decide) (by decide)) (g := (mkF m 2 #[.val (.ref a1), .val (.ref a2), .val (.int (0 : Int32)), .val (.int p4)] [(.int p4), (.ref a1)])) rfl (by rw [hml]; rfl) (Steps.refl _) (a := a1) (by rw [e0]; exact q1001) q1001' (argsL := [(.int p4)]) (rest := []) (lenOf pd_0 rfl) rfl (by show 2 * 0 + _ ≤ _; exact Nat.le_of_eq rfl) (hb hby d4_2) (fun _ _ => ⟨rfl, e0, (by decide : 0 + 0 ≤ _), (by decide : 0 + 0 ≤ _)⟩)
  dsimp only [Pt.U, Pt.locs, Pt.cells, Pt.slots] at X1001 l1001 y1001 z1001 st1001 hQ1001
  subst l1001 y1001 z1001
  obtain ⟨rfl, N1001q, e1001⟩ := hQ1001
  have N1001 := Fr.app N0 N1001q
  refine OEnds.st (fun _ k => st1001.trans k) ?_
  show OEnds p.tables e below G (T1001.setTop (mkF m 5 #[.val (.ref a1), .val (.ref a2), .val (.int (0 : Int32)), .val (.int p4)] []))
  refine OEnds.st (fun _ k => XS.aloadN X1001.here hx rfl (hb hby d4_5) rfl rfl k) ?_
  show OEnds p.tables e below G (T1001.setTop (mkF m 6 #[.val (.ref a1), .val (.ref a2), .val (.int (0 : Int32)), .val (.int p4)] [(.ref a2)]))
  refine OEnds.st (fun _ k => XS.iloadN X1001.here hx rfl (hb hby d4_6) rfl k) ?_
  show OEnds p.tables e below G (T1001.setTop (mkF m 7 #[.val (.ref a1), .val (.ref a2), .val (.int (0 : Int32)), .val (.int p4)] [(.int (0 : Int32)), (.ref a2)]))
  refine OEnds.st (fun _ k => XS.aloadN X1001.here hx rfl (hb hby d4_7) rfl rfl k) ?_
  show OEnds p.tables e below G (T1001.setTop (mkF m 8 #[.val (.ref a1), .val (.ref a2), .val (.int (0 : Int32)), .val (.int p4)] [(.ref a1), (.int (0 : Int32)), (.ref a2)]))
  obtain ⟨T1002, X1002, e1002, st1002⟩ := getF X1001 hx hZ hown (host := "") (Or.inl (hw _ (List.mem_of_getElem? (i := 23) rfl))) Via.refl e1001 Fby (g := (mkF m 8 #[.val (.ref a1), .val (.ref a2), .val (.int (0 : Int32)), .val (.int p4)] [(.ref a1), (.int (0 : Int32)), (.ref a2)])) rfl rfl (hb hby d4_8)
  refine OEnds.st st1002 ?_
  show OEnds p.tables e below G (T1002.setTop (mkF m 11 #[.val (.ref a1), .val (.ref a2), .val (.int (0 : Int32)), .val (.int p4)] [(.ref a3), (.int (0 : Int32)), (.ref a2)]))
  refine OEnds.st (fun _ k => XS.aloadN X1002.here hx rfl (hb hby d4_11) rfl rfl k) ?_
  show OEnds p.tables e below G (T1002.setTop (mkF m 12 #[.val (.ref a1), .val (.ref a2), .val (.int (0 : Int32)), .val (.int p4)] [(.ref a1), (.ref a3), (.int (0 : Int32)), (.ref a2)]))
  obtain ⟨T1003, X1003, e1003, st1003⟩ := getF X1002 hx hZ hown (host := "") (Or.inl (hw _ (List.mem_of_getElem? (i := 34) rfl))) Via.refl e1002 Fen (g := (mkF m 12 #[.val (.ref a1), .val (.ref a2), .val (.int (0 : Int32)), .val (.int p4)] [(.ref a1), (.ref a3), (.int (0 : Int32)), (.ref a2)])) rfl rfl (hb hby d4_12)
  refine OEnds.st st1003 ?_
  show OEnds p.tables e below G (T1003.setTop (mkF m 15 #[.val (.ref a1), .val (.ref a2), .val (.int (0 : Int32)), .val (.int p4)] [(.int (0 : Int32)), (.ref a3), (.int (0 : Int32)), (.ref a2)]))
  refine OEnds.st (fun _ k => XS.iloadN X1003.here hx rfl (hb hby d4_15) rfl k) ?_
  show OEnds p.tables e below G (T1003.setTop (mkF m 16 #[.val (.ref a1), .val (.ref a2), .val (.int (0 : Int32)), .val (.int p4)] [(.int p4), (.int (0 : Int32)), (.ref a3), (.int (0 : Int32)), (.ref a2)]))
  obtain ⟨T1005, h1005, L1005, X1005, e1005, N1005, K1005, V1005, st1005⟩ := cpA X1003 hx hZ hown (hw _ (List.mem_of_getElem? (i := 36) rfl)) (hw _ (List.mem_of_getElem? (i := 39) rfl)) (hw _ (List.mem_of_getElem? (i := 37) rfl)) (hw _ (List.mem_of_getElem? (i := 38) rfl)) e1003 V2 V3 (Or.inl ⟨rfl, rfl⟩) (by decide) (by decide) (own_cp1 _ hlo) (own_cp2 _ hlo) (own_cp2 _ hlo) rfl (own_cp2 _ hlo) N1001 g_a3 (g := (mkF m 16 #[.val (.ref a1), .val (.ref a2), .val (.int (0 : Int32)), .val (.int p4)] [(.int p4), (.int (0 : Int32)), (.ref a3), (.int (0 : Int32)), (.ref a2)])) rfl (by rw [hml]; rfl) rfl (hb hby d4_16) (by decide) (W := 0) (by show 2 * 0 + _ ≤ _; exact Nat.le_of_eq rfl) (by decide)
  refine OEnds.st st1005 ?_
  have f1006 : Exa Z h1005 a1 "com/example/marshalyard/marshalyard/proxy/IoBuffer" := Ea1.keep K1005
  have f1007 : Fld Z h1005 a1 "com/example/marshalyard/marshalyard/proxy/IoBuffer" "bytes" "[B" (.ref a3) := Fby.keep K1005 (by simp only [List.mem_cons, List.not_mem_nil, or_false, not_or]; exact n13)
  have f1008 : Fld Z h1005 a1 "com/example/marshalyard/marshalyard/proxy/IoBuffer" "start" "I" (.int (0 : Int32)) := Fst.keep K1005 (by simp only [List.mem_cons, List.not_mem_nil, or_false, not_or]; exact n13)
  have f1009 : Fld Z h1005 a1 "com/example/marshalyard/marshalyard/proxy/IoBuffer" "end" "I" (.int (0 : Int32)) := Fen.keep K1005 (by simp only [List.mem_cons, List.not_mem_nil, or_false, not_or]; exact n13)
  have f1010 : Fld Z h1005 a1 "com/example/marshalyard/marshalyard/proxy/IoBuffer" "base" "I" (.int (0 : Int32)) := Fba.keep K1005 (by simp only [List.mem_cons, List.not_mem_nil, or_false, not_or]; exact n13)
  have f1011 : Fld Z h1005 a1 "com/example/marshalyard/marshalyard/proxy/IoBuffer" "added" "J" (.long (0 : Int64)) := Fad.keep K1005 (by simp only [List.mem_cons, List.not_mem_nil, or_false, not_or]; exact n13)
  have f1012 : Fld Z h1005 a1 "com/example/marshalyard/marshalyard/proxy/IoBuffer" "taken" "J" (.long (0 : Int64)) := Fta.keep K1005 (by simp only [List.mem_cons, List.not_mem_nil, or_false, not_or]; exact n13)
  have f1013 : Fld Z h1005 a1 "com/example/marshalyard/marshalyard/proxy/IoBuffer" "keeping" "Z" (.int (0 : Int32)) := Fke.keep K1005 (by simp only [List.mem_cons, List.not_mem_nil, or_false, not_or]; exact n13)
  have f1014 : Arv Z h1005 a2 k2 .byte (8 : Int32) [(.int (0 : Int32)), (.int (0 : Int32)), (.int (0 : Int32)), (.int (0 : Int32)), (.int (0 : Int32)), (.int (0 : Int32)), (.int (0 : Int32)), (.int (0 : Int32))] (.int (0 : Int32)) := V2.keep K1005 (by simp only [List.mem_cons, List.not_mem_nil, or_false, not_or]; exact n23)
  have KK1005 : Keep h0 h1005 [a1, a3] := KK0.trans K1005 (fun x hx => by cases List.mem_singleton.mp hx; exact Or.inl (List.mem_of_getElem? (i := 1) rfl))
  have Z1005 := Nat.le_trans Z0 K1005.1
  show OEnds p.tables e below G (T1005.setTop (mkF m 19 #[.val (.ref a1), .val (.ref a2), .val (.int (0 : Int32)), .val (.int p4)] []))
  refine OEnds.st (fun _ k => XS.aloadN X1005.here hx rfl (hb hby d4_19) rfl rfl k) ?_
  show OEnds p.tables e below G (T1005.setTop (mkF m 20 #[.val (.ref a1), .val (.ref a2), .val (.int (0 : Int32)), .val (.int p4)] [(.ref a1)]))
  refine OEnds.st (fun _ k => XS.dup X1005.here hx rfl (hb hby d4_20) rfl rfl k) ?_
  show OEnds p.tables e below G (T1005.setTop (mkF m 21 #[.val (.ref a1), .val (.ref a2), .val (.int (0 : Int32)), .val (.int p4)] [(.ref a1), (.ref a1)]))
  obtain ⟨T1015, X1015, e1015, st1015⟩ := getF X1005 hx hZ hown (host := "") (Or.inl (hw _ (List.mem_of_getElem? (i := 34) rfl))) Via.refl e1005 f1009 (g := (mkF m 21 #[.val (.ref a1), .val (.ref a2), .val (.int (0 : Int32)), .val (.int p4)] [(.ref a1), (.ref a1)])) rfl rfl (hb hby d4_21)
  refine OEnds.st st1015 ?_
  show OEnds p.tables e below G (T1015.setTop (mkF m 24 #[.val (.ref a1), .val (.ref a2), .val (.int (0 : Int32)), .val (.int p4)] [(.int (0 : Int32)), (.ref a1)]))
  refine OEnds.st (fun _ k => XS.iloadN X1015.here hx rfl (hb hby d4_24) rfl k) ?_
  show OEnds p.tables e below G (T1015.setTop (mkF m 25 #[.val (.ref a1), .val (.ref a2), .val (.int (0 : Int32)), .val (.int p4)] [(.int p4), (.int (0 : Int32)), (.ref a1)]))
  refine OEnds.st (fun _ k => XS.iadd X1015.here hx rfl (hb hby d4_25) rfl k) ?_
  show OEnds p.tables e below G (T1015.setTop (mkF m 26 #[.val (.ref a1), .val (.ref a2), .val (.int (0 : Int32)), .val (.int p4)] [(.int ((0 : Int32) + p4)), (.ref a1)]))
  obtain ⟨T1016, h1016, X1016, e1016, W1016, st1016⟩ := putF X1015 hx hZ hown (host := "") (Or.inl (hw _ (List.mem_of_getElem? (i := 34) rfl))) Via.refl e1015 f1009 f1006 (Or.inl (hw _ (List.mem_of_getElem? (i := 35) rfl))) (hw _ (List.mem_of_getElem? (i := 3) rfl)) (ty := .int) (by decide) rfl rfl (g := (mkF m 26 #[.val (.ref a1), .val (.ref a2), .val (.int (0 : Int32)), .val (.int p4)] [(.int ((0 : Int32) + p4)), (.ref a1)])) rfl rfl (hb hby d4_26)
  refine OEnds.st st1016 ?_
  have f1017 : Fld Z h1016 a1 "com/example/marshalyard/marshalyard/proxy/IoBuffer" "end" "I" (.int ((0 : Int32) + p4)) := f1009.same W1016
  have f1018 : Exa Z h1016 a1 "com/example/marshalyard/marshalyard/proxy/IoBuffer" := f1006.wr W1016
  have f1019 : Fld Z h1016 a1 "com/example/marshalyard/marshalyard/proxy/IoBuffer" "bytes" "[B" (.ref a3) := f1007.other W1016 (Or.inr (slot_ne (Or.inl (hw _ (List.mem_of_getElem? (i := 24) rfl))) (Or.inl (hw _ (List.mem_of_getElem? (i := 35) rfl))) (by decide) (t := (.array .byte)) (t' := .int) (by decide) (by decide)))
  have f1020 : Fld Z h1016 a1 "com/example/marshalyard/marshalyard/proxy/IoBuffer" "start" "I" (.int (0 : Int32)) := f1008.other W1016 (Or.inr (slot_ne (Or.inl (hw _ (List.mem_of_getElem? (i := 57) rfl))) (Or.inl (hw _ (List.mem_of_getElem? (i := 35) rfl))) (by decide) (t := .int) (t' := .int) (by decide) (by decide)))
  have f1022 : Fld Z h1016 a1 "com/example/marshalyard/marshalyard/proxy/IoBuffer" "base" "I" (.int (0 : Int32)) := f1010.other W1016 (Or.inr (slot_ne (Or.inl (hw _ (List.mem_of_getElem? (i := 59) rfl))) (Or.inl (hw _ (List.mem_of_getElem? (i := 35) rfl))) (by decide) (t := .int) (t' := .int) (by decide) (by decide)))
  have f1023 : Fld Z h1016 a1 "com/example/marshalyard/marshalyard/proxy/IoBuffer" "added" "J" (.long (0 : Int64)) := f1011.other W1016 (Or.inr (slot_ne (Or.inl (hw _ (List.mem_of_getElem? (i := 41) rfl))) (Or.inl (hw _ (List.mem_of_getElem? (i := 35) rfl))) (by decide) (t := .long) (t' := .int) (by decide) (by decide)))
  have f1024 : Fld Z h1016 a1 "com/example/marshalyard/marshalyard/proxy/IoBuffer" "taken" "J" (.long (0 : Int64)) := f1012.other W1016 (Or.inr (slot_ne (Or.inl (hw _ (List.mem_of_getElem? (i := 55) rfl))) (Or.inl (hw _ (List.mem_of_getElem? (i := 35) rfl))) (by decide) (t := .long) (t' := .int) (by decide) (by decide)))
  have f1025 : Fld Z h1016 a1 "com/example/marshalyard/marshalyard/proxy/IoBuffer" "keeping" "Z" (.int (0 : Int32)) := f1013.other W1016 (Or.inr (slot_ne (Or.inl (hw _ (List.mem_of_getElem? (i := 48) rfl))) (Or.inl (hw _ (List.mem_of_getElem? (i := 35) rfl))) (by decide) (t := .boolean) (t' := .int) (by decide) (by decide)))
  have f1026 : Arv Z h1016 a2 k2 .byte (8 : Int32) [(.int (0 : Int32)), (.int (0 : Int32)), (.int (0 : Int32)), (.int (0 : Int32)), (.int (0 : Int32)), (.int (0 : Int32)), (.int (0 : Int32)), (.int (0 : Int32))] (.int (0 : Int32)) := f1014.other W1016 n12
  have N1016 := Fr.snoc X1016 N1005 g_a1
  have KK1016 : Keep h0 h1016 [a1, a3] := KK1005.wr W1016 (Or.inl (List.mem_of_getElem? (i := 0) rfl))
  have Z1016 := Nat.le_trans Z1005 (Keep.of_wr W1016).1
  show OEnds p.tables e below G (T1016.setTop (mkF m 29 #[.val (.ref a1), .val (.ref a2), .val (.int (0 : Int32)), .val (.int p4)] []))
  refine OEnds.st (fun _ k => XS.aloadN X1016.here hx rfl (hb hby d4_29) rfl rfl k) ?_
  show OEnds p.tables e below G (T1016.setTop (mkF m 30 #[.val (.ref a1), .val (.ref a2), .val (.int (0 : Int32)), .val (.int p4)] [(.ref a1)]))
  refine OEnds.st (fun _ k => XS.dup X1016.here hx rfl (hb hby d4_30) rfl rfl k) ?_
  show OEnds p.tables e below G (T1016.setTop (mkF m 31 #[.val (.ref a1), .val (.ref a2), .val (.int (0 : Int32)), .val (.int p4)] [(.ref a1), (.ref a1)]))
  obtain ⟨T1027, X1027, e1027, st1027⟩ := getF X1016 hx hZ hown (host := "") (Or.inl (hw _ (List.mem_of_getElem? (i := 40) rfl))) Via.refl e1016 f1023 (g := (mkF m 31 #[.val (.ref a1), .val (.ref a2), .val (.int (0 : Int32)), .val (.int p4)] [(.ref a1), (.ref a1)])) rfl rfl (hb hby d4_31)
  refine OEnds.st st1027 ?_
  show OEnds p.tables e below G (T1027.setTop (mkF m 34 #[.val (.ref a1), .val (.ref a2), .val (.int (0 : Int32)), .val (.int p4)] [(.long (0 : Int64)), (.ref a1)]))
  refine OEnds.st (fun _ k => XS.iloadN X1027.here hx rfl (hb hby d4_34) rfl k) ?_
  show OEnds p.tables e below G (T1027.setTop (mkF m 35 #[.val (.ref a1), .val (.ref a2), .val (.int (0 : Int32)), .val (.int p4)] [(.int p4), (.long (0 : Int64)), (.ref a1)]))
  refine OEnds.st (fun _ k => XS.i2l X1027.here hx rfl (hb hby d4_35) rfl k) ?_
  show OEnds p.tables e below G (T1027.setTop (mkF m 36 #[.val (.ref a1), .val (.ref a2), .val (.int (0 : Int32)), .val (.int p4)] [(.long (p4.toInt64)), (.long (0 : Int64)), (.ref a1)]))
  refine OEnds.st (fun _ k => XS.ladd X1027.here hx rfl (hb hby d4_36) rfl k) ?_
  show OEnds p.tables e below G (T1027.setTop (mkF m 37 #[.val (.ref a1), .val (.ref a2), .val (.int (0 : Int32)), .val (.int p4)] [(.long ((0 : Int64) + (p4.toInt64))), (.ref a1)]))
  obtain ⟨T1028, h1028, X1028, e1028, W1028, st1028⟩ := putF X1027 hx hZ hown (host := "") (Or.inl (hw _ (List.mem_of_getElem? (i := 40) rfl))) Via.refl e1027 f1023 f1018 (Or.inl (hw _ (List.mem_of_getElem? (i := 41) rfl))) (hw _ (List.mem_of_getElem? (i := 3) rfl)) (ty := .long) (by decide) rfl rfl (g := (mkF m 37 #[.val (.ref a1), .val (.ref a2), .val (.int (0 : Int32)), .val (.int p4)] [(.long ((0 : Int64) + (p4.toInt64))), (.ref a1)])) rfl rfl (hb hby d4_37)
  refine OEnds.st st1028 ?_
  have f1029 : Fld Z h1028 a1 "com/example/marshalyard/marshalyard/proxy/IoBuffer" "added" "J" (.long ((0 : Int64) + (p4.toInt64))) := f1023.same W1028
  have f1030 : Exa Z h1028 a1 "com/example/marshalyard/marshalyard/proxy/IoBuffer" := f1018.wr W1028
  have f1031 : Fld Z h1028 a1 "com/example/marshalyard/marshalyard/proxy/IoBuffer" "bytes" "[B" (.ref a3) := f1019.other W1028 (Or.inr (slot_ne (Or.inl (hw _ (List.mem_of_getElem? (i := 24) rfl))) (Or.inl (hw _ (List.mem_of_getElem? (i := 41) rfl))) (by decide) (t := (.array .byte)) (t' := .long) (by decide) (by decide)))
  have f1032 : Fld Z h1028 a1 "com/example/marshalyard/marshalyard/proxy/IoBuffer" "start" "I" (.int (0 : Int32)) := f1020.other W1028 (Or.inr (slot_ne (Or.inl (hw _ (List.mem_of_getElem? (i := 57) rfl))) (Or.inl (hw _ (List.mem_of_getElem? (i := 41) rfl))) (by decide) (t := .int) (t' := .long) (by decide) (by decide)))
  have f1033 : Fld Z h1028 a1 "com/example/marshalyard/marshalyard/proxy/IoBuffer" "base" "I" (.int (0 : Int32)) := f1022.other W1028 (Or.inr (slot_ne (Or.inl (hw _ (List.mem_of_getElem? (i := 59) rfl))) (Or.inl (hw _ (List.mem_of_getElem? (i := 41) rfl))) (by decide) (t := .int) (t' := .long) (by decide) (by decide)))
  have f1035 : Fld Z h1028 a1 "com/example/marshalyard/marshalyard/proxy/IoBuffer" "taken" "J" (.long (0 : Int64)) := f1024.other W1028 (Or.inr (slot_ne (Or.inl (hw _ (List.mem_of_getElem? (i := 55) rfl))) (Or.inl (hw _ (List.mem_of_getElem? (i := 41) rfl))) (by decide) (t := .long) (t' := .long) (by decide) (by decide)))
  have f1036 : Fld Z h1028 a1 "com/example/marshalyard/marshalyard/proxy/IoBuffer" "keeping" "Z" (.int (0 : Int32)) := f1025.other W1028 (Or.inr (slot_ne (Or.inl (hw _ (List.mem_of_getElem? (i := 48) rfl))) (Or.inl (hw _ (List.mem_of_getElem? (i := 41) rfl))) (by decide) (t := .boolean) (t' := .long) (by decide) (by decide)))
  have f1037 : Arv Z h1028 a2 k2 .byte (8 : Int32) [(.int (0 : Int32)), (.int (0 : Int32)), (.int (0 : Int32)), (.int (0 : Int32)), (.int (0 : Int32)), (.int (0 : Int32)), (.int (0 : Int32)), (.int (0 : Int32))] (.int (0 : Int32)) := f1026.other W1028 n12
  have f1038 : Fld Z h1028 a1 "com/example/marshalyard/marshalyard/proxy/IoBuffer" "end" "I" (.int ((0 : Int32) + p4)) := f1017.other W1028 (Or.inr (slot_ne (Or.inl (hw _ (List.mem_of_getElem? (i := 35) rfl))) (Or.inl (hw _ (List.mem_of_getElem? (i := 41) rfl))) (by decide) (t := .int) (t' := .long) (by decide) (by decide)))
  have N1028 := Fr.snoc X1028 N1016 g_a1
  have KK1028 : Keep h0 h1028 [a1, a3] := KK1016.wr W1028 (Or.inl (List.mem_of_getElem? (i := 0) rfl))
  have Z1028 := Nat.le_trans Z1016 (Keep.of_wr W1028).1
  show OEnds p.tables e below G (T1028.setTop (mkF m 40 #[.val (.ref a1), .val (.ref a2), .val (.int (0 : Int32)), .val (.int p4)] []))
  rw [← hG]
  refine OEnds.retV X1028 hx hlk Bd.returns (hb hby d4_40) (by decide) (by decide) ?_
  rw [e1028]
  exact ⟨rfl, N1028, KK1028, f1030, f1031, f1032, f1038, f1033, f1029, f1035, f1036⟩
theorem d6_0 : decode prog_79_method_13_code 0 = .ok (.aload_n 0, 1) := by decide +kernel
theorem d6_1 : decode prog_79_method_13_code 1 = .ok (.iconst 1, 1) := by decide +kernel
theorem d6_2 : decode prog_79_method_13_code 2 = .ok (.putfield 38, 3) := by decide +kernel
theorem d6_5 : decode prog_79_method_13_code 5 = .ok (.return_, 1) := by decide +kernel
theorem ef_6 (m : MethodId) (a1 : Addr) : entryFrame m #[(.ref a1)] 1 = mkF m 0 #[.val (.ref a1)] [] := by first | (simp [entryFrame, mkF, argsToLocals, Value.category]; done) | rfl
def Q6 (Z : State) (a1 : Addr) (a3 : Addr) (s0 : Int32) (e1 : Int32) (b0 : Int32) (ad : Int64) (ta : Int64) (ke : Int32) (h0 : Heap) (n0 : Nat) (v : Option Value) (h : Heap) (L : List Loc) : Prop := v = none ∧ Fr n0 L ∧ Keep h0 h [a1] ∧ Exa Z h a1 "com/example/marshalyard/marshalyard/proxy/IoBuffer" ∧ Fld Z h a1 "com/example/marshalyard/marshalyard/proxy/IoBuffer" "bytes" "[B" (.ref a3) ∧ Fld Z h a1 "com/example/marshalyard/marshalyard/proxy/IoBuffer" "start" "I" (.int s0) ∧ Fld Z h a1 "com/example/marshalyard/marshalyard/proxy/IoBuffer" "end" "I" (.int e1) ∧ Fld Z h a1 "com/example/marshalyard/marshalyard/proxy/IoBuffer" "base" "I" (.int b0) ∧ Fld Z h a1 "com/example/marshalyard/marshalyard/proxy/IoBuffer" "added" "J" (.long ad) ∧ Fld Z h a1 "com/example/marshalyard/marshalyard/proxy/IoBuffer" "taken" "J" (.long ta) ∧ Fld Z h a1 "com/example/marshalyard/marshalyard/proxy/IoBuffer" "keeping" "Z" (.int (1 : Int32))
set_option maxRecDepth 65536 in
set_option maxHeartbeats 40000000 in
theorem rm6 (l : Launch) (Z : State) (a0 : Array Value) (hw : ∀ d ∈ tables_1, d.before a0 Z = true) (ws : List Jvm.Cond) (a1 : Addr) (a3 : Addr) (s0 : Int32) (e1 : Int32) (b0 : Int32) (ad : Int64) (ta : Int64) (ke : Int32) (h0 : Heap) (n0 : Nat) (Z0 : n0 ≤ h0.size) (Ea1 : Exa Z h0 a1 "com/example/marshalyard/marshalyard/proxy/IoBuffer") (Fby : Fld Z h0 a1 "com/example/marshalyard/marshalyard/proxy/IoBuffer" "bytes" "[B" (.ref a3)) (Fst : Fld Z h0 a1 "com/example/marshalyard/marshalyard/proxy/IoBuffer" "start" "I" (.int s0)) (Fen : Fld Z h0 a1 "com/example/marshalyard/marshalyard/proxy/IoBuffer" "end" "I" (.int e1)) (Fba : Fld Z h0 a1 "com/example/marshalyard/marshalyard/proxy/IoBuffer" "base" "I" (.int b0)) (Fad : Fld Z h0 a1 "com/example/marshalyard/marshalyard/proxy/IoBuffer" "added" "J" (.long ad)) (Fta : Fld Z h0 a1 "com/example/marshalyard/marshalyard/proxy/IoBuffer" "taken" "J" (.long ta)) (Fke : Fld Z h0 a1 "com/example/marshalyard/marshalyard/proxy/IoBuffer" "keeping" "Z" (.int ke)) (g_a1 : n0 ≤ a1) :
    MetFree l (⟨"com/example/marshalyard/marshalyard/proxy/IoBuffer", "keep", "()V"⟩ : MethodName) (head1 (Jvm.Cond.code (⟨"com/example/marshalyard/marshalyard/proxy/IoBuffer", "keep", "()V"⟩ : MethodName) prog_79_method_13_code 1 none :: ws) ({ frames := 0, cells := 0, slots := 0, locals := 0 } : Room)) (fun a U => a = #[(.ref a1)] ∧ Z.Warmed39 U.vm ∧ U.heap = h0) (fun _ _ _ _ _ => True) (fun _ U o U' => ∃ v L, o = .returned v ∧ Q6 Z a1 a3 s0 e1 b0 ad ta ke h0 n0 v U'.heap L ∧ FrameEnd U o U' L ({ frames := 0, cells := 0, slots := 0, locals := 0 } : Room).cells ({ frames := 0, cells := 0, slots := 0, locals := 0 } : Room).slots) := by
  refine MetFree.of_bodySF (plainFor_of_name pn_1) hisR ?_
  intro p e s m args below meth c s₁ Bd hml0 hP hK
  obtain ⟨rfl, hZ, hh⟩ := hP
  have hx := Bd.exec
  have hby := Bd.bytes
  have hml : c.maxLocals = 1 := hml0
  have hown : s.vm.findClass "com/example/marshalyard/marshalyard/proxy/IoBuffer" = some m.cls := findClass_of_methodNamed Bd.named
  have hnm := (name_of_methodNamed Bd.named Bd.method).1
  have hlk : meth.locks = false := BodyLoose.notSynchronized Bd
  have X0 : Stand p l e ({ frames := 0, cells := 0, slots := 0, locals := 0 } : Room) s m #[(.ref a1)] below meth c s₁ [] 0 0 := Stand.of_body Bd
  have e0 : s₁.heap = h0 := by rw [← hh, Bd.state]; rfl
  have N0 := Fr.nil n0
  show OEnds p.tables e below (OGoal (Q6 Z a1 a3 s0 e1 b0 ad ta ke h0 n0) s 0 0) (s₁.setTop (entryFrame m #[(.ref a1)] 1))
  refine OEnds.st (fun t k => castTop (ef_6 m a1) k) ?_
  generalize hG : OGoal (Q6 Z a1 a3 s0 e1 b0 ad ta ke h0 n0) s 0 0 = G
  have KK0 : Keep h0 h0 [a1] := Keep.refl h0 [a1]
  show OEnds p.tables e below G (s₁.setTop (mkF m 0 #[.val (.ref a1)] []))
  refine OEnds.st (fun _ k => XS.aloadN X0.here hx rfl (hb hby d6_0) rfl rfl k) ?_
  show OEnds p.tables e below G (s₁.setTop (mkF m 1 #[.val (.ref a1)] [(.ref a1)]))
  refine OEnds.st (fun _ k => XS.iconst X0.here hx rfl (hb hby d6_1) k) ?_
  show OEnds p.tables e below G (s₁.setTop (mkF m 2 #[.val (.ref a1)] [(.int (1 : Int32)), (.ref a1)]))
  obtain ⟨T1001, h1001, X1001, e1001, W1001, st1001⟩ := putFN X0 hx hZ hown (hw _ (List.mem_of_getElem? (i := 47) rfl)) Via.refl e0 Fke Ea1 (Or.inl (hw _ (List.mem_of_getElem? (i := 48) rfl))) (hw _ (List.mem_of_getElem? (i := 3) rfl)) (ty := .boolean) (v' := (.int (1 : Int32))) (by decide) rfl (by decide) (g := (mkF m 2 #[.val (.ref a1)] [(.int (1 : Int32)), (.ref a1)])) rfl rfl (hb hby d6_2)
  refine OEnds.st st1001 ?_
  have f1002 : Fld Z h1001 a1 "com/example/marshalyard/marshalyard/proxy/IoBuffer" "keeping" "Z" (.int (1 : Int32)) := Fke.same W1001
  have f1003 : Exa Z h1001 a1 "com/example/marshalyard/marshalyard/proxy/IoBuffer" := Ea1.wr W1001
  have f1004 : Fld Z h1001 a1 "com/example/marshalyard/marshalyard/proxy/IoBuffer" "bytes" "[B" (.ref a3) := Fby.other W1001 (Or.inr (slot_ne (Or.inl (hw _ (List.mem_of_getElem? (i := 24) rfl))) (Or.inl (hw _ (List.mem_of_getElem? (i := 48) rfl))) (by decide) (t := (.array .byte)) (t' := .boolean) (by decide) (by decide)))
  have f1005 : Fld Z h1001 a1 "com/example/marshalyard/marshalyard/proxy/IoBuffer" "start" "I" (.int s0) := Fst.other W1001 (Or.inr (slot_ne (Or.inl (hw _ (List.mem_of_getElem? (i := 57) rfl))) (Or.inl (hw _ (List.mem_of_getElem? (i := 48) rfl))) (by decide) (t := .int) (t' := .boolean) (by decide) (by decide)))
  have f1006 : Fld Z h1001 a1 "com/example/marshalyard/marshalyard/proxy/IoBuffer" "end" "I" (.int e1) := Fen.other W1001 (Or.inr (slot_ne (Or.inl (hw _ (List.mem_of_getElem? (i := 35) rfl))) (Or.inl (hw _ (List.mem_of_getElem? (i := 48) rfl))) (by decide) (t := .int) (t' := .boolean) (by decide) (by decide)))
  have f1007 : Fld Z h1001 a1 "com/example/marshalyard/marshalyard/proxy/IoBuffer" "base" "I" (.int b0) := Fba.other W1001 (Or.inr (slot_ne (Or.inl (hw _ (List.mem_of_getElem? (i := 59) rfl))) (Or.inl (hw _ (List.mem_of_getElem? (i := 48) rfl))) (by decide) (t := .int) (t' := .boolean) (by decide) (by decide)))
  have f1008 : Fld Z h1001 a1 "com/example/marshalyard/marshalyard/proxy/IoBuffer" "added" "J" (.long ad) := Fad.other W1001 (Or.inr (slot_ne (Or.inl (hw _ (List.mem_of_getElem? (i := 41) rfl))) (Or.inl (hw _ (List.mem_of_getElem? (i := 48) rfl))) (by decide) (t := .long) (t' := .boolean) (by decide) (by decide)))
  have f1009 : Fld Z h1001 a1 "com/example/marshalyard/marshalyard/proxy/IoBuffer" "taken" "J" (.long ta) := Fta.other W1001 (Or.inr (slot_ne (Or.inl (hw _ (List.mem_of_getElem? (i := 55) rfl))) (Or.inl (hw _ (List.mem_of_getElem? (i := 48) rfl))) (by decide) (t := .long) (t' := .boolean) (by decide) (by decide)))
  have N1001 := Fr.snoc X1001 N0 g_a1
  have KK1001 : Keep h0 h1001 [a1] := KK0.wr W1001 (Or.inl (List.mem_of_getElem? (i := 0) rfl))
  have Z1001 := Nat.le_trans Z0 (Keep.of_wr W1001).1
  show OEnds p.tables e below G (T1001.setTop (mkF m 5 #[.val (.ref a1)] []))
  rw [← hG]
  refine OEnds.retV X1001 hx hlk Bd.returns (hb hby d6_5) (by decide) (by decide) ?_
  rw [e1001]
  exact ⟨rfl, N1001, KK1001, f1003, f1004, f1005, f1006, f1007, f1008, f1009, f1002⟩
theorem d7_0 : decode prog_79_method_11_code 0 = .ok (.aload_n 0, 1) := by decide +kernel
theorem d7_1 : decode prog_79_method_11_code 1 = .ok (.dup, 1) := by decide +kernel
theorem d7_2 : decode prog_79_method_11_code 2 = .ok (.getfield 35, 3) := by decide +kernel
theorem d7_5 : decode prog_79_method_11_code 5 = .ok (.iload_n 1, 1) := by decide +kernel
theorem d7_6 : decode prog_79_method_11_code 6 = .ok (.i2l, 1) := by decide +kernel
theorem d7_7 : decode prog_79_method_11_code 7 = .ok (.ladd, 1) := by decide +kernel
theorem d7_8 : decode prog_79_method_11_code 8 = .ok (.putfield 35, 3) := by decide +kernel
theorem d7_11 : decode prog_79_method_11_code 11 = .ok (.aload_n 0, 1) := by decide +kernel
theorem d7_12 : decode prog_79_method_11_code 12 = .ok (.dup, 1) := by decide +kernel
theorem d7_13 : decode prog_79_method_11_code 13 = .ok (.getfield 17, 3) := by decide +kernel
theorem d7_16 : decode prog_79_method_11_code 16 = .ok (.iload_n 1, 1) := by decide +kernel
theorem d7_17 : decode prog_79_method_11_code 17 = .ok (.iadd, 1) := by decide +kernel
theorem d7_18 : decode prog_79_method_11_code 18 = .ok (.putfield 17, 3) := by decide +kernel
theorem d7_21 : decode prog_79_method_11_code 21 = .ok (.aload_n 0, 1) := by decide +kernel
theorem d7_22 : decode prog_79_method_11_code 22 = .ok (.getfield 38, 3) := by decide +kernel
theorem d7_25 : decode prog_79_method_11_code 25 = .ok (.ifCond .ne 11, 3) := by decide +kernel
theorem d7_28 : decode prog_79_method_11_code 28 = .ok (.aload_n 0, 1) := by decide +kernel
theorem d7_29 : decode prog_79_method_11_code 29 = .ok (.aload_n 0, 1) := by decide +kernel
theorem d7_30 : decode prog_79_method_11_code 30 = .ok (.getfield 17, 3) := by decide +kernel
theorem d7_33 : decode prog_79_method_11_code 33 = .ok (.putfield 28, 3) := by decide +kernel
theorem d7_36 : decode prog_79_method_11_code 36 = .ok (.aload_n 0, 1) := by decide +kernel
theorem d7_37 : decode prog_79_method_11_code 37 = .ok (.getfield 28, 3) := by decide +kernel
theorem d7_40 : decode prog_79_method_11_code 40 = .ok (.aload_n 0, 1) := by decide +kernel
theorem d7_41 : decode prog_79_method_11_code 41 = .ok (.getfield 21, 3) := by decide +kernel
theorem d7_44 : decode prog_79_method_11_code 44 = .ok (.if_icmp .ne 18, 3) := by decide +kernel
theorem d7_47 : decode prog_79_method_11_code 47 = .ok (.aload_n 0, 1) := by decide +kernel
theorem d7_48 : decode prog_79_method_11_code 48 = .ok (.iconst 0, 1) := by decide +kernel
theorem d7_49 : decode prog_79_method_11_code 49 = .ok (.putfield 28, 3) := by decide +kernel
theorem d7_52 : decode prog_79_method_11_code 52 = .ok (.aload_n 0, 1) := by decide +kernel
theorem d7_53 : decode prog_79_method_11_code 53 = .ok (.iconst 0, 1) := by decide +kernel
theorem d7_54 : decode prog_79_method_11_code 54 = .ok (.putfield 17, 3) := by decide +kernel
theorem d7_57 : decode prog_79_method_11_code 57 = .ok (.aload_n 0, 1) := by decide +kernel
theorem d7_58 : decode prog_79_method_11_code 58 = .ok (.iconst 0, 1) := by decide +kernel
theorem d7_59 : decode prog_79_method_11_code 59 = .ok (.putfield 21, 3) := by decide +kernel
theorem d7_62 : decode prog_79_method_11_code 62 = .ok (.return_, 1) := by decide +kernel
theorem ef_7 (m : MethodId) (a1 : Addr) (p2 : Int32) : entryFrame m #[(.ref a1), (.int p2)] 2 = mkF m 0 #[.val (.ref a1), .val (.int p2)] [] := by first | (simp [entryFrame, mkF, argsToLocals, Value.category]; done) | rfl
def Q7 (Z : State) (a1 : Addr) (p2 : Int32) (a3 : Addr) (s0 : Int32) (e1 : Int32) (b0 : Int32) (ad : Int64) (ta : Int64) (ke : Int32) (h0 : Heap) (n0 : Nat) (v : Option Value) (h : Heap) (L : List Loc) : Prop := v = none ∧ Fr n0 L ∧ Keep h0 h [a1] ∧ Exa Z h a1 "com/example/marshalyard/marshalyard/proxy/IoBuffer" ∧ Fld Z h a1 "com/example/marshalyard/marshalyard/proxy/IoBuffer" "bytes" "[B" (.ref a3) ∧ Fld Z h a1 "com/example/marshalyard/marshalyard/proxy/IoBuffer" "start" "I" (.int (own_skS ke s0 b0 e1 p2)) ∧ Fld Z h a1 "com/example/marshalyard/marshalyard/proxy/IoBuffer" "end" "I" (.int (own_skE ke s0 b0 e1 p2)) ∧ Fld Z h a1 "com/example/marshalyard/marshalyard/proxy/IoBuffer" "base" "I" (.int (own_skB ke s0 b0 e1 p2)) ∧ Fld Z h a1 "com/example/marshalyard/marshalyard/proxy/IoBuffer" "added" "J" (.long ad) ∧ Fld Z h a1 "com/example/marshalyard/marshalyard/proxy/IoBuffer" "taken" "J" (.long (ta + (p2.toInt64))) ∧ Fld Z h a1 "com/example/marshalyard/marshalyard/proxy/IoBuffer" "keeping" "Z" (.int ke)
set_option maxRecDepth 65536 in
set_option maxHeartbeats 40000000 in
theorem rm7 (l : Launch) (Z : State) (a0 : Array Value) (hw : ∀ d ∈ tables_1, d.before a0 Z = true) (ws : List Jvm.Cond) (a1 : Addr) (p2 : Int32) (a3 : Addr) (s0 : Int32) (e1 : Int32) (b0 : Int32) (ad : Int64) (ta : Int64) (ke : Int32) (h0 : Heap) (n0 : Nat) (Z0 : n0 ≤ h0.size) (Ea1 : Exa Z h0 a1 "com/example/marshalyard/marshalyard/proxy/IoBuffer") (Fby : Fld Z h0 a1 "com/example/marshalyard/marshalyard/proxy/IoBuffer" "bytes" "[B" (.ref a3)) (Fst : Fld Z h0 a1 "com/example/marshalyard/marshalyard/proxy/IoBuffer" "start" "I" (.int s0)) (Fen : Fld Z h0 a1 "com/example/marshalyard/marshalyard/proxy/IoBuffer" "end" "I" (.int e1)) (Fba : Fld Z h0 a1 "com/example/marshalyard/marshalyard/proxy/IoBuffer" "base" "I" (.int b0)) (Fad : Fld Z h0 a1 "com/example/marshalyard/marshalyard/proxy/IoBuffer" "added" "J" (.long ad)) (Fta : Fld Z h0 a1 "com/example/marshalyard/marshalyard/proxy/IoBuffer" "taken" "J" (.long ta)) (Fke : Fld Z h0 a1 "com/example/marshalyard/marshalyard/proxy/IoBuffer" "keeping" "Z" (.int ke)) (g_a1 : n0 ≤ a1) :
    MetFree l (⟨"com/example/marshalyard/marshalyard/proxy/IoBuffer", "skip", "(I)V"⟩ : MethodName) (head1 (Jvm.Cond.code (⟨"com/example/marshalyard/marshalyard/proxy/IoBuffer", "skip", "(I)V"⟩ : MethodName) prog_79_method_11_code 2 none :: ws) ({ frames := 0, cells := 0, slots := 0, locals := 0 } : Room)) (fun a U => a = #[(.ref a1), (.int p2)] ∧ Z.Warmed39 U.vm ∧ U.heap = h0) (fun _ _ _ _ _ => True) (fun _ U o U' => ∃ v L, o = .returned v ∧ Q7 Z a1 p2 a3 s0 e1 b0 ad ta ke h0 n0 v U'.heap L ∧ FrameEnd U o U' L ({ frames := 0, cells := 0, slots := 0, locals := 0 } : Room).cells ({ frames := 0, cells := 0, slots := 0, locals := 0 } : Room).slots) := by
  refine MetFree.of_bodySF (plainFor_of_name pn_1) hisR ?_
  intro p e s m args below meth c s₁ Bd hml0 hP hK
  obtain ⟨rfl, hZ, hh⟩ := hP
  have hx := Bd.exec
  have hby := Bd.bytes
  have hml : c.maxLocals = 2 := hml0
  have hown : s.vm.findClass "com/example/marshalyard/marshalyard/proxy/IoBuffer" = some m.cls := findClass_of_methodNamed Bd.named
  have hnm := (name_of_methodNamed Bd.named Bd.method).1
  have hlk : meth.locks = false := BodyLoose.notSynchronized Bd
  have X0 : Stand p l e ({ frames := 0, cells := 0, slots := 0, locals := 0 } : Room) s m #[(.ref a1), (.int p2)] below meth c s₁ [] 0 0 := Stand.of_body Bd
  have e0 : s₁.heap = h0 := by rw [← hh, Bd.state]; rfl
  have N0 := Fr.nil n0
  show OEnds p.tables e below (OGoal (Q7 Z a1 p2 a3 s0 e1 b0 ad ta ke h0 n0) s 0 0) (s₁.setTop (entryFrame m #[(.ref a1), (.int p2)] 2))
  refine OEnds.st (fun t k => castTop (ef_7 m a1 p2) k) ?_
  generalize hG : OGoal (Q7 Z a1 p2 a3 s0 e1 b0 ad ta ke h0 n0) s 0 0 = G
  have KK0 : Keep h0 h0 [a1] := Keep.refl h0 [a1]
  show OEnds p.tables e below G (s₁.setTop (mkF m 0 #[.val (.ref a1), .val (.int p2)] []))
  refine OEnds.st (fun _ k => XS.aloadN X0.here hx rfl (hb hby d7_0) rfl rfl k) ?_
  show OEnds p.tables e below G (s₁.setTop (mkF m 1 #[.val (.ref a1), .val (.int p2)] [(.ref a1)]))
  refine OEnds.st (fun _ k => XS.dup X0.here hx rfl (hb hby d7_1) rfl rfl k) ?_
  show OEnds p.tables e below G (s₁.setTop (mkF m 2 #[.val (.ref a1), .val (.int p2)] [(.ref a1), (.ref a1)]))
  obtain ⟨T1001, X1001, e1001, st1001⟩ := getF X0 hx hZ hown (host := "") (Or.inl (hw _ (List.mem_of_getElem? (i := 54) rfl))) Via.refl e0 Fta (g := (mkF m 2 #[.val (.ref a1), .val (.int p2)] [(.ref a1), (.ref a1)])) rfl rfl (hb hby d7_2)
  refine OEnds.st st1001 ?_
  show OEnds p.tables e below G (T1001.setTop (mkF m 5 #[.val (.ref a1), .val (.int p2)] [(.long ta), (.ref a1)]))
  refine OEnds.st (fun _ k => XS.iloadN X1001.here hx rfl (hb hby d7_5) rfl k) ?_
  show OEnds p.tables e below G (T1001.setTop (mkF m 6 #[.val (.ref a1), .val (.int p2)] [(.int p2), (.long ta), (.ref a1)]))
  refine OEnds.st (fun _ k => XS.i2l X1001.here hx rfl (hb hby d7_6) rfl k) ?_
  show OEnds p.tables e below G (T1001.setTop (mkF m 7 #[.val (.ref a1), .val (.int p2)] [(.long (p2.toInt64)), (.long ta), (.ref a1)]))
  refine OEnds.st (fun _ k => XS.ladd X1001.here hx rfl (hb hby d7_7) rfl k) ?_
  show OEnds p.tables e below G (T1001.setTop (mkF m 8 #[.val (.ref a1), .val (.int p2)] [(.long (ta + (p2.toInt64))), (.ref a1)]))
  obtain ⟨T1002, h1002, X1002, e1002, W1002, st1002⟩ := putF X1001 hx hZ hown (host := "") (Or.inl (hw _ (List.mem_of_getElem? (i := 54) rfl))) Via.refl e1001 Fta Ea1 (Or.inl (hw _ (List.mem_of_getElem? (i := 55) rfl))) (hw _ (List.mem_of_getElem? (i := 3) rfl)) (ty := .long) (by decide) rfl rfl (g := (mkF m 8 #[.val (.ref a1), .val (.int p2)] [(.long (ta + (p2.toInt64))), (.ref a1)])) rfl rfl (hb hby d7_8)
  refine OEnds.st st1002 ?_
  have f1003 : Fld Z h1002 a1 "com/example/marshalyard/marshalyard/proxy/IoBuffer" "taken" "J" (.long (ta + (p2.toInt64))) := Fta.same W1002
  have f1004 : Exa Z h1002 a1 "com/example/marshalyard/marshalyard/proxy/IoBuffer" := Ea1.wr W1002
  have f1005 : Fld Z h1002 a1 "com/example/marshalyard/marshalyard/proxy/IoBuffer" "bytes" "[B" (.ref a3) := Fby.other W1002 (Or.inr (slot_ne (Or.inl (hw _ (List.mem_of_getElem? (i := 24) rfl))) (Or.inl (hw _ (List.mem_of_getElem? (i := 55) rfl))) (by decide) (t := (.array .byte)) (t' := .long) (by decide) (by decide)))
  have f1006 : Fld Z h1002 a1 "com/example/marshalyard/marshalyard/proxy/IoBuffer" "start" "I" (.int s0) := Fst.other W1002 (Or.inr (slot_ne (Or.inl (hw _ (List.mem_of_getElem? (i := 57) rfl))) (Or.inl (hw _ (List.mem_of_getElem? (i := 55) rfl))) (by decide) (t := .int) (t' := .long) (by decide) (by decide)))
  have f1007 : Fld Z h1002 a1 "com/example/marshalyard/marshalyard/proxy/IoBuffer" "end" "I" (.int e1) := Fen.other W1002 (Or.inr (slot_ne (Or.inl (hw _ (List.mem_of_getElem? (i := 35) rfl))) (Or.inl (hw _ (List.mem_of_getElem? (i := 55) rfl))) (by decide) (t := .int) (t' := .long) (by decide) (by decide)))
  have f1008 : Fld Z h1002 a1 "com/example/marshalyard/marshalyard/proxy/IoBuffer" "base" "I" (.int b0) := Fba.other W1002 (Or.inr (slot_ne (Or.inl (hw _ (List.mem_of_getElem? (i := 59) rfl))) (Or.inl (hw _ (List.mem_of_getElem? (i := 55) rfl))) (by decide) (t := .int) (t' := .long) (by decide) (by decide)))
  have f1009 : Fld Z h1002 a1 "com/example/marshalyard/marshalyard/proxy/IoBuffer" "added" "J" (.long ad) := Fad.other W1002 (Or.inr (slot_ne (Or.inl (hw _ (List.mem_of_getElem? (i := 41) rfl))) (Or.inl (hw _ (List.mem_of_getElem? (i := 55) rfl))) (by decide) (t := .long) (t' := .long) (by decide) (by decide)))
  have f1011 : Fld Z h1002 a1 "com/example/marshalyard/marshalyard/proxy/IoBuffer" "keeping" "Z" (.int ke) := Fke.other W1002 (Or.inr (slot_ne (Or.inl (hw _ (List.mem_of_getElem? (i := 48) rfl))) (Or.inl (hw _ (List.mem_of_getElem? (i := 55) rfl))) (by decide) (t := .boolean) (t' := .long) (by decide) (by decide)))
  have N1002 := Fr.snoc X1002 N0 g_a1
  have KK1002 : Keep h0 h1002 [a1] := KK0.wr W1002 (Or.inl (List.mem_of_getElem? (i := 0) rfl))
  have Z1002 := Nat.le_trans Z0 (Keep.of_wr W1002).1
  show OEnds p.tables e below G (T1002.setTop (mkF m 11 #[.val (.ref a1), .val (.int p2)] []))
  refine OEnds.st (fun _ k => XS.aloadN X1002.here hx rfl (hb hby d7_11) rfl rfl k) ?_
  show OEnds p.tables e below G (T1002.setTop (mkF m 12 #[.val (.ref a1), .val (.int p2)] [(.ref a1)]))
  refine OEnds.st (fun _ k => XS.dup X1002.here hx rfl (hb hby d7_12) rfl rfl k) ?_
  show OEnds p.tables e below G (T1002.setTop (mkF m 13 #[.val (.ref a1), .val (.int p2)] [(.ref a1), (.ref a1)]))
  obtain ⟨T1012, X1012, e1012, st1012⟩ := getF X1002 hx hZ hown (host := "") (Or.inl (hw _ (List.mem_of_getElem? (i := 56) rfl))) Via.refl e1002 f1006 (g := (mkF m 13 #[.val (.ref a1), .val (.int p2)] [(.ref a1), (.ref a1)])) rfl rfl (hb hby d7_13)
  refine OEnds.st st1012 ?_
  show OEnds p.tables e below G (T1012.setTop (mkF m 16 #[.val (.ref a1), .val (.int p2)] [(.int s0), (.ref a1)]))
  refine OEnds.st (fun _ k => XS.iloadN X1012.here hx rfl (hb hby d7_16) rfl k) ?_
  show OEnds p.tables e below G (T1012.setTop (mkF m 17 #[.val (.ref a1), .val (.int p2)] [(.int p2), (.int s0), (.ref a1)]))
  refine OEnds.st (fun _ k => XS.iadd X1012.here hx rfl (hb hby d7_17) rfl k) ?_
  show OEnds p.tables e below G (T1012.setTop (mkF m 18 #[.val (.ref a1), .val (.int p2)] [(.int (s0 + p2)), (.ref a1)]))
  obtain ⟨T1013, h1013, X1013, e1013, W1013, st1013⟩ := putF X1012 hx hZ hown (host := "") (Or.inl (hw _ (List.mem_of_getElem? (i := 56) rfl))) Via.refl e1012 f1006 f1004 (Or.inl (hw _ (List.mem_of_getElem? (i := 57) rfl))) (hw _ (List.mem_of_getElem? (i := 3) rfl)) (ty := .int) (by decide) rfl rfl (g := (mkF m 18 #[.val (.ref a1), .val (.int p2)] [(.int (s0 + p2)), (.ref a1)])) rfl rfl (hb hby d7_18)
  refine OEnds.st st1013 ?_
  have f1014 : Fld Z h1013 a1 "com/example/marshalyard/marshalyard/proxy/IoBuffer" "start" "I" (.int (s0 + p2)) := f1006.same W1013
  have f1015 : Exa Z h1013 a1 "com/example/marshalyard/marshalyard/proxy/IoBuffer" := f1004.wr W1013
  have f1016 : Fld Z h1013 a1 "com/example/marshalyard/marshalyard/proxy/IoBuffer" "bytes" "[B" (.ref a3) := f1005.other W1013 (Or.inr (slot_ne (Or.inl (hw _ (List.mem_of_getElem? (i := 24) rfl))) (Or.inl (hw _ (List.mem_of_getElem? (i := 57) rfl))) (by decide) (t := (.array .byte)) (t' := .int) (by decide) (by decide)))
  have f1018 : Fld Z h1013 a1 "com/example/marshalyard/marshalyard/proxy/IoBuffer" "end" "I" (.int e1) := f1007.other W1013 (Or.inr (slot_ne (Or.inl (hw _ (List.mem_of_getElem? (i := 35) rfl))) (Or.inl (hw _ (List.mem_of_getElem? (i := 57) rfl))) (by decide) (t := .int) (t' := .int) (by decide) (by decide)))
  have f1019 : Fld Z h1013 a1 "com/example/marshalyard/marshalyard/proxy/IoBuffer" "base" "I" (.int b0) := f1008.other W1013 (Or.inr (slot_ne (Or.inl (hw _ (List.mem_of_getElem? (i := 59) rfl))) (Or.inl (hw _ (List.mem_of_getElem? (i := 57) rfl))) (by decide) (t := .int) (t' := .int) (by decide) (by decide)))
  have f1020 : Fld Z h1013 a1 "com/example/marshalyard/marshalyard/proxy/IoBuffer" "added" "J" (.long ad) := f1009.other W1013 (Or.inr (slot_ne (Or.inl (hw _ (List.mem_of_getElem? (i := 41) rfl))) (Or.inl (hw _ (List.mem_of_getElem? (i := 57) rfl))) (by decide) (t := .long) (t' := .int) (by decide) (by decide)))
  have f1021 : Fld Z h1013 a1 "com/example/marshalyard/marshalyard/proxy/IoBuffer" "keeping" "Z" (.int ke) := f1011.other W1013 (Or.inr (slot_ne (Or.inl (hw _ (List.mem_of_getElem? (i := 48) rfl))) (Or.inl (hw _ (List.mem_of_getElem? (i := 57) rfl))) (by decide) (t := .boolean) (t' := .int) (by decide) (by decide)))
  have f1022 : Fld Z h1013 a1 "com/example/marshalyard/marshalyard/proxy/IoBuffer" "taken" "J" (.long (ta + (p2.toInt64))) := f1003.other W1013 (Or.inr (slot_ne (Or.inl (hw _ (List.mem_of_getElem? (i := 55) rfl))) (Or.inl (hw _ (List.mem_of_getElem? (i := 57) rfl))) (by decide) (t := .long) (t' := .int) (by decide) (by decide)))
  have N1013 := Fr.snoc X1013 N1002 g_a1
  have KK1013 : Keep h0 h1013 [a1] := KK1002.wr W1013 (Or.inl (List.mem_of_getElem? (i := 0) rfl))
  have Z1013 := Nat.le_trans Z1002 (Keep.of_wr W1013).1
  show OEnds p.tables e below G (T1013.setTop (mkF m 21 #[.val (.ref a1), .val (.int p2)] []))
  refine OEnds.st (fun _ k => XS.aloadN X1013.here hx rfl (hb hby d7_21) rfl rfl k) ?_
  show OEnds p.tables e below G (T1013.setTop (mkF m 22 #[.val (.ref a1), .val (.int p2)] [(.ref a1)]))
  obtain ⟨T1023, X1023, e1023, st1023⟩ := getF X1013 hx hZ hown (host := "") (Or.inl (hw _ (List.mem_of_getElem? (i := 47) rfl))) Via.refl e1013 f1021 (g := (mkF m 22 #[.val (.ref a1), .val (.int p2)] [(.ref a1)])) rfl rfl (hb hby d7_22)
  refine OEnds.st st1023 ?_
  show OEnds p.tables e below G (T1023.setTop (mkF m 25 #[.val (.ref a1), .val (.int p2)] [(.int ke)]))
  by_cases hc25_1024 : ke = (0 : Int32)
  · -- pc 25: yes
    refine OEnds.st (fun _ k => XS.ifNo X1023.here hx rfl (hb hby d7_25) rfl ((if0 _ _).trans (teq hc25_1024).2) k) ?_
    show OEnds p.tables e below G (T1023.setTop (mkF m 28 #[.val (.ref a1), .val (.int p2)] []))
    refine OEnds.st (fun _ k => XS.aloadN X1023.here hx rfl (hb hby d7_28) rfl rfl k) ?_
    show OEnds p.tables e below G (T1023.setTop (mkF m 29 #[.val (.ref a1), .val (.int p2)] [(.ref a1)]))
    refine OEnds.st (fun _ k => XS.aloadN X1023.here hx rfl (hb hby d7_29) rfl rfl k) ?_
    show OEnds p.tables e below G (T1023.setTop (mkF m 30 #[.val (.ref a1), .val (.int p2)] [(.ref a1), (.ref a1)]))
    obtain ⟨T1025, X1025, e1025, st1025⟩ := getF X1023 hx hZ hown (host := "") (Or.inl (hw _ (List.mem_of_getElem? (i := 56) rfl))) Via.refl e1023 f1014 (g := (mkF m 30 #[.val (.ref a1), .val (.int p2)] [(.ref a1), (.ref a1)])) rfl rfl (hb hby d7_30)
    refine OEnds.st st1025 ?_
    show OEnds p.tables e below G (T1025.setTop (mkF m 33 #[.val (.ref a1), .val (.int p2)] [(.int (s0 + p2)), (.ref a1)]))
    obtain ⟨T1026, h1026, X1026, e1026, W1026, st1026⟩ := putF X1025 hx hZ hown (host := "") (Or.inl (hw _ (List.mem_of_getElem? (i := 58) rfl))) Via.refl e1025 f1019 f1015 (Or.inl (hw _ (List.mem_of_getElem? (i := 59) rfl))) (hw _ (List.mem_of_getElem? (i := 3) rfl)) (ty := .int) (by decide) rfl rfl (g := (mkF m 33 #[.val (.ref a1), .val (.int p2)] [(.int (s0 + p2)), (.ref a1)])) rfl rfl (hb hby d7_33)
    refine OEnds.st st1026 ?_
    have f1027 : Fld Z h1026 a1 "com/example/marshalyard/marshalyard/proxy/IoBuffer" "base" "I" (.int (s0 + p2)) := f1019.same W1026
    have f1028 : Exa Z h1026 a1 "com/example/marshalyard/marshalyard/proxy/IoBuffer" := f1015.wr W1026
    have f1029 : Fld Z h1026 a1 "com/example/marshalyard/marshalyard/proxy/IoBuffer" "bytes" "[B" (.ref a3) := f1016.other W1026 (Or.inr (slot_ne (Or.inl (hw _ (List.mem_of_getElem? (i := 24) rfl))) (Or.inl (hw _ (List.mem_of_getElem? (i := 59) rfl))) (by decide) (t := (.array .byte)) (t' := .int) (by decide) (by decide)))
    have f1030 : Fld Z h1026 a1 "com/example/marshalyard/marshalyard/proxy/IoBuffer" "end" "I" (.int e1) := f1018.other W1026 (Or.inr (slot_ne (Or.inl (hw _ (List.mem_of_getElem? (i := 35) rfl))) (Or.inl (hw _ (List.mem_of_getElem? (i := 59) rfl))) (by decide) (t := .int) (t' := .int) (by decide) (by decide)))
    have f1032 : Fld Z h1026 a1 "com/example/marshalyard/marshalyard/proxy/IoBuffer" "added" "J" (.long ad) := f1020.other W1026 (Or.inr (slot_ne (Or.inl (hw _ (List.mem_of_getElem? (i := 41) rfl))) (Or.inl (hw _ (List.mem_of_getElem? (i := 59) rfl))) (by decide) (t := .long) (t' := .int) (by decide) (by decide)))
    have f1033 : Fld Z h1026 a1 "com/example/marshalyard/marshalyard/proxy/IoBuffer" "keeping" "Z" (.int ke) := f1021.other W1026 (Or.inr (slot_ne (Or.inl (hw _ (List.mem_of_getElem? (i := 48) rfl))) (Or.inl (hw _ (List.mem_of_getElem? (i := 59) rfl))) (by decide) (t := .boolean) (t' := .int) (by decide) (by decide)))
    have f1034 : Fld Z h1026 a1 "com/example/marshalyard/marshalyard/proxy/IoBuffer" "taken" "J" (.long (ta + (p2.toInt64))) := f1022.other W1026 (Or.inr (slot_ne (Or.inl (hw _ (List.mem_of_getElem? (i := 55) rfl))) (Or.inl (hw _ (List.mem_of_getElem? (i := 59) rfl))) (by decide) (t := .long) (t' := .int) (by decide) (by decide)))
    have f1035 : Fld Z h1026 a1 "com/example/marshalyard/marshalyard/proxy/IoBuffer" "start" "I" (.int (s0 + p2)) := f1014.other W1026 (Or.inr (slot_ne (Or.inl (hw _ (List.mem_of_getElem? (i := 57) rfl))) (Or.inl (hw _ (List.mem_of_getElem? (i := 59) rfl))) (by decide) (t := .int) (t' := .int) (by decide) (by decide)))
    have N1026 := Fr.snoc X1026 N1013 g_a1
    have KK1026 : Keep h0 h1026 [a1] := KK1013.wr W1026 (Or.inl (List.mem_of_getElem? (i := 0) rfl))
    have Z1026 := Nat.le_trans Z1013 (Keep.of_wr W1026).1
    show OEnds p.tables e below G (T1026.setTop (mkF m 36 #[.val (.ref a1), .val (.int p2)] []))
    refine OEnds.st (fun _ k => XS.aloadN X1026.here hx rfl (hb hby d7_36) rfl rfl k) ?_
    show OEnds p.tables e below G (T1026.setTop (mkF m 37 #[.val (.ref a1), .val (.int p2)] [(.ref a1)]))
    obtain ⟨T1036, X1036, e1036, st1036⟩ := getF X1026 hx hZ hown (host := "") (Or.inl (hw _ (List.mem_of_getElem? (i := 58) rfl))) Via.refl e1026 f1027 (g := (mkF m 37 #[.val (.ref a1), .val (.int p2)] [(.ref a1)])) rfl rfl (hb hby d7_37)
    refine OEnds.st st1036 ?_
    show OEnds p.tables e below G (T1036.setTop (mkF m 40 #[.val (.ref a1), .val (.int p2)] [(.int (s0 + p2))]))
    refine OEnds.st (fun _ k => XS.aloadN X1036.here hx rfl (hb hby d7_40) rfl rfl k) ?_
    show OEnds p.tables e below G (T1036.setTop (mkF m 41 #[.val (.ref a1), .val (.int p2)] [(.ref a1), (.int (s0 + p2))]))
    obtain ⟨T1037, X1037, e1037, st1037⟩ := getF X1036 hx hZ hown (host := "") (Or.inl (hw _ (List.mem_of_getElem? (i := 34) rfl))) Via.refl e1036 f1030 (g := (mkF m 41 #[.val (.ref a1), .val (.int p2)] [(.ref a1), (.int (s0 + p2))])) rfl rfl (hb hby d7_41)
    refine OEnds.st st1037 ?_
    show OEnds p.tables e below G (T1037.setTop (mkF m 44 #[.val (.ref a1), .val (.int p2)] [(.int e1), (.int (s0 + p2))]))
    by_cases hc44_1038 : (s0 + p2) = e1
    · -- pc 44: yes
      refine OEnds.st (fun _ k => XS.icmpNo X1037.here hx rfl (hb hby d7_44) rfl (teq hc44_1038).2 k) ?_
      show OEnds p.tables e below G (T1037.setTop (mkF m 47 #[.val (.ref a1), .val (.int p2)] []))
      refine OEnds.st (fun _ k => XS.aloadN X1037.here hx rfl (hb hby d7_47) rfl rfl k) ?_
      show OEnds p.tables e below G (T1037.setTop (mkF m 48 #[.val (.ref a1), .val (.int p2)] [(.ref a1)]))
      refine OEnds.st (fun _ k => XS.iconst X1037.here hx rfl (hb hby d7_48) k) ?_
      show OEnds p.tables e below G (T1037.setTop (mkF m 49 #[.val (.ref a1), .val (.int p2)] [(.int (0 : Int32)), (.ref a1)]))
      obtain ⟨T1039, h1039, X1039, e1039, W1039, st1039⟩ := putF X1037 hx hZ hown (host := "") (Or.inl (hw _ (List.mem_of_getElem? (i := 58) rfl))) Via.refl e1037 f1027 f1028 (Or.inl (hw _ (List.mem_of_getElem? (i := 59) rfl))) (hw _ (List.mem_of_getElem? (i := 3) rfl)) (ty := .int) (by decide) rfl rfl (g := (mkF m 49 #[.val (.ref a1), .val (.int p2)] [(.int (0 : Int32)), (.ref a1)])) rfl rfl (hb hby d7_49)
      refine OEnds.st st1039 ?_
      have f1040 : Fld Z h1039 a1 "com/example/marshalyard/marshalyard/proxy/IoBuffer" "base" "I" (.int (0 : Int32)) := f1027.same W1039
      have f1041 : Exa Z h1039 a1 "com/example/marshalyard/marshalyard/proxy/IoBuffer" := f1028.wr W1039
      have f1042 : Fld Z h1039 a1 "com/example/marshalyard/marshalyard/proxy/IoBuffer" "bytes" "[B" (.ref a3) := f1029.other W1039 (Or.inr (slot_ne (Or.inl (hw _ (List.mem_of_getElem? (i := 24) rfl))) (Or.inl (hw _ (List.mem_of_getElem? (i := 59) rfl))) (by decide) (t := (.array .byte)) (t' := .int) (by decide) (by decide)))
      have f1043 : Fld Z h1039 a1 "com/example/marshalyard/marshalyard/proxy/IoBuffer" "end" "I" (.int e1) := f1030.other W1039 (Or.inr (slot_ne (Or.inl (hw _ (List.mem_of_getElem? (i := 35) rfl))) (Or.inl (hw _ (List.mem_of_getElem? (i := 59) rfl))) (by decide) (t := .int) (t' := .int) (by decide) (by decide)))
      have f1044 : Fld Z h1039 a1 "com/example/marshalyard/marshalyard/proxy/IoBuffer" "added" "J" (.long ad) := f1032.other W1039 (Or.inr (slot_ne (Or.inl (hw _ (List.mem_of_getElem? (i := 41) rfl))) (Or.inl (hw _ (List.mem_of_getElem? (i := 59) rfl))) (by decide) (t := .long) (t' := .int) (by decide) (by decide)))
      have f1045 : Fld Z h1039 a1 "com/example/marshalyard/marshalyard/proxy/IoBuffer" "keeping" "Z" (.int ke) := f1033.other W1039 (Or.inr (slot_ne (Or.inl (hw _ (List.mem_of_getElem? (i := 48) rfl))) (Or.inl (hw _ (List.mem_of_getElem? (i := 59) rfl))) (by decide) (t := .boolean) (t' := .int) (by decide) (by decide)))
      have f1046 : Fld Z h1039 a1 "com/example/marshalyard/marshalyard/proxy/IoBuffer" "taken" "J" (.long (ta + (p2.toInt64))) := f1034.other W1039 (Or.inr (slot_ne (Or.inl (hw _ (List.mem_of_getElem? (i := 55) rfl))) (Or.inl (hw _ (List.mem_of_getElem? (i := 59) rfl))) (by decide) (t := .long) (t' := .int) (by decide) (by decide)))
      have f1047 : Fld Z h1039 a1 "com/example/marshalyard/marshalyard/proxy/IoBuffer" "start" "I" (.int (s0 + p2)) := f1035.other W1039 (Or.inr (slot_ne (Or.inl (hw _ (List.mem_of_getElem? (i := 57) rfl))) (Or.inl (hw _ (List.mem_of_getElem? (i := 59) rfl))) (by decide) (t := .int) (t' := .int) (by decide) (by decide)))
      have N1039 := Fr.snoc X1039 N1026 g_a1
      have KK1039 : Keep h0 h1039 [a1] := KK1026.wr W1039 (Or.inl (List.mem_of_getElem? (i := 0) rfl))
      have Z1039 := Nat.le_trans Z1026 (Keep.of_wr W1039).1
      show OEnds p.tables e below G (T1039.setTop (mkF m 52 #[.val (.ref a1), .val (.int p2)] []))
      refine OEnds.st (fun _ k => XS.aloadN X1039.here hx rfl (hb hby d7_52) rfl rfl k) ?_
      show OEnds p.tables e below G (T1039.setTop (mkF m 53 #[.val (.ref a1), .val (.int p2)] [(.ref a1)]))
      refine OEnds.st (fun _ k => XS.iconst X1039.here hx rfl (hb hby d7_53) k) ?_
      show OEnds p.tables e below G (T1039.setTop (mkF m 54 #[.val (.ref a1), .val (.int p2)] [(.int (0 : Int32)), (.ref a1)]))
      obtain ⟨T1049, h1049, X1049, e1049, W1049, st1049⟩ := putF X1039 hx hZ hown (host := "") (Or.inl (hw _ (List.mem_of_getElem? (i := 56) rfl))) Via.refl e1039 f1047 f1041 (Or.inl (hw _ (List.mem_of_getElem? (i := 57) rfl))) (hw _ (List.mem_of_getElem? (i := 3) rfl)) (ty := .int) (by decide) rfl rfl (g := (mkF m 54 #[.val (.ref a1), .val (.int p2)] [(.int (0 : Int32)), (.ref a1)])) rfl rfl (hb hby d7_54)
      refine OEnds.st st1049 ?_
      have f1050 : Fld Z h1049 a1 "com/example/marshalyard/marshalyard/proxy/IoBuffer" "start" "I" (.int (0 : Int32)) := f1047.same W1049
      have f1051 : Exa Z h1049 a1 "com/example/marshalyard/marshalyard/proxy/IoBuffer" := f1041.wr W1049
      have f1052 : Fld Z h1049 a1 "com/example/marshalyard/marshalyard/proxy/IoBuffer" "bytes" "[B" (.ref a3) := f1042.other W1049 (Or.inr (slot_ne (Or.inl (hw _ (List.mem_of_getElem? (i := 24) rfl))) (Or.inl (hw _ (List.mem_of_getElem? (i := 57) rfl))) (by decide) (t := (.array .byte)) (t' := .int) (by decide) (by decide)))
      have f1053 : Fld Z h1049 a1 "com/example/marshalyard/marshalyard/proxy/IoBuffer" "end" "I" (.int e1) := f1043.other W1049 (Or.inr (slot_ne (Or.inl (hw _ (List.mem_of_getElem? (i := 35) rfl))) (Or.inl (hw _ (List.mem_of_getElem? (i := 57) rfl))) (by decide) (t := .int) (t' := .int) (by decide) (by decide)))
      have f1054 : Fld Z h1049 a1 "com/example/marshalyard/marshalyard/proxy/IoBuffer" "added" "J" (.long ad) := f1044.other W1049 (Or.inr (slot_ne (Or.inl (hw _ (List.mem_of_getElem? (i := 41) rfl))) (Or.inl (hw _ (List.mem_of_getElem? (i := 57) rfl))) (by decide) (t := .long) (t' := .int) (by decide) (by decide)))
      have f1055 : Fld Z h1049 a1 "com/example/marshalyard/marshalyard/proxy/IoBuffer" "keeping" "Z" (.int ke) := f1045.other W1049 (Or.inr (slot_ne (Or.inl (hw _ (List.mem_of_getElem? (i := 48) rfl))) (Or.inl (hw _ (List.mem_of_getElem? (i := 57) rfl))) (by decide) (t := .boolean) (t' := .int) (by decide) (by decide)))
      have f1056 : Fld Z h1049 a1 "com/example/marshalyard/marshalyard/proxy/IoBuffer" "taken" "J" (.long (ta + (p2.toInt64))) := f1046.other W1049 (Or.inr (slot_ne (Or.inl (hw _ (List.mem_of_getElem? (i := 55) rfl))) (Or.inl (hw _ (List.mem_of_getElem? (i := 57) rfl))) (by decide) (t := .long) (t' := .int) (by decide) (by decide)))
      have f1058 : Fld Z h1049 a1 "com/example/marshalyard/marshalyard/proxy/IoBuffer" "base" "I" (.int (0 : Int32)) := f1040.other W1049 (Or.inr (slot_ne (Or.inl (hw _ (List.mem_of_getElem? (i := 59) rfl))) (Or.inl (hw _ (List.mem_of_getElem? (i := 57) rfl))) (by decide) (t := .int) (t' := .int) (by decide) (by decide)))
      have N1049 := Fr.snoc X1049 N1039 g_a1
      have KK1049 : Keep h0 h1049 [a1] := KK1039.wr W1049 (Or.inl (List.mem_of_getElem? (i := 0) rfl))
      have Z1049 := Nat.le_trans Z1039 (Keep.of_wr W1049).1
      show OEnds p.tables e below G (T1049.setTop (mkF m 57 #[.val (.ref a1), .val (.int p2)] []))
      refine OEnds.st (fun _ k => XS.aloadN X1049.here hx rfl (hb hby d7_57) rfl rfl k) ?_
      show OEnds p.tables e below G (T1049.setTop (mkF m 58 #[.val (.ref a1), .val (.int p2)] [(.ref a1)]))
      refine OEnds.st (fun _ k => XS.iconst X1049.here hx rfl (hb hby d7_58) k) ?_
      show OEnds p.tables e below G (T1049.setTop (mkF m 59 #[.val (.ref a1), .val (.int p2)] [(.int (0 : Int32)), (.ref a1)]))
      obtain ⟨T1059, h1059, X1059, e1059, W1059, st1059⟩ := putF X1049 hx hZ hown (host := "") (Or.inl (hw _ (List.mem_of_getElem? (i := 34) rfl))) Via.refl e1049 f1053 f1051 (Or.inl (hw _ (List.mem_of_getElem? (i := 35) rfl))) (hw _ (List.mem_of_getElem? (i := 3) rfl)) (ty := .int) (by decide) rfl rfl (g := (mkF m 59 #[.val (.ref a1), .val (.int p2)] [(.int (0 : Int32)), (.ref a1)])) rfl rfl (hb hby d7_59)
      refine OEnds.st st1059 ?_
      have f1060 : Fld Z h1059 a1 "com/example/marshalyard/marshalyard/proxy/IoBuffer" "end" "I" (.int (0 : Int32)) := f1053.same W1059
      have f1061 : Exa Z h1059 a1 "com/example/marshalyard/marshalyard/proxy/IoBuffer" := f1051.wr W1059
      have f1062 : Fld Z h1059 a1 "com/example/marshalyard/marshalyard/proxy/IoBuffer" "bytes" "[B" (.ref a3) := f1052.other W1059 (Or.inr (slot_ne (Or.inl (hw _ (List.mem_of_getElem? (i := 24) rfl))) (Or.inl (hw _ (List.mem_of_getElem? (i := 35) rfl))) (by decide) (t := (.array .byte)) (t' := .int) (by decide) (by decide)))
      have f1064 : Fld Z h1059 a1 "com/example/marshalyard/marshalyard/proxy/IoBuffer" "added" "J" (.long ad) := f1054.other W1059 (Or.inr (slot_ne (Or.inl (hw _ (List.mem_of_getElem? (i := 41) rfl))) (Or.inl (hw _ (List.mem_of_getElem? (i := 35) rfl))) (by decide) (t := .long) (t' := .int) (by decide) (by decide)))
      have f1065 : Fld Z h1059 a1 "com/example/marshalyard/marshalyard/proxy/IoBuffer" "keeping" "Z" (.int ke) := f1055.other W1059 (Or.inr (slot_ne (Or.inl (hw _ (List.mem_of_getElem? (i := 48) rfl))) (Or.inl (hw _ (List.mem_of_getElem? (i := 35) rfl))) (by decide) (t := .boolean) (t' := .int) (by decide) (by decide)))
      have f1066 : Fld Z h1059 a1 "com/example/marshalyard/marshalyard/proxy/IoBuffer" "taken" "J" (.long (ta + (p2.toInt64))) := f1056.other W1059 (Or.inr (slot_ne (Or.inl (hw _ (List.mem_of_getElem? (i := 55) rfl))) (Or.inl (hw _ (List.mem_of_getElem? (i := 35) rfl))) (by decide) (t := .long) (t' := .int) (by decide) (by decide)))
      have f1067 : Fld Z h1059 a1 "com/example/marshalyard/marshalyard/proxy/IoBuffer" "base" "I" (.int (0 : Int32)) := f1058.other W1059 (Or.inr (slot_ne (Or.inl (hw _ (List.mem_of_getElem? (i := 59) rfl))) (Or.inl (hw _ (List.mem_of_getElem? (i := 35) rfl))) (by decide) (t := .int) (t' := .int) (by decide) (by decide)))
      have f1068 : Fld Z h1059 a1 "com/example/marshalyard/marshalyard/proxy/IoBuffer" "start" "I" (.int (0 : Int32)) := f1050.other W1059 (Or.inr (slot_ne (Or.inl (hw _ (List.mem_of_getElem? (i := 57) rfl))) (Or.inl (hw _ (List.mem_of_getElem? (i := 35) rfl))) (by decide) (t := .int) (t' := .int) (by decide) (by decide)))
      have N1059 := Fr.snoc X1059 N1049 g_a1
      have KK1059 : Keep h0 h1059 [a1] := KK1049.wr W1059 (Or.inl (List.mem_of_getElem? (i := 0) rfl))
      have Z1059 := Nat.le_trans Z1049 (Keep.of_wr W1059).1
      show OEnds p.tables e below G (T1059.setTop (mkF m 62 #[.val (.ref a1), .val (.int p2)] []))
      rw [← hG]
      have q_own_skS : own_skS ke s0 b0 e1 p2 = (0 : Int32) := by simp [own_skS, own_skB0, hc25_1024, hc44_1038]
      have q_own_skE : own_skE ke s0 b0 e1 p2 = (0 : Int32) := by simp [own_skE, own_skB0, hc25_1024, hc44_1038]
      have q_own_skB : own_skB ke s0 b0 e1 p2 = (0 : Int32) := by simp [own_skB, own_skB0, hc25_1024, hc44_1038]
      refine OEnds.retV X1059 hx hlk Bd.returns (hb hby d7_62) (by decide) (by decide) ?_
      rw [e1059]
      exact ⟨rfl, N1059, KK1059, f1061, f1062, (by rw [q_own_skS]; exact f1068), (by rw [q_own_skE]; exact f1060), (by rw [q_own_skB]; exact f1067), f1064, f1066, f1065⟩
    · -- pc 44: no
      refine OEnds.st (fun _ k => XS.icmpYes X1037.here hx rfl (pc0 := 44) (pc' := 62) rfl (hb hby d7_44) rfl (feq hc44_1038).2 (by decide) (by decide) k) ?_
      show OEnds p.tables e below G (T1037.setTop (mkF m 62 #[.val (.ref a1), .val (.int p2)] []))
      rw [← hG]
      have q_own_skS : own_skS ke s0 b0 e1 p2 = (s0 + p2) := by simp [own_skS, own_skB0, hc25_1024, hc44_1038]
      have q_own_skE : own_skE ke s0 b0 e1 p2 = e1 := by simp [own_skE, own_skB0, hc25_1024, hc44_1038]
      have q_own_skB : own_skB ke s0 b0 e1 p2 = (s0 + p2) := by simp [own_skB, own_skB0, hc25_1024, hc44_1038]
      refine OEnds.retV X1037 hx hlk Bd.returns (hb hby d7_62) (by decide) (by decide) ?_
      rw [e1037]
      exact ⟨rfl, N1026, KK1026, f1028, f1029, (by rw [q_own_skS]; exact f1035), (by rw [q_own_skE]; exact f1030), (by rw [q_own_skB]; exact f1027), f1032, f1034, f1033⟩
  · -- pc 25: no
    refine OEnds.st (fun _ k => XS.ifYes X1023.here hx rfl (pc0 := 25) (pc' := 36) rfl (hb hby d7_25) rfl ((if0 _ _).trans (feq hc25_1024).2) (by decide) (by decide) k) ?_
    show OEnds p.tables e below G (T1023.setTop (mkF m 36 #[.val (.ref a1), .val (.int p2)] []))
    refine OEnds.st (fun _ k => XS.aloadN X1023.here hx rfl (hb hby d7_36) rfl rfl k) ?_
    show OEnds p.tables e below G (T1023.setTop (mkF m 37 #[.val (.ref a1), .val (.int p2)] [(.ref a1)]))
    obtain ⟨T1069, X1069, e1069, st1069⟩ := getF X1023 hx hZ hown (host := "") (Or.inl (hw _ (List.mem_of_getElem? (i := 58) rfl))) Via.refl e1023 f1019 (g := (mkF m 37 #[.val (.ref a1), .val (.int p2)] [(.ref a1)])) rfl rfl (hb hby d7_37)
    refine OEnds.st st1069 ?_
    show OEnds p.tables e below G (T1069.setTop (mkF m 40 #[.val (.ref a1), .val (.int p2)] [(.int b0)]))
    refine OEnds.st (fun _ k => XS.aloadN X1069.here hx rfl (hb hby d7_40) rfl rfl k) ?_
    show OEnds p.tables e below G (T1069.setTop (mkF m 41 #[.val (.ref a1), .val (.int p2)] [(.ref a1), (.int b0)]))
    obtain ⟨T1070, X1070, e1070, st1070⟩ := getF X1069 hx hZ hown (host := "") (Or.inl (hw _ (List.mem_of_getElem? (i := 34) rfl))) Via.refl e1069 f1018 (g := (mkF m 41 #[.val (.ref a1), .val (.int p2)] [(.ref a1), (.int b0)])) rfl rfl (hb hby d7_41)
    refine OEnds.st st1070 ?_
    show OEnds p.tables e below G (T1070.setTop (mkF m 44 #[.val (.ref a1), .val (.int p2)] [(.int e1), (.int b0)]))
    by_cases hc44_1071 : b0 = e1
    · -- pc 44: yes
      refine OEnds.st (fun _ k => XS.icmpNo X1070.here hx rfl (hb hby d7_44) rfl (teq hc44_1071).2 k) ?_
      show OEnds p.tables e below G (T1070.setTop (mkF m 47 #[.val (.ref a1), .val (.int p2)] []))
      refine OEnds.st (fun _ k => XS.aloadN X1070.here hx rfl (hb hby d7_47) rfl rfl k) ?_
      show OEnds p.tables e below G (T1070.setTop (mkF m 48 #[.val (.ref a1), .val (.int p2)] [(.ref a1)]))
      refine OEnds.st (fun _ k => XS.iconst X1070.here hx rfl (hb hby d7_48) k) ?_
      show OEnds p.tables e below G (T1070.setTop (mkF m 49 #[.val (.ref a1), .val (.int p2)] [(.int (0 : Int32)), (.ref a1)]))
      obtain ⟨T1072, h1072, X1072, e1072, W1072, st1072⟩ := putF X1070 hx hZ hown (host := "") (Or.inl (hw _ (List.mem_of_getElem? (i := 58) rfl))) Via.refl e1070 f1019 f1015 (Or.inl (hw _ (List.mem_of_getElem? (i := 59) rfl))) (hw _ (List.mem_of_getElem? (i := 3) rfl)) (ty := .int) (by decide) rfl rfl (g := (mkF m 49 #[.val (.ref a1), .val (.int p2)] [(.int (0 : Int32)), (.ref a1)])) rfl rfl (hb hby d7_49)
      refine OEnds.st st1072 ?_
      have f1073 : Fld Z h1072 a1 "com/example/marshalyard/marshalyard/proxy/IoBuffer" "base" "I" (.int (0 : Int32)) := f1019.same W1072
      have f1074 : Exa Z h1072 a1 "com/example/marshalyard/marshalyard/proxy/IoBuffer" := f1015.wr W1072
      have f1075 : Fld Z h1072 a1 "com/example/marshalyard/marshalyard/proxy/IoBuffer" "bytes" "[B" (.ref a3) := f1016.other W1072 (Or.inr (slot_ne (Or.inl (hw _ (List.mem_of_getElem? (i := 24) rfl))) (Or.inl (hw _ (List.mem_of_getElem? (i := 59) rfl))) (by decide) (t := (.array .byte)) (t' := .int) (by decide) (by decide)))
      have f1076 : Fld Z h1072 a1 "com/example/marshalyard/marshalyard/proxy/IoBuffer" "end" "I" (.int e1) := f1018.other W1072 (Or.inr (slot_ne (Or.inl (hw _ (List.mem_of_getElem? (i := 35) rfl))) (Or.inl (hw _ (List.mem_of_getElem? (i := 59) rfl))) (by decide) (t := .int) (t' := .int) (by decide) (by decide)))
      have f1078 : Fld Z h1072 a1 "com/example/marshalyard/marshalyard/proxy/IoBuffer" "added" "J" (.long ad) := f1020.other W1072 (Or.inr (slot_ne (Or.inl (hw _ (List.mem_of_getElem? (i := 41) rfl))) (Or.inl (hw _ (List.mem_of_getElem? (i := 59) rfl))) (by decide) (t := .long) (t' := .int) (by decide) (by decide)))
      have f1079 : Fld Z h1072 a1 "com/example/marshalyard/marshalyard/proxy/IoBuffer" "keeping" "Z" (.int ke) := f1021.other W1072 (Or.inr (slot_ne (Or.inl (hw _ (List.mem_of_getElem? (i := 48) rfl))) (Or.inl (hw _ (List.mem_of_getElem? (i := 59) rfl))) (by decide) (t := .boolean) (t' := .int) (by decide) (by decide)))
      have f1080 : Fld Z h1072 a1 "com/example/marshalyard/marshalyard/proxy/IoBuffer" "taken" "J" (.long (ta + (p2.toInt64))) := f1022.other W1072 (Or.inr (slot_ne (Or.inl (hw _ (List.mem_of_getElem? (i := 55) rfl))) (Or.inl (hw _ (List.mem_of_getElem? (i := 59) rfl))) (by decide) (t := .long) (t' := .int) (by decide) (by decide)))
      have f1081 : Fld Z h1072 a1 "com/example/marshalyard/marshalyard/proxy/IoBuffer" "start" "I" (.int (s0 + p2)) := f1014.other W1072 (Or.inr (slot_ne (Or.inl (hw _ (List.mem_of_getElem? (i := 57) rfl))) (Or.inl (hw _ (List.mem_of_getElem? (i := 59) rfl))) (by decide) (t := .int) (t' := .int) (by decide) (by decide)))
      have N1072 := Fr.snoc X1072 N1013 g_a1
      have KK1072 : Keep h0 h1072 [a1] := KK1013.wr W1072 (Or.inl (List.mem_of_getElem? (i := 0) rfl))
      have Z1072 := Nat.le_trans Z1013 (Keep.of_wr W1072).1
      show OEnds p.tables e below G (T1072.setTop (mkF m 52 #[.val (.ref a1), .val (.int p2)] []))
      refine OEnds.st (fun _ k => XS.aloadN X1072.here hx rfl (hb hby d7_52) rfl rfl k) ?_
      show OEnds p.tables e below G (T1072.setTop (mkF m 53 #[.val (.ref a1), .val (.int p2)] [(.ref a1)]))
      refine OEnds.st (fun _ k => XS.iconst X1072.here hx rfl (hb hby d7_53) k) ?_
      show OEnds p.tables e below G (T1072.setTop (mkF m 54 #[.val (.ref a1), .val (.int p2)] [(.int (0 : Int32)), (.ref a1)]))
      obtain ⟨T1082, h1082, X1082, e1082, W1082, st1082⟩ := putF X1072 hx hZ hown (host := "") (Or.inl (hw _ (List.mem_of_getElem? (i := 56) rfl))) Via.refl e1072 f1081 f1074 (Or.inl (hw _ (List.mem_of_getElem? (i := 57) rfl))) (hw _ (List.mem_of_getElem? (i := 3) rfl)) (ty := .int) (by decide) rfl rfl (g := (mkF m 54 #[.val (.ref a1), .val (.int p2)] [(.int (0 : Int32)), (.ref a1)])) rfl rfl (hb hby d7_54)
      refine OEnds.st st1082 ?_
      have f1083 : Fld Z h1082 a1 "com/example/marshalyard/marshalyard/proxy/IoBuffer" "start" "I" (.int (0 : Int32)) := f1081.same W1082
      have f1084 : Exa Z h1082 a1 "com/example/marshalyard/marshalyard/proxy/IoBuffer" := f1074.wr W1082
      have f1085 : Fld Z h1082 a1 "com/example/marshalyard/marshalyard/proxy/IoBuffer" "bytes" "[B" (.ref a3) := f1075.other W1082 (Or.inr (slot_ne (Or.inl (hw _ (List.mem_of_getElem? (i := 24) rfl))) (Or.inl (hw _ (List.mem_of_getElem? (i := 57) rfl))) (by decide) (t := (.array .byte)) (t' := .int) (by decide) (by decide)))
      have f1086 : Fld Z h1082 a1 "com/example/marshalyard/marshalyard/proxy/IoBuffer" "end" "I" (.int e1) := f1076.other W1082 (Or.inr (slot_ne (Or.inl (hw _ (List.mem_of_getElem? (i := 35) rfl))) (Or.inl (hw _ (List.mem_of_getElem? (i := 57) rfl))) (by decide) (t := .int) (t' := .int) (by decide) (by decide)))
      have f1087 : Fld Z h1082 a1 "com/example/marshalyard/marshalyard/proxy/IoBuffer" "added" "J" (.long ad) := f1078.other W1082 (Or.inr (slot_ne (Or.inl (hw _ (List.mem_of_getElem? (i := 41) rfl))) (Or.inl (hw _ (List.mem_of_getElem? (i := 57) rfl))) (by decide) (t := .long) (t' := .int) (by decide) (by decide)))
      have f1088 : Fld Z h1082 a1 "com/example/marshalyard/marshalyard/proxy/IoBuffer" "keeping" "Z" (.int ke) := f1079.other W1082 (Or.inr (slot_ne (Or.inl (hw _ (List.mem_of_getElem? (i := 48) rfl))) (Or.inl (hw _ (List.mem_of_getElem? (i := 57) rfl))) (by decide) (t := .boolean) (t' := .int) (by decide) (by decide)))
      have f1089 : Fld Z h1082 a1 "com/example/marshalyard/marshalyard/proxy/IoBuffer" "taken" "J" (.long (ta + (p2.toInt64))) := f1080.other W1082 (Or.inr (slot_ne (Or.inl (hw _ (List.mem_of_getElem? (i := 55) rfl))) (Or.inl (hw _ (List.mem_of_getElem? (i := 57) rfl))) (by decide) (t := .long) (t' := .int) (by decide) (by decide)))
      have f1091 : Fld Z h1082 a1 "com/example/marshalyard/marshalyard/proxy/IoBuffer" "base" "I" (.int (0 : Int32)) := f1073.other W1082 (Or.inr (slot_ne (Or.inl (hw _ (List.mem_of_getElem? (i := 59) rfl))) (Or.inl (hw _ (List.mem_of_getElem? (i := 57) rfl))) (by decide) (t := .int) (t' := .int) (by decide) (by decide)))
      have N1082 := Fr.snoc X1082 N1072 g_a1
      have KK1082 : Keep h0 h1082 [a1] := KK1072.wr W1082 (Or.inl (List.mem_of_getElem? (i := 0) rfl))
      have Z1082 := Nat.le_trans Z1072 (Keep.of_wr W1082).1
      show OEnds p.tables e below G (T1082.setTop (mkF m 57 #[.val (.ref a1), .val (.int p2)] []))
      refine OEnds.st (fun _ k => XS.aloadN X1082.here hx rfl (hb hby d7_57) rfl rfl k) ?_
      show OEnds p.tables e below G (T1082.setTop (mkF m 58 #[.val (.ref a1), .val (.int p2)] [(.ref a1)]))
      refine OEnds.st (fun _ k => XS.iconst X1082.here hx rfl (hb hby d7_58) k) ?_
      show OEnds p.tables e below G (T1082.setTop (mkF m 59 #[.val (.ref a1), .val (.int p2)] [(.int (0 : Int32)), (.ref a1)]))
      obtain ⟨T1092, h1092, X1092, e1092, W1092, st1092⟩ := putF X1082 hx hZ hown (host := "") (Or.inl (hw _ (List.mem_of_getElem? (i := 34) rfl))) Via.refl e1082 f1086 f1084 (Or.inl (hw _ (List.mem_of_getElem? (i := 35) rfl))) (hw _ (List.mem_of_getElem? (i := 3) rfl)) (ty := .int) (by decide) rfl rfl (g := (mkF m 59 #[.val (.ref a1), .val (.int p2)] [(.int (0 : Int32)), (.ref a1)])) rfl rfl (hb hby d7_59)
      refine OEnds.st st1092 ?_
      have f1093 : Fld Z h1092 a1 "com/example/marshalyard/marshalyard/proxy/IoBuffer" "end" "I" (.int (0 : Int32)) := f1086.same W1092
      have f1094 : Exa Z h1092 a1 "com/example/marshalyard/marshalyard/proxy/IoBuffer" := f1084.wr W1092
      have f1095 : Fld Z h1092 a1 "com/example/marshalyard/marshalyard/proxy/IoBuffer" "bytes" "[B" (.ref a3) := f1085.other W1092 (Or.inr (slot_ne (Or.inl (hw _ (List.mem_of_getElem? (i := 24) rfl))) (Or.inl (hw _ (List.mem_of_getElem? (i := 35) rfl))) (by decide) (t := (.array .byte)) (t' := .int) (by decide) (by decide)))
      have f1097 : Fld Z h1092 a1 "com/example/marshalyard/marshalyard/proxy/IoBuffer" "added" "J" (.long ad) := f1087.other W1092 (Or.inr (slot_ne (Or.inl (hw _ (List.mem_of_getElem? (i := 41) rfl))) (Or.inl (hw _ (List.mem_of_getElem? (i := 35) rfl))) (by decide) (t := .long) (t' := .int) (by decide) (by decide)))
      have f1098 : Fld Z h1092 a1 "com/example/marshalyard/marshalyard/proxy/IoBuffer" "keeping" "Z" (.int ke) := f1088.other W1092 (Or.inr (slot_ne (Or.inl (hw _ (List.mem_of_getElem? (i := 48) rfl))) (Or.inl (hw _ (List.mem_of_getElem? (i := 35) rfl))) (by decide) (t := .boolean) (t' := .int) (by decide) (by decide)))
      have f1099 : Fld Z h1092 a1 "com/example/marshalyard/marshalyard/proxy/IoBuffer" "taken" "J" (.long (ta + (p2.toInt64))) := f1089.other W1092 (Or.inr (slot_ne (Or.inl (hw _ (List.mem_of_getElem? (i := 55) rfl))) (Or.inl (hw _ (List.mem_of_getElem? (i := 35) rfl))) (by decide) (t := .long) (t' := .int) (by decide) (by decide)))
      have f1100 : Fld Z h1092 a1 "com/example/marshalyard/marshalyard/proxy/IoBuffer" "base" "I" (.int (0 : Int32)) := f1091.other W1092 (Or.inr (slot_ne (Or.inl (hw _ (List.mem_of_getElem? (i := 59) rfl))) (Or.inl (hw _ (List.mem_of_getElem? (i := 35) rfl))) (by decide) (t := .int) (t' := .int) (by decide) (by decide)))
      have f1101 : Fld Z h1092 a1 "com/example/marshalyard/marshalyard/proxy/IoBuffer" "start" "I" (.int (0 : Int32)) := f1083.other W1092 (Or.inr (slot_ne (Or.inl (hw _ (List.mem_of_getElem? (i := 57) rfl))) (Or.inl (hw _ (List.mem_of_getElem? (i := 35) rfl))) (by decide) (t := .int) (t' := .int) (by decide) (by decide)))
      have N1092 := Fr.snoc X1092 N1082 g_a1
      have KK1092 : Keep h0 h1092 [a1] := KK1082.wr W1092 (Or.inl (List.mem_of_getElem? (i := 0) rfl))
      have Z1092 := Nat.le_trans Z1082 (Keep.of_wr W1092).1
      show OEnds p.tables e below G (T1092.setTop (mkF m 62 #[.val (.ref a1), .val (.int p2)] []))
      rw [← hG]
      have q_own_skS : own_skS ke s0 b0 e1 p2 = (0 : Int32) := by simp [own_skS, own_skB0, hc25_1024, hc44_1071]
      have q_own_skE : own_skE ke s0 b0 e1 p2 = (0 : Int32) := by simp [own_skE, own_skB0, hc25_1024, hc44_1071]
      have q_own_skB : own_skB ke s0 b0 e1 p2 = (0 : Int32) := by simp [own_skB, own_skB0, hc25_1024, hc44_1071]
      refine OEnds.retV X1092 hx hlk Bd.returns (hb hby d7_62) (by decide) (by decide) ?_
      rw [e1092]
      exact ⟨rfl, N1092, KK1092, f1094, f1095, (by rw [q_own_skS]; exact f1101), (by rw [q_own_skE]; exact f1093), (by rw [q_own_skB]; exact f1100), f1097, f1099, f1098⟩
    · -- pc 44: no
      refine OEnds.st (fun _ k => XS.icmpYes X1070.here hx rfl (pc0 := 44) (pc' := 62) rfl (hb hby d7_44) rfl (feq hc44_1071).2 (by decide) (by decide) k) ?_
      show OEnds p.tables e below G (T1070.setTop (mkF m 62 #[.val (.ref a1), .val (.int p2)] []))
      rw [← hG]
      have q_own_skS : own_skS ke s0 b0 e1 p2 = (s0 + p2) := by simp [own_skS, own_skB0, hc25_1024, hc44_1071]
      have q_own_skE : own_skE ke s0 b0 e1 p2 = e1 := by simp [own_skE, own_skB0, hc25_1024, hc44_1071]
      have q_own_skB : own_skB ke s0 b0 e1 p2 = b0 := by simp [own_skB, own_skB0, hc25_1024, hc44_1071]
      refine OEnds.retV X1070 hx hlk Bd.returns (hb hby d7_62) (by decide) (by decide) ?_
      rw [e1070]
      exact ⟨rfl, N1013, KK1013, f1015, f1016, (by rw [q_own_skS]; exact f1014), (by rw [q_own_skE]; exact f1018), (by rw [q_own_skB]; exact f1019), f1020, f1022, f1021⟩
theorem d8_0 : decode prog_79_method_10_code 0 = .ok (.aload_n 0, 1) := by decide +kernel
theorem d8_1 : decode prog_79_method_10_code 1 = .ok (.getfield 35, 3) := by decide +kernel
theorem d8_4 : decode prog_79_method_10_code 4 = .ok (.lreturn, 1) := by decide +kernel
theorem ef_8 (m : MethodId) (a1 : Addr) : entryFrame m #[(.ref a1)] 1 = mkF m 0 #[.val (.ref a1)] [] := by first | (simp [entryFrame, mkF, argsToLocals, Value.category]; done) | rfl
def Q8 (Z : State) (a1 : Addr) (t : Int64) (h0 : Heap) (n0 : Nat) (v : Option Value) (h : Heap) (L : List Loc) : Prop := v = some (.long t) ∧ Fr n0 L ∧ h = h0
set_option maxRecDepth 65536 in
set_option maxHeartbeats 40000000 in
theorem rm8 (l : Launch) (Z : State) (a0 : Array Value) (hw : ∀ d ∈ tables_1, d.before a0 Z = true) (ws : List Jvm.Cond) (a1 : Addr) (t : Int64) (h0 : Heap) (n0 : Nat) (Z0 : n0 ≤ h0.size) (F1 : Fld Z h0 a1 "com/example/marshalyard/marshalyard/proxy/IoBuffer" "taken" "J" (.long t)) :
    MetFree l (⟨"com/example/marshalyard/marshalyard/proxy/IoBuffer", "taken", "()J"⟩ : MethodName) (head1 (Jvm.Cond.code (⟨"com/example/marshalyard/marshalyard/proxy/IoBuffer", "taken", "()J"⟩ : MethodName) prog_79_method_10_code 1 (some .long) :: ws) ({ frames := 0, cells := 0, slots := 0, locals := 0 } : Room)) (fun a U => a = #[(.ref a1)] ∧ Z.Warmed39 U.vm ∧ U.heap = h0) (fun _ _ _ _ _ => True) (fun _ U o U' => ∃ v L, o = .returned v ∧ Q8 Z a1 t h0 n0 v U'.heap L ∧ FrameEnd U o U' L ({ frames := 0, cells := 0, slots := 0, locals := 0 } : Room).cells ({ frames := 0, cells := 0, slots := 0, locals := 0 } : Room).slots) := by
  refine MetFree.of_bodySF (plainFor_of_name pn_1) hisR ?_
  intro p e s m args below meth c s₁ Bd hml0 hP hK
  obtain ⟨rfl, hZ, hh⟩ := hP
  have hx := Bd.exec
  have hby := Bd.bytes
  have hml : c.maxLocals = 1 := hml0
  have hown : s.vm.findClass "com/example/marshalyard/marshalyard/proxy/IoBuffer" = some m.cls := findClass_of_methodNamed Bd.named
  have hnm := (name_of_methodNamed Bd.named Bd.method).1
  have hlk : meth.locks = false := BodyLoose.notSynchronized Bd
  have X0 : Stand p l e ({ frames := 0, cells := 0, slots := 0, locals := 0 } : Room) s m #[(.ref a1)] below meth c s₁ [] 0 0 := Stand.of_body Bd
  have e0 : s₁.heap = h0 := by rw [← hh, Bd.state]; rfl
  have N0 := Fr.nil n0
  show OEnds p.tables e below (OGoal (Q8 Z a1 t h0 n0) s 0 0) (s₁.setTop (entryFrame m #[(.ref a1)] 1))
  refine OEnds.st (fun t k => castTop (ef_8 m a1) k) ?_
  generalize hG : OGoal (Q8 Z a1 t h0 n0) s 0 0 = G
  have KK0 : Keep h0 h0 [] := Keep.refl h0 []
  show OEnds p.tables e below G (s₁.setTop (mkF m 0 #[.val (.ref a1)] []))
  refine OEnds.st (fun _ k => XS.aloadN X0.here hx rfl (hb hby d8_0) rfl rfl k) ?_
  show OEnds p.tables e below G (s₁.setTop (mkF m 1 #[.val (.ref a1)] [(.ref a1)]))
  obtain ⟨T1001, X1001, e1001, st1001⟩ := getF X0 hx hZ hown (host := "") (Or.inl (hw _ (List.mem_of_getElem? (i := 54) rfl))) Via.refl e0 F1 (g := (mkF m 1 #[.val (.ref a1)] [(.ref a1)])) rfl rfl (hb hby d8_1)
  refine OEnds.st st1001 ?_
  show OEnds p.tables e below G (T1001.setTop (mkF m 4 #[.val (.ref a1)] [(.long t)]))
  rw [← hG]
  refine OEnds.retJ X1001 hx hlk Bd.returns (hb hby d8_4) (by decide) (by decide) ?_
  rw [e1001]
  exact ⟨rfl, N0, rfl⟩
theorem d9_0 : decode prog_79_method_3_code 0 = .ok (.aload_n 0, 1) := by decide +kernel
theorem d9_1 : decode prog_79_method_3_code 1 = .ok (.getfield 17, 3) := by decide +kernel
theorem d9_4 : decode prog_79_method_3_code 4 = .ok (.ireturn, 1) := by decide +kernel
theorem ef_9 (m : MethodId) (a1 : Addr) : entryFrame m #[(.ref a1)] 1 = mkF m 0 #[.val (.ref a1)] [] := by first | (simp [entryFrame, mkF, argsToLocals, Value.category]; done) | rfl
def Q9 (Z : State) (a1 : Addr) (t : Int32) (h0 : Heap) (n0 : Nat) (v : Option Value) (h : Heap) (L : List Loc) : Prop := v = some (.int t) ∧ Fr n0 L ∧ h = h0
set_option maxRecDepth 65536 in
set_option maxHeartbeats 40000000 in
theorem rm9 (l : Launch) (Z : State) (a0 : Array Value) (hw : ∀ d ∈ tables_1, d.before a0 Z = true) (ws : List Jvm.Cond) (a1 : Addr) (t : Int32) (h0 : Heap) (n0 : Nat) (Z0 : n0 ≤ h0.size) (F1 : Fld Z h0 a1 "com/example/marshalyard/marshalyard/proxy/IoBuffer" "start" "I" (.int t)) :
    MetFree l (⟨"com/example/marshalyard/marshalyard/proxy/IoBuffer", "start", "()I"⟩ : MethodName) (head1 (Jvm.Cond.code (⟨"com/example/marshalyard/marshalyard/proxy/IoBuffer", "start", "()I"⟩ : MethodName) prog_79_method_3_code 1 (some .int) :: ws) ({ frames := 0, cells := 0, slots := 0, locals := 0 } : Room)) (fun a U => a = #[(.ref a1)] ∧ Z.Warmed39 U.vm ∧ U.heap = h0) (fun _ _ _ _ _ => True) (fun _ U o U' => ∃ v L, o = .returned v ∧ Q9 Z a1 t h0 n0 v U'.heap L ∧ FrameEnd U o U' L ({ frames := 0, cells := 0, slots := 0, locals := 0 } : Room).cells ({ frames := 0, cells := 0, slots := 0, locals := 0 } : Room).slots) := by
  refine MetFree.of_bodySF (plainFor_of_name pn_1) hisR ?_
  intro p e s m args below meth c s₁ Bd hml0 hP hK
  obtain ⟨rfl, hZ, hh⟩ := hP
  have hx := Bd.exec
  have hby := Bd.bytes
  have hml : c.maxLocals = 1 := hml0
  have hown : s.vm.findClass "com/example/marshalyard/marshalyard/proxy/IoBuffer" = some m.cls := findClass_of_methodNamed Bd.named
  have hnm := (name_of_methodNamed Bd.named Bd.method).1
  have hlk : meth.locks = false := BodyLoose.notSynchronized Bd
  have X0 : Stand p l e ({ frames := 0, cells := 0, slots := 0, locals := 0 } : Room) s m #[(.ref a1)] below meth c s₁ [] 0 0 := Stand.of_body Bd
  have e0 : s₁.heap = h0 := by rw [← hh, Bd.state]; rfl
  have N0 := Fr.nil n0
  show OEnds p.tables e below (OGoal (Q9 Z a1 t h0 n0) s 0 0) (s₁.setTop (entryFrame m #[(.ref a1)] 1))
  refine OEnds.st (fun t k => castTop (ef_9 m a1) k) ?_
  generalize hG : OGoal (Q9 Z a1 t h0 n0) s 0 0 = G
  have KK0 : Keep h0 h0 [] := Keep.refl h0 []
  show OEnds p.tables e below G (s₁.setTop (mkF m 0 #[.val (.ref a1)] []))
  refine OEnds.st (fun _ k => XS.aloadN X0.here hx rfl (hb hby d9_0) rfl rfl k) ?_
  show OEnds p.tables e below G (s₁.setTop (mkF m 1 #[.val (.ref a1)] [(.ref a1)]))
  obtain ⟨T1001, X1001, e1001, st1001⟩ := getF X0 hx hZ hown (host := "") (Or.inl (hw _ (List.mem_of_getElem? (i := 56) rfl))) Via.refl e0 F1 (g := (mkF m 1 #[.val (.ref a1)] [(.ref a1)])) rfl rfl (hb hby d9_1)
  refine OEnds.st st1001 ?_
  show OEnds p.tables e below G (T1001.setTop (mkF m 4 #[.val (.ref a1)] [(.int t)]))
  rw [← hG]
  refine OEnds.retI X1001 hx hlk Bd.returns (hb hby d9_4) (by decide) (by decide) ?_
  rw [e1001]
  exact ⟨rfl, N0, rfl⟩
theorem d10_0 : decode prog_79_method_4_code 0 = .ok (.aload_n 0, 1) := by decide +kernel
theorem d10_1 : decode prog_79_method_4_code 1 = .ok (.getfield 21, 3) := by decide +kernel
theorem d10_4 : decode prog_79_method_4_code 4 = .ok (.ireturn, 1) := by decide +kernel
theorem ef_10 (m : MethodId) (a1 : Addr) : entryFrame m #[(.ref a1)] 1 = mkF m 0 #[.val (.ref a1)] [] := by first | (simp [entryFrame, mkF, argsToLocals, Value.category]; done) | rfl
def Q10 (Z : State) (a1 : Addr) (t : Int32) (h0 : Heap) (n0 : Nat) (v : Option Value) (h : Heap) (L : List Loc) : Prop := v = some (.int t) ∧ Fr n0 L ∧ h = h0
set_option maxRecDepth 65536 in
set_option maxHeartbeats 40000000 in
theorem rm10 (l : Launch) (Z : State) (a0 : Array Value) (hw : ∀ d ∈ tables_1, d.before a0 Z = true) (ws : List Jvm.Cond) (a1 : Addr) (t : Int32) (h0 : Heap) (n0 : Nat) (Z0 : n0 ≤ h0.size) (F1 : Fld Z h0 a1 "com/example/marshalyard/marshalyard/proxy/IoBuffer" "end" "I" (.int t)) :
    MetFree l (⟨"com/example/marshalyard/marshalyard/proxy/IoBuffer", "end", "()I"⟩ : MethodName) (head1 (Jvm.Cond.code (⟨"com/example/marshalyard/marshalyard/proxy/IoBuffer", "end", "()I"⟩ : MethodName) prog_79_method_4_code 1 (some .int) :: ws) ({ frames := 0, cells := 0, slots := 0, locals := 0 } : Room)) (fun a U => a = #[(.ref a1)] ∧ Z.Warmed39 U.vm ∧ U.heap = h0) (fun _ _ _ _ _ => True) (fun _ U o U' => ∃ v L, o = .returned v ∧ Q10 Z a1 t h0 n0 v U'.heap L ∧ FrameEnd U o U' L ({ frames := 0, cells := 0, slots := 0, locals := 0 } : Room).cells ({ frames := 0, cells := 0, slots := 0, locals := 0 } : Room).slots) := by
  refine MetFree.of_bodySF (plainFor_of_name pn_1) hisR ?_
  intro p e s m args below meth c s₁ Bd hml0 hP hK
  obtain ⟨rfl, hZ, hh⟩ := hP
  have hx := Bd.exec
  have hby := Bd.bytes
  have hml : c.maxLocals = 1 := hml0
  have hown : s.vm.findClass "com/example/marshalyard/marshalyard/proxy/IoBuffer" = some m.cls := findClass_of_methodNamed Bd.named
  have hnm := (name_of_methodNamed Bd.named Bd.method).1
  have hlk : meth.locks = false := BodyLoose.notSynchronized Bd
  have X0 : Stand p l e ({ frames := 0, cells := 0, slots := 0, locals := 0 } : Room) s m #[(.ref a1)] below meth c s₁ [] 0 0 := Stand.of_body Bd
  have e0 : s₁.heap = h0 := by rw [← hh, Bd.state]; rfl
  have N0 := Fr.nil n0
  show OEnds p.tables e below (OGoal (Q10 Z a1 t h0 n0) s 0 0) (s₁.setTop (entryFrame m #[(.ref a1)] 1))
  refine OEnds.st (fun t k => castTop (ef_10 m a1) k) ?_
  generalize hG : OGoal (Q10 Z a1 t h0 n0) s 0 0 = G
  have KK0 : Keep h0 h0 [] := Keep.refl h0 []
  show OEnds p.tables e below G (s₁.setTop (mkF m 0 #[.val (.ref a1)] []))
  refine OEnds.st (fun _ k => XS.aloadN X0.here hx rfl (hb hby d10_0) rfl rfl k) ?_
  show OEnds p.tables e below G (s₁.setTop (mkF m 1 #[.val (.ref a1)] [(.ref a1)]))
  obtain ⟨T1001, X1001, e1001, st1001⟩ := getF X0 hx hZ hown (host := "") (Or.inl (hw _ (List.mem_of_getElem? (i := 34) rfl))) Via.refl e0 F1 (g := (mkF m 1 #[.val (.ref a1)] [(.ref a1)])) rfl rfl (hb hby d10_1)
  refine OEnds.st st1001 ?_
  show OEnds p.tables e below G (T1001.setTop (mkF m 4 #[.val (.ref a1)] [(.int t)]))
  rw [← hG]
  refine OEnds.retI X1001 hx hlk Bd.returns (hb hby d10_4) (by decide) (by decide) ?_
  rw [e1001]
  exact ⟨rfl, N0, rfl⟩
theorem d11_0 : decode prog_79_method_8_code 0 = .ok (.aload_n 0, 1) := by decide +kernel
theorem d11_1 : decode prog_79_method_8_code 1 = .ok (.getfield 17, 3) := by decide +kernel
theorem d11_4 : decode prog_79_method_8_code 4 = .ok (.aload_n 0, 1) := by decide +kernel
theorem d11_5 : decode prog_79_method_8_code 5 = .ok (.getfield 28, 3) := by decide +kernel
theorem d11_8 : decode prog_79_method_8_code 8 = .ok (.isub, 1) := by decide +kernel
theorem d11_9 : decode prog_79_method_8_code 9 = .ok (.ireturn, 1) := by decide +kernel
theorem ef_11 (m : MethodId) (a1 : Addr) : entryFrame m #[(.ref a1)] 1 = mkF m 0 #[.val (.ref a1)] [] := by first | (simp [entryFrame, mkF, argsToLocals, Value.category]; done) | rfl
def Q11 (Z : State) (a1 : Addr) (t : Int32) (u : Int32) (h0 : Heap) (n0 : Nat) (v : Option Value) (h : Heap) (L : List Loc) : Prop := v = some (.int (t - u)) ∧ Fr n0 L ∧ h = h0
set_option maxRecDepth 65536 in
set_option maxHeartbeats 40000000 in
theorem rm11 (l : Launch) (Z : State) (a0 : Array Value) (hw : ∀ d ∈ tables_1, d.before a0 Z = true) (ws : List Jvm.Cond) (a1 : Addr) (t : Int32) (u : Int32) (h0 : Heap) (n0 : Nat) (Z0 : n0 ≤ h0.size) (F1 : Fld Z h0 a1 "com/example/marshalyard/marshalyard/proxy/IoBuffer" "start" "I" (.int t)) (F2 : Fld Z h0 a1 "com/example/marshalyard/marshalyard/proxy/IoBuffer" "base" "I" (.int u)) :
    MetFree l (⟨"com/example/marshalyard/marshalyard/proxy/IoBuffer", "kept", "()I"⟩ : MethodName) (head1 (Jvm.Cond.code (⟨"com/example/marshalyard/marshalyard/proxy/IoBuffer", "kept", "()I"⟩ : MethodName) prog_79_method_8_code 1 (some .int) :: ws) ({ frames := 0, cells := 0, slots := 0, locals := 0 } : Room)) (fun a U => a = #[(.ref a1)] ∧ Z.Warmed39 U.vm ∧ U.heap = h0) (fun _ _ _ _ _ => True) (fun _ U o U' => ∃ v L, o = .returned v ∧ Q11 Z a1 t u h0 n0 v U'.heap L ∧ FrameEnd U o U' L ({ frames := 0, cells := 0, slots := 0, locals := 0 } : Room).cells ({ frames := 0, cells := 0, slots := 0, locals := 0 } : Room).slots) := by
  refine MetFree.of_bodySF (plainFor_of_name pn_1) hisR ?_
  intro p e s m args below meth c s₁ Bd hml0 hP hK
  obtain ⟨rfl, hZ, hh⟩ := hP
  have hx := Bd.exec
  have hby := Bd.bytes
  have hml : c.maxLocals = 1 := hml0
  have hown : s.vm.findClass "com/example/marshalyard/marshalyard/proxy/IoBuffer" = some m.cls := findClass_of_methodNamed Bd.named
  have hnm := (name_of_methodNamed Bd.named Bd.method).1
  have hlk : meth.locks = false := BodyLoose.notSynchronized Bd
  have X0 : Stand p l e ({ frames := 0, cells := 0, slots := 0, locals := 0 } : Room) s m #[(.ref a1)] below meth c s₁ [] 0 0 := Stand.of_body Bd
  have e0 : s₁.heap = h0 := by rw [← hh, Bd.state]; rfl
  have N0 := Fr.nil n0
  show OEnds p.tables e below (OGoal (Q11 Z a1 t u h0 n0) s 0 0) (s₁.setTop (entryFrame m #[(.ref a1)] 1))
  refine OEnds.st (fun t k => castTop (ef_11 m a1) k) ?_
  generalize hG : OGoal (Q11 Z a1 t u h0 n0) s 0 0 = G
  have KK0 : Keep h0 h0 [] := Keep.refl h0 []
  show OEnds p.tables e below G (s₁.setTop (mkF m 0 #[.val (.ref a1)] []))
  refine OEnds.st (fun _ k => XS.aloadN X0.here hx rfl (hb hby d11_0) rfl rfl k) ?_
  show OEnds p.tables e below G (s₁.setTop (mkF m 1 #[.val (.ref a1)] [(.ref a1)]))
  obtain ⟨T1001, X1001, e1001, st1001⟩ := getF X0 hx hZ hown (host := "") (Or.inl (hw _ (List.mem_of_getElem? (i := 56) rfl))) Via.refl e0 F1 (g := (mkF m 1 #[.val (.ref a1)] [(.ref a1)])) rfl rfl (hb hby d11_1)
  refine OEnds.st st1001 ?_
  show OEnds p.tables e below G (T1001.setTop (mkF m 4 #[.val (.ref a1)] [(.int t)]))
  refine OEnds.st (fun _ k => XS.aloadN X1001.here hx rfl (hb hby d11_4) rfl rfl k) ?_
  show OEnds p.tables e below G (T1001.setTop (mkF m 5 #[.val (.ref a1)] [(.ref a1), (.int t)]))
  obtain ⟨T1002, X1002, e1002, st1002⟩ := getF X1001 hx hZ hown (host := "") (Or.inl (hw _ (List.mem_of_getElem? (i := 58) rfl))) Via.refl e1001 F2 (g := (mkF m 5 #[.val (.ref a1)] [(.ref a1), (.int t)])) rfl rfl (hb hby d11_5)
  refine OEnds.st st1002 ?_
  show OEnds p.tables e below G (T1002.setTop (mkF m 8 #[.val (.ref a1)] [(.int u), (.int t)]))
  refine OEnds.st (fun _ k => XS.isub X1002.here hx rfl (hb hby d11_8) rfl k) ?_
  show OEnds p.tables e below G (T1002.setTop (mkF m 9 #[.val (.ref a1)] [(.int (t - u))]))
  rw [← hG]
  refine OEnds.retI X1002 hx hlk Bd.returns (hb hby d11_9) (by decide) (by decide) ?_
  rw [e1002]
  exact ⟨rfl, N0, rfl⟩
theorem pn_2 : plainName "com/example/marshalyard/marshalyard/proxy/IoBufferSkipPinLaw" = true := by first | (simp [plainName, overriddenIn]; done) | decide +kernel
theorem ef_0 (m : MethodId) (p1 : Int32) (p2 : Int32) (p3 : Int32) (p4 : Int32) : entryFrame m #[(.int p1), (.int p2), (.int p3), (.int p4)] maxLocals = mkF m 0 #[.val (.int p1), .val (.int p2), .val (.int p3), .val (.int p4), .unset, .unset, .unset, .unset, .unset, .unset, .unset, .unset, .unset, .unset] [] := by first | (simp [entryFrame, mkF, argsToLocals, Value.category, maxLocals]; done) | rfl
def Q0 (Z : State) (p1 : Int32) (p2 : Int32) (p3 : Int32) (p4 : Int32) (h0 : Heap) (n0 : Nat) (v : Option Value) (h : Heap) (L : List Loc) : Prop := v = some (.int (1 : Int32)) ∧ Fr n0 L
theorem pd_1 : parseMethodDescriptor "(J)V" = some ⟨[.long], none⟩ := by decide +kernel
theorem pd_2 : parseMethodDescriptor "(Lcom/example/marshalyard/marshalyard/proxy/MemoryBudget;I)V" = some ⟨[(.object "com/example/marshalyard/marshalyard/proxy/MemoryBudget"), .int], none⟩ := by decide +kernel
theorem pd_3 : parseMethodDescriptor "([BII)V" = some ⟨[(.array .byte), .int, .int], none⟩ := by decide +kernel
theorem pd_4 : parseMethodDescriptor "()J" = some ⟨[], some .long⟩ := by decide +kernel
theorem pd_5 : parseMethodDescriptor "()I" = some ⟨[], some .int⟩ := by decide +kernel
theorem pd_6 : parseMethodDescriptor "()V" = some ⟨[], none⟩ := by decide +kernel
set_option maxRecDepth 65536 in
set_option maxHeartbeats 40000000 in
theorem rm0 (l : Launch) (Z : State) (a0 : Array Value) (hw : ∀ d ∈ tables_1, d.before a0 Z = true) (ws : List Jvm.Cond) (p1 : Int32) (p2 : Int32) (p3 : Int32) (p4 : Int32) (h0 : Heap) (n0 : Nat) (Z0 : n0 ≤ h0.size) :
    MetFree l x (head1 (Jvm.Cond.code x code maxLocals ret :: ws) room_1) (fun a U => a = #[(.int p1), (.int p2), (.int p3), (.int p4)] ∧ Z.Warmed39 U.vm ∧ U.heap = h0) (fun _ _ _ _ _ => True) (fun _ U o U' => ∃ v L, o = .returned v ∧ Q0 Z p1 p2 p3 p4 h0 n0 v U'.heap L ∧ FrameEnd U o U' L room_1.cells room_1.slots) := by
  refine MetFree.of_bodySF (plainFor_of_name pn_2) hisR ?_
  intro p e s m args below meth c s₁ Bd hml0 hP hK
  obtain ⟨rfl, hZ, hh⟩ := hP
  have hx := Bd.exec
  have hby := Bd.bytes
  have hml : c.maxLocals = 14 := hml0
  have hown : s.vm.findClass "com/example/marshalyard/marshalyard/proxy/IoBufferSkipPinLaw" = some m.cls := findClass_of_methodNamed Bd.named
  have hnm := (name_of_methodNamed Bd.named Bd.method).1
  have hlk : meth.locks = false := BodyLoose.notSynchronized Bd
  have X0 : Stand p l e room_1 s m #[(.int p1), (.int p2), (.int p3), (.int p4)] below meth c s₁ [] 0 0 := Stand.of_body Bd
  have e0 : s₁.heap = h0 := by rw [← hh, Bd.state]; rfl
  have N0 := Fr.nil n0
  show OEnds p.tables e below (OGoal (Q0 Z p1 p2 p3 p4 h0 n0) s 16 128) (s₁.setTop (entryFrame m #[(.int p1), (.int p2), (.int p3), (.int p4)] maxLocals))
  refine OEnds.st (fun t k => castTop (ef_0 m p1 p2 p3 p4) k) ?_
  generalize hG : OGoal (Q0 Z p1 p2 p3 p4 h0 n0) s 16 128 = G
  have KK0 : Keep h0 h0 [] := Keep.refl h0 []
  have rest13_1001 : ∀ (kk : Int32), OEnds p.tables e below G (s₁.setTop (mkF m 13 #[.val (.int p1), .val (.int p2), .val (.int p3), .val (.int p4), .val (.int kk), .unset, .unset, .unset, .unset, .unset, .unset, .unset, .unset, .unset] [])) := by
    intro kk
    show OEnds p.tables e below G (s₁.setTop (mkF m 13 #[.val (.int p1), .val (.int p2), .val (.int p3), .val (.int p4), .val (.int kk), .unset, .unset, .unset, .unset, .unset, .unset, .unset, .unset, .unset] []))
    refine OEnds.st (fun _ k => XS.iloadN X0.here hx rfl (hb hby at_13) rfl k) ?_
    show OEnds p.tables e below G (s₁.setTop (mkF m 14 #[.val (.int p1), .val (.int p2), .val (.int p3), .val (.int p4), .val (.int kk), .unset, .unset, .unset, .unset, .unset, .unset, .unset, .unset, .unset] [(.int p1)]))
    refine OEnds.st (X0.ldcInt hx hown (mvT hZ (hw _ (List.mem_of_getElem? (i := 0) rfl))) (g := (mkF m 14 #[.val (.int p1), .val (.int p2), .val (.int p3), .val (.int p4), .val (.int kk), .unset, .unset, .unset, .unset, .unset, .unset, .unset, .unset, .unset] [(.int p1)])) rfl (hb hby at_14)) ?_
    show OEnds p.tables e below G (s₁.setTop (mkF m 16 #[.val (.int p1), .val (.int p2), .val (.int p3), .val (.int p4), .val (.int kk), .unset, .unset, .unset, .unset, .unset, .unset, .unset, .unset, .unset] [(.int (2147483647 : Int32)), (.int p1)]))
    refine OEnds.st (fun _ k => XS.iand X0.here hx rfl (hb hby at_16) rfl k) ?_
    show OEnds p.tables e below G (s₁.setTop (mkF m 17 #[.val (.int p1), .val (.int p2), .val (.int p3), .val (.int p4), .val (.int kk), .unset, .unset, .unset, .unset, .unset, .unset, .unset, .unset, .unset] [(.int (p1 &&& (2147483647 : Int32)))]))
    refine OEnds.st (fun _ k => XS.bipush X0.here hx rfl (hb hby at_17) k) ?_
    show OEnds p.tables e below G (s₁.setTop (mkF m 19 #[.val (.int p1), .val (.int p2), .val (.int p3), .val (.int p4), .val (.int kk), .unset, .unset, .unset, .unset, .unset, .unset, .unset, .unset, .unset] [(.int (9 : Int32)), (.int (p1 &&& (2147483647 : Int32)))]))
    refine OEnds.st (fun _ k => iremM X0 hx rfl (hb hby at_19) rfl (by decide) k) ?_
    show OEnds p.tables e below G (s₁.setTop (mkF m 20 #[.val (.int p1), .val (.int p2), .val (.int p3), .val (.int p4), .val (.int kk), .unset, .unset, .unset, .unset, .unset, .unset, .unset, .unset, .unset] [(.int ((p1 &&& (2147483647 : Int32)) % (9 : Int32)))]))
    refine OEnds.st (fun _ k => XS.istore X0.here hx rfl (hb hby at_20) rfl (l' := #[.val (.int p1), .val (.int p2), .val (.int p3), .val (.int p4), .val (.int kk), .val (.int ((p1 &&& (2147483647 : Int32)) % (9 : Int32))), .unset, .unset, .unset, .unset, .unset, .unset, .unset, .unset]) rfl k) ?_
    show OEnds p.tables e below G (s₁.setTop (mkF m 22 #[.val (.int p1), .val (.int p2), .val (.int p3), .val (.int p4), .val (.int kk), .val (.int ((p1 &&& (2147483647 : Int32)) % (9 : Int32))), .unset, .unset, .unset, .unset, .unset, .unset, .unset, .unset] []))
    generalize hv_v1002 : ((p1 &&& (2147483647 : Int32)) % (9 : Int32)) = v1002
    have hn : 0 ≤ v1002.toInt ∧ v1002.toInt ≤ 8 := by rw [← hv_v1002]; exact own_nine p1
    show OEnds p.tables e below G (s₁.setTop (mkF m 22 #[.val (.int p1), .val (.int p2), .val (.int p3), .val (.int p4), .val (.int kk), .val (.int v1002), .unset, .unset, .unset, .unset, .unset, .unset, .unset, .unset] []))
    refine OEnds.st (fun _ k => XS.iloadN X0.here hx rfl (hb hby at_22) rfl k) ?_
    show OEnds p.tables e below G (s₁.setTop (mkF m 23 #[.val (.int p1), .val (.int p2), .val (.int p3), .val (.int p4), .val (.int kk), .val (.int v1002), .unset, .unset, .unset, .unset, .unset, .unset, .unset, .unset] [(.int p2)]))
    refine OEnds.st (X0.ldcInt hx hown (mvT hZ (hw _ (List.mem_of_getElem? (i := 0) rfl))) (g := (mkF m 23 #[.val (.int p1), .val (.int p2), .val (.int p3), .val (.int p4), .val (.int kk), .val (.int v1002), .unset, .unset, .unset, .unset, .unset, .unset, .unset, .unset] [(.int p2)])) rfl (hb hby at_23)) ?_
    show OEnds p.tables e below G (s₁.setTop (mkF m 25 #[.val (.int p1), .val (.int p2), .val (.int p3), .val (.int p4), .val (.int kk), .val (.int v1002), .unset, .unset, .unset, .unset, .unset, .unset, .unset, .unset] [(.int (2147483647 : Int32)), (.int p2)]))
    refine OEnds.st (fun _ k => XS.iand X0.here hx rfl (hb hby at_25) rfl k) ?_
    show OEnds p.tables e below G (s₁.setTop (mkF m 26 #[.val (.int p1), .val (.int p2), .val (.int p3), .val (.int p4), .val (.int kk), .val (.int v1002), .unset, .unset, .unset, .unset, .unset, .unset, .unset, .unset] [(.int (p2 &&& (2147483647 : Int32)))]))
    refine OEnds.st (fun _ k => XS.iload X0.here hx rfl (hb hby at_26) rfl k) ?_
    show OEnds p.tables e below G (s₁.setTop (mkF m 28 #[.val (.int p1), .val (.int p2), .val (.int p3), .val (.int p4), .val (.int kk), .val (.int v1002), .unset, .unset, .unset, .unset, .unset, .unset, .unset, .unset] [(.int v1002), (.int (p2 &&& (2147483647 : Int32)))]))
    refine OEnds.st (fun _ k => XS.iconst X0.here hx rfl (hb hby at_28) k) ?_
    show OEnds p.tables e below G (s₁.setTop (mkF m 29 #[.val (.int p1), .val (.int p2), .val (.int p3), .val (.int p4), .val (.int kk), .val (.int v1002), .unset, .unset, .unset, .unset, .unset, .unset, .unset, .unset] [(.int (1 : Int32)), (.int v1002), (.int (p2 &&& (2147483647 : Int32)))]))
    refine OEnds.st (fun _ k => XS.iadd X0.here hx rfl (hb hby at_29) rfl k) ?_
    show OEnds p.tables e below G (s₁.setTop (mkF m 30 #[.val (.int p1), .val (.int p2), .val (.int p3), .val (.int p4), .val (.int kk), .val (.int v1002), .unset, .unset, .unset, .unset, .unset, .unset, .unset, .unset] [(.int (v1002 + (1 : Int32))), (.int (p2 &&& (2147483647 : Int32)))]))
    refine OEnds.st (fun _ k => iremM X0 hx rfl (hb hby at_30) rfl (own_nz1 _ hn) k) ?_
    show OEnds p.tables e below G (s₁.setTop (mkF m 31 #[.val (.int p1), .val (.int p2), .val (.int p3), .val (.int p4), .val (.int kk), .val (.int v1002), .unset, .unset, .unset, .unset, .unset, .unset, .unset, .unset] [(.int ((p2 &&& (2147483647 : Int32)) % (v1002 + (1 : Int32))))]))
    refine OEnds.st (fun _ k => XS.istore X0.here hx rfl (hb hby at_31) rfl (l' := #[.val (.int p1), .val (.int p2), .val (.int p3), .val (.int p4), .val (.int kk), .val (.int v1002), .val (.int ((p2 &&& (2147483647 : Int32)) % (v1002 + (1 : Int32)))), .unset, .unset, .unset, .unset, .unset, .unset, .unset]) rfl k) ?_
    show OEnds p.tables e below G (s₁.setTop (mkF m 33 #[.val (.int p1), .val (.int p2), .val (.int p3), .val (.int p4), .val (.int kk), .val (.int v1002), .val (.int ((p2 &&& (2147483647 : Int32)) % (v1002 + (1 : Int32)))), .unset, .unset, .unset, .unset, .unset, .unset, .unset] []))
    generalize hv_v1003 : ((p2 &&& (2147483647 : Int32)) % (v1002 + (1 : Int32))) = v1003
    have hs1 : 0 ≤ v1003.toInt ∧ v1003.toInt ≤ v1002.toInt := by rw [← hv_v1003]; exact own_rem1 p2 v1002 hn
    show OEnds p.tables e below G (s₁.setTop (mkF m 33 #[.val (.int p1), .val (.int p2), .val (.int p3), .val (.int p4), .val (.int kk), .val (.int v1002), .val (.int v1003), .unset, .unset, .unset, .unset, .unset, .unset, .unset] []))
    refine OEnds.st (fun _ k => XS.iloadN X0.here hx rfl (hb hby at_33) rfl k) ?_
    show OEnds p.tables e below G (s₁.setTop (mkF m 34 #[.val (.int p1), .val (.int p2), .val (.int p3), .val (.int p4), .val (.int kk), .val (.int v1002), .val (.int v1003), .unset, .unset, .unset, .unset, .unset, .unset, .unset] [(.int p3)]))
    refine OEnds.st (X0.ldcInt hx hown (mvT hZ (hw _ (List.mem_of_getElem? (i := 0) rfl))) (g := (mkF m 34 #[.val (.int p1), .val (.int p2), .val (.int p3), .val (.int p4), .val (.int kk), .val (.int v1002), .val (.int v1003), .unset, .unset, .unset, .unset, .unset, .unset, .unset] [(.int p3)])) rfl (hb hby at_34)) ?_
    show OEnds p.tables e below G (s₁.setTop (mkF m 36 #[.val (.int p1), .val (.int p2), .val (.int p3), .val (.int p4), .val (.int kk), .val (.int v1002), .val (.int v1003), .unset, .unset, .unset, .unset, .unset, .unset, .unset] [(.int (2147483647 : Int32)), (.int p3)]))
    refine OEnds.st (fun _ k => XS.iand X0.here hx rfl (hb hby at_36) rfl k) ?_
    show OEnds p.tables e below G (s₁.setTop (mkF m 37 #[.val (.int p1), .val (.int p2), .val (.int p3), .val (.int p4), .val (.int kk), .val (.int v1002), .val (.int v1003), .unset, .unset, .unset, .unset, .unset, .unset, .unset] [(.int (p3 &&& (2147483647 : Int32)))]))
    refine OEnds.st (fun _ k => XS.iload X0.here hx rfl (hb hby at_37) rfl k) ?_
    show OEnds p.tables e below G (s₁.setTop (mkF m 39 #[.val (.int p1), .val (.int p2), .val (.int p3), .val (.int p4), .val (.int kk), .val (.int v1002), .val (.int v1003), .unset, .unset, .unset, .unset, .unset, .unset, .unset] [(.int v1002), (.int (p3 &&& (2147483647 : Int32)))]))
    refine OEnds.st (fun _ k => XS.iload X0.here hx rfl (hb hby at_39) rfl k) ?_
    show OEnds p.tables e below G (s₁.setTop (mkF m 41 #[.val (.int p1), .val (.int p2), .val (.int p3), .val (.int p4), .val (.int kk), .val (.int v1002), .val (.int v1003), .unset, .unset, .unset, .unset, .unset, .unset, .unset] [(.int v1003), (.int v1002), (.int (p3 &&& (2147483647 : Int32)))]))
    refine OEnds.st (fun _ k => XS.isub X0.here hx rfl (hb hby at_41) rfl k) ?_
    show OEnds p.tables e below G (s₁.setTop (mkF m 42 #[.val (.int p1), .val (.int p2), .val (.int p3), .val (.int p4), .val (.int kk), .val (.int v1002), .val (.int v1003), .unset, .unset, .unset, .unset, .unset, .unset, .unset] [(.int (v1002 - v1003)), (.int (p3 &&& (2147483647 : Int32)))]))
    refine OEnds.st (fun _ k => XS.iconst X0.here hx rfl (hb hby at_42) k) ?_
    show OEnds p.tables e below G (s₁.setTop (mkF m 43 #[.val (.int p1), .val (.int p2), .val (.int p3), .val (.int p4), .val (.int kk), .val (.int v1002), .val (.int v1003), .unset, .unset, .unset, .unset, .unset, .unset, .unset] [(.int (1 : Int32)), (.int (v1002 - v1003)), (.int (p3 &&& (2147483647 : Int32)))]))
    refine OEnds.st (fun _ k => XS.iadd X0.here hx rfl (hb hby at_43) rfl k) ?_
    show OEnds p.tables e below G (s₁.setTop (mkF m 44 #[.val (.int p1), .val (.int p2), .val (.int p3), .val (.int p4), .val (.int kk), .val (.int v1002), .val (.int v1003), .unset, .unset, .unset, .unset, .unset, .unset, .unset] [(.int ((v1002 - v1003) + (1 : Int32))), (.int (p3 &&& (2147483647 : Int32)))]))
    refine OEnds.st (fun _ k => iremM X0 hx rfl (hb hby at_44) rfl (own_nz2 _ _ hn hs1) k) ?_
    show OEnds p.tables e below G (s₁.setTop (mkF m 45 #[.val (.int p1), .val (.int p2), .val (.int p3), .val (.int p4), .val (.int kk), .val (.int v1002), .val (.int v1003), .unset, .unset, .unset, .unset, .unset, .unset, .unset] [(.int ((p3 &&& (2147483647 : Int32)) % ((v1002 - v1003) + (1 : Int32))))]))
    refine OEnds.st (fun _ k => XS.istore X0.here hx rfl (hb hby at_45) rfl (l' := #[.val (.int p1), .val (.int p2), .val (.int p3), .val (.int p4), .val (.int kk), .val (.int v1002), .val (.int v1003), .val (.int ((p3 &&& (2147483647 : Int32)) % ((v1002 - v1003) + (1 : Int32)))), .unset, .unset, .unset, .unset, .unset, .unset]) rfl k) ?_
    show OEnds p.tables e below G (s₁.setTop (mkF m 47 #[.val (.int p1), .val (.int p2), .val (.int p3), .val (.int p4), .val (.int kk), .val (.int v1002), .val (.int v1003), .val (.int ((p3 &&& (2147483647 : Int32)) % ((v1002 - v1003) + (1 : Int32)))), .unset, .unset, .unset, .unset, .unset, .unset] []))
    generalize hv_v1004 : ((p3 &&& (2147483647 : Int32)) % ((v1002 - v1003) + (1 : Int32))) = v1004
    have hs2 : 0 ≤ v1004.toInt ∧ v1004.toInt ≤ v1002.toInt - v1003.toInt := by rw [← hv_v1004]; exact own_rem2 p3 v1002 v1003 hn hs1
    show OEnds p.tables e below G (s₁.setTop (mkF m 47 #[.val (.int p1), .val (.int p2), .val (.int p3), .val (.int p4), .val (.int kk), .val (.int v1002), .val (.int v1003), .val (.int v1004), .unset, .unset, .unset, .unset, .unset, .unset] []))
    refine OEnds.st (fun _ k => XS.bipush X0.here hx rfl (hb hby at_47) k) ?_
    show OEnds p.tables e below G (s₁.setTop (mkF m 49 #[.val (.int p1), .val (.int p2), .val (.int p3), .val (.int p4), .val (.int kk), .val (.int v1002), .val (.int v1003), .val (.int v1004), .unset, .unset, .unset, .unset, .unset, .unset] [(.int (8 : Int32))]))
    obtain ⟨T1005, h1005, k1005, X1005, e1005, E1005, A1005, st1005⟩ := newP X0 hx hZ (hw _ (List.mem_of_getElem? (i := 1) rfl)) e0 (g := (mkF m 49 #[.val (.int p1), .val (.int p2), .val (.int p3), .val (.int p4), .val (.int kk), .val (.int v1002), .val (.int v1003), .val (.int v1004), .unset, .unset, .unset, .unset, .unset, .unset] [(.int (8 : Int32))])) rfl (hb hby at_49) rfl (by decide) (cap := 8) (by decide) (by decide) (by decide) (by decide)
    obtain ⟨b1005, g1005⟩ : ∃ z, z = h0.size := ⟨_, rfl⟩
    rw [← g1005] at A1005 st1005
    refine OEnds.st st1005 ?_
    have ge_b1005 : n0 ≤ b1005 := Nat.le_trans Z0 (Nat.le_of_eq g1005.symm)
    have sz_b1005 : h0.size ≤ b1005 := Nat.le_trans KK0.1 (Nat.le_of_eq g1005.symm)
    have KK1005 : Keep h0 h1005 [] := KK0.ext E1005
    have Z1005 := Nat.le_trans Z0 E1005.1
    have f1006 : Arv Z h1005 b1005 k1005 .byte (8 : Int32) [(.int (0 : Int32)), (.int (0 : Int32)), (.int (0 : Int32)), (.int (0 : Int32)), (.int (0 : Int32)), (.int (0 : Int32)), (.int (0 : Int32)), (.int (0 : Int32))] (.int (0 : Int32)) := (Arv.new A1005 (by decide)).pad (pad_rep [] (.int (0 : Int32)) 8)
    show OEnds p.tables e below G (T1005.setTop (mkF m 51 #[.val (.int p1), .val (.int p2), .val (.int p3), .val (.int p4), .val (.int kk), .val (.int v1002), .val (.int v1003), .val (.int v1004), .unset, .unset, .unset, .unset, .unset, .unset] [(.ref b1005)]))
    refine OEnds.st (fun _ k => XS.astore X1005.here hx rfl (hb hby at_51) rfl rfl (l' := #[.val (.int p1), .val (.int p2), .val (.int p3), .val (.int p4), .val (.int kk), .val (.int v1002), .val (.int v1003), .val (.int v1004), .val (.ref b1005), .unset, .unset, .unset, .unset, .unset]) rfl k) ?_
    show OEnds p.tables e below G (T1005.setTop (mkF m 53 #[.val (.int p1), .val (.int p2), .val (.int p3), .val (.int p4), .val (.int kk), .val (.int v1002), .val (.int v1003), .val (.int v1004), .val (.ref b1005), .unset, .unset, .unset, .unset, .unset] []))
    obtain ⟨T1007, h1007, X1007, e1007, E1007, A1007, D1007, -, st1007⟩ := newO X1005 hx hZ hown (hw _ (List.mem_of_getElem? (i := 2) rfl)) (hw _ (List.mem_of_getElem? (i := 3) rfl)) (hw _ (List.mem_of_getElem? (i := 4) rfl)) e1005 (g := (mkF m 53 #[.val (.int p1), .val (.int p2), .val (.int p3), .val (.int p4), .val (.int kk), .val (.int v1002), .val (.int v1003), .val (.int v1004), .val (.ref b1005), .unset, .unset, .unset, .unset, .unset] [])) rfl (hb hby at_53) (by decide) (by decide)
    obtain ⟨b1007, g1007⟩ : ∃ z, z = h1005.size := ⟨_, rfl⟩
    rw [← g1007] at A1007 D1007 st1007
    refine OEnds.st st1007 ?_
    have ne1008 : b1005 ≠ b1007 := Nat.ne_of_lt (Nat.lt_of_lt_of_le (f1006).lt (Nat.le_of_eq g1007.symm))
    have ge_b1007 : n0 ≤ b1007 := Nat.le_trans Z1005 (Nat.le_of_eq g1007.symm)
    have sz_b1007 : h0.size ≤ b1007 := Nat.le_trans KK1005.1 (Nat.le_of_eq g1007.symm)
    have f1009 : Arv Z h1007 b1005 k1005 .byte (8 : Int32) [(.int (0 : Int32)), (.int (0 : Int32)), (.int (0 : Int32)), (.int (0 : Int32)), (.int (0 : Int32)), (.int (0 : Int32)), (.int (0 : Int32)), (.int (0 : Int32))] (.int (0 : Int32)) := f1006.ext E1007
    have KK1007 : Keep h0 h1007 [] := KK1005.ext E1007
    have Z1007 := Nat.le_trans Z1005 E1007.1
    have ex_b1007 := A1007
    have f1010 : Fld Z h1007 b1007 "com/example/marshalyard/marshalyard/proxy/IoBuffer" "budget" "Lcom/example/marshalyard/marshalyard/proxy/MemoryBudget;" .null := D1007 (Or.inr (hw _ (List.mem_of_getElem? (i := 22) rfl))) (ty := (.object "com/example/marshalyard/marshalyard/proxy/MemoryBudget")) (by decide)
    have f1011 : Fld Z h1007 b1007 "com/example/marshalyard/marshalyard/proxy/IoBuffer" "bytes" "[B" .null := D1007 (Or.inl (hw _ (List.mem_of_getElem? (i := 24) rfl))) (ty := (.array .byte)) (by decide)
    have f1012 : Fld Z h1007 b1007 "com/example/marshalyard/marshalyard/proxy/IoBuffer" "end" "I" (.int (0 : Int32)) := D1007 (Or.inl (hw _ (List.mem_of_getElem? (i := 35) rfl))) (ty := .int) (by decide)
    have f1013 : Fld Z h1007 b1007 "com/example/marshalyard/marshalyard/proxy/IoBuffer" "added" "J" (.long (0 : Int64)) := D1007 (Or.inl (hw _ (List.mem_of_getElem? (i := 41) rfl))) (ty := .long) (by decide)
    have f1014 : Fld Z h1007 b1007 "com/example/marshalyard/marshalyard/proxy/IoBuffer" "keeping" "Z" (.int (0 : Int32)) := D1007 (Or.inl (hw _ (List.mem_of_getElem? (i := 48) rfl))) (ty := .boolean) (by decide)
    have f1015 : Fld Z h1007 b1007 "com/example/marshalyard/marshalyard/proxy/IoBuffer" "taken" "J" (.long (0 : Int64)) := D1007 (Or.inl (hw _ (List.mem_of_getElem? (i := 55) rfl))) (ty := .long) (by decide)
    have f1016 : Fld Z h1007 b1007 "com/example/marshalyard/marshalyard/proxy/IoBuffer" "start" "I" (.int (0 : Int32)) := D1007 (Or.inl (hw _ (List.mem_of_getElem? (i := 57) rfl))) (ty := .int) (by decide)
    have f1017 : Fld Z h1007 b1007 "com/example/marshalyard/marshalyard/proxy/IoBuffer" "base" "I" (.int (0 : Int32)) := D1007 (Or.inl (hw _ (List.mem_of_getElem? (i := 59) rfl))) (ty := .int) (by decide)
    show OEnds p.tables e below G (T1007.setTop (mkF m 56 #[.val (.int p1), .val (.int p2), .val (.int p3), .val (.int p4), .val (.int kk), .val (.int v1002), .val (.int v1003), .val (.int v1004), .val (.ref b1005), .unset, .unset, .unset, .unset, .unset] [(.ref b1007)]))
    refine OEnds.st (fun _ k => XS.dup X1007.here hx rfl (hb hby at_56) rfl rfl k) ?_
    show OEnds p.tables e below G (T1007.setTop (mkF m 57 #[.val (.int p1), .val (.int p2), .val (.int p3), .val (.int p4), .val (.int kk), .val (.int v1002), .val (.int v1003), .val (.int v1004), .val (.ref b1005), .unset, .unset, .unset, .unset, .unset] [(.ref b1007), (.ref b1007)]))
    obtain ⟨T1018, h1018, X1018, e1018, E1018, A1018, D1018, -, st1018⟩ := newO X1007 hx hZ hown (hw _ (List.mem_of_getElem? (i := 5) rfl)) (hw _ (List.mem_of_getElem? (i := 6) rfl)) (hw _ (List.mem_of_getElem? (i := 7) rfl)) e1007 (g := (mkF m 57 #[.val (.int p1), .val (.int p2), .val (.int p3), .val (.int p4), .val (.int kk), .val (.int v1002), .val (.int v1003), .val (.int v1004), .val (.ref b1005), .unset, .unset, .unset, .unset, .unset] [(.ref b1007), (.ref b1007)])) rfl (hb hby at_57) (by decide) (by decide)
    obtain ⟨b1018, g1018⟩ : ∃ z, z = h1007.size := ⟨_, rfl⟩
    rw [← g1018] at A1018 D1018 st1018
    refine OEnds.st st1018 ?_
    have ne1019 : b1005 ≠ b1018 := Nat.ne_of_lt (Nat.lt_of_lt_of_le (f1009).lt (Nat.le_of_eq g1018.symm))
    have ne1020 : b1007 ≠ b1018 := Nat.ne_of_lt (Nat.lt_of_lt_of_le (ex_b1007).lt (Nat.le_of_eq g1018.symm))
    have ge_b1018 : n0 ≤ b1018 := Nat.le_trans Z1007 (Nat.le_of_eq g1018.symm)
    have sz_b1018 : h0.size ≤ b1018 := Nat.le_trans KK1007.1 (Nat.le_of_eq g1018.symm)
    have f1021 : Arv Z h1018 b1005 k1005 .byte (8 : Int32) [(.int (0 : Int32)), (.int (0 : Int32)), (.int (0 : Int32)), (.int (0 : Int32)), (.int (0 : Int32)), (.int (0 : Int32)), (.int (0 : Int32)), (.int (0 : Int32))] (.int (0 : Int32)) := f1009.ext E1018
    have f1022 : Exa Z h1018 b1007 "com/example/marshalyard/marshalyard/proxy/IoBuffer" := ex_b1007.ext E1018
    have f1023 : Fld Z h1018 b1007 "com/example/marshalyard/marshalyard/proxy/IoBuffer" "budget" "Lcom/example/marshalyard/marshalyard/proxy/MemoryBudget;" .null := f1010.ext E1018
    have f1024 : Fld Z h1018 b1007 "com/example/marshalyard/marshalyard/proxy/IoBuffer" "bytes" "[B" .null := f1011.ext E1018
    have f1025 : Fld Z h1018 b1007 "com/example/marshalyard/marshalyard/proxy/IoBuffer" "end" "I" (.int (0 : Int32)) := f1012.ext E1018
    have f1026 : Fld Z h1018 b1007 "com/example/marshalyard/marshalyard/proxy/IoBuffer" "added" "J" (.long (0 : Int64)) := f1013.ext E1018
    have f1027 : Fld Z h1018 b1007 "com/example/marshalyard/marshalyard/proxy/IoBuffer" "keeping" "Z" (.int (0 : Int32)) := f1014.ext E1018
    have f1028 : Fld Z h1018 b1007 "com/example/marshalyard/marshalyard/proxy/IoBuffer" "taken" "J" (.long (0 : Int64)) := f1015.ext E1018
    have f1029 : Fld Z h1018 b1007 "com/example/marshalyard/marshalyard/proxy/IoBuffer" "start" "I" (.int (0 : Int32)) := f1016.ext E1018
    have f1030 : Fld Z h1018 b1007 "com/example/marshalyard/marshalyard/proxy/IoBuffer" "base" "I" (.int (0 : Int32)) := f1017.ext E1018
    have KK1018 : Keep h0 h1018 [] := KK1007.ext E1018
    have Z1018 := Nat.le_trans Z1007 E1018.1
    have ex_b1018 := A1018
    have f1031 : Fld Z h1018 b1018 "com/example/marshalyard/marshalyard/proxy/MemoryBudget" "limit" "J" (.long (0 : Int64)) := D1018 (Or.inr (hw _ (List.mem_of_getElem? (i := 16) rfl))) (ty := .long) (by decide)
    show OEnds p.tables e below G (T1018.setTop (mkF m 60 #[.val (.int p1), .val (.int p2), .val (.int p3), .val (.int p4), .val (.int kk), .val (.int v1002), .val (.int v1003), .val (.int v1004), .val (.ref b1005), .unset, .unset, .unset, .unset, .unset] [(.ref b1018), (.ref b1007), (.ref b1007)]))
    refine OEnds.st (fun _ k => XS.dup X1018.here hx rfl (hb hby at_60) rfl rfl k) ?_
    show OEnds p.tables e below G (T1018.setTop (mkF m 61 #[.val (.int p1), .val (.int p2), .val (.int p3), .val (.int p4), .val (.int kk), .val (.int v1002), .val (.int v1003), .val (.int v1004), .val (.ref b1005), .unset, .unset, .unset, .unset, .unset] [(.ref b1018), (.ref b1018), (.ref b1007), (.ref b1007)]))
    refine OEnds.st (X1018.ldc2Long hx hown (mvT hZ (hw _ (List.mem_of_getElem? (i := 8) rfl))) (g := (mkF m 61 #[.val (.int p1), .val (.int p2), .val (.int p3), .val (.int p4), .val (.int kk), .val (.int v1002), .val (.int v1003), .val (.int v1004), .val (.ref b1005), .unset, .unset, .unset, .unset, .unset] [(.ref b1018), (.ref b1018), (.ref b1007), (.ref b1007)])) rfl (hb hby at_61)) ?_
    show OEnds p.tables e below G (T1018.setTop (mkF m 64 #[.val (.int p1), .val (.int p2), .val (.int p3), .val (.int p4), .val (.int kk), .val (.int v1002), .val (.int v1003), .val (.int v1004), .val (.ref b1005), .unset, .unset, .unset, .unset, .unset] [(.long (8 : Int64)), (.ref b1018), (.ref b1018), (.ref b1007), (.ref b1007)]))
    obtain ⟨_, _, ⟨T1032, L1032, k1032c, n1032c⟩, -, X1032, ⟨Lc1032, hQ1032, l1032, y1032, z1032⟩, st1032⟩ := X1018.specialBack hx (y := (⟨"com/example/marshalyard/marshalyard/proxy/MemoryBudget", "<init>", "(J)V"⟩ : MethodName)) rfl hown (mvT hZ (hw _ (List.mem_of_getElem? (i := 9) rfl))) (mvT hZ (hw _ (List.mem_of_getElem? (i := 10) rfl))) (mvT hZ (hw _ (List.mem_of_getElem? (i := 11) rfl))) (by decide) (backOf (W := 3) (rm1 l Z a0 hw [] b1018 (8 : Int64) h1018 n0 Z1018 ex_b1018 f1031 ge_b1018) hZ (hw _ (List.mem_of_getElem? (i := 11) rfl)) (hw _ (List.mem_of_getElem? (i := 7) rfl)) (by decide) (by decide)) (g := (mkF m 64 #[.val (.int p1), .val (.int p2), .val (.int p3), .val (.int p4), .val (.int kk), .val (.int v1002), .val (.int v1003), .val (.int v1004), .val (.ref b1005), .unset, .unset, .unset, .unset, .unset] [(.long (8 : Int64)), (.ref b1018), (.ref b1018), (.ref b1007), (.ref b1007)])) rfl (by rw [hml]; rfl) (Steps.refl _) (a := b1018) (argsL := [(.long (8 : Int64))]) (rest := [(.ref b1018), (.ref b1007), (.ref b1007)]) (lenOf pd_1 rfl) rfl (by show 2 * 0 + _ ≤ _; exact Nat.le_of_eq rfl) (hb hby at_64) (fun _ _ => ⟨rfl, e1018, (by decide : 0 + 1 + 1 + 1 + 0 ≤ _), (by decide : 0 + 8 + 9 + 2 + 0 ≤ _)⟩)
    dsimp only [Pt.U, Pt.locs, Pt.cells, Pt.slots] at X1032 l1032 y1032 z1032 st1032 hQ1032
    subst l1032 y1032 z1032
    obtain ⟨rfl, N1032q, p1033⟩ := hQ1032
    have N1032 := Fr.app N0 N1032q
    refine OEnds.st (fun _ k => st1032.trans k) ?_
    have f1034 : Arv Z T1032.heap b1005 k1005 .byte (8 : Int32) [(.int (0 : Int32)), (.int (0 : Int32)), (.int (0 : Int32)), (.int (0 : Int32)), (.int (0 : Int32)), (.int (0 : Int32)), (.int (0 : Int32)), (.int (0 : Int32))] (.int (0 : Int32)) := f1021.keep p1033 (by simp only [List.mem_cons, List.not_mem_nil, or_false, not_or]; exact ne1019)
    have f1035 : Exa Z T1032.heap b1007 "com/example/marshalyard/marshalyard/proxy/IoBuffer" := f1022.keep p1033
    have f1036 : Fld Z T1032.heap b1007 "com/example/marshalyard/marshalyard/proxy/IoBuffer" "budget" "Lcom/example/marshalyard/marshalyard/proxy/MemoryBudget;" .null := f1023.keep p1033 (by simp only [List.mem_cons, List.not_mem_nil, or_false, not_or]; exact ne1020)
    have f1037 : Fld Z T1032.heap b1007 "com/example/marshalyard/marshalyard/proxy/IoBuffer" "bytes" "[B" .null := f1024.keep p1033 (by simp only [List.mem_cons, List.not_mem_nil, or_false, not_or]; exact ne1020)
    have f1038 : Fld Z T1032.heap b1007 "com/example/marshalyard/marshalyard/proxy/IoBuffer" "end" "I" (.int (0 : Int32)) := f1025.keep p1033 (by simp only [List.mem_cons, List.not_mem_nil, or_false, not_or]; exact ne1020)
    have f1039 : Fld Z T1032.heap b1007 "com/example/marshalyard/marshalyard/proxy/IoBuffer" "added" "J" (.long (0 : Int64)) := f1026.keep p1033 (by simp only [List.mem_cons, List.not_mem_nil, or_false, not_or]; exact ne1020)
    have f1040 : Fld Z T1032.heap b1007 "com/example/marshalyard/marshalyard/proxy/IoBuffer" "keeping" "Z" (.int (0 : Int32)) := f1027.keep p1033 (by simp only [List.mem_cons, List.not_mem_nil, or_false, not_or]; exact ne1020)
    have f1041 : Fld Z T1032.heap b1007 "com/example/marshalyard/marshalyard/proxy/IoBuffer" "taken" "J" (.long (0 : Int64)) := f1028.keep p1033 (by simp only [List.mem_cons, List.not_mem_nil, or_false, not_or]; exact ne1020)
    have f1042 : Fld Z T1032.heap b1007 "com/example/marshalyard/marshalyard/proxy/IoBuffer" "start" "I" (.int (0 : Int32)) := f1029.keep p1033 (by simp only [List.mem_cons, List.not_mem_nil, or_false, not_or]; exact ne1020)
    have f1043 : Fld Z T1032.heap b1007 "com/example/marshalyard/marshalyard/proxy/IoBuffer" "base" "I" (.int (0 : Int32)) := f1030.keep p1033 (by simp only [List.mem_cons, List.not_mem_nil, or_false, not_or]; exact ne1020)
    have f1044 : Exa Z T1032.heap b1018 "com/example/marshalyard/marshalyard/proxy/MemoryBudget" := ex_b1018.keep p1033
    have KK1032 : Keep h0 T1032.heap [] := KK1018.trans p1033 (fun x hx => by cases List.mem_singleton.mp hx; exact Or.inr sz_b1018)
    have Z1032 := Nat.le_trans Z1018 p1033.1
    show OEnds p.tables e below G (T1032.setTop (mkF m 67 #[.val (.int p1), .val (.int p2), .val (.int p3), .val (.int p4), .val (.int kk), .val (.int v1002), .val (.int v1003), .val (.int v1004), .val (.ref b1005), .unset, .unset, .unset, .unset, .unset] [(.ref b1018), (.ref b1007), (.ref b1007)]))
    refine OEnds.st (fun _ k => XS.bipush X1032.here hx rfl (hb hby at_67) k) ?_
    show OEnds p.tables e below G (T1032.setTop (mkF m 69 #[.val (.int p1), .val (.int p2), .val (.int p3), .val (.int p4), .val (.int kk), .val (.int v1002), .val (.int v1003), .val (.int v1004), .val (.ref b1005), .unset, .unset, .unset, .unset, .unset] [(.int (8 : Int32)), (.ref b1018), (.ref b1007), (.ref b1007)]))
    obtain ⟨_, _, ⟨T1046, L1046, k1046c, n1046c⟩, -, X1046, ⟨Lc1046, hQ1046, l1046, y1046, z1046⟩, st1046⟩ := X1032.specialBack hx (y := (⟨"com/example/marshalyard/marshalyard/proxy/IoBuffer", "<init>", "(Lcom/example/marshalyard/marshalyard/proxy/MemoryBudget;I)V"⟩ : MethodName)) rfl hown (mvT hZ (hw _ (List.mem_of_getElem? (i := 17) rfl))) (mvT hZ (hw _ (List.mem_of_getElem? (i := 18) rfl))) (mvT hZ (hw _ (List.mem_of_getElem? (i := 19) rfl))) (by decide) (backOf (W := 1) (rm3 l Z a0 hw [] b1007 b1018 T1032.heap n0 Z1032 f1035 f1037 f1042 f1038 f1043 f1039 f1041 f1040 f1036 ge_b1007) hZ (hw _ (List.mem_of_getElem? (i := 19) rfl)) (hw _ (List.mem_of_getElem? (i := 4) rfl)) (by decide) (by decide)) (g := (mkF m 69 #[.val (.int p1), .val (.int p2), .val (.int p3), .val (.int p4), .val (.int kk), .val (.int v1002), .val (.int v1003), .val (.int v1004), .val (.ref b1005), .unset, .unset, .unset, .unset, .unset] [(.int (8 : Int32)), (.ref b1018), (.ref b1007), (.ref b1007)])) rfl (by rw [hml]; rfl) (Steps.refl _) (a := b1007) (argsL := [(.ref b1018), (.int (8 : Int32))]) (rest := [(.ref b1007)]) (lenOf pd_2 rfl) rfl (by show 2 * 0 + _ ≤ _; exact Nat.le_of_eq rfl) (hb hby at_69) (fun _ _ => ⟨rfl, rfl, (by decide : 0 + 1 + 1 + 1 + 0 + 1 ≤ _), (by decide : 0 + 8 + 9 + 2 + 0 + 8 ≤ _)⟩)
    dsimp only [Pt.U, Pt.locs, Pt.cells, Pt.slots] at X1046 l1046 y1046 z1046 st1046 hQ1046
    subst l1046 y1046 z1046
    obtain ⟨b_1046, kb_1046, rfl, N1046q, p1047, p1048, p1049, p1050, p1051, p1052, p1053, p1054, p1055, p1056, p1057⟩ := hQ1046
    have N1046 := Fr.app N1032 N1046q
    refine OEnds.st (fun _ k => st1046.trans k) ?_
    have ne1058 : b1005 ≠ b_1046 := Nat.ne_of_lt (Nat.lt_of_lt_of_le (f1034).lt p1048)
    have ne1059 : b1007 ≠ b_1046 := Nat.ne_of_lt (Nat.lt_of_lt_of_le (f1035).lt p1048)
    have ne1060 : b1018 ≠ b_1046 := Nat.ne_of_lt (Nat.lt_of_lt_of_le (f1044).lt p1048)
    have sz_b_1046 : h0.size ≤ b_1046 := Nat.le_trans KK1032.1 p1048
    have ge_b_1046 : n0 ≤ b_1046 := Nat.le_trans Z1032 p1048
    have f1061 : Arv Z T1046.heap b1005 k1005 .byte (8 : Int32) [(.int (0 : Int32)), (.int (0 : Int32)), (.int (0 : Int32)), (.int (0 : Int32)), (.int (0 : Int32)), (.int (0 : Int32)), (.int (0 : Int32)), (.int (0 : Int32))] (.int (0 : Int32)) := f1034.keep p1047 (by simp only [List.mem_cons, List.not_mem_nil, or_false, not_or]; exact ne1008)
    have f1062 : Exa Z T1046.heap b1007 "com/example/marshalyard/marshalyard/proxy/IoBuffer" := f1035.keep p1047
    have f1071 : Exa Z T1046.heap b1018 "com/example/marshalyard/marshalyard/proxy/MemoryBudget" := f1044.keep p1047
    have KK1046 : Keep h0 T1046.heap [] := KK1032.trans p1047 (fun x hx => by cases List.mem_singleton.mp hx; exact Or.inr sz_b1007)
    have Z1046 := Nat.le_trans Z1032 p1047.1
    show OEnds p.tables e below G (T1046.setTop (mkF m 72 #[.val (.int p1), .val (.int p2), .val (.int p3), .val (.int p4), .val (.int kk), .val (.int v1002), .val (.int v1003), .val (.int v1004), .val (.ref b1005), .unset, .unset, .unset, .unset, .unset] [(.ref b1007)]))
    refine OEnds.st (fun _ k => XS.astore X1046.here hx rfl (hb hby at_72) rfl rfl (l' := #[.val (.int p1), .val (.int p2), .val (.int p3), .val (.int p4), .val (.int kk), .val (.int v1002), .val (.int v1003), .val (.int v1004), .val (.ref b1005), .val (.ref b1007), .unset, .unset, .unset, .unset]) rfl k) ?_
    show OEnds p.tables e below G (T1046.setTop (mkF m 74 #[.val (.int p1), .val (.int p2), .val (.int p3), .val (.int p4), .val (.int kk), .val (.int v1002), .val (.int v1003), .val (.int v1004), .val (.ref b1005), .val (.ref b1007), .unset, .unset, .unset, .unset] []))
    refine OEnds.st (fun _ k => XS.aload X1046.here hx rfl (hb hby at_74) rfl rfl k) ?_
    show OEnds p.tables e below G (T1046.setTop (mkF m 76 #[.val (.int p1), .val (.int p2), .val (.int p3), .val (.int p4), .val (.int kk), .val (.int v1002), .val (.int v1003), .val (.int v1004), .val (.ref b1005), .val (.ref b1007), .unset, .unset, .unset, .unset] [(.ref b1007)]))
    refine OEnds.st (fun _ k => XS.aload X1046.here hx rfl (hb hby at_76) rfl rfl k) ?_
    show OEnds p.tables e below G (T1046.setTop (mkF m 78 #[.val (.int p1), .val (.int p2), .val (.int p3), .val (.int p4), .val (.int kk), .val (.int v1002), .val (.int v1003), .val (.int v1004), .val (.ref b1005), .val (.ref b1007), .unset, .unset, .unset, .unset] [(.ref b1005), (.ref b1007)]))
    refine OEnds.st (fun _ k => XS.iconst X1046.here hx rfl (hb hby at_78) k) ?_
    show OEnds p.tables e below G (T1046.setTop (mkF m 79 #[.val (.int p1), .val (.int p2), .val (.int p3), .val (.int p4), .val (.int kk), .val (.int v1002), .val (.int v1003), .val (.int v1004), .val (.ref b1005), .val (.ref b1007), .unset, .unset, .unset, .unset] [(.int (0 : Int32)), (.ref b1005), (.ref b1007)]))
    refine OEnds.st (fun _ k => XS.iload X1046.here hx rfl (hb hby at_79) rfl k) ?_
    show OEnds p.tables e below G (T1046.setTop (mkF m 81 #[.val (.int p1), .val (.int p2), .val (.int p3), .val (.int p4), .val (.int kk), .val (.int v1002), .val (.int v1003), .val (.int v1004), .val (.ref b1005), .val (.ref b1007), .unset, .unset, .unset, .unset] [(.int v1002), (.int (0 : Int32)), (.ref b1005), (.ref b1007)]))
    obtain ⟨cq1072, kq1072, q1072a, q1072b, q1072c⟩ := isOf hZ rfl p1049
    obtain ⟨_, _, ⟨T1072, L1072, k1072c, n1072c⟩, -, X1072, ⟨Lc1072, hQ1072, l1072, y1072, z1072⟩, st1072⟩ := X1046.virtualBack hx (y := (⟨"com/example/marshalyard/marshalyard/proxy/IoBuffer", "put", "([BII)V"⟩ : MethodName)) (z := (⟨"com/example/marshalyard/marshalyard/proxy/IoBuffer", "put", "([BII)V"⟩ : MethodName)) hown (mvT hZ (hw _ (List.mem_of_getElem? (i := 25) rfl))) (mvT hZ (hw _ (List.mem_of_getElem? (i := 26) rfl))) (notFace_of_selects (args := #[]) (mvT hZ (hw _ (List.mem_of_getElem? (i := 28) rfl)))) (mvT hZ (hw _ (List.mem_of_getElem? (i := 28) rfl))) (mvT hZ (hw _ (List.mem_of_getElem? (i := 27) rfl))) (by decide) (backOf (W := 0) (rm4 l Z a0 hw [] b1007 b1005 v1002 b_1046 k1005 kb_1046 T1046.heap n0 Z1046 p1049 p1050 p1051 p1052 p1053 p1054 p1055 p1056 p1057 f1061 ge_b1007 ge_b_1046 ne1008 ne1059 ne1058 hn) hZ (hw _ (List.mem_of_getElem? (i := 29) rfl)) (hw _ (List.mem_of_getElem? (i := 4) rfl)) (by decide) (by decide)) q1072a q1072c (g := (mkF m 81 #[.val (.int p1), .val (.int p2), .val (.int p3), .val (.int p4), .val (.int kk), .val (.int v1002), .val (.int v1003), .val (.int v1004), .val (.ref b1005), .val (.ref b1007), .unset, .unset, .unset, .unset] [(.int v1002), (.int (0 : Int32)), (.ref b1005), (.ref b1007)])) rfl (by rw [hml]; rfl) (Steps.refl _) (argsL := [(.ref b1005), (.int (0 : Int32)), (.int v1002)]) (rest := []) (lenOf pd_3 rfl) rfl (by show 2 * 0 + _ ≤ _; exact Nat.le_of_eq rfl) (hb hby at_81) (fun _ _ => ⟨rfl, rfl, (by decide : 0 + 1 + 1 + 1 + 0 + 1 + 0 ≤ _), (by decide : 0 + 8 + 9 + 2 + 0 + 8 + 0 ≤ _)⟩)
    dsimp only [Pt.U, Pt.locs, Pt.cells, Pt.slots] at X1072 l1072 y1072 z1072 st1072 hQ1072
    subst l1072 y1072 z1072
    obtain ⟨rfl, N1072q, p1073, p1074, p1075, p1076, p1077, p1078, p1079, p1080, p1081⟩ := hQ1072
    have N1072 := Fr.app N1046 N1072q
    refine OEnds.st (fun _ k => st1072.trans k) ?_
    have f1082 : Arv Z T1072.heap b1005 k1005 .byte (8 : Int32) [(.int (0 : Int32)), (.int (0 : Int32)), (.int (0 : Int32)), (.int (0 : Int32)), (.int (0 : Int32)), (.int (0 : Int32)), (.int (0 : Int32)), (.int (0 : Int32))] (.int (0 : Int32)) := f1061.keep p1073 (by simp only [List.mem_cons, List.not_mem_nil, or_false, not_or]; exact ⟨ne1008, ne1058⟩)
    have f1083 : Exa Z T1072.heap b1007 "com/example/marshalyard/marshalyard/proxy/IoBuffer" := p1049.keep p1073
    have f1084 : Exa Z T1072.heap b1018 "com/example/marshalyard/marshalyard/proxy/MemoryBudget" := f1071.keep p1073
    have KK1072 : Keep h0 T1072.heap [] := KK1046.trans p1073 (fun x hx => by rcases List.mem_cons.mp hx with rfl | hx; exact Or.inr sz_b1007; cases List.mem_singleton.mp hx; exact Or.inr sz_b_1046)
    have Z1072 := Nat.le_trans Z1046 p1073.1
    show OEnds p.tables e below G (T1072.setTop (mkF m 84 #[.val (.int p1), .val (.int p2), .val (.int p3), .val (.int p4), .val (.int kk), .val (.int v1002), .val (.int v1003), .val (.int v1004), .val (.ref b1005), .val (.ref b1007), .unset, .unset, .unset, .unset] []))
    refine OEnds.st (fun _ k => XS.iload X1072.here hx rfl (hb hby at_84) rfl k) ?_
    show OEnds p.tables e below G (T1072.setTop (mkF m 86 #[.val (.int p1), .val (.int p2), .val (.int p3), .val (.int p4), .val (.int kk), .val (.int v1002), .val (.int v1003), .val (.int v1004), .val (.ref b1005), .val (.ref b1007), .unset, .unset, .unset, .unset] [(.int kk)]))
    by_cases hc86_1093 : kk = (0 : Int32)
    · -- pc 86: yes
      refine OEnds.st (fun _ k => XS.ifYes X1072.here hx rfl (pc0 := 86) (pc' := 94) rfl (hb hby at_86) rfl ((if0 _ _).trans (teq hc86_1093).1) (by decide) (by decide) k) ?_
      show OEnds p.tables e below G (T1072.setTop (mkF m 94 #[.val (.int p1), .val (.int p2), .val (.int p3), .val (.int p4), .val (.int kk), .val (.int v1002), .val (.int v1003), .val (.int v1004), .val (.ref b1005), .val (.ref b1007), .unset, .unset, .unset, .unset] []))
      refine OEnds.st (fun _ k => XS.aload X1072.here hx rfl (hb hby at_94) rfl rfl k) ?_
      show OEnds p.tables e below G (T1072.setTop (mkF m 96 #[.val (.int p1), .val (.int p2), .val (.int p3), .val (.int p4), .val (.int kk), .val (.int v1002), .val (.int v1003), .val (.int v1004), .val (.ref b1005), .val (.ref b1007), .unset, .unset, .unset, .unset] [(.ref b1007)]))
      refine OEnds.st (fun _ k => XS.iload X1072.here hx rfl (hb hby at_96) rfl k) ?_
      show OEnds p.tables e below G (T1072.setTop (mkF m 98 #[.val (.int p1), .val (.int p2), .val (.int p3), .val (.int p4), .val (.int kk), .val (.int v1002), .val (.int v1003), .val (.int v1004), .val (.ref b1005), .val (.ref b1007), .unset, .unset, .unset, .unset] [(.int v1003), (.ref b1007)]))
      obtain ⟨cq1094, kq1094, q1094a, q1094b, q1094c⟩ := isOf hZ rfl p1074
      obtain ⟨_, _, ⟨T1094, L1094, k1094c, n1094c⟩, -, X1094, ⟨Lc1094, hQ1094, l1094, y1094, z1094⟩, st1094⟩ := X1072.virtualBack hx (y := (⟨"com/example/marshalyard/marshalyard/proxy/IoBuffer", "skip", "(I)V"⟩ : MethodName)) (z := (⟨"com/example/marshalyard/marshalyard/proxy/IoBuffer", "skip", "(I)V"⟩ : MethodName)) hown (mvT hZ (hw _ (List.mem_of_getElem? (i := 49) rfl))) (mvT hZ (hw _ (List.mem_of_getElem? (i := 50) rfl))) (notFace_of_selects (args := #[]) (mvT hZ (hw _ (List.mem_of_getElem? (i := 52) rfl)))) (mvT hZ (hw _ (List.mem_of_getElem? (i := 52) rfl))) (mvT hZ (hw _ (List.mem_of_getElem? (i := 51) rfl))) (by decide) (backOf (W := 0) (rm7 l Z a0 hw [] b1007 v1003 b_1046 (0 : Int32) ((0 : Int32) + v1002) (0 : Int32) ((0 : Int64) + (v1002.toInt64)) (0 : Int64) (0 : Int32) T1072.heap n0 Z1072 p1074 p1075 p1076 p1077 p1078 p1079 p1080 p1081 ge_b1007) hZ (hw _ (List.mem_of_getElem? (i := 53) rfl)) (hw _ (List.mem_of_getElem? (i := 4) rfl)) (by decide) (by decide)) q1094a q1094c (g := (mkF m 98 #[.val (.int p1), .val (.int p2), .val (.int p3), .val (.int p4), .val (.int kk), .val (.int v1002), .val (.int v1003), .val (.int v1004), .val (.ref b1005), .val (.ref b1007), .unset, .unset, .unset, .unset] [(.int v1003), (.ref b1007)])) rfl (by rw [hml]; rfl) (Steps.refl _) (argsL := [(.int v1003)]) (rest := []) (lenOf pd_0 rfl) rfl (by show 2 * 0 + _ ≤ _; exact Nat.le_of_eq rfl) (hb hby at_98) (fun _ _ => ⟨rfl, rfl, (by decide : 0 + 1 + 1 + 1 + 0 + 1 + 0 + 0 ≤ _), (by decide : 0 + 8 + 9 + 2 + 0 + 8 + 0 + 0 ≤ _)⟩)
      dsimp only [Pt.U, Pt.locs, Pt.cells, Pt.slots] at X1094 l1094 y1094 z1094 st1094 hQ1094
      subst l1094 y1094 z1094
      obtain ⟨rfl, N1094q, p1095, p1096, p1097, p1098, p1099, p1100, p1101, p1102, p1103⟩ := hQ1094
      have N1094 := Fr.app N1072 N1094q
      refine OEnds.st (fun _ k => st1094.trans k) ?_
      have f1104 : Arv Z T1094.heap b1005 k1005 .byte (8 : Int32) [(.int (0 : Int32)), (.int (0 : Int32)), (.int (0 : Int32)), (.int (0 : Int32)), (.int (0 : Int32)), (.int (0 : Int32)), (.int (0 : Int32)), (.int (0 : Int32))] (.int (0 : Int32)) := f1082.keep p1095 (by simp only [List.mem_cons, List.not_mem_nil, or_false, not_or]; exact ne1008)
      have f1105 : Exa Z T1094.heap b1007 "com/example/marshalyard/marshalyard/proxy/IoBuffer" := p1074.keep p1095
      have f1106 : Exa Z T1094.heap b1018 "com/example/marshalyard/marshalyard/proxy/MemoryBudget" := f1084.keep p1095
      have KK1094 : Keep h0 T1094.heap [] := KK1072.trans p1095 (fun x hx => by cases List.mem_singleton.mp hx; exact Or.inr sz_b1007)
      have Z1094 := Nat.le_trans Z1072 p1095.1
      show OEnds p.tables e below G (T1094.setTop (mkF m 101 #[.val (.int p1), .val (.int p2), .val (.int p3), .val (.int p4), .val (.int kk), .val (.int v1002), .val (.int v1003), .val (.int v1004), .val (.ref b1005), .val (.ref b1007), .unset, .unset, .unset, .unset] []))
      refine OEnds.st (fun _ k => XS.aload X1094.here hx rfl (hb hby at_101) rfl rfl k) ?_
      show OEnds p.tables e below G (T1094.setTop (mkF m 103 #[.val (.int p1), .val (.int p2), .val (.int p3), .val (.int p4), .val (.int kk), .val (.int v1002), .val (.int v1003), .val (.int v1004), .val (.ref b1005), .val (.ref b1007), .unset, .unset, .unset, .unset] [(.ref b1007)]))
      refine OEnds.st (fun _ k => XS.iload X1094.here hx rfl (hb hby at_103) rfl k) ?_
      show OEnds p.tables e below G (T1094.setTop (mkF m 105 #[.val (.int p1), .val (.int p2), .val (.int p3), .val (.int p4), .val (.int kk), .val (.int v1002), .val (.int v1003), .val (.int v1004), .val (.ref b1005), .val (.ref b1007), .unset, .unset, .unset, .unset] [(.int v1004), (.ref b1007)]))
      obtain ⟨cq1114, kq1114, q1114a, q1114b, q1114c⟩ := isOf hZ rfl p1096
      obtain ⟨_, _, ⟨T1114, L1114, k1114c, n1114c⟩, -, X1114, ⟨Lc1114, hQ1114, l1114, y1114, z1114⟩, st1114⟩ := X1094.virtualBack hx (y := (⟨"com/example/marshalyard/marshalyard/proxy/IoBuffer", "skip", "(I)V"⟩ : MethodName)) (z := (⟨"com/example/marshalyard/marshalyard/proxy/IoBuffer", "skip", "(I)V"⟩ : MethodName)) hown (mvT hZ (hw _ (List.mem_of_getElem? (i := 49) rfl))) (mvT hZ (hw _ (List.mem_of_getElem? (i := 50) rfl))) (notFace_of_selects (args := #[]) (mvT hZ (hw _ (List.mem_of_getElem? (i := 52) rfl)))) (mvT hZ (hw _ (List.mem_of_getElem? (i := 52) rfl))) (mvT hZ (hw _ (List.mem_of_getElem? (i := 51) rfl))) (by decide) (backOf (W := 0) (rm7 l Z a0 hw [] b1007 v1004 b_1046 (own_skS (0 : Int32) (0 : Int32) (0 : Int32) ((0 : Int32) + v1002) v1003) (own_skE (0 : Int32) (0 : Int32) (0 : Int32) ((0 : Int32) + v1002) v1003) (own_skB (0 : Int32) (0 : Int32) (0 : Int32) ((0 : Int32) + v1002) v1003) ((0 : Int64) + (v1002.toInt64)) ((0 : Int64) + (v1003.toInt64)) (0 : Int32) T1094.heap n0 Z1094 p1096 p1097 p1098 p1099 p1100 p1101 p1102 p1103 ge_b1007) hZ (hw _ (List.mem_of_getElem? (i := 53) rfl)) (hw _ (List.mem_of_getElem? (i := 4) rfl)) (by decide) (by decide)) q1114a q1114c (g := (mkF m 105 #[.val (.int p1), .val (.int p2), .val (.int p3), .val (.int p4), .val (.int kk), .val (.int v1002), .val (.int v1003), .val (.int v1004), .val (.ref b1005), .val (.ref b1007), .unset, .unset, .unset, .unset] [(.int v1004), (.ref b1007)])) rfl (by rw [hml]; rfl) (Steps.refl _) (argsL := [(.int v1004)]) (rest := []) (lenOf pd_0 rfl) rfl (by show 2 * 0 + _ ≤ _; exact Nat.le_of_eq rfl) (hb hby at_105) (fun _ _ => ⟨rfl, rfl, (by decide : 0 + 1 + 1 + 1 + 0 + 1 + 0 + 0 + 0 ≤ _), (by decide : 0 + 8 + 9 + 2 + 0 + 8 + 0 + 0 + 0 ≤ _)⟩)
      dsimp only [Pt.U, Pt.locs, Pt.cells, Pt.slots] at X1114 l1114 y1114 z1114 st1114 hQ1114
      subst l1114 y1114 z1114
      obtain ⟨rfl, N1114q, p1115, p1116, p1117, p1118, p1119, p1120, p1121, p1122, p1123⟩ := hQ1114
      have N1114 := Fr.app N1094 N1114q
      refine OEnds.st (fun _ k => st1114.trans k) ?_
      have f1124 : Arv Z T1114.heap b1005 k1005 .byte (8 : Int32) [(.int (0 : Int32)), (.int (0 : Int32)), (.int (0 : Int32)), (.int (0 : Int32)), (.int (0 : Int32)), (.int (0 : Int32)), (.int (0 : Int32)), (.int (0 : Int32))] (.int (0 : Int32)) := f1104.keep p1115 (by simp only [List.mem_cons, List.not_mem_nil, or_false, not_or]; exact ne1008)
      have f1125 : Exa Z T1114.heap b1007 "com/example/marshalyard/marshalyard/proxy/IoBuffer" := p1096.keep p1115
      have f1126 : Exa Z T1114.heap b1018 "com/example/marshalyard/marshalyard/proxy/MemoryBudget" := f1106.keep p1115
      have KK1114 : Keep h0 T1114.heap [] := KK1094.trans p1115 (fun x hx => by cases List.mem_singleton.mp hx; exact Or.inr sz_b1007)
      have Z1114 := Nat.le_trans Z1094 p1115.1
      show OEnds p.tables e below G (T1114.setTop (mkF m 108 #[.val (.int p1), .val (.int p2), .val (.int p3), .val (.int p4), .val (.int kk), .val (.int v1002), .val (.int v1003), .val (.int v1004), .val (.ref b1005), .val (.ref b1007), .unset, .unset, .unset, .unset] []))
      refine OEnds.st (fun _ k => XS.iload X1114.here hx rfl (hb hby at_108) rfl k) ?_
      show OEnds p.tables e below G (T1114.setTop (mkF m 110 #[.val (.int p1), .val (.int p2), .val (.int p3), .val (.int p4), .val (.int kk), .val (.int v1002), .val (.int v1003), .val (.int v1004), .val (.ref b1005), .val (.ref b1007), .unset, .unset, .unset, .unset] [(.int v1003)]))
      refine OEnds.st (fun _ k => XS.iload X1114.here hx rfl (hb hby at_110) rfl k) ?_
      show OEnds p.tables e below G (T1114.setTop (mkF m 112 #[.val (.int p1), .val (.int p2), .val (.int p3), .val (.int p4), .val (.int kk), .val (.int v1002), .val (.int v1003), .val (.int v1004), .val (.ref b1005), .val (.ref b1007), .unset, .unset, .unset, .unset] [(.int v1004), (.int v1003)]))
      refine OEnds.st (fun _ k => XS.iadd X1114.here hx rfl (hb hby at_112) rfl k) ?_
      show OEnds p.tables e below G (T1114.setTop (mkF m 113 #[.val (.int p1), .val (.int p2), .val (.int p3), .val (.int p4), .val (.int kk), .val (.int v1002), .val (.int v1003), .val (.int v1004), .val (.ref b1005), .val (.ref b1007), .unset, .unset, .unset, .unset] [(.int (v1003 + v1004))]))
      refine OEnds.st (fun _ k => XS.istore X1114.here hx rfl (hb hby at_113) rfl (l' := #[.val (.int p1), .val (.int p2), .val (.int p3), .val (.int p4), .val (.int kk), .val (.int v1002), .val (.int v1003), .val (.int v1004), .val (.ref b1005), .val (.ref b1007), .val (.int (v1003 + v1004)), .unset, .unset, .unset]) rfl k) ?_
      show OEnds p.tables e below G (T1114.setTop (mkF m 115 #[.val (.int p1), .val (.int p2), .val (.int p3), .val (.int p4), .val (.int kk), .val (.int v1002), .val (.int v1003), .val (.int v1004), .val (.ref b1005), .val (.ref b1007), .val (.int (v1003 + v1004)), .unset, .unset, .unset] []))
      generalize hv_v1134 : (v1003 + v1004) = v1134
      have hs : v1003 + v1004 = v1134 := hv_v1134
      have hT : ((0 : Int64) + (v1003.toInt64)) + (v1004.toInt64) = (v1134.toInt64) := by rw [← hs]; exact own_tk v1002 v1003 v1004 hn hs1 hs2
      have hF := own_drop v1002 v1003 v1004 hn hs1 hs2
      rw [hs] at hF
      show OEnds p.tables e below G (T1114.setTop (mkF m 115 #[.val (.int p1), .val (.int p2), .val (.int p3), .val (.int p4), .val (.int kk), .val (.int v1002), .val (.int v1003), .val (.int v1004), .val (.ref b1005), .val (.ref b1007), .val (.int v1134), .unset, .unset, .unset] []))
      refine OEnds.st (fun _ k => XS.iload X1114.here hx rfl (hb hby at_115) rfl k) ?_
      show OEnds p.tables e below G (T1114.setTop (mkF m 117 #[.val (.int p1), .val (.int p2), .val (.int p3), .val (.int p4), .val (.int kk), .val (.int v1002), .val (.int v1003), .val (.int v1004), .val (.ref b1005), .val (.ref b1007), .val (.int v1134), .unset, .unset, .unset] [(.int kk)]))
      refine OEnds.st (fun _ k => XS.ifYes X1114.here hx rfl (pc0 := 117) (pc' := 152) rfl (hb hby at_117) rfl ((if0 _ _).trans (teq hc86_1093).1) (by decide) (by decide) k) ?_
      show OEnds p.tables e below G (T1114.setTop (mkF m 152 #[.val (.int p1), .val (.int p2), .val (.int p3), .val (.int p4), .val (.int kk), .val (.int v1002), .val (.int v1003), .val (.int v1004), .val (.ref b1005), .val (.ref b1007), .val (.int v1134), .unset, .unset, .unset] []))
      refine OEnds.st (fun _ k => XS.iload X1114.here hx rfl (hb hby at_152) rfl k) ?_
      show OEnds p.tables e below G (T1114.setTop (mkF m 154 #[.val (.int p1), .val (.int p2), .val (.int p3), .val (.int p4), .val (.int kk), .val (.int v1002), .val (.int v1003), .val (.int v1004), .val (.ref b1005), .val (.ref b1007), .val (.int v1134), .unset, .unset, .unset] [(.int v1134)]))
      refine OEnds.st (fun _ k => XS.iload X1114.here hx rfl (hb hby at_154) rfl k) ?_
      show OEnds p.tables e below G (T1114.setTop (mkF m 156 #[.val (.int p1), .val (.int p2), .val (.int p3), .val (.int p4), .val (.int kk), .val (.int v1002), .val (.int v1003), .val (.int v1004), .val (.ref b1005), .val (.ref b1007), .val (.int v1134), .unset, .unset, .unset] [(.int v1002), (.int v1134)]))
      by_cases hc156_1135 : v1134 = v1002
      · -- pc 156: yes
        refine OEnds.st (fun _ k => XS.icmpNo X1114.here hx rfl (hb hby at_156) rfl (teq hc156_1135).2 k) ?_
        show OEnds p.tables e below G (T1114.setTop (mkF m 159 #[.val (.int p1), .val (.int p2), .val (.int p3), .val (.int p4), .val (.int kk), .val (.int v1002), .val (.int v1003), .val (.int v1004), .val (.ref b1005), .val (.ref b1007), .val (.int v1134), .unset, .unset, .unset] []))
        refine OEnds.st (fun _ k => XS.iconst X1114.here hx rfl (hb hby at_159) k) ?_
        show OEnds p.tables e below G (T1114.setTop (mkF m 160 #[.val (.int p1), .val (.int p2), .val (.int p3), .val (.int p4), .val (.int kk), .val (.int v1002), .val (.int v1003), .val (.int v1004), .val (.ref b1005), .val (.ref b1007), .val (.int v1134), .unset, .unset, .unset] [(.int (0 : Int32))]))
        refine OEnds.st (fun _ k => XS.istore X1114.here hx rfl (hb hby at_160) rfl (l' := #[.val (.int p1), .val (.int p2), .val (.int p3), .val (.int p4), .val (.int kk), .val (.int v1002), .val (.int v1003), .val (.int v1004), .val (.ref b1005), .val (.ref b1007), .val (.int v1134), .val (.int (0 : Int32)), .unset, .unset]) rfl k) ?_
        show OEnds p.tables e below G (T1114.setTop (mkF m 162 #[.val (.int p1), .val (.int p2), .val (.int p3), .val (.int p4), .val (.int kk), .val (.int v1002), .val (.int v1003), .val (.int v1004), .val (.ref b1005), .val (.ref b1007), .val (.int v1134), .val (.int (0 : Int32)), .unset, .unset] []))
        refine OEnds.st (fun _ k => XS.iconst X1114.here hx rfl (hb hby at_162) k) ?_
        show OEnds p.tables e below G (T1114.setTop (mkF m 163 #[.val (.int p1), .val (.int p2), .val (.int p3), .val (.int p4), .val (.int kk), .val (.int v1002), .val (.int v1003), .val (.int v1004), .val (.ref b1005), .val (.ref b1007), .val (.int v1134), .val (.int (0 : Int32)), .unset, .unset] [(.int (0 : Int32))]))
        refine OEnds.st (fun _ k => XS.istore X1114.here hx rfl (hb hby at_163) rfl (l' := #[.val (.int p1), .val (.int p2), .val (.int p3), .val (.int p4), .val (.int kk), .val (.int v1002), .val (.int v1003), .val (.int v1004), .val (.ref b1005), .val (.ref b1007), .val (.int v1134), .val (.int (0 : Int32)), .val (.int (0 : Int32)), .unset]) rfl k) ?_
        show OEnds p.tables e below G (T1114.setTop (mkF m 165 #[.val (.int p1), .val (.int p2), .val (.int p3), .val (.int p4), .val (.int kk), .val (.int v1002), .val (.int v1003), .val (.int v1004), .val (.ref b1005), .val (.ref b1007), .val (.int v1134), .val (.int (0 : Int32)), .val (.int (0 : Int32)), .unset] []))
        refine OEnds.st (fun _ k => XS.iconst X1114.here hx rfl (hb hby at_165) k) ?_
        show OEnds p.tables e below G (T1114.setTop (mkF m 166 #[.val (.int p1), .val (.int p2), .val (.int p3), .val (.int p4), .val (.int kk), .val (.int v1002), .val (.int v1003), .val (.int v1004), .val (.ref b1005), .val (.ref b1007), .val (.int v1134), .val (.int (0 : Int32)), .val (.int (0 : Int32)), .unset] [(.int (0 : Int32))]))
        refine OEnds.st (fun _ k => XS.istore X1114.here hx rfl (hb hby at_166) rfl (l' := #[.val (.int p1), .val (.int p2), .val (.int p3), .val (.int p4), .val (.int kk), .val (.int v1002), .val (.int v1003), .val (.int v1004), .val (.ref b1005), .val (.ref b1007), .val (.int v1134), .val (.int (0 : Int32)), .val (.int (0 : Int32)), .val (.int (0 : Int32))]) rfl k) ?_
        show OEnds p.tables e below G (T1114.setTop (mkF m 168 #[.val (.int p1), .val (.int p2), .val (.int p3), .val (.int p4), .val (.int kk), .val (.int v1002), .val (.int v1003), .val (.int v1004), .val (.ref b1005), .val (.ref b1007), .val (.int v1134), .val (.int (0 : Int32)), .val (.int (0 : Int32)), .val (.int (0 : Int32))] []))
        refine OEnds.st (fun _ k => XS.goto X1114.here hx rfl (pc0 := 168) (pc' := 182) rfl (hb hby at_168) (by decide) (by decide) k) ?_
        show OEnds p.tables e below G (T1114.setTop (mkF m 182 #[.val (.int p1), .val (.int p2), .val (.int p3), .val (.int p4), .val (.int kk), .val (.int v1002), .val (.int v1003), .val (.int v1004), .val (.ref b1005), .val (.ref b1007), .val (.int v1134), .val (.int (0 : Int32)), .val (.int (0 : Int32)), .val (.int (0 : Int32))] []))
        refine OEnds.st (fun _ k => XS.aload X1114.here hx rfl (hb hby at_182) rfl rfl k) ?_
        show OEnds p.tables e below G (T1114.setTop (mkF m 184 #[.val (.int p1), .val (.int p2), .val (.int p3), .val (.int p4), .val (.int kk), .val (.int v1002), .val (.int v1003), .val (.int v1004), .val (.ref b1005), .val (.ref b1007), .val (.int v1134), .val (.int (0 : Int32)), .val (.int (0 : Int32)), .val (.int (0 : Int32))] [(.ref b1007)]))
        obtain ⟨cq1136, kq1136, q1136a, q1136b, q1136c⟩ := isOf hZ rfl p1116
        obtain ⟨_, _, ⟨T1136, L1136, k1136c, n1136c⟩, -, X1136, ⟨Lc1136, hQ1136, l1136, y1136, z1136⟩, st1136⟩ := X1114.virtualBack hx (y := (⟨"com/example/marshalyard/marshalyard/proxy/IoBuffer", "taken", "()J"⟩ : MethodName)) (z := (⟨"com/example/marshalyard/marshalyard/proxy/IoBuffer", "taken", "()J"⟩ : MethodName)) hown (mvT hZ (hw _ (List.mem_of_getElem? (i := 60) rfl))) (mvT hZ (hw _ (List.mem_of_getElem? (i := 61) rfl))) (notFace_of_selects (args := #[]) (mvT hZ (hw _ (List.mem_of_getElem? (i := 63) rfl)))) (mvT hZ (hw _ (List.mem_of_getElem? (i := 63) rfl))) (mvT hZ (hw _ (List.mem_of_getElem? (i := 62) rfl))) (by decide) (backOf (W := 0) (rm8 l Z a0 hw [] b1007 (((0 : Int64) + (v1003.toInt64)) + (v1004.toInt64)) T1114.heap n0 Z1114 p1122) hZ (hw _ (List.mem_of_getElem? (i := 64) rfl)) (hw _ (List.mem_of_getElem? (i := 4) rfl)) (by decide) (by decide)) q1136a q1136c (g := (mkF m 184 #[.val (.int p1), .val (.int p2), .val (.int p3), .val (.int p4), .val (.int kk), .val (.int v1002), .val (.int v1003), .val (.int v1004), .val (.ref b1005), .val (.ref b1007), .val (.int v1134), .val (.int (0 : Int32)), .val (.int (0 : Int32)), .val (.int (0 : Int32))] [(.ref b1007)])) rfl (by rw [hml]; rfl) (Steps.refl _) (argsL := []) (rest := []) (lenOf pd_4 rfl) rfl (by show 2 * 0 + _ ≤ _; exact Nat.le_of_eq rfl) (hb hby at_184) (fun _ _ => ⟨rfl, rfl, (by decide : 0 + 1 + 1 + 1 + 0 + 1 + 0 + 0 + 0 + 0 ≤ _), (by decide : 0 + 8 + 9 + 2 + 0 + 8 + 0 + 0 + 0 + 0 ≤ _)⟩)
        dsimp only [Pt.U, Pt.locs, Pt.cells, Pt.slots] at X1136 l1136 y1136 z1136 st1136 hQ1136
        subst l1136 y1136 z1136
        obtain ⟨rfl, N1136q, e1136⟩ := hQ1136
        have N1136 := Fr.app N1114 N1136q
        refine OEnds.st (fun _ k => st1136.trans k) ?_
        show OEnds p.tables e below G (T1136.setTop (mkF m 187 #[.val (.int p1), .val (.int p2), .val (.int p3), .val (.int p4), .val (.int kk), .val (.int v1002), .val (.int v1003), .val (.int v1004), .val (.ref b1005), .val (.ref b1007), .val (.int v1134), .val (.int (0 : Int32)), .val (.int (0 : Int32)), .val (.int (0 : Int32))] [(.long (((0 : Int64) + (v1003.toInt64)) + (v1004.toInt64)))]))
        refine OEnds.st (fun _ k => XS.iload X1136.here hx rfl (hb hby at_187) rfl k) ?_
        show OEnds p.tables e below G (T1136.setTop (mkF m 189 #[.val (.int p1), .val (.int p2), .val (.int p3), .val (.int p4), .val (.int kk), .val (.int v1002), .val (.int v1003), .val (.int v1004), .val (.ref b1005), .val (.ref b1007), .val (.int v1134), .val (.int (0 : Int32)), .val (.int (0 : Int32)), .val (.int (0 : Int32))] [(.int v1134), (.long (((0 : Int64) + (v1003.toInt64)) + (v1004.toInt64)))]))
        refine OEnds.st (fun _ k => XS.i2l X1136.here hx rfl (hb hby at_189) rfl k) ?_
        show OEnds p.tables e below G (T1136.setTop (mkF m 190 #[.val (.int p1), .val (.int p2), .val (.int p3), .val (.int p4), .val (.int kk), .val (.int v1002), .val (.int v1003), .val (.int v1004), .val (.ref b1005), .val (.ref b1007), .val (.int v1134), .val (.int (0 : Int32)), .val (.int (0 : Int32)), .val (.int (0 : Int32))] [(.long (v1134.toInt64)), (.long (((0 : Int64) + (v1003.toInt64)) + (v1004.toInt64)))]))
        refine OEnds.st (fun _ k => XS.lcmp X1136.here hx rfl (hb hby at_190) rfl k) ?_
        show OEnds p.tables e below G (T1136.setTop (mkF m 191 #[.val (.int p1), .val (.int p2), .val (.int p3), .val (.int p4), .val (.int kk), .val (.int v1002), .val (.int v1003), .val (.int v1004), .val (.ref b1005), .val (.ref b1007), .val (.int v1134), .val (.int (0 : Int32)), .val (.int (0 : Int32)), .val (.int (0 : Int32))] [(.int (lcmpW (((0 : Int64) + (v1003.toInt64)) + (v1004.toInt64)) (v1134.toInt64)))]))
        have hc191_1137 : (((0 : Int64) + (v1003.toInt64)) + (v1004.toInt64)) = (v1134.toInt64) := hT
        refine OEnds.st (fun _ k => XS.ifNo X1136.here hx rfl (hb hby at_191) rfl ((if0 _ _).trans (teq ((lw_eq (((0 : Int64) + (v1003.toInt64)) + (v1004.toInt64)) (v1134.toInt64)).mpr hc191_1137)).2) k) ?_
        show OEnds p.tables e below G (T1136.setTop (mkF m 194 #[.val (.int p1), .val (.int p2), .val (.int p3), .val (.int p4), .val (.int kk), .val (.int v1002), .val (.int v1003), .val (.int v1004), .val (.ref b1005), .val (.ref b1007), .val (.int v1134), .val (.int (0 : Int32)), .val (.int (0 : Int32)), .val (.int (0 : Int32))] []))
        refine OEnds.st (fun _ k => XS.aload X1136.here hx rfl (hb hby at_194) rfl rfl k) ?_
        show OEnds p.tables e below G (T1136.setTop (mkF m 196 #[.val (.int p1), .val (.int p2), .val (.int p3), .val (.int p4), .val (.int kk), .val (.int v1002), .val (.int v1003), .val (.int v1004), .val (.ref b1005), .val (.ref b1007), .val (.int v1134), .val (.int (0 : Int32)), .val (.int (0 : Int32)), .val (.int (0 : Int32))] [(.ref b1007)]))
        obtain ⟨cq1138, kq1138, q1138a, q1138b, q1138c⟩ := isOf hZ e1136 p1116
        obtain ⟨_, _, ⟨T1138, L1138, k1138c, n1138c⟩, -, X1138, ⟨Lc1138, hQ1138, l1138, y1138, z1138⟩, st1138⟩ := X1136.virtualBack hx (y := (⟨"com/example/marshalyard/marshalyard/proxy/IoBuffer", "start", "()I"⟩ : MethodName)) (z := (⟨"com/example/marshalyard/marshalyard/proxy/IoBuffer", "start", "()I"⟩ : MethodName)) hown (mvT hZ (hw _ (List.mem_of_getElem? (i := 65) rfl))) (mvT hZ (hw _ (List.mem_of_getElem? (i := 66) rfl))) (notFace_of_selects (args := #[]) (mvT hZ (hw _ (List.mem_of_getElem? (i := 68) rfl)))) (mvT hZ (hw _ (List.mem_of_getElem? (i := 68) rfl))) (mvT hZ (hw _ (List.mem_of_getElem? (i := 67) rfl))) (by decide) (backOf (W := 0) (rm9 l Z a0 hw [] b1007 (own_skS (0 : Int32) (own_skS (0 : Int32) (0 : Int32) (0 : Int32) ((0 : Int32) + v1002) v1003) (own_skB (0 : Int32) (0 : Int32) (0 : Int32) ((0 : Int32) + v1002) v1003) (own_skE (0 : Int32) (0 : Int32) (0 : Int32) ((0 : Int32) + v1002) v1003) v1004) T1114.heap n0 Z1114 p1118) hZ (hw _ (List.mem_of_getElem? (i := 69) rfl)) (hw _ (List.mem_of_getElem? (i := 4) rfl)) (by decide) (by decide)) q1138a q1138c (g := (mkF m 196 #[.val (.int p1), .val (.int p2), .val (.int p3), .val (.int p4), .val (.int kk), .val (.int v1002), .val (.int v1003), .val (.int v1004), .val (.ref b1005), .val (.ref b1007), .val (.int v1134), .val (.int (0 : Int32)), .val (.int (0 : Int32)), .val (.int (0 : Int32))] [(.ref b1007)])) rfl (by rw [hml]; rfl) (Steps.refl _) (argsL := []) (rest := []) (lenOf pd_5 rfl) rfl (by show 2 * 0 + _ ≤ _; exact Nat.le_of_eq rfl) (hb hby at_196) (fun _ _ => ⟨rfl, e1136, (by decide : 0 + 1 + 1 + 1 + 0 + 1 + 0 + 0 + 0 + 0 + 0 ≤ _), (by decide : 0 + 8 + 9 + 2 + 0 + 8 + 0 + 0 + 0 + 0 + 0 ≤ _)⟩)
        dsimp only [Pt.U, Pt.locs, Pt.cells, Pt.slots] at X1138 l1138 y1138 z1138 st1138 hQ1138
        subst l1138 y1138 z1138
        obtain ⟨rfl, N1138q, e1138⟩ := hQ1138
        have N1138 := Fr.app N1136 N1138q
        refine OEnds.st (fun _ k => st1138.trans k) ?_
        show OEnds p.tables e below G (T1138.setTop (mkF m 199 #[.val (.int p1), .val (.int p2), .val (.int p3), .val (.int p4), .val (.int kk), .val (.int v1002), .val (.int v1003), .val (.int v1004), .val (.ref b1005), .val (.ref b1007), .val (.int v1134), .val (.int (0 : Int32)), .val (.int (0 : Int32)), .val (.int (0 : Int32))] [(.int (own_skS (0 : Int32) (own_skS (0 : Int32) (0 : Int32) (0 : Int32) ((0 : Int32) + v1002) v1003) (own_skB (0 : Int32) (0 : Int32) (0 : Int32) ((0 : Int32) + v1002) v1003) (own_skE (0 : Int32) (0 : Int32) (0 : Int32) ((0 : Int32) + v1002) v1003) v1004))]))
        refine OEnds.st (fun _ k => XS.iload X1138.here hx rfl (hb hby at_199) rfl k) ?_
        show OEnds p.tables e below G (T1138.setTop (mkF m 201 #[.val (.int p1), .val (.int p2), .val (.int p3), .val (.int p4), .val (.int kk), .val (.int v1002), .val (.int v1003), .val (.int v1004), .val (.ref b1005), .val (.ref b1007), .val (.int v1134), .val (.int (0 : Int32)), .val (.int (0 : Int32)), .val (.int (0 : Int32))] [(.int (0 : Int32)), (.int (own_skS (0 : Int32) (own_skS (0 : Int32) (0 : Int32) (0 : Int32) ((0 : Int32) + v1002) v1003) (own_skB (0 : Int32) (0 : Int32) (0 : Int32) ((0 : Int32) + v1002) v1003) (own_skE (0 : Int32) (0 : Int32) (0 : Int32) ((0 : Int32) + v1002) v1003) v1004))]))
        have hc201_1139 : (own_skS (0 : Int32) (own_skS (0 : Int32) (0 : Int32) (0 : Int32) ((0 : Int32) + v1002) v1003) (own_skB (0 : Int32) (0 : Int32) (0 : Int32) ((0 : Int32) + v1002) v1003) (own_skE (0 : Int32) (0 : Int32) (0 : Int32) ((0 : Int32) + v1002) v1003) v1004) = (0 : Int32) := (hF.1 hc156_1135).1
        refine OEnds.st (fun _ k => XS.icmpNo X1138.here hx rfl (hb hby at_201) rfl (teq hc201_1139).2 k) ?_
        show OEnds p.tables e below G (T1138.setTop (mkF m 204 #[.val (.int p1), .val (.int p2), .val (.int p3), .val (.int p4), .val (.int kk), .val (.int v1002), .val (.int v1003), .val (.int v1004), .val (.ref b1005), .val (.ref b1007), .val (.int v1134), .val (.int (0 : Int32)), .val (.int (0 : Int32)), .val (.int (0 : Int32))] []))
        refine OEnds.st (fun _ k => XS.aload X1138.here hx rfl (hb hby at_204) rfl rfl k) ?_
        show OEnds p.tables e below G (T1138.setTop (mkF m 206 #[.val (.int p1), .val (.int p2), .val (.int p3), .val (.int p4), .val (.int kk), .val (.int v1002), .val (.int v1003), .val (.int v1004), .val (.ref b1005), .val (.ref b1007), .val (.int v1134), .val (.int (0 : Int32)), .val (.int (0 : Int32)), .val (.int (0 : Int32))] [(.ref b1007)]))
        obtain ⟨cq1140, kq1140, q1140a, q1140b, q1140c⟩ := isOf hZ e1138 p1116
        obtain ⟨_, _, ⟨T1140, L1140, k1140c, n1140c⟩, -, X1140, ⟨Lc1140, hQ1140, l1140, y1140, z1140⟩, st1140⟩ := X1138.virtualBack hx (y := (⟨"com/example/marshalyard/marshalyard/proxy/IoBuffer", "end", "()I"⟩ : MethodName)) (z := (⟨"com/example/marshalyard/marshalyard/proxy/IoBuffer", "end", "()I"⟩ : MethodName)) hown (mvT hZ (hw _ (List.mem_of_getElem? (i := 70) rfl))) (mvT hZ (hw _ (List.mem_of_getElem? (i := 71) rfl))) (notFace_of_selects (args := #[]) (mvT hZ (hw _ (List.mem_of_getElem? (i := 73) rfl)))) (mvT hZ (hw _ (List.mem_of_getElem? (i := 73) rfl))) (mvT hZ (hw _ (List.mem_of_getElem? (i := 72) rfl))) (by decide) (backOf (W := 0) (rm10 l Z a0 hw [] b1007 (own_skE (0 : Int32) (own_skS (0 : Int32) (0 : Int32) (0 : Int32) ((0 : Int32) + v1002) v1003) (own_skB (0 : Int32) (0 : Int32) (0 : Int32) ((0 : Int32) + v1002) v1003) (own_skE (0 : Int32) (0 : Int32) (0 : Int32) ((0 : Int32) + v1002) v1003) v1004) T1114.heap n0 Z1114 p1119) hZ (hw _ (List.mem_of_getElem? (i := 74) rfl)) (hw _ (List.mem_of_getElem? (i := 4) rfl)) (by decide) (by decide)) q1140a q1140c (g := (mkF m 206 #[.val (.int p1), .val (.int p2), .val (.int p3), .val (.int p4), .val (.int kk), .val (.int v1002), .val (.int v1003), .val (.int v1004), .val (.ref b1005), .val (.ref b1007), .val (.int v1134), .val (.int (0 : Int32)), .val (.int (0 : Int32)), .val (.int (0 : Int32))] [(.ref b1007)])) rfl (by rw [hml]; rfl) (Steps.refl _) (argsL := []) (rest := []) (lenOf pd_5 rfl) rfl (by show 2 * 0 + _ ≤ _; exact Nat.le_of_eq rfl) (hb hby at_206) (fun _ _ => ⟨rfl, e1138, (by decide : 0 + 1 + 1 + 1 + 0 + 1 + 0 + 0 + 0 + 0 + 0 + 0 ≤ _), (by decide : 0 + 8 + 9 + 2 + 0 + 8 + 0 + 0 + 0 + 0 + 0 + 0 ≤ _)⟩)
        dsimp only [Pt.U, Pt.locs, Pt.cells, Pt.slots] at X1140 l1140 y1140 z1140 st1140 hQ1140
        subst l1140 y1140 z1140
        obtain ⟨rfl, N1140q, e1140⟩ := hQ1140
        have N1140 := Fr.app N1138 N1140q
        refine OEnds.st (fun _ k => st1140.trans k) ?_
        show OEnds p.tables e below G (T1140.setTop (mkF m 209 #[.val (.int p1), .val (.int p2), .val (.int p3), .val (.int p4), .val (.int kk), .val (.int v1002), .val (.int v1003), .val (.int v1004), .val (.ref b1005), .val (.ref b1007), .val (.int v1134), .val (.int (0 : Int32)), .val (.int (0 : Int32)), .val (.int (0 : Int32))] [(.int (own_skE (0 : Int32) (own_skS (0 : Int32) (0 : Int32) (0 : Int32) ((0 : Int32) + v1002) v1003) (own_skB (0 : Int32) (0 : Int32) (0 : Int32) ((0 : Int32) + v1002) v1003) (own_skE (0 : Int32) (0 : Int32) (0 : Int32) ((0 : Int32) + v1002) v1003) v1004))]))
        refine OEnds.st (fun _ k => XS.iload X1140.here hx rfl (hb hby at_209) rfl k) ?_
        show OEnds p.tables e below G (T1140.setTop (mkF m 211 #[.val (.int p1), .val (.int p2), .val (.int p3), .val (.int p4), .val (.int kk), .val (.int v1002), .val (.int v1003), .val (.int v1004), .val (.ref b1005), .val (.ref b1007), .val (.int v1134), .val (.int (0 : Int32)), .val (.int (0 : Int32)), .val (.int (0 : Int32))] [(.int (0 : Int32)), (.int (own_skE (0 : Int32) (own_skS (0 : Int32) (0 : Int32) (0 : Int32) ((0 : Int32) + v1002) v1003) (own_skB (0 : Int32) (0 : Int32) (0 : Int32) ((0 : Int32) + v1002) v1003) (own_skE (0 : Int32) (0 : Int32) (0 : Int32) ((0 : Int32) + v1002) v1003) v1004))]))
        have hc211_1141 : (own_skE (0 : Int32) (own_skS (0 : Int32) (0 : Int32) (0 : Int32) ((0 : Int32) + v1002) v1003) (own_skB (0 : Int32) (0 : Int32) (0 : Int32) ((0 : Int32) + v1002) v1003) (own_skE (0 : Int32) (0 : Int32) (0 : Int32) ((0 : Int32) + v1002) v1003) v1004) = (0 : Int32) := (hF.1 hc156_1135).2.1
        refine OEnds.st (fun _ k => XS.icmpNo X1140.here hx rfl (hb hby at_211) rfl (teq hc211_1141).2 k) ?_
        show OEnds p.tables e below G (T1140.setTop (mkF m 214 #[.val (.int p1), .val (.int p2), .val (.int p3), .val (.int p4), .val (.int kk), .val (.int v1002), .val (.int v1003), .val (.int v1004), .val (.ref b1005), .val (.ref b1007), .val (.int v1134), .val (.int (0 : Int32)), .val (.int (0 : Int32)), .val (.int (0 : Int32))] []))
        refine OEnds.st (fun _ k => XS.aload X1140.here hx rfl (hb hby at_214) rfl rfl k) ?_
        show OEnds p.tables e below G (T1140.setTop (mkF m 216 #[.val (.int p1), .val (.int p2), .val (.int p3), .val (.int p4), .val (.int kk), .val (.int v1002), .val (.int v1003), .val (.int v1004), .val (.ref b1005), .val (.ref b1007), .val (.int v1134), .val (.int (0 : Int32)), .val (.int (0 : Int32)), .val (.int (0 : Int32))] [(.ref b1007)]))
        obtain ⟨cq1142, kq1142, q1142a, q1142b, q1142c⟩ := isOf hZ e1140 p1116
        obtain ⟨_, _, ⟨T1142, L1142, k1142c, n1142c⟩, -, X1142, ⟨Lc1142, hQ1142, l1142, y1142, z1142⟩, st1142⟩ := X1140.virtualBack hx (y := (⟨"com/example/marshalyard/marshalyard/proxy/IoBuffer", "kept", "()I"⟩ : MethodName)) (z := (⟨"com/example/marshalyard/marshalyard/proxy/IoBuffer", "kept", "()I"⟩ : MethodName)) hown (mvT hZ (hw _ (List.mem_of_getElem? (i := 75) rfl))) (mvT hZ (hw _ (List.mem_of_getElem? (i := 76) rfl))) (notFace_of_selects (args := #[]) (mvT hZ (hw _ (List.mem_of_getElem? (i := 78) rfl)))) (mvT hZ (hw _ (List.mem_of_getElem? (i := 78) rfl))) (mvT hZ (hw _ (List.mem_of_getElem? (i := 77) rfl))) (by decide) (backOf (W := 0) (rm11 l Z a0 hw [] b1007 (own_skS (0 : Int32) (own_skS (0 : Int32) (0 : Int32) (0 : Int32) ((0 : Int32) + v1002) v1003) (own_skB (0 : Int32) (0 : Int32) (0 : Int32) ((0 : Int32) + v1002) v1003) (own_skE (0 : Int32) (0 : Int32) (0 : Int32) ((0 : Int32) + v1002) v1003) v1004) (own_skB (0 : Int32) (own_skS (0 : Int32) (0 : Int32) (0 : Int32) ((0 : Int32) + v1002) v1003) (own_skB (0 : Int32) (0 : Int32) (0 : Int32) ((0 : Int32) + v1002) v1003) (own_skE (0 : Int32) (0 : Int32) (0 : Int32) ((0 : Int32) + v1002) v1003) v1004) T1114.heap n0 Z1114 p1118 p1120) hZ (hw _ (List.mem_of_getElem? (i := 79) rfl)) (hw _ (List.mem_of_getElem? (i := 4) rfl)) (by decide) (by decide)) q1142a q1142c (g := (mkF m 216 #[.val (.int p1), .val (.int p2), .val (.int p3), .val (.int p4), .val (.int kk), .val (.int v1002), .val (.int v1003), .val (.int v1004), .val (.ref b1005), .val (.ref b1007), .val (.int v1134), .val (.int (0 : Int32)), .val (.int (0 : Int32)), .val (.int (0 : Int32))] [(.ref b1007)])) rfl (by rw [hml]; rfl) (Steps.refl _) (argsL := []) (rest := []) (lenOf pd_5 rfl) rfl (by show 2 * 0 + _ ≤ _; exact Nat.le_of_eq rfl) (hb hby at_216) (fun _ _ => ⟨rfl, e1140, (by decide : 0 + 1 + 1 + 1 + 0 + 1 + 0 + 0 + 0 + 0 + 0 + 0 + 0 ≤ _), (by decide : 0 + 8 + 9 + 2 + 0 + 8 + 0 + 0 + 0 + 0 + 0 + 0 + 0 ≤ _)⟩)
        dsimp only [Pt.U, Pt.locs, Pt.cells, Pt.slots] at X1142 l1142 y1142 z1142 st1142 hQ1142
        subst l1142 y1142 z1142
        obtain ⟨rfl, N1142q, e1142⟩ := hQ1142
        have N1142 := Fr.app N1140 N1142q
        refine OEnds.st (fun _ k => st1142.trans k) ?_
        show OEnds p.tables e below G (T1142.setTop (mkF m 219 #[.val (.int p1), .val (.int p2), .val (.int p3), .val (.int p4), .val (.int kk), .val (.int v1002), .val (.int v1003), .val (.int v1004), .val (.ref b1005), .val (.ref b1007), .val (.int v1134), .val (.int (0 : Int32)), .val (.int (0 : Int32)), .val (.int (0 : Int32))] [(.int ((own_skS (0 : Int32) (own_skS (0 : Int32) (0 : Int32) (0 : Int32) ((0 : Int32) + v1002) v1003) (own_skB (0 : Int32) (0 : Int32) (0 : Int32) ((0 : Int32) + v1002) v1003) (own_skE (0 : Int32) (0 : Int32) (0 : Int32) ((0 : Int32) + v1002) v1003) v1004) - (own_skB (0 : Int32) (own_skS (0 : Int32) (0 : Int32) (0 : Int32) ((0 : Int32) + v1002) v1003) (own_skB (0 : Int32) (0 : Int32) (0 : Int32) ((0 : Int32) + v1002) v1003) (own_skE (0 : Int32) (0 : Int32) (0 : Int32) ((0 : Int32) + v1002) v1003) v1004)))]))
        refine OEnds.st (fun _ k => XS.iload X1142.here hx rfl (hb hby at_219) rfl k) ?_
        show OEnds p.tables e below G (T1142.setTop (mkF m 221 #[.val (.int p1), .val (.int p2), .val (.int p3), .val (.int p4), .val (.int kk), .val (.int v1002), .val (.int v1003), .val (.int v1004), .val (.ref b1005), .val (.ref b1007), .val (.int v1134), .val (.int (0 : Int32)), .val (.int (0 : Int32)), .val (.int (0 : Int32))] [(.int (0 : Int32)), (.int ((own_skS (0 : Int32) (own_skS (0 : Int32) (0 : Int32) (0 : Int32) ((0 : Int32) + v1002) v1003) (own_skB (0 : Int32) (0 : Int32) (0 : Int32) ((0 : Int32) + v1002) v1003) (own_skE (0 : Int32) (0 : Int32) (0 : Int32) ((0 : Int32) + v1002) v1003) v1004) - (own_skB (0 : Int32) (own_skS (0 : Int32) (0 : Int32) (0 : Int32) ((0 : Int32) + v1002) v1003) (own_skB (0 : Int32) (0 : Int32) (0 : Int32) ((0 : Int32) + v1002) v1003) (own_skE (0 : Int32) (0 : Int32) (0 : Int32) ((0 : Int32) + v1002) v1003) v1004)))]))
        have hc221_1143 : ((own_skS (0 : Int32) (own_skS (0 : Int32) (0 : Int32) (0 : Int32) ((0 : Int32) + v1002) v1003) (own_skB (0 : Int32) (0 : Int32) (0 : Int32) ((0 : Int32) + v1002) v1003) (own_skE (0 : Int32) (0 : Int32) (0 : Int32) ((0 : Int32) + v1002) v1003) v1004) - (own_skB (0 : Int32) (own_skS (0 : Int32) (0 : Int32) (0 : Int32) ((0 : Int32) + v1002) v1003) (own_skB (0 : Int32) (0 : Int32) (0 : Int32) ((0 : Int32) + v1002) v1003) (own_skE (0 : Int32) (0 : Int32) (0 : Int32) ((0 : Int32) + v1002) v1003) v1004)) = (0 : Int32) := (hF.1 hc156_1135).2.2
        refine OEnds.st (fun _ k => XS.icmpNo X1142.here hx rfl (hb hby at_221) rfl (teq hc221_1143).2 k) ?_
        show OEnds p.tables e below G (T1142.setTop (mkF m 224 #[.val (.int p1), .val (.int p2), .val (.int p3), .val (.int p4), .val (.int kk), .val (.int v1002), .val (.int v1003), .val (.int v1004), .val (.ref b1005), .val (.ref b1007), .val (.int v1134), .val (.int (0 : Int32)), .val (.int (0 : Int32)), .val (.int (0 : Int32))] []))
        refine OEnds.st (fun _ k => XS.iconst X1142.here hx rfl (hb hby at_224) k) ?_
        show OEnds p.tables e below G (T1142.setTop (mkF m 225 #[.val (.int p1), .val (.int p2), .val (.int p3), .val (.int p4), .val (.int kk), .val (.int v1002), .val (.int v1003), .val (.int v1004), .val (.ref b1005), .val (.ref b1007), .val (.int v1134), .val (.int (0 : Int32)), .val (.int (0 : Int32)), .val (.int (0 : Int32))] [(.int (1 : Int32))]))
        refine OEnds.st (fun _ k => XS.goto X1142.here hx rfl (pc0 := 225) (pc' := 229) rfl (hb hby at_225) (by decide) (by decide) k) ?_
        show OEnds p.tables e below G (T1142.setTop (mkF m 229 #[.val (.int p1), .val (.int p2), .val (.int p3), .val (.int p4), .val (.int kk), .val (.int v1002), .val (.int v1003), .val (.int v1004), .val (.ref b1005), .val (.ref b1007), .val (.int v1134), .val (.int (0 : Int32)), .val (.int (0 : Int32)), .val (.int (0 : Int32))] [(.int (1 : Int32))]))
        rw [← hG]
        refine OEnds.retZ X1142 hx hlk Bd.returns rfl (hb hby at_229) (by decide) (by decide) ?_
        rw [e1142]
        exact ⟨rfl, N1142⟩
      · -- pc 156: no
        refine OEnds.st (fun _ k => XS.icmpYes X1114.here hx rfl (pc0 := 156) (pc' := 171) rfl (hb hby at_156) rfl (feq hc156_1135).2 (by decide) (by decide) k) ?_
        show OEnds p.tables e below G (T1114.setTop (mkF m 171 #[.val (.int p1), .val (.int p2), .val (.int p3), .val (.int p4), .val (.int kk), .val (.int v1002), .val (.int v1003), .val (.int v1004), .val (.ref b1005), .val (.ref b1007), .val (.int v1134), .unset, .unset, .unset] []))
        refine OEnds.st (fun _ k => XS.iload X1114.here hx rfl (hb hby at_171) rfl k) ?_
        show OEnds p.tables e below G (T1114.setTop (mkF m 173 #[.val (.int p1), .val (.int p2), .val (.int p3), .val (.int p4), .val (.int kk), .val (.int v1002), .val (.int v1003), .val (.int v1004), .val (.ref b1005), .val (.ref b1007), .val (.int v1134), .unset, .unset, .unset] [(.int v1134)]))
        refine OEnds.st (fun _ k => XS.istore X1114.here hx rfl (hb hby at_173) rfl (l' := #[.val (.int p1), .val (.int p2), .val (.int p3), .val (.int p4), .val (.int kk), .val (.int v1002), .val (.int v1003), .val (.int v1004), .val (.ref b1005), .val (.ref b1007), .val (.int v1134), .val (.int v1134), .unset, .unset]) rfl k) ?_
        show OEnds p.tables e below G (T1114.setTop (mkF m 175 #[.val (.int p1), .val (.int p2), .val (.int p3), .val (.int p4), .val (.int kk), .val (.int v1002), .val (.int v1003), .val (.int v1004), .val (.ref b1005), .val (.ref b1007), .val (.int v1134), .val (.int v1134), .unset, .unset] []))
        refine OEnds.st (fun _ k => XS.iload X1114.here hx rfl (hb hby at_175) rfl k) ?_
        show OEnds p.tables e below G (T1114.setTop (mkF m 177 #[.val (.int p1), .val (.int p2), .val (.int p3), .val (.int p4), .val (.int kk), .val (.int v1002), .val (.int v1003), .val (.int v1004), .val (.ref b1005), .val (.ref b1007), .val (.int v1134), .val (.int v1134), .unset, .unset] [(.int v1002)]))
        refine OEnds.st (fun _ k => XS.istore X1114.here hx rfl (hb hby at_177) rfl (l' := #[.val (.int p1), .val (.int p2), .val (.int p3), .val (.int p4), .val (.int kk), .val (.int v1002), .val (.int v1003), .val (.int v1004), .val (.ref b1005), .val (.ref b1007), .val (.int v1134), .val (.int v1134), .val (.int v1002), .unset]) rfl k) ?_
        show OEnds p.tables e below G (T1114.setTop (mkF m 179 #[.val (.int p1), .val (.int p2), .val (.int p3), .val (.int p4), .val (.int kk), .val (.int v1002), .val (.int v1003), .val (.int v1004), .val (.ref b1005), .val (.ref b1007), .val (.int v1134), .val (.int v1134), .val (.int v1002), .unset] []))
        refine OEnds.st (fun _ k => XS.iconst X1114.here hx rfl (hb hby at_179) k) ?_
        show OEnds p.tables e below G (T1114.setTop (mkF m 180 #[.val (.int p1), .val (.int p2), .val (.int p3), .val (.int p4), .val (.int kk), .val (.int v1002), .val (.int v1003), .val (.int v1004), .val (.ref b1005), .val (.ref b1007), .val (.int v1134), .val (.int v1134), .val (.int v1002), .unset] [(.int (0 : Int32))]))
        refine OEnds.st (fun _ k => XS.istore X1114.here hx rfl (hb hby at_180) rfl (l' := #[.val (.int p1), .val (.int p2), .val (.int p3), .val (.int p4), .val (.int kk), .val (.int v1002), .val (.int v1003), .val (.int v1004), .val (.ref b1005), .val (.ref b1007), .val (.int v1134), .val (.int v1134), .val (.int v1002), .val (.int (0 : Int32))]) rfl k) ?_
        show OEnds p.tables e below G (T1114.setTop (mkF m 182 #[.val (.int p1), .val (.int p2), .val (.int p3), .val (.int p4), .val (.int kk), .val (.int v1002), .val (.int v1003), .val (.int v1004), .val (.ref b1005), .val (.ref b1007), .val (.int v1134), .val (.int v1134), .val (.int v1002), .val (.int (0 : Int32))] []))
        refine OEnds.st (fun _ k => XS.aload X1114.here hx rfl (hb hby at_182) rfl rfl k) ?_
        show OEnds p.tables e below G (T1114.setTop (mkF m 184 #[.val (.int p1), .val (.int p2), .val (.int p3), .val (.int p4), .val (.int kk), .val (.int v1002), .val (.int v1003), .val (.int v1004), .val (.ref b1005), .val (.ref b1007), .val (.int v1134), .val (.int v1134), .val (.int v1002), .val (.int (0 : Int32))] [(.ref b1007)]))
        obtain ⟨cq1144, kq1144, q1144a, q1144b, q1144c⟩ := isOf hZ rfl p1116
        obtain ⟨_, _, ⟨T1144, L1144, k1144c, n1144c⟩, -, X1144, ⟨Lc1144, hQ1144, l1144, y1144, z1144⟩, st1144⟩ := X1114.virtualBack hx (y := (⟨"com/example/marshalyard/marshalyard/proxy/IoBuffer", "taken", "()J"⟩ : MethodName)) (z := (⟨"com/example/marshalyard/marshalyard/proxy/IoBuffer", "taken", "()J"⟩ : MethodName)) hown (mvT hZ (hw _ (List.mem_of_getElem? (i := 60) rfl))) (mvT hZ (hw _ (List.mem_of_getElem? (i := 61) rfl))) (notFace_of_selects (args := #[]) (mvT hZ (hw _ (List.mem_of_getElem? (i := 63) rfl)))) (mvT hZ (hw _ (List.mem_of_getElem? (i := 63) rfl))) (mvT hZ (hw _ (List.mem_of_getElem? (i := 62) rfl))) (by decide) (backOf (W := 0) (rm8 l Z a0 hw [] b1007 (((0 : Int64) + (v1003.toInt64)) + (v1004.toInt64)) T1114.heap n0 Z1114 p1122) hZ (hw _ (List.mem_of_getElem? (i := 64) rfl)) (hw _ (List.mem_of_getElem? (i := 4) rfl)) (by decide) (by decide)) q1144a q1144c (g := (mkF m 184 #[.val (.int p1), .val (.int p2), .val (.int p3), .val (.int p4), .val (.int kk), .val (.int v1002), .val (.int v1003), .val (.int v1004), .val (.ref b1005), .val (.ref b1007), .val (.int v1134), .val (.int v1134), .val (.int v1002), .val (.int (0 : Int32))] [(.ref b1007)])) rfl (by rw [hml]; rfl) (Steps.refl _) (argsL := []) (rest := []) (lenOf pd_4 rfl) rfl (by show 2 * 0 + _ ≤ _; exact Nat.le_of_eq rfl) (hb hby at_184) (fun _ _ => ⟨rfl, rfl, (by decide : 0 + 1 + 1 + 1 + 0 + 1 + 0 + 0 + 0 + 0 ≤ _), (by decide : 0 + 8 + 9 + 2 + 0 + 8 + 0 + 0 + 0 + 0 ≤ _)⟩)
        dsimp only [Pt.U, Pt.locs, Pt.cells, Pt.slots] at X1144 l1144 y1144 z1144 st1144 hQ1144
        subst l1144 y1144 z1144
        obtain ⟨rfl, N1144q, e1144⟩ := hQ1144
        have N1144 := Fr.app N1114 N1144q
        refine OEnds.st (fun _ k => st1144.trans k) ?_
        show OEnds p.tables e below G (T1144.setTop (mkF m 187 #[.val (.int p1), .val (.int p2), .val (.int p3), .val (.int p4), .val (.int kk), .val (.int v1002), .val (.int v1003), .val (.int v1004), .val (.ref b1005), .val (.ref b1007), .val (.int v1134), .val (.int v1134), .val (.int v1002), .val (.int (0 : Int32))] [(.long (((0 : Int64) + (v1003.toInt64)) + (v1004.toInt64)))]))
        refine OEnds.st (fun _ k => XS.iload X1144.here hx rfl (hb hby at_187) rfl k) ?_
        show OEnds p.tables e below G (T1144.setTop (mkF m 189 #[.val (.int p1), .val (.int p2), .val (.int p3), .val (.int p4), .val (.int kk), .val (.int v1002), .val (.int v1003), .val (.int v1004), .val (.ref b1005), .val (.ref b1007), .val (.int v1134), .val (.int v1134), .val (.int v1002), .val (.int (0 : Int32))] [(.int v1134), (.long (((0 : Int64) + (v1003.toInt64)) + (v1004.toInt64)))]))
        refine OEnds.st (fun _ k => XS.i2l X1144.here hx rfl (hb hby at_189) rfl k) ?_
        show OEnds p.tables e below G (T1144.setTop (mkF m 190 #[.val (.int p1), .val (.int p2), .val (.int p3), .val (.int p4), .val (.int kk), .val (.int v1002), .val (.int v1003), .val (.int v1004), .val (.ref b1005), .val (.ref b1007), .val (.int v1134), .val (.int v1134), .val (.int v1002), .val (.int (0 : Int32))] [(.long (v1134.toInt64)), (.long (((0 : Int64) + (v1003.toInt64)) + (v1004.toInt64)))]))
        refine OEnds.st (fun _ k => XS.lcmp X1144.here hx rfl (hb hby at_190) rfl k) ?_
        show OEnds p.tables e below G (T1144.setTop (mkF m 191 #[.val (.int p1), .val (.int p2), .val (.int p3), .val (.int p4), .val (.int kk), .val (.int v1002), .val (.int v1003), .val (.int v1004), .val (.ref b1005), .val (.ref b1007), .val (.int v1134), .val (.int v1134), .val (.int v1002), .val (.int (0 : Int32))] [(.int (lcmpW (((0 : Int64) + (v1003.toInt64)) + (v1004.toInt64)) (v1134.toInt64)))]))
        have hc191_1145 : (((0 : Int64) + (v1003.toInt64)) + (v1004.toInt64)) = (v1134.toInt64) := hT
        refine OEnds.st (fun _ k => XS.ifNo X1144.here hx rfl (hb hby at_191) rfl ((if0 _ _).trans (teq ((lw_eq (((0 : Int64) + (v1003.toInt64)) + (v1004.toInt64)) (v1134.toInt64)).mpr hc191_1145)).2) k) ?_
        show OEnds p.tables e below G (T1144.setTop (mkF m 194 #[.val (.int p1), .val (.int p2), .val (.int p3), .val (.int p4), .val (.int kk), .val (.int v1002), .val (.int v1003), .val (.int v1004), .val (.ref b1005), .val (.ref b1007), .val (.int v1134), .val (.int v1134), .val (.int v1002), .val (.int (0 : Int32))] []))
        refine OEnds.st (fun _ k => XS.aload X1144.here hx rfl (hb hby at_194) rfl rfl k) ?_
        show OEnds p.tables e below G (T1144.setTop (mkF m 196 #[.val (.int p1), .val (.int p2), .val (.int p3), .val (.int p4), .val (.int kk), .val (.int v1002), .val (.int v1003), .val (.int v1004), .val (.ref b1005), .val (.ref b1007), .val (.int v1134), .val (.int v1134), .val (.int v1002), .val (.int (0 : Int32))] [(.ref b1007)]))
        obtain ⟨cq1146, kq1146, q1146a, q1146b, q1146c⟩ := isOf hZ e1144 p1116
        obtain ⟨_, _, ⟨T1146, L1146, k1146c, n1146c⟩, -, X1146, ⟨Lc1146, hQ1146, l1146, y1146, z1146⟩, st1146⟩ := X1144.virtualBack hx (y := (⟨"com/example/marshalyard/marshalyard/proxy/IoBuffer", "start", "()I"⟩ : MethodName)) (z := (⟨"com/example/marshalyard/marshalyard/proxy/IoBuffer", "start", "()I"⟩ : MethodName)) hown (mvT hZ (hw _ (List.mem_of_getElem? (i := 65) rfl))) (mvT hZ (hw _ (List.mem_of_getElem? (i := 66) rfl))) (notFace_of_selects (args := #[]) (mvT hZ (hw _ (List.mem_of_getElem? (i := 68) rfl)))) (mvT hZ (hw _ (List.mem_of_getElem? (i := 68) rfl))) (mvT hZ (hw _ (List.mem_of_getElem? (i := 67) rfl))) (by decide) (backOf (W := 0) (rm9 l Z a0 hw [] b1007 (own_skS (0 : Int32) (own_skS (0 : Int32) (0 : Int32) (0 : Int32) ((0 : Int32) + v1002) v1003) (own_skB (0 : Int32) (0 : Int32) (0 : Int32) ((0 : Int32) + v1002) v1003) (own_skE (0 : Int32) (0 : Int32) (0 : Int32) ((0 : Int32) + v1002) v1003) v1004) T1114.heap n0 Z1114 p1118) hZ (hw _ (List.mem_of_getElem? (i := 69) rfl)) (hw _ (List.mem_of_getElem? (i := 4) rfl)) (by decide) (by decide)) q1146a q1146c (g := (mkF m 196 #[.val (.int p1), .val (.int p2), .val (.int p3), .val (.int p4), .val (.int kk), .val (.int v1002), .val (.int v1003), .val (.int v1004), .val (.ref b1005), .val (.ref b1007), .val (.int v1134), .val (.int v1134), .val (.int v1002), .val (.int (0 : Int32))] [(.ref b1007)])) rfl (by rw [hml]; rfl) (Steps.refl _) (argsL := []) (rest := []) (lenOf pd_5 rfl) rfl (by show 2 * 0 + _ ≤ _; exact Nat.le_of_eq rfl) (hb hby at_196) (fun _ _ => ⟨rfl, e1144, (by decide : 0 + 1 + 1 + 1 + 0 + 1 + 0 + 0 + 0 + 0 + 0 ≤ _), (by decide : 0 + 8 + 9 + 2 + 0 + 8 + 0 + 0 + 0 + 0 + 0 ≤ _)⟩)
        dsimp only [Pt.U, Pt.locs, Pt.cells, Pt.slots] at X1146 l1146 y1146 z1146 st1146 hQ1146
        subst l1146 y1146 z1146
        obtain ⟨rfl, N1146q, e1146⟩ := hQ1146
        have N1146 := Fr.app N1144 N1146q
        refine OEnds.st (fun _ k => st1146.trans k) ?_
        show OEnds p.tables e below G (T1146.setTop (mkF m 199 #[.val (.int p1), .val (.int p2), .val (.int p3), .val (.int p4), .val (.int kk), .val (.int v1002), .val (.int v1003), .val (.int v1004), .val (.ref b1005), .val (.ref b1007), .val (.int v1134), .val (.int v1134), .val (.int v1002), .val (.int (0 : Int32))] [(.int (own_skS (0 : Int32) (own_skS (0 : Int32) (0 : Int32) (0 : Int32) ((0 : Int32) + v1002) v1003) (own_skB (0 : Int32) (0 : Int32) (0 : Int32) ((0 : Int32) + v1002) v1003) (own_skE (0 : Int32) (0 : Int32) (0 : Int32) ((0 : Int32) + v1002) v1003) v1004))]))
        refine OEnds.st (fun _ k => XS.iload X1146.here hx rfl (hb hby at_199) rfl k) ?_
        show OEnds p.tables e below G (T1146.setTop (mkF m 201 #[.val (.int p1), .val (.int p2), .val (.int p3), .val (.int p4), .val (.int kk), .val (.int v1002), .val (.int v1003), .val (.int v1004), .val (.ref b1005), .val (.ref b1007), .val (.int v1134), .val (.int v1134), .val (.int v1002), .val (.int (0 : Int32))] [(.int v1134), (.int (own_skS (0 : Int32) (own_skS (0 : Int32) (0 : Int32) (0 : Int32) ((0 : Int32) + v1002) v1003) (own_skB (0 : Int32) (0 : Int32) (0 : Int32) ((0 : Int32) + v1002) v1003) (own_skE (0 : Int32) (0 : Int32) (0 : Int32) ((0 : Int32) + v1002) v1003) v1004))]))
        have hc201_1147 : (own_skS (0 : Int32) (own_skS (0 : Int32) (0 : Int32) (0 : Int32) ((0 : Int32) + v1002) v1003) (own_skB (0 : Int32) (0 : Int32) (0 : Int32) ((0 : Int32) + v1002) v1003) (own_skE (0 : Int32) (0 : Int32) (0 : Int32) ((0 : Int32) + v1002) v1003) v1004) = v1134 := (hF.2 hc156_1135).1
        refine OEnds.st (fun _ k => XS.icmpNo X1146.here hx rfl (hb hby at_201) rfl (teq hc201_1147).2 k) ?_
        show OEnds p.tables e below G (T1146.setTop (mkF m 204 #[.val (.int p1), .val (.int p2), .val (.int p3), .val (.int p4), .val (.int kk), .val (.int v1002), .val (.int v1003), .val (.int v1004), .val (.ref b1005), .val (.ref b1007), .val (.int v1134), .val (.int v1134), .val (.int v1002), .val (.int (0 : Int32))] []))
        refine OEnds.st (fun _ k => XS.aload X1146.here hx rfl (hb hby at_204) rfl rfl k) ?_
        show OEnds p.tables e below G (T1146.setTop (mkF m 206 #[.val (.int p1), .val (.int p2), .val (.int p3), .val (.int p4), .val (.int kk), .val (.int v1002), .val (.int v1003), .val (.int v1004), .val (.ref b1005), .val (.ref b1007), .val (.int v1134), .val (.int v1134), .val (.int v1002), .val (.int (0 : Int32))] [(.ref b1007)]))
        obtain ⟨cq1148, kq1148, q1148a, q1148b, q1148c⟩ := isOf hZ e1146 p1116
        obtain ⟨_, _, ⟨T1148, L1148, k1148c, n1148c⟩, -, X1148, ⟨Lc1148, hQ1148, l1148, y1148, z1148⟩, st1148⟩ := X1146.virtualBack hx (y := (⟨"com/example/marshalyard/marshalyard/proxy/IoBuffer", "end", "()I"⟩ : MethodName)) (z := (⟨"com/example/marshalyard/marshalyard/proxy/IoBuffer", "end", "()I"⟩ : MethodName)) hown (mvT hZ (hw _ (List.mem_of_getElem? (i := 70) rfl))) (mvT hZ (hw _ (List.mem_of_getElem? (i := 71) rfl))) (notFace_of_selects (args := #[]) (mvT hZ (hw _ (List.mem_of_getElem? (i := 73) rfl)))) (mvT hZ (hw _ (List.mem_of_getElem? (i := 73) rfl))) (mvT hZ (hw _ (List.mem_of_getElem? (i := 72) rfl))) (by decide) (backOf (W := 0) (rm10 l Z a0 hw [] b1007 (own_skE (0 : Int32) (own_skS (0 : Int32) (0 : Int32) (0 : Int32) ((0 : Int32) + v1002) v1003) (own_skB (0 : Int32) (0 : Int32) (0 : Int32) ((0 : Int32) + v1002) v1003) (own_skE (0 : Int32) (0 : Int32) (0 : Int32) ((0 : Int32) + v1002) v1003) v1004) T1114.heap n0 Z1114 p1119) hZ (hw _ (List.mem_of_getElem? (i := 74) rfl)) (hw _ (List.mem_of_getElem? (i := 4) rfl)) (by decide) (by decide)) q1148a q1148c (g := (mkF m 206 #[.val (.int p1), .val (.int p2), .val (.int p3), .val (.int p4), .val (.int kk), .val (.int v1002), .val (.int v1003), .val (.int v1004), .val (.ref b1005), .val (.ref b1007), .val (.int v1134), .val (.int v1134), .val (.int v1002), .val (.int (0 : Int32))] [(.ref b1007)])) rfl (by rw [hml]; rfl) (Steps.refl _) (argsL := []) (rest := []) (lenOf pd_5 rfl) rfl (by show 2 * 0 + _ ≤ _; exact Nat.le_of_eq rfl) (hb hby at_206) (fun _ _ => ⟨rfl, e1146, (by decide : 0 + 1 + 1 + 1 + 0 + 1 + 0 + 0 + 0 + 0 + 0 + 0 ≤ _), (by decide : 0 + 8 + 9 + 2 + 0 + 8 + 0 + 0 + 0 + 0 + 0 + 0 ≤ _)⟩)
        dsimp only [Pt.U, Pt.locs, Pt.cells, Pt.slots] at X1148 l1148 y1148 z1148 st1148 hQ1148
        subst l1148 y1148 z1148
        obtain ⟨rfl, N1148q, e1148⟩ := hQ1148
        have N1148 := Fr.app N1146 N1148q
        refine OEnds.st (fun _ k => st1148.trans k) ?_
        show OEnds p.tables e below G (T1148.setTop (mkF m 209 #[.val (.int p1), .val (.int p2), .val (.int p3), .val (.int p4), .val (.int kk), .val (.int v1002), .val (.int v1003), .val (.int v1004), .val (.ref b1005), .val (.ref b1007), .val (.int v1134), .val (.int v1134), .val (.int v1002), .val (.int (0 : Int32))] [(.int (own_skE (0 : Int32) (own_skS (0 : Int32) (0 : Int32) (0 : Int32) ((0 : Int32) + v1002) v1003) (own_skB (0 : Int32) (0 : Int32) (0 : Int32) ((0 : Int32) + v1002) v1003) (own_skE (0 : Int32) (0 : Int32) (0 : Int32) ((0 : Int32) + v1002) v1003) v1004))]))
        refine OEnds.st (fun _ k => XS.iload X1148.here hx rfl (hb hby at_209) rfl k) ?_
        show OEnds p.tables e below G (T1148.setTop (mkF m 211 #[.val (.int p1), .val (.int p2), .val (.int p3), .val (.int p4), .val (.int kk), .val (.int v1002), .val (.int v1003), .val (.int v1004), .val (.ref b1005), .val (.ref b1007), .val (.int v1134), .val (.int v1134), .val (.int v1002), .val (.int (0 : Int32))] [(.int v1002), (.int (own_skE (0 : Int32) (own_skS (0 : Int32) (0 : Int32) (0 : Int32) ((0 : Int32) + v1002) v1003) (own_skB (0 : Int32) (0 : Int32) (0 : Int32) ((0 : Int32) + v1002) v1003) (own_skE (0 : Int32) (0 : Int32) (0 : Int32) ((0 : Int32) + v1002) v1003) v1004))]))
        have hc211_1149 : (own_skE (0 : Int32) (own_skS (0 : Int32) (0 : Int32) (0 : Int32) ((0 : Int32) + v1002) v1003) (own_skB (0 : Int32) (0 : Int32) (0 : Int32) ((0 : Int32) + v1002) v1003) (own_skE (0 : Int32) (0 : Int32) (0 : Int32) ((0 : Int32) + v1002) v1003) v1004) = v1002 := (hF.2 hc156_1135).2.1
        refine OEnds.st (fun _ k => XS.icmpNo X1148.here hx rfl (hb hby at_211) rfl (teq hc211_1149).2 k) ?_
        show OEnds p.tables e below G (T1148.setTop (mkF m 214 #[.val (.int p1), .val (.int p2), .val (.int p3), .val (.int p4), .val (.int kk), .val (.int v1002), .val (.int v1003), .val (.int v1004), .val (.ref b1005), .val (.ref b1007), .val (.int v1134), .val (.int v1134), .val (.int v1002), .val (.int (0 : Int32))] []))
        refine OEnds.st (fun _ k => XS.aload X1148.here hx rfl (hb hby at_214) rfl rfl k) ?_
        show OEnds p.tables e below G (T1148.setTop (mkF m 216 #[.val (.int p1), .val (.int p2), .val (.int p3), .val (.int p4), .val (.int kk), .val (.int v1002), .val (.int v1003), .val (.int v1004), .val (.ref b1005), .val (.ref b1007), .val (.int v1134), .val (.int v1134), .val (.int v1002), .val (.int (0 : Int32))] [(.ref b1007)]))
        obtain ⟨cq1150, kq1150, q1150a, q1150b, q1150c⟩ := isOf hZ e1148 p1116
        obtain ⟨_, _, ⟨T1150, L1150, k1150c, n1150c⟩, -, X1150, ⟨Lc1150, hQ1150, l1150, y1150, z1150⟩, st1150⟩ := X1148.virtualBack hx (y := (⟨"com/example/marshalyard/marshalyard/proxy/IoBuffer", "kept", "()I"⟩ : MethodName)) (z := (⟨"com/example/marshalyard/marshalyard/proxy/IoBuffer", "kept", "()I"⟩ : MethodName)) hown (mvT hZ (hw _ (List.mem_of_getElem? (i := 75) rfl))) (mvT hZ (hw _ (List.mem_of_getElem? (i := 76) rfl))) (notFace_of_selects (args := #[]) (mvT hZ (hw _ (List.mem_of_getElem? (i := 78) rfl)))) (mvT hZ (hw _ (List.mem_of_getElem? (i := 78) rfl))) (mvT hZ (hw _ (List.mem_of_getElem? (i := 77) rfl))) (by decide) (backOf (W := 0) (rm11 l Z a0 hw [] b1007 (own_skS (0 : Int32) (own_skS (0 : Int32) (0 : Int32) (0 : Int32) ((0 : Int32) + v1002) v1003) (own_skB (0 : Int32) (0 : Int32) (0 : Int32) ((0 : Int32) + v1002) v1003) (own_skE (0 : Int32) (0 : Int32) (0 : Int32) ((0 : Int32) + v1002) v1003) v1004) (own_skB (0 : Int32) (own_skS (0 : Int32) (0 : Int32) (0 : Int32) ((0 : Int32) + v1002) v1003) (own_skB (0 : Int32) (0 : Int32) (0 : Int32) ((0 : Int32) + v1002) v1003) (own_skE (0 : Int32) (0 : Int32) (0 : Int32) ((0 : Int32) + v1002) v1003) v1004) T1114.heap n0 Z1114 p1118 p1120) hZ (hw _ (List.mem_of_getElem? (i := 79) rfl)) (hw _ (List.mem_of_getElem? (i := 4) rfl)) (by decide) (by decide)) q1150a q1150c (g := (mkF m 216 #[.val (.int p1), .val (.int p2), .val (.int p3), .val (.int p4), .val (.int kk), .val (.int v1002), .val (.int v1003), .val (.int v1004), .val (.ref b1005), .val (.ref b1007), .val (.int v1134), .val (.int v1134), .val (.int v1002), .val (.int (0 : Int32))] [(.ref b1007)])) rfl (by rw [hml]; rfl) (Steps.refl _) (argsL := []) (rest := []) (lenOf pd_5 rfl) rfl (by show 2 * 0 + _ ≤ _; exact Nat.le_of_eq rfl) (hb hby at_216) (fun _ _ => ⟨rfl, e1148, (by decide : 0 + 1 + 1 + 1 + 0 + 1 + 0 + 0 + 0 + 0 + 0 + 0 + 0 ≤ _), (by decide : 0 + 8 + 9 + 2 + 0 + 8 + 0 + 0 + 0 + 0 + 0 + 0 + 0 ≤ _)⟩)
        dsimp only [Pt.U, Pt.locs, Pt.cells, Pt.slots] at X1150 l1150 y1150 z1150 st1150 hQ1150
        subst l1150 y1150 z1150
        obtain ⟨rfl, N1150q, e1150⟩ := hQ1150
        have N1150 := Fr.app N1148 N1150q
        refine OEnds.st (fun _ k => st1150.trans k) ?_
        show OEnds p.tables e below G (T1150.setTop (mkF m 219 #[.val (.int p1), .val (.int p2), .val (.int p3), .val (.int p4), .val (.int kk), .val (.int v1002), .val (.int v1003), .val (.int v1004), .val (.ref b1005), .val (.ref b1007), .val (.int v1134), .val (.int v1134), .val (.int v1002), .val (.int (0 : Int32))] [(.int ((own_skS (0 : Int32) (own_skS (0 : Int32) (0 : Int32) (0 : Int32) ((0 : Int32) + v1002) v1003) (own_skB (0 : Int32) (0 : Int32) (0 : Int32) ((0 : Int32) + v1002) v1003) (own_skE (0 : Int32) (0 : Int32) (0 : Int32) ((0 : Int32) + v1002) v1003) v1004) - (own_skB (0 : Int32) (own_skS (0 : Int32) (0 : Int32) (0 : Int32) ((0 : Int32) + v1002) v1003) (own_skB (0 : Int32) (0 : Int32) (0 : Int32) ((0 : Int32) + v1002) v1003) (own_skE (0 : Int32) (0 : Int32) (0 : Int32) ((0 : Int32) + v1002) v1003) v1004)))]))
        refine OEnds.st (fun _ k => XS.iload X1150.here hx rfl (hb hby at_219) rfl k) ?_
        show OEnds p.tables e below G (T1150.setTop (mkF m 221 #[.val (.int p1), .val (.int p2), .val (.int p3), .val (.int p4), .val (.int kk), .val (.int v1002), .val (.int v1003), .val (.int v1004), .val (.ref b1005), .val (.ref b1007), .val (.int v1134), .val (.int v1134), .val (.int v1002), .val (.int (0 : Int32))] [(.int (0 : Int32)), (.int ((own_skS (0 : Int32) (own_skS (0 : Int32) (0 : Int32) (0 : Int32) ((0 : Int32) + v1002) v1003) (own_skB (0 : Int32) (0 : Int32) (0 : Int32) ((0 : Int32) + v1002) v1003) (own_skE (0 : Int32) (0 : Int32) (0 : Int32) ((0 : Int32) + v1002) v1003) v1004) - (own_skB (0 : Int32) (own_skS (0 : Int32) (0 : Int32) (0 : Int32) ((0 : Int32) + v1002) v1003) (own_skB (0 : Int32) (0 : Int32) (0 : Int32) ((0 : Int32) + v1002) v1003) (own_skE (0 : Int32) (0 : Int32) (0 : Int32) ((0 : Int32) + v1002) v1003) v1004)))]))
        have hc221_1151 : ((own_skS (0 : Int32) (own_skS (0 : Int32) (0 : Int32) (0 : Int32) ((0 : Int32) + v1002) v1003) (own_skB (0 : Int32) (0 : Int32) (0 : Int32) ((0 : Int32) + v1002) v1003) (own_skE (0 : Int32) (0 : Int32) (0 : Int32) ((0 : Int32) + v1002) v1003) v1004) - (own_skB (0 : Int32) (own_skS (0 : Int32) (0 : Int32) (0 : Int32) ((0 : Int32) + v1002) v1003) (own_skB (0 : Int32) (0 : Int32) (0 : Int32) ((0 : Int32) + v1002) v1003) (own_skE (0 : Int32) (0 : Int32) (0 : Int32) ((0 : Int32) + v1002) v1003) v1004)) = (0 : Int32) := (hF.2 hc156_1135).2.2
        refine OEnds.st (fun _ k => XS.icmpNo X1150.here hx rfl (hb hby at_221) rfl (teq hc221_1151).2 k) ?_
        show OEnds p.tables e below G (T1150.setTop (mkF m 224 #[.val (.int p1), .val (.int p2), .val (.int p3), .val (.int p4), .val (.int kk), .val (.int v1002), .val (.int v1003), .val (.int v1004), .val (.ref b1005), .val (.ref b1007), .val (.int v1134), .val (.int v1134), .val (.int v1002), .val (.int (0 : Int32))] []))
        refine OEnds.st (fun _ k => XS.iconst X1150.here hx rfl (hb hby at_224) k) ?_
        show OEnds p.tables e below G (T1150.setTop (mkF m 225 #[.val (.int p1), .val (.int p2), .val (.int p3), .val (.int p4), .val (.int kk), .val (.int v1002), .val (.int v1003), .val (.int v1004), .val (.ref b1005), .val (.ref b1007), .val (.int v1134), .val (.int v1134), .val (.int v1002), .val (.int (0 : Int32))] [(.int (1 : Int32))]))
        refine OEnds.st (fun _ k => XS.goto X1150.here hx rfl (pc0 := 225) (pc' := 229) rfl (hb hby at_225) (by decide) (by decide) k) ?_
        show OEnds p.tables e below G (T1150.setTop (mkF m 229 #[.val (.int p1), .val (.int p2), .val (.int p3), .val (.int p4), .val (.int kk), .val (.int v1002), .val (.int v1003), .val (.int v1004), .val (.ref b1005), .val (.ref b1007), .val (.int v1134), .val (.int v1134), .val (.int v1002), .val (.int (0 : Int32))] [(.int (1 : Int32))]))
        rw [← hG]
        refine OEnds.retZ X1150 hx hlk Bd.returns rfl (hb hby at_229) (by decide) (by decide) ?_
        rw [e1150]
        exact ⟨rfl, N1150⟩
    · -- pc 86: no
      refine OEnds.st (fun _ k => XS.ifNo X1072.here hx rfl (hb hby at_86) rfl ((if0 _ _).trans (feq hc86_1093).1) k) ?_
      show OEnds p.tables e below G (T1072.setTop (mkF m 89 #[.val (.int p1), .val (.int p2), .val (.int p3), .val (.int p4), .val (.int kk), .val (.int v1002), .val (.int v1003), .val (.int v1004), .val (.ref b1005), .val (.ref b1007), .unset, .unset, .unset, .unset] []))
      refine OEnds.st (fun _ k => XS.aload X1072.here hx rfl (hb hby at_89) rfl rfl k) ?_
      show OEnds p.tables e below G (T1072.setTop (mkF m 91 #[.val (.int p1), .val (.int p2), .val (.int p3), .val (.int p4), .val (.int kk), .val (.int v1002), .val (.int v1003), .val (.int v1004), .val (.ref b1005), .val (.ref b1007), .unset, .unset, .unset, .unset] [(.ref b1007)]))
      obtain ⟨cq1152, kq1152, q1152a, q1152b, q1152c⟩ := isOf hZ rfl p1074
      obtain ⟨_, _, ⟨T1152, L1152, k1152c, n1152c⟩, -, X1152, ⟨Lc1152, hQ1152, l1152, y1152, z1152⟩, st1152⟩ := X1072.virtualBack hx (y := (⟨"com/example/marshalyard/marshalyard/proxy/IoBuffer", "keep", "()V"⟩ : MethodName)) (z := (⟨"com/example/marshalyard/marshalyard/proxy/IoBuffer", "keep", "()V"⟩ : MethodName)) hown (mvT hZ (hw _ (List.mem_of_getElem? (i := 42) rfl))) (mvT hZ (hw _ (List.mem_of_getElem? (i := 43) rfl))) (notFace_of_selects (args := #[]) (mvT hZ (hw _ (List.mem_of_getElem? (i := 45) rfl)))) (mvT hZ (hw _ (List.mem_of_getElem? (i := 45) rfl))) (mvT hZ (hw _ (List.mem_of_getElem? (i := 44) rfl))) (by decide) (backOf (W := 0) (rm6 l Z a0 hw [] b1007 b_1046 (0 : Int32) ((0 : Int32) + v1002) (0 : Int32) ((0 : Int64) + (v1002.toInt64)) (0 : Int64) (0 : Int32) T1072.heap n0 Z1072 p1074 p1075 p1076 p1077 p1078 p1079 p1080 p1081 ge_b1007) hZ (hw _ (List.mem_of_getElem? (i := 46) rfl)) (hw _ (List.mem_of_getElem? (i := 4) rfl)) (by decide) (by decide)) q1152a q1152c (g := (mkF m 91 #[.val (.int p1), .val (.int p2), .val (.int p3), .val (.int p4), .val (.int kk), .val (.int v1002), .val (.int v1003), .val (.int v1004), .val (.ref b1005), .val (.ref b1007), .unset, .unset, .unset, .unset] [(.ref b1007)])) rfl (by rw [hml]; rfl) (Steps.refl _) (argsL := []) (rest := []) (lenOf pd_6 rfl) rfl (by show 2 * 0 + _ ≤ _; exact Nat.le_of_eq rfl) (hb hby at_91) (fun _ _ => ⟨rfl, rfl, (by decide : 0 + 1 + 1 + 1 + 0 + 1 + 0 + 0 ≤ _), (by decide : 0 + 8 + 9 + 2 + 0 + 8 + 0 + 0 ≤ _)⟩)
      dsimp only [Pt.U, Pt.locs, Pt.cells, Pt.slots] at X1152 l1152 y1152 z1152 st1152 hQ1152
      subst l1152 y1152 z1152
      obtain ⟨rfl, N1152q, p1153, p1154, p1155, p1156, p1157, p1158, p1159, p1160, p1161⟩ := hQ1152
      have N1152 := Fr.app N1072 N1152q
      refine OEnds.st (fun _ k => st1152.trans k) ?_
      have f1162 : Arv Z T1152.heap b1005 k1005 .byte (8 : Int32) [(.int (0 : Int32)), (.int (0 : Int32)), (.int (0 : Int32)), (.int (0 : Int32)), (.int (0 : Int32)), (.int (0 : Int32)), (.int (0 : Int32)), (.int (0 : Int32))] (.int (0 : Int32)) := f1082.keep p1153 (by simp only [List.mem_cons, List.not_mem_nil, or_false, not_or]; exact ne1008)
      have f1163 : Exa Z T1152.heap b1007 "com/example/marshalyard/marshalyard/proxy/IoBuffer" := p1074.keep p1153
      have f1164 : Exa Z T1152.heap b1018 "com/example/marshalyard/marshalyard/proxy/MemoryBudget" := f1084.keep p1153
      have KK1152 : Keep h0 T1152.heap [] := KK1072.trans p1153 (fun x hx => by cases List.mem_singleton.mp hx; exact Or.inr sz_b1007)
      have Z1152 := Nat.le_trans Z1072 p1153.1
      show OEnds p.tables e below G (T1152.setTop (mkF m 94 #[.val (.int p1), .val (.int p2), .val (.int p3), .val (.int p4), .val (.int kk), .val (.int v1002), .val (.int v1003), .val (.int v1004), .val (.ref b1005), .val (.ref b1007), .unset, .unset, .unset, .unset] []))
      refine OEnds.st (fun _ k => XS.aload X1152.here hx rfl (hb hby at_94) rfl rfl k) ?_
      show OEnds p.tables e below G (T1152.setTop (mkF m 96 #[.val (.int p1), .val (.int p2), .val (.int p3), .val (.int p4), .val (.int kk), .val (.int v1002), .val (.int v1003), .val (.int v1004), .val (.ref b1005), .val (.ref b1007), .unset, .unset, .unset, .unset] [(.ref b1007)]))
      refine OEnds.st (fun _ k => XS.iload X1152.here hx rfl (hb hby at_96) rfl k) ?_
      show OEnds p.tables e below G (T1152.setTop (mkF m 98 #[.val (.int p1), .val (.int p2), .val (.int p3), .val (.int p4), .val (.int kk), .val (.int v1002), .val (.int v1003), .val (.int v1004), .val (.ref b1005), .val (.ref b1007), .unset, .unset, .unset, .unset] [(.int v1003), (.ref b1007)]))
      obtain ⟨cq1172, kq1172, q1172a, q1172b, q1172c⟩ := isOf hZ rfl p1154
      obtain ⟨_, _, ⟨T1172, L1172, k1172c, n1172c⟩, -, X1172, ⟨Lc1172, hQ1172, l1172, y1172, z1172⟩, st1172⟩ := X1152.virtualBack hx (y := (⟨"com/example/marshalyard/marshalyard/proxy/IoBuffer", "skip", "(I)V"⟩ : MethodName)) (z := (⟨"com/example/marshalyard/marshalyard/proxy/IoBuffer", "skip", "(I)V"⟩ : MethodName)) hown (mvT hZ (hw _ (List.mem_of_getElem? (i := 49) rfl))) (mvT hZ (hw _ (List.mem_of_getElem? (i := 50) rfl))) (notFace_of_selects (args := #[]) (mvT hZ (hw _ (List.mem_of_getElem? (i := 52) rfl)))) (mvT hZ (hw _ (List.mem_of_getElem? (i := 52) rfl))) (mvT hZ (hw _ (List.mem_of_getElem? (i := 51) rfl))) (by decide) (backOf (W := 0) (rm7 l Z a0 hw [] b1007 v1003 b_1046 (0 : Int32) ((0 : Int32) + v1002) (0 : Int32) ((0 : Int64) + (v1002.toInt64)) (0 : Int64) (1 : Int32) T1152.heap n0 Z1152 p1154 p1155 p1156 p1157 p1158 p1159 p1160 p1161 ge_b1007) hZ (hw _ (List.mem_of_getElem? (i := 53) rfl)) (hw _ (List.mem_of_getElem? (i := 4) rfl)) (by decide) (by decide)) q1172a q1172c (g := (mkF m 98 #[.val (.int p1), .val (.int p2), .val (.int p3), .val (.int p4), .val (.int kk), .val (.int v1002), .val (.int v1003), .val (.int v1004), .val (.ref b1005), .val (.ref b1007), .unset, .unset, .unset, .unset] [(.int v1003), (.ref b1007)])) rfl (by rw [hml]; rfl) (Steps.refl _) (argsL := [(.int v1003)]) (rest := []) (lenOf pd_0 rfl) rfl (by show 2 * 0 + _ ≤ _; exact Nat.le_of_eq rfl) (hb hby at_98) (fun _ _ => ⟨rfl, rfl, (by decide : 0 + 1 + 1 + 1 + 0 + 1 + 0 + 0 + 0 ≤ _), (by decide : 0 + 8 + 9 + 2 + 0 + 8 + 0 + 0 + 0 ≤ _)⟩)
      dsimp only [Pt.U, Pt.locs, Pt.cells, Pt.slots] at X1172 l1172 y1172 z1172 st1172 hQ1172
      subst l1172 y1172 z1172
      obtain ⟨rfl, N1172q, p1173, p1174, p1175, p1176, p1177, p1178, p1179, p1180, p1181⟩ := hQ1172
      have N1172 := Fr.app N1152 N1172q
      refine OEnds.st (fun _ k => st1172.trans k) ?_
      have f1182 : Arv Z T1172.heap b1005 k1005 .byte (8 : Int32) [(.int (0 : Int32)), (.int (0 : Int32)), (.int (0 : Int32)), (.int (0 : Int32)), (.int (0 : Int32)), (.int (0 : Int32)), (.int (0 : Int32)), (.int (0 : Int32))] (.int (0 : Int32)) := f1162.keep p1173 (by simp only [List.mem_cons, List.not_mem_nil, or_false, not_or]; exact ne1008)
      have f1183 : Exa Z T1172.heap b1007 "com/example/marshalyard/marshalyard/proxy/IoBuffer" := p1154.keep p1173
      have f1184 : Exa Z T1172.heap b1018 "com/example/marshalyard/marshalyard/proxy/MemoryBudget" := f1164.keep p1173
      have KK1172 : Keep h0 T1172.heap [] := KK1152.trans p1173 (fun x hx => by cases List.mem_singleton.mp hx; exact Or.inr sz_b1007)
      have Z1172 := Nat.le_trans Z1152 p1173.1
      show OEnds p.tables e below G (T1172.setTop (mkF m 101 #[.val (.int p1), .val (.int p2), .val (.int p3), .val (.int p4), .val (.int kk), .val (.int v1002), .val (.int v1003), .val (.int v1004), .val (.ref b1005), .val (.ref b1007), .unset, .unset, .unset, .unset] []))
      refine OEnds.st (fun _ k => XS.aload X1172.here hx rfl (hb hby at_101) rfl rfl k) ?_
      show OEnds p.tables e below G (T1172.setTop (mkF m 103 #[.val (.int p1), .val (.int p2), .val (.int p3), .val (.int p4), .val (.int kk), .val (.int v1002), .val (.int v1003), .val (.int v1004), .val (.ref b1005), .val (.ref b1007), .unset, .unset, .unset, .unset] [(.ref b1007)]))
      refine OEnds.st (fun _ k => XS.iload X1172.here hx rfl (hb hby at_103) rfl k) ?_
      show OEnds p.tables e below G (T1172.setTop (mkF m 105 #[.val (.int p1), .val (.int p2), .val (.int p3), .val (.int p4), .val (.int kk), .val (.int v1002), .val (.int v1003), .val (.int v1004), .val (.ref b1005), .val (.ref b1007), .unset, .unset, .unset, .unset] [(.int v1004), (.ref b1007)]))
      obtain ⟨cq1192, kq1192, q1192a, q1192b, q1192c⟩ := isOf hZ rfl p1174
      obtain ⟨_, _, ⟨T1192, L1192, k1192c, n1192c⟩, -, X1192, ⟨Lc1192, hQ1192, l1192, y1192, z1192⟩, st1192⟩ := X1172.virtualBack hx (y := (⟨"com/example/marshalyard/marshalyard/proxy/IoBuffer", "skip", "(I)V"⟩ : MethodName)) (z := (⟨"com/example/marshalyard/marshalyard/proxy/IoBuffer", "skip", "(I)V"⟩ : MethodName)) hown (mvT hZ (hw _ (List.mem_of_getElem? (i := 49) rfl))) (mvT hZ (hw _ (List.mem_of_getElem? (i := 50) rfl))) (notFace_of_selects (args := #[]) (mvT hZ (hw _ (List.mem_of_getElem? (i := 52) rfl)))) (mvT hZ (hw _ (List.mem_of_getElem? (i := 52) rfl))) (mvT hZ (hw _ (List.mem_of_getElem? (i := 51) rfl))) (by decide) (backOf (W := 0) (rm7 l Z a0 hw [] b1007 v1004 b_1046 (own_skS (1 : Int32) (0 : Int32) (0 : Int32) ((0 : Int32) + v1002) v1003) (own_skE (1 : Int32) (0 : Int32) (0 : Int32) ((0 : Int32) + v1002) v1003) (own_skB (1 : Int32) (0 : Int32) (0 : Int32) ((0 : Int32) + v1002) v1003) ((0 : Int64) + (v1002.toInt64)) ((0 : Int64) + (v1003.toInt64)) (1 : Int32) T1172.heap n0 Z1172 p1174 p1175 p1176 p1177 p1178 p1179 p1180 p1181 ge_b1007) hZ (hw _ (List.mem_of_getElem? (i := 53) rfl)) (hw _ (List.mem_of_getElem? (i := 4) rfl)) (by decide) (by decide)) q1192a q1192c (g := (mkF m 105 #[.val (.int p1), .val (.int p2), .val (.int p3), .val (.int p4), .val (.int kk), .val (.int v1002), .val (.int v1003), .val (.int v1004), .val (.ref b1005), .val (.ref b1007), .unset, .unset, .unset, .unset] [(.int v1004), (.ref b1007)])) rfl (by rw [hml]; rfl) (Steps.refl _) (argsL := [(.int v1004)]) (rest := []) (lenOf pd_0 rfl) rfl (by show 2 * 0 + _ ≤ _; exact Nat.le_of_eq rfl) (hb hby at_105) (fun _ _ => ⟨rfl, rfl, (by decide : 0 + 1 + 1 + 1 + 0 + 1 + 0 + 0 + 0 + 0 ≤ _), (by decide : 0 + 8 + 9 + 2 + 0 + 8 + 0 + 0 + 0 + 0 ≤ _)⟩)
      dsimp only [Pt.U, Pt.locs, Pt.cells, Pt.slots] at X1192 l1192 y1192 z1192 st1192 hQ1192
      subst l1192 y1192 z1192
      obtain ⟨rfl, N1192q, p1193, p1194, p1195, p1196, p1197, p1198, p1199, p1200, p1201⟩ := hQ1192
      have N1192 := Fr.app N1172 N1192q
      refine OEnds.st (fun _ k => st1192.trans k) ?_
      have f1202 : Arv Z T1192.heap b1005 k1005 .byte (8 : Int32) [(.int (0 : Int32)), (.int (0 : Int32)), (.int (0 : Int32)), (.int (0 : Int32)), (.int (0 : Int32)), (.int (0 : Int32)), (.int (0 : Int32)), (.int (0 : Int32))] (.int (0 : Int32)) := f1182.keep p1193 (by simp only [List.mem_cons, List.not_mem_nil, or_false, not_or]; exact ne1008)
      have f1203 : Exa Z T1192.heap b1007 "com/example/marshalyard/marshalyard/proxy/IoBuffer" := p1174.keep p1193
      have f1204 : Exa Z T1192.heap b1018 "com/example/marshalyard/marshalyard/proxy/MemoryBudget" := f1184.keep p1193
      have KK1192 : Keep h0 T1192.heap [] := KK1172.trans p1193 (fun x hx => by cases List.mem_singleton.mp hx; exact Or.inr sz_b1007)
      have Z1192 := Nat.le_trans Z1172 p1193.1
      show OEnds p.tables e below G (T1192.setTop (mkF m 108 #[.val (.int p1), .val (.int p2), .val (.int p3), .val (.int p4), .val (.int kk), .val (.int v1002), .val (.int v1003), .val (.int v1004), .val (.ref b1005), .val (.ref b1007), .unset, .unset, .unset, .unset] []))
      refine OEnds.st (fun _ k => XS.iload X1192.here hx rfl (hb hby at_108) rfl k) ?_
      show OEnds p.tables e below G (T1192.setTop (mkF m 110 #[.val (.int p1), .val (.int p2), .val (.int p3), .val (.int p4), .val (.int kk), .val (.int v1002), .val (.int v1003), .val (.int v1004), .val (.ref b1005), .val (.ref b1007), .unset, .unset, .unset, .unset] [(.int v1003)]))
      refine OEnds.st (fun _ k => XS.iload X1192.here hx rfl (hb hby at_110) rfl k) ?_
      show OEnds p.tables e below G (T1192.setTop (mkF m 112 #[.val (.int p1), .val (.int p2), .val (.int p3), .val (.int p4), .val (.int kk), .val (.int v1002), .val (.int v1003), .val (.int v1004), .val (.ref b1005), .val (.ref b1007), .unset, .unset, .unset, .unset] [(.int v1004), (.int v1003)]))
      refine OEnds.st (fun _ k => XS.iadd X1192.here hx rfl (hb hby at_112) rfl k) ?_
      show OEnds p.tables e below G (T1192.setTop (mkF m 113 #[.val (.int p1), .val (.int p2), .val (.int p3), .val (.int p4), .val (.int kk), .val (.int v1002), .val (.int v1003), .val (.int v1004), .val (.ref b1005), .val (.ref b1007), .unset, .unset, .unset, .unset] [(.int (v1003 + v1004))]))
      refine OEnds.st (fun _ k => XS.istore X1192.here hx rfl (hb hby at_113) rfl (l' := #[.val (.int p1), .val (.int p2), .val (.int p3), .val (.int p4), .val (.int kk), .val (.int v1002), .val (.int v1003), .val (.int v1004), .val (.ref b1005), .val (.ref b1007), .val (.int (v1003 + v1004)), .unset, .unset, .unset]) rfl k) ?_
      show OEnds p.tables e below G (T1192.setTop (mkF m 115 #[.val (.int p1), .val (.int p2), .val (.int p3), .val (.int p4), .val (.int kk), .val (.int v1002), .val (.int v1003), .val (.int v1004), .val (.ref b1005), .val (.ref b1007), .val (.int (v1003 + v1004)), .unset, .unset, .unset] []))
      generalize hv_v1212 : (v1003 + v1004) = v1212
      have hs : v1003 + v1004 = v1212 := hv_v1212
      have hT : ((0 : Int64) + (v1003.toInt64)) + (v1004.toInt64) = (v1212.toInt64) := by rw [← hs]; exact own_tk v1002 v1003 v1004 hn hs1 hs2
      have hF := own_keep v1002 v1003 v1004 hn hs1 hs2
      rw [hs] at hF
      show OEnds p.tables e below G (T1192.setTop (mkF m 115 #[.val (.int p1), .val (.int p2), .val (.int p3), .val (.int p4), .val (.int kk), .val (.int v1002), .val (.int v1003), .val (.int v1004), .val (.ref b1005), .val (.ref b1007), .val (.int v1212), .unset, .unset, .unset] []))
      refine OEnds.st (fun _ k => XS.iload X1192.here hx rfl (hb hby at_115) rfl k) ?_
      show OEnds p.tables e below G (T1192.setTop (mkF m 117 #[.val (.int p1), .val (.int p2), .val (.int p3), .val (.int p4), .val (.int kk), .val (.int v1002), .val (.int v1003), .val (.int v1004), .val (.ref b1005), .val (.ref b1007), .val (.int v1212), .unset, .unset, .unset] [(.int kk)]))
      refine OEnds.st (fun _ k => XS.ifNo X1192.here hx rfl (hb hby at_117) rfl ((if0 _ _).trans (feq hc86_1093).1) k) ?_
      show OEnds p.tables e below G (T1192.setTop (mkF m 120 #[.val (.int p1), .val (.int p2), .val (.int p3), .val (.int p4), .val (.int kk), .val (.int v1002), .val (.int v1003), .val (.int v1004), .val (.ref b1005), .val (.ref b1007), .val (.int v1212), .unset, .unset, .unset] []))
      refine OEnds.st (fun _ k => XS.iload X1192.here hx rfl (hb hby at_120) rfl k) ?_
      show OEnds p.tables e below G (T1192.setTop (mkF m 122 #[.val (.int p1), .val (.int p2), .val (.int p3), .val (.int p4), .val (.int kk), .val (.int v1002), .val (.int v1003), .val (.int v1004), .val (.ref b1005), .val (.ref b1007), .val (.int v1212), .unset, .unset, .unset] [(.int v1002)]))
      by_cases hc122_1213 : v1002 = (0 : Int32)
      · -- pc 122: yes
        refine OEnds.st (fun _ k => XS.ifNo X1192.here hx rfl (hb hby at_122) rfl ((if0 _ _).trans (teq hc122_1213).2) k) ?_
        show OEnds p.tables e below G (T1192.setTop (mkF m 125 #[.val (.int p1), .val (.int p2), .val (.int p3), .val (.int p4), .val (.int kk), .val (.int v1002), .val (.int v1003), .val (.int v1004), .val (.ref b1005), .val (.ref b1007), .val (.int v1212), .unset, .unset, .unset] []))
        refine OEnds.st (fun _ k => XS.iconst X1192.here hx rfl (hb hby at_125) k) ?_
        show OEnds p.tables e below G (T1192.setTop (mkF m 126 #[.val (.int p1), .val (.int p2), .val (.int p3), .val (.int p4), .val (.int kk), .val (.int v1002), .val (.int v1003), .val (.int v1004), .val (.ref b1005), .val (.ref b1007), .val (.int v1212), .unset, .unset, .unset] [(.int (0 : Int32))]))
        refine OEnds.st (fun _ k => XS.istore X1192.here hx rfl (hb hby at_126) rfl (l' := #[.val (.int p1), .val (.int p2), .val (.int p3), .val (.int p4), .val (.int kk), .val (.int v1002), .val (.int v1003), .val (.int v1004), .val (.ref b1005), .val (.ref b1007), .val (.int v1212), .val (.int (0 : Int32)), .unset, .unset]) rfl k) ?_
        show OEnds p.tables e below G (T1192.setTop (mkF m 128 #[.val (.int p1), .val (.int p2), .val (.int p3), .val (.int p4), .val (.int kk), .val (.int v1002), .val (.int v1003), .val (.int v1004), .val (.ref b1005), .val (.ref b1007), .val (.int v1212), .val (.int (0 : Int32)), .unset, .unset] []))
        refine OEnds.st (fun _ k => XS.iconst X1192.here hx rfl (hb hby at_128) k) ?_
        show OEnds p.tables e below G (T1192.setTop (mkF m 129 #[.val (.int p1), .val (.int p2), .val (.int p3), .val (.int p4), .val (.int kk), .val (.int v1002), .val (.int v1003), .val (.int v1004), .val (.ref b1005), .val (.ref b1007), .val (.int v1212), .val (.int (0 : Int32)), .unset, .unset] [(.int (0 : Int32))]))
        refine OEnds.st (fun _ k => XS.istore X1192.here hx rfl (hb hby at_129) rfl (l' := #[.val (.int p1), .val (.int p2), .val (.int p3), .val (.int p4), .val (.int kk), .val (.int v1002), .val (.int v1003), .val (.int v1004), .val (.ref b1005), .val (.ref b1007), .val (.int v1212), .val (.int (0 : Int32)), .val (.int (0 : Int32)), .unset]) rfl k) ?_
        show OEnds p.tables e below G (T1192.setTop (mkF m 131 #[.val (.int p1), .val (.int p2), .val (.int p3), .val (.int p4), .val (.int kk), .val (.int v1002), .val (.int v1003), .val (.int v1004), .val (.ref b1005), .val (.ref b1007), .val (.int v1212), .val (.int (0 : Int32)), .val (.int (0 : Int32)), .unset] []))
        refine OEnds.st (fun _ k => XS.iconst X1192.here hx rfl (hb hby at_131) k) ?_
        show OEnds p.tables e below G (T1192.setTop (mkF m 132 #[.val (.int p1), .val (.int p2), .val (.int p3), .val (.int p4), .val (.int kk), .val (.int v1002), .val (.int v1003), .val (.int v1004), .val (.ref b1005), .val (.ref b1007), .val (.int v1212), .val (.int (0 : Int32)), .val (.int (0 : Int32)), .unset] [(.int (0 : Int32))]))
        refine OEnds.st (fun _ k => XS.istore X1192.here hx rfl (hb hby at_132) rfl (l' := #[.val (.int p1), .val (.int p2), .val (.int p3), .val (.int p4), .val (.int kk), .val (.int v1002), .val (.int v1003), .val (.int v1004), .val (.ref b1005), .val (.ref b1007), .val (.int v1212), .val (.int (0 : Int32)), .val (.int (0 : Int32)), .val (.int (0 : Int32))]) rfl k) ?_
        show OEnds p.tables e below G (T1192.setTop (mkF m 134 #[.val (.int p1), .val (.int p2), .val (.int p3), .val (.int p4), .val (.int kk), .val (.int v1002), .val (.int v1003), .val (.int v1004), .val (.ref b1005), .val (.ref b1007), .val (.int v1212), .val (.int (0 : Int32)), .val (.int (0 : Int32)), .val (.int (0 : Int32))] []))
        refine OEnds.st (fun _ k => XS.goto X1192.here hx rfl (pc0 := 134) (pc' := 182) rfl (hb hby at_134) (by decide) (by decide) k) ?_
        show OEnds p.tables e below G (T1192.setTop (mkF m 182 #[.val (.int p1), .val (.int p2), .val (.int p3), .val (.int p4), .val (.int kk), .val (.int v1002), .val (.int v1003), .val (.int v1004), .val (.ref b1005), .val (.ref b1007), .val (.int v1212), .val (.int (0 : Int32)), .val (.int (0 : Int32)), .val (.int (0 : Int32))] []))
        refine OEnds.st (fun _ k => XS.aload X1192.here hx rfl (hb hby at_182) rfl rfl k) ?_
        show OEnds p.tables e below G (T1192.setTop (mkF m 184 #[.val (.int p1), .val (.int p2), .val (.int p3), .val (.int p4), .val (.int kk), .val (.int v1002), .val (.int v1003), .val (.int v1004), .val (.ref b1005), .val (.ref b1007), .val (.int v1212), .val (.int (0 : Int32)), .val (.int (0 : Int32)), .val (.int (0 : Int32))] [(.ref b1007)]))
        obtain ⟨cq1214, kq1214, q1214a, q1214b, q1214c⟩ := isOf hZ rfl p1194
        obtain ⟨_, _, ⟨T1214, L1214, k1214c, n1214c⟩, -, X1214, ⟨Lc1214, hQ1214, l1214, y1214, z1214⟩, st1214⟩ := X1192.virtualBack hx (y := (⟨"com/example/marshalyard/marshalyard/proxy/IoBuffer", "taken", "()J"⟩ : MethodName)) (z := (⟨"com/example/marshalyard/marshalyard/proxy/IoBuffer", "taken", "()J"⟩ : MethodName)) hown (mvT hZ (hw _ (List.mem_of_getElem? (i := 60) rfl))) (mvT hZ (hw _ (List.mem_of_getElem? (i := 61) rfl))) (notFace_of_selects (args := #[]) (mvT hZ (hw _ (List.mem_of_getElem? (i := 63) rfl)))) (mvT hZ (hw _ (List.mem_of_getElem? (i := 63) rfl))) (mvT hZ (hw _ (List.mem_of_getElem? (i := 62) rfl))) (by decide) (backOf (W := 0) (rm8 l Z a0 hw [] b1007 (((0 : Int64) + (v1003.toInt64)) + (v1004.toInt64)) T1192.heap n0 Z1192 p1200) hZ (hw _ (List.mem_of_getElem? (i := 64) rfl)) (hw _ (List.mem_of_getElem? (i := 4) rfl)) (by decide) (by decide)) q1214a q1214c (g := (mkF m 184 #[.val (.int p1), .val (.int p2), .val (.int p3), .val (.int p4), .val (.int kk), .val (.int v1002), .val (.int v1003), .val (.int v1004), .val (.ref b1005), .val (.ref b1007), .val (.int v1212), .val (.int (0 : Int32)), .val (.int (0 : Int32)), .val (.int (0 : Int32))] [(.ref b1007)])) rfl (by rw [hml]; rfl) (Steps.refl _) (argsL := []) (rest := []) (lenOf pd_4 rfl) rfl (by show 2 * 0 + _ ≤ _; exact Nat.le_of_eq rfl) (hb hby at_184) (fun _ _ => ⟨rfl, rfl, (by decide : 0 + 1 + 1 + 1 + 0 + 1 + 0 + 0 + 0 + 0 + 0 ≤ _), (by decide : 0 + 8 + 9 + 2 + 0 + 8 + 0 + 0 + 0 + 0 + 0 ≤ _)⟩)
        dsimp only [Pt.U, Pt.locs, Pt.cells, Pt.slots] at X1214 l1214 y1214 z1214 st1214 hQ1214
        subst l1214 y1214 z1214
        obtain ⟨rfl, N1214q, e1214⟩ := hQ1214
        have N1214 := Fr.app N1192 N1214q
        refine OEnds.st (fun _ k => st1214.trans k) ?_
        show OEnds p.tables e below G (T1214.setTop (mkF m 187 #[.val (.int p1), .val (.int p2), .val (.int p3), .val (.int p4), .val (.int kk), .val (.int v1002), .val (.int v1003), .val (.int v1004), .val (.ref b1005), .val (.ref b1007), .val (.int v1212), .val (.int (0 : Int32)), .val (.int (0 : Int32)), .val (.int (0 : Int32))] [(.long (((0 : Int64) + (v1003.toInt64)) + (v1004.toInt64)))]))
        refine OEnds.st (fun _ k => XS.iload X1214.here hx rfl (hb hby at_187) rfl k) ?_
        show OEnds p.tables e below G (T1214.setTop (mkF m 189 #[.val (.int p1), .val (.int p2), .val (.int p3), .val (.int p4), .val (.int kk), .val (.int v1002), .val (.int v1003), .val (.int v1004), .val (.ref b1005), .val (.ref b1007), .val (.int v1212), .val (.int (0 : Int32)), .val (.int (0 : Int32)), .val (.int (0 : Int32))] [(.int v1212), (.long (((0 : Int64) + (v1003.toInt64)) + (v1004.toInt64)))]))
        refine OEnds.st (fun _ k => XS.i2l X1214.here hx rfl (hb hby at_189) rfl k) ?_
        show OEnds p.tables e below G (T1214.setTop (mkF m 190 #[.val (.int p1), .val (.int p2), .val (.int p3), .val (.int p4), .val (.int kk), .val (.int v1002), .val (.int v1003), .val (.int v1004), .val (.ref b1005), .val (.ref b1007), .val (.int v1212), .val (.int (0 : Int32)), .val (.int (0 : Int32)), .val (.int (0 : Int32))] [(.long (v1212.toInt64)), (.long (((0 : Int64) + (v1003.toInt64)) + (v1004.toInt64)))]))
        refine OEnds.st (fun _ k => XS.lcmp X1214.here hx rfl (hb hby at_190) rfl k) ?_
        show OEnds p.tables e below G (T1214.setTop (mkF m 191 #[.val (.int p1), .val (.int p2), .val (.int p3), .val (.int p4), .val (.int kk), .val (.int v1002), .val (.int v1003), .val (.int v1004), .val (.ref b1005), .val (.ref b1007), .val (.int v1212), .val (.int (0 : Int32)), .val (.int (0 : Int32)), .val (.int (0 : Int32))] [(.int (lcmpW (((0 : Int64) + (v1003.toInt64)) + (v1004.toInt64)) (v1212.toInt64)))]))
        have hc191_1215 : (((0 : Int64) + (v1003.toInt64)) + (v1004.toInt64)) = (v1212.toInt64) := hT
        refine OEnds.st (fun _ k => XS.ifNo X1214.here hx rfl (hb hby at_191) rfl ((if0 _ _).trans (teq ((lw_eq (((0 : Int64) + (v1003.toInt64)) + (v1004.toInt64)) (v1212.toInt64)).mpr hc191_1215)).2) k) ?_
        show OEnds p.tables e below G (T1214.setTop (mkF m 194 #[.val (.int p1), .val (.int p2), .val (.int p3), .val (.int p4), .val (.int kk), .val (.int v1002), .val (.int v1003), .val (.int v1004), .val (.ref b1005), .val (.ref b1007), .val (.int v1212), .val (.int (0 : Int32)), .val (.int (0 : Int32)), .val (.int (0 : Int32))] []))
        refine OEnds.st (fun _ k => XS.aload X1214.here hx rfl (hb hby at_194) rfl rfl k) ?_
        show OEnds p.tables e below G (T1214.setTop (mkF m 196 #[.val (.int p1), .val (.int p2), .val (.int p3), .val (.int p4), .val (.int kk), .val (.int v1002), .val (.int v1003), .val (.int v1004), .val (.ref b1005), .val (.ref b1007), .val (.int v1212), .val (.int (0 : Int32)), .val (.int (0 : Int32)), .val (.int (0 : Int32))] [(.ref b1007)]))
        obtain ⟨cq1216, kq1216, q1216a, q1216b, q1216c⟩ := isOf hZ e1214 p1194
        obtain ⟨_, _, ⟨T1216, L1216, k1216c, n1216c⟩, -, X1216, ⟨Lc1216, hQ1216, l1216, y1216, z1216⟩, st1216⟩ := X1214.virtualBack hx (y := (⟨"com/example/marshalyard/marshalyard/proxy/IoBuffer", "start", "()I"⟩ : MethodName)) (z := (⟨"com/example/marshalyard/marshalyard/proxy/IoBuffer", "start", "()I"⟩ : MethodName)) hown (mvT hZ (hw _ (List.mem_of_getElem? (i := 65) rfl))) (mvT hZ (hw _ (List.mem_of_getElem? (i := 66) rfl))) (notFace_of_selects (args := #[]) (mvT hZ (hw _ (List.mem_of_getElem? (i := 68) rfl)))) (mvT hZ (hw _ (List.mem_of_getElem? (i := 68) rfl))) (mvT hZ (hw _ (List.mem_of_getElem? (i := 67) rfl))) (by decide) (backOf (W := 0) (rm9 l Z a0 hw [] b1007 (own_skS (1 : Int32) (own_skS (1 : Int32) (0 : Int32) (0 : Int32) ((0 : Int32) + v1002) v1003) (own_skB (1 : Int32) (0 : Int32) (0 : Int32) ((0 : Int32) + v1002) v1003) (own_skE (1 : Int32) (0 : Int32) (0 : Int32) ((0 : Int32) + v1002) v1003) v1004) T1192.heap n0 Z1192 p1196) hZ (hw _ (List.mem_of_getElem? (i := 69) rfl)) (hw _ (List.mem_of_getElem? (i := 4) rfl)) (by decide) (by decide)) q1216a q1216c (g := (mkF m 196 #[.val (.int p1), .val (.int p2), .val (.int p3), .val (.int p4), .val (.int kk), .val (.int v1002), .val (.int v1003), .val (.int v1004), .val (.ref b1005), .val (.ref b1007), .val (.int v1212), .val (.int (0 : Int32)), .val (.int (0 : Int32)), .val (.int (0 : Int32))] [(.ref b1007)])) rfl (by rw [hml]; rfl) (Steps.refl _) (argsL := []) (rest := []) (lenOf pd_5 rfl) rfl (by show 2 * 0 + _ ≤ _; exact Nat.le_of_eq rfl) (hb hby at_196) (fun _ _ => ⟨rfl, e1214, (by decide : 0 + 1 + 1 + 1 + 0 + 1 + 0 + 0 + 0 + 0 + 0 + 0 ≤ _), (by decide : 0 + 8 + 9 + 2 + 0 + 8 + 0 + 0 + 0 + 0 + 0 + 0 ≤ _)⟩)
        dsimp only [Pt.U, Pt.locs, Pt.cells, Pt.slots] at X1216 l1216 y1216 z1216 st1216 hQ1216
        subst l1216 y1216 z1216
        obtain ⟨rfl, N1216q, e1216⟩ := hQ1216
        have N1216 := Fr.app N1214 N1216q
        refine OEnds.st (fun _ k => st1216.trans k) ?_
        show OEnds p.tables e below G (T1216.setTop (mkF m 199 #[.val (.int p1), .val (.int p2), .val (.int p3), .val (.int p4), .val (.int kk), .val (.int v1002), .val (.int v1003), .val (.int v1004), .val (.ref b1005), .val (.ref b1007), .val (.int v1212), .val (.int (0 : Int32)), .val (.int (0 : Int32)), .val (.int (0 : Int32))] [(.int (own_skS (1 : Int32) (own_skS (1 : Int32) (0 : Int32) (0 : Int32) ((0 : Int32) + v1002) v1003) (own_skB (1 : Int32) (0 : Int32) (0 : Int32) ((0 : Int32) + v1002) v1003) (own_skE (1 : Int32) (0 : Int32) (0 : Int32) ((0 : Int32) + v1002) v1003) v1004))]))
        refine OEnds.st (fun _ k => XS.iload X1216.here hx rfl (hb hby at_199) rfl k) ?_
        show OEnds p.tables e below G (T1216.setTop (mkF m 201 #[.val (.int p1), .val (.int p2), .val (.int p3), .val (.int p4), .val (.int kk), .val (.int v1002), .val (.int v1003), .val (.int v1004), .val (.ref b1005), .val (.ref b1007), .val (.int v1212), .val (.int (0 : Int32)), .val (.int (0 : Int32)), .val (.int (0 : Int32))] [(.int (0 : Int32)), (.int (own_skS (1 : Int32) (own_skS (1 : Int32) (0 : Int32) (0 : Int32) ((0 : Int32) + v1002) v1003) (own_skB (1 : Int32) (0 : Int32) (0 : Int32) ((0 : Int32) + v1002) v1003) (own_skE (1 : Int32) (0 : Int32) (0 : Int32) ((0 : Int32) + v1002) v1003) v1004))]))
        have hc201_1217 : (own_skS (1 : Int32) (own_skS (1 : Int32) (0 : Int32) (0 : Int32) ((0 : Int32) + v1002) v1003) (own_skB (1 : Int32) (0 : Int32) (0 : Int32) ((0 : Int32) + v1002) v1003) (own_skE (1 : Int32) (0 : Int32) (0 : Int32) ((0 : Int32) + v1002) v1003) v1004) = (0 : Int32) := (hF.1 hc122_1213).1
        refine OEnds.st (fun _ k => XS.icmpNo X1216.here hx rfl (hb hby at_201) rfl (teq hc201_1217).2 k) ?_
        show OEnds p.tables e below G (T1216.setTop (mkF m 204 #[.val (.int p1), .val (.int p2), .val (.int p3), .val (.int p4), .val (.int kk), .val (.int v1002), .val (.int v1003), .val (.int v1004), .val (.ref b1005), .val (.ref b1007), .val (.int v1212), .val (.int (0 : Int32)), .val (.int (0 : Int32)), .val (.int (0 : Int32))] []))
        refine OEnds.st (fun _ k => XS.aload X1216.here hx rfl (hb hby at_204) rfl rfl k) ?_
        show OEnds p.tables e below G (T1216.setTop (mkF m 206 #[.val (.int p1), .val (.int p2), .val (.int p3), .val (.int p4), .val (.int kk), .val (.int v1002), .val (.int v1003), .val (.int v1004), .val (.ref b1005), .val (.ref b1007), .val (.int v1212), .val (.int (0 : Int32)), .val (.int (0 : Int32)), .val (.int (0 : Int32))] [(.ref b1007)]))
        obtain ⟨cq1218, kq1218, q1218a, q1218b, q1218c⟩ := isOf hZ e1216 p1194
        obtain ⟨_, _, ⟨T1218, L1218, k1218c, n1218c⟩, -, X1218, ⟨Lc1218, hQ1218, l1218, y1218, z1218⟩, st1218⟩ := X1216.virtualBack hx (y := (⟨"com/example/marshalyard/marshalyard/proxy/IoBuffer", "end", "()I"⟩ : MethodName)) (z := (⟨"com/example/marshalyard/marshalyard/proxy/IoBuffer", "end", "()I"⟩ : MethodName)) hown (mvT hZ (hw _ (List.mem_of_getElem? (i := 70) rfl))) (mvT hZ (hw _ (List.mem_of_getElem? (i := 71) rfl))) (notFace_of_selects (args := #[]) (mvT hZ (hw _ (List.mem_of_getElem? (i := 73) rfl)))) (mvT hZ (hw _ (List.mem_of_getElem? (i := 73) rfl))) (mvT hZ (hw _ (List.mem_of_getElem? (i := 72) rfl))) (by decide) (backOf (W := 0) (rm10 l Z a0 hw [] b1007 (own_skE (1 : Int32) (own_skS (1 : Int32) (0 : Int32) (0 : Int32) ((0 : Int32) + v1002) v1003) (own_skB (1 : Int32) (0 : Int32) (0 : Int32) ((0 : Int32) + v1002) v1003) (own_skE (1 : Int32) (0 : Int32) (0 : Int32) ((0 : Int32) + v1002) v1003) v1004) T1192.heap n0 Z1192 p1197) hZ (hw _ (List.mem_of_getElem? (i := 74) rfl)) (hw _ (List.mem_of_getElem? (i := 4) rfl)) (by decide) (by decide)) q1218a q1218c (g := (mkF m 206 #[.val (.int p1), .val (.int p2), .val (.int p3), .val (.int p4), .val (.int kk), .val (.int v1002), .val (.int v1003), .val (.int v1004), .val (.ref b1005), .val (.ref b1007), .val (.int v1212), .val (.int (0 : Int32)), .val (.int (0 : Int32)), .val (.int (0 : Int32))] [(.ref b1007)])) rfl (by rw [hml]; rfl) (Steps.refl _) (argsL := []) (rest := []) (lenOf pd_5 rfl) rfl (by show 2 * 0 + _ ≤ _; exact Nat.le_of_eq rfl) (hb hby at_206) (fun _ _ => ⟨rfl, e1216, (by decide : 0 + 1 + 1 + 1 + 0 + 1 + 0 + 0 + 0 + 0 + 0 + 0 + 0 ≤ _), (by decide : 0 + 8 + 9 + 2 + 0 + 8 + 0 + 0 + 0 + 0 + 0 + 0 + 0 ≤ _)⟩)
        dsimp only [Pt.U, Pt.locs, Pt.cells, Pt.slots] at X1218 l1218 y1218 z1218 st1218 hQ1218
        subst l1218 y1218 z1218
        obtain ⟨rfl, N1218q, e1218⟩ := hQ1218
        have N1218 := Fr.app N1216 N1218q
        refine OEnds.st (fun _ k => st1218.trans k) ?_
        show OEnds p.tables e below G (T1218.setTop (mkF m 209 #[.val (.int p1), .val (.int p2), .val (.int p3), .val (.int p4), .val (.int kk), .val (.int v1002), .val (.int v1003), .val (.int v1004), .val (.ref b1005), .val (.ref b1007), .val (.int v1212), .val (.int (0 : Int32)), .val (.int (0 : Int32)), .val (.int (0 : Int32))] [(.int (own_skE (1 : Int32) (own_skS (1 : Int32) (0 : Int32) (0 : Int32) ((0 : Int32) + v1002) v1003) (own_skB (1 : Int32) (0 : Int32) (0 : Int32) ((0 : Int32) + v1002) v1003) (own_skE (1 : Int32) (0 : Int32) (0 : Int32) ((0 : Int32) + v1002) v1003) v1004))]))
        refine OEnds.st (fun _ k => XS.iload X1218.here hx rfl (hb hby at_209) rfl k) ?_
        show OEnds p.tables e below G (T1218.setTop (mkF m 211 #[.val (.int p1), .val (.int p2), .val (.int p3), .val (.int p4), .val (.int kk), .val (.int v1002), .val (.int v1003), .val (.int v1004), .val (.ref b1005), .val (.ref b1007), .val (.int v1212), .val (.int (0 : Int32)), .val (.int (0 : Int32)), .val (.int (0 : Int32))] [(.int (0 : Int32)), (.int (own_skE (1 : Int32) (own_skS (1 : Int32) (0 : Int32) (0 : Int32) ((0 : Int32) + v1002) v1003) (own_skB (1 : Int32) (0 : Int32) (0 : Int32) ((0 : Int32) + v1002) v1003) (own_skE (1 : Int32) (0 : Int32) (0 : Int32) ((0 : Int32) + v1002) v1003) v1004))]))
        have hc211_1219 : (own_skE (1 : Int32) (own_skS (1 : Int32) (0 : Int32) (0 : Int32) ((0 : Int32) + v1002) v1003) (own_skB (1 : Int32) (0 : Int32) (0 : Int32) ((0 : Int32) + v1002) v1003) (own_skE (1 : Int32) (0 : Int32) (0 : Int32) ((0 : Int32) + v1002) v1003) v1004) = (0 : Int32) := (hF.1 hc122_1213).2.1
        refine OEnds.st (fun _ k => XS.icmpNo X1218.here hx rfl (hb hby at_211) rfl (teq hc211_1219).2 k) ?_
        show OEnds p.tables e below G (T1218.setTop (mkF m 214 #[.val (.int p1), .val (.int p2), .val (.int p3), .val (.int p4), .val (.int kk), .val (.int v1002), .val (.int v1003), .val (.int v1004), .val (.ref b1005), .val (.ref b1007), .val (.int v1212), .val (.int (0 : Int32)), .val (.int (0 : Int32)), .val (.int (0 : Int32))] []))
        refine OEnds.st (fun _ k => XS.aload X1218.here hx rfl (hb hby at_214) rfl rfl k) ?_
        show OEnds p.tables e below G (T1218.setTop (mkF m 216 #[.val (.int p1), .val (.int p2), .val (.int p3), .val (.int p4), .val (.int kk), .val (.int v1002), .val (.int v1003), .val (.int v1004), .val (.ref b1005), .val (.ref b1007), .val (.int v1212), .val (.int (0 : Int32)), .val (.int (0 : Int32)), .val (.int (0 : Int32))] [(.ref b1007)]))
        obtain ⟨cq1220, kq1220, q1220a, q1220b, q1220c⟩ := isOf hZ e1218 p1194
        obtain ⟨_, _, ⟨T1220, L1220, k1220c, n1220c⟩, -, X1220, ⟨Lc1220, hQ1220, l1220, y1220, z1220⟩, st1220⟩ := X1218.virtualBack hx (y := (⟨"com/example/marshalyard/marshalyard/proxy/IoBuffer", "kept", "()I"⟩ : MethodName)) (z := (⟨"com/example/marshalyard/marshalyard/proxy/IoBuffer", "kept", "()I"⟩ : MethodName)) hown (mvT hZ (hw _ (List.mem_of_getElem? (i := 75) rfl))) (mvT hZ (hw _ (List.mem_of_getElem? (i := 76) rfl))) (notFace_of_selects (args := #[]) (mvT hZ (hw _ (List.mem_of_getElem? (i := 78) rfl)))) (mvT hZ (hw _ (List.mem_of_getElem? (i := 78) rfl))) (mvT hZ (hw _ (List.mem_of_getElem? (i := 77) rfl))) (by decide) (backOf (W := 0) (rm11 l Z a0 hw [] b1007 (own_skS (1 : Int32) (own_skS (1 : Int32) (0 : Int32) (0 : Int32) ((0 : Int32) + v1002) v1003) (own_skB (1 : Int32) (0 : Int32) (0 : Int32) ((0 : Int32) + v1002) v1003) (own_skE (1 : Int32) (0 : Int32) (0 : Int32) ((0 : Int32) + v1002) v1003) v1004) (own_skB (1 : Int32) (own_skS (1 : Int32) (0 : Int32) (0 : Int32) ((0 : Int32) + v1002) v1003) (own_skB (1 : Int32) (0 : Int32) (0 : Int32) ((0 : Int32) + v1002) v1003) (own_skE (1 : Int32) (0 : Int32) (0 : Int32) ((0 : Int32) + v1002) v1003) v1004) T1192.heap n0 Z1192 p1196 p1198) hZ (hw _ (List.mem_of_getElem? (i := 79) rfl)) (hw _ (List.mem_of_getElem? (i := 4) rfl)) (by decide) (by decide)) q1220a q1220c (g := (mkF m 216 #[.val (.int p1), .val (.int p2), .val (.int p3), .val (.int p4), .val (.int kk), .val (.int v1002), .val (.int v1003), .val (.int v1004), .val (.ref b1005), .val (.ref b1007), .val (.int v1212), .val (.int (0 : Int32)), .val (.int (0 : Int32)), .val (.int (0 : Int32))] [(.ref b1007)])) rfl (by rw [hml]; rfl) (Steps.refl _) (argsL := []) (rest := []) (lenOf pd_5 rfl) rfl (by show 2 * 0 + _ ≤ _; exact Nat.le_of_eq rfl) (hb hby at_216) (fun _ _ => ⟨rfl, e1218, (by decide : 0 + 1 + 1 + 1 + 0 + 1 + 0 + 0 + 0 + 0 + 0 + 0 + 0 + 0 ≤ _), (by decide : 0 + 8 + 9 + 2 + 0 + 8 + 0 + 0 + 0 + 0 + 0 + 0 + 0 + 0 ≤ _)⟩)
        dsimp only [Pt.U, Pt.locs, Pt.cells, Pt.slots] at X1220 l1220 y1220 z1220 st1220 hQ1220
        subst l1220 y1220 z1220
        obtain ⟨rfl, N1220q, e1220⟩ := hQ1220
        have N1220 := Fr.app N1218 N1220q
        refine OEnds.st (fun _ k => st1220.trans k) ?_
        show OEnds p.tables e below G (T1220.setTop (mkF m 219 #[.val (.int p1), .val (.int p2), .val (.int p3), .val (.int p4), .val (.int kk), .val (.int v1002), .val (.int v1003), .val (.int v1004), .val (.ref b1005), .val (.ref b1007), .val (.int v1212), .val (.int (0 : Int32)), .val (.int (0 : Int32)), .val (.int (0 : Int32))] [(.int ((own_skS (1 : Int32) (own_skS (1 : Int32) (0 : Int32) (0 : Int32) ((0 : Int32) + v1002) v1003) (own_skB (1 : Int32) (0 : Int32) (0 : Int32) ((0 : Int32) + v1002) v1003) (own_skE (1 : Int32) (0 : Int32) (0 : Int32) ((0 : Int32) + v1002) v1003) v1004) - (own_skB (1 : Int32) (own_skS (1 : Int32) (0 : Int32) (0 : Int32) ((0 : Int32) + v1002) v1003) (own_skB (1 : Int32) (0 : Int32) (0 : Int32) ((0 : Int32) + v1002) v1003) (own_skE (1 : Int32) (0 : Int32) (0 : Int32) ((0 : Int32) + v1002) v1003) v1004)))]))
        refine OEnds.st (fun _ k => XS.iload X1220.here hx rfl (hb hby at_219) rfl k) ?_
        show OEnds p.tables e below G (T1220.setTop (mkF m 221 #[.val (.int p1), .val (.int p2), .val (.int p3), .val (.int p4), .val (.int kk), .val (.int v1002), .val (.int v1003), .val (.int v1004), .val (.ref b1005), .val (.ref b1007), .val (.int v1212), .val (.int (0 : Int32)), .val (.int (0 : Int32)), .val (.int (0 : Int32))] [(.int (0 : Int32)), (.int ((own_skS (1 : Int32) (own_skS (1 : Int32) (0 : Int32) (0 : Int32) ((0 : Int32) + v1002) v1003) (own_skB (1 : Int32) (0 : Int32) (0 : Int32) ((0 : Int32) + v1002) v1003) (own_skE (1 : Int32) (0 : Int32) (0 : Int32) ((0 : Int32) + v1002) v1003) v1004) - (own_skB (1 : Int32) (own_skS (1 : Int32) (0 : Int32) (0 : Int32) ((0 : Int32) + v1002) v1003) (own_skB (1 : Int32) (0 : Int32) (0 : Int32) ((0 : Int32) + v1002) v1003) (own_skE (1 : Int32) (0 : Int32) (0 : Int32) ((0 : Int32) + v1002) v1003) v1004)))]))
        have hc221_1221 : ((own_skS (1 : Int32) (own_skS (1 : Int32) (0 : Int32) (0 : Int32) ((0 : Int32) + v1002) v1003) (own_skB (1 : Int32) (0 : Int32) (0 : Int32) ((0 : Int32) + v1002) v1003) (own_skE (1 : Int32) (0 : Int32) (0 : Int32) ((0 : Int32) + v1002) v1003) v1004) - (own_skB (1 : Int32) (own_skS (1 : Int32) (0 : Int32) (0 : Int32) ((0 : Int32) + v1002) v1003) (own_skB (1 : Int32) (0 : Int32) (0 : Int32) ((0 : Int32) + v1002) v1003) (own_skE (1 : Int32) (0 : Int32) (0 : Int32) ((0 : Int32) + v1002) v1003) v1004)) = (0 : Int32) := (hF.1 hc122_1213).2.2
        refine OEnds.st (fun _ k => XS.icmpNo X1220.here hx rfl (hb hby at_221) rfl (teq hc221_1221).2 k) ?_
        show OEnds p.tables e below G (T1220.setTop (mkF m 224 #[.val (.int p1), .val (.int p2), .val (.int p3), .val (.int p4), .val (.int kk), .val (.int v1002), .val (.int v1003), .val (.int v1004), .val (.ref b1005), .val (.ref b1007), .val (.int v1212), .val (.int (0 : Int32)), .val (.int (0 : Int32)), .val (.int (0 : Int32))] []))
        refine OEnds.st (fun _ k => XS.iconst X1220.here hx rfl (hb hby at_224) k) ?_
        show OEnds p.tables e below G (T1220.setTop (mkF m 225 #[.val (.int p1), .val (.int p2), .val (.int p3), .val (.int p4), .val (.int kk), .val (.int v1002), .val (.int v1003), .val (.int v1004), .val (.ref b1005), .val (.ref b1007), .val (.int v1212), .val (.int (0 : Int32)), .val (.int (0 : Int32)), .val (.int (0 : Int32))] [(.int (1 : Int32))]))
        refine OEnds.st (fun _ k => XS.goto X1220.here hx rfl (pc0 := 225) (pc' := 229) rfl (hb hby at_225) (by decide) (by decide) k) ?_
        show OEnds p.tables e below G (T1220.setTop (mkF m 229 #[.val (.int p1), .val (.int p2), .val (.int p3), .val (.int p4), .val (.int kk), .val (.int v1002), .val (.int v1003), .val (.int v1004), .val (.ref b1005), .val (.ref b1007), .val (.int v1212), .val (.int (0 : Int32)), .val (.int (0 : Int32)), .val (.int (0 : Int32))] [(.int (1 : Int32))]))
        rw [← hG]
        refine OEnds.retZ X1220 hx hlk Bd.returns rfl (hb hby at_229) (by decide) (by decide) ?_
        rw [e1220]
        exact ⟨rfl, N1220⟩
      · -- pc 122: no
        refine OEnds.st (fun _ k => XS.ifYes X1192.here hx rfl (pc0 := 122) (pc' := 137) rfl (hb hby at_122) rfl ((if0 _ _).trans (feq hc122_1213).2) (by decide) (by decide) k) ?_
        show OEnds p.tables e below G (T1192.setTop (mkF m 137 #[.val (.int p1), .val (.int p2), .val (.int p3), .val (.int p4), .val (.int kk), .val (.int v1002), .val (.int v1003), .val (.int v1004), .val (.ref b1005), .val (.ref b1007), .val (.int v1212), .unset, .unset, .unset] []))
        refine OEnds.st (fun _ k => XS.iload X1192.here hx rfl (hb hby at_137) rfl k) ?_
        show OEnds p.tables e below G (T1192.setTop (mkF m 139 #[.val (.int p1), .val (.int p2), .val (.int p3), .val (.int p4), .val (.int kk), .val (.int v1002), .val (.int v1003), .val (.int v1004), .val (.ref b1005), .val (.ref b1007), .val (.int v1212), .unset, .unset, .unset] [(.int v1212)]))
        refine OEnds.st (fun _ k => XS.istore X1192.here hx rfl (hb hby at_139) rfl (l' := #[.val (.int p1), .val (.int p2), .val (.int p3), .val (.int p4), .val (.int kk), .val (.int v1002), .val (.int v1003), .val (.int v1004), .val (.ref b1005), .val (.ref b1007), .val (.int v1212), .val (.int v1212), .unset, .unset]) rfl k) ?_
        show OEnds p.tables e below G (T1192.setTop (mkF m 141 #[.val (.int p1), .val (.int p2), .val (.int p3), .val (.int p4), .val (.int kk), .val (.int v1002), .val (.int v1003), .val (.int v1004), .val (.ref b1005), .val (.ref b1007), .val (.int v1212), .val (.int v1212), .unset, .unset] []))
        refine OEnds.st (fun _ k => XS.iload X1192.here hx rfl (hb hby at_141) rfl k) ?_
        show OEnds p.tables e below G (T1192.setTop (mkF m 143 #[.val (.int p1), .val (.int p2), .val (.int p3), .val (.int p4), .val (.int kk), .val (.int v1002), .val (.int v1003), .val (.int v1004), .val (.ref b1005), .val (.ref b1007), .val (.int v1212), .val (.int v1212), .unset, .unset] [(.int v1002)]))
        refine OEnds.st (fun _ k => XS.istore X1192.here hx rfl (hb hby at_143) rfl (l' := #[.val (.int p1), .val (.int p2), .val (.int p3), .val (.int p4), .val (.int kk), .val (.int v1002), .val (.int v1003), .val (.int v1004), .val (.ref b1005), .val (.ref b1007), .val (.int v1212), .val (.int v1212), .val (.int v1002), .unset]) rfl k) ?_
        show OEnds p.tables e below G (T1192.setTop (mkF m 145 #[.val (.int p1), .val (.int p2), .val (.int p3), .val (.int p4), .val (.int kk), .val (.int v1002), .val (.int v1003), .val (.int v1004), .val (.ref b1005), .val (.ref b1007), .val (.int v1212), .val (.int v1212), .val (.int v1002), .unset] []))
        refine OEnds.st (fun _ k => XS.iload X1192.here hx rfl (hb hby at_145) rfl k) ?_
        show OEnds p.tables e below G (T1192.setTop (mkF m 147 #[.val (.int p1), .val (.int p2), .val (.int p3), .val (.int p4), .val (.int kk), .val (.int v1002), .val (.int v1003), .val (.int v1004), .val (.ref b1005), .val (.ref b1007), .val (.int v1212), .val (.int v1212), .val (.int v1002), .unset] [(.int v1212)]))
        refine OEnds.st (fun _ k => XS.istore X1192.here hx rfl (hb hby at_147) rfl (l' := #[.val (.int p1), .val (.int p2), .val (.int p3), .val (.int p4), .val (.int kk), .val (.int v1002), .val (.int v1003), .val (.int v1004), .val (.ref b1005), .val (.ref b1007), .val (.int v1212), .val (.int v1212), .val (.int v1002), .val (.int v1212)]) rfl k) ?_
        show OEnds p.tables e below G (T1192.setTop (mkF m 149 #[.val (.int p1), .val (.int p2), .val (.int p3), .val (.int p4), .val (.int kk), .val (.int v1002), .val (.int v1003), .val (.int v1004), .val (.ref b1005), .val (.ref b1007), .val (.int v1212), .val (.int v1212), .val (.int v1002), .val (.int v1212)] []))
        refine OEnds.st (fun _ k => XS.goto X1192.here hx rfl (pc0 := 149) (pc' := 182) rfl (hb hby at_149) (by decide) (by decide) k) ?_
        show OEnds p.tables e below G (T1192.setTop (mkF m 182 #[.val (.int p1), .val (.int p2), .val (.int p3), .val (.int p4), .val (.int kk), .val (.int v1002), .val (.int v1003), .val (.int v1004), .val (.ref b1005), .val (.ref b1007), .val (.int v1212), .val (.int v1212), .val (.int v1002), .val (.int v1212)] []))
        refine OEnds.st (fun _ k => XS.aload X1192.here hx rfl (hb hby at_182) rfl rfl k) ?_
        show OEnds p.tables e below G (T1192.setTop (mkF m 184 #[.val (.int p1), .val (.int p2), .val (.int p3), .val (.int p4), .val (.int kk), .val (.int v1002), .val (.int v1003), .val (.int v1004), .val (.ref b1005), .val (.ref b1007), .val (.int v1212), .val (.int v1212), .val (.int v1002), .val (.int v1212)] [(.ref b1007)]))
        obtain ⟨cq1222, kq1222, q1222a, q1222b, q1222c⟩ := isOf hZ rfl p1194
        obtain ⟨_, _, ⟨T1222, L1222, k1222c, n1222c⟩, -, X1222, ⟨Lc1222, hQ1222, l1222, y1222, z1222⟩, st1222⟩ := X1192.virtualBack hx (y := (⟨"com/example/marshalyard/marshalyard/proxy/IoBuffer", "taken", "()J"⟩ : MethodName)) (z := (⟨"com/example/marshalyard/marshalyard/proxy/IoBuffer", "taken", "()J"⟩ : MethodName)) hown (mvT hZ (hw _ (List.mem_of_getElem? (i := 60) rfl))) (mvT hZ (hw _ (List.mem_of_getElem? (i := 61) rfl))) (notFace_of_selects (args := #[]) (mvT hZ (hw _ (List.mem_of_getElem? (i := 63) rfl)))) (mvT hZ (hw _ (List.mem_of_getElem? (i := 63) rfl))) (mvT hZ (hw _ (List.mem_of_getElem? (i := 62) rfl))) (by decide) (backOf (W := 0) (rm8 l Z a0 hw [] b1007 (((0 : Int64) + (v1003.toInt64)) + (v1004.toInt64)) T1192.heap n0 Z1192 p1200) hZ (hw _ (List.mem_of_getElem? (i := 64) rfl)) (hw _ (List.mem_of_getElem? (i := 4) rfl)) (by decide) (by decide)) q1222a q1222c (g := (mkF m 184 #[.val (.int p1), .val (.int p2), .val (.int p3), .val (.int p4), .val (.int kk), .val (.int v1002), .val (.int v1003), .val (.int v1004), .val (.ref b1005), .val (.ref b1007), .val (.int v1212), .val (.int v1212), .val (.int v1002), .val (.int v1212)] [(.ref b1007)])) rfl (by rw [hml]; rfl) (Steps.refl _) (argsL := []) (rest := []) (lenOf pd_4 rfl) rfl (by show 2 * 0 + _ ≤ _; exact Nat.le_of_eq rfl) (hb hby at_184) (fun _ _ => ⟨rfl, rfl, (by decide : 0 + 1 + 1 + 1 + 0 + 1 + 0 + 0 + 0 + 0 + 0 ≤ _), (by decide : 0 + 8 + 9 + 2 + 0 + 8 + 0 + 0 + 0 + 0 + 0 ≤ _)⟩)
        dsimp only [Pt.U, Pt.locs, Pt.cells, Pt.slots] at X1222 l1222 y1222 z1222 st1222 hQ1222
        subst l1222 y1222 z1222
        obtain ⟨rfl, N1222q, e1222⟩ := hQ1222
        have N1222 := Fr.app N1192 N1222q
        refine OEnds.st (fun _ k => st1222.trans k) ?_
        show OEnds p.tables e below G (T1222.setTop (mkF m 187 #[.val (.int p1), .val (.int p2), .val (.int p3), .val (.int p4), .val (.int kk), .val (.int v1002), .val (.int v1003), .val (.int v1004), .val (.ref b1005), .val (.ref b1007), .val (.int v1212), .val (.int v1212), .val (.int v1002), .val (.int v1212)] [(.long (((0 : Int64) + (v1003.toInt64)) + (v1004.toInt64)))]))
        refine OEnds.st (fun _ k => XS.iload X1222.here hx rfl (hb hby at_187) rfl k) ?_
        show OEnds p.tables e below G (T1222.setTop (mkF m 189 #[.val (.int p1), .val (.int p2), .val (.int p3), .val (.int p4), .val (.int kk), .val (.int v1002), .val (.int v1003), .val (.int v1004), .val (.ref b1005), .val (.ref b1007), .val (.int v1212), .val (.int v1212), .val (.int v1002), .val (.int v1212)] [(.int v1212), (.long (((0 : Int64) + (v1003.toInt64)) + (v1004.toInt64)))]))
        refine OEnds.st (fun _ k => XS.i2l X1222.here hx rfl (hb hby at_189) rfl k) ?_
        show OEnds p.tables e below G (T1222.setTop (mkF m 190 #[.val (.int p1), .val (.int p2), .val (.int p3), .val (.int p4), .val (.int kk), .val (.int v1002), .val (.int v1003), .val (.int v1004), .val (.ref b1005), .val (.ref b1007), .val (.int v1212), .val (.int v1212), .val (.int v1002), .val (.int v1212)] [(.long (v1212.toInt64)), (.long (((0 : Int64) + (v1003.toInt64)) + (v1004.toInt64)))]))
        refine OEnds.st (fun _ k => XS.lcmp X1222.here hx rfl (hb hby at_190) rfl k) ?_
        show OEnds p.tables e below G (T1222.setTop (mkF m 191 #[.val (.int p1), .val (.int p2), .val (.int p3), .val (.int p4), .val (.int kk), .val (.int v1002), .val (.int v1003), .val (.int v1004), .val (.ref b1005), .val (.ref b1007), .val (.int v1212), .val (.int v1212), .val (.int v1002), .val (.int v1212)] [(.int (lcmpW (((0 : Int64) + (v1003.toInt64)) + (v1004.toInt64)) (v1212.toInt64)))]))
        have hc191_1223 : (((0 : Int64) + (v1003.toInt64)) + (v1004.toInt64)) = (v1212.toInt64) := hT
        refine OEnds.st (fun _ k => XS.ifNo X1222.here hx rfl (hb hby at_191) rfl ((if0 _ _).trans (teq ((lw_eq (((0 : Int64) + (v1003.toInt64)) + (v1004.toInt64)) (v1212.toInt64)).mpr hc191_1223)).2) k) ?_
        show OEnds p.tables e below G (T1222.setTop (mkF m 194 #[.val (.int p1), .val (.int p2), .val (.int p3), .val (.int p4), .val (.int kk), .val (.int v1002), .val (.int v1003), .val (.int v1004), .val (.ref b1005), .val (.ref b1007), .val (.int v1212), .val (.int v1212), .val (.int v1002), .val (.int v1212)] []))
        refine OEnds.st (fun _ k => XS.aload X1222.here hx rfl (hb hby at_194) rfl rfl k) ?_
        show OEnds p.tables e below G (T1222.setTop (mkF m 196 #[.val (.int p1), .val (.int p2), .val (.int p3), .val (.int p4), .val (.int kk), .val (.int v1002), .val (.int v1003), .val (.int v1004), .val (.ref b1005), .val (.ref b1007), .val (.int v1212), .val (.int v1212), .val (.int v1002), .val (.int v1212)] [(.ref b1007)]))
        obtain ⟨cq1224, kq1224, q1224a, q1224b, q1224c⟩ := isOf hZ e1222 p1194
        obtain ⟨_, _, ⟨T1224, L1224, k1224c, n1224c⟩, -, X1224, ⟨Lc1224, hQ1224, l1224, y1224, z1224⟩, st1224⟩ := X1222.virtualBack hx (y := (⟨"com/example/marshalyard/marshalyard/proxy/IoBuffer", "start", "()I"⟩ : MethodName)) (z := (⟨"com/example/marshalyard/marshalyard/proxy/IoBuffer", "start", "()I"⟩ : MethodName)) hown (mvT hZ (hw _ (List.mem_of_getElem? (i := 65) rfl))) (mvT hZ (hw _ (List.mem_of_getElem? (i := 66) rfl))) (notFace_of_selects (args := #[]) (mvT hZ (hw _ (List.mem_of_getElem? (i := 68) rfl)))) (mvT hZ (hw _ (List.mem_of_getElem? (i := 68) rfl))) (mvT hZ (hw _ (List.mem_of_getElem? (i := 67) rfl))) (by decide) (backOf (W := 0) (rm9 l Z a0 hw [] b1007 (own_skS (1 : Int32) (own_skS (1 : Int32) (0 : Int32) (0 : Int32) ((0 : Int32) + v1002) v1003) (own_skB (1 : Int32) (0 : Int32) (0 : Int32) ((0 : Int32) + v1002) v1003) (own_skE (1 : Int32) (0 : Int32) (0 : Int32) ((0 : Int32) + v1002) v1003) v1004) T1192.heap n0 Z1192 p1196) hZ (hw _ (List.mem_of_getElem? (i := 69) rfl)) (hw _ (List.mem_of_getElem? (i := 4) rfl)) (by decide) (by decide)) q1224a q1224c (g := (mkF m 196 #[.val (.int p1), .val (.int p2), .val (.int p3), .val (.int p4), .val (.int kk), .val (.int v1002), .val (.int v1003), .val (.int v1004), .val (.ref b1005), .val (.ref b1007), .val (.int v1212), .val (.int v1212), .val (.int v1002), .val (.int v1212)] [(.ref b1007)])) rfl (by rw [hml]; rfl) (Steps.refl _) (argsL := []) (rest := []) (lenOf pd_5 rfl) rfl (by show 2 * 0 + _ ≤ _; exact Nat.le_of_eq rfl) (hb hby at_196) (fun _ _ => ⟨rfl, e1222, (by decide : 0 + 1 + 1 + 1 + 0 + 1 + 0 + 0 + 0 + 0 + 0 + 0 ≤ _), (by decide : 0 + 8 + 9 + 2 + 0 + 8 + 0 + 0 + 0 + 0 + 0 + 0 ≤ _)⟩)
        dsimp only [Pt.U, Pt.locs, Pt.cells, Pt.slots] at X1224 l1224 y1224 z1224 st1224 hQ1224
        subst l1224 y1224 z1224
        obtain ⟨rfl, N1224q, e1224⟩ := hQ1224
        have N1224 := Fr.app N1222 N1224q
        refine OEnds.st (fun _ k => st1224.trans k) ?_
        show OEnds p.tables e below G (T1224.setTop (mkF m 199 #[.val (.int p1), .val (.int p2), .val (.int p3), .val (.int p4), .val (.int kk), .val (.int v1002), .val (.int v1003), .val (.int v1004), .val (.ref b1005), .val (.ref b1007), .val (.int v1212), .val (.int v1212), .val (.int v1002), .val (.int v1212)] [(.int (own_skS (1 : Int32) (own_skS (1 : Int32) (0 : Int32) (0 : Int32) ((0 : Int32) + v1002) v1003) (own_skB (1 : Int32) (0 : Int32) (0 : Int32) ((0 : Int32) + v1002) v1003) (own_skE (1 : Int32) (0 : Int32) (0 : Int32) ((0 : Int32) + v1002) v1003) v1004))]))
        refine OEnds.st (fun _ k => XS.iload X1224.here hx rfl (hb hby at_199) rfl k) ?_
        show OEnds p.tables e below G (T1224.setTop (mkF m 201 #[.val (.int p1), .val (.int p2), .val (.int p3), .val (.int p4), .val (.int kk), .val (.int v1002), .val (.int v1003), .val (.int v1004), .val (.ref b1005), .val (.ref b1007), .val (.int v1212), .val (.int v1212), .val (.int v1002), .val (.int v1212)] [(.int v1212), (.int (own_skS (1 : Int32) (own_skS (1 : Int32) (0 : Int32) (0 : Int32) ((0 : Int32) + v1002) v1003) (own_skB (1 : Int32) (0 : Int32) (0 : Int32) ((0 : Int32) + v1002) v1003) (own_skE (1 : Int32) (0 : Int32) (0 : Int32) ((0 : Int32) + v1002) v1003) v1004))]))
        have hc201_1225 : (own_skS (1 : Int32) (own_skS (1 : Int32) (0 : Int32) (0 : Int32) ((0 : Int32) + v1002) v1003) (own_skB (1 : Int32) (0 : Int32) (0 : Int32) ((0 : Int32) + v1002) v1003) (own_skE (1 : Int32) (0 : Int32) (0 : Int32) ((0 : Int32) + v1002) v1003) v1004) = v1212 := (hF.2 hc122_1213).1
        refine OEnds.st (fun _ k => XS.icmpNo X1224.here hx rfl (hb hby at_201) rfl (teq hc201_1225).2 k) ?_
        show OEnds p.tables e below G (T1224.setTop (mkF m 204 #[.val (.int p1), .val (.int p2), .val (.int p3), .val (.int p4), .val (.int kk), .val (.int v1002), .val (.int v1003), .val (.int v1004), .val (.ref b1005), .val (.ref b1007), .val (.int v1212), .val (.int v1212), .val (.int v1002), .val (.int v1212)] []))
        refine OEnds.st (fun _ k => XS.aload X1224.here hx rfl (hb hby at_204) rfl rfl k) ?_
        show OEnds p.tables e below G (T1224.setTop (mkF m 206 #[.val (.int p1), .val (.int p2), .val (.int p3), .val (.int p4), .val (.int kk), .val (.int v1002), .val (.int v1003), .val (.int v1004), .val (.ref b1005), .val (.ref b1007), .val (.int v1212), .val (.int v1212), .val (.int v1002), .val (.int v1212)] [(.ref b1007)]))
        obtain ⟨cq1226, kq1226, q1226a, q1226b, q1226c⟩ := isOf hZ e1224 p1194
        obtain ⟨_, _, ⟨T1226, L1226, k1226c, n1226c⟩, -, X1226, ⟨Lc1226, hQ1226, l1226, y1226, z1226⟩, st1226⟩ := X1224.virtualBack hx (y := (⟨"com/example/marshalyard/marshalyard/proxy/IoBuffer", "end", "()I"⟩ : MethodName)) (z := (⟨"com/example/marshalyard/marshalyard/proxy/IoBuffer", "end", "()I"⟩ : MethodName)) hown (mvT hZ (hw _ (List.mem_of_getElem? (i := 70) rfl))) (mvT hZ (hw _ (List.mem_of_getElem? (i := 71) rfl))) (notFace_of_selects (args := #[]) (mvT hZ (hw _ (List.mem_of_getElem? (i := 73) rfl)))) (mvT hZ (hw _ (List.mem_of_getElem? (i := 73) rfl))) (mvT hZ (hw _ (List.mem_of_getElem? (i := 72) rfl))) (by decide) (backOf (W := 0) (rm10 l Z a0 hw [] b1007 (own_skE (1 : Int32) (own_skS (1 : Int32) (0 : Int32) (0 : Int32) ((0 : Int32) + v1002) v1003) (own_skB (1 : Int32) (0 : Int32) (0 : Int32) ((0 : Int32) + v1002) v1003) (own_skE (1 : Int32) (0 : Int32) (0 : Int32) ((0 : Int32) + v1002) v1003) v1004) T1192.heap n0 Z1192 p1197) hZ (hw _ (List.mem_of_getElem? (i := 74) rfl)) (hw _ (List.mem_of_getElem? (i := 4) rfl)) (by decide) (by decide)) q1226a q1226c (g := (mkF m 206 #[.val (.int p1), .val (.int p2), .val (.int p3), .val (.int p4), .val (.int kk), .val (.int v1002), .val (.int v1003), .val (.int v1004), .val (.ref b1005), .val (.ref b1007), .val (.int v1212), .val (.int v1212), .val (.int v1002), .val (.int v1212)] [(.ref b1007)])) rfl (by rw [hml]; rfl) (Steps.refl _) (argsL := []) (rest := []) (lenOf pd_5 rfl) rfl (by show 2 * 0 + _ ≤ _; exact Nat.le_of_eq rfl) (hb hby at_206) (fun _ _ => ⟨rfl, e1224, (by decide : 0 + 1 + 1 + 1 + 0 + 1 + 0 + 0 + 0 + 0 + 0 + 0 + 0 ≤ _), (by decide : 0 + 8 + 9 + 2 + 0 + 8 + 0 + 0 + 0 + 0 + 0 + 0 + 0 ≤ _)⟩)
        dsimp only [Pt.U, Pt.locs, Pt.cells, Pt.slots] at X1226 l1226 y1226 z1226 st1226 hQ1226
        subst l1226 y1226 z1226
        obtain ⟨rfl, N1226q, e1226⟩ := hQ1226
        have N1226 := Fr.app N1224 N1226q
        refine OEnds.st (fun _ k => st1226.trans k) ?_
        show OEnds p.tables e below G (T1226.setTop (mkF m 209 #[.val (.int p1), .val (.int p2), .val (.int p3), .val (.int p4), .val (.int kk), .val (.int v1002), .val (.int v1003), .val (.int v1004), .val (.ref b1005), .val (.ref b1007), .val (.int v1212), .val (.int v1212), .val (.int v1002), .val (.int v1212)] [(.int (own_skE (1 : Int32) (own_skS (1 : Int32) (0 : Int32) (0 : Int32) ((0 : Int32) + v1002) v1003) (own_skB (1 : Int32) (0 : Int32) (0 : Int32) ((0 : Int32) + v1002) v1003) (own_skE (1 : Int32) (0 : Int32) (0 : Int32) ((0 : Int32) + v1002) v1003) v1004))]))
        refine OEnds.st (fun _ k => XS.iload X1226.here hx rfl (hb hby at_209) rfl k) ?_
        show OEnds p.tables e below G (T1226.setTop (mkF m 211 #[.val (.int p1), .val (.int p2), .val (.int p3), .val (.int p4), .val (.int kk), .val (.int v1002), .val (.int v1003), .val (.int v1004), .val (.ref b1005), .val (.ref b1007), .val (.int v1212), .val (.int v1212), .val (.int v1002), .val (.int v1212)] [(.int v1002), (.int (own_skE (1 : Int32) (own_skS (1 : Int32) (0 : Int32) (0 : Int32) ((0 : Int32) + v1002) v1003) (own_skB (1 : Int32) (0 : Int32) (0 : Int32) ((0 : Int32) + v1002) v1003) (own_skE (1 : Int32) (0 : Int32) (0 : Int32) ((0 : Int32) + v1002) v1003) v1004))]))
        have hc211_1227 : (own_skE (1 : Int32) (own_skS (1 : Int32) (0 : Int32) (0 : Int32) ((0 : Int32) + v1002) v1003) (own_skB (1 : Int32) (0 : Int32) (0 : Int32) ((0 : Int32) + v1002) v1003) (own_skE (1 : Int32) (0 : Int32) (0 : Int32) ((0 : Int32) + v1002) v1003) v1004) = v1002 := (hF.2 hc122_1213).2.1
        refine OEnds.st (fun _ k => XS.icmpNo X1226.here hx rfl (hb hby at_211) rfl (teq hc211_1227).2 k) ?_
        show OEnds p.tables e below G (T1226.setTop (mkF m 214 #[.val (.int p1), .val (.int p2), .val (.int p3), .val (.int p4), .val (.int kk), .val (.int v1002), .val (.int v1003), .val (.int v1004), .val (.ref b1005), .val (.ref b1007), .val (.int v1212), .val (.int v1212), .val (.int v1002), .val (.int v1212)] []))
        refine OEnds.st (fun _ k => XS.aload X1226.here hx rfl (hb hby at_214) rfl rfl k) ?_
        show OEnds p.tables e below G (T1226.setTop (mkF m 216 #[.val (.int p1), .val (.int p2), .val (.int p3), .val (.int p4), .val (.int kk), .val (.int v1002), .val (.int v1003), .val (.int v1004), .val (.ref b1005), .val (.ref b1007), .val (.int v1212), .val (.int v1212), .val (.int v1002), .val (.int v1212)] [(.ref b1007)]))
        obtain ⟨cq1228, kq1228, q1228a, q1228b, q1228c⟩ := isOf hZ e1226 p1194
        obtain ⟨_, _, ⟨T1228, L1228, k1228c, n1228c⟩, -, X1228, ⟨Lc1228, hQ1228, l1228, y1228, z1228⟩, st1228⟩ := X1226.virtualBack hx (y := (⟨"com/example/marshalyard/marshalyard/proxy/IoBuffer", "kept", "()I"⟩ : MethodName)) (z := (⟨"com/example/marshalyard/marshalyard/proxy/IoBuffer", "kept", "()I"⟩ : MethodName)) hown (mvT hZ (hw _ (List.mem_of_getElem? (i := 75) rfl))) (mvT hZ (hw _ (List.mem_of_getElem? (i := 76) rfl))) (notFace_of_selects (args := #[]) (mvT hZ (hw _ (List.mem_of_getElem? (i := 78) rfl)))) (mvT hZ (hw _ (List.mem_of_getElem? (i := 78) rfl))) (mvT hZ (hw _ (List.mem_of_getElem? (i := 77) rfl))) (by decide) (backOf (W := 0) (rm11 l Z a0 hw [] b1007 (own_skS (1 : Int32) (own_skS (1 : Int32) (0 : Int32) (0 : Int32) ((0 : Int32) + v1002) v1003) (own_skB (1 : Int32) (0 : Int32) (0 : Int32) ((0 : Int32) + v1002) v1003) (own_skE (1 : Int32) (0 : Int32) (0 : Int32) ((0 : Int32) + v1002) v1003) v1004) (own_skB (1 : Int32) (own_skS (1 : Int32) (0 : Int32) (0 : Int32) ((0 : Int32) + v1002) v1003) (own_skB (1 : Int32) (0 : Int32) (0 : Int32) ((0 : Int32) + v1002) v1003) (own_skE (1 : Int32) (0 : Int32) (0 : Int32) ((0 : Int32) + v1002) v1003) v1004) T1192.heap n0 Z1192 p1196 p1198) hZ (hw _ (List.mem_of_getElem? (i := 79) rfl)) (hw _ (List.mem_of_getElem? (i := 4) rfl)) (by decide) (by decide)) q1228a q1228c (g := (mkF m 216 #[.val (.int p1), .val (.int p2), .val (.int p3), .val (.int p4), .val (.int kk), .val (.int v1002), .val (.int v1003), .val (.int v1004), .val (.ref b1005), .val (.ref b1007), .val (.int v1212), .val (.int v1212), .val (.int v1002), .val (.int v1212)] [(.ref b1007)])) rfl (by rw [hml]; rfl) (Steps.refl _) (argsL := []) (rest := []) (lenOf pd_5 rfl) rfl (by show 2 * 0 + _ ≤ _; exact Nat.le_of_eq rfl) (hb hby at_216) (fun _ _ => ⟨rfl, e1226, (by decide : 0 + 1 + 1 + 1 + 0 + 1 + 0 + 0 + 0 + 0 + 0 + 0 + 0 + 0 ≤ _), (by decide : 0 + 8 + 9 + 2 + 0 + 8 + 0 + 0 + 0 + 0 + 0 + 0 + 0 + 0 ≤ _)⟩)
        dsimp only [Pt.U, Pt.locs, Pt.cells, Pt.slots] at X1228 l1228 y1228 z1228 st1228 hQ1228
        subst l1228 y1228 z1228
        obtain ⟨rfl, N1228q, e1228⟩ := hQ1228
        have N1228 := Fr.app N1226 N1228q
        refine OEnds.st (fun _ k => st1228.trans k) ?_
        show OEnds p.tables e below G (T1228.setTop (mkF m 219 #[.val (.int p1), .val (.int p2), .val (.int p3), .val (.int p4), .val (.int kk), .val (.int v1002), .val (.int v1003), .val (.int v1004), .val (.ref b1005), .val (.ref b1007), .val (.int v1212), .val (.int v1212), .val (.int v1002), .val (.int v1212)] [(.int ((own_skS (1 : Int32) (own_skS (1 : Int32) (0 : Int32) (0 : Int32) ((0 : Int32) + v1002) v1003) (own_skB (1 : Int32) (0 : Int32) (0 : Int32) ((0 : Int32) + v1002) v1003) (own_skE (1 : Int32) (0 : Int32) (0 : Int32) ((0 : Int32) + v1002) v1003) v1004) - (own_skB (1 : Int32) (own_skS (1 : Int32) (0 : Int32) (0 : Int32) ((0 : Int32) + v1002) v1003) (own_skB (1 : Int32) (0 : Int32) (0 : Int32) ((0 : Int32) + v1002) v1003) (own_skE (1 : Int32) (0 : Int32) (0 : Int32) ((0 : Int32) + v1002) v1003) v1004)))]))
        refine OEnds.st (fun _ k => XS.iload X1228.here hx rfl (hb hby at_219) rfl k) ?_
        show OEnds p.tables e below G (T1228.setTop (mkF m 221 #[.val (.int p1), .val (.int p2), .val (.int p3), .val (.int p4), .val (.int kk), .val (.int v1002), .val (.int v1003), .val (.int v1004), .val (.ref b1005), .val (.ref b1007), .val (.int v1212), .val (.int v1212), .val (.int v1002), .val (.int v1212)] [(.int v1212), (.int ((own_skS (1 : Int32) (own_skS (1 : Int32) (0 : Int32) (0 : Int32) ((0 : Int32) + v1002) v1003) (own_skB (1 : Int32) (0 : Int32) (0 : Int32) ((0 : Int32) + v1002) v1003) (own_skE (1 : Int32) (0 : Int32) (0 : Int32) ((0 : Int32) + v1002) v1003) v1004) - (own_skB (1 : Int32) (own_skS (1 : Int32) (0 : Int32) (0 : Int32) ((0 : Int32) + v1002) v1003) (own_skB (1 : Int32) (0 : Int32) (0 : Int32) ((0 : Int32) + v1002) v1003) (own_skE (1 : Int32) (0 : Int32) (0 : Int32) ((0 : Int32) + v1002) v1003) v1004)))]))
        have hc221_1229 : ((own_skS (1 : Int32) (own_skS (1 : Int32) (0 : Int32) (0 : Int32) ((0 : Int32) + v1002) v1003) (own_skB (1 : Int32) (0 : Int32) (0 : Int32) ((0 : Int32) + v1002) v1003) (own_skE (1 : Int32) (0 : Int32) (0 : Int32) ((0 : Int32) + v1002) v1003) v1004) - (own_skB (1 : Int32) (own_skS (1 : Int32) (0 : Int32) (0 : Int32) ((0 : Int32) + v1002) v1003) (own_skB (1 : Int32) (0 : Int32) (0 : Int32) ((0 : Int32) + v1002) v1003) (own_skE (1 : Int32) (0 : Int32) (0 : Int32) ((0 : Int32) + v1002) v1003) v1004)) = v1212 := (hF.2 hc122_1213).2.2
        refine OEnds.st (fun _ k => XS.icmpNo X1228.here hx rfl (hb hby at_221) rfl (teq hc221_1229).2 k) ?_
        show OEnds p.tables e below G (T1228.setTop (mkF m 224 #[.val (.int p1), .val (.int p2), .val (.int p3), .val (.int p4), .val (.int kk), .val (.int v1002), .val (.int v1003), .val (.int v1004), .val (.ref b1005), .val (.ref b1007), .val (.int v1212), .val (.int v1212), .val (.int v1002), .val (.int v1212)] []))
        refine OEnds.st (fun _ k => XS.iconst X1228.here hx rfl (hb hby at_224) k) ?_
        show OEnds p.tables e below G (T1228.setTop (mkF m 225 #[.val (.int p1), .val (.int p2), .val (.int p3), .val (.int p4), .val (.int kk), .val (.int v1002), .val (.int v1003), .val (.int v1004), .val (.ref b1005), .val (.ref b1007), .val (.int v1212), .val (.int v1212), .val (.int v1002), .val (.int v1212)] [(.int (1 : Int32))]))
        refine OEnds.st (fun _ k => XS.goto X1228.here hx rfl (pc0 := 225) (pc' := 229) rfl (hb hby at_225) (by decide) (by decide) k) ?_
        show OEnds p.tables e below G (T1228.setTop (mkF m 229 #[.val (.int p1), .val (.int p2), .val (.int p3), .val (.int p4), .val (.int kk), .val (.int v1002), .val (.int v1003), .val (.int v1004), .val (.ref b1005), .val (.ref b1007), .val (.int v1212), .val (.int v1212), .val (.int v1002), .val (.int v1212)] [(.int (1 : Int32))]))
        rw [← hG]
        refine OEnds.retZ X1228 hx hlk Bd.returns rfl (hb hby at_229) (by decide) (by decide) ?_
        rw [e1228]
        exact ⟨rfl, N1228⟩
  show OEnds p.tables e below G (s₁.setTop (mkF m 0 #[.val (.int p1), .val (.int p2), .val (.int p3), .val (.int p4), .unset, .unset, .unset, .unset, .unset, .unset, .unset, .unset, .unset, .unset] []))
  refine OEnds.st (fun _ k => XS.iloadN X0.here hx rfl (hb hby at_0) rfl k) ?_
  show OEnds p.tables e below G (s₁.setTop (mkF m 1 #[.val (.int p1), .val (.int p2), .val (.int p3), .val (.int p4), .unset, .unset, .unset, .unset, .unset, .unset, .unset, .unset, .unset, .unset] [(.int p4)]))
  refine OEnds.st (fun _ k => XS.iconst X0.here hx rfl (hb hby at_1) k) ?_
  show OEnds p.tables e below G (s₁.setTop (mkF m 2 #[.val (.int p1), .val (.int p2), .val (.int p3), .val (.int p4), .unset, .unset, .unset, .unset, .unset, .unset, .unset, .unset, .unset, .unset] [(.int (1 : Int32)), (.int p4)]))
  refine OEnds.st (fun _ k => XS.iand X0.here hx rfl (hb hby at_2) rfl k) ?_
  show OEnds p.tables e below G (s₁.setTop (mkF m 3 #[.val (.int p1), .val (.int p2), .val (.int p3), .val (.int p4), .unset, .unset, .unset, .unset, .unset, .unset, .unset, .unset, .unset, .unset] [(.int (p4 &&& (1 : Int32)))]))
  by_cases hc3_1230 : (p4 &&& (1 : Int32)) = (0 : Int32)
  · -- pc 3: yes
    refine OEnds.st (fun _ k => XS.ifYes X0.here hx rfl (pc0 := 3) (pc' := 10) rfl (hb hby at_3) rfl ((if0 _ _).trans (teq hc3_1230).1) (by decide) (by decide) k) ?_
    show OEnds p.tables e below G (s₁.setTop (mkF m 10 #[.val (.int p1), .val (.int p2), .val (.int p3), .val (.int p4), .unset, .unset, .unset, .unset, .unset, .unset, .unset, .unset, .unset, .unset] []))
    refine OEnds.st (fun _ k => XS.iconst X0.here hx rfl (hb hby at_10) k) ?_
    show OEnds p.tables e below G (s₁.setTop (mkF m 11 #[.val (.int p1), .val (.int p2), .val (.int p3), .val (.int p4), .unset, .unset, .unset, .unset, .unset, .unset, .unset, .unset, .unset, .unset] [(.int (0 : Int32))]))
    refine OEnds.st (fun _ k => XS.istore X0.here hx rfl (hb hby at_11) rfl (l' := #[.val (.int p1), .val (.int p2), .val (.int p3), .val (.int p4), .val (.int (0 : Int32)), .unset, .unset, .unset, .unset, .unset, .unset, .unset, .unset, .unset]) rfl k) ?_
    exact rest13_1001 (0 : Int32) 
  · -- pc 3: no
    refine OEnds.st (fun _ k => XS.ifNo X0.here hx rfl (hb hby at_3) rfl ((if0 _ _).trans (feq hc3_1230).1) k) ?_
    show OEnds p.tables e below G (s₁.setTop (mkF m 6 #[.val (.int p1), .val (.int p2), .val (.int p3), .val (.int p4), .unset, .unset, .unset, .unset, .unset, .unset, .unset, .unset, .unset, .unset] []))
    refine OEnds.st (fun _ k => XS.iconst X0.here hx rfl (hb hby at_6) k) ?_
    show OEnds p.tables e below G (s₁.setTop (mkF m 7 #[.val (.int p1), .val (.int p2), .val (.int p3), .val (.int p4), .unset, .unset, .unset, .unset, .unset, .unset, .unset, .unset, .unset, .unset] [(.int (1 : Int32))]))
    refine OEnds.st (fun _ k => XS.goto X0.here hx rfl (pc0 := 7) (pc' := 11) rfl (hb hby at_7) (by decide) (by decide) k) ?_
    show OEnds p.tables e below G (s₁.setTop (mkF m 11 #[.val (.int p1), .val (.int p2), .val (.int p3), .val (.int p4), .unset, .unset, .unset, .unset, .unset, .unset, .unset, .unset, .unset, .unset] [(.int (1 : Int32))]))
    refine OEnds.st (fun _ k => XS.istore X0.here hx rfl (hb hby at_11) rfl (l' := #[.val (.int p1), .val (.int p2), .val (.int p3), .val (.int p4), .val (.int (1 : Int32)), .unset, .unset, .unset, .unset, .unset, .unset, .unset, .unset, .unset]) rfl k) ?_
    exact rest13_1001 (1 : Int32) 
set_option maxRecDepth 65536 in
set_option maxHeartbeats 40000000 in
theorem comes_1 {Post : Tables → Env → Array Value → State → Outcome → State → Prop} (hpost : ∀ tb e args s v u, (limb_1_1.after args s (.returned v) u = true ∧ limb_1_2.after args s (.returned v) u = true ∧ True) → FrameEnd s (.returned v) u (Jvm.fieldLocs frame_1_writes args s ++ Jvm.arrayLocs frame_1_arrays args s ++ Jvm.staticLocs frame_1_statics s) 16 128 → Post tb e args s (.returned v) u) :
    ArmFor flags0 classFile x code maxLocals ret World_1 tables_1 room_1 Calls_1 rest_1 Pre_1 Post := by
  intro l hfl _ _ p e ha hc hk s m args below hf hA hF happ hP
  obtain ⟨hcalls, hrest, hpre⟩ := hP
  obtain ⟨-, -, -, hnamed, -, -, -, hat⟩ := (Spec.applies_iff hf).mp happ
  obtain ⟨hg, hn⟩ := and_e (Cond.before_iff.mp (show (Jvm.Cond.and given_1 narrow_1).before args s = true from hpre))
  obtain ⟨gc, gr0⟩ := and_e hg
  obtain ⟨ga0, gr1⟩ := and_e gr0
  obtain ⟨ga1, gr2⟩ := and_e gr1
  obtain ⟨ga2, gr3⟩ := and_e gr2
  obtain ⟨w0, w1, w2, w3, rfl⟩ : ∃ w0 w1 w2 w3 : Value, args = #[w0, w1, w2, w3] := by
    have hs : args.size = 4 := by simpa [Cond.value, given_1] using gc
    obtain ⟨L⟩ := args
    match L, hs with
    | [w0, w1, w2, w3], _ => exact ⟨w0, w1, w2, w3, rfl⟩
  have hw := fun d (hd : d ∈ tables_1) => atoms_spec (ws := Jvm.Cond.code x code maxLocals ret :: tables_1) hat d (List.mem_cons_of_mem _ hd)
  have hfit : Fit s := fun {y c} hc i hi => by
    obtain ⟨ha, rfl⟩ := Array.getElem?_eq_some_iff.mp hc
    have q := List.all_eq_true.mp ((Array.all_eq_true_iff_forall_mem.mp hF) _ (Array.getElem_mem ha)) i (List.mem_range.mpr hi)
    simpa [Array.getElem?_eq_getElem hi] using q
  obtain ⟨i0, ei0⟩ := is_v ga0
  obtain rfl : w0 = (.int i0) := Option.some.inj ei0
  obtain ⟨i1, ei1⟩ := is_v ga1
  obtain rfl : w1 = (.int i1) := Option.some.inj ei1
  obtain ⟨i2, ei2⟩ := is_v ga2
  obtain rfl : w2 = (.int i2) := Option.some.inj ei2
  obtain ⟨i3, ei3⟩ := is_v gr3
  obtain rfl : w3 = (.int i3) := Option.some.inj ei3
  obtain ⟨n, o, h1, h2, h3, _, L, rfl, ⟨rfl, N⟩, hq⟩ := rm0 l s _ hw tables_1 i0 i1 i2 i3  s.heap s.heap.size (Nat.le_refl _)  p e ha hc hk s m _ below hf ((Spec.applies_iff_loose hf).mp happ).1 ⟨rfl, State.Warmed39.refl s, rfl⟩ trivial
  refine ⟨n, _, h1, h2, h3, hpost _ _ _ _ _ _ ⟨Cond.after_iff.mpr rfl, Cond.after_iff.mpr (eq_i res_at (Term.int_eval (1)) rfl), trivial⟩ ⟨hq.1, hq.2.1, (hq.2.2.sift fun y hy => Or.inr (N y hy)).mono (by decide) (by decide)⟩⟩
theorem main_1_1 : Claimed_1_1 := comes_1 fun _ _ _ _ _ _ h hF => ⟨h.1, hF⟩
theorem main_1_2 : Claimed_1_2 := comes_1 fun _ _ _ _ _ _ h hF => ⟨h.2.1, hF⟩
end Jvm.Pilot.@@N@@
namespace Jvm.Pilot.@@N@@
open Jvm Jvm.ClassFile Sem Op Lib Jvm.Free Jvm.Stand Jvm.Pilot.@@N@@.Jvm.D
/-! MADE BY PROGRAM (witnessworld.py) out of the Statement's table words and the real class files: 11 classes; the members and pool entries that the words name. The judged class is class 1, her method 1. -/
namespace start1
open Jvm.ClassFile
def u (s : String) : CpInfo := .utf8 (stringToUtf16 s)
/-- a pool by its gaps: so many unusable entries, then the entry; so many at the end -/
def gap : Nat → List CpInfo → List CpInfo
  | 0, r => r
  | n + 1, r => .unusable :: gap n r
def poolList (es : List (Nat × CpInfo)) (last : Nat) : List CpInfo := es.foldr (fun e r => gap e.1 (e.2 :: r)) (gap last [])
def pool (es : List (Nat × CpInfo)) (last : Nat) : Array CpInfo := ⟨poolList es last⟩
def fileOf (pool : Array CpInfo) (this : Nat) (attrs : Array Attribute := #[]) (ms : Array MethodInfo := #[]) (fl : Nat := 33) (sup : Nat := 0) (ifs : Array Nat := #[]) (fds : Array FieldInfo := #[]) : ClassFile where
  minorVersion := 0
  majorVersion := 65
  constantPool := pool
  accessFlags := fl
  thisClass := this
  superClass := sup
  interfaces := ifs
  fields := fds
  methods := ms
  attributes := attrs
def plain (name : String) (sup : Option ClassId) : Class where
  name := name
  kind := .ordinary
  loader := none
  accessFlags := 33
  super := sup
  interfaces := #[]
  cf := none
  fields := #[]
  methods := #[]
  instanceTypes := #[]
  staticTypes := #[]
  resolved := #[]
  callSites := []
  init := .initialized
  statics := none
  mirror := none

def pool0 : Array CpInfo := pool [(5, u "<init>"), (0, u "()V"), (1, .class_ 10), (1, u "java/lang/Object")] 113

def k0c0 : Code := { maxStack := 0, maxLocals := 1, code := object_method_1_code, exceptionTable := #[], attributes := #[] }
def k0m0 : Method := { name := "<init>", desc := "()V", sig := { parameters := [], returnType := none }, accessFlags := 1, code := some k0c0 }
/-- java/lang/Object -/
def k0 : Class := { plain "java/lang/Object" none with
  accessFlags := 33
  interfaces := #[]
  cf := some (fileOf pool0 8 #[] #[{ accessFlags := 1, nameIndex := 5, descriptorIndex := 6, attributes := #[] }] 33 0 #[] #[])
  fields := #[]
  methods := #[k0m0]
  instanceTypes := #[]
  staticTypes := #[]
  resolved := Array.replicate 124 none
  statics := none }

def pool1 : Array CpInfo := pool [(2, .class_ 4), (1, u "java/lang/Object"), (0, u "<init>"), (0, u "()V"), (0, .integer 2147483647), (0, .class_ 9), (0, u "com/example/marshalyard/marshalyard/proxy/IoBuffer"), (0, .class_ 11), (0, u "com/example/marshalyard/marshalyard/proxy/MemoryBudget"), (0, .long 8), (1, .methodref 10 15), (0, .nameAndType 5 16), (0, u "(J)V"), (0, .methodref 8 18), (0, .nameAndType 5 19), (0, u "(Lcom/example/marshalyard/marshalyard/proxy/MemoryBudget;I)V"), (0, .methodref 8 21), (0, .nameAndType 22 23), (0, u "put"), (0, u "([BII)V"), (0, .methodref 8 25), (0, .nameAndType 26 6), (0, u "keep"), (0, .methodref 8 28), (0, .nameAndType 29 30), (0, u "skip"), (0, u "(I)V"), (0, .methodref 8 32), (0, .nameAndType 33 34), (0, u "taken"), (0, u "()J"), (0, .methodref 8 36), (0, .nameAndType 37 38), (0, u "start"), (0, u "()I"), (0, .methodref 8 40), (0, .nameAndType 41 38), (0, u "end"), (0, .methodref 8 43), (0, .nameAndType 44 38), (0, u "kept"), (0, .class_ 46), (0, u "com/example/marshalyard/marshalyard/proxy/IoBufferSkipPinLaw"), (2, u "law"), (0, u "(IIII)Z")] 5

def k1m0 : Method := { name := "<init>", desc := "()V", sig := { parameters := [], returnType := none }, accessFlags := 1, code := none }
def k1c1 : Code := { maxStack := 6, maxLocals := 14, code := code, exceptionTable := #[], attributes := #[] }
def k1m1 : Method := { name := "law", desc := "(IIII)Z", sig := { parameters := [.int, .int, .int, .int], returnType := some .boolean }, accessFlags := 9, code := some k1c1 }
/-- com/example/marshalyard/marshalyard/proxy/IoBufferSkipPinLaw -/
def k1 : Class := { plain "com/example/marshalyard/marshalyard/proxy/IoBufferSkipPinLaw" (some 0) with
  accessFlags := 49
  interfaces := #[]
  cf := some (fileOf pool1 45 #[] #[{ accessFlags := 1, nameIndex := 5, descriptorIndex := 6, attributes := #[] }, { accessFlags := 9, nameIndex := 49, descriptorIndex := 50, attributes := #[] }] 49 2 #[] #[])
  fields := #[]
  methods := #[k1m0, k1m1]
  instanceTypes := #[]
  staticTypes := #[]
  resolved := Array.replicate 56 none
  statics := none }

def pool2 : Array CpInfo := pool [(1, .methodref 2 3), (0, .class_ 4), (0, .nameAndType 5 6), (0, u "java/lang/Object"), (0, u "<init>"), (0, u "()V"), (0, .fieldref 8 9), (0, .class_ 10), (0, .nameAndType 11 12), (0, u "com/example/marshalyard/marshalyard/proxy/IoBuffer"), (0, u "budget"), (0, u "Lcom/example/marshalyard/marshalyard/proxy/MemoryBudget;"), (0, .fieldref 8 14), (0, .nameAndType 15 16), (0, u "bytes"), (0, u "[B"), (0, .fieldref 8 18), (0, .nameAndType 19 20), (0, u "start"), (0, u "I"), (0, .fieldref 8 22), (0, .nameAndType 23 20), (0, u "end"), (3, u "()I"), (0, .fieldref 8 29), (0, .nameAndType 30 20), (0, u "base"), (0, .fieldref 8 32), (0, .nameAndType 33 34), (0, u "added"), (0, u "J"), (0, .fieldref 8 36), (0, .nameAndType 37 34), (0, u "taken"), (0, .fieldref 8 39), (0, .nameAndType 40 41), (0, u "keeping"), (0, u "Z"), (2, u "skip"), (0, u "(I)V"), (27, u "view"), (0, u "Ljava/nio/ByteBuffer;"), (4, .methodref 80 81), (0, .class_ 82), (0, .nameAndType 83 84), (0, u "java/lang/System"), (0, u "arraycopy"), (0, u "(Ljava/lang/Object;ILjava/lang/Object;II)V"), (3, .methodref 8 89), (0, .nameAndType 90 45), (0, u "makeRoom"), (35, u "put"), (0, u "([BII)V"), (0, u "(Lcom/example/marshalyard/marshalyard/proxy/MemoryBudget;I)V"), (8, u "kept"), (0, u "()J"), (0, u "keep")] 18

def k2c0 : Code := { maxStack := 2, maxLocals := 3, code := prog_79_method_1_code, exceptionTable := #[], attributes := #[] }
def k2m0 : Method := { name := "<init>", desc := "(Lcom/example/marshalyard/marshalyard/proxy/MemoryBudget;I)V", sig := { parameters := [(.object "com/example/marshalyard/marshalyard/proxy/MemoryBudget"), .int], returnType := none }, accessFlags := 0, code := some k2c0 }
def k2c1 : Code := { maxStack := 1, maxLocals := 1, code := prog_79_method_3_code, exceptionTable := #[], attributes := #[] }
def k2m1 : Method := { name := "start", desc := "()I", sig := { parameters := [], returnType := some .int }, accessFlags := 0, code := some k2c1 }
def k2c2 : Code := { maxStack := 1, maxLocals := 1, code := prog_79_method_4_code, exceptionTable := #[], attributes := #[] }
def k2m2 : Method := { name := "end", desc := "()I", sig := { parameters := [], returnType := some .int }, accessFlags := 0, code := some k2c2 }
def k2c3 : Code := { maxStack := 2, maxLocals := 1, code := prog_79_method_8_code, exceptionTable := #[], attributes := #[] }
def k2m3 : Method := { name := "kept", desc := "()I", sig := { parameters := [], returnType := some .int }, accessFlags := 0, code := some k2c3 }
def k2c4 : Code := { maxStack := 2, maxLocals := 1, code := prog_79_method_10_code, exceptionTable := #[], attributes := #[] }
def k2m4 : Method := { name := "taken", desc := "()J", sig := { parameters := [], returnType := some .long }, accessFlags := 0, code := some k2c4 }
def k2c5 : Code := { maxStack := 5, maxLocals := 2, code := prog_79_method_11_code, exceptionTable := #[], attributes := #[] }
def k2m5 : Method := { name := "skip", desc := "(I)V", sig := { parameters := [.int], returnType := none }, accessFlags := 0, code := some k2c5 }
def k2c6 : Code := { maxStack := 2, maxLocals := 1, code := prog_79_method_13_code, exceptionTable := #[], attributes := #[] }
def k2m6 : Method := { name := "keep", desc := "()V", sig := { parameters := [], returnType := none }, accessFlags := 0, code := some k2c6 }
def k2c7 : Code := { maxStack := 5, maxLocals := 4, code := prog_79_method_28_code, exceptionTable := #[], attributes := #[] }
def k2m7 : Method := { name := "put", desc := "([BII)V", sig := { parameters := [(.array .byte), .int, .int], returnType := none }, accessFlags := 0, code := some k2c7 }
def k2c8 : Code := { maxStack := 5, maxLocals := 2, code := prog_79_method_30_code, exceptionTable := #[], attributes := #[] }
def k2m8 : Method := { name := "makeRoom", desc := "(I)V", sig := { parameters := [.int], returnType := none }, accessFlags := 2, code := some k2c8 }
/-- com/example/marshalyard/marshalyard/proxy/IoBuffer -/
def k2 : Class := { plain "com/example/marshalyard/marshalyard/proxy/IoBuffer" (some 0) with
  accessFlags := 48
  interfaces := #[]
  cf := some (fileOf pool2 8 #[] #[{ accessFlags := 0, nameIndex := 5, descriptorIndex := 128, attributes := #[] }, { accessFlags := 0, nameIndex := 19, descriptorIndex := 27, attributes := #[] }, { accessFlags := 0, nameIndex := 23, descriptorIndex := 27, attributes := #[] }, { accessFlags := 0, nameIndex := 137, descriptorIndex := 27, attributes := #[] }, { accessFlags := 0, nameIndex := 37, descriptorIndex := 138, attributes := #[] }, { accessFlags := 0, nameIndex := 44, descriptorIndex := 45, attributes := #[] }, { accessFlags := 0, nameIndex := 139, descriptorIndex := 6, attributes := #[] }, { accessFlags := 0, nameIndex := 126, descriptorIndex := 127, attributes := #[] }, { accessFlags := 2, nameIndex := 90, descriptorIndex := 45, attributes := #[] }] 48 2 #[] #[{ accessFlags := 18, nameIndex := 11, descriptorIndex := 12, attributes := #[] }, { accessFlags := 2, nameIndex := 15, descriptorIndex := 16, attributes := #[] }, { accessFlags := 2, nameIndex := 73, descriptorIndex := 74, attributes := #[] }, { accessFlags := 2, nameIndex := 30, descriptorIndex := 20, attributes := #[] }, { accessFlags := 2, nameIndex := 19, descriptorIndex := 20, attributes := #[] }, { accessFlags := 2, nameIndex := 23, descriptorIndex := 20, attributes := #[] }, { accessFlags := 2, nameIndex := 40, descriptorIndex := 41, attributes := #[] }, { accessFlags := 2, nameIndex := 33, descriptorIndex := 34, attributes := #[] }, { accessFlags := 2, nameIndex := 37, descriptorIndex := 34, attributes := #[] }])
  fields := #[{ name := "budget", type := (.object "com/example/marshalyard/marshalyard/proxy/MemoryBudget"), accessFlags := 18, slot := 0, constantValue := 0 }, { name := "bytes", type := (.array .byte), accessFlags := 2, slot := 1, constantValue := 0 }, { name := "view", type := (.object "java/nio/ByteBuffer"), accessFlags := 2, slot := 2, constantValue := 0 }, { name := "base", type := .int, accessFlags := 2, slot := 3, constantValue := 0 }, { name := "start", type := .int, accessFlags := 2, slot := 4, constantValue := 0 }, { name := "end", type := .int, accessFlags := 2, slot := 5, constantValue := 0 }, { name := "keeping", type := .boolean, accessFlags := 2, slot := 6, constantValue := 0 }, { name := "added", type := .long, accessFlags := 2, slot := 7, constantValue := 0 }, { name := "taken", type := .long, accessFlags := 2, slot := 8, constantValue := 0 }]
  methods := #[k2m0, k2m1, k2m2, k2m3, k2m4, k2m5, k2m6, k2m7, k2m8]
  instanceTypes := #[(.object "com/example/marshalyard/marshalyard/proxy/MemoryBudget"), (.array .byte), (.object "java/nio/ByteBuffer"), .int, .int, .int, .boolean, .long, .long]
  staticTypes := #[]
  resolved := Array.replicate 158 none
  statics := none }

def pool3 : Array CpInfo := pool [(1, .methodref 2 3), (0, .class_ 4), (0, .nameAndType 5 6), (0, u "java/lang/Object"), (0, u "<init>"), (0, u "()V"), (0, .fieldref 8 9), (0, .class_ 10), (0, .nameAndType 11 12), (0, u "com/example/marshalyard/marshalyard/proxy/MemoryBudget"), (0, u "limit"), (0, u "J"), (2, u "taken"), (12, u "(J)V")] 8

def k3c0 : Code := { maxStack := 3, maxLocals := 3, code := prog_82_method_1_code, exceptionTable := #[], attributes := #[] }
def k3m0 : Method := { name := "<init>", desc := "(J)V", sig := { parameters := [.long], returnType := none }, accessFlags := 0, code := some k3c0 }
/-- com/example/marshalyard/marshalyard/proxy/MemoryBudget -/
def k3 : Class := { plain "com/example/marshalyard/marshalyard/proxy/MemoryBudget" (some 0) with
  accessFlags := 48
  interfaces := #[]
  cf := some (fileOf pool3 8 #[] #[{ accessFlags := 0, nameIndex := 5, descriptorIndex := 28, attributes := #[] }] 48 2 #[] #[{ accessFlags := 18, nameIndex := 11, descriptorIndex := 12, attributes := #[] }, { accessFlags := 2, nameIndex := 15, descriptorIndex := 12, attributes := #[] }])
  fields := #[{ name := "limit", type := .long, accessFlags := 18, slot := 0, constantValue := 0 }, { name := "taken", type := .long, accessFlags := 2, slot := 1, constantValue := 0 }]
  methods := #[k3m0]
  instanceTypes := #[.long, .long]
  staticTypes := #[]
  resolved := Array.replicate 37 none
  statics := none }

def pool4 : Array CpInfo := pool [(2, .class_ 4), (1, u "java/lang/Object"), (0, u "<init>"), (0, u "()V"), (1, .class_ 10), (1, u "java/lang/System"), (0, u "allowSecurityManager"), (0, u "I"), (16, u "cons"), (0, u "Ljava/io/Console;"), (77, .class_ 110), (1, u "java/lang/System$CallersHolder"), (43, u "initialErrStream"), (0, u "Ljava/io/PrintStream;"), (19, u "security"), (0, u "Ljava/lang/SecurityManager;"), (31, .class_ 209), (0, u "java/lang/System$1"), (7, u "props"), (0, u "Ljava/util/Properties;"), (2, u "lineSeparator"), (0, u "Ljava/lang/String;"), (96, .class_ 321), (1, u "java/lang/System$LoggerFinder"), (5, .class_ 328), (0, u "java/lang/System$Logger"), (67, u "err"), (2, u "out"), (91, u "notSupportedJnuEncoding"), (15, u "in"), (17, u "initialIn"), (0, u "Ljava/io/InputStream;"), (35, u "bootLayer"), (0, u "Ljava/lang/ModuleLayer;"), (99, .class_ 664), (0, u "java/lang/System$2"), (9, u "NEVER"), (2, u "MAYBE"), (49, u "arraycopy"), (0, u "(Ljava/lang/Object;ILjava/lang/Object;II)V"), (72, .class_ 802), (0, u "java/lang/System$Logger$Level")] 31

def k4m0 : Method := { name := "<init>", desc := "()V", sig := { parameters := [], returnType := none }, accessFlags := 2, code := none }
def k4m1 : Method := { name := "arraycopy", desc := "(Ljava/lang/Object;ILjava/lang/Object;II)V", sig := { parameters := [(.object "java/lang/Object"), .int, (.object "java/lang/Object"), .int, .int], returnType := none }, accessFlags := 265, code := none }
/-- java/lang/System -/
def k4 : Class := { plain "java/lang/System" (some 0) with
  accessFlags := 49
  interfaces := #[]
  cf := some (fileOf pool4 8 #[.nestMembers #[319, 327, 801, 108, 663, 208]] #[{ accessFlags := 2, nameIndex := 5, descriptorIndex := 6, attributes := #[] }, { accessFlags := 265, nameIndex := 727, descriptorIndex := 728, attributes := #[] }] 49 2 #[] #[{ accessFlags := 25, nameIndex := 507, descriptorIndex := 526, attributes := #[] }, { accessFlags := 25, nameIndex := 399, descriptorIndex := 155, attributes := #[] }, { accessFlags := 25, nameIndex := 396, descriptorIndex := 155, attributes := #[] }, { accessFlags := 10, nameIndex := 525, descriptorIndex := 526, attributes := #[] }, { accessFlags := 26, nameIndex := 674, descriptorIndex := 12, attributes := #[] }, { accessFlags := 26, nameIndex := 677, descriptorIndex := 12, attributes := #[] }, { accessFlags := 10, nameIndex := 11, descriptorIndex := 12, attributes := #[] }, { accessFlags := 74, nameIndex := 175, descriptorIndex := 176, attributes := #[] }, { accessFlags := 10, nameIndex := 491, descriptorIndex := 222, attributes := #[] }, { accessFlags := 74, nameIndex := 29, descriptorIndex := 30, attributes := #[] }, { accessFlags := 74, nameIndex := 154, descriptorIndex := 155, attributes := #[] }, { accessFlags := 10, nameIndex := 217, descriptorIndex := 218, attributes := #[] }, { accessFlags := 10, nameIndex := 221, descriptorIndex := 222, attributes := #[] }, { accessFlags := 8, nameIndex := 562, descriptorIndex := 563, attributes := #[] }])
  fields := #[{ name := "in", type := (.object "java/io/InputStream"), accessFlags := 25, slot := 0, constantValue := 0 }, { name := "out", type := (.object "java/io/PrintStream"), accessFlags := 25, slot := 1, constantValue := 0 }, { name := "err", type := (.object "java/io/PrintStream"), accessFlags := 25, slot := 2, constantValue := 0 }, { name := "initialIn", type := (.object "java/io/InputStream"), accessFlags := 10, slot := 3, constantValue := 0 }, { name := "NEVER", type := .int, accessFlags := 26, slot := 4, constantValue := 0 }, { name := "MAYBE", type := .int, accessFlags := 26, slot := 5, constantValue := 0 }, { name := "allowSecurityManager", type := .int, accessFlags := 10, slot := 6, constantValue := 0 }, { name := "security", type := (.object "java/lang/SecurityManager"), accessFlags := 74, slot := 7, constantValue := 0 }, { name := "notSupportedJnuEncoding", type := (.object "java/lang/String"), accessFlags := 10, slot := 8, constantValue := 0 }, { name := "cons", type := (.object "java/io/Console"), accessFlags := 74, slot := 9, constantValue := 0 }, { name := "initialErrStream", type := (.object "java/io/PrintStream"), accessFlags := 74, slot := 10, constantValue := 0 }, { name := "props", type := (.object "java/util/Properties"), accessFlags := 10, slot := 11, constantValue := 0 }, { name := "lineSeparator", type := (.object "java/lang/String"), accessFlags := 10, slot := 12, constantValue := 0 }, { name := "bootLayer", type := (.object "java/lang/ModuleLayer"), accessFlags := 8, slot := 13, constantValue := 0 }]
  methods := #[k4m0, k4m1]
  instanceTypes := #[]
  staticTypes := #[(.object "java/io/InputStream"), (.object "java/io/PrintStream"), (.object "java/io/PrintStream"), (.object "java/io/InputStream"), .int, .int, .int, (.object "java/lang/SecurityManager"), (.object "java/lang/String"), (.object "java/io/Console"), (.object "java/io/PrintStream"), (.object "java/util/Properties"), (.object "java/lang/String"), (.object "java/lang/ModuleLayer")]
  resolved := Array.replicate 834 none
  statics := none }

def pool5 : Array CpInfo := pool [(1, u "java/lang/Cloneable"), (0, .class_ 1), (0, u "java/lang/Object"), (0, .class_ 3)] 3

/-- java/lang/Cloneable -/
def k5 : Class := { plain "java/lang/Cloneable" (some 0) with
  accessFlags := 1537
  interfaces := #[]
  cf := some (fileOf pool5 2 #[] #[] 1537 4 #[] #[])
  fields := #[]
  methods := #[]
  instanceTypes := #[]
  staticTypes := #[]
  resolved := Array.replicate 8 none
  statics := none }

def pool6 : Array CpInfo := pool [(1, u "java/io/Serializable"), (0, .class_ 1), (0, u "java/lang/Object"), (0, .class_ 3)] 3

/-- java/io/Serializable -/
def k6 : Class := { plain "java/io/Serializable" (some 0) with
  accessFlags := 1537
  interfaces := #[]
  cf := some (fileOf pool6 2 #[] #[] 1537 4 #[] #[])
  fields := #[]
  methods := #[]
  instanceTypes := #[]
  staticTypes := #[]
  resolved := Array.replicate 8 none
  statics := none }

/-- the primitive byte -/
def k7 : Class := { plain "byte" none with kind := .primitive 'B', accessFlags := 0x411 }
/-- [B -/
def k8 : Class := { plain "[B" (some 0) with kind := .array 7 .byte, interfaces := #[5, 6], accessFlags := 1041 }

/-- the primitive int -/
def k9 : Class := { plain "int" none with kind := .primitive 'I', accessFlags := 0x411 }
/-- [I -/
def k10 : Class := { plain "[I" (some 0) with kind := .array 9 .int, interfaces := #[5, 6], accessFlags := 1041 }

def heap : Heap := #[]
def classes : Array Class := #[k0, k1, k2, k3, k4, k5, k6, k7, k8, k9, k10]
def interned : List (Array UInt16 × Addr) := []
def slotsUsed : Nat := 0
def theMethod : MethodId := ⟨1, 1⟩
def args0 : Array Value := #[.int 1, .int 2, .int 3, .int 4]
def aboutOver (below : List Frame) : State where
  vm := { classes := classes, interned := interned.toArray }
  heap := heap
  slotsUsed := slotsUsed
  threads := #[{ frames := .invoking theMethod args0 :: below }]
def below0 : List Frame := [.native { method := ⟨0, 0⟩, args := #[] }]
def about1 : State := aboutOver below0
def p0 : Program := .bare "" "" ""
def e0 : Env := launch0.env 0 0 0
theorem w_frames : about1.frames = Frame.invoking theMethod args0 :: below0 := rfl
set_option maxRecDepth 65536 in
theorem w_args : argsFit about1.vm theMethod args0 = true := by decide +kernel
set_option maxRecDepth 65536 in
theorem w_heap : heapFits about1 = true := by decide +kernel
set_option maxRecDepth 65536 in
theorem w_runnable : about1.curStatus? = some .runnable := by decide +kernel
set_option maxRecDepth 65536 in
theorem w_alone : about1.alone = true := by decide +kernel
set_option maxRecDepth 65536 in
theorem w_named : about1.methodNamed? x = some theMethod := by decide +kernel
set_option maxRecDepth 65536 in
theorem w_hears : about1.hears theMethod below0 = true := by decide +kernel
set_option maxRecDepth 65536 in
theorem w_ripe : about1.ripe theMethod args0 below0 = true := by decide +kernel
theorem w_running : about1.status = .running := rfl
set_option maxRecDepth 65536 in
theorem w_room : about1.hasRoom e0.platform room_1 = true :=
  launch0.hasRoom_least _ room_1 (by decide +kernel) (by decide +kernel) (by decide +kernel) (by decide +kernel) (by decide +kernel) (by decide +kernel)
theorem allAtoms_all (ts : List Jvm.Cond) (a : Array Jvm.Value) (st : Jvm.State) : (allAtoms ts).before a st = ts.all (fun c => c.before a st) := by
  induction ts with
  | nil => rfl
  | cons c t ih =>
    show (Jvm.Cond.and c (allAtoms t)).before a st = _
    rw [Jvm.Cond.before_and, ih, List.all_cons]
def words1 : List Jvm.Cond := Jvm.Cond.code x code maxLocals ret :: tables_1
/-- a 'code' word, met by the world's own term for the bytes: nothing is compared byte by byte -/
theorem code_word {y : MethodName} {bytes : ByteArray} {mx : Nat} {rt : Option FieldType} {a : Array Value} {s : State} {m : MethodId} {meth : Method} {c : Code} (h1 : s.methodNamed? y = some m) (h2 : s.vm.method? m = some meth) (h3 : meth.code = some c) (h4 : c.code = bytes)
    (h5 : (c.maxLocals == mx && c.exceptionTable.isEmpty && decide (c.maxStack ≤ mostOperands) && decide (meth.sig.returnType = rt) && !meth.locks && decide (parseMethodDescriptor y.desc = some meth.sig)) = true) : (Jvm.Cond.code y bytes mx rt).before a s = true := by
  simp only [Bool.and_eq_true, beq_iff_eq, Bool.not_eq_true', decide_eq_true_eq] at h5
  obtain ⟨⟨⟨⟨⟨g1, g2⟩, g3⟩, g4⟩, g5⟩, g6⟩ := h5
  simp [Cond.before, Cond.holds, Cond.value, h1, h2, h3, h4, g1, g2, g3, g4, g5, g6]
def isCode : Jvm.Cond → Bool
  | .code _ _ _ _ => true
  | _ => false
theorem all_split {L : List Jvm.Cond} {P : Jvm.Cond → Bool} (h1 : L.all (fun c => isCode c || P c) = true) (h2 : ∀ c ∈ L.filter isCode, P c = true) : L.all P = true := by
  refine List.all_eq_true.mpr fun c hc => ?_
  have h := List.all_eq_true.mp h1 c hc
  rcases Bool.eq_false_or_eq_true (isCode c) with hi | hi
  · exact h2 c (List.mem_filter.mpr ⟨hc, hi⟩)
  · simpa [hi] using h
set_option maxRecDepth 65536 in
theorem w_c0 : (Jvm.Cond.code x code maxLocals ret).before args0 about1 = true := code_word (m := ⟨1, 1⟩) (meth := k1m1) (c := k1c1) (by decide +kernel) rfl rfl rfl (by decide +kernel)
set_option maxRecDepth 65536 in
theorem w_c1 : (Jvm.Cond.code ({ cls := "com/example/marshalyard/marshalyard/proxy/MemoryBudget", name := "<init>", desc := "(J)V" } : Jvm.MethodName) prog_82_method_1_code (3 : Nat) (Option.none : Option Jvm.ClassFile.FieldType)).before args0 about1 = true := code_word (m := ⟨3, 0⟩) (meth := k3m0) (c := k3c0) (by decide +kernel) rfl rfl rfl (by decide +kernel)
set_option maxRecDepth 65536 in
theorem w_c2 : (Jvm.Cond.code ({ cls := "java/lang/Object", name := "<init>", desc := "()V" } : Jvm.MethodName) object_method_1_code (1 : Nat) (Option.none : Option Jvm.ClassFile.FieldType)).before args0 about1 = true := code_word (m := ⟨0, 0⟩) (meth := k0m0) (c := k0c0) (by decide +kernel) rfl rfl rfl (by decide +kernel)
set_option maxRecDepth 65536 in
theorem w_c3 : (Jvm.Cond.code ({ cls := "com/example/marshalyard/marshalyard/proxy/IoBuffer", name := "<init>", desc := "(Lcom/example/marshalyard/marshalyard/proxy/MemoryBudget;I)V" } : Jvm.MethodName) prog_79_method_1_code (3 : Nat) (Option.none : Option Jvm.ClassFile.FieldType)).before args0 about1 = true := code_word (m := ⟨2, 0⟩) (meth := k2m0) (c := k2c0) (by decide +kernel) rfl rfl rfl (by decide +kernel)
set_option maxRecDepth 65536 in
theorem w_c4 : (Jvm.Cond.code ({ cls := "com/example/marshalyard/marshalyard/proxy/IoBuffer", name := "put", desc := "([BII)V" } : Jvm.MethodName) prog_79_method_28_code (4 : Nat) (Option.none : Option Jvm.ClassFile.FieldType)).before args0 about1 = true := code_word (m := ⟨2, 7⟩) (meth := k2m7) (c := k2c7) (by decide +kernel) rfl rfl rfl (by decide +kernel)
set_option maxRecDepth 65536 in
theorem w_c5 : (Jvm.Cond.code ({ cls := "com/example/marshalyard/marshalyard/proxy/IoBuffer", name := "makeRoom", desc := "(I)V" } : Jvm.MethodName) prog_79_method_30_code (2 : Nat) (Option.none : Option Jvm.ClassFile.FieldType)).before args0 about1 = true := code_word (m := ⟨2, 8⟩) (meth := k2m8) (c := k2c8) (by decide +kernel) rfl rfl rfl (by decide +kernel)
set_option maxRecDepth 65536 in
theorem w_c6 : (Jvm.Cond.code ({ cls := "com/example/marshalyard/marshalyard/proxy/IoBuffer", name := "keep", desc := "()V" } : Jvm.MethodName) prog_79_method_13_code (1 : Nat) (Option.none : Option Jvm.ClassFile.FieldType)).before args0 about1 = true := code_word (m := ⟨2, 6⟩) (meth := k2m6) (c := k2c6) (by decide +kernel) rfl rfl rfl (by decide +kernel)
set_option maxRecDepth 65536 in
theorem w_c7 : (Jvm.Cond.code ({ cls := "com/example/marshalyard/marshalyard/proxy/IoBuffer", name := "skip", desc := "(I)V" } : Jvm.MethodName) prog_79_method_11_code (2 : Nat) (Option.none : Option Jvm.ClassFile.FieldType)).before args0 about1 = true := code_word (m := ⟨2, 5⟩) (meth := k2m5) (c := k2c5) (by decide +kernel) rfl rfl rfl (by decide +kernel)
set_option maxRecDepth 65536 in
theorem w_c8 : (Jvm.Cond.code ({ cls := "com/example/marshalyard/marshalyard/proxy/IoBuffer", name := "taken", desc := "()J" } : Jvm.MethodName) prog_79_method_10_code (1 : Nat) (Option.some Jvm.ClassFile.FieldType.long)).before args0 about1 = true := code_word (m := ⟨2, 4⟩) (meth := k2m4) (c := k2c4) (by decide +kernel) rfl rfl rfl (by decide +kernel)
set_option maxRecDepth 65536 in
theorem w_c9 : (Jvm.Cond.code ({ cls := "com/example/marshalyard/marshalyard/proxy/IoBuffer", name := "start", desc := "()I" } : Jvm.MethodName) prog_79_method_3_code (1 : Nat) (Option.some Jvm.ClassFile.FieldType.int)).before args0 about1 = true := code_word (m := ⟨2, 1⟩) (meth := k2m1) (c := k2c1) (by decide +kernel) rfl rfl rfl (by decide +kernel)
set_option maxRecDepth 65536 in
theorem w_c10 : (Jvm.Cond.code ({ cls := "com/example/marshalyard/marshalyard/proxy/IoBuffer", name := "end", desc := "()I" } : Jvm.MethodName) prog_79_method_4_code (1 : Nat) (Option.some Jvm.ClassFile.FieldType.int)).before args0 about1 = true := code_word (m := ⟨2, 2⟩) (meth := k2m2) (c := k2c2) (by decide +kernel) rfl rfl rfl (by decide +kernel)
set_option maxRecDepth 65536 in
theorem w_c11 : (Jvm.Cond.code ({ cls := "com/example/marshalyard/marshalyard/proxy/IoBuffer", name := "kept", desc := "()I" } : Jvm.MethodName) prog_79_method_8_code (1 : Nat) (Option.some Jvm.ClassFile.FieldType.int)).before args0 about1 = true := code_word (m := ⟨2, 3⟩) (meth := k2m3) (c := k2c3) (by decide +kernel) rfl rfl rfl (by decide +kernel)
def codes1 : List Jvm.Cond := [Jvm.Cond.code x code maxLocals ret, Jvm.Cond.code ({ cls := "com/example/marshalyard/marshalyard/proxy/MemoryBudget", name := "<init>", desc := "(J)V" } : Jvm.MethodName) prog_82_method_1_code (3 : Nat) (Option.none : Option Jvm.ClassFile.FieldType), Jvm.Cond.code ({ cls := "java/lang/Object", name := "<init>", desc := "()V" } : Jvm.MethodName) object_method_1_code (1 : Nat) (Option.none : Option Jvm.ClassFile.FieldType), Jvm.Cond.code ({ cls := "com/example/marshalyard/marshalyard/proxy/IoBuffer", name := "<init>", desc := "(Lcom/example/marshalyard/marshalyard/proxy/MemoryBudget;I)V" } : Jvm.MethodName) prog_79_method_1_code (3 : Nat) (Option.none : Option Jvm.ClassFile.FieldType), Jvm.Cond.code ({ cls := "com/example/marshalyard/marshalyard/proxy/IoBuffer", name := "put", desc := "([BII)V" } : Jvm.MethodName) prog_79_method_28_code (4 : Nat) (Option.none : Option Jvm.ClassFile.FieldType), Jvm.Cond.code ({ cls := "com/example/marshalyard/marshalyard/proxy/IoBuffer", name := "makeRoom", desc := "(I)V" } : Jvm.MethodName) prog_79_method_30_code (2 : Nat) (Option.none : Option Jvm.ClassFile.FieldType), Jvm.Cond.code ({ cls := "com/example/marshalyard/marshalyard/proxy/IoBuffer", name := "keep", desc := "()V" } : Jvm.MethodName) prog_79_method_13_code (1 : Nat) (Option.none : Option Jvm.ClassFile.FieldType), Jvm.Cond.code ({ cls := "com/example/marshalyard/marshalyard/proxy/IoBuffer", name := "skip", desc := "(I)V" } : Jvm.MethodName) prog_79_method_11_code (2 : Nat) (Option.none : Option Jvm.ClassFile.FieldType), Jvm.Cond.code ({ cls := "com/example/marshalyard/marshalyard/proxy/IoBuffer", name := "taken", desc := "()J" } : Jvm.MethodName) prog_79_method_10_code (1 : Nat) (Option.some Jvm.ClassFile.FieldType.long), Jvm.Cond.code ({ cls := "com/example/marshalyard/marshalyard/proxy/IoBuffer", name := "start", desc := "()I" } : Jvm.MethodName) prog_79_method_3_code (1 : Nat) (Option.some Jvm.ClassFile.FieldType.int), Jvm.Cond.code ({ cls := "com/example/marshalyard/marshalyard/proxy/IoBuffer", name := "end", desc := "()I" } : Jvm.MethodName) prog_79_method_4_code (1 : Nat) (Option.some Jvm.ClassFile.FieldType.int), Jvm.Cond.code ({ cls := "com/example/marshalyard/marshalyard/proxy/IoBuffer", name := "kept", desc := "()I" } : Jvm.MethodName) prog_79_method_8_code (1 : Nat) (Option.some Jvm.ClassFile.FieldType.int)]
set_option maxRecDepth 65536 in
theorem codes_eq : words1.filter isCode = codes1 := rfl
theorem w_codes : ∀ c ∈ words1.filter isCode, c.before args0 about1 = true := by
  rw [codes_eq]
  intro c hc
  simp only [codes1, List.mem_cons, List.not_mem_nil, or_false] at hc
  rcases hc with rfl | rfl | rfl | rfl | rfl | rfl | rfl | rfl | rfl | rfl | rfl | rfl
  · exact w_c0
  · exact w_c1
  · exact w_c2
  · exact w_c3
  · exact w_c4
  · exact w_c5
  · exact w_c6
  · exact w_c7
  · exact w_c8
  · exact w_c9
  · exact w_c10
  · exact w_c11
set_option maxRecDepth 65536 in
theorem w_t1 : (words1.take 24).all (fun c => isCode c || c.before args0 about1) = true := by decide +kernel
set_option maxRecDepth 65536 in
theorem w_t2 : ((words1.drop 24).take 24).all (fun c => isCode c || c.before args0 about1) = true := by decide +kernel
set_option maxRecDepth 65536 in
theorem w_t3 : (((words1.drop 24).drop 24).take 24).all (fun c => isCode c || c.before args0 about1) = true := by decide +kernel
set_option maxRecDepth 65536 in
theorem w_t4 : (((words1.drop 24).drop 24).drop 24).all (fun c => isCode c || c.before args0 about1) = true := by decide +kernel
theorem w_tables : (allAtoms (Jvm.Cond.code x code maxLocals ret :: tables_1)).before args0 about1 = true := by
  rw [allAtoms_all]
  show words1.all (fun c => c.before args0 about1) = true
  refine all_split ?_ w_codes
  rw [← List.take_append_drop 24 words1, List.all_append, w_t1, ← List.take_append_drop 24 (words1.drop 24), List.all_append, w_t2, ← List.take_append_drop 24 ((words1.drop 24).drop 24), List.all_append, w_t3, w_t4]
  rfl
set_option maxRecDepth 65536 in
theorem w_case : (Jvm.Cond.and given_1 narrow_1).before args0 about1 = true := by decide +kernel
theorem w_applies : (headSpec (Jvm.Cond.code x code maxLocals ret :: tables_1) room_1).applies x e0.platform about1 = true :=
  (Spec.applies_iff w_frames).mpr ⟨w_running, w_runnable, w_alone, w_named, w_hears, w_ripe, w_room, w_tables⟩
theorem atStart : AtStart classFile x code maxLocals ret World_1 tables_1 room_1 Calls_1 rest_1 Pre_1 launch0 p0 e0 about1 theMethod args0 below0 :=
  ⟨lists_1, trivial, launch0.admits_env _ _ _, launch0.least_env, fairChoices_fair.cas, fairChoices_fair.clock, w_frames, w_args, w_heap, w_applies, trivial, trivial, w_case⟩
end start1
theorem witness_1 : WitnessClaimed_1 := ⟨start1.p0, start1.e0, start1.about1, start1.theMethod, start1.args0, start1.below0, start1.atStart⟩
end Jvm.Pilot.@@N@@
