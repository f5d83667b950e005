import JvmDerived
import JvmDerived.Pilot.@@N@@Statement
import JvmDerived.Pilot.@@N@@Code
set_option linter.unusedVariables false
set_option linter.unusedSimpArgs false
namespace Jvm.Pilot.@@N@@
open Jvm Jvm.ClassFile Sem Op Lib Jvm.Free Jvm.Stand Jvm.LawKit Jvm.RoadKit Bundle Jvm.Pilot.@@N@@.Jvm.D
section OwnRoad
variable {p : Program} {l : Launch} {e : Env} {R : Room} {s : State} {m : MethodId} {args : Array Value} {below : List Frame} {meth : Method} {c : Code} {T : State} {locs : List Loc} {cells slots : Nat}
/-- from A the run comes to an end of which G speaks -/
def OEnds (tb : Tables) (e : Env) (below : List Frame) (G : Outcome → State → Prop) (A : State) : Prop := ∃ s₂ o, Steps tb e below A s₂ ∧ s₂.status = .running ∧ Ended s₂ below o ∧ G o s₂
theorem OEnds.st {tb : Tables} {e : Env} {below : List Frame} {G : Outcome → State → Prop} {A B : State} (h : ∀ t, Steps tb e below B t → Steps tb e below A t) (k : OEnds tb e below G B) : OEnds tb e below G A := by
  obtain ⟨s, o, h1, h2⟩ := k
  exact ⟨s, o, h _ h1, h2⟩
def OGoal (Q : Option Value → Heap → List Loc → Prop) (s : State) (C S : Nat) (o : Outcome) (t : State) : Prop := ∃ v L, o = .returned v ∧ Q v t.heap L ∧ FrameEnd s o t L C S
theorem OEnds.out (X : Stand p l e R s m args below meth c T locs cells slots) (hlk : meth.locks = false) {v : Option Value} (hv : meth.sig.returnType = none → v = none) {Q : Option Value → Heap → List Loc → Prop} {C S : Nat} {A : State}
    (st : ∀ fs, (∀ (f : JFrame) (acts : List Action), f.method = m → f.locked = none → f.entered = [] → (doReturn e (T.setTop f) acts v).1 = T.setFrames fs) → Steps p.tables e below A (T.setFrames fs)) (hc : cells ≤ C) (hs : slots ≤ S) (hQ : Q v T.heap locs) : OEnds p.tables e below (OGoal Q s C S) A := by
  obtain ⟨fs, hr, hrun, hended, hW, hsame⟩ := X.leave (v := v) hv hlk
  exact ⟨_, _, st fs hr, hrun, hended, _, _, rfl, hQ, ⟨_, rfl⟩, hW, hsame.mono hc hs⟩
theorem OEnds.retI (X : Stand p l e R s m args below meth c T locs cells slots) (hx : p.tables.exec = Jvm.exec) (hlk : meth.locks = false) (hret : meth.sig.returnType = some .int) {pc : Nat} {Ls : Array Slot} {z : Int32} {rest : List Value} (hd : decode c.code pc = .ok (.ireturn, 1)) {Q : Option Value → Heap → List Loc → Prop} {C S : Nat} (hc : cells ≤ C) (hs : slots ≤ S) (hQ : Q (some (.int z)) T.heap locs) :
    OEnds p.tables e below (OGoal Q s C S) (T.setTop (mkF m pc Ls (.int z :: rest))) :=
  OEnds.out X hlk (fun h => by rw [hret] at h; cases h) (fun fs hr => retOut X hx hret rfl (Or.inl ⟨rfl, Or.inl rfl, _, rfl⟩) hd hr) hc hs hQ
theorem OEnds.retZ (X : Stand p l e R s m args below meth c T locs cells slots) (hx : p.tables.exec = Jvm.exec) (hlk : meth.locks = false) (hret : meth.sig.returnType = some .boolean) {pc : Nat} {Ls : Array Slot} {z : Int32} {rest : List Value} (hz : nar .boolean z = z) (hd : decode c.code pc = .ok (.ireturn, 1)) {Q : Option Value → Heap → List Loc → Prop} {C S : Nat} (hc : cells ≤ C) (hs : slots ≤ S) (hQ : Q (some (.int z)) T.heap locs) :
    OEnds p.tables e below (OGoal Q s C S) (T.setTop (mkF m pc Ls (.int z :: rest))) :=
  OEnds.out X hlk (fun h => by rw [hret] at h; cases h) (fun fs hr => retN X hx (t := .boolean) hret (Or.inl rfl) hd (by rw [hz]; exact hr)) hc hs hQ
theorem OEnds.retB (X : Stand p l e R s m args below meth c T locs cells slots) (hx : p.tables.exec = Jvm.exec) (hlk : meth.locks = false) (hret : meth.sig.returnType = some .byte) {pc : Nat} {Ls : Array Slot} {z : Int32} {rest : List Value} (hz : nar .byte z = z) (hd : decode c.code pc = .ok (.ireturn, 1)) {Q : Option Value → Heap → List Loc → Prop} {C S : Nat} (hc : cells ≤ C) (hs : slots ≤ S) (hQ : Q (some (.int z)) T.heap locs) :
    OEnds p.tables e below (OGoal Q s C S) (T.setTop (mkF m pc Ls (.int z :: rest))) :=
  OEnds.out X hlk (fun h => by rw [hret] at h; cases h) (fun fs hr => retN X hx (t := .byte) hret (Or.inr (Or.inl rfl)) hd (by rw [hz]; exact hr)) hc hs hQ
theorem OEnds.retJ (X : Stand p l e R s m args below meth c T locs cells slots) (hx : p.tables.exec = Jvm.exec) (hlk : meth.locks = false) (hret : meth.sig.returnType = some .long) {pc : Nat} {Ls : Array Slot} {z : Int64} {rest : List Value} (hd : decode c.code pc = .ok (.lreturn, 1)) {Q : Option Value → Heap → List Loc → Prop} {C S : Nat} (hc : cells ≤ C) (hs : slots ≤ S) (hQ : Q (some (.long z)) T.heap locs) :
    OEnds p.tables e below (OGoal Q s C S) (T.setTop (mkF m pc Ls (.long z :: rest))) :=
  OEnds.out X hlk (fun h => by rw [hret] at h; cases h) (fun fs hr => retOut X hx hret rfl (Or.inr (Or.inl ⟨rfl, rfl, _, rfl⟩)) hd hr) hc hs hQ
theorem OEnds.retA (X : Stand p l e R s m args below meth c T locs cells slots) (hx : p.tables.exec = Jvm.exec) (hlk : meth.locks = false) {t : FieldType} (hret : meth.sig.returnType = some t) {pc : Nat} {Ls : Array Slot} {w : Value} {rest : List Value} (hw : w.isRef = true) (ht : t.isReference = true) (hd : decode c.code pc = .ok (.areturn, 1)) {Q : Option Value → Heap → List Loc → Prop} {C S : Nat} (hc : cells ≤ C) (hs : slots ≤ S) (hQ : Q (some w) T.heap locs) :
    OEnds p.tables e below (OGoal Q s C S) (T.setTop (mkF m pc Ls (w :: rest))) :=
  OEnds.out X hlk (fun h => by rw [hret] at h; cases h) (fun fs hr => retOut X hx hret (by cases t <;> cases w <;> first | rfl | (cases ht; done) | (cases hw; done)) (Or.inr (Or.inr (Or.inr (Or.inr ⟨rfl, ht, hw⟩)))) hd hr) hc hs hQ
theorem OEnds.retV (X : Stand p l e R s m args below meth c T locs cells slots) (hx : p.tables.exec = Jvm.exec) (hlk : meth.locks = false) (hret : meth.sig.returnType = none) {pc : Nat} {Ls : Array Slot} (hd : decode c.code pc = .ok (.return_, 1)) {Q : Option Value → Heap → List Loc → Prop} {C S : Nat} (hc : cells ≤ C) (hs : slots ≤ S) (hQ : Q none T.heap locs) :
    OEnds p.tables e below (OGoal Q s C S) (T.setTop (mkF m pc Ls [])) :=
  OEnds.out X hlk (fun _ => rfl) (fun fs hr => X.returnOut hx hret hd hr) hc hs hQ
def OGoalW (Q : Option Value → Heap → List Loc → Prop) (s : State) (C S : Nat) (o : Outcome) (t : State) : Prop := ∃ v L, o = .returned v ∧ Q v t.heap L ∧ Jvm.ReturnedEndW s o t L C S
theorem own_growW {s t : State} {o : Outcome} {L : List Loc} {k n k' n' : Nat} (h : Jvm.ReturnedEndW s o t L k n) (hk : k ≤ k') (hn : n ≤ n') : Jvm.ReturnedEndW s o t L k' n' := ⟨h.1, h.2.1, h.2.2.1, h.2.2.2.mono hk hn⟩
theorem OEnds.retZW {vm0 : Vm} (X : Stand p l e R (s.setVm vm0) m args below meth c T locs cells slots) {n : Nat} (hS : s.Since vm0 n) (hn : n ≤ T.heap.size) (hx : p.tables.exec = Jvm.exec) (hlk : meth.locks = false) (hret : meth.sig.returnType = some .boolean) {pc : Nat} {Ls : Array Slot} {z : Int32} {rest : List Value} (hz : nar .boolean z = z) (hd : decode c.code pc = .ok (.ireturn, 1)) {Q : Option Value → Heap → List Loc → Prop} {C S : Nat} (hc : cells ≤ C) (hs : slots ≤ S) (hQ : Q (some (.int z)) T.heap locs) :
    OEnds p.tables e below (OGoalW Q s C S) (T.setTop (mkF m pc Ls (.int z :: rest))) := by
  obtain ⟨fs, hr, hrun, hended, hW⟩ := X.leaveW hS hn (v := some (.int z)) (fun h => by rw [hret] at h; cases h) hlk
  exact ⟨_, _, retN X hx (t := .boolean) hret (Or.inl rfl) hd (by rw [hz]; exact hr), hrun, hended, _, _, rfl, hQ, own_growW hW hc hs⟩
theorem own_b8 (x : Int32) : nar .byte (x.toInt8.toInt32) = x.toInt8.toInt32 := by
  show (x.toInt8.toInt32).toInt8.toInt32 = _
  rw [Int8.toInt8_toInt32]
theorem own_selP {s : State} {args : Array Value} {n : Nat} {y : MethodName} (hins : (Jvm.Cond.instantiable y.cls n).before args s = true) (hpriv : (Jvm.Cond.privateMethod y).before args s = true) (hinst : (Jvm.Cond.instanceMethod y).before args s = true) (hy : y.cls ≠ "java/lang/invoke/MethodHandle" ∧ y.cls ≠ "java/lang/invoke/VarHandle") :
    (Jvm.Cond.selects y.cls y y).before args s = true := by
  obtain ⟨c, k, hc, hk, -, hniab, -, -⟩ := Cond.instantiable_spec hins
  have hni : k.isInterface = false := (Bool.or_eq_false_iff.mp hniab).1
  obtain ⟨mk, methM, hnamed, hmethM, -, -⟩ := Cond.instanceMethod_spec hinst
  have hfound : s.methodFound? y.cls y.name y.desc = some mk := State.methodFound?_of_named hnamed hy
  have hcls : mk.cls = c := Option.some.inj ((findClass_of_methodNamed hnamed).symm.trans hc)
  have hsel : selectMethod {} s.vm c mk = .method mk := selectMethod_private hmethM (Cond.privateMethod_at hpriv mk methM hnamed hmethM)
  simp only [Cond.before, Cond.holds, Cond.value, hc, hfound, hnamed, hsel, hcls, hk]
  simp; exact hni
theorem own_exa_ns {Z : State} {h : Heap} {a : Addr} {C : String} (E : Exa Z h a C) : ∀ cell : Cell, h[a]? = some cell → cell.vm.isStatics = false := fun cell q => by
  obtain ⟨c, k, h1, -, -, h4, -⟩ := E
  cases h1.symm.trans q
  exact h4
theorem own_Sta_keep {Z : State} {h h' : Heap} {C n d : String} {v : Value} {ws : List Addr} (F : Sta Z h C n d v) (K : Keep h h' ws) (q : ∀ x ∈ ws, ∀ cell : Cell, h[x]? = some cell → cell.vm.isStatics = false) : Sta Z h' C n d v := by
  obtain ⟨cf, i, k, f, st, cell, h1, h2, h3, h4, h5, h6, h7⟩ := F
  refine ⟨cf, i, k, f, st, cell, h1, h2, h3, h4, K.2.1 _ _ h5 (fun hm => ?_), h6, h7⟩
  rw [q _ hm _ h5] at h6
  cases h6
theorem own_grow (X : Stand p l e R s m args below meth c T locs cells slots) {C S : Nat} (hc : cells ≤ C) (hs : slots ≤ S) : Stand p l e R s m args below meth c T locs C S :=
  ⟨X.admits, X.cas, X.clock, X.frames, X.room, X.hears, X.method, X.code, X.here, X.tail, X.warmed, X.limits, X.bytes, X.same.mono hc hs⟩
end OwnRoad
def own_takes (w p : Int32) : Int32 := if (0 : Int32) < p then (if (p % w) = (0 : Int32) then (if (10000 : Int32) < (p / w) then 0 else 1) else 0) else 0
theorem own_takes_eq (e p : Int32) (he : e = (128 : Int32) ∨ e = (16 : Int32)) : own_takes e p = if (0 : Int32) < p then (if ((10000 : Int32) * e) < p then 0 else if (p &&& (e - (1 : Int32))) = (0 : Int32) then 1 else 0) else 0 := by
  unfold own_takes
  by_cases h0 : (0 : Int32) < p
  · rw [if_pos h0, if_pos h0]
    rw [Int32.lt_iff_toInt_lt] at h0
    have z0 : (0 : Int32).toInt = 0 := by decide
    have z1 : (10000 : Int32).toInt = 10000 := by decide
    rcases he with rfl | rfl
    · have m1 : ((128 : Int32) - (1 : Int32)) = (127 : Int32) := by decide
      have m2 : ((10000 : Int32) * (128 : Int32)) = (1280000 : Int32) := by decide
      have z2 : (1280000 : Int32).toInt = 1280000 := by decide
      rw [m1, m2]
      have a1 := c_mask p (127 : Int32) 7 (by decide) (by decide)
      have a2 := (c_irem p (128 : Int32) 128 (by decide)).1 (by omega)
      have a3 := (c_idiv p (128 : Int32) 128 (by decide) (by decide)).1 (by omega)
      have q1 : (p % (128 : Int32)) = (0 : Int32) ↔ p.toInt % 128 = 0 := by rw [← Int32.toInt_inj, a2, z0]
      have q2 : (p &&& (127 : Int32)) = (0 : Int32) ↔ p.toInt % 128 = 0 := by rw [← Int32.toInt_inj, a1, z0]; omega
      have q3 : (10000 : Int32) < p / (128 : Int32) ↔ 10000 < p.toInt / 128 := by rw [Int32.lt_iff_toInt_lt, a3, z1]
      have q4 : (1280000 : Int32) < p ↔ 1280000 < p.toInt := by rw [Int32.lt_iff_toInt_lt, z2]
      simp only [q1, q2, q3, q4]
      by_cases b1 : p.toInt % 128 = 0
      · by_cases b2 : 1280000 < p.toInt
        · simp [b1, b2, show 10000 < p.toInt / 128 by omega]
        · simp [b1, b2, show ¬ 10000 < p.toInt / 128 by omega]
      · simp [b1]
    · have m1 : ((16 : Int32) - (1 : Int32)) = (15 : Int32) := by decide
      have m2 : ((10000 : Int32) * (16 : Int32)) = (160000 : Int32) := by decide
      have z2 : (160000 : Int32).toInt = 160000 := by decide
      rw [m1, m2]
      have a1 := c_mask p (15 : Int32) 4 (by decide) (by decide)
      have a2 := (c_irem p (16 : Int32) 16 (by decide)).1 (by omega)
      have a3 := (c_idiv p (16 : Int32) 16 (by decide) (by decide)).1 (by omega)
      have q1 : (p % (16 : Int32)) = (0 : Int32) ↔ p.toInt % 16 = 0 := by rw [← Int32.toInt_inj, a2, z0]
      have q2 : (p &&& (15 : Int32)) = (0 : Int32) ↔ p.toInt % 16 = 0 := by rw [← Int32.toInt_inj, a1, z0]; omega
      have q3 : (10000 : Int32) < p / (16 : Int32) ↔ 10000 < p.toInt / 16 := by rw [Int32.lt_iff_toInt_lt, a3, z1]
      have q4 : (160000 : Int32) < p ↔ 160000 < p.toInt := by rw [Int32.lt_iff_toInt_lt, z2]
      simp only [q1, q2, q3, q4]
      by_cases b1 : p.toInt % 16 = 0
      · by_cases b2 : 160000 < p.toInt
        · simp [b1, b2, show 10000 < p.toInt / 16 by omega]
        · simp [b1, b2, show ¬ 10000 < p.toInt / 16 by omega]
      · simp [b1]
  · rw [if_neg h0, if_neg h0]
theorem own_takes_n (e n k : Int32) (he : e = (128 : Int32) ∨ e = (16 : Int32)) (hn : n = (k &&& (16383 : Int32))) : own_takes e (n * e) = if n < (1 : Int32) then 0 else if (10000 : Int32) < n then 0 else 1 := by
  subst hn
  have a0 := c_mask k (16383 : Int32) 14 (by decide) (by decide)
  generalize (k &&& (16383 : Int32)) = n at *
  unfold own_takes
  have z0 : (0 : Int32).toInt = 0 := by decide
  have z1 : (1 : Int32).toInt = 1 := by decide
  have z2 : (10000 : Int32).toInt = 10000 := by decide
  have z3 : (128 : Int32).toInt = 128 := by decide
  have z4 : (16 : Int32).toInt = 16 := by decide
  rcases he with rfl | rfl
  · have m := c_imul n (128 : Int32)
    have r := rng32 (n * (128 : Int32))
    rw [z3] at m
    have e1 : (n * (128 : Int32)).toInt = n.toInt * 128 := by omega
    have a2 := (c_irem (n * (128 : Int32)) (128 : Int32) 128 (by decide)).1 (by omega)
    have a3 := (c_idiv (n * (128 : Int32)) (128 : Int32) 128 (by decide) (by decide)).1 (by omega)
    have q1 : ((n * (128 : Int32)) % (128 : Int32)) = (0 : Int32) := by rw [← Int32.toInt_inj, a2, z0, e1]; omega
    have q3 : (10000 : Int32) < (n * (128 : Int32)) / (128 : Int32) ↔ 10000 < n.toInt := by rw [Int32.lt_iff_toInt_lt, a3, z2, e1]; omega
    have q4 : (0 : Int32) < (n * (128 : Int32)) ↔ ¬ n.toInt < 1 := by rw [Int32.lt_iff_toInt_lt, z0, e1]; omega
    have q5 : n < (1 : Int32) ↔ n.toInt < 1 := by rw [Int32.lt_iff_toInt_lt, z1]
    have q6 : (10000 : Int32) < n ↔ 10000 < n.toInt := by rw [Int32.lt_iff_toInt_lt, z2]
    simp only [q1, q3, q4, q5, q6]
    by_cases b1 : n.toInt < 1 <;> by_cases b2 : 10000 < n.toInt <;> simp [b1, b2]
  · have m := c_imul n (16 : Int32)
    have r := rng32 (n * (16 : Int32))
    rw [z4] at m
    have e1 : (n * (16 : Int32)).toInt = n.toInt * 16 := by omega
    have a2 := (c_irem (n * (16 : Int32)) (16 : Int32) 16 (by decide)).1 (by omega)
    have a3 := (c_idiv (n * (16 : Int32)) (16 : Int32) 16 (by decide) (by decide)).1 (by omega)
    have q1 : ((n * (16 : Int32)) % (16 : Int32)) = (0 : Int32) := by rw [← Int32.toInt_inj, a2, z0, e1]; omega
    have q3 : (10000 : Int32) < (n * (16 : Int32)) / (16 : Int32) ↔ 10000 < n.toInt := by rw [Int32.lt_iff_toInt_lt, a3, z2, e1]; omega
    have q4 : (0 : Int32) < (n * (16 : Int32)) ↔ ¬ n.toInt < 1 := by rw [Int32.lt_iff_toInt_lt, z0, e1]; omega
    have q5 : n < (1 : Int32) ↔ n.toInt < 1 := by rw [Int32.lt_iff_toInt_lt, z1]
    have q6 : (10000 : Int32) < n ↔ 10000 < n.toInt := by rw [Int32.lt_iff_toInt_lt, z2]
    simp only [q1, q3, q4, q5, q6]
    by_cases b1 : n.toInt < 1 <;> by_cases b2 : 10000 < n.toInt <;> simp [b1, b2]
theorem own_fld {Z : State} {args : Array Value} {t : Term} {a : Addr} {C n d : String} {k : Int32} (ev : t.eval args Z none [] Z = some (.ref a)) (h : (Jvm.Cond.eq (.field t C n d) (.int k)).value args Z none Z [] = some true) : Fld Z Z.heap a C n d (.int k) := by
  obtain ⟨x, y, h1, h2, h3, h4⟩ := cmp_v (Or.inl h)
  rw [fld_at ev] at h1
  refine Fld.start ?_
  rw [h1]
  cases h2
  cases x <;> simp [Kin] at h3 h4
  rename_i z
  have q : (Jvm.Cond.eq (.field t C n d) (.int k)).value args Z none Z [] = some (decide (z = k)) := by
    simp [Jvm.Cond.value, Term.eval, ev, h1]
  rw [gotT q h]
theorem d1_0 : decode prog_4_method_6_code 0 = .ok (.iload_n 1, 1) := by decide +kernel
theorem d1_1 : decode prog_4_method_6_code 1 = .ok (.ifCond .le 28, 3) := by decide +kernel
theorem d1_4 : decode prog_4_method_6_code 4 = .ok (.iload_n 1, 1) := by decide +kernel
theorem d1_5 : decode prog_4_method_6_code 5 = .ok (.aload_n 0, 1) := by decide +kernel
theorem d1_6 : decode prog_4_method_6_code 6 = .ok (.getfield 39, 3) := by decide +kernel
theorem d1_9 : decode prog_4_method_6_code 9 = .ok (.irem, 1) := by decide +kernel
theorem d1_10 : decode prog_4_method_6_code 10 = .ok (.ifCond .ne 19, 3) := by decide +kernel
theorem d1_13 : decode prog_4_method_6_code 13 = .ok (.iload_n 1, 1) := by decide +kernel
theorem d1_14 : decode prog_4_method_6_code 14 = .ok (.aload_n 0, 1) := by decide +kernel
theorem d1_15 : decode prog_4_method_6_code 15 = .ok (.getfield 39, 3) := by decide +kernel
theorem d1_18 : decode prog_4_method_6_code 18 = .ok (.idiv, 1) := by decide +kernel
theorem d1_19 : decode prog_4_method_6_code 19 = .ok (.sipush 10000, 3) := by decide +kernel
theorem d1_22 : decode prog_4_method_6_code 22 = .ok (.if_icmp .gt 7, 3) := by decide +kernel
theorem d1_25 : decode prog_4_method_6_code 25 = .ok (.iconst 1, 1) := by decide +kernel
theorem d1_26 : decode prog_4_method_6_code 26 = .ok (.goto 4, 3) := by decide +kernel
theorem d1_29 : decode prog_4_method_6_code 29 = .ok (.iconst 0, 1) := by decide +kernel
theorem d1_30 : decode prog_4_method_6_code 30 = .ok (.ireturn, 1) := by decide +kernel
theorem pn_0 : plainName "com/example/clearingd/clearingd/binary/Command" = true := by first | (simp [plainName, overriddenIn]; done) | decide +kernel
theorem ef_1 (m : MethodId) (a1 : Addr) (p2 : Int32) : entryFrame m #[(.ref a1), (.int p2)] 2 = mkF m 0 #[.val (.ref a1), .val (.int p2)] [] := by first | (simp [entryFrame, mkF, argsToLocals, Value.category]; done) | rfl
def Q1 (Z : State) (a1 : Addr) (p2 : Int32) (w : Int32) (h0 : Heap) (n0 : Nat) (v : Option Value) (h : Heap) (L : List Loc) : Prop := v = some (.int (own_takes w p2)) ∧ Fr n0 L ∧ h = h0
set_option maxRecDepth 65536 in
set_option maxHeartbeats 40000000 in
theorem rm1 (l : Launch) (Z : State) (a0 : Array Value) (hw : ∀ d ∈ tables_1, d.before a0 Z = true) (ws : List Jvm.Cond) (a1 : Addr) (p2 : Int32) (w : Int32) (h0 : Heap) (n0 : Nat) (Z0 : n0 ≤ h0.size) (F1 : Fld Z h0 a1 "com/example/clearingd/clearingd/binary/Command" "elementBytes" "I" (.int w)) (hw0 : w ≠ 0) :
    MetFree l (⟨"com/example/clearingd/clearingd/binary/Command", "takes", "(I)Z"⟩ : MethodName) (head1 (Jvm.Cond.code (⟨"com/example/clearingd/clearingd/binary/Command", "takes", "(I)Z"⟩ : MethodName) prog_4_method_6_code 2 (some .boolean) :: ws) ({ frames := 0, cells := 0, slots := 0, locals := 0 } : Room)) (fun a U => a = #[(.ref a1), (.int p2)] ∧ Z.Warmed39 U.vm ∧ U.heap = h0) (fun _ _ _ _ _ => True) (fun _ U o U' => ∃ v L, o = .returned v ∧ Q1 Z a1 p2 w h0 n0 v U'.heap L ∧ FrameEnd U o U' L ({ frames := 0, cells := 0, slots := 0, locals := 0 } : Room).cells ({ frames := 0, cells := 0, slots := 0, locals := 0 } : Room).slots) := by
  refine MetFree.of_bodySF (plainFor_of_name pn_0) hisR ?_
  intro p e s m args below meth c s₁ Bd hml0 hP hK
  obtain ⟨rfl, hZ, hh⟩ := hP
  have hx := Bd.exec
  have hby := Bd.bytes
  have hml : c.maxLocals = 2 := hml0
  have hown : s.vm.findClass "com/example/clearingd/clearingd/binary/Command" = some m.cls := findClass_of_methodNamed Bd.named
  have hnm := (name_of_methodNamed Bd.named Bd.method).1
  have hlk : meth.locks = false := BodyLoose.notSynchronized Bd
  have X0 : Stand p l e ({ frames := 0, cells := 0, slots := 0, locals := 0 } : Room) s m #[(.ref a1), (.int p2)] below meth c s₁ [] 0 0 := Stand.of_body Bd
  have e0 : s₁.heap = h0 := by rw [← hh, Bd.state]; rfl
  have N0 := Fr.nil n0
  show OEnds p.tables e below (OGoal (Q1 Z a1 p2 w h0 n0) s 0 0) (s₁.setTop (entryFrame m #[(.ref a1), (.int p2)] 2))
  refine OEnds.st (fun t k => castTop (ef_1 m a1 p2) k) ?_
  generalize hG : OGoal (Q1 Z a1 p2 w h0 n0) s 0 0 = G
  have KK0 : Keep h0 h0 [] := Keep.refl h0 []
  show OEnds p.tables e below G (s₁.setTop (mkF m 0 #[.val (.ref a1), .val (.int p2)] []))
  refine OEnds.st (fun _ k => XS.iloadN X0.here hx rfl (hb hby d1_0) rfl k) ?_
  show OEnds p.tables e below G (s₁.setTop (mkF m 1 #[.val (.ref a1), .val (.int p2)] [(.int p2)]))
  by_cases hc1_1001 : (0 : Int32) < p2
  · -- pc 1: yes
    refine OEnds.st (fun _ k => XS.ifNo X0.here hx rfl (hb hby d1_1) rfl ((if0 _ _).trans (tlt hc1_1001).2.2.2) k) ?_
    show OEnds p.tables e below G (s₁.setTop (mkF m 4 #[.val (.ref a1), .val (.int p2)] []))
    refine OEnds.st (fun _ k => XS.iloadN X0.here hx rfl (hb hby d1_4) rfl k) ?_
    show OEnds p.tables e below G (s₁.setTop (mkF m 5 #[.val (.ref a1), .val (.int p2)] [(.int p2)]))
    refine OEnds.st (fun _ k => XS.aloadN X0.here hx rfl (hb hby d1_5) rfl rfl k) ?_
    show OEnds p.tables e below G (s₁.setTop (mkF m 6 #[.val (.ref a1), .val (.int p2)] [(.ref a1), (.int p2)]))
    obtain ⟨T1002, X1002, e1002, st1002⟩ := getF X0 hx hZ hown (host := "") (Or.inl (hw _ (List.mem_of_getElem? (i := 8) rfl))) Via.refl e0 F1 (g := (mkF m 6 #[.val (.ref a1), .val (.int p2)] [(.ref a1), (.int p2)])) rfl rfl (hb hby d1_6)
    refine OEnds.st st1002 ?_
    show OEnds p.tables e below G (T1002.setTop (mkF m 9 #[.val (.ref a1), .val (.int p2)] [(.int w), (.int p2)]))
    refine OEnds.st (fun _ k => iremM X1002 hx rfl (hb hby d1_9) rfl hw0 k) ?_
    show OEnds p.tables e below G (T1002.setTop (mkF m 10 #[.val (.ref a1), .val (.int p2)] [(.int (p2 % w))]))
    by_cases hc10_1003 : (p2 % w) = (0 : Int32)
    · -- pc 10: yes
      refine OEnds.st (fun _ k => XS.ifNo X1002.here hx rfl (hb hby d1_10) rfl ((if0 _ _).trans (teq hc10_1003).2) k) ?_
      show OEnds p.tables e below G (T1002.setTop (mkF m 13 #[.val (.ref a1), .val (.int p2)] []))
      refine OEnds.st (fun _ k => XS.iloadN X1002.here hx rfl (hb hby d1_13) rfl k) ?_
      show OEnds p.tables e below G (T1002.setTop (mkF m 14 #[.val (.ref a1), .val (.int p2)] [(.int p2)]))
      refine OEnds.st (fun _ k => XS.aloadN X1002.here hx rfl (hb hby d1_14) rfl rfl k) ?_
      show OEnds p.tables e below G (T1002.setTop (mkF m 15 #[.val (.ref a1), .val (.int p2)] [(.ref a1), (.int p2)]))
      obtain ⟨T1004, X1004, e1004, st1004⟩ := getF X1002 hx hZ hown (host := "") (Or.inl (hw _ (List.mem_of_getElem? (i := 8) rfl))) Via.refl e1002 F1 (g := (mkF m 15 #[.val (.ref a1), .val (.int p2)] [(.ref a1), (.int p2)])) rfl rfl (hb hby d1_15)
      refine OEnds.st st1004 ?_
      show OEnds p.tables e below G (T1004.setTop (mkF m 18 #[.val (.ref a1), .val (.int p2)] [(.int w), (.int p2)]))
      refine OEnds.st (fun _ k => XS.idiv X1004.here hx rfl (hb hby d1_18) rfl hw0 k) ?_
      show OEnds p.tables e below G (T1004.setTop (mkF m 19 #[.val (.ref a1), .val (.int p2)] [(.int (p2 / w))]))
      refine OEnds.st (fun _ k => XS.sipush X1004.here hx rfl (hb hby d1_19) k) ?_
      show OEnds p.tables e below G (T1004.setTop (mkF m 22 #[.val (.ref a1), .val (.int p2)] [(.int (10000 : Int32)), (.int (p2 / w))]))
      by_cases hc22_1005 : (10000 : Int32) < (p2 / w)
      · -- pc 22: yes
        refine OEnds.st (fun _ k => XS.icmpYes X1004.here hx rfl (pc0 := 22) (pc' := 29) rfl (hb hby d1_22) rfl (tlt hc22_1005).2.2.1 (by decide) (by decide) k) ?_
        show OEnds p.tables e below G (T1004.setTop (mkF m 29 #[.val (.ref a1), .val (.int p2)] []))
        refine OEnds.st (fun _ k => XS.iconst X1004.here hx rfl (hb hby d1_29) k) ?_
        show OEnds p.tables e below G (T1004.setTop (mkF m 30 #[.val (.ref a1), .val (.int p2)] [(.int (0 : Int32))]))
        rw [← hG]
        refine OEnds.retZ X1004 hx hlk Bd.returns rfl (hb hby d1_30) (by decide) (by decide) ?_
        rw [e1004]
        exact ⟨by unfold own_takes; simp [hw0, hc1_1001, hc10_1003, hc22_1005], N0, rfl⟩
      · -- pc 22: no
        refine OEnds.st (fun _ k => XS.icmpNo X1004.here hx rfl (hb hby d1_22) rfl (flt hc22_1005).2.2.1 k) ?_
        show OEnds p.tables e below G (T1004.setTop (mkF m 25 #[.val (.ref a1), .val (.int p2)] []))
        refine OEnds.st (fun _ k => XS.iconst X1004.here hx rfl (hb hby d1_25) k) ?_
        show OEnds p.tables e below G (T1004.setTop (mkF m 26 #[.val (.ref a1), .val (.int p2)] [(.int (1 : Int32))]))
        refine OEnds.st (fun _ k => XS.goto X1004.here hx rfl (pc0 := 26) (pc' := 30) rfl (hb hby d1_26) (by decide) (by decide) k) ?_
        show OEnds p.tables e below G (T1004.setTop (mkF m 30 #[.val (.ref a1), .val (.int p2)] [(.int (1 : Int32))]))
        rw [← hG]
        refine OEnds.retZ X1004 hx hlk Bd.returns rfl (hb hby d1_30) (by decide) (by decide) ?_
        rw [e1004]
        exact ⟨by unfold own_takes; simp [hw0, hc1_1001, hc10_1003, hc22_1005], N0, rfl⟩
    · -- pc 10: no
      refine OEnds.st (fun _ k => XS.ifYes X1002.here hx rfl (pc0 := 10) (pc' := 29) rfl (hb hby d1_10) rfl ((if0 _ _).trans (feq hc10_1003).2) (by decide) (by decide) k) ?_
      show OEnds p.tables e below G (T1002.setTop (mkF m 29 #[.val (.ref a1), .val (.int p2)] []))
      refine OEnds.st (fun _ k => XS.iconst X1002.here hx rfl (hb hby d1_29) k) ?_
      show OEnds p.tables e below G (T1002.setTop (mkF m 30 #[.val (.ref a1), .val (.int p2)] [(.int (0 : Int32))]))
      rw [← hG]
      refine OEnds.retZ X1002 hx hlk Bd.returns rfl (hb hby d1_30) (by decide) (by decide) ?_
      rw [e1002]
      exact ⟨by unfold own_takes; simp [hw0, hc1_1001, hc10_1003], N0, rfl⟩
  · -- pc 1: no
    refine OEnds.st (fun _ k => XS.ifYes X0.here hx rfl (pc0 := 1) (pc' := 29) rfl (hb hby d1_1) rfl ((if0 _ _).trans (flt hc1_1001).2.2.2) (by decide) (by decide) k) ?_
    show OEnds p.tables e below G (s₁.setTop (mkF m 29 #[.val (.ref a1), .val (.int p2)] []))
    refine OEnds.st (fun _ k => XS.iconst X0.here hx rfl (hb hby d1_29) k) ?_
    show OEnds p.tables e below G (s₁.setTop (mkF m 30 #[.val (.ref a1), .val (.int p2)] [(.int (0 : Int32))]))
    rw [← hG]
    refine OEnds.retZ X0 hx hlk Bd.returns rfl (hb hby d1_30) (by decide) (by decide) ?_
    rw [e0]
    exact ⟨by unfold own_takes; simp [hw0, hc1_1001], N0, rfl⟩
theorem pn_1 : plainName "com/example/clearingd/clearingd/binary/CommandTakesPinLaw" = true := by first | (simp [plainName, overriddenIn]; done) | decide +kernel
theorem ef_0 (m : MethodId) (p1 : Int32) (p2 : Int32) (p3 : Int32) : entryFrame m #[(.int p1), (.int p2), (.int p3)] maxLocals = mkF m 0 #[.val (.int p1), .val (.int p2), .val (.int p3), .unset, .unset, .unset, .unset, .unset, .unset] [] := by first | (simp [entryFrame, mkF, argsToLocals, Value.category, maxLocals]; done) | rfl
def Q0 (Z : State) (p1 : Int32) (p2 : Int32) (p3 : Int32) (o0 : Addr) (o1 : Addr) (o2 : Addr) (o3 : Addr) (h0 : Heap) (n0 : Nat) (v : Option Value) (h : Heap) (L : List Loc) : Prop := v = some (.int (1 : Int32)) ∧ Fr n0 L
theorem pd_0 : parseMethodDescriptor "(I)Z" = some ⟨[.int], some .boolean⟩ := by decide +kernel
set_option maxRecDepth 65536 in
set_option maxHeartbeats 40000000 in
theorem rm0 (l : Launch) (Z : State) (a0 : Array Value) (hw : ∀ d ∈ tables_1, d.before a0 Z = true) (ws : List Jvm.Cond) (p1 : Int32) (p2 : Int32) (p3 : Int32) (o0 : Addr) (o1 : Addr) (o2 : Addr) (o3 : Addr) (h0 : Heap) (n0 : Nat) (Z0 : n0 ≤ h0.size) (St0 : Sta Z h0 "com/example/clearingd/clearingd/binary/Command" "CREATE_ACCOUNTS" "Lcom/example/clearingd/clearingd/binary/Command;" (.ref o0)) (Ex0 : Exa Z h0 o0 "com/example/clearingd/clearingd/binary/Command") (Fl0 : Fld Z h0 o0 "com/example/clearingd/clearingd/binary/Command" "elementBytes" "I" (.int (128 : Int32))) (St1 : Sta Z h0 "com/example/clearingd/clearingd/binary/Command" "CREATE_TRANSFERS" "Lcom/example/clearingd/clearingd/binary/Command;" (.ref o1)) (Ex1 : Exa Z h0 o1 "com/example/clearingd/clearingd/binary/Command") (Fl1 : Fld Z h0 o1 "com/example/clearingd/clearingd/binary/Command" "elementBytes" "I" (.int (128 : Int32))) (St2 : Sta Z h0 "com/example/clearingd/clearingd/binary/Command" "LOOKUP_TRANSFERS" "Lcom/example/clearingd/clearingd/binary/Command;" (.ref o2)) (Ex2 : Exa Z h0 o2 "com/example/clearingd/clearingd/binary/Command") (Fl2 : Fld Z h0 o2 "com/example/clearingd/clearingd/binary/Command" "elementBytes" "I" (.int (16 : Int32))) (St3 : Sta Z h0 "com/example/clearingd/clearingd/binary/Command" "LOOKUP_ACCOUNTS" "Lcom/example/clearingd/clearingd/binary/Command;" (.ref o3)) (Ex3 : Exa Z h0 o3 "com/example/clearingd/clearingd/binary/Command") (Fl3 : Fld Z h0 o3 "com/example/clearingd/clearingd/binary/Command" "elementBytes" "I" (.int (16 : Int32))) :
    MetFree l x (head1 (Jvm.Cond.code x code maxLocals ret :: ws) room_1) (fun a U => a = #[(.int p1), (.int p2), (.int p3)] ∧ Z.Warmed39 U.vm ∧ U.heap = h0) (fun _ _ _ _ _ => True) (fun _ U o U' => ∃ v L, o = .returned v ∧ Q0 Z p1 p2 p3 o0 o1 o2 o3 h0 n0 v U'.heap L ∧ FrameEnd U o U' L room_1.cells room_1.slots) := by
  refine MetFree.of_bodySF (plainFor_of_name pn_1) hisR ?_
  intro p e s m args below meth c s₁ Bd hml0 hP hK
  obtain ⟨rfl, hZ, hh⟩ := hP
  have hx := Bd.exec
  have hby := Bd.bytes
  have hml : c.maxLocals = 9 := hml0
  have hown : s.vm.findClass "com/example/clearingd/clearingd/binary/CommandTakesPinLaw" = some m.cls := findClass_of_methodNamed Bd.named
  have hnm := (name_of_methodNamed Bd.named Bd.method).1
  have hlk : meth.locks = false := BodyLoose.notSynchronized Bd
  have X0 : Stand p l e room_1 s m #[(.int p1), (.int p2), (.int p3)] below meth c s₁ [] 0 0 := Stand.of_body Bd
  have e0 : s₁.heap = h0 := by rw [← hh, Bd.state]; rfl
  have N0 := Fr.nil n0
  show OEnds p.tables e below (OGoal (Q0 Z p1 p2 p3 o0 o1 o2 o3 h0 n0) s 0 0) (s₁.setTop (entryFrame m #[(.int p1), (.int p2), (.int p3)] maxLocals))
  refine OEnds.st (fun t k => castTop (ef_0 m p1 p2 p3) k) ?_
  generalize hG : OGoal (Q0 Z p1 p2 p3 o0 o1 o2 o3 h0 n0) s 0 0 = G
  have KK0 : Keep h0 h0 [] := Keep.refl h0 []
  show OEnds p.tables e below G (s₁.setTop (mkF m 0 #[.val (.int p1), .val (.int p2), .val (.int p3), .unset, .unset, .unset, .unset, .unset, .unset] []))
  refine OEnds.st (fun _ k => XS.iloadN X0.here hx rfl (hb hby at_0) rfl k) ?_
  show OEnds p.tables e below G (s₁.setTop (mkF m 1 #[.val (.int p1), .val (.int p2), .val (.int p3), .unset, .unset, .unset, .unset, .unset, .unset] [(.int p1)]))
  refine OEnds.st (fun _ k => XS.iconst X0.here hx rfl (hb hby at_1) k) ?_
  show OEnds p.tables e below G (s₁.setTop (mkF m 2 #[.val (.int p1), .val (.int p2), .val (.int p3), .unset, .unset, .unset, .unset, .unset, .unset] [(.int (3 : Int32)), (.int p1)]))
  refine OEnds.st (fun _ k => XS.iand X0.here hx rfl (hb hby at_2) rfl k) ?_
  show OEnds p.tables e below G (s₁.setTop (mkF m 3 #[.val (.int p1), .val (.int p2), .val (.int p3), .unset, .unset, .unset, .unset, .unset, .unset] [(.int (p1 &&& (3 : Int32)))]))
  refine OEnds.st (fun _ k => XS.istoreN X0.here hx rfl (hb hby at_3) rfl (l' := #[.val (.int p1), .val (.int p2), .val (.int p3), .val (.int (p1 &&& (3 : Int32))), .unset, .unset, .unset, .unset, .unset]) rfl k) ?_
  show OEnds p.tables e below G (s₁.setTop (mkF m 4 #[.val (.int p1), .val (.int p2), .val (.int p3), .val (.int (p1 &&& (3 : Int32))), .unset, .unset, .unset, .unset, .unset] []))
  generalize hv_v1001 : (p1 &&& (3 : Int32)) = v1001
  have rest65_1002 : ∀ (T1002 : State) (L1002 : List Loc) (h1002 : Heap) (X1002 : Stand p l e room_1 s m #[(.int p1), (.int p2), (.int p3)] below meth c T1002 L1002 0 0) (e1002 : T1002.heap = h1002) (N1002 : Fr n0 L1002) (KK1002 : Keep h0 h1002 []) (Z1002 : n0 ≤ h1002.size) (o4 : Addr) (e5 : Int32) (f1003 : Exa Z h1002 o4 "com/example/clearingd/clearingd/binary/Command") (f1004 : Fld Z h1002 o4 "com/example/clearingd/clearingd/binary/Command" "elementBytes" "I" (.int e5)) (he : e5 = (128 : Int32) ∨ e5 = (16 : Int32)), OEnds p.tables e below G (T1002.setTop (mkF m 65 #[.val (.int p1), .val (.int p2), .val (.int p3), .val (.int v1001), .val (.ref o4), .val (.int e5), .unset, .unset, .unset] [])) := by
    intro T1002 L1002 h1002 X1002 e1002 N1002 KK1002 Z1002 o4 e5 f1003 f1004 he
    show OEnds p.tables e below G (T1002.setTop (mkF m 65 #[.val (.int p1), .val (.int p2), .val (.int p3), .val (.int v1001), .val (.ref o4), .val (.int e5), .unset, .unset, .unset] []))
    refine OEnds.st (fun _ k => XS.iloadN X1002.here hx rfl (hb hby at_65) rfl k) ?_
    show OEnds p.tables e below G (T1002.setTop (mkF m 66 #[.val (.int p1), .val (.int p2), .val (.int p3), .val (.int v1001), .val (.ref o4), .val (.int e5), .unset, .unset, .unset] [(.int p2)]))
    by_cases hc66_1005 : (0 : Int32) < p2
    · -- pc 66: yes
      refine OEnds.st (fun _ k => XS.ifNo X1002.here hx rfl (hb hby at_66) rfl ((if0 _ _).trans (tlt hc66_1005).2.2.2) k) ?_
      show OEnds p.tables e below G (T1002.setTop (mkF m 69 #[.val (.int p1), .val (.int p2), .val (.int p3), .val (.int v1001), .val (.ref o4), .val (.int e5), .unset, .unset, .unset] []))
      refine OEnds.st (fun _ k => XS.iloadN X1002.here hx rfl (hb hby at_69) rfl k) ?_
      show OEnds p.tables e below G (T1002.setTop (mkF m 70 #[.val (.int p1), .val (.int p2), .val (.int p3), .val (.int v1001), .val (.ref o4), .val (.int e5), .unset, .unset, .unset] [(.int p2)]))
      refine OEnds.st (fun _ k => XS.sipush X1002.here hx rfl (hb hby at_70) k) ?_
      show OEnds p.tables e below G (T1002.setTop (mkF m 73 #[.val (.int p1), .val (.int p2), .val (.int p3), .val (.int v1001), .val (.ref o4), .val (.int e5), .unset, .unset, .unset] [(.int (10000 : Int32)), (.int p2)]))
      refine OEnds.st (fun _ k => XS.iload X1002.here hx rfl (hb hby at_73) rfl k) ?_
      show OEnds p.tables e below G (T1002.setTop (mkF m 75 #[.val (.int p1), .val (.int p2), .val (.int p3), .val (.int v1001), .val (.ref o4), .val (.int e5), .unset, .unset, .unset] [(.int e5), (.int (10000 : Int32)), (.int p2)]))
      refine OEnds.st (fun _ k => XS.imul X1002.here hx rfl (hb hby at_75) rfl k) ?_
      show OEnds p.tables e below G (T1002.setTop (mkF m 76 #[.val (.int p1), .val (.int p2), .val (.int p3), .val (.int v1001), .val (.ref o4), .val (.int e5), .unset, .unset, .unset] [(.int ((10000 : Int32) * e5)), (.int p2)]))
      by_cases hc76_1006 : ((10000 : Int32) * e5) < p2
      · -- pc 76: yes
        refine OEnds.st (fun _ k => XS.icmpYes X1002.here hx rfl (pc0 := 76) (pc' := 92) rfl (hb hby at_76) rfl (tlt hc76_1006).2.2.1 (by decide) (by decide) k) ?_
        show OEnds p.tables e below G (T1002.setTop (mkF m 92 #[.val (.int p1), .val (.int p2), .val (.int p3), .val (.int v1001), .val (.ref o4), .val (.int e5), .unset, .unset, .unset] []))
        refine OEnds.st (fun _ k => XS.iconst X1002.here hx rfl (hb hby at_92) k) ?_
        show OEnds p.tables e below G (T1002.setTop (mkF m 93 #[.val (.int p1), .val (.int p2), .val (.int p3), .val (.int v1001), .val (.ref o4), .val (.int e5), .unset, .unset, .unset] [(.int (0 : Int32))]))
        refine OEnds.st (fun _ k => XS.istore X1002.here hx rfl (hb hby at_93) rfl (l' := #[.val (.int p1), .val (.int p2), .val (.int p3), .val (.int v1001), .val (.ref o4), .val (.int e5), .val (.int (0 : Int32)), .unset, .unset]) rfl k) ?_
        show OEnds p.tables e below G (T1002.setTop (mkF m 95 #[.val (.int p1), .val (.int p2), .val (.int p3), .val (.int v1001), .val (.ref o4), .val (.int e5), .val (.int (0 : Int32)), .unset, .unset] []))
        refine OEnds.st (fun _ k => XS.aload X1002.here hx rfl (hb hby at_95) rfl rfl k) ?_
        show OEnds p.tables e below G (T1002.setTop (mkF m 97 #[.val (.int p1), .val (.int p2), .val (.int p3), .val (.int v1001), .val (.ref o4), .val (.int e5), .val (.int (0 : Int32)), .unset, .unset] [(.ref o4)]))
        refine OEnds.st (fun _ k => XS.iloadN X1002.here hx rfl (hb hby at_97) rfl k) ?_
        show OEnds p.tables e below G (T1002.setTop (mkF m 98 #[.val (.int p1), .val (.int p2), .val (.int p3), .val (.int v1001), .val (.ref o4), .val (.int e5), .val (.int (0 : Int32)), .unset, .unset] [(.int p2), (.ref o4)]))
        obtain ⟨cq1007, kq1007, q1007a, q1007b, q1007c⟩ := isOf hZ e1002 f1003
        obtain ⟨_, _, ⟨T1007, L1007, k1007c, n1007c⟩, -, X1007, ⟨Lc1007, hQ1007, l1007, y1007, z1007⟩, st1007⟩ := X1002.virtualBack hx (y := (⟨"com/example/clearingd/clearingd/binary/Command", "takes", "(I)Z"⟩ : MethodName)) (z := (⟨"com/example/clearingd/clearingd/binary/Command", "takes", "(I)Z"⟩ : MethodName)) hown (mvT hZ (hw _ (List.mem_of_getElem? (i := 3) rfl))) (mvT hZ (hw _ (List.mem_of_getElem? (i := 4) rfl))) (notFace_of_selects (args := #[]) (mvT hZ (hw _ (List.mem_of_getElem? (i := 6) rfl)))) (mvT hZ (hw _ (List.mem_of_getElem? (i := 6) rfl))) (mvT hZ (hw _ (List.mem_of_getElem? (i := 5) rfl))) (by decide) (backOf (W := 0) (rm1 l Z a0 hw [] o4 p2 e5 h1002 n0 Z1002 f1004 (by rcases he with rfl | rfl <;> decide)) hZ (hw _ (List.mem_of_getElem? (i := 7) rfl)) (hw _ (List.mem_of_getElem? (i := 1) rfl)) (by decide) (by decide)) q1007a q1007c (g := (mkF m 98 #[.val (.int p1), .val (.int p2), .val (.int p3), .val (.int v1001), .val (.ref o4), .val (.int e5), .val (.int (0 : Int32)), .unset, .unset] [(.int p2), (.ref o4)])) rfl (by rw [hml]; rfl) (Steps.refl _) (argsL := [(.int p2)]) (rest := []) (lenOf pd_0 rfl) rfl (by show 2 * 0 + _ ≤ _; exact Nat.le_of_eq rfl) (hb hby at_98) (fun _ _ => ⟨rfl, e1002, (by decide : 0 + 0 ≤ _), (by decide : 0 + 0 ≤ _)⟩)
        dsimp only [Pt.U, Pt.locs, Pt.cells, Pt.slots] at X1007 l1007 y1007 z1007 st1007 hQ1007
        subst l1007 y1007 z1007
        obtain ⟨rfl, N1007q, e1007⟩ := hQ1007
        have N1007 := Fr.app N1002 N1007q
        refine OEnds.st (fun _ k => st1007.trans k) ?_
        show OEnds p.tables e below G (T1007.setTop (mkF m 101 #[.val (.int p1), .val (.int p2), .val (.int p3), .val (.int v1001), .val (.ref o4), .val (.int e5), .val (.int (0 : Int32)), .unset, .unset] [(.int (own_takes e5 p2))]))
        refine OEnds.st (fun _ k => XS.iload X1007.here hx rfl (hb hby at_101) rfl k) ?_
        show OEnds p.tables e below G (T1007.setTop (mkF m 103 #[.val (.int p1), .val (.int p2), .val (.int p3), .val (.int v1001), .val (.ref o4), .val (.int e5), .val (.int (0 : Int32)), .unset, .unset] [(.int (0 : Int32)), (.int (own_takes e5 p2))]))
        have hc103_1008 : (own_takes e5 p2) = (0 : Int32) := by rw [own_takes_eq e5 p2 he]; simp [hc66_1005, hc76_1006]
        refine OEnds.st (fun _ k => XS.icmpYes X1007.here hx rfl (pc0 := 103) (pc' := 108) rfl (hb hby at_103) rfl (teq hc103_1008).1 (by decide) (by decide) k) ?_
        show OEnds p.tables e below G (T1007.setTop (mkF m 108 #[.val (.int p1), .val (.int p2), .val (.int p3), .val (.int v1001), .val (.ref o4), .val (.int e5), .val (.int (0 : Int32)), .unset, .unset] []))
        refine OEnds.st (fun _ k => XS.iloadN X1007.here hx rfl (hb hby at_108) rfl k) ?_
        show OEnds p.tables e below G (T1007.setTop (mkF m 109 #[.val (.int p1), .val (.int p2), .val (.int p3), .val (.int v1001), .val (.ref o4), .val (.int e5), .val (.int (0 : Int32)), .unset, .unset] [(.int p3)]))
        refine OEnds.st (fun _ k => XS.sipush X1007.here hx rfl (hb hby at_109) k) ?_
        show OEnds p.tables e below G (T1007.setTop (mkF m 112 #[.val (.int p1), .val (.int p2), .val (.int p3), .val (.int v1001), .val (.ref o4), .val (.int e5), .val (.int (0 : Int32)), .unset, .unset] [(.int (16383 : Int32)), (.int p3)]))
        refine OEnds.st (fun _ k => XS.iand X1007.here hx rfl (hb hby at_112) rfl k) ?_
        show OEnds p.tables e below G (T1007.setTop (mkF m 113 #[.val (.int p1), .val (.int p2), .val (.int p3), .val (.int v1001), .val (.ref o4), .val (.int e5), .val (.int (0 : Int32)), .unset, .unset] [(.int (p3 &&& (16383 : Int32)))]))
        refine OEnds.st (fun _ k => XS.istore X1007.here hx rfl (hb hby at_113) rfl (l' := #[.val (.int p1), .val (.int p2), .val (.int p3), .val (.int v1001), .val (.ref o4), .val (.int e5), .val (.int (0 : Int32)), .val (.int (p3 &&& (16383 : Int32))), .unset]) rfl k) ?_
        show OEnds p.tables e below G (T1007.setTop (mkF m 115 #[.val (.int p1), .val (.int p2), .val (.int p3), .val (.int v1001), .val (.ref o4), .val (.int e5), .val (.int (0 : Int32)), .val (.int (p3 &&& (16383 : Int32))), .unset] []))
        generalize hv_v1009 : (p3 &&& (16383 : Int32)) = v1009
        show OEnds p.tables e below G (T1007.setTop (mkF m 115 #[.val (.int p1), .val (.int p2), .val (.int p3), .val (.int v1001), .val (.ref o4), .val (.int e5), .val (.int (0 : Int32)), .val (.int v1009), .unset] []))
        refine OEnds.st (fun _ k => XS.iload X1007.here hx rfl (hb hby at_115) rfl k) ?_
        show OEnds p.tables e below G (T1007.setTop (mkF m 117 #[.val (.int p1), .val (.int p2), .val (.int p3), .val (.int v1001), .val (.ref o4), .val (.int e5), .val (.int (0 : Int32)), .val (.int v1009), .unset] [(.int v1009)]))
        refine OEnds.st (fun _ k => XS.iconst X1007.here hx rfl (hb hby at_117) k) ?_
        show OEnds p.tables e below G (T1007.setTop (mkF m 118 #[.val (.int p1), .val (.int p2), .val (.int p3), .val (.int v1001), .val (.ref o4), .val (.int e5), .val (.int (0 : Int32)), .val (.int v1009), .unset] [(.int (1 : Int32)), (.int v1009)]))
        by_cases hc118_1010 : v1009 < (1 : Int32)
        · -- pc 118: yes
          refine OEnds.st (fun _ k => XS.icmpYes X1007.here hx rfl (pc0 := 118) (pc' := 133) rfl (hb hby at_118) rfl (tlt hc118_1010).1 (by decide) (by decide) k) ?_
          show OEnds p.tables e below G (T1007.setTop (mkF m 133 #[.val (.int p1), .val (.int p2), .val (.int p3), .val (.int v1001), .val (.ref o4), .val (.int e5), .val (.int (0 : Int32)), .val (.int v1009), .unset] []))
          refine OEnds.st (fun _ k => XS.iconst X1007.here hx rfl (hb hby at_133) k) ?_
          show OEnds p.tables e below G (T1007.setTop (mkF m 134 #[.val (.int p1), .val (.int p2), .val (.int p3), .val (.int v1001), .val (.ref o4), .val (.int e5), .val (.int (0 : Int32)), .val (.int v1009), .unset] [(.int (0 : Int32))]))
          refine OEnds.st (fun _ k => XS.istore X1007.here hx rfl (hb hby at_134) rfl (l' := #[.val (.int p1), .val (.int p2), .val (.int p3), .val (.int v1001), .val (.ref o4), .val (.int e5), .val (.int (0 : Int32)), .val (.int v1009), .val (.int (0 : Int32))]) rfl k) ?_
          show OEnds p.tables e below G (T1007.setTop (mkF m 136 #[.val (.int p1), .val (.int p2), .val (.int p3), .val (.int v1001), .val (.ref o4), .val (.int e5), .val (.int (0 : Int32)), .val (.int v1009), .val (.int (0 : Int32))] []))
          refine OEnds.st (fun _ k => XS.aload X1007.here hx rfl (hb hby at_136) rfl rfl k) ?_
          show OEnds p.tables e below G (T1007.setTop (mkF m 138 #[.val (.int p1), .val (.int p2), .val (.int p3), .val (.int v1001), .val (.ref o4), .val (.int e5), .val (.int (0 : Int32)), .val (.int v1009), .val (.int (0 : Int32))] [(.ref o4)]))
          refine OEnds.st (fun _ k => XS.iload X1007.here hx rfl (hb hby at_138) rfl k) ?_
          show OEnds p.tables e below G (T1007.setTop (mkF m 140 #[.val (.int p1), .val (.int p2), .val (.int p3), .val (.int v1001), .val (.ref o4), .val (.int e5), .val (.int (0 : Int32)), .val (.int v1009), .val (.int (0 : Int32))] [(.int v1009), (.ref o4)]))
          refine OEnds.st (fun _ k => XS.iload X1007.here hx rfl (hb hby at_140) rfl k) ?_
          show OEnds p.tables e below G (T1007.setTop (mkF m 142 #[.val (.int p1), .val (.int p2), .val (.int p3), .val (.int v1001), .val (.ref o4), .val (.int e5), .val (.int (0 : Int32)), .val (.int v1009), .val (.int (0 : Int32))] [(.int e5), (.int v1009), (.ref o4)]))
          refine OEnds.st (fun _ k => XS.imul X1007.here hx rfl (hb hby at_142) rfl k) ?_
          show OEnds p.tables e below G (T1007.setTop (mkF m 143 #[.val (.int p1), .val (.int p2), .val (.int p3), .val (.int v1001), .val (.ref o4), .val (.int e5), .val (.int (0 : Int32)), .val (.int v1009), .val (.int (0 : Int32))] [(.int (v1009 * e5)), (.ref o4)]))
          obtain ⟨cq1011, kq1011, q1011a, q1011b, q1011c⟩ := isOf hZ e1007 f1003
          obtain ⟨_, _, ⟨T1011, L1011, k1011c, n1011c⟩, -, X1011, ⟨Lc1011, hQ1011, l1011, y1011, z1011⟩, st1011⟩ := X1007.virtualBack hx (y := (⟨"com/example/clearingd/clearingd/binary/Command", "takes", "(I)Z"⟩ : MethodName)) (z := (⟨"com/example/clearingd/clearingd/binary/Command", "takes", "(I)Z"⟩ : MethodName)) hown (mvT hZ (hw _ (List.mem_of_getElem? (i := 3) rfl))) (mvT hZ (hw _ (List.mem_of_getElem? (i := 4) rfl))) (notFace_of_selects (args := #[]) (mvT hZ (hw _ (List.mem_of_getElem? (i := 6) rfl)))) (mvT hZ (hw _ (List.mem_of_getElem? (i := 6) rfl))) (mvT hZ (hw _ (List.mem_of_getElem? (i := 5) rfl))) (by decide) (backOf (W := 0) (rm1 l Z a0 hw [] o4 (v1009 * e5) e5 h1002 n0 Z1002 f1004 (by rcases he with rfl | rfl <;> decide)) hZ (hw _ (List.mem_of_getElem? (i := 7) rfl)) (hw _ (List.mem_of_getElem? (i := 1) rfl)) (by decide) (by decide)) q1011a q1011c (g := (mkF m 143 #[.val (.int p1), .val (.int p2), .val (.int p3), .val (.int v1001), .val (.ref o4), .val (.int e5), .val (.int (0 : Int32)), .val (.int v1009), .val (.int (0 : Int32))] [(.int (v1009 * e5)), (.ref o4)])) rfl (by rw [hml]; rfl) (Steps.refl _) (argsL := [(.int (v1009 * e5))]) (rest := []) (lenOf pd_0 rfl) rfl (by show 2 * 0 + _ ≤ _; exact Nat.le_of_eq rfl) (hb hby at_143) (fun _ _ => ⟨rfl, e1007, (by decide : 0 + 0 + 0 ≤ _), (by decide : 0 + 0 + 0 ≤ _)⟩)
          dsimp only [Pt.U, Pt.locs, Pt.cells, Pt.slots] at X1011 l1011 y1011 z1011 st1011 hQ1011
          subst l1011 y1011 z1011
          obtain ⟨rfl, N1011q, e1011⟩ := hQ1011
          have N1011 := Fr.app N1007 N1011q
          refine OEnds.st (fun _ k => st1011.trans k) ?_
          show OEnds p.tables e below G (T1011.setTop (mkF m 146 #[.val (.int p1), .val (.int p2), .val (.int p3), .val (.int v1001), .val (.ref o4), .val (.int e5), .val (.int (0 : Int32)), .val (.int v1009), .val (.int (0 : Int32))] [(.int (own_takes e5 (v1009 * e5)))]))
          refine OEnds.st (fun _ k => XS.iload X1011.here hx rfl (hb hby at_146) rfl k) ?_
          show OEnds p.tables e below G (T1011.setTop (mkF m 148 #[.val (.int p1), .val (.int p2), .val (.int p3), .val (.int v1001), .val (.ref o4), .val (.int e5), .val (.int (0 : Int32)), .val (.int v1009), .val (.int (0 : Int32))] [(.int (0 : Int32)), (.int (own_takes e5 (v1009 * e5)))]))
          have hc148_1012 : (own_takes e5 (v1009 * e5)) = (0 : Int32) := by rw [own_takes_n e5 v1009 p3 he hv_v1009.symm]; simp [hc66_1005, hc76_1006, hc103_1008, hc118_1010]
          refine OEnds.st (fun _ k => XS.icmpNo X1011.here hx rfl (hb hby at_148) rfl (teq hc148_1012).2 k) ?_
          show OEnds p.tables e below G (T1011.setTop (mkF m 151 #[.val (.int p1), .val (.int p2), .val (.int p3), .val (.int v1001), .val (.ref o4), .val (.int e5), .val (.int (0 : Int32)), .val (.int v1009), .val (.int (0 : Int32))] []))
          refine OEnds.st (fun _ k => XS.iconst X1011.here hx rfl (hb hby at_151) k) ?_
          show OEnds p.tables e below G (T1011.setTop (mkF m 152 #[.val (.int p1), .val (.int p2), .val (.int p3), .val (.int v1001), .val (.ref o4), .val (.int e5), .val (.int (0 : Int32)), .val (.int v1009), .val (.int (0 : Int32))] [(.int (1 : Int32))]))
          refine OEnds.st (fun _ k => XS.goto X1011.here hx rfl (pc0 := 152) (pc' := 156) rfl (hb hby at_152) (by decide) (by decide) k) ?_
          show OEnds p.tables e below G (T1011.setTop (mkF m 156 #[.val (.int p1), .val (.int p2), .val (.int p3), .val (.int v1001), .val (.ref o4), .val (.int e5), .val (.int (0 : Int32)), .val (.int v1009), .val (.int (0 : Int32))] [(.int (1 : Int32))]))
          rw [← hG]
          refine OEnds.retZ X1011 hx hlk Bd.returns rfl (hb hby at_156) (by decide) (by decide) ?_
          rw [e1011]
          exact ⟨rfl, N1011⟩
        · -- pc 118: no
          refine OEnds.st (fun _ k => XS.icmpNo X1007.here hx rfl (hb hby at_118) rfl (flt hc118_1010).1 k) ?_
          show OEnds p.tables e below G (T1007.setTop (mkF m 121 #[.val (.int p1), .val (.int p2), .val (.int p3), .val (.int v1001), .val (.ref o4), .val (.int e5), .val (.int (0 : Int32)), .val (.int v1009), .unset] []))
          refine OEnds.st (fun _ k => XS.iload X1007.here hx rfl (hb hby at_121) rfl k) ?_
          show OEnds p.tables e below G (T1007.setTop (mkF m 123 #[.val (.int p1), .val (.int p2), .val (.int p3), .val (.int v1001), .val (.ref o4), .val (.int e5), .val (.int (0 : Int32)), .val (.int v1009), .unset] [(.int v1009)]))
          refine OEnds.st (fun _ k => XS.sipush X1007.here hx rfl (hb hby at_123) k) ?_
          show OEnds p.tables e below G (T1007.setTop (mkF m 126 #[.val (.int p1), .val (.int p2), .val (.int p3), .val (.int v1001), .val (.ref o4), .val (.int e5), .val (.int (0 : Int32)), .val (.int v1009), .unset] [(.int (10000 : Int32)), (.int v1009)]))
          by_cases hc126_1013 : (10000 : Int32) < v1009
          · -- pc 126: yes
            refine OEnds.st (fun _ k => XS.icmpYes X1007.here hx rfl (pc0 := 126) (pc' := 133) rfl (hb hby at_126) rfl (tlt hc126_1013).2.2.1 (by decide) (by decide) k) ?_
            show OEnds p.tables e below G (T1007.setTop (mkF m 133 #[.val (.int p1), .val (.int p2), .val (.int p3), .val (.int v1001), .val (.ref o4), .val (.int e5), .val (.int (0 : Int32)), .val (.int v1009), .unset] []))
            refine OEnds.st (fun _ k => XS.iconst X1007.here hx rfl (hb hby at_133) k) ?_
            show OEnds p.tables e below G (T1007.setTop (mkF m 134 #[.val (.int p1), .val (.int p2), .val (.int p3), .val (.int v1001), .val (.ref o4), .val (.int e5), .val (.int (0 : Int32)), .val (.int v1009), .unset] [(.int (0 : Int32))]))
            refine OEnds.st (fun _ k => XS.istore X1007.here hx rfl (hb hby at_134) rfl (l' := #[.val (.int p1), .val (.int p2), .val (.int p3), .val (.int v1001), .val (.ref o4), .val (.int e5), .val (.int (0 : Int32)), .val (.int v1009), .val (.int (0 : Int32))]) rfl k) ?_
            show OEnds p.tables e below G (T1007.setTop (mkF m 136 #[.val (.int p1), .val (.int p2), .val (.int p3), .val (.int v1001), .val (.ref o4), .val (.int e5), .val (.int (0 : Int32)), .val (.int v1009), .val (.int (0 : Int32))] []))
            refine OEnds.st (fun _ k => XS.aload X1007.here hx rfl (hb hby at_136) rfl rfl k) ?_
            show OEnds p.tables e below G (T1007.setTop (mkF m 138 #[.val (.int p1), .val (.int p2), .val (.int p3), .val (.int v1001), .val (.ref o4), .val (.int e5), .val (.int (0 : Int32)), .val (.int v1009), .val (.int (0 : Int32))] [(.ref o4)]))
            refine OEnds.st (fun _ k => XS.iload X1007.here hx rfl (hb hby at_138) rfl k) ?_
            show OEnds p.tables e below G (T1007.setTop (mkF m 140 #[.val (.int p1), .val (.int p2), .val (.int p3), .val (.int v1001), .val (.ref o4), .val (.int e5), .val (.int (0 : Int32)), .val (.int v1009), .val (.int (0 : Int32))] [(.int v1009), (.ref o4)]))
            refine OEnds.st (fun _ k => XS.iload X1007.here hx rfl (hb hby at_140) rfl k) ?_
            show OEnds p.tables e below G (T1007.setTop (mkF m 142 #[.val (.int p1), .val (.int p2), .val (.int p3), .val (.int v1001), .val (.ref o4), .val (.int e5), .val (.int (0 : Int32)), .val (.int v1009), .val (.int (0 : Int32))] [(.int e5), (.int v1009), (.ref o4)]))
            refine OEnds.st (fun _ k => XS.imul X1007.here hx rfl (hb hby at_142) rfl k) ?_
            show OEnds p.tables e below G (T1007.setTop (mkF m 143 #[.val (.int p1), .val (.int p2), .val (.int p3), .val (.int v1001), .val (.ref o4), .val (.int e5), .val (.int (0 : Int32)), .val (.int v1009), .val (.int (0 : Int32))] [(.int (v1009 * e5)), (.ref o4)]))
            obtain ⟨cq1014, kq1014, q1014a, q1014b, q1014c⟩ := isOf hZ e1007 f1003
            obtain ⟨_, _, ⟨T1014, L1014, k1014c, n1014c⟩, -, X1014, ⟨Lc1014, hQ1014, l1014, y1014, z1014⟩, st1014⟩ := X1007.virtualBack hx (y := (⟨"com/example/clearingd/clearingd/binary/Command", "takes", "(I)Z"⟩ : MethodName)) (z := (⟨"com/example/clearingd/clearingd/binary/Command", "takes", "(I)Z"⟩ : MethodName)) hown (mvT hZ (hw _ (List.mem_of_getElem? (i := 3) rfl))) (mvT hZ (hw _ (List.mem_of_getElem? (i := 4) rfl))) (notFace_of_selects (args := #[]) (mvT hZ (hw _ (List.mem_of_getElem? (i := 6) rfl)))) (mvT hZ (hw _ (List.mem_of_getElem? (i := 6) rfl))) (mvT hZ (hw _ (List.mem_of_getElem? (i := 5) rfl))) (by decide) (backOf (W := 0) (rm1 l Z a0 hw [] o4 (v1009 * e5) e5 h1002 n0 Z1002 f1004 (by rcases he with rfl | rfl <;> decide)) hZ (hw _ (List.mem_of_getElem? (i := 7) rfl)) (hw _ (List.mem_of_getElem? (i := 1) rfl)) (by decide) (by decide)) q1014a q1014c (g := (mkF m 143 #[.val (.int p1), .val (.int p2), .val (.int p3), .val (.int v1001), .val (.ref o4), .val (.int e5), .val (.int (0 : Int32)), .val (.int v1009), .val (.int (0 : Int32))] [(.int (v1009 * e5)), (.ref o4)])) rfl (by rw [hml]; rfl) (Steps.refl _) (argsL := [(.int (v1009 * e5))]) (rest := []) (lenOf pd_0 rfl) rfl (by show 2 * 0 + _ ≤ _; exact Nat.le_of_eq rfl) (hb hby at_143) (fun _ _ => ⟨rfl, e1007, (by decide : 0 + 0 + 0 ≤ _), (by decide : 0 + 0 + 0 ≤ _)⟩)
            dsimp only [Pt.U, Pt.locs, Pt.cells, Pt.slots] at X1014 l1014 y1014 z1014 st1014 hQ1014
            subst l1014 y1014 z1014
            obtain ⟨rfl, N1014q, e1014⟩ := hQ1014
            have N1014 := Fr.app N1007 N1014q
            refine OEnds.st (fun _ k => st1014.trans k) ?_
            show OEnds p.tables e below G (T1014.setTop (mkF m 146 #[.val (.int p1), .val (.int p2), .val (.int p3), .val (.int v1001), .val (.ref o4), .val (.int e5), .val (.int (0 : Int32)), .val (.int v1009), .val (.int (0 : Int32))] [(.int (own_takes e5 (v1009 * e5)))]))
            refine OEnds.st (fun _ k => XS.iload X1014.here hx rfl (hb hby at_146) rfl k) ?_
            show OEnds p.tables e below G (T1014.setTop (mkF m 148 #[.val (.int p1), .val (.int p2), .val (.int p3), .val (.int v1001), .val (.ref o4), .val (.int e5), .val (.int (0 : Int32)), .val (.int v1009), .val (.int (0 : Int32))] [(.int (0 : Int32)), (.int (own_takes e5 (v1009 * e5)))]))
            have hc148_1015 : (own_takes e5 (v1009 * e5)) = (0 : Int32) := by rw [own_takes_n e5 v1009 p3 he hv_v1009.symm]; simp [hc66_1005, hc76_1006, hc103_1008, hc118_1010, hc126_1013]
            refine OEnds.st (fun _ k => XS.icmpNo X1014.here hx rfl (hb hby at_148) rfl (teq hc148_1015).2 k) ?_
            show OEnds p.tables e below G (T1014.setTop (mkF m 151 #[.val (.int p1), .val (.int p2), .val (.int p3), .val (.int v1001), .val (.ref o4), .val (.int e5), .val (.int (0 : Int32)), .val (.int v1009), .val (.int (0 : Int32))] []))
            refine OEnds.st (fun _ k => XS.iconst X1014.here hx rfl (hb hby at_151) k) ?_
            show OEnds p.tables e below G (T1014.setTop (mkF m 152 #[.val (.int p1), .val (.int p2), .val (.int p3), .val (.int v1001), .val (.ref o4), .val (.int e5), .val (.int (0 : Int32)), .val (.int v1009), .val (.int (0 : Int32))] [(.int (1 : Int32))]))
            refine OEnds.st (fun _ k => XS.goto X1014.here hx rfl (pc0 := 152) (pc' := 156) rfl (hb hby at_152) (by decide) (by decide) k) ?_
            show OEnds p.tables e below G (T1014.setTop (mkF m 156 #[.val (.int p1), .val (.int p2), .val (.int p3), .val (.int v1001), .val (.ref o4), .val (.int e5), .val (.int (0 : Int32)), .val (.int v1009), .val (.int (0 : Int32))] [(.int (1 : Int32))]))
            rw [← hG]
            refine OEnds.retZ X1014 hx hlk Bd.returns rfl (hb hby at_156) (by decide) (by decide) ?_
            rw [e1014]
            exact ⟨rfl, N1014⟩
          · -- pc 126: no
            refine OEnds.st (fun _ k => XS.icmpNo X1007.here hx rfl (hb hby at_126) rfl (flt hc126_1013).2.2.1 k) ?_
            show OEnds p.tables e below G (T1007.setTop (mkF m 129 #[.val (.int p1), .val (.int p2), .val (.int p3), .val (.int v1001), .val (.ref o4), .val (.int e5), .val (.int (0 : Int32)), .val (.int v1009), .unset] []))
            refine OEnds.st (fun _ k => XS.iconst X1007.here hx rfl (hb hby at_129) k) ?_
            show OEnds p.tables e below G (T1007.setTop (mkF m 130 #[.val (.int p1), .val (.int p2), .val (.int p3), .val (.int v1001), .val (.ref o4), .val (.int e5), .val (.int (0 : Int32)), .val (.int v1009), .unset] [(.int (1 : Int32))]))
            refine OEnds.st (fun _ k => XS.goto X1007.here hx rfl (pc0 := 130) (pc' := 134) rfl (hb hby at_130) (by decide) (by decide) k) ?_
            show OEnds p.tables e below G (T1007.setTop (mkF m 134 #[.val (.int p1), .val (.int p2), .val (.int p3), .val (.int v1001), .val (.ref o4), .val (.int e5), .val (.int (0 : Int32)), .val (.int v1009), .unset] [(.int (1 : Int32))]))
            refine OEnds.st (fun _ k => XS.istore X1007.here hx rfl (hb hby at_134) rfl (l' := #[.val (.int p1), .val (.int p2), .val (.int p3), .val (.int v1001), .val (.ref o4), .val (.int e5), .val (.int (0 : Int32)), .val (.int v1009), .val (.int (1 : Int32))]) rfl k) ?_
            show OEnds p.tables e below G (T1007.setTop (mkF m 136 #[.val (.int p1), .val (.int p2), .val (.int p3), .val (.int v1001), .val (.ref o4), .val (.int e5), .val (.int (0 : Int32)), .val (.int v1009), .val (.int (1 : Int32))] []))
            refine OEnds.st (fun _ k => XS.aload X1007.here hx rfl (hb hby at_136) rfl rfl k) ?_
            show OEnds p.tables e below G (T1007.setTop (mkF m 138 #[.val (.int p1), .val (.int p2), .val (.int p3), .val (.int v1001), .val (.ref o4), .val (.int e5), .val (.int (0 : Int32)), .val (.int v1009), .val (.int (1 : Int32))] [(.ref o4)]))
            refine OEnds.st (fun _ k => XS.iload X1007.here hx rfl (hb hby at_138) rfl k) ?_
            show OEnds p.tables e below G (T1007.setTop (mkF m 140 #[.val (.int p1), .val (.int p2), .val (.int p3), .val (.int v1001), .val (.ref o4), .val (.int e5), .val (.int (0 : Int32)), .val (.int v1009), .val (.int (1 : Int32))] [(.int v1009), (.ref o4)]))
            refine OEnds.st (fun _ k => XS.iload X1007.here hx rfl (hb hby at_140) rfl k) ?_
            show OEnds p.tables e below G (T1007.setTop (mkF m 142 #[.val (.int p1), .val (.int p2), .val (.int p3), .val (.int v1001), .val (.ref o4), .val (.int e5), .val (.int (0 : Int32)), .val (.int v1009), .val (.int (1 : Int32))] [(.int e5), (.int v1009), (.ref o4)]))
            refine OEnds.st (fun _ k => XS.imul X1007.here hx rfl (hb hby at_142) rfl k) ?_
            show OEnds p.tables e below G (T1007.setTop (mkF m 143 #[.val (.int p1), .val (.int p2), .val (.int p3), .val (.int v1001), .val (.ref o4), .val (.int e5), .val (.int (0 : Int32)), .val (.int v1009), .val (.int (1 : Int32))] [(.int (v1009 * e5)), (.ref o4)]))
            obtain ⟨cq1016, kq1016, q1016a, q1016b, q1016c⟩ := isOf hZ e1007 f1003
            obtain ⟨_, _, ⟨T1016, L1016, k1016c, n1016c⟩, -, X1016, ⟨Lc1016, hQ1016, l1016, y1016, z1016⟩, st1016⟩ := X1007.virtualBack hx (y := (⟨"com/example/clearingd/clearingd/binary/Command", "takes", "(I)Z"⟩ : MethodName)) (z := (⟨"com/example/clearingd/clearingd/binary/Command", "takes", "(I)Z"⟩ : MethodName)) hown (mvT hZ (hw _ (List.mem_of_getElem? (i := 3) rfl))) (mvT hZ (hw _ (List.mem_of_getElem? (i := 4) rfl))) (notFace_of_selects (args := #[]) (mvT hZ (hw _ (List.mem_of_getElem? (i := 6) rfl)))) (mvT hZ (hw _ (List.mem_of_getElem? (i := 6) rfl))) (mvT hZ (hw _ (List.mem_of_getElem? (i := 5) rfl))) (by decide) (backOf (W := 0) (rm1 l Z a0 hw [] o4 (v1009 * e5) e5 h1002 n0 Z1002 f1004 (by rcases he with rfl | rfl <;> decide)) hZ (hw _ (List.mem_of_getElem? (i := 7) rfl)) (hw _ (List.mem_of_getElem? (i := 1) rfl)) (by decide) (by decide)) q1016a q1016c (g := (mkF m 143 #[.val (.int p1), .val (.int p2), .val (.int p3), .val (.int v1001), .val (.ref o4), .val (.int e5), .val (.int (0 : Int32)), .val (.int v1009), .val (.int (1 : Int32))] [(.int (v1009 * e5)), (.ref o4)])) rfl (by rw [hml]; rfl) (Steps.refl _) (argsL := [(.int (v1009 * e5))]) (rest := []) (lenOf pd_0 rfl) rfl (by show 2 * 0 + _ ≤ _; exact Nat.le_of_eq rfl) (hb hby at_143) (fun _ _ => ⟨rfl, e1007, (by decide : 0 + 0 + 0 ≤ _), (by decide : 0 + 0 + 0 ≤ _)⟩)
            dsimp only [Pt.U, Pt.locs, Pt.cells, Pt.slots] at X1016 l1016 y1016 z1016 st1016 hQ1016
            subst l1016 y1016 z1016
            obtain ⟨rfl, N1016q, e1016⟩ := hQ1016
            have N1016 := Fr.app N1007 N1016q
            refine OEnds.st (fun _ k => st1016.trans k) ?_
            show OEnds p.tables e below G (T1016.setTop (mkF m 146 #[.val (.int p1), .val (.int p2), .val (.int p3), .val (.int v1001), .val (.ref o4), .val (.int e5), .val (.int (0 : Int32)), .val (.int v1009), .val (.int (1 : Int32))] [(.int (own_takes e5 (v1009 * e5)))]))
            refine OEnds.st (fun _ k => XS.iload X1016.here hx rfl (hb hby at_146) rfl k) ?_
            show OEnds p.tables e below G (T1016.setTop (mkF m 148 #[.val (.int p1), .val (.int p2), .val (.int p3), .val (.int v1001), .val (.ref o4), .val (.int e5), .val (.int (0 : Int32)), .val (.int v1009), .val (.int (1 : Int32))] [(.int (1 : Int32)), (.int (own_takes e5 (v1009 * e5)))]))
            have hc148_1017 : (own_takes e5 (v1009 * e5)) = (1 : Int32) := by rw [own_takes_n e5 v1009 p3 he hv_v1009.symm]; simp [hc66_1005, hc76_1006, hc103_1008, hc118_1010, hc126_1013]
            refine OEnds.st (fun _ k => XS.icmpNo X1016.here hx rfl (hb hby at_148) rfl (teq hc148_1017).2 k) ?_
            show OEnds p.tables e below G (T1016.setTop (mkF m 151 #[.val (.int p1), .val (.int p2), .val (.int p3), .val (.int v1001), .val (.ref o4), .val (.int e5), .val (.int (0 : Int32)), .val (.int v1009), .val (.int (1 : Int32))] []))
            refine OEnds.st (fun _ k => XS.iconst X1016.here hx rfl (hb hby at_151) k) ?_
            show OEnds p.tables e below G (T1016.setTop (mkF m 152 #[.val (.int p1), .val (.int p2), .val (.int p3), .val (.int v1001), .val (.ref o4), .val (.int e5), .val (.int (0 : Int32)), .val (.int v1009), .val (.int (1 : Int32))] [(.int (1 : Int32))]))
            refine OEnds.st (fun _ k => XS.goto X1016.here hx rfl (pc0 := 152) (pc' := 156) rfl (hb hby at_152) (by decide) (by decide) k) ?_
            show OEnds p.tables e below G (T1016.setTop (mkF m 156 #[.val (.int p1), .val (.int p2), .val (.int p3), .val (.int v1001), .val (.ref o4), .val (.int e5), .val (.int (0 : Int32)), .val (.int v1009), .val (.int (1 : Int32))] [(.int (1 : Int32))]))
            rw [← hG]
            refine OEnds.retZ X1016 hx hlk Bd.returns rfl (hb hby at_156) (by decide) (by decide) ?_
            rw [e1016]
            exact ⟨rfl, N1016⟩
      · -- pc 76: no
        refine OEnds.st (fun _ k => XS.icmpNo X1002.here hx rfl (hb hby at_76) rfl (flt hc76_1006).2.2.1 k) ?_
        show OEnds p.tables e below G (T1002.setTop (mkF m 79 #[.val (.int p1), .val (.int p2), .val (.int p3), .val (.int v1001), .val (.ref o4), .val (.int e5), .unset, .unset, .unset] []))
        refine OEnds.st (fun _ k => XS.iloadN X1002.here hx rfl (hb hby at_79) rfl k) ?_
        show OEnds p.tables e below G (T1002.setTop (mkF m 80 #[.val (.int p1), .val (.int p2), .val (.int p3), .val (.int v1001), .val (.ref o4), .val (.int e5), .unset, .unset, .unset] [(.int p2)]))
        refine OEnds.st (fun _ k => XS.iload X1002.here hx rfl (hb hby at_80) rfl k) ?_
        show OEnds p.tables e below G (T1002.setTop (mkF m 82 #[.val (.int p1), .val (.int p2), .val (.int p3), .val (.int v1001), .val (.ref o4), .val (.int e5), .unset, .unset, .unset] [(.int e5), (.int p2)]))
        refine OEnds.st (fun _ k => XS.iconst X1002.here hx rfl (hb hby at_82) k) ?_
        show OEnds p.tables e below G (T1002.setTop (mkF m 83 #[.val (.int p1), .val (.int p2), .val (.int p3), .val (.int v1001), .val (.ref o4), .val (.int e5), .unset, .unset, .unset] [(.int (1 : Int32)), (.int e5), (.int p2)]))
        refine OEnds.st (fun _ k => XS.isub X1002.here hx rfl (hb hby at_83) rfl k) ?_
        show OEnds p.tables e below G (T1002.setTop (mkF m 84 #[.val (.int p1), .val (.int p2), .val (.int p3), .val (.int v1001), .val (.ref o4), .val (.int e5), .unset, .unset, .unset] [(.int (e5 - (1 : Int32))), (.int p2)]))
        refine OEnds.st (fun _ k => XS.iand X1002.here hx rfl (hb hby at_84) rfl k) ?_
        show OEnds p.tables e below G (T1002.setTop (mkF m 85 #[.val (.int p1), .val (.int p2), .val (.int p3), .val (.int v1001), .val (.ref o4), .val (.int e5), .unset, .unset, .unset] [(.int (p2 &&& (e5 - (1 : Int32))))]))
        by_cases hc85_1018 : (p2 &&& (e5 - (1 : Int32))) = (0 : Int32)
        · -- pc 85: yes
          refine OEnds.st (fun _ k => XS.ifNo X1002.here hx rfl (hb hby at_85) rfl ((if0 _ _).trans (teq hc85_1018).2) k) ?_
          show OEnds p.tables e below G (T1002.setTop (mkF m 88 #[.val (.int p1), .val (.int p2), .val (.int p3), .val (.int v1001), .val (.ref o4), .val (.int e5), .unset, .unset, .unset] []))
          refine OEnds.st (fun _ k => XS.iconst X1002.here hx rfl (hb hby at_88) k) ?_
          show OEnds p.tables e below G (T1002.setTop (mkF m 89 #[.val (.int p1), .val (.int p2), .val (.int p3), .val (.int v1001), .val (.ref o4), .val (.int e5), .unset, .unset, .unset] [(.int (1 : Int32))]))
          refine OEnds.st (fun _ k => XS.goto X1002.here hx rfl (pc0 := 89) (pc' := 93) rfl (hb hby at_89) (by decide) (by decide) k) ?_
          show OEnds p.tables e below G (T1002.setTop (mkF m 93 #[.val (.int p1), .val (.int p2), .val (.int p3), .val (.int v1001), .val (.ref o4), .val (.int e5), .unset, .unset, .unset] [(.int (1 : Int32))]))
          refine OEnds.st (fun _ k => XS.istore X1002.here hx rfl (hb hby at_93) rfl (l' := #[.val (.int p1), .val (.int p2), .val (.int p3), .val (.int v1001), .val (.ref o4), .val (.int e5), .val (.int (1 : Int32)), .unset, .unset]) rfl k) ?_
          show OEnds p.tables e below G (T1002.setTop (mkF m 95 #[.val (.int p1), .val (.int p2), .val (.int p3), .val (.int v1001), .val (.ref o4), .val (.int e5), .val (.int (1 : Int32)), .unset, .unset] []))
          refine OEnds.st (fun _ k => XS.aload X1002.here hx rfl (hb hby at_95) rfl rfl k) ?_
          show OEnds p.tables e below G (T1002.setTop (mkF m 97 #[.val (.int p1), .val (.int p2), .val (.int p3), .val (.int v1001), .val (.ref o4), .val (.int e5), .val (.int (1 : Int32)), .unset, .unset] [(.ref o4)]))
          refine OEnds.st (fun _ k => XS.iloadN X1002.here hx rfl (hb hby at_97) rfl k) ?_
          show OEnds p.tables e below G (T1002.setTop (mkF m 98 #[.val (.int p1), .val (.int p2), .val (.int p3), .val (.int v1001), .val (.ref o4), .val (.int e5), .val (.int (1 : Int32)), .unset, .unset] [(.int p2), (.ref o4)]))
          obtain ⟨cq1019, kq1019, q1019a, q1019b, q1019c⟩ := isOf hZ e1002 f1003
          obtain ⟨_, _, ⟨T1019, L1019, k1019c, n1019c⟩, -, X1019, ⟨Lc1019, hQ1019, l1019, y1019, z1019⟩, st1019⟩ := X1002.virtualBack hx (y := (⟨"com/example/clearingd/clearingd/binary/Command", "takes", "(I)Z"⟩ : MethodName)) (z := (⟨"com/example/clearingd/clearingd/binary/Command", "takes", "(I)Z"⟩ : MethodName)) hown (mvT hZ (hw _ (List.mem_of_getElem? (i := 3) rfl))) (mvT hZ (hw _ (List.mem_of_getElem? (i := 4) rfl))) (notFace_of_selects (args := #[]) (mvT hZ (hw _ (List.mem_of_getElem? (i := 6) rfl)))) (mvT hZ (hw _ (List.mem_of_getElem? (i := 6) rfl))) (mvT hZ (hw _ (List.mem_of_getElem? (i := 5) rfl))) (by decide) (backOf (W := 0) (rm1 l Z a0 hw [] o4 p2 e5 h1002 n0 Z1002 f1004 (by rcases he with rfl | rfl <;> decide)) hZ (hw _ (List.mem_of_getElem? (i := 7) rfl)) (hw _ (List.mem_of_getElem? (i := 1) rfl)) (by decide) (by decide)) q1019a q1019c (g := (mkF m 98 #[.val (.int p1), .val (.int p2), .val (.int p3), .val (.int v1001), .val (.ref o4), .val (.int e5), .val (.int (1 : Int32)), .unset, .unset] [(.int p2), (.ref o4)])) rfl (by rw [hml]; rfl) (Steps.refl _) (argsL := [(.int p2)]) (rest := []) (lenOf pd_0 rfl) rfl (by show 2 * 0 + _ ≤ _; exact Nat.le_of_eq rfl) (hb hby at_98) (fun _ _ => ⟨rfl, e1002, (by decide : 0 + 0 ≤ _), (by decide : 0 + 0 ≤ _)⟩)
          dsimp only [Pt.U, Pt.locs, Pt.cells, Pt.slots] at X1019 l1019 y1019 z1019 st1019 hQ1019
          subst l1019 y1019 z1019
          obtain ⟨rfl, N1019q, e1019⟩ := hQ1019
          have N1019 := Fr.app N1002 N1019q
          refine OEnds.st (fun _ k => st1019.trans k) ?_
          show OEnds p.tables e below G (T1019.setTop (mkF m 101 #[.val (.int p1), .val (.int p2), .val (.int p3), .val (.int v1001), .val (.ref o4), .val (.int e5), .val (.int (1 : Int32)), .unset, .unset] [(.int (own_takes e5 p2))]))
          refine OEnds.st (fun _ k => XS.iload X1019.here hx rfl (hb hby at_101) rfl k) ?_
          show OEnds p.tables e below G (T1019.setTop (mkF m 103 #[.val (.int p1), .val (.int p2), .val (.int p3), .val (.int v1001), .val (.ref o4), .val (.int e5), .val (.int (1 : Int32)), .unset, .unset] [(.int (1 : Int32)), (.int (own_takes e5 p2))]))
          have hc103_1020 : (own_takes e5 p2) = (1 : Int32) := by rw [own_takes_eq e5 p2 he]; simp [hc66_1005, hc76_1006, hc85_1018]
          refine OEnds.st (fun _ k => XS.icmpYes X1019.here hx rfl (pc0 := 103) (pc' := 108) rfl (hb hby at_103) rfl (teq hc103_1020).1 (by decide) (by decide) k) ?_
          show OEnds p.tables e below G (T1019.setTop (mkF m 108 #[.val (.int p1), .val (.int p2), .val (.int p3), .val (.int v1001), .val (.ref o4), .val (.int e5), .val (.int (1 : Int32)), .unset, .unset] []))
          refine OEnds.st (fun _ k => XS.iloadN X1019.here hx rfl (hb hby at_108) rfl k) ?_
          show OEnds p.tables e below G (T1019.setTop (mkF m 109 #[.val (.int p1), .val (.int p2), .val (.int p3), .val (.int v1001), .val (.ref o4), .val (.int e5), .val (.int (1 : Int32)), .unset, .unset] [(.int p3)]))
          refine OEnds.st (fun _ k => XS.sipush X1019.here hx rfl (hb hby at_109) k) ?_
          show OEnds p.tables e below G (T1019.setTop (mkF m 112 #[.val (.int p1), .val (.int p2), .val (.int p3), .val (.int v1001), .val (.ref o4), .val (.int e5), .val (.int (1 : Int32)), .unset, .unset] [(.int (16383 : Int32)), (.int p3)]))
          refine OEnds.st (fun _ k => XS.iand X1019.here hx rfl (hb hby at_112) rfl k) ?_
          show OEnds p.tables e below G (T1019.setTop (mkF m 113 #[.val (.int p1), .val (.int p2), .val (.int p3), .val (.int v1001), .val (.ref o4), .val (.int e5), .val (.int (1 : Int32)), .unset, .unset] [(.int (p3 &&& (16383 : Int32)))]))
          refine OEnds.st (fun _ k => XS.istore X1019.here hx rfl (hb hby at_113) rfl (l' := #[.val (.int p1), .val (.int p2), .val (.int p3), .val (.int v1001), .val (.ref o4), .val (.int e5), .val (.int (1 : Int32)), .val (.int (p3 &&& (16383 : Int32))), .unset]) rfl k) ?_
          show OEnds p.tables e below G (T1019.setTop (mkF m 115 #[.val (.int p1), .val (.int p2), .val (.int p3), .val (.int v1001), .val (.ref o4), .val (.int e5), .val (.int (1 : Int32)), .val (.int (p3 &&& (16383 : Int32))), .unset] []))
          generalize hv_v1021 : (p3 &&& (16383 : Int32)) = v1021
          show OEnds p.tables e below G (T1019.setTop (mkF m 115 #[.val (.int p1), .val (.int p2), .val (.int p3), .val (.int v1001), .val (.ref o4), .val (.int e5), .val (.int (1 : Int32)), .val (.int v1021), .unset] []))
          refine OEnds.st (fun _ k => XS.iload X1019.here hx rfl (hb hby at_115) rfl k) ?_
          show OEnds p.tables e below G (T1019.setTop (mkF m 117 #[.val (.int p1), .val (.int p2), .val (.int p3), .val (.int v1001), .val (.ref o4), .val (.int e5), .val (.int (1 : Int32)), .val (.int v1021), .unset] [(.int v1021)]))
          refine OEnds.st (fun _ k => XS.iconst X1019.here hx rfl (hb hby at_117) k) ?_
          show OEnds p.tables e below G (T1019.setTop (mkF m 118 #[.val (.int p1), .val (.int p2), .val (.int p3), .val (.int v1001), .val (.ref o4), .val (.int e5), .val (.int (1 : Int32)), .val (.int v1021), .unset] [(.int (1 : Int32)), (.int v1021)]))
          by_cases hc118_1022 : v1021 < (1 : Int32)
          · -- pc 118: yes
            refine OEnds.st (fun _ k => XS.icmpYes X1019.here hx rfl (pc0 := 118) (pc' := 133) rfl (hb hby at_118) rfl (tlt hc118_1022).1 (by decide) (by decide) k) ?_
            show OEnds p.tables e below G (T1019.setTop (mkF m 133 #[.val (.int p1), .val (.int p2), .val (.int p3), .val (.int v1001), .val (.ref o4), .val (.int e5), .val (.int (1 : Int32)), .val (.int v1021), .unset] []))
            refine OEnds.st (fun _ k => XS.iconst X1019.here hx rfl (hb hby at_133) k) ?_
            show OEnds p.tables e below G (T1019.setTop (mkF m 134 #[.val (.int p1), .val (.int p2), .val (.int p3), .val (.int v1001), .val (.ref o4), .val (.int e5), .val (.int (1 : Int32)), .val (.int v1021), .unset] [(.int (0 : Int32))]))
            refine OEnds.st (fun _ k => XS.istore X1019.here hx rfl (hb hby at_134) rfl (l' := #[.val (.int p1), .val (.int p2), .val (.int p3), .val (.int v1001), .val (.ref o4), .val (.int e5), .val (.int (1 : Int32)), .val (.int v1021), .val (.int (0 : Int32))]) rfl k) ?_
            show OEnds p.tables e below G (T1019.setTop (mkF m 136 #[.val (.int p1), .val (.int p2), .val (.int p3), .val (.int v1001), .val (.ref o4), .val (.int e5), .val (.int (1 : Int32)), .val (.int v1021), .val (.int (0 : Int32))] []))
            refine OEnds.st (fun _ k => XS.aload X1019.here hx rfl (hb hby at_136) rfl rfl k) ?_
            show OEnds p.tables e below G (T1019.setTop (mkF m 138 #[.val (.int p1), .val (.int p2), .val (.int p3), .val (.int v1001), .val (.ref o4), .val (.int e5), .val (.int (1 : Int32)), .val (.int v1021), .val (.int (0 : Int32))] [(.ref o4)]))
            refine OEnds.st (fun _ k => XS.iload X1019.here hx rfl (hb hby at_138) rfl k) ?_
            show OEnds p.tables e below G (T1019.setTop (mkF m 140 #[.val (.int p1), .val (.int p2), .val (.int p3), .val (.int v1001), .val (.ref o4), .val (.int e5), .val (.int (1 : Int32)), .val (.int v1021), .val (.int (0 : Int32))] [(.int v1021), (.ref o4)]))
            refine OEnds.st (fun _ k => XS.iload X1019.here hx rfl (hb hby at_140) rfl k) ?_
            show OEnds p.tables e below G (T1019.setTop (mkF m 142 #[.val (.int p1), .val (.int p2), .val (.int p3), .val (.int v1001), .val (.ref o4), .val (.int e5), .val (.int (1 : Int32)), .val (.int v1021), .val (.int (0 : Int32))] [(.int e5), (.int v1021), (.ref o4)]))
            refine OEnds.st (fun _ k => XS.imul X1019.here hx rfl (hb hby at_142) rfl k) ?_
            show OEnds p.tables e below G (T1019.setTop (mkF m 143 #[.val (.int p1), .val (.int p2), .val (.int p3), .val (.int v1001), .val (.ref o4), .val (.int e5), .val (.int (1 : Int32)), .val (.int v1021), .val (.int (0 : Int32))] [(.int (v1021 * e5)), (.ref o4)]))
            obtain ⟨cq1023, kq1023, q1023a, q1023b, q1023c⟩ := isOf hZ e1019 f1003
            obtain ⟨_, _, ⟨T1023, L1023, k1023c, n1023c⟩, -, X1023, ⟨Lc1023, hQ1023, l1023, y1023, z1023⟩, st1023⟩ := X1019.virtualBack hx (y := (⟨"com/example/clearingd/clearingd/binary/Command", "takes", "(I)Z"⟩ : MethodName)) (z := (⟨"com/example/clearingd/clearingd/binary/Command", "takes", "(I)Z"⟩ : MethodName)) hown (mvT hZ (hw _ (List.mem_of_getElem? (i := 3) rfl))) (mvT hZ (hw _ (List.mem_of_getElem? (i := 4) rfl))) (notFace_of_selects (args := #[]) (mvT hZ (hw _ (List.mem_of_getElem? (i := 6) rfl)))) (mvT hZ (hw _ (List.mem_of_getElem? (i := 6) rfl))) (mvT hZ (hw _ (List.mem_of_getElem? (i := 5) rfl))) (by decide) (backOf (W := 0) (rm1 l Z a0 hw [] o4 (v1021 * e5) e5 h1002 n0 Z1002 f1004 (by rcases he with rfl | rfl <;> decide)) hZ (hw _ (List.mem_of_getElem? (i := 7) rfl)) (hw _ (List.mem_of_getElem? (i := 1) rfl)) (by decide) (by decide)) q1023a q1023c (g := (mkF m 143 #[.val (.int p1), .val (.int p2), .val (.int p3), .val (.int v1001), .val (.ref o4), .val (.int e5), .val (.int (1 : Int32)), .val (.int v1021), .val (.int (0 : Int32))] [(.int (v1021 * e5)), (.ref o4)])) rfl (by rw [hml]; rfl) (Steps.refl _) (argsL := [(.int (v1021 * e5))]) (rest := []) (lenOf pd_0 rfl) rfl (by show 2 * 0 + _ ≤ _; exact Nat.le_of_eq rfl) (hb hby at_143) (fun _ _ => ⟨rfl, e1019, (by decide : 0 + 0 + 0 ≤ _), (by decide : 0 + 0 + 0 ≤ _)⟩)
            dsimp only [Pt.U, Pt.locs, Pt.cells, Pt.slots] at X1023 l1023 y1023 z1023 st1023 hQ1023
            subst l1023 y1023 z1023
            obtain ⟨rfl, N1023q, e1023⟩ := hQ1023
            have N1023 := Fr.app N1019 N1023q
            refine OEnds.st (fun _ k => st1023.trans k) ?_
            show OEnds p.tables e below G (T1023.setTop (mkF m 146 #[.val (.int p1), .val (.int p2), .val (.int p3), .val (.int v1001), .val (.ref o4), .val (.int e5), .val (.int (1 : Int32)), .val (.int v1021), .val (.int (0 : Int32))] [(.int (own_takes e5 (v1021 * e5)))]))
            refine OEnds.st (fun _ k => XS.iload X1023.here hx rfl (hb hby at_146) rfl k) ?_
            show OEnds p.tables e below G (T1023.setTop (mkF m 148 #[.val (.int p1), .val (.int p2), .val (.int p3), .val (.int v1001), .val (.ref o4), .val (.int e5), .val (.int (1 : Int32)), .val (.int v1021), .val (.int (0 : Int32))] [(.int (0 : Int32)), (.int (own_takes e5 (v1021 * e5)))]))
            have hc148_1024 : (own_takes e5 (v1021 * e5)) = (0 : Int32) := by rw [own_takes_n e5 v1021 p3 he hv_v1021.symm]; simp [hc66_1005, hc76_1006, hc85_1018, hc103_1020, hc118_1022]
            refine OEnds.st (fun _ k => XS.icmpNo X1023.here hx rfl (hb hby at_148) rfl (teq hc148_1024).2 k) ?_
            show OEnds p.tables e below G (T1023.setTop (mkF m 151 #[.val (.int p1), .val (.int p2), .val (.int p3), .val (.int v1001), .val (.ref o4), .val (.int e5), .val (.int (1 : Int32)), .val (.int v1021), .val (.int (0 : Int32))] []))
            refine OEnds.st (fun _ k => XS.iconst X1023.here hx rfl (hb hby at_151) k) ?_
            show OEnds p.tables e below G (T1023.setTop (mkF m 152 #[.val (.int p1), .val (.int p2), .val (.int p3), .val (.int v1001), .val (.ref o4), .val (.int e5), .val (.int (1 : Int32)), .val (.int v1021), .val (.int (0 : Int32))] [(.int (1 : Int32))]))
            refine OEnds.st (fun _ k => XS.goto X1023.here hx rfl (pc0 := 152) (pc' := 156) rfl (hb hby at_152) (by decide) (by decide) k) ?_
            show OEnds p.tables e below G (T1023.setTop (mkF m 156 #[.val (.int p1), .val (.int p2), .val (.int p3), .val (.int v1001), .val (.ref o4), .val (.int e5), .val (.int (1 : Int32)), .val (.int v1021), .val (.int (0 : Int32))] [(.int (1 : Int32))]))
            rw [← hG]
            refine OEnds.retZ X1023 hx hlk Bd.returns rfl (hb hby at_156) (by decide) (by decide) ?_
            rw [e1023]
            exact ⟨rfl, N1023⟩
          · -- pc 118: no
            refine OEnds.st (fun _ k => XS.icmpNo X1019.here hx rfl (hb hby at_118) rfl (flt hc118_1022).1 k) ?_
            show OEnds p.tables e below G (T1019.setTop (mkF m 121 #[.val (.int p1), .val (.int p2), .val (.int p3), .val (.int v1001), .val (.ref o4), .val (.int e5), .val (.int (1 : Int32)), .val (.int v1021), .unset] []))
            refine OEnds.st (fun _ k => XS.iload X1019.here hx rfl (hb hby at_121) rfl k) ?_
            show OEnds p.tables e below G (T1019.setTop (mkF m 123 #[.val (.int p1), .val (.int p2), .val (.int p3), .val (.int v1001), .val (.ref o4), .val (.int e5), .val (.int (1 : Int32)), .val (.int v1021), .unset] [(.int v1021)]))
            refine OEnds.st (fun _ k => XS.sipush X1019.here hx rfl (hb hby at_123) k) ?_
            show OEnds p.tables e below G (T1019.setTop (mkF m 126 #[.val (.int p1), .val (.int p2), .val (.int p3), .val (.int v1001), .val (.ref o4), .val (.int e5), .val (.int (1 : Int32)), .val (.int v1021), .unset] [(.int (10000 : Int32)), (.int v1021)]))
            by_cases hc126_1025 : (10000 : Int32) < v1021
            · -- pc 126: yes
              refine OEnds.st (fun _ k => XS.icmpYes X1019.here hx rfl (pc0 := 126) (pc' := 133) rfl (hb hby at_126) rfl (tlt hc126_1025).2.2.1 (by decide) (by decide) k) ?_
              show OEnds p.tables e below G (T1019.setTop (mkF m 133 #[.val (.int p1), .val (.int p2), .val (.int p3), .val (.int v1001), .val (.ref o4), .val (.int e5), .val (.int (1 : Int32)), .val (.int v1021), .unset] []))
              refine OEnds.st (fun _ k => XS.iconst X1019.here hx rfl (hb hby at_133) k) ?_
              show OEnds p.tables e below G (T1019.setTop (mkF m 134 #[.val (.int p1), .val (.int p2), .val (.int p3), .val (.int v1001), .val (.ref o4), .val (.int e5), .val (.int (1 : Int32)), .val (.int v1021), .unset] [(.int (0 : Int32))]))
              refine OEnds.st (fun _ k => XS.istore X1019.here hx rfl (hb hby at_134) rfl (l' := #[.val (.int p1), .val (.int p2), .val (.int p3), .val (.int v1001), .val (.ref o4), .val (.int e5), .val (.int (1 : Int32)), .val (.int v1021), .val (.int (0 : Int32))]) rfl k) ?_
              show OEnds p.tables e below G (T1019.setTop (mkF m 136 #[.val (.int p1), .val (.int p2), .val (.int p3), .val (.int v1001), .val (.ref o4), .val (.int e5), .val (.int (1 : Int32)), .val (.int v1021), .val (.int (0 : Int32))] []))
              refine OEnds.st (fun _ k => XS.aload X1019.here hx rfl (hb hby at_136) rfl rfl k) ?_
              show OEnds p.tables e below G (T1019.setTop (mkF m 138 #[.val (.int p1), .val (.int p2), .val (.int p3), .val (.int v1001), .val (.ref o4), .val (.int e5), .val (.int (1 : Int32)), .val (.int v1021), .val (.int (0 : Int32))] [(.ref o4)]))
              refine OEnds.st (fun _ k => XS.iload X1019.here hx rfl (hb hby at_138) rfl k) ?_
              show OEnds p.tables e below G (T1019.setTop (mkF m 140 #[.val (.int p1), .val (.int p2), .val (.int p3), .val (.int v1001), .val (.ref o4), .val (.int e5), .val (.int (1 : Int32)), .val (.int v1021), .val (.int (0 : Int32))] [(.int v1021), (.ref o4)]))
              refine OEnds.st (fun _ k => XS.iload X1019.here hx rfl (hb hby at_140) rfl k) ?_
              show OEnds p.tables e below G (T1019.setTop (mkF m 142 #[.val (.int p1), .val (.int p2), .val (.int p3), .val (.int v1001), .val (.ref o4), .val (.int e5), .val (.int (1 : Int32)), .val (.int v1021), .val (.int (0 : Int32))] [(.int e5), (.int v1021), (.ref o4)]))
              refine OEnds.st (fun _ k => XS.imul X1019.here hx rfl (hb hby at_142) rfl k) ?_
              show OEnds p.tables e below G (T1019.setTop (mkF m 143 #[.val (.int p1), .val (.int p2), .val (.int p3), .val (.int v1001), .val (.ref o4), .val (.int e5), .val (.int (1 : Int32)), .val (.int v1021), .val (.int (0 : Int32))] [(.int (v1021 * e5)), (.ref o4)]))
              obtain ⟨cq1026, kq1026, q1026a, q1026b, q1026c⟩ := isOf hZ e1019 f1003
              obtain ⟨_, _, ⟨T1026, L1026, k1026c, n1026c⟩, -, X1026, ⟨Lc1026, hQ1026, l1026, y1026, z1026⟩, st1026⟩ := X1019.virtualBack hx (y := (⟨"com/example/clearingd/clearingd/binary/Command", "takes", "(I)Z"⟩ : MethodName)) (z := (⟨"com/example/clearingd/clearingd/binary/Command", "takes", "(I)Z"⟩ : MethodName)) hown (mvT hZ (hw _ (List.mem_of_getElem? (i := 3) rfl))) (mvT hZ (hw _ (List.mem_of_getElem? (i := 4) rfl))) (notFace_of_selects (args := #[]) (mvT hZ (hw _ (List.mem_of_getElem? (i := 6) rfl)))) (mvT hZ (hw _ (List.mem_of_getElem? (i := 6) rfl))) (mvT hZ (hw _ (List.mem_of_getElem? (i := 5) rfl))) (by decide) (backOf (W := 0) (rm1 l Z a0 hw [] o4 (v1021 * e5) e5 h1002 n0 Z1002 f1004 (by rcases he with rfl | rfl <;> decide)) hZ (hw _ (List.mem_of_getElem? (i := 7) rfl)) (hw _ (List.mem_of_getElem? (i := 1) rfl)) (by decide) (by decide)) q1026a q1026c (g := (mkF m 143 #[.val (.int p1), .val (.int p2), .val (.int p3), .val (.int v1001), .val (.ref o4), .val (.int e5), .val (.int (1 : Int32)), .val (.int v1021), .val (.int (0 : Int32))] [(.int (v1021 * e5)), (.ref o4)])) rfl (by rw [hml]; rfl) (Steps.refl _) (argsL := [(.int (v1021 * e5))]) (rest := []) (lenOf pd_0 rfl) rfl (by show 2 * 0 + _ ≤ _; exact Nat.le_of_eq rfl) (hb hby at_143) (fun _ _ => ⟨rfl, e1019, (by decide : 0 + 0 + 0 ≤ _), (by decide : 0 + 0 + 0 ≤ _)⟩)
              dsimp only [Pt.U, Pt.locs, Pt.cells, Pt.slots] at X1026 l1026 y1026 z1026 st1026 hQ1026
              subst l1026 y1026 z1026
              obtain ⟨rfl, N1026q, e1026⟩ := hQ1026
              have N1026 := Fr.app N1019 N1026q
              refine OEnds.st (fun _ k => st1026.trans k) ?_
              show OEnds p.tables e below G (T1026.setTop (mkF m 146 #[.val (.int p1), .val (.int p2), .val (.int p3), .val (.int v1001), .val (.ref o4), .val (.int e5), .val (.int (1 : Int32)), .val (.int v1021), .val (.int (0 : Int32))] [(.int (own_takes e5 (v1021 * e5)))]))
              refine OEnds.st (fun _ k => XS.iload X1026.here hx rfl (hb hby at_146) rfl k) ?_
              show OEnds p.tables e below G (T1026.setTop (mkF m 148 #[.val (.int p1), .val (.int p2), .val (.int p3), .val (.int v1001), .val (.ref o4), .val (.int e5), .val (.int (1 : Int32)), .val (.int v1021), .val (.int (0 : Int32))] [(.int (0 : Int32)), (.int (own_takes e5 (v1021 * e5)))]))
              have hc148_1027 : (own_takes e5 (v1021 * e5)) = (0 : Int32) := by rw [own_takes_n e5 v1021 p3 he hv_v1021.symm]; simp [hc66_1005, hc76_1006, hc85_1018, hc103_1020, hc118_1022, hc126_1025]
              refine OEnds.st (fun _ k => XS.icmpNo X1026.here hx rfl (hb hby at_148) rfl (teq hc148_1027).2 k) ?_
              show OEnds p.tables e below G (T1026.setTop (mkF m 151 #[.val (.int p1), .val (.int p2), .val (.int p3), .val (.int v1001), .val (.ref o4), .val (.int e5), .val (.int (1 : Int32)), .val (.int v1021), .val (.int (0 : Int32))] []))
              refine OEnds.st (fun _ k => XS.iconst X1026.here hx rfl (hb hby at_151) k) ?_
              show OEnds p.tables e below G (T1026.setTop (mkF m 152 #[.val (.int p1), .val (.int p2), .val (.int p3), .val (.int v1001), .val (.ref o4), .val (.int e5), .val (.int (1 : Int32)), .val (.int v1021), .val (.int (0 : Int32))] [(.int (1 : Int32))]))
              refine OEnds.st (fun _ k => XS.goto X1026.here hx rfl (pc0 := 152) (pc' := 156) rfl (hb hby at_152) (by decide) (by decide) k) ?_
              show OEnds p.tables e below G (T1026.setTop (mkF m 156 #[.val (.int p1), .val (.int p2), .val (.int p3), .val (.int v1001), .val (.ref o4), .val (.int e5), .val (.int (1 : Int32)), .val (.int v1021), .val (.int (0 : Int32))] [(.int (1 : Int32))]))
              rw [← hG]
              refine OEnds.retZ X1026 hx hlk Bd.returns rfl (hb hby at_156) (by decide) (by decide) ?_
              rw [e1026]
              exact ⟨rfl, N1026⟩
            · -- pc 126: no
              refine OEnds.st (fun _ k => XS.icmpNo X1019.here hx rfl (hb hby at_126) rfl (flt hc126_1025).2.2.1 k) ?_
              show OEnds p.tables e below G (T1019.setTop (mkF m 129 #[.val (.int p1), .val (.int p2), .val (.int p3), .val (.int v1001), .val (.ref o4), .val (.int e5), .val (.int (1 : Int32)), .val (.int v1021), .unset] []))
              refine OEnds.st (fun _ k => XS.iconst X1019.here hx rfl (hb hby at_129) k) ?_
              show OEnds p.tables e below G (T1019.setTop (mkF m 130 #[.val (.int p1), .val (.int p2), .val (.int p3), .val (.int v1001), .val (.ref o4), .val (.int e5), .val (.int (1 : Int32)), .val (.int v1021), .unset] [(.int (1 : Int32))]))
              refine OEnds.st (fun _ k => XS.goto X1019.here hx rfl (pc0 := 130) (pc' := 134) rfl (hb hby at_130) (by decide) (by decide) k) ?_
              show OEnds p.tables e below G (T1019.setTop (mkF m 134 #[.val (.int p1), .val (.int p2), .val (.int p3), .val (.int v1001), .val (.ref o4), .val (.int e5), .val (.int (1 : Int32)), .val (.int v1021), .unset] [(.int (1 : Int32))]))
              refine OEnds.st (fun _ k => XS.istore X1019.here hx rfl (hb hby at_134) rfl (l' := #[.val (.int p1), .val (.int p2), .val (.int p3), .val (.int v1001), .val (.ref o4), .val (.int e5), .val (.int (1 : Int32)), .val (.int v1021), .val (.int (1 : Int32))]) rfl k) ?_
              show OEnds p.tables e below G (T1019.setTop (mkF m 136 #[.val (.int p1), .val (.int p2), .val (.int p3), .val (.int v1001), .val (.ref o4), .val (.int e5), .val (.int (1 : Int32)), .val (.int v1021), .val (.int (1 : Int32))] []))
              refine OEnds.st (fun _ k => XS.aload X1019.here hx rfl (hb hby at_136) rfl rfl k) ?_
              show OEnds p.tables e below G (T1019.setTop (mkF m 138 #[.val (.int p1), .val (.int p2), .val (.int p3), .val (.int v1001), .val (.ref o4), .val (.int e5), .val (.int (1 : Int32)), .val (.int v1021), .val (.int (1 : Int32))] [(.ref o4)]))
              refine OEnds.st (fun _ k => XS.iload X1019.here hx rfl (hb hby at_138) rfl k) ?_
              show OEnds p.tables e below G (T1019.setTop (mkF m 140 #[.val (.int p1), .val (.int p2), .val (.int p3), .val (.int v1001), .val (.ref o4), .val (.int e5), .val (.int (1 : Int32)), .val (.int v1021), .val (.int (1 : Int32))] [(.int v1021), (.ref o4)]))
              refine OEnds.st (fun _ k => XS.iload X1019.here hx rfl (hb hby at_140) rfl k) ?_
              show OEnds p.tables e below G (T1019.setTop (mkF m 142 #[.val (.int p1), .val (.int p2), .val (.int p3), .val (.int v1001), .val (.ref o4), .val (.int e5), .val (.int (1 : Int32)), .val (.int v1021), .val (.int (1 : Int32))] [(.int e5), (.int v1021), (.ref o4)]))
              refine OEnds.st (fun _ k => XS.imul X1019.here hx rfl (hb hby at_142) rfl k) ?_
              show OEnds p.tables e below G (T1019.setTop (mkF m 143 #[.val (.int p1), .val (.int p2), .val (.int p3), .val (.int v1001), .val (.ref o4), .val (.int e5), .val (.int (1 : Int32)), .val (.int v1021), .val (.int (1 : Int32))] [(.int (v1021 * e5)), (.ref o4)]))
              obtain ⟨cq1028, kq1028, q1028a, q1028b, q1028c⟩ := isOf hZ e1019 f1003
              obtain ⟨_, _, ⟨T1028, L1028, k1028c, n1028c⟩, -, X1028, ⟨Lc1028, hQ1028, l1028, y1028, z1028⟩, st1028⟩ := X1019.virtualBack hx (y := (⟨"com/example/clearingd/clearingd/binary/Command", "takes", "(I)Z"⟩ : MethodName)) (z := (⟨"com/example/clearingd/clearingd/binary/Command", "takes", "(I)Z"⟩ : MethodName)) hown (mvT hZ (hw _ (List.mem_of_getElem? (i := 3) rfl))) (mvT hZ (hw _ (List.mem_of_getElem? (i := 4) rfl))) (notFace_of_selects (args := #[]) (mvT hZ (hw _ (List.mem_of_getElem? (i := 6) rfl)))) (mvT hZ (hw _ (List.mem_of_getElem? (i := 6) rfl))) (mvT hZ (hw _ (List.mem_of_getElem? (i := 5) rfl))) (by decide) (backOf (W := 0) (rm1 l Z a0 hw [] o4 (v1021 * e5) e5 h1002 n0 Z1002 f1004 (by rcases he with rfl | rfl <;> decide)) hZ (hw _ (List.mem_of_getElem? (i := 7) rfl)) (hw _ (List.mem_of_getElem? (i := 1) rfl)) (by decide) (by decide)) q1028a q1028c (g := (mkF m 143 #[.val (.int p1), .val (.int p2), .val (.int p3), .val (.int v1001), .val (.ref o4), .val (.int e5), .val (.int (1 : Int32)), .val (.int v1021), .val (.int (1 : Int32))] [(.int (v1021 * e5)), (.ref o4)])) rfl (by rw [hml]; rfl) (Steps.refl _) (argsL := [(.int (v1021 * e5))]) (rest := []) (lenOf pd_0 rfl) rfl (by show 2 * 0 + _ ≤ _; exact Nat.le_of_eq rfl) (hb hby at_143) (fun _ _ => ⟨rfl, e1019, (by decide : 0 + 0 + 0 ≤ _), (by decide : 0 + 0 + 0 ≤ _)⟩)
              dsimp only [Pt.U, Pt.locs, Pt.cells, Pt.slots] at X1028 l1028 y1028 z1028 st1028 hQ1028
              subst l1028 y1028 z1028
              obtain ⟨rfl, N1028q, e1028⟩ := hQ1028
              have N1028 := Fr.app N1019 N1028q
              refine OEnds.st (fun _ k => st1028.trans k) ?_
              show OEnds p.tables e below G (T1028.setTop (mkF m 146 #[.val (.int p1), .val (.int p2), .val (.int p3), .val (.int v1001), .val (.ref o4), .val (.int e5), .val (.int (1 : Int32)), .val (.int v1021), .val (.int (1 : Int32))] [(.int (own_takes e5 (v1021 * e5)))]))
              refine OEnds.st (fun _ k => XS.iload X1028.here hx rfl (hb hby at_146) rfl k) ?_
              show OEnds p.tables e below G (T1028.setTop (mkF m 148 #[.val (.int p1), .val (.int p2), .val (.int p3), .val (.int v1001), .val (.ref o4), .val (.int e5), .val (.int (1 : Int32)), .val (.int v1021), .val (.int (1 : Int32))] [(.int (1 : Int32)), (.int (own_takes e5 (v1021 * e5)))]))
              have hc148_1029 : (own_takes e5 (v1021 * e5)) = (1 : Int32) := by rw [own_takes_n e5 v1021 p3 he hv_v1021.symm]; simp [hc66_1005, hc76_1006, hc85_1018, hc103_1020, hc118_1022, hc126_1025]
              refine OEnds.st (fun _ k => XS.icmpNo X1028.here hx rfl (hb hby at_148) rfl (teq hc148_1029).2 k) ?_
              show OEnds p.tables e below G (T1028.setTop (mkF m 151 #[.val (.int p1), .val (.int p2), .val (.int p3), .val (.int v1001), .val (.ref o4), .val (.int e5), .val (.int (1 : Int32)), .val (.int v1021), .val (.int (1 : Int32))] []))
              refine OEnds.st (fun _ k => XS.iconst X1028.here hx rfl (hb hby at_151) k) ?_
              show OEnds p.tables e below G (T1028.setTop (mkF m 152 #[.val (.int p1), .val (.int p2), .val (.int p3), .val (.int v1001), .val (.ref o4), .val (.int e5), .val (.int (1 : Int32)), .val (.int v1021), .val (.int (1 : Int32))] [(.int (1 : Int32))]))
              refine OEnds.st (fun _ k => XS.goto X1028.here hx rfl (pc0 := 152) (pc' := 156) rfl (hb hby at_152) (by decide) (by decide) k) ?_
              show OEnds p.tables e below G (T1028.setTop (mkF m 156 #[.val (.int p1), .val (.int p2), .val (.int p3), .val (.int v1001), .val (.ref o4), .val (.int e5), .val (.int (1 : Int32)), .val (.int v1021), .val (.int (1 : Int32))] [(.int (1 : Int32))]))
              rw [← hG]
              refine OEnds.retZ X1028 hx hlk Bd.returns rfl (hb hby at_156) (by decide) (by decide) ?_
              rw [e1028]
              exact ⟨rfl, N1028⟩
        · -- pc 85: no
          refine OEnds.st (fun _ k => XS.ifYes X1002.here hx rfl (pc0 := 85) (pc' := 92) rfl (hb hby at_85) rfl ((if0 _ _).trans (feq hc85_1018).2) (by decide) (by decide) k) ?_
          show OEnds p.tables e below G (T1002.setTop (mkF m 92 #[.val (.int p1), .val (.int p2), .val (.int p3), .val (.int v1001), .val (.ref o4), .val (.int e5), .unset, .unset, .unset] []))
          refine OEnds.st (fun _ k => XS.iconst X1002.here hx rfl (hb hby at_92) k) ?_
          show OEnds p.tables e below G (T1002.setTop (mkF m 93 #[.val (.int p1), .val (.int p2), .val (.int p3), .val (.int v1001), .val (.ref o4), .val (.int e5), .unset, .unset, .unset] [(.int (0 : Int32))]))
          refine OEnds.st (fun _ k => XS.istore X1002.here hx rfl (hb hby at_93) rfl (l' := #[.val (.int p1), .val (.int p2), .val (.int p3), .val (.int v1001), .val (.ref o4), .val (.int e5), .val (.int (0 : Int32)), .unset, .unset]) rfl k) ?_
          show OEnds p.tables e below G (T1002.setTop (mkF m 95 #[.val (.int p1), .val (.int p2), .val (.int p3), .val (.int v1001), .val (.ref o4), .val (.int e5), .val (.int (0 : Int32)), .unset, .unset] []))
          refine OEnds.st (fun _ k => XS.aload X1002.here hx rfl (hb hby at_95) rfl rfl k) ?_
          show OEnds p.tables e below G (T1002.setTop (mkF m 97 #[.val (.int p1), .val (.int p2), .val (.int p3), .val (.int v1001), .val (.ref o4), .val (.int e5), .val (.int (0 : Int32)), .unset, .unset] [(.ref o4)]))
          refine OEnds.st (fun _ k => XS.iloadN X1002.here hx rfl (hb hby at_97) rfl k) ?_
          show OEnds p.tables e below G (T1002.setTop (mkF m 98 #[.val (.int p1), .val (.int p2), .val (.int p3), .val (.int v1001), .val (.ref o4), .val (.int e5), .val (.int (0 : Int32)), .unset, .unset] [(.int p2), (.ref o4)]))
          obtain ⟨cq1030, kq1030, q1030a, q1030b, q1030c⟩ := isOf hZ e1002 f1003
          obtain ⟨_, _, ⟨T1030, L1030, k1030c, n1030c⟩, -, X1030, ⟨Lc1030, hQ1030, l1030, y1030, z1030⟩, st1030⟩ := X1002.virtualBack hx (y := (⟨"com/example/clearingd/clearingd/binary/Command", "takes", "(I)Z"⟩ : MethodName)) (z := (⟨"com/example/clearingd/clearingd/binary/Command", "takes", "(I)Z"⟩ : MethodName)) hown (mvT hZ (hw _ (List.mem_of_getElem? (i := 3) rfl))) (mvT hZ (hw _ (List.mem_of_getElem? (i := 4) rfl))) (notFace_of_selects (args := #[]) (mvT hZ (hw _ (List.mem_of_getElem? (i := 6) rfl)))) (mvT hZ (hw _ (List.mem_of_getElem? (i := 6) rfl))) (mvT hZ (hw _ (List.mem_of_getElem? (i := 5) rfl))) (by decide) (backOf (W := 0) (rm1 l Z a0 hw [] o4 p2 e5 h1002 n0 Z1002 f1004 (by rcases he with rfl | rfl <;> decide)) hZ (hw _ (List.mem_of_getElem? (i := 7) rfl)) (hw _ (List.mem_of_getElem? (i := 1) rfl)) (by decide) (by decide)) q1030a q1030c (g := (mkF m 98 #[.val (.int p1), .val (.int p2), .val (.int p3), .val (.int v1001), .val (.ref o4), .val (.int e5), .val (.int (0 : Int32)), .unset, .unset] [(.int p2), (.ref o4)])) rfl (by rw [hml]; rfl) (Steps.refl _) (argsL := [(.int p2)]) (rest := []) (lenOf pd_0 rfl) rfl (by show 2 * 0 + _ ≤ _; exact Nat.le_of_eq rfl) (hb hby at_98) (fun _ _ => ⟨rfl, e1002, (by decide : 0 + 0 ≤ _), (by decide : 0 + 0 ≤ _)⟩)
          dsimp only [Pt.U, Pt.locs, Pt.cells, Pt.slots] at X1030 l1030 y1030 z1030 st1030 hQ1030
          subst l1030 y1030 z1030
          obtain ⟨rfl, N1030q, e1030⟩ := hQ1030
          have N1030 := Fr.app N1002 N1030q
          refine OEnds.st (fun _ k => st1030.trans k) ?_
          show OEnds p.tables e below G (T1030.setTop (mkF m 101 #[.val (.int p1), .val (.int p2), .val (.int p3), .val (.int v1001), .val (.ref o4), .val (.int e5), .val (.int (0 : Int32)), .unset, .unset] [(.int (own_takes e5 p2))]))
          refine OEnds.st (fun _ k => XS.iload X1030.here hx rfl (hb hby at_101) rfl k) ?_
          show OEnds p.tables e below G (T1030.setTop (mkF m 103 #[.val (.int p1), .val (.int p2), .val (.int p3), .val (.int v1001), .val (.ref o4), .val (.int e5), .val (.int (0 : Int32)), .unset, .unset] [(.int (0 : Int32)), (.int (own_takes e5 p2))]))
          have hc103_1031 : (own_takes e5 p2) = (0 : Int32) := by rw [own_takes_eq e5 p2 he]; simp [hc66_1005, hc76_1006, hc85_1018]
          refine OEnds.st (fun _ k => XS.icmpYes X1030.here hx rfl (pc0 := 103) (pc' := 108) rfl (hb hby at_103) rfl (teq hc103_1031).1 (by decide) (by decide) k) ?_
          show OEnds p.tables e below G (T1030.setTop (mkF m 108 #[.val (.int p1), .val (.int p2), .val (.int p3), .val (.int v1001), .val (.ref o4), .val (.int e5), .val (.int (0 : Int32)), .unset, .unset] []))
          refine OEnds.st (fun _ k => XS.iloadN X1030.here hx rfl (hb hby at_108) rfl k) ?_
          show OEnds p.tables e below G (T1030.setTop (mkF m 109 #[.val (.int p1), .val (.int p2), .val (.int p3), .val (.int v1001), .val (.ref o4), .val (.int e5), .val (.int (0 : Int32)), .unset, .unset] [(.int p3)]))
          refine OEnds.st (fun _ k => XS.sipush X1030.here hx rfl (hb hby at_109) k) ?_
          show OEnds p.tables e below G (T1030.setTop (mkF m 112 #[.val (.int p1), .val (.int p2), .val (.int p3), .val (.int v1001), .val (.ref o4), .val (.int e5), .val (.int (0 : Int32)), .unset, .unset] [(.int (16383 : Int32)), (.int p3)]))
          refine OEnds.st (fun _ k => XS.iand X1030.here hx rfl (hb hby at_112) rfl k) ?_
          show OEnds p.tables e below G (T1030.setTop (mkF m 113 #[.val (.int p1), .val (.int p2), .val (.int p3), .val (.int v1001), .val (.ref o4), .val (.int e5), .val (.int (0 : Int32)), .unset, .unset] [(.int (p3 &&& (16383 : Int32)))]))
          refine OEnds.st (fun _ k => XS.istore X1030.here hx rfl (hb hby at_113) rfl (l' := #[.val (.int p1), .val (.int p2), .val (.int p3), .val (.int v1001), .val (.ref o4), .val (.int e5), .val (.int (0 : Int32)), .val (.int (p3 &&& (16383 : Int32))), .unset]) rfl k) ?_
          show OEnds p.tables e below G (T1030.setTop (mkF m 115 #[.val (.int p1), .val (.int p2), .val (.int p3), .val (.int v1001), .val (.ref o4), .val (.int e5), .val (.int (0 : Int32)), .val (.int (p3 &&& (16383 : Int32))), .unset] []))
          generalize hv_v1032 : (p3 &&& (16383 : Int32)) = v1032
          show OEnds p.tables e below G (T1030.setTop (mkF m 115 #[.val (.int p1), .val (.int p2), .val (.int p3), .val (.int v1001), .val (.ref o4), .val (.int e5), .val (.int (0 : Int32)), .val (.int v1032), .unset] []))
          refine OEnds.st (fun _ k => XS.iload X1030.here hx rfl (hb hby at_115) rfl k) ?_
          show OEnds p.tables e below G (T1030.setTop (mkF m 117 #[.val (.int p1), .val (.int p2), .val (.int p3), .val (.int v1001), .val (.ref o4), .val (.int e5), .val (.int (0 : Int32)), .val (.int v1032), .unset] [(.int v1032)]))
          refine OEnds.st (fun _ k => XS.iconst X1030.here hx rfl (hb hby at_117) k) ?_
          show OEnds p.tables e below G (T1030.setTop (mkF m 118 #[.val (.int p1), .val (.int p2), .val (.int p3), .val (.int v1001), .val (.ref o4), .val (.int e5), .val (.int (0 : Int32)), .val (.int v1032), .unset] [(.int (1 : Int32)), (.int v1032)]))
          by_cases hc118_1033 : v1032 < (1 : Int32)
          · -- pc 118: yes
            refine OEnds.st (fun _ k => XS.icmpYes X1030.here hx rfl (pc0 := 118) (pc' := 133) rfl (hb hby at_118) rfl (tlt hc118_1033).1 (by decide) (by decide) k) ?_
            show OEnds p.tables e below G (T1030.setTop (mkF m 133 #[.val (.int p1), .val (.int p2), .val (.int p3), .val (.int v1001), .val (.ref o4), .val (.int e5), .val (.int (0 : Int32)), .val (.int v1032), .unset] []))
            refine OEnds.st (fun _ k => XS.iconst X1030.here hx rfl (hb hby at_133) k) ?_
            show OEnds p.tables e below G (T1030.setTop (mkF m 134 #[.val (.int p1), .val (.int p2), .val (.int p3), .val (.int v1001), .val (.ref o4), .val (.int e5), .val (.int (0 : Int32)), .val (.int v1032), .unset] [(.int (0 : Int32))]))
            refine OEnds.st (fun _ k => XS.istore X1030.here hx rfl (hb hby at_134) rfl (l' := #[.val (.int p1), .val (.int p2), .val (.int p3), .val (.int v1001), .val (.ref o4), .val (.int e5), .val (.int (0 : Int32)), .val (.int v1032), .val (.int (0 : Int32))]) rfl k) ?_
            show OEnds p.tables e below G (T1030.setTop (mkF m 136 #[.val (.int p1), .val (.int p2), .val (.int p3), .val (.int v1001), .val (.ref o4), .val (.int e5), .val (.int (0 : Int32)), .val (.int v1032), .val (.int (0 : Int32))] []))
            refine OEnds.st (fun _ k => XS.aload X1030.here hx rfl (hb hby at_136) rfl rfl k) ?_
            show OEnds p.tables e below G (T1030.setTop (mkF m 138 #[.val (.int p1), .val (.int p2), .val (.int p3), .val (.int v1001), .val (.ref o4), .val (.int e5), .val (.int (0 : Int32)), .val (.int v1032), .val (.int (0 : Int32))] [(.ref o4)]))
            refine OEnds.st (fun _ k => XS.iload X1030.here hx rfl (hb hby at_138) rfl k) ?_
            show OEnds p.tables e below G (T1030.setTop (mkF m 140 #[.val (.int p1), .val (.int p2), .val (.int p3), .val (.int v1001), .val (.ref o4), .val (.int e5), .val (.int (0 : Int32)), .val (.int v1032), .val (.int (0 : Int32))] [(.int v1032), (.ref o4)]))
            refine OEnds.st (fun _ k => XS.iload X1030.here hx rfl (hb hby at_140) rfl k) ?_
            show OEnds p.tables e below G (T1030.setTop (mkF m 142 #[.val (.int p1), .val (.int p2), .val (.int p3), .val (.int v1001), .val (.ref o4), .val (.int e5), .val (.int (0 : Int32)), .val (.int v1032), .val (.int (0 : Int32))] [(.int e5), (.int v1032), (.ref o4)]))
            refine OEnds.st (fun _ k => XS.imul X1030.here hx rfl (hb hby at_142) rfl k) ?_
            show OEnds p.tables e below G (T1030.setTop (mkF m 143 #[.val (.int p1), .val (.int p2), .val (.int p3), .val (.int v1001), .val (.ref o4), .val (.int e5), .val (.int (0 : Int32)), .val (.int v1032), .val (.int (0 : Int32))] [(.int (v1032 * e5)), (.ref o4)]))
            obtain ⟨cq1034, kq1034, q1034a, q1034b, q1034c⟩ := isOf hZ e1030 f1003
            obtain ⟨_, _, ⟨T1034, L1034, k1034c, n1034c⟩, -, X1034, ⟨Lc1034, hQ1034, l1034, y1034, z1034⟩, st1034⟩ := X1030.virtualBack hx (y := (⟨"com/example/clearingd/clearingd/binary/Command", "takes", "(I)Z"⟩ : MethodName)) (z := (⟨"com/example/clearingd/clearingd/binary/Command", "takes", "(I)Z"⟩ : MethodName)) hown (mvT hZ (hw _ (List.mem_of_getElem? (i := 3) rfl))) (mvT hZ (hw _ (List.mem_of_getElem? (i := 4) rfl))) (notFace_of_selects (args := #[]) (mvT hZ (hw _ (List.mem_of_getElem? (i := 6) rfl)))) (mvT hZ (hw _ (List.mem_of_getElem? (i := 6) rfl))) (mvT hZ (hw _ (List.mem_of_getElem? (i := 5) rfl))) (by decide) (backOf (W := 0) (rm1 l Z a0 hw [] o4 (v1032 * e5) e5 h1002 n0 Z1002 f1004 (by rcases he with rfl | rfl <;> decide)) hZ (hw _ (List.mem_of_getElem? (i := 7) rfl)) (hw _ (List.mem_of_getElem? (i := 1) rfl)) (by decide) (by decide)) q1034a q1034c (g := (mkF m 143 #[.val (.int p1), .val (.int p2), .val (.int p3), .val (.int v1001), .val (.ref o4), .val (.int e5), .val (.int (0 : Int32)), .val (.int v1032), .val (.int (0 : Int32))] [(.int (v1032 * e5)), (.ref o4)])) rfl (by rw [hml]; rfl) (Steps.refl _) (argsL := [(.int (v1032 * e5))]) (rest := []) (lenOf pd_0 rfl) rfl (by show 2 * 0 + _ ≤ _; exact Nat.le_of_eq rfl) (hb hby at_143) (fun _ _ => ⟨rfl, e1030, (by decide : 0 + 0 + 0 ≤ _), (by decide : 0 + 0 + 0 ≤ _)⟩)
            dsimp only [Pt.U, Pt.locs, Pt.cells, Pt.slots] at X1034 l1034 y1034 z1034 st1034 hQ1034
            subst l1034 y1034 z1034
            obtain ⟨rfl, N1034q, e1034⟩ := hQ1034
            have N1034 := Fr.app N1030 N1034q
            refine OEnds.st (fun _ k => st1034.trans k) ?_
            show OEnds p.tables e below G (T1034.setTop (mkF m 146 #[.val (.int p1), .val (.int p2), .val (.int p3), .val (.int v1001), .val (.ref o4), .val (.int e5), .val (.int (0 : Int32)), .val (.int v1032), .val (.int (0 : Int32))] [(.int (own_takes e5 (v1032 * e5)))]))
            refine OEnds.st (fun _ k => XS.iload X1034.here hx rfl (hb hby at_146) rfl k) ?_
            show OEnds p.tables e below G (T1034.setTop (mkF m 148 #[.val (.int p1), .val (.int p2), .val (.int p3), .val (.int v1001), .val (.ref o4), .val (.int e5), .val (.int (0 : Int32)), .val (.int v1032), .val (.int (0 : Int32))] [(.int (0 : Int32)), (.int (own_takes e5 (v1032 * e5)))]))
            have hc148_1035 : (own_takes e5 (v1032 * e5)) = (0 : Int32) := by rw [own_takes_n e5 v1032 p3 he hv_v1032.symm]; simp [hc66_1005, hc76_1006, hc85_1018, hc103_1031, hc118_1033]
            refine OEnds.st (fun _ k => XS.icmpNo X1034.here hx rfl (hb hby at_148) rfl (teq hc148_1035).2 k) ?_
            show OEnds p.tables e below G (T1034.setTop (mkF m 151 #[.val (.int p1), .val (.int p2), .val (.int p3), .val (.int v1001), .val (.ref o4), .val (.int e5), .val (.int (0 : Int32)), .val (.int v1032), .val (.int (0 : Int32))] []))
            refine OEnds.st (fun _ k => XS.iconst X1034.here hx rfl (hb hby at_151) k) ?_
            show OEnds p.tables e below G (T1034.setTop (mkF m 152 #[.val (.int p1), .val (.int p2), .val (.int p3), .val (.int v1001), .val (.ref o4), .val (.int e5), .val (.int (0 : Int32)), .val (.int v1032), .val (.int (0 : Int32))] [(.int (1 : Int32))]))
            refine OEnds.st (fun _ k => XS.goto X1034.here hx rfl (pc0 := 152) (pc' := 156) rfl (hb hby at_152) (by decide) (by decide) k) ?_
            show OEnds p.tables e below G (T1034.setTop (mkF m 156 #[.val (.int p1), .val (.int p2), .val (.int p3), .val (.int v1001), .val (.ref o4), .val (.int e5), .val (.int (0 : Int32)), .val (.int v1032), .val (.int (0 : Int32))] [(.int (1 : Int32))]))
            rw [← hG]
            refine OEnds.retZ X1034 hx hlk Bd.returns rfl (hb hby at_156) (by decide) (by decide) ?_
            rw [e1034]
            exact ⟨rfl, N1034⟩
          · -- pc 118: no
            refine OEnds.st (fun _ k => XS.icmpNo X1030.here hx rfl (hb hby at_118) rfl (flt hc118_1033).1 k) ?_
            show OEnds p.tables e below G (T1030.setTop (mkF m 121 #[.val (.int p1), .val (.int p2), .val (.int p3), .val (.int v1001), .val (.ref o4), .val (.int e5), .val (.int (0 : Int32)), .val (.int v1032), .unset] []))
            refine OEnds.st (fun _ k => XS.iload X1030.here hx rfl (hb hby at_121) rfl k) ?_
            show OEnds p.tables e below G (T1030.setTop (mkF m 123 #[.val (.int p1), .val (.int p2), .val (.int p3), .val (.int v1001), .val (.ref o4), .val (.int e5), .val (.int (0 : Int32)), .val (.int v1032), .unset] [(.int v1032)]))
            refine OEnds.st (fun _ k => XS.sipush X1030.here hx rfl (hb hby at_123) k) ?_
            show OEnds p.tables e below G (T1030.setTop (mkF m 126 #[.val (.int p1), .val (.int p2), .val (.int p3), .val (.int v1001), .val (.ref o4), .val (.int e5), .val (.int (0 : Int32)), .val (.int v1032), .unset] [(.int (10000 : Int32)), (.int v1032)]))
            by_cases hc126_1036 : (10000 : Int32) < v1032
            · -- pc 126: yes
              refine OEnds.st (fun _ k => XS.icmpYes X1030.here hx rfl (pc0 := 126) (pc' := 133) rfl (hb hby at_126) rfl (tlt hc126_1036).2.2.1 (by decide) (by decide) k) ?_
              show OEnds p.tables e below G (T1030.setTop (mkF m 133 #[.val (.int p1), .val (.int p2), .val (.int p3), .val (.int v1001), .val (.ref o4), .val (.int e5), .val (.int (0 : Int32)), .val (.int v1032), .unset] []))
              refine OEnds.st (fun _ k => XS.iconst X1030.here hx rfl (hb hby at_133) k) ?_
              show OEnds p.tables e below G (T1030.setTop (mkF m 134 #[.val (.int p1), .val (.int p2), .val (.int p3), .val (.int v1001), .val (.ref o4), .val (.int e5), .val (.int (0 : Int32)), .val (.int v1032), .unset] [(.int (0 : Int32))]))
              refine OEnds.st (fun _ k => XS.istore X1030.here hx rfl (hb hby at_134) rfl (l' := #[.val (.int p1), .val (.int p2), .val (.int p3), .val (.int v1001), .val (.ref o4), .val (.int e5), .val (.int (0 : Int32)), .val (.int v1032), .val (.int (0 : Int32))]) rfl k) ?_
              show OEnds p.tables e below G (T1030.setTop (mkF m 136 #[.val (.int p1), .val (.int p2), .val (.int p3), .val (.int v1001), .val (.ref o4), .val (.int e5), .val (.int (0 : Int32)), .val (.int v1032), .val (.int (0 : Int32))] []))
              refine OEnds.st (fun _ k => XS.aload X1030.here hx rfl (hb hby at_136) rfl rfl k) ?_
              show OEnds p.tables e below G (T1030.setTop (mkF m 138 #[.val (.int p1), .val (.int p2), .val (.int p3), .val (.int v1001), .val (.ref o4), .val (.int e5), .val (.int (0 : Int32)), .val (.int v1032), .val (.int (0 : Int32))] [(.ref o4)]))
              refine OEnds.st (fun _ k => XS.iload X1030.here hx rfl (hb hby at_138) rfl k) ?_
              show OEnds p.tables e below G (T1030.setTop (mkF m 140 #[.val (.int p1), .val (.int p2), .val (.int p3), .val (.int v1001), .val (.ref o4), .val (.int e5), .val (.int (0 : Int32)), .val (.int v1032), .val (.int (0 : Int32))] [(.int v1032), (.ref o4)]))
              refine OEnds.st (fun _ k => XS.iload X1030.here hx rfl (hb hby at_140) rfl k) ?_
              show OEnds p.tables e below G (T1030.setTop (mkF m 142 #[.val (.int p1), .val (.int p2), .val (.int p3), .val (.int v1001), .val (.ref o4), .val (.int e5), .val (.int (0 : Int32)), .val (.int v1032), .val (.int (0 : Int32))] [(.int e5), (.int v1032), (.ref o4)]))
              refine OEnds.st (fun _ k => XS.imul X1030.here hx rfl (hb hby at_142) rfl k) ?_
              show OEnds p.tables e below G (T1030.setTop (mkF m 143 #[.val (.int p1), .val (.int p2), .val (.int p3), .val (.int v1001), .val (.ref o4), .val (.int e5), .val (.int (0 : Int32)), .val (.int v1032), .val (.int (0 : Int32))] [(.int (v1032 * e5)), (.ref o4)]))
              obtain ⟨cq1037, kq1037, q1037a, q1037b, q1037c⟩ := isOf hZ e1030 f1003
              obtain ⟨_, _, ⟨T1037, L1037, k1037c, n1037c⟩, -, X1037, ⟨Lc1037, hQ1037, l1037, y1037, z1037⟩, st1037⟩ := X1030.virtualBack hx (y := (⟨"com/example/clearingd/clearingd/binary/Command", "takes", "(I)Z"⟩ : MethodName)) (z := (⟨"com/example/clearingd/clearingd/binary/Command", "takes", "(I)Z"⟩ : MethodName)) hown (mvT hZ (hw _ (List.mem_of_getElem? (i := 3) rfl))) (mvT hZ (hw _ (List.mem_of_getElem? (i := 4) rfl))) (notFace_of_selects (args := #[]) (mvT hZ (hw _ (List.mem_of_getElem? (i := 6) rfl)))) (mvT hZ (hw _ (List.mem_of_getElem? (i := 6) rfl))) (mvT hZ (hw _ (List.mem_of_getElem? (i := 5) rfl))) (by decide) (backOf (W := 0) (rm1 l Z a0 hw [] o4 (v1032 * e5) e5 h1002 n0 Z1002 f1004 (by rcases he with rfl | rfl <;> decide)) hZ (hw _ (List.mem_of_getElem? (i := 7) rfl)) (hw _ (List.mem_of_getElem? (i := 1) rfl)) (by decide) (by decide)) q1037a q1037c (g := (mkF m 143 #[.val (.int p1), .val (.int p2), .val (.int p3), .val (.int v1001), .val (.ref o4), .val (.int e5), .val (.int (0 : Int32)), .val (.int v1032), .val (.int (0 : Int32))] [(.int (v1032 * e5)), (.ref o4)])) rfl (by rw [hml]; rfl) (Steps.refl _) (argsL := [(.int (v1032 * e5))]) (rest := []) (lenOf pd_0 rfl) rfl (by show 2 * 0 + _ ≤ _; exact Nat.le_of_eq rfl) (hb hby at_143) (fun _ _ => ⟨rfl, e1030, (by decide : 0 + 0 + 0 ≤ _), (by decide : 0 + 0 + 0 ≤ _)⟩)
              dsimp only [Pt.U, Pt.locs, Pt.cells, Pt.slots] at X1037 l1037 y1037 z1037 st1037 hQ1037
              subst l1037 y1037 z1037
              obtain ⟨rfl, N1037q, e1037⟩ := hQ1037
              have N1037 := Fr.app N1030 N1037q
              refine OEnds.st (fun _ k => st1037.trans k) ?_
              show OEnds p.tables e below G (T1037.setTop (mkF m 146 #[.val (.int p1), .val (.int p2), .val (.int p3), .val (.int v1001), .val (.ref o4), .val (.int e5), .val (.int (0 : Int32)), .val (.int v1032), .val (.int (0 : Int32))] [(.int (own_takes e5 (v1032 * e5)))]))
              refine OEnds.st (fun _ k => XS.iload X1037.here hx rfl (hb hby at_146) rfl k) ?_
              show OEnds p.tables e below G (T1037.setTop (mkF m 148 #[.val (.int p1), .val (.int p2), .val (.int p3), .val (.int v1001), .val (.ref o4), .val (.int e5), .val (.int (0 : Int32)), .val (.int v1032), .val (.int (0 : Int32))] [(.int (0 : Int32)), (.int (own_takes e5 (v1032 * e5)))]))
              have hc148_1038 : (own_takes e5 (v1032 * e5)) = (0 : Int32) := by rw [own_takes_n e5 v1032 p3 he hv_v1032.symm]; simp [hc66_1005, hc76_1006, hc85_1018, hc103_1031, hc118_1033, hc126_1036]
              refine OEnds.st (fun _ k => XS.icmpNo X1037.here hx rfl (hb hby at_148) rfl (teq hc148_1038).2 k) ?_
              show OEnds p.tables e below G (T1037.setTop (mkF m 151 #[.val (.int p1), .val (.int p2), .val (.int p3), .val (.int v1001), .val (.ref o4), .val (.int e5), .val (.int (0 : Int32)), .val (.int v1032), .val (.int (0 : Int32))] []))
              refine OEnds.st (fun _ k => XS.iconst X1037.here hx rfl (hb hby at_151) k) ?_
              show OEnds p.tables e below G (T1037.setTop (mkF m 152 #[.val (.int p1), .val (.int p2), .val (.int p3), .val (.int v1001), .val (.ref o4), .val (.int e5), .val (.int (0 : Int32)), .val (.int v1032), .val (.int (0 : Int32))] [(.int (1 : Int32))]))
              refine OEnds.st (fun _ k => XS.goto X1037.here hx rfl (pc0 := 152) (pc' := 156) rfl (hb hby at_152) (by decide) (by decide) k) ?_
              show OEnds p.tables e below G (T1037.setTop (mkF m 156 #[.val (.int p1), .val (.int p2), .val (.int p3), .val (.int v1001), .val (.ref o4), .val (.int e5), .val (.int (0 : Int32)), .val (.int v1032), .val (.int (0 : Int32))] [(.int (1 : Int32))]))
              rw [← hG]
              refine OEnds.retZ X1037 hx hlk Bd.returns rfl (hb hby at_156) (by decide) (by decide) ?_
              rw [e1037]
              exact ⟨rfl, N1037⟩
            · -- pc 126: no
              refine OEnds.st (fun _ k => XS.icmpNo X1030.here hx rfl (hb hby at_126) rfl (flt hc126_1036).2.2.1 k) ?_
              show OEnds p.tables e below G (T1030.setTop (mkF m 129 #[.val (.int p1), .val (.int p2), .val (.int p3), .val (.int v1001), .val (.ref o4), .val (.int e5), .val (.int (0 : Int32)), .val (.int v1032), .unset] []))
              refine OEnds.st (fun _ k => XS.iconst X1030.here hx rfl (hb hby at_129) k) ?_
              show OEnds p.tables e below G (T1030.setTop (mkF m 130 #[.val (.int p1), .val (.int p2), .val (.int p3), .val (.int v1001), .val (.ref o4), .val (.int e5), .val (.int (0 : Int32)), .val (.int v1032), .unset] [(.int (1 : Int32))]))
              refine OEnds.st (fun _ k => XS.goto X1030.here hx rfl (pc0 := 130) (pc' := 134) rfl (hb hby at_130) (by decide) (by decide) k) ?_
              show OEnds p.tables e below G (T1030.setTop (mkF m 134 #[.val (.int p1), .val (.int p2), .val (.int p3), .val (.int v1001), .val (.ref o4), .val (.int e5), .val (.int (0 : Int32)), .val (.int v1032), .unset] [(.int (1 : Int32))]))
              refine OEnds.st (fun _ k => XS.istore X1030.here hx rfl (hb hby at_134) rfl (l' := #[.val (.int p1), .val (.int p2), .val (.int p3), .val (.int v1001), .val (.ref o4), .val (.int e5), .val (.int (0 : Int32)), .val (.int v1032), .val (.int (1 : Int32))]) rfl k) ?_
              show OEnds p.tables e below G (T1030.setTop (mkF m 136 #[.val (.int p1), .val (.int p2), .val (.int p3), .val (.int v1001), .val (.ref o4), .val (.int e5), .val (.int (0 : Int32)), .val (.int v1032), .val (.int (1 : Int32))] []))
              refine OEnds.st (fun _ k => XS.aload X1030.here hx rfl (hb hby at_136) rfl rfl k) ?_
              show OEnds p.tables e below G (T1030.setTop (mkF m 138 #[.val (.int p1), .val (.int p2), .val (.int p3), .val (.int v1001), .val (.ref o4), .val (.int e5), .val (.int (0 : Int32)), .val (.int v1032), .val (.int (1 : Int32))] [(.ref o4)]))
              refine OEnds.st (fun _ k => XS.iload X1030.here hx rfl (hb hby at_138) rfl k) ?_
              show OEnds p.tables e below G (T1030.setTop (mkF m 140 #[.val (.int p1), .val (.int p2), .val (.int p3), .val (.int v1001), .val (.ref o4), .val (.int e5), .val (.int (0 : Int32)), .val (.int v1032), .val (.int (1 : Int32))] [(.int v1032), (.ref o4)]))
              refine OEnds.st (fun _ k => XS.iload X1030.here hx rfl (hb hby at_140) rfl k) ?_
              show OEnds p.tables e below G (T1030.setTop (mkF m 142 #[.val (.int p1), .val (.int p2), .val (.int p3), .val (.int v1001), .val (.ref o4), .val (.int e5), .val (.int (0 : Int32)), .val (.int v1032), .val (.int (1 : Int32))] [(.int e5), (.int v1032), (.ref o4)]))
              refine OEnds.st (fun _ k => XS.imul X1030.here hx rfl (hb hby at_142) rfl k) ?_
              show OEnds p.tables e below G (T1030.setTop (mkF m 143 #[.val (.int p1), .val (.int p2), .val (.int p3), .val (.int v1001), .val (.ref o4), .val (.int e5), .val (.int (0 : Int32)), .val (.int v1032), .val (.int (1 : Int32))] [(.int (v1032 * e5)), (.ref o4)]))
              obtain ⟨cq1039, kq1039, q1039a, q1039b, q1039c⟩ := isOf hZ e1030 f1003
              obtain ⟨_, _, ⟨T1039, L1039, k1039c, n1039c⟩, -, X1039, ⟨Lc1039, hQ1039, l1039, y1039, z1039⟩, st1039⟩ := X1030.virtualBack hx (y := (⟨"com/example/clearingd/clearingd/binary/Command", "takes", "(I)Z"⟩ : MethodName)) (z := (⟨"com/example/clearingd/clearingd/binary/Command", "takes", "(I)Z"⟩ : MethodName)) hown (mvT hZ (hw _ (List.mem_of_getElem? (i := 3) rfl))) (mvT hZ (hw _ (List.mem_of_getElem? (i := 4) rfl))) (notFace_of_selects (args := #[]) (mvT hZ (hw _ (List.mem_of_getElem? (i := 6) rfl)))) (mvT hZ (hw _ (List.mem_of_getElem? (i := 6) rfl))) (mvT hZ (hw _ (List.mem_of_getElem? (i := 5) rfl))) (by decide) (backOf (W := 0) (rm1 l Z a0 hw [] o4 (v1032 * e5) e5 h1002 n0 Z1002 f1004 (by rcases he with rfl | rfl <;> decide)) hZ (hw _ (List.mem_of_getElem? (i := 7) rfl)) (hw _ (List.mem_of_getElem? (i := 1) rfl)) (by decide) (by decide)) q1039a q1039c (g := (mkF m 143 #[.val (.int p1), .val (.int p2), .val (.int p3), .val (.int v1001), .val (.ref o4), .val (.int e5), .val (.int (0 : Int32)), .val (.int v1032), .val (.int (1 : Int32))] [(.int (v1032 * e5)), (.ref o4)])) rfl (by rw [hml]; rfl) (Steps.refl _) (argsL := [(.int (v1032 * e5))]) (rest := []) (lenOf pd_0 rfl) rfl (by show 2 * 0 + _ ≤ _; exact Nat.le_of_eq rfl) (hb hby at_143) (fun _ _ => ⟨rfl, e1030, (by decide : 0 + 0 + 0 ≤ _), (by decide : 0 + 0 + 0 ≤ _)⟩)
              dsimp only [Pt.U, Pt.locs, Pt.cells, Pt.slots] at X1039 l1039 y1039 z1039 st1039 hQ1039
              subst l1039 y1039 z1039
              obtain ⟨rfl, N1039q, e1039⟩ := hQ1039
              have N1039 := Fr.app N1030 N1039q
              refine OEnds.st (fun _ k => st1039.trans k) ?_
              show OEnds p.tables e below G (T1039.setTop (mkF m 146 #[.val (.int p1), .val (.int p2), .val (.int p3), .val (.int v1001), .val (.ref o4), .val (.int e5), .val (.int (0 : Int32)), .val (.int v1032), .val (.int (1 : Int32))] [(.int (own_takes e5 (v1032 * e5)))]))
              refine OEnds.st (fun _ k => XS.iload X1039.here hx rfl (hb hby at_146) rfl k) ?_
              show OEnds p.tables e below G (T1039.setTop (mkF m 148 #[.val (.int p1), .val (.int p2), .val (.int p3), .val (.int v1001), .val (.ref o4), .val (.int e5), .val (.int (0 : Int32)), .val (.int v1032), .val (.int (1 : Int32))] [(.int (1 : Int32)), (.int (own_takes e5 (v1032 * e5)))]))
              have hc148_1040 : (own_takes e5 (v1032 * e5)) = (1 : Int32) := by rw [own_takes_n e5 v1032 p3 he hv_v1032.symm]; simp [hc66_1005, hc76_1006, hc85_1018, hc103_1031, hc118_1033, hc126_1036]
              refine OEnds.st (fun _ k => XS.icmpNo X1039.here hx rfl (hb hby at_148) rfl (teq hc148_1040).2 k) ?_
              show OEnds p.tables e below G (T1039.setTop (mkF m 151 #[.val (.int p1), .val (.int p2), .val (.int p3), .val (.int v1001), .val (.ref o4), .val (.int e5), .val (.int (0 : Int32)), .val (.int v1032), .val (.int (1 : Int32))] []))
              refine OEnds.st (fun _ k => XS.iconst X1039.here hx rfl (hb hby at_151) k) ?_
              show OEnds p.tables e below G (T1039.setTop (mkF m 152 #[.val (.int p1), .val (.int p2), .val (.int p3), .val (.int v1001), .val (.ref o4), .val (.int e5), .val (.int (0 : Int32)), .val (.int v1032), .val (.int (1 : Int32))] [(.int (1 : Int32))]))
              refine OEnds.st (fun _ k => XS.goto X1039.here hx rfl (pc0 := 152) (pc' := 156) rfl (hb hby at_152) (by decide) (by decide) k) ?_
              show OEnds p.tables e below G (T1039.setTop (mkF m 156 #[.val (.int p1), .val (.int p2), .val (.int p3), .val (.int v1001), .val (.ref o4), .val (.int e5), .val (.int (0 : Int32)), .val (.int v1032), .val (.int (1 : Int32))] [(.int (1 : Int32))]))
              rw [← hG]
              refine OEnds.retZ X1039 hx hlk Bd.returns rfl (hb hby at_156) (by decide) (by decide) ?_
              rw [e1039]
              exact ⟨rfl, N1039⟩
    · -- pc 66: no
      refine OEnds.st (fun _ k => XS.ifYes X1002.here hx rfl (pc0 := 66) (pc' := 92) rfl (hb hby at_66) rfl ((if0 _ _).trans (flt hc66_1005).2.2.2) (by decide) (by decide) k) ?_
      show OEnds p.tables e below G (T1002.setTop (mkF m 92 #[.val (.int p1), .val (.int p2), .val (.int p3), .val (.int v1001), .val (.ref o4), .val (.int e5), .unset, .unset, .unset] []))
      refine OEnds.st (fun _ k => XS.iconst X1002.here hx rfl (hb hby at_92) k) ?_
      show OEnds p.tables e below G (T1002.setTop (mkF m 93 #[.val (.int p1), .val (.int p2), .val (.int p3), .val (.int v1001), .val (.ref o4), .val (.int e5), .unset, .unset, .unset] [(.int (0 : Int32))]))
      refine OEnds.st (fun _ k => XS.istore X1002.here hx rfl (hb hby at_93) rfl (l' := #[.val (.int p1), .val (.int p2), .val (.int p3), .val (.int v1001), .val (.ref o4), .val (.int e5), .val (.int (0 : Int32)), .unset, .unset]) rfl k) ?_
      show OEnds p.tables e below G (T1002.setTop (mkF m 95 #[.val (.int p1), .val (.int p2), .val (.int p3), .val (.int v1001), .val (.ref o4), .val (.int e5), .val (.int (0 : Int32)), .unset, .unset] []))
      refine OEnds.st (fun _ k => XS.aload X1002.here hx rfl (hb hby at_95) rfl rfl k) ?_
      show OEnds p.tables e below G (T1002.setTop (mkF m 97 #[.val (.int p1), .val (.int p2), .val (.int p3), .val (.int v1001), .val (.ref o4), .val (.int e5), .val (.int (0 : Int32)), .unset, .unset] [(.ref o4)]))
      refine OEnds.st (fun _ k => XS.iloadN X1002.here hx rfl (hb hby at_97) rfl k) ?_
      show OEnds p.tables e below G (T1002.setTop (mkF m 98 #[.val (.int p1), .val (.int p2), .val (.int p3), .val (.int v1001), .val (.ref o4), .val (.int e5), .val (.int (0 : Int32)), .unset, .unset] [(.int p2), (.ref o4)]))
      obtain ⟨cq1041, kq1041, q1041a, q1041b, q1041c⟩ := isOf hZ e1002 f1003
      obtain ⟨_, _, ⟨T1041, L1041, k1041c, n1041c⟩, -, X1041, ⟨Lc1041, hQ1041, l1041, y1041, z1041⟩, st1041⟩ := X1002.virtualBack hx (y := (⟨"com/example/clearingd/clearingd/binary/Command", "takes", "(I)Z"⟩ : MethodName)) (z := (⟨"com/example/clearingd/clearingd/binary/Command", "takes", "(I)Z"⟩ : MethodName)) hown (mvT hZ (hw _ (List.mem_of_getElem? (i := 3) rfl))) (mvT hZ (hw _ (List.mem_of_getElem? (i := 4) rfl))) (notFace_of_selects (args := #[]) (mvT hZ (hw _ (List.mem_of_getElem? (i := 6) rfl)))) (mvT hZ (hw _ (List.mem_of_getElem? (i := 6) rfl))) (mvT hZ (hw _ (List.mem_of_getElem? (i := 5) rfl))) (by decide) (backOf (W := 0) (rm1 l Z a0 hw [] o4 p2 e5 h1002 n0 Z1002 f1004 (by rcases he with rfl | rfl <;> decide)) hZ (hw _ (List.mem_of_getElem? (i := 7) rfl)) (hw _ (List.mem_of_getElem? (i := 1) rfl)) (by decide) (by decide)) q1041a q1041c (g := (mkF m 98 #[.val (.int p1), .val (.int p2), .val (.int p3), .val (.int v1001), .val (.ref o4), .val (.int e5), .val (.int (0 : Int32)), .unset, .unset] [(.int p2), (.ref o4)])) rfl (by rw [hml]; rfl) (Steps.refl _) (argsL := [(.int p2)]) (rest := []) (lenOf pd_0 rfl) rfl (by show 2 * 0 + _ ≤ _; exact Nat.le_of_eq rfl) (hb hby at_98) (fun _ _ => ⟨rfl, e1002, (by decide : 0 + 0 ≤ _), (by decide : 0 + 0 ≤ _)⟩)
      dsimp only [Pt.U, Pt.locs, Pt.cells, Pt.slots] at X1041 l1041 y1041 z1041 st1041 hQ1041
      subst l1041 y1041 z1041
      obtain ⟨rfl, N1041q, e1041⟩ := hQ1041
      have N1041 := Fr.app N1002 N1041q
      refine OEnds.st (fun _ k => st1041.trans k) ?_
      show OEnds p.tables e below G (T1041.setTop (mkF m 101 #[.val (.int p1), .val (.int p2), .val (.int p3), .val (.int v1001), .val (.ref o4), .val (.int e5), .val (.int (0 : Int32)), .unset, .unset] [(.int (own_takes e5 p2))]))
      refine OEnds.st (fun _ k => XS.iload X1041.here hx rfl (hb hby at_101) rfl k) ?_
      show OEnds p.tables e below G (T1041.setTop (mkF m 103 #[.val (.int p1), .val (.int p2), .val (.int p3), .val (.int v1001), .val (.ref o4), .val (.int e5), .val (.int (0 : Int32)), .unset, .unset] [(.int (0 : Int32)), (.int (own_takes e5 p2))]))
      have hc103_1042 : (own_takes e5 p2) = (0 : Int32) := by rw [own_takes_eq e5 p2 he]; simp [hc66_1005]
      refine OEnds.st (fun _ k => XS.icmpYes X1041.here hx rfl (pc0 := 103) (pc' := 108) rfl (hb hby at_103) rfl (teq hc103_1042).1 (by decide) (by decide) k) ?_
      show OEnds p.tables e below G (T1041.setTop (mkF m 108 #[.val (.int p1), .val (.int p2), .val (.int p3), .val (.int v1001), .val (.ref o4), .val (.int e5), .val (.int (0 : Int32)), .unset, .unset] []))
      refine OEnds.st (fun _ k => XS.iloadN X1041.here hx rfl (hb hby at_108) rfl k) ?_
      show OEnds p.tables e below G (T1041.setTop (mkF m 109 #[.val (.int p1), .val (.int p2), .val (.int p3), .val (.int v1001), .val (.ref o4), .val (.int e5), .val (.int (0 : Int32)), .unset, .unset] [(.int p3)]))
      refine OEnds.st (fun _ k => XS.sipush X1041.here hx rfl (hb hby at_109) k) ?_
      show OEnds p.tables e below G (T1041.setTop (mkF m 112 #[.val (.int p1), .val (.int p2), .val (.int p3), .val (.int v1001), .val (.ref o4), .val (.int e5), .val (.int (0 : Int32)), .unset, .unset] [(.int (16383 : Int32)), (.int p3)]))
      refine OEnds.st (fun _ k => XS.iand X1041.here hx rfl (hb hby at_112) rfl k) ?_
      show OEnds p.tables e below G (T1041.setTop (mkF m 113 #[.val (.int p1), .val (.int p2), .val (.int p3), .val (.int v1001), .val (.ref o4), .val (.int e5), .val (.int (0 : Int32)), .unset, .unset] [(.int (p3 &&& (16383 : Int32)))]))
      refine OEnds.st (fun _ k => XS.istore X1041.here hx rfl (hb hby at_113) rfl (l' := #[.val (.int p1), .val (.int p2), .val (.int p3), .val (.int v1001), .val (.ref o4), .val (.int e5), .val (.int (0 : Int32)), .val (.int (p3 &&& (16383 : Int32))), .unset]) rfl k) ?_
      show OEnds p.tables e below G (T1041.setTop (mkF m 115 #[.val (.int p1), .val (.int p2), .val (.int p3), .val (.int v1001), .val (.ref o4), .val (.int e5), .val (.int (0 : Int32)), .val (.int (p3 &&& (16383 : Int32))), .unset] []))
      generalize hv_v1043 : (p3 &&& (16383 : Int32)) = v1043
      show OEnds p.tables e below G (T1041.setTop (mkF m 115 #[.val (.int p1), .val (.int p2), .val (.int p3), .val (.int v1001), .val (.ref o4), .val (.int e5), .val (.int (0 : Int32)), .val (.int v1043), .unset] []))
      refine OEnds.st (fun _ k => XS.iload X1041.here hx rfl (hb hby at_115) rfl k) ?_
      show OEnds p.tables e below G (T1041.setTop (mkF m 117 #[.val (.int p1), .val (.int p2), .val (.int p3), .val (.int v1001), .val (.ref o4), .val (.int e5), .val (.int (0 : Int32)), .val (.int v1043), .unset] [(.int v1043)]))
      refine OEnds.st (fun _ k => XS.iconst X1041.here hx rfl (hb hby at_117) k) ?_
      show OEnds p.tables e below G (T1041.setTop (mkF m 118 #[.val (.int p1), .val (.int p2), .val (.int p3), .val (.int v1001), .val (.ref o4), .val (.int e5), .val (.int (0 : Int32)), .val (.int v1043), .unset] [(.int (1 : Int32)), (.int v1043)]))
      by_cases hc118_1044 : v1043 < (1 : Int32)
      · -- pc 118: yes
        refine OEnds.st (fun _ k => XS.icmpYes X1041.here hx rfl (pc0 := 118) (pc' := 133) rfl (hb hby at_118) rfl (tlt hc118_1044).1 (by decide) (by decide) k) ?_
        show OEnds p.tables e below G (T1041.setTop (mkF m 133 #[.val (.int p1), .val (.int p2), .val (.int p3), .val (.int v1001), .val (.ref o4), .val (.int e5), .val (.int (0 : Int32)), .val (.int v1043), .unset] []))
        refine OEnds.st (fun _ k => XS.iconst X1041.here hx rfl (hb hby at_133) k) ?_
        show OEnds p.tables e below G (T1041.setTop (mkF m 134 #[.val (.int p1), .val (.int p2), .val (.int p3), .val (.int v1001), .val (.ref o4), .val (.int e5), .val (.int (0 : Int32)), .val (.int v1043), .unset] [(.int (0 : Int32))]))
        refine OEnds.st (fun _ k => XS.istore X1041.here hx rfl (hb hby at_134) rfl (l' := #[.val (.int p1), .val (.int p2), .val (.int p3), .val (.int v1001), .val (.ref o4), .val (.int e5), .val (.int (0 : Int32)), .val (.int v1043), .val (.int (0 : Int32))]) rfl k) ?_
        show OEnds p.tables e below G (T1041.setTop (mkF m 136 #[.val (.int p1), .val (.int p2), .val (.int p3), .val (.int v1001), .val (.ref o4), .val (.int e5), .val (.int (0 : Int32)), .val (.int v1043), .val (.int (0 : Int32))] []))
        refine OEnds.st (fun _ k => XS.aload X1041.here hx rfl (hb hby at_136) rfl rfl k) ?_
        show OEnds p.tables e below G (T1041.setTop (mkF m 138 #[.val (.int p1), .val (.int p2), .val (.int p3), .val (.int v1001), .val (.ref o4), .val (.int e5), .val (.int (0 : Int32)), .val (.int v1043), .val (.int (0 : Int32))] [(.ref o4)]))
        refine OEnds.st (fun _ k => XS.iload X1041.here hx rfl (hb hby at_138) rfl k) ?_
        show OEnds p.tables e below G (T1041.setTop (mkF m 140 #[.val (.int p1), .val (.int p2), .val (.int p3), .val (.int v1001), .val (.ref o4), .val (.int e5), .val (.int (0 : Int32)), .val (.int v1043), .val (.int (0 : Int32))] [(.int v1043), (.ref o4)]))
        refine OEnds.st (fun _ k => XS.iload X1041.here hx rfl (hb hby at_140) rfl k) ?_
        show OEnds p.tables e below G (T1041.setTop (mkF m 142 #[.val (.int p1), .val (.int p2), .val (.int p3), .val (.int v1001), .val (.ref o4), .val (.int e5), .val (.int (0 : Int32)), .val (.int v1043), .val (.int (0 : Int32))] [(.int e5), (.int v1043), (.ref o4)]))
        refine OEnds.st (fun _ k => XS.imul X1041.here hx rfl (hb hby at_142) rfl k) ?_
        show OEnds p.tables e below G (T1041.setTop (mkF m 143 #[.val (.int p1), .val (.int p2), .val (.int p3), .val (.int v1001), .val (.ref o4), .val (.int e5), .val (.int (0 : Int32)), .val (.int v1043), .val (.int (0 : Int32))] [(.int (v1043 * e5)), (.ref o4)]))
        obtain ⟨cq1045, kq1045, q1045a, q1045b, q1045c⟩ := isOf hZ e1041 f1003
        obtain ⟨_, _, ⟨T1045, L1045, k1045c, n1045c⟩, -, X1045, ⟨Lc1045, hQ1045, l1045, y1045, z1045⟩, st1045⟩ := X1041.virtualBack hx (y := (⟨"com/example/clearingd/clearingd/binary/Command", "takes", "(I)Z"⟩ : MethodName)) (z := (⟨"com/example/clearingd/clearingd/binary/Command", "takes", "(I)Z"⟩ : MethodName)) hown (mvT hZ (hw _ (List.mem_of_getElem? (i := 3) rfl))) (mvT hZ (hw _ (List.mem_of_getElem? (i := 4) rfl))) (notFace_of_selects (args := #[]) (mvT hZ (hw _ (List.mem_of_getElem? (i := 6) rfl)))) (mvT hZ (hw _ (List.mem_of_getElem? (i := 6) rfl))) (mvT hZ (hw _ (List.mem_of_getElem? (i := 5) rfl))) (by decide) (backOf (W := 0) (rm1 l Z a0 hw [] o4 (v1043 * e5) e5 h1002 n0 Z1002 f1004 (by rcases he with rfl | rfl <;> decide)) hZ (hw _ (List.mem_of_getElem? (i := 7) rfl)) (hw _ (List.mem_of_getElem? (i := 1) rfl)) (by decide) (by decide)) q1045a q1045c (g := (mkF m 143 #[.val (.int p1), .val (.int p2), .val (.int p3), .val (.int v1001), .val (.ref o4), .val (.int e5), .val (.int (0 : Int32)), .val (.int v1043), .val (.int (0 : Int32))] [(.int (v1043 * e5)), (.ref o4)])) rfl (by rw [hml]; rfl) (Steps.refl _) (argsL := [(.int (v1043 * e5))]) (rest := []) (lenOf pd_0 rfl) rfl (by show 2 * 0 + _ ≤ _; exact Nat.le_of_eq rfl) (hb hby at_143) (fun _ _ => ⟨rfl, e1041, (by decide : 0 + 0 + 0 ≤ _), (by decide : 0 + 0 + 0 ≤ _)⟩)
        dsimp only [Pt.U, Pt.locs, Pt.cells, Pt.slots] at X1045 l1045 y1045 z1045 st1045 hQ1045
        subst l1045 y1045 z1045
        obtain ⟨rfl, N1045q, e1045⟩ := hQ1045
        have N1045 := Fr.app N1041 N1045q
        refine OEnds.st (fun _ k => st1045.trans k) ?_
        show OEnds p.tables e below G (T1045.setTop (mkF m 146 #[.val (.int p1), .val (.int p2), .val (.int p3), .val (.int v1001), .val (.ref o4), .val (.int e5), .val (.int (0 : Int32)), .val (.int v1043), .val (.int (0 : Int32))] [(.int (own_takes e5 (v1043 * e5)))]))
        refine OEnds.st (fun _ k => XS.iload X1045.here hx rfl (hb hby at_146) rfl k) ?_
        show OEnds p.tables e below G (T1045.setTop (mkF m 148 #[.val (.int p1), .val (.int p2), .val (.int p3), .val (.int v1001), .val (.ref o4), .val (.int e5), .val (.int (0 : Int32)), .val (.int v1043), .val (.int (0 : Int32))] [(.int (0 : Int32)), (.int (own_takes e5 (v1043 * e5)))]))
        have hc148_1046 : (own_takes e5 (v1043 * e5)) = (0 : Int32) := by rw [own_takes_n e5 v1043 p3 he hv_v1043.symm]; simp [hc66_1005, hc103_1042, hc118_1044]
        refine OEnds.st (fun _ k => XS.icmpNo X1045.here hx rfl (hb hby at_148) rfl (teq hc148_1046).2 k) ?_
        show OEnds p.tables e below G (T1045.setTop (mkF m 151 #[.val (.int p1), .val (.int p2), .val (.int p3), .val (.int v1001), .val (.ref o4), .val (.int e5), .val (.int (0 : Int32)), .val (.int v1043), .val (.int (0 : Int32))] []))
        refine OEnds.st (fun _ k => XS.iconst X1045.here hx rfl (hb hby at_151) k) ?_
        show OEnds p.tables e below G (T1045.setTop (mkF m 152 #[.val (.int p1), .val (.int p2), .val (.int p3), .val (.int v1001), .val (.ref o4), .val (.int e5), .val (.int (0 : Int32)), .val (.int v1043), .val (.int (0 : Int32))] [(.int (1 : Int32))]))
        refine OEnds.st (fun _ k => XS.goto X1045.here hx rfl (pc0 := 152) (pc' := 156) rfl (hb hby at_152) (by decide) (by decide) k) ?_
        show OEnds p.tables e below G (T1045.setTop (mkF m 156 #[.val (.int p1), .val (.int p2), .val (.int p3), .val (.int v1001), .val (.ref o4), .val (.int e5), .val (.int (0 : Int32)), .val (.int v1043), .val (.int (0 : Int32))] [(.int (1 : Int32))]))
        rw [← hG]
        refine OEnds.retZ X1045 hx hlk Bd.returns rfl (hb hby at_156) (by decide) (by decide) ?_
        rw [e1045]
        exact ⟨rfl, N1045⟩
      · -- pc 118: no
        refine OEnds.st (fun _ k => XS.icmpNo X1041.here hx rfl (hb hby at_118) rfl (flt hc118_1044).1 k) ?_
        show OEnds p.tables e below G (T1041.setTop (mkF m 121 #[.val (.int p1), .val (.int p2), .val (.int p3), .val (.int v1001), .val (.ref o4), .val (.int e5), .val (.int (0 : Int32)), .val (.int v1043), .unset] []))
        refine OEnds.st (fun _ k => XS.iload X1041.here hx rfl (hb hby at_121) rfl k) ?_
        show OEnds p.tables e below G (T1041.setTop (mkF m 123 #[.val (.int p1), .val (.int p2), .val (.int p3), .val (.int v1001), .val (.ref o4), .val (.int e5), .val (.int (0 : Int32)), .val (.int v1043), .unset] [(.int v1043)]))
        refine OEnds.st (fun _ k => XS.sipush X1041.here hx rfl (hb hby at_123) k) ?_
        show OEnds p.tables e below G (T1041.setTop (mkF m 126 #[.val (.int p1), .val (.int p2), .val (.int p3), .val (.int v1001), .val (.ref o4), .val (.int e5), .val (.int (0 : Int32)), .val (.int v1043), .unset] [(.int (10000 : Int32)), (.int v1043)]))
        by_cases hc126_1047 : (10000 : Int32) < v1043
        · -- pc 126: yes
          refine OEnds.st (fun _ k => XS.icmpYes X1041.here hx rfl (pc0 := 126) (pc' := 133) rfl (hb hby at_126) rfl (tlt hc126_1047).2.2.1 (by decide) (by decide) k) ?_
          show OEnds p.tables e below G (T1041.setTop (mkF m 133 #[.val (.int p1), .val (.int p2), .val (.int p3), .val (.int v1001), .val (.ref o4), .val (.int e5), .val (.int (0 : Int32)), .val (.int v1043), .unset] []))
          refine OEnds.st (fun _ k => XS.iconst X1041.here hx rfl (hb hby at_133) k) ?_
          show OEnds p.tables e below G (T1041.setTop (mkF m 134 #[.val (.int p1), .val (.int p2), .val (.int p3), .val (.int v1001), .val (.ref o4), .val (.int e5), .val (.int (0 : Int32)), .val (.int v1043), .unset] [(.int (0 : Int32))]))
          refine OEnds.st (fun _ k => XS.istore X1041.here hx rfl (hb hby at_134) rfl (l' := #[.val (.int p1), .val (.int p2), .val (.int p3), .val (.int v1001), .val (.ref o4), .val (.int e5), .val (.int (0 : Int32)), .val (.int v1043), .val (.int (0 : Int32))]) rfl k) ?_
          show OEnds p.tables e below G (T1041.setTop (mkF m 136 #[.val (.int p1), .val (.int p2), .val (.int p3), .val (.int v1001), .val (.ref o4), .val (.int e5), .val (.int (0 : Int32)), .val (.int v1043), .val (.int (0 : Int32))] []))
          refine OEnds.st (fun _ k => XS.aload X1041.here hx rfl (hb hby at_136) rfl rfl k) ?_
          show OEnds p.tables e below G (T1041.setTop (mkF m 138 #[.val (.int p1), .val (.int p2), .val (.int p3), .val (.int v1001), .val (.ref o4), .val (.int e5), .val (.int (0 : Int32)), .val (.int v1043), .val (.int (0 : Int32))] [(.ref o4)]))
          refine OEnds.st (fun _ k => XS.iload X1041.here hx rfl (hb hby at_138) rfl k) ?_
          show OEnds p.tables e below G (T1041.setTop (mkF m 140 #[.val (.int p1), .val (.int p2), .val (.int p3), .val (.int v1001), .val (.ref o4), .val (.int e5), .val (.int (0 : Int32)), .val (.int v1043), .val (.int (0 : Int32))] [(.int v1043), (.ref o4)]))
          refine OEnds.st (fun _ k => XS.iload X1041.here hx rfl (hb hby at_140) rfl k) ?_
          show OEnds p.tables e below G (T1041.setTop (mkF m 142 #[.val (.int p1), .val (.int p2), .val (.int p3), .val (.int v1001), .val (.ref o4), .val (.int e5), .val (.int (0 : Int32)), .val (.int v1043), .val (.int (0 : Int32))] [(.int e5), (.int v1043), (.ref o4)]))
          refine OEnds.st (fun _ k => XS.imul X1041.here hx rfl (hb hby at_142) rfl k) ?_
          show OEnds p.tables e below G (T1041.setTop (mkF m 143 #[.val (.int p1), .val (.int p2), .val (.int p3), .val (.int v1001), .val (.ref o4), .val (.int e5), .val (.int (0 : Int32)), .val (.int v1043), .val (.int (0 : Int32))] [(.int (v1043 * e5)), (.ref o4)]))
          obtain ⟨cq1048, kq1048, q1048a, q1048b, q1048c⟩ := isOf hZ e1041 f1003
          obtain ⟨_, _, ⟨T1048, L1048, k1048c, n1048c⟩, -, X1048, ⟨Lc1048, hQ1048, l1048, y1048, z1048⟩, st1048⟩ := X1041.virtualBack hx (y := (⟨"com/example/clearingd/clearingd/binary/Command", "takes", "(I)Z"⟩ : MethodName)) (z := (⟨"com/example/clearingd/clearingd/binary/Command", "takes", "(I)Z"⟩ : MethodName)) hown (mvT hZ (hw _ (List.mem_of_getElem? (i := 3) rfl))) (mvT hZ (hw _ (List.mem_of_getElem? (i := 4) rfl))) (notFace_of_selects (args := #[]) (mvT hZ (hw _ (List.mem_of_getElem? (i := 6) rfl)))) (mvT hZ (hw _ (List.mem_of_getElem? (i := 6) rfl))) (mvT hZ (hw _ (List.mem_of_getElem? (i := 5) rfl))) (by decide) (backOf (W := 0) (rm1 l Z a0 hw [] o4 (v1043 * e5) e5 h1002 n0 Z1002 f1004 (by rcases he with rfl | rfl <;> decide)) hZ (hw _ (List.mem_of_getElem? (i := 7) rfl)) (hw _ (List.mem_of_getElem? (i := 1) rfl)) (by decide) (by decide)) q1048a q1048c (g := (mkF m 143 #[.val (.int p1), .val (.int p2), .val (.int p3), .val (.int v1001), .val (.ref o4), .val (.int e5), .val (.int (0 : Int32)), .val (.int v1043), .val (.int (0 : Int32))] [(.int (v1043 * e5)), (.ref o4)])) rfl (by rw [hml]; rfl) (Steps.refl _) (argsL := [(.int (v1043 * e5))]) (rest := []) (lenOf pd_0 rfl) rfl (by show 2 * 0 + _ ≤ _; exact Nat.le_of_eq rfl) (hb hby at_143) (fun _ _ => ⟨rfl, e1041, (by decide : 0 + 0 + 0 ≤ _), (by decide : 0 + 0 + 0 ≤ _)⟩)
          dsimp only [Pt.U, Pt.locs, Pt.cells, Pt.slots] at X1048 l1048 y1048 z1048 st1048 hQ1048
          subst l1048 y1048 z1048
          obtain ⟨rfl, N1048q, e1048⟩ := hQ1048
          have N1048 := Fr.app N1041 N1048q
          refine OEnds.st (fun _ k => st1048.trans k) ?_
          show OEnds p.tables e below G (T1048.setTop (mkF m 146 #[.val (.int p1), .val (.int p2), .val (.int p3), .val (.int v1001), .val (.ref o4), .val (.int e5), .val (.int (0 : Int32)), .val (.int v1043), .val (.int (0 : Int32))] [(.int (own_takes e5 (v1043 * e5)))]))
          refine OEnds.st (fun _ k => XS.iload X1048.here hx rfl (hb hby at_146) rfl k) ?_
          show OEnds p.tables e below G (T1048.setTop (mkF m 148 #[.val (.int p1), .val (.int p2), .val (.int p3), .val (.int v1001), .val (.ref o4), .val (.int e5), .val (.int (0 : Int32)), .val (.int v1043), .val (.int (0 : Int32))] [(.int (0 : Int32)), (.int (own_takes e5 (v1043 * e5)))]))
          have hc148_1049 : (own_takes e5 (v1043 * e5)) = (0 : Int32) := by rw [own_takes_n e5 v1043 p3 he hv_v1043.symm]; simp [hc66_1005, hc103_1042, hc118_1044, hc126_1047]
          refine OEnds.st (fun _ k => XS.icmpNo X1048.here hx rfl (hb hby at_148) rfl (teq hc148_1049).2 k) ?_
          show OEnds p.tables e below G (T1048.setTop (mkF m 151 #[.val (.int p1), .val (.int p2), .val (.int p3), .val (.int v1001), .val (.ref o4), .val (.int e5), .val (.int (0 : Int32)), .val (.int v1043), .val (.int (0 : Int32))] []))
          refine OEnds.st (fun _ k => XS.iconst X1048.here hx rfl (hb hby at_151) k) ?_
          show OEnds p.tables e below G (T1048.setTop (mkF m 152 #[.val (.int p1), .val (.int p2), .val (.int p3), .val (.int v1001), .val (.ref o4), .val (.int e5), .val (.int (0 : Int32)), .val (.int v1043), .val (.int (0 : Int32))] [(.int (1 : Int32))]))
          refine OEnds.st (fun _ k => XS.goto X1048.here hx rfl (pc0 := 152) (pc' := 156) rfl (hb hby at_152) (by decide) (by decide) k) ?_
          show OEnds p.tables e below G (T1048.setTop (mkF m 156 #[.val (.int p1), .val (.int p2), .val (.int p3), .val (.int v1001), .val (.ref o4), .val (.int e5), .val (.int (0 : Int32)), .val (.int v1043), .val (.int (0 : Int32))] [(.int (1 : Int32))]))
          rw [← hG]
          refine OEnds.retZ X1048 hx hlk Bd.returns rfl (hb hby at_156) (by decide) (by decide) ?_
          rw [e1048]
          exact ⟨rfl, N1048⟩
        · -- pc 126: no
          refine OEnds.st (fun _ k => XS.icmpNo X1041.here hx rfl (hb hby at_126) rfl (flt hc126_1047).2.2.1 k) ?_
          show OEnds p.tables e below G (T1041.setTop (mkF m 129 #[.val (.int p1), .val (.int p2), .val (.int p3), .val (.int v1001), .val (.ref o4), .val (.int e5), .val (.int (0 : Int32)), .val (.int v1043), .unset] []))
          refine OEnds.st (fun _ k => XS.iconst X1041.here hx rfl (hb hby at_129) k) ?_
          show OEnds p.tables e below G (T1041.setTop (mkF m 130 #[.val (.int p1), .val (.int p2), .val (.int p3), .val (.int v1001), .val (.ref o4), .val (.int e5), .val (.int (0 : Int32)), .val (.int v1043), .unset] [(.int (1 : Int32))]))
          refine OEnds.st (fun _ k => XS.goto X1041.here hx rfl (pc0 := 130) (pc' := 134) rfl (hb hby at_130) (by decide) (by decide) k) ?_
          show OEnds p.tables e below G (T1041.setTop (mkF m 134 #[.val (.int p1), .val (.int p2), .val (.int p3), .val (.int v1001), .val (.ref o4), .val (.int e5), .val (.int (0 : Int32)), .val (.int v1043), .unset] [(.int (1 : Int32))]))
          refine OEnds.st (fun _ k => XS.istore X1041.here hx rfl (hb hby at_134) rfl (l' := #[.val (.int p1), .val (.int p2), .val (.int p3), .val (.int v1001), .val (.ref o4), .val (.int e5), .val (.int (0 : Int32)), .val (.int v1043), .val (.int (1 : Int32))]) rfl k) ?_
          show OEnds p.tables e below G (T1041.setTop (mkF m 136 #[.val (.int p1), .val (.int p2), .val (.int p3), .val (.int v1001), .val (.ref o4), .val (.int e5), .val (.int (0 : Int32)), .val (.int v1043), .val (.int (1 : Int32))] []))
          refine OEnds.st (fun _ k => XS.aload X1041.here hx rfl (hb hby at_136) rfl rfl k) ?_
          show OEnds p.tables e below G (T1041.setTop (mkF m 138 #[.val (.int p1), .val (.int p2), .val (.int p3), .val (.int v1001), .val (.ref o4), .val (.int e5), .val (.int (0 : Int32)), .val (.int v1043), .val (.int (1 : Int32))] [(.ref o4)]))
          refine OEnds.st (fun _ k => XS.iload X1041.here hx rfl (hb hby at_138) rfl k) ?_
          show OEnds p.tables e below G (T1041.setTop (mkF m 140 #[.val (.int p1), .val (.int p2), .val (.int p3), .val (.int v1001), .val (.ref o4), .val (.int e5), .val (.int (0 : Int32)), .val (.int v1043), .val (.int (1 : Int32))] [(.int v1043), (.ref o4)]))
          refine OEnds.st (fun _ k => XS.iload X1041.here hx rfl (hb hby at_140) rfl k) ?_
          show OEnds p.tables e below G (T1041.setTop (mkF m 142 #[.val (.int p1), .val (.int p2), .val (.int p3), .val (.int v1001), .val (.ref o4), .val (.int e5), .val (.int (0 : Int32)), .val (.int v1043), .val (.int (1 : Int32))] [(.int e5), (.int v1043), (.ref o4)]))
          refine OEnds.st (fun _ k => XS.imul X1041.here hx rfl (hb hby at_142) rfl k) ?_
          show OEnds p.tables e below G (T1041.setTop (mkF m 143 #[.val (.int p1), .val (.int p2), .val (.int p3), .val (.int v1001), .val (.ref o4), .val (.int e5), .val (.int (0 : Int32)), .val (.int v1043), .val (.int (1 : Int32))] [(.int (v1043 * e5)), (.ref o4)]))
          obtain ⟨cq1050, kq1050, q1050a, q1050b, q1050c⟩ := isOf hZ e1041 f1003
          obtain ⟨_, _, ⟨T1050, L1050, k1050c, n1050c⟩, -, X1050, ⟨Lc1050, hQ1050, l1050, y1050, z1050⟩, st1050⟩ := X1041.virtualBack hx (y := (⟨"com/example/clearingd/clearingd/binary/Command", "takes", "(I)Z"⟩ : MethodName)) (z := (⟨"com/example/clearingd/clearingd/binary/Command", "takes", "(I)Z"⟩ : MethodName)) hown (mvT hZ (hw _ (List.mem_of_getElem? (i := 3) rfl))) (mvT hZ (hw _ (List.mem_of_getElem? (i := 4) rfl))) (notFace_of_selects (args := #[]) (mvT hZ (hw _ (List.mem_of_getElem? (i := 6) rfl)))) (mvT hZ (hw _ (List.mem_of_getElem? (i := 6) rfl))) (mvT hZ (hw _ (List.mem_of_getElem? (i := 5) rfl))) (by decide) (backOf (W := 0) (rm1 l Z a0 hw [] o4 (v1043 * e5) e5 h1002 n0 Z1002 f1004 (by rcases he with rfl | rfl <;> decide)) hZ (hw _ (List.mem_of_getElem? (i := 7) rfl)) (hw _ (List.mem_of_getElem? (i := 1) rfl)) (by decide) (by decide)) q1050a q1050c (g := (mkF m 143 #[.val (.int p1), .val (.int p2), .val (.int p3), .val (.int v1001), .val (.ref o4), .val (.int e5), .val (.int (0 : Int32)), .val (.int v1043), .val (.int (1 : Int32))] [(.int (v1043 * e5)), (.ref o4)])) rfl (by rw [hml]; rfl) (Steps.refl _) (argsL := [(.int (v1043 * e5))]) (rest := []) (lenOf pd_0 rfl) rfl (by show 2 * 0 + _ ≤ _; exact Nat.le_of_eq rfl) (hb hby at_143) (fun _ _ => ⟨rfl, e1041, (by decide : 0 + 0 + 0 ≤ _), (by decide : 0 + 0 + 0 ≤ _)⟩)
          dsimp only [Pt.U, Pt.locs, Pt.cells, Pt.slots] at X1050 l1050 y1050 z1050 st1050 hQ1050
          subst l1050 y1050 z1050
          obtain ⟨rfl, N1050q, e1050⟩ := hQ1050
          have N1050 := Fr.app N1041 N1050q
          refine OEnds.st (fun _ k => st1050.trans k) ?_
          show OEnds p.tables e below G (T1050.setTop (mkF m 146 #[.val (.int p1), .val (.int p2), .val (.int p3), .val (.int v1001), .val (.ref o4), .val (.int e5), .val (.int (0 : Int32)), .val (.int v1043), .val (.int (1 : Int32))] [(.int (own_takes e5 (v1043 * e5)))]))
          refine OEnds.st (fun _ k => XS.iload X1050.here hx rfl (hb hby at_146) rfl k) ?_
          show OEnds p.tables e below G (T1050.setTop (mkF m 148 #[.val (.int p1), .val (.int p2), .val (.int p3), .val (.int v1001), .val (.ref o4), .val (.int e5), .val (.int (0 : Int32)), .val (.int v1043), .val (.int (1 : Int32))] [(.int (1 : Int32)), (.int (own_takes e5 (v1043 * e5)))]))
          have hc148_1051 : (own_takes e5 (v1043 * e5)) = (1 : Int32) := by rw [own_takes_n e5 v1043 p3 he hv_v1043.symm]; simp [hc66_1005, hc103_1042, hc118_1044, hc126_1047]
          refine OEnds.st (fun _ k => XS.icmpNo X1050.here hx rfl (hb hby at_148) rfl (teq hc148_1051).2 k) ?_
          show OEnds p.tables e below G (T1050.setTop (mkF m 151 #[.val (.int p1), .val (.int p2), .val (.int p3), .val (.int v1001), .val (.ref o4), .val (.int e5), .val (.int (0 : Int32)), .val (.int v1043), .val (.int (1 : Int32))] []))
          refine OEnds.st (fun _ k => XS.iconst X1050.here hx rfl (hb hby at_151) k) ?_
          show OEnds p.tables e below G (T1050.setTop (mkF m 152 #[.val (.int p1), .val (.int p2), .val (.int p3), .val (.int v1001), .val (.ref o4), .val (.int e5), .val (.int (0 : Int32)), .val (.int v1043), .val (.int (1 : Int32))] [(.int (1 : Int32))]))
          refine OEnds.st (fun _ k => XS.goto X1050.here hx rfl (pc0 := 152) (pc' := 156) rfl (hb hby at_152) (by decide) (by decide) k) ?_
          show OEnds p.tables e below G (T1050.setTop (mkF m 156 #[.val (.int p1), .val (.int p2), .val (.int p3), .val (.int v1001), .val (.ref o4), .val (.int e5), .val (.int (0 : Int32)), .val (.int v1043), .val (.int (1 : Int32))] [(.int (1 : Int32))]))
          rw [← hG]
          refine OEnds.retZ X1050 hx hlk Bd.returns rfl (hb hby at_156) (by decide) (by decide) ?_
          rw [e1050]
          exact ⟨rfl, N1050⟩
  show OEnds p.tables e below G (s₁.setTop (mkF m 4 #[.val (.int p1), .val (.int p2), .val (.int p3), .val (.int v1001), .unset, .unset, .unset, .unset, .unset] []))
  refine OEnds.st (fun _ k => XS.iloadN X0.here hx rfl (hb hby at_4) rfl k) ?_
  show OEnds p.tables e below G (s₁.setTop (mkF m 5 #[.val (.int p1), .val (.int p2), .val (.int p3), .val (.int v1001), .unset, .unset, .unset, .unset, .unset] [(.int v1001)]))
  by_cases hc5_1052 : v1001 = (0 : Int32)
  · -- pc 5: yes
    refine OEnds.st (fun _ k => XS.ifNo X0.here hx rfl (hb hby at_5) rfl ((if0 _ _).trans (teq hc5_1052).2) k) ?_
    show OEnds p.tables e below G (s₁.setTop (mkF m 8 #[.val (.int p1), .val (.int p2), .val (.int p3), .val (.int v1001), .unset, .unset, .unset, .unset, .unset] []))
    obtain ⟨T1053, X1053, e1053, st1053⟩ := getS2 X0 hx hZ hown (host := "") (Or.inl (hw _ (List.mem_of_getElem? (i := 0) rfl))) Via.refl e0 St0 (g := (mkF m 8 #[.val (.int p1), .val (.int p2), .val (.int p3), .val (.int v1001), .unset, .unset, .unset, .unset, .unset] [])) rfl (hb hby at_8)
    refine OEnds.st st1053 ?_
    show OEnds p.tables e below G (T1053.setTop (mkF m 11 #[.val (.int p1), .val (.int p2), .val (.int p3), .val (.int v1001), .unset, .unset, .unset, .unset, .unset] [(.ref o0)]))
    refine OEnds.st (fun _ k => XS.astore X1053.here hx rfl (hb hby at_11) rfl rfl (l' := #[.val (.int p1), .val (.int p2), .val (.int p3), .val (.int v1001), .val (.ref o0), .unset, .unset, .unset, .unset]) rfl k) ?_
    show OEnds p.tables e below G (T1053.setTop (mkF m 13 #[.val (.int p1), .val (.int p2), .val (.int p3), .val (.int v1001), .val (.ref o0), .unset, .unset, .unset, .unset] []))
    refine OEnds.st (fun _ k => XS.sipush X1053.here hx rfl (hb hby at_13) k) ?_
    show OEnds p.tables e below G (T1053.setTop (mkF m 16 #[.val (.int p1), .val (.int p2), .val (.int p3), .val (.int v1001), .val (.ref o0), .unset, .unset, .unset, .unset] [(.int (128 : Int32))]))
    refine OEnds.st (fun _ k => XS.istore X1053.here hx rfl (hb hby at_16) rfl (l' := #[.val (.int p1), .val (.int p2), .val (.int p3), .val (.int v1001), .val (.ref o0), .val (.int (128 : Int32)), .unset, .unset, .unset]) rfl k) ?_
    show OEnds p.tables e below G (T1053.setTop (mkF m 18 #[.val (.int p1), .val (.int p2), .val (.int p3), .val (.int v1001), .val (.ref o0), .val (.int (128 : Int32)), .unset, .unset, .unset] []))
    refine OEnds.st (fun _ k => XS.goto X1053.here hx rfl (pc0 := 18) (pc' := 65) rfl (hb hby at_18) (by decide) (by decide) k) ?_
    exact rest65_1002 T1053 _ _ (own_grow X1053 (by decide) (by decide)) e1053 N0 KK0 Z0 o0 (128 : Int32) Ex0 Fl0 (Or.inl rfl)
  · -- pc 5: no
    refine OEnds.st (fun _ k => XS.ifYes X0.here hx rfl (pc0 := 5) (pc' := 21) rfl (hb hby at_5) rfl ((if0 _ _).trans (feq hc5_1052).2) (by decide) (by decide) k) ?_
    show OEnds p.tables e below G (s₁.setTop (mkF m 21 #[.val (.int p1), .val (.int p2), .val (.int p3), .val (.int v1001), .unset, .unset, .unset, .unset, .unset] []))
    refine OEnds.st (fun _ k => XS.iloadN X0.here hx rfl (hb hby at_21) rfl k) ?_
    show OEnds p.tables e below G (s₁.setTop (mkF m 22 #[.val (.int p1), .val (.int p2), .val (.int p3), .val (.int v1001), .unset, .unset, .unset, .unset, .unset] [(.int v1001)]))
    refine OEnds.st (fun _ k => XS.iconst X0.here hx rfl (hb hby at_22) k) ?_
    show OEnds p.tables e below G (s₁.setTop (mkF m 23 #[.val (.int p1), .val (.int p2), .val (.int p3), .val (.int v1001), .unset, .unset, .unset, .unset, .unset] [(.int (1 : Int32)), (.int v1001)]))
    by_cases hc23_1054 : v1001 = (1 : Int32)
    · -- pc 23: yes
      refine OEnds.st (fun _ k => XS.icmpNo X0.here hx rfl (hb hby at_23) rfl (teq hc23_1054).2 k) ?_
      show OEnds p.tables e below G (s₁.setTop (mkF m 26 #[.val (.int p1), .val (.int p2), .val (.int p3), .val (.int v1001), .unset, .unset, .unset, .unset, .unset] []))
      obtain ⟨T1055, X1055, e1055, st1055⟩ := getS2 X0 hx hZ hown (host := "") (Or.inl (hw _ (List.mem_of_getElem? (i := 10) rfl))) Via.refl e0 St1 (g := (mkF m 26 #[.val (.int p1), .val (.int p2), .val (.int p3), .val (.int v1001), .unset, .unset, .unset, .unset, .unset] [])) rfl (hb hby at_26)
      refine OEnds.st st1055 ?_
      show OEnds p.tables e below G (T1055.setTop (mkF m 29 #[.val (.int p1), .val (.int p2), .val (.int p3), .val (.int v1001), .unset, .unset, .unset, .unset, .unset] [(.ref o1)]))
      refine OEnds.st (fun _ k => XS.astore X1055.here hx rfl (hb hby at_29) rfl rfl (l' := #[.val (.int p1), .val (.int p2), .val (.int p3), .val (.int v1001), .val (.ref o1), .unset, .unset, .unset, .unset]) rfl k) ?_
      show OEnds p.tables e below G (T1055.setTop (mkF m 31 #[.val (.int p1), .val (.int p2), .val (.int p3), .val (.int v1001), .val (.ref o1), .unset, .unset, .unset, .unset] []))
      refine OEnds.st (fun _ k => XS.sipush X1055.here hx rfl (hb hby at_31) k) ?_
      show OEnds p.tables e below G (T1055.setTop (mkF m 34 #[.val (.int p1), .val (.int p2), .val (.int p3), .val (.int v1001), .val (.ref o1), .unset, .unset, .unset, .unset] [(.int (128 : Int32))]))
      refine OEnds.st (fun _ k => XS.istore X1055.here hx rfl (hb hby at_34) rfl (l' := #[.val (.int p1), .val (.int p2), .val (.int p3), .val (.int v1001), .val (.ref o1), .val (.int (128 : Int32)), .unset, .unset, .unset]) rfl k) ?_
      show OEnds p.tables e below G (T1055.setTop (mkF m 36 #[.val (.int p1), .val (.int p2), .val (.int p3), .val (.int v1001), .val (.ref o1), .val (.int (128 : Int32)), .unset, .unset, .unset] []))
      refine OEnds.st (fun _ k => XS.goto X1055.here hx rfl (pc0 := 36) (pc' := 65) rfl (hb hby at_36) (by decide) (by decide) k) ?_
      exact rest65_1002 T1055 _ _ (own_grow X1055 (by decide) (by decide)) e1055 N0 KK0 Z0 o1 (128 : Int32) Ex1 Fl1 (Or.inl rfl)
    · -- pc 23: no
      refine OEnds.st (fun _ k => XS.icmpYes X0.here hx rfl (pc0 := 23) (pc' := 39) rfl (hb hby at_23) rfl (feq hc23_1054).2 (by decide) (by decide) k) ?_
      show OEnds p.tables e below G (s₁.setTop (mkF m 39 #[.val (.int p1), .val (.int p2), .val (.int p3), .val (.int v1001), .unset, .unset, .unset, .unset, .unset] []))
      refine OEnds.st (fun _ k => XS.iloadN X0.here hx rfl (hb hby at_39) rfl k) ?_
      show OEnds p.tables e below G (s₁.setTop (mkF m 40 #[.val (.int p1), .val (.int p2), .val (.int p3), .val (.int v1001), .unset, .unset, .unset, .unset, .unset] [(.int v1001)]))
      refine OEnds.st (fun _ k => XS.iconst X0.here hx rfl (hb hby at_40) k) ?_
      show OEnds p.tables e below G (s₁.setTop (mkF m 41 #[.val (.int p1), .val (.int p2), .val (.int p3), .val (.int v1001), .unset, .unset, .unset, .unset, .unset] [(.int (2 : Int32)), (.int v1001)]))
      by_cases hc41_1056 : v1001 = (2 : Int32)
      · -- pc 41: yes
        refine OEnds.st (fun _ k => XS.icmpNo X0.here hx rfl (hb hby at_41) rfl (teq hc41_1056).2 k) ?_
        show OEnds p.tables e below G (s₁.setTop (mkF m 44 #[.val (.int p1), .val (.int p2), .val (.int p3), .val (.int v1001), .unset, .unset, .unset, .unset, .unset] []))
        obtain ⟨T1057, X1057, e1057, st1057⟩ := getS2 X0 hx hZ hown (host := "") (Or.inl (hw _ (List.mem_of_getElem? (i := 14) rfl))) Via.refl e0 St3 (g := (mkF m 44 #[.val (.int p1), .val (.int p2), .val (.int p3), .val (.int v1001), .unset, .unset, .unset, .unset, .unset] [])) rfl (hb hby at_44)
        refine OEnds.st st1057 ?_
        show OEnds p.tables e below G (T1057.setTop (mkF m 47 #[.val (.int p1), .val (.int p2), .val (.int p3), .val (.int v1001), .unset, .unset, .unset, .unset, .unset] [(.ref o3)]))
        refine OEnds.st (fun _ k => XS.astore X1057.here hx rfl (hb hby at_47) rfl rfl (l' := #[.val (.int p1), .val (.int p2), .val (.int p3), .val (.int v1001), .val (.ref o3), .unset, .unset, .unset, .unset]) rfl k) ?_
        show OEnds p.tables e below G (T1057.setTop (mkF m 49 #[.val (.int p1), .val (.int p2), .val (.int p3), .val (.int v1001), .val (.ref o3), .unset, .unset, .unset, .unset] []))
        refine OEnds.st (fun _ k => XS.bipush X1057.here hx rfl (hb hby at_49) k) ?_
        show OEnds p.tables e below G (T1057.setTop (mkF m 51 #[.val (.int p1), .val (.int p2), .val (.int p3), .val (.int v1001), .val (.ref o3), .unset, .unset, .unset, .unset] [(.int (16 : Int32))]))
        refine OEnds.st (fun _ k => XS.istore X1057.here hx rfl (hb hby at_51) rfl (l' := #[.val (.int p1), .val (.int p2), .val (.int p3), .val (.int v1001), .val (.ref o3), .val (.int (16 : Int32)), .unset, .unset, .unset]) rfl k) ?_
        show OEnds p.tables e below G (T1057.setTop (mkF m 53 #[.val (.int p1), .val (.int p2), .val (.int p3), .val (.int v1001), .val (.ref o3), .val (.int (16 : Int32)), .unset, .unset, .unset] []))
        refine OEnds.st (fun _ k => XS.goto X1057.here hx rfl (pc0 := 53) (pc' := 65) rfl (hb hby at_53) (by decide) (by decide) k) ?_
        exact rest65_1002 T1057 _ _ (own_grow X1057 (by decide) (by decide)) e1057 N0 KK0 Z0 o3 (16 : Int32) Ex3 Fl3 (Or.inr rfl)
      · -- pc 41: no
        refine OEnds.st (fun _ k => XS.icmpYes X0.here hx rfl (pc0 := 41) (pc' := 56) rfl (hb hby at_41) rfl (feq hc41_1056).2 (by decide) (by decide) k) ?_
        show OEnds p.tables e below G (s₁.setTop (mkF m 56 #[.val (.int p1), .val (.int p2), .val (.int p3), .val (.int v1001), .unset, .unset, .unset, .unset, .unset] []))
        obtain ⟨T1058, X1058, e1058, st1058⟩ := getS2 X0 hx hZ hown (host := "") (Or.inl (hw _ (List.mem_of_getElem? (i := 12) rfl))) Via.refl e0 St2 (g := (mkF m 56 #[.val (.int p1), .val (.int p2), .val (.int p3), .val (.int v1001), .unset, .unset, .unset, .unset, .unset] [])) rfl (hb hby at_56)
        refine OEnds.st st1058 ?_
        show OEnds p.tables e below G (T1058.setTop (mkF m 59 #[.val (.int p1), .val (.int p2), .val (.int p3), .val (.int v1001), .unset, .unset, .unset, .unset, .unset] [(.ref o2)]))
        refine OEnds.st (fun _ k => XS.astore X1058.here hx rfl (hb hby at_59) rfl rfl (l' := #[.val (.int p1), .val (.int p2), .val (.int p3), .val (.int v1001), .val (.ref o2), .unset, .unset, .unset, .unset]) rfl k) ?_
        show OEnds p.tables e below G (T1058.setTop (mkF m 61 #[.val (.int p1), .val (.int p2), .val (.int p3), .val (.int v1001), .val (.ref o2), .unset, .unset, .unset, .unset] []))
        refine OEnds.st (fun _ k => XS.bipush X1058.here hx rfl (hb hby at_61) k) ?_
        show OEnds p.tables e below G (T1058.setTop (mkF m 63 #[.val (.int p1), .val (.int p2), .val (.int p3), .val (.int v1001), .val (.ref o2), .unset, .unset, .unset, .unset] [(.int (16 : Int32))]))
        refine OEnds.st (fun _ k => XS.istore X1058.here hx rfl (hb hby at_63) rfl (l' := #[.val (.int p1), .val (.int p2), .val (.int p3), .val (.int v1001), .val (.ref o2), .val (.int (16 : Int32)), .unset, .unset, .unset]) rfl k) ?_
        exact rest65_1002 T1058 _ _ (own_grow X1058 (by decide) (by decide)) e1058 N0 KK0 Z0 o2 (16 : Int32) Ex2 Fl2 (Or.inr rfl)
set_option maxRecDepth 65536 in
set_option maxHeartbeats 40000000 in
theorem comes_1 {Post : Tables → Env → Array Value → State → Outcome → State → Prop} (hpost : ∀ tb e args s v u, (limb_1_1.after args s (.returned v) u = true ∧ limb_1_2.after args s (.returned v) u = true ∧ True) → FrameEnd s (.returned v) u (Jvm.fieldLocs frame_1_writes args s ++ Jvm.arrayLocs frame_1_arrays args s ++ Jvm.staticLocs frame_1_statics s) 0 0 → Post tb e args s (.returned v) u) :
    ArmFor flags0 classFile x code maxLocals ret World_1 tables_1 room_1 Calls_1 rest_1 Pre_1 Post := by
  intro l hfl _ _ p e ha hc hk s m args below hf hA hF happ hP
  obtain ⟨hcalls, hrest, hpre⟩ := hP
  obtain ⟨-, -, -, hnamed, -, -, -, hat⟩ := (Spec.applies_iff hf).mp happ
  obtain ⟨hg, hn⟩ := and_e (Cond.before_iff.mp (show (Jvm.Cond.and given_1 narrow_1).before args s = true from hpre))
  obtain ⟨gc, gr0⟩ := and_e hg
  obtain ⟨ga0, gr1⟩ := and_e gr0
  obtain ⟨ga1, gr2⟩ := and_e gr1
  obtain ⟨w0, w1, w2, rfl⟩ : ∃ w0 w1 w2 : Value, args = #[w0, w1, w2] := by
    have hs : args.size = 3 := by simpa [Cond.value, given_1] using gc
    obtain ⟨L⟩ := args
    match L, hs with
    | [w0, w1, w2], _ => exact ⟨w0, w1, w2, rfl⟩
  have hw := fun d (hd : d ∈ tables_1) => atoms_spec (ws := Jvm.Cond.code x code maxLocals ret :: tables_1) hat d (List.mem_cons_of_mem _ hd)
  have hfit : Fit s := fun {y c} hc i hi => by
    obtain ⟨ha, rfl⟩ := Array.getElem?_eq_some_iff.mp hc
    have q := List.all_eq_true.mp ((Array.all_eq_true_iff_forall_mem.mp hF) _ (Array.getElem_mem ha)) i (List.mem_range.mpr hi)
    simpa [Array.getElem?_eq_getElem hi] using q
  obtain ⟨i0, ei0⟩ := is_v ga0
  obtain rfl : w0 = (.int i0) := Option.some.inj ei0
  obtain ⟨i1, ei1⟩ := is_v ga1
  obtain rfl : w1 = (.int i1) := Option.some.inj ei1
  obtain ⟨i2, ei2⟩ := is_v gr2
  obtain rfl : w2 = (.int i2) := Option.some.inj ei2
  obtain ⟨nx0, hn0⟩ := and_e hn
  obtain ⟨ny0, hm0⟩ := and_e hn0
  obtain ⟨o0, ev0⟩ := exa_v nx0
  obtain ⟨nx1, hn1⟩ := and_e hm0
  obtain ⟨ny1, hm1⟩ := and_e hn1
  obtain ⟨o1, ev1⟩ := exa_v nx1
  obtain ⟨nx2, hn2⟩ := and_e hm1
  obtain ⟨ny2, hm2⟩ := and_e hn2
  obtain ⟨o2, ev2⟩ := exa_v nx2
  obtain ⟨nx3, hn3⟩ := and_e hm2
  obtain ⟨o3, ev3⟩ := exa_v nx3
  obtain ⟨n, o, h1, h2, h3, _, L, rfl, ⟨rfl, N⟩, hq⟩ := rm0 l s _ hw tables_1 i0 i1 i2 o0 o1 o2 o3 s.heap s.heap.size (Nat.le_refl _) (Sta.start ev0 (Or.inr ⟨(hw _ (List.mem_of_getElem? (i := 1) rfl)), (hw _ (List.mem_of_getElem? (i := 2) rfl))⟩)) (Exa.start ev0 nx0) (own_fld ev0 ny0) (Sta.start ev1 (Or.inr ⟨(hw _ (List.mem_of_getElem? (i := 1) rfl)), (hw _ (List.mem_of_getElem? (i := 11) rfl))⟩)) (Exa.start ev1 nx1) (own_fld ev1 ny1) (Sta.start ev2 (Or.inr ⟨(hw _ (List.mem_of_getElem? (i := 1) rfl)), (hw _ (List.mem_of_getElem? (i := 13) rfl))⟩)) (Exa.start ev2 nx2) (own_fld ev2 ny2) (Sta.start ev3 (Or.inr ⟨(hw _ (List.mem_of_getElem? (i := 1) rfl)), (hw _ (List.mem_of_getElem? (i := 15) rfl))⟩)) (Exa.start ev3 nx3) (own_fld ev3 hn3) p e ha hc hk s m _ below hf ((Spec.applies_iff_loose hf).mp happ).1 ⟨rfl, State.Warmed39.refl s, rfl⟩ trivial
  refine ⟨n, _, h1, h2, h3, hpost _ _ _ _ _ _ ⟨Cond.after_iff.mpr rfl, Cond.after_iff.mpr (eq_i res_at (Term.int_eval (1)) rfl), trivial⟩ ⟨hq.1, hq.2.1, (hq.2.2.sift fun y hy => Or.inr (N y hy)).mono (by decide) (by decide)⟩⟩
theorem main_1_1 : Claimed_1_1 := comes_1 fun _ _ _ _ _ _ h hF => ⟨h.1, hF⟩
theorem main_1_2 : Claimed_1_2 := comes_1 fun _ _ _ _ _ _ h hF => ⟨h.2.1, hF⟩
end Jvm.Pilot.@@N@@
namespace Jvm.Pilot.@@N@@
open Jvm Jvm.ClassFile Sem Op Lib Jvm.Free Jvm.Stand Jvm.Pilot.@@N@@.Jvm.D
/-! MADE BY PROGRAM (witnessworld.py) out of the Statement's table words and the real class files: 13 classes; the members and pool entries that the words name. The judged class is class 1, her method 1. -/
namespace start1
open Jvm.ClassFile
def u (s : String) : CpInfo := .utf8 (stringToUtf16 s)
/-- a pool by its gaps: so many unusable entries, then the entry; so many at the end -/
def gap : Nat → List CpInfo → List CpInfo
  | 0, r => r
  | n + 1, r => .unusable :: gap n r
def poolList (es : List (Nat × CpInfo)) (last : Nat) : List CpInfo := es.foldr (fun e r => gap e.1 (e.2 :: r)) (gap last [])
def pool (es : List (Nat × CpInfo)) (last : Nat) : Array CpInfo := ⟨poolList es last⟩
def fileOf (pool : Array CpInfo) (this : Nat) (attrs : Array Attribute := #[]) (ms : Array MethodInfo := #[]) (fl : Nat := 33) (sup : Nat := 0) (ifs : Array Nat := #[]) (fds : Array FieldInfo := #[]) : ClassFile where
  minorVersion := 0
  majorVersion := 65
  constantPool := pool
  accessFlags := fl
  thisClass := this
  superClass := sup
  interfaces := ifs
  fields := fds
  methods := ms
  attributes := attrs
def plain (name : String) (sup : Option ClassId) : Class where
  name := name
  kind := .ordinary
  loader := none
  accessFlags := 33
  super := sup
  interfaces := #[]
  cf := none
  fields := #[]
  methods := #[]
  instanceTypes := #[]
  staticTypes := #[]
  resolved := #[]
  callSites := []
  init := .initialized
  statics := none
  mirror := none

def pool0 : Array CpInfo := pool [(5, u "<init>"), (0, u "()V"), (1, .class_ 10), (1, u "java/lang/Object")] 113

def k0m0 : Method := { name := "<init>", desc := "()V", sig := { parameters := [], returnType := none }, accessFlags := 1, code := none }
/-- java/lang/Object -/
def k0 : Class := { plain "java/lang/Object" none with
  accessFlags := 33
  interfaces := #[]
  cf := some (fileOf pool0 8 #[] #[{ accessFlags := 1, nameIndex := 5, descriptorIndex := 6, attributes := #[] }] 33 0 #[] #[])
  fields := #[]
  methods := #[k0m0]
  instanceTypes := #[]
  staticTypes := #[]
  resolved := Array.replicate 124 none
  statics := none }

def pool1 : Array CpInfo := pool [(2, .class_ 4), (1, u "java/lang/Object"), (0, u "<init>"), (0, u "()V"), (0, .fieldref 8 9), (0, .class_ 10), (0, .nameAndType 11 12), (0, u "com/example/clearingd/clearingd/binary/Command"), (0, u "CREATE_ACCOUNTS"), (0, u "Lcom/example/clearingd/clearingd/binary/Command;"), (0, .fieldref 8 14), (0, .nameAndType 15 12), (0, u "CREATE_TRANSFERS"), (0, .fieldref 8 17), (0, .nameAndType 18 12), (0, u "LOOKUP_ACCOUNTS"), (0, .fieldref 8 20), (0, .nameAndType 21 12), (0, u "LOOKUP_TRANSFERS"), (0, .methodref 8 23), (0, .nameAndType 24 25), (0, u "takes"), (0, u "(I)Z"), (0, .class_ 27), (0, u "com/example/clearingd/clearingd/binary/CommandTakesPinLaw"), (2, u "law"), (0, u "(III)Z")] 3

def k1m0 : Method := { name := "<init>", desc := "()V", sig := { parameters := [], returnType := none }, accessFlags := 1, code := none }
def k1c1 : Code := { maxStack := 3, maxLocals := 9, code := code, exceptionTable := #[], attributes := #[] }
def k1m1 : Method := { name := "law", desc := "(III)Z", sig := { parameters := [.int, .int, .int], returnType := some .boolean }, accessFlags := 9, code := some k1c1 }
/-- com/example/clearingd/clearingd/binary/CommandTakesPinLaw -/
def k1 : Class := { plain "com/example/clearingd/clearingd/binary/CommandTakesPinLaw" (some 0) with
  accessFlags := 49
  interfaces := #[]
  cf := some (fileOf pool1 26 #[] #[{ accessFlags := 1, nameIndex := 5, descriptorIndex := 6, attributes := #[] }, { accessFlags := 9, nameIndex := 30, descriptorIndex := 31, attributes := #[] }] 49 2 #[] #[])
  fields := #[]
  methods := #[k1m0, k1m1]
  instanceTypes := #[]
  staticTypes := #[]
  resolved := Array.replicate 35 none
  statics := none }

def pool2 : Array CpInfo := pool [(1, .class_ 2), (0, u "java/lang/constant/Constable"), (0, .class_ 4), (0, u "java/lang/Object")] 6

/-- java/lang/constant/Constable -/
def k2 : Class := { plain "java/lang/constant/Constable" (some 0) with
  accessFlags := 1537
  interfaces := #[]
  cf := some (fileOf pool2 1 #[] #[] 1537 3 #[] #[])
  fields := #[]
  methods := #[]
  instanceTypes := #[]
  staticTypes := #[]
  resolved := Array.replicate 11 none
  statics := none }

def pool3 : Array CpInfo := pool [(1, .class_ 2), (0, u "java/lang/Comparable"), (0, .class_ 4), (0, u "java/lang/Object")] 7

/-- java/lang/Comparable -/
def k3 : Class := { plain "java/lang/Comparable" (some 0) with
  accessFlags := 1537
  interfaces := #[]
  cf := some (fileOf pool3 1 #[] #[] 1537 3 #[] #[])
  fields := #[]
  methods := #[]
  instanceTypes := #[]
  staticTypes := #[]
  resolved := Array.replicate 12 none
  statics := none }

def pool4 : Array CpInfo := pool [(1, .class_ 2), (0, u "java/io/Serializable"), (0, .class_ 4), (0, u "java/lang/Object")] 2

/-- java/io/Serializable -/
def k4 : Class := { plain "java/io/Serializable" (some 0) with
  accessFlags := 1537
  interfaces := #[]
  cf := some (fileOf pool4 1 #[] #[] 1537 3 #[] #[])
  fields := #[]
  methods := #[]
  instanceTypes := #[]
  staticTypes := #[]
  resolved := Array.replicate 7 none
  statics := none }

def pool5 : Array CpInfo := pool [(2, .class_ 4), (1, u "java/lang/Enum"), (0, u "name"), (0, u "Ljava/lang/String;"), (2, u "ordinal"), (0, u "I"), (1, .class_ 14), (1, u "java/lang/Object"), (4, u "hash"), (86, .class_ 108), (1, u "java/lang/Enum$EnumDesc"), (2, .class_ 112), (0, u "java/lang/constant/Constable"), (0, .class_ 114), (0, u "java/lang/Comparable"), (0, .class_ 116), (0, u "java/io/Serializable")] 87

/-- java/lang/Enum -/
def k5 : Class := { plain "java/lang/Enum" (some 0) with
  accessFlags := 1057
  interfaces := #[2, 3, 4]
  cf := some (fileOf pool5 2 #[.nestMembers #[106]] #[] 1057 12 #[111, 113, 115] #[{ accessFlags := 18, nameIndex := 5, descriptorIndex := 6, attributes := #[] }, { accessFlags := 18, nameIndex := 9, descriptorIndex := 10, attributes := #[] }, { accessFlags := 2, nameIndex := 19, descriptorIndex := 10, attributes := #[] }])
  fields := #[{ name := "name", type := (.object "java/lang/String"), accessFlags := 18, slot := 0, constantValue := 0 }, { name := "ordinal", type := .int, accessFlags := 18, slot := 1, constantValue := 0 }, { name := "hash", type := .int, accessFlags := 2, slot := 2, constantValue := 0 }]
  methods := #[]
  instanceTypes := #[(.object "java/lang/String"), .int, .int]
  staticTypes := #[]
  resolved := Array.replicate 204 none
  statics := none }

def pool6 : Array CpInfo := pool [(15, .class_ 16), (0, u "com/example/clearingd/clearingd/model/Coded"), (8, .class_ 26), (0, u "java/lang/Object")] 9

/-- com/example/clearingd/clearingd/model/Coded -/
def k6 : Class := { plain "com/example/clearingd/clearingd/model/Coded" (some 0) with
  accessFlags := 1537
  interfaces := #[]
  cf := some (fileOf pool6 15 #[] #[] 1537 25 #[] #[])
  fields := #[]
  methods := #[]
  instanceTypes := #[]
  staticTypes := #[]
  resolved := Array.replicate 36 none
  statics := none }

def pool7 : Array CpInfo := pool [(1, .class_ 2), (0, u "com/example/clearingd/clearingd/binary/Command"), (2, u "CREATE_ACCOUNTS"), (0, u "Lcom/example/clearingd/clearingd/binary/Command;"), (2, u "CREATE_TRANSFERS"), (2, u "LOOKUP_ACCOUNTS"), (2, u "LOOKUP_TRANSFERS"), (2, u "$VALUES"), (0, u "[Lcom/example/clearingd/clearingd/binary/Command;"), (6, .class_ 28), (1, u "java/lang/Enum"), (8, u "code"), (0, u "I"), (0, .fieldref 1 40), (0, .nameAndType 41 38), (0, u "elementBytes"), (2, u "replyElementBytes"), (4, u "takes"), (0, u "(I)Z"), (15, .class_ 67), (0, u "com/example/clearingd/clearingd/model/Coded")] 18

def k7c0 : Code := { maxStack := 2, maxLocals := 2, code := prog_4_method_6_code, exceptionTable := #[], attributes := #[] }
def k7m0 : Method := { name := "takes", desc := "(I)Z", sig := { parameters := [.int], returnType := some .boolean }, accessFlags := 0, code := some k7c0 }
/-- com/example/clearingd/clearingd/binary/Command -/
def k7 : Class := { plain "com/example/clearingd/clearingd/binary/Command" (some 5) with
  accessFlags := 16432
  interfaces := #[6]
  cf := some (fileOf pool7 1 #[] #[{ accessFlags := 0, nameIndex := 49, descriptorIndex := 50, attributes := #[] }] 16432 26 #[66] #[{ accessFlags := 16409, nameIndex := 5, descriptorIndex := 6, attributes := #[] }, { accessFlags := 16409, nameIndex := 9, descriptorIndex := 6, attributes := #[] }, { accessFlags := 16409, nameIndex := 12, descriptorIndex := 6, attributes := #[] }, { accessFlags := 16409, nameIndex := 15, descriptorIndex := 6, attributes := #[] }, { accessFlags := 18, nameIndex := 37, descriptorIndex := 38, attributes := #[] }, { accessFlags := 18, nameIndex := 41, descriptorIndex := 38, attributes := #[] }, { accessFlags := 18, nameIndex := 44, descriptorIndex := 38, attributes := #[] }, { accessFlags := 4122, nameIndex := 18, descriptorIndex := 19, attributes := #[] }])
  fields := #[{ name := "CREATE_ACCOUNTS", type := (.object "com/example/clearingd/clearingd/binary/Command"), accessFlags := 16409, slot := 0, constantValue := 0 }, { name := "CREATE_TRANSFERS", type := (.object "com/example/clearingd/clearingd/binary/Command"), accessFlags := 16409, slot := 1, constantValue := 0 }, { name := "LOOKUP_ACCOUNTS", type := (.object "com/example/clearingd/clearingd/binary/Command"), accessFlags := 16409, slot := 2, constantValue := 0 }, { name := "LOOKUP_TRANSFERS", type := (.object "com/example/clearingd/clearingd/binary/Command"), accessFlags := 16409, slot := 3, constantValue := 0 }, { name := "code", type := .int, accessFlags := 18, slot := 3, constantValue := 0 }, { name := "elementBytes", type := .int, accessFlags := 18, slot := 4, constantValue := 0 }, { name := "replyElementBytes", type := .int, accessFlags := 18, slot := 5, constantValue := 0 }, { name := "$VALUES", type := (.array (.object "com/example/clearingd/clearingd/binary/Command")), accessFlags := 4122, slot := 4, constantValue := 0 }]
  methods := #[k7m0]
  instanceTypes := #[(.object "java/lang/String"), .int, .int, .int, .int, .int]
  staticTypes := #[(.object "com/example/clearingd/clearingd/binary/Command"), (.object "com/example/clearingd/clearingd/binary/Command"), (.object "com/example/clearingd/clearingd/binary/Command"), (.object "com/example/clearingd/clearingd/binary/Command"), (.array (.object "com/example/clearingd/clearingd/binary/Command"))]
  resolved := Array.replicate 86 none
  statics := some 0 }

def pool8 : Array CpInfo := pool [(1, u "java/lang/Cloneable"), (0, .class_ 1), (0, u "java/lang/Object"), (0, .class_ 3)] 3

/-- java/lang/Cloneable -/
def k8 : Class := { plain "java/lang/Cloneable" (some 0) with
  accessFlags := 1537
  interfaces := #[]
  cf := some (fileOf pool8 2 #[] #[] 1537 4 #[] #[])
  fields := #[]
  methods := #[]
  instanceTypes := #[]
  staticTypes := #[]
  resolved := Array.replicate 8 none
  statics := none }

/-- the primitive byte -/
def k9 : Class := { plain "byte" none with kind := .primitive 'B', accessFlags := 0x411 }
/-- [B -/
def k10 : Class := { plain "[B" (some 0) with kind := .array 9 .byte, interfaces := #[8, 4], accessFlags := 1041 }

/-- the primitive int -/
def k11 : Class := { plain "int" none with kind := .primitive 'I', accessFlags := 0x411 }
/-- [I -/
def k12 : Class := { plain "[I" (some 0) with kind := .array 11 .int, interfaces := #[8, 4], accessFlags := 1041 }

def heap : Heap := #[{ cls := 7, slots := #[.ref 1, .ref 2, .ref 4, .ref 3, .null], vm := .statics 7 },
  { cls := 7, slots := #[.null, .int 0, .int 0, .int 0, .int 128, .int 0], vm := .none },
  { cls := 7, slots := #[.null, .int 0, .int 0, .int 0, .int 128, .int 0], vm := .none },
  { cls := 7, slots := #[.null, .int 0, .int 0, .int 0, .int 16, .int 0], vm := .none },
  { cls := 7, slots := #[.null, .int 0, .int 0, .int 0, .int 16, .int 0], vm := .none }]
def classes : Array Class := #[k0, k1, k2, k3, k4, k5, k6, k7, k8, k9, k10, k11, k12]
def interned : List (Array UInt16 × Addr) := []
def slotsUsed : Nat := 29
def theMethod : MethodId := ⟨1, 1⟩
def args0 : Array Value := #[.int 1, .int 256, .int 3]
def aboutOver (below : List Frame) : State where
  vm := { classes := classes, interned := interned.toArray }
  heap := heap
  slotsUsed := slotsUsed
  threads := #[{ frames := .invoking theMethod args0 :: below }]
def below0 : List Frame := [.native { method := ⟨0, 0⟩, args := #[] }]
def about1 : State := aboutOver below0
def p0 : Program := .bare "" "" ""
def e0 : Env := launch0.env 0 0 0
theorem w_frames : about1.frames = Frame.invoking theMethod args0 :: below0 := rfl
set_option maxRecDepth 65536 in
theorem w_args : argsFit about1.vm theMethod args0 = true := by decide +kernel
set_option maxRecDepth 65536 in
theorem w_heap : heapFits about1 = true := by decide +kernel
set_option maxRecDepth 65536 in
theorem w_runnable : about1.curStatus? = some .runnable := by decide +kernel
set_option maxRecDepth 65536 in
theorem w_alone : about1.alone = true := by decide +kernel
set_option maxRecDepth 65536 in
theorem w_named : about1.methodNamed? x = some theMethod := by decide +kernel
set_option maxRecDepth 65536 in
theorem w_hears : about1.hears theMethod below0 = true := by decide +kernel
set_option maxRecDepth 65536 in
theorem w_ripe : about1.ripe theMethod args0 below0 = true := by decide +kernel
theorem w_running : about1.status = .running := rfl
set_option maxRecDepth 65536 in
theorem w_room : about1.hasRoom e0.platform room_1 = true :=
  launch0.hasRoom_least _ room_1 (by decide +kernel) (by decide +kernel) (by decide +kernel) (by decide +kernel) (by decide +kernel) (by decide +kernel)
theorem allAtoms_all (ts : List Jvm.Cond) (a : Array Jvm.Value) (st : Jvm.State) : (allAtoms ts).before a st = ts.all (fun c => c.before a st) := by
  induction ts with
  | nil => rfl
  | cons c t ih =>
    show (Jvm.Cond.and c (allAtoms t)).before a st = _
    rw [Jvm.Cond.before_and, ih, List.all_cons]
def words1 : List Jvm.Cond := Jvm.Cond.code x code maxLocals ret :: tables_1
/-- a 'code' word, met by the world's own term for the bytes: nothing is compared byte by byte -/
theorem code_word {y : MethodName} {bytes : ByteArray} {mx : Nat} {rt : Option FieldType} {a : Array Value} {s : State} {m : MethodId} {meth : Method} {c : Code} (h1 : s.methodNamed? y = some m) (h2 : s.vm.method? m = some meth) (h3 : meth.code = some c) (h4 : c.code = bytes)
    (h5 : (c.maxLocals == mx && c.exceptionTable.isEmpty && decide (c.maxStack ≤ mostOperands) && decide (meth.sig.returnType = rt) && !meth.locks && decide (parseMethodDescriptor y.desc = some meth.sig)) = true) : (Jvm.Cond.code y bytes mx rt).before a s = true := by
  simp only [Bool.and_eq_true, beq_iff_eq, Bool.not_eq_true', decide_eq_true_eq] at h5
  obtain ⟨⟨⟨⟨⟨g1, g2⟩, g3⟩, g4⟩, g5⟩, g6⟩ := h5
  simp [Cond.before, Cond.holds, Cond.value, h1, h2, h3, h4, g1, g2, g3, g4, g5, g6]
def isCode : Jvm.Cond → Bool
  | .code _ _ _ _ => true
  | _ => false
theorem all_split {L : List Jvm.Cond} {P : Jvm.Cond → Bool} (h1 : L.all (fun c => isCode c || P c) = true) (h2 : ∀ c ∈ L.filter isCode, P c = true) : L.all P = true := by
  refine List.all_eq_true.mpr fun c hc => ?_
  have h := List.all_eq_true.mp h1 c hc
  rcases Bool.eq_false_or_eq_true (isCode c) with hi | hi
  · exact h2 c (List.mem_filter.mpr ⟨hc, hi⟩)
  · simpa [hi] using h
set_option maxRecDepth 65536 in
theorem w_c0 : (Jvm.Cond.code x code maxLocals ret).before args0 about1 = true := code_word (m := ⟨1, 1⟩) (meth := k1m1) (c := k1c1) (by decide +kernel) rfl rfl rfl (by decide +kernel)
set_option maxRecDepth 65536 in
theorem w_c1 : (Jvm.Cond.code ({ cls := "com/example/clearingd/clearingd/binary/Command", name := "takes", desc := "(I)Z" } : Jvm.MethodName) prog_4_method_6_code (2 : Nat) (Option.some Jvm.ClassFile.FieldType.boolean)).before args0 about1 = true := code_word (m := ⟨7, 0⟩) (meth := k7m0) (c := k7c0) (by decide +kernel) rfl rfl rfl (by decide +kernel)
def codes1 : List Jvm.Cond := [Jvm.Cond.code x code maxLocals ret, Jvm.Cond.code ({ cls := "com/example/clearingd/clearingd/binary/Command", name := "takes", desc := "(I)Z" } : Jvm.MethodName) prog_4_method_6_code (2 : Nat) (Option.some Jvm.ClassFile.FieldType.boolean)]
set_option maxRecDepth 65536 in
theorem codes_eq : words1.filter isCode = codes1 := rfl
theorem w_codes : ∀ c ∈ words1.filter isCode, c.before args0 about1 = true := by
  rw [codes_eq]
  intro c hc
  simp only [codes1, List.mem_cons, List.not_mem_nil, or_false] at hc
  rcases hc with rfl | rfl
  · exact w_c0
  · exact w_c1
set_option maxRecDepth 65536 in
theorem w_t1 : words1.all (fun c => isCode c || c.before args0 about1) = true := by decide +kernel
theorem w_tables : (allAtoms (Jvm.Cond.code x code maxLocals ret :: tables_1)).before args0 about1 = true := by
  rw [allAtoms_all]
  show words1.all (fun c => c.before args0 about1) = true
  refine all_split ?_ w_codes
  rw [w_t1]
set_option maxRecDepth 65536 in
theorem w_case : (Jvm.Cond.and given_1 narrow_1).before args0 about1 = true := by decide +kernel
theorem w_applies : (headSpec (Jvm.Cond.code x code maxLocals ret :: tables_1) room_1).applies x e0.platform about1 = true :=
  (Spec.applies_iff w_frames).mpr ⟨w_running, w_runnable, w_alone, w_named, w_hears, w_ripe, w_room, w_tables⟩
theorem atStart : AtStart classFile x code maxLocals ret World_1 tables_1 room_1 Calls_1 rest_1 Pre_1 launch0 p0 e0 about1 theMethod args0 below0 :=
  ⟨lists_1, trivial, launch0.admits_env _ _ _, launch0.least_env, fairChoices_fair.cas, fairChoices_fair.clock, w_frames, w_args, w_heap, w_applies, trivial, trivial, w_case⟩
end start1
theorem witness_1 : WitnessClaimed_1 := ⟨start1.p0, start1.e0, start1.about1, start1.theMethod, start1.args0, start1.below0, start1.atStart⟩
end Jvm.Pilot.@@N@@
